import PyProof.Rows.All
import Wide.All
import OpenK.AllK
import Wide.FinOn
import Lean
import PySem.Challenge.RW_st0025_01
open PySem PySem.W PySem.Calls PyProof.Rows
set_option Elab.async false
namespace Mine


structure Box where
def Box.Holds (_ : Box) : Prop := PySem.Challenge.rw_st0025_01.row.Holds → PySem.Challenge.rw_st0025_01.row.Holds
local macro_rules | `(tactic| w_on) => `(tactic| (unfold Box.Holds; intro _))
local macro_rules | `(tactic| o_head $_:term) => `(tactic| (refine (fun (_ : True) (_ : True) => (by assumption)) ?hw ?hc))
local macro_rules | `(tactic| w_witness2) => `(tactic| trivial)
open_top hd for (Box.mk)

end Mine
namespace Mine


/-- the text's top without its three rows «__name__ = ..» -/
noncomputable def vw : Program := view PySem.Challenge.pw_st0025_01 ((List.range 62).filter fun i => i != 1 && i != 3 && i != 54)
noncomputable def hk : Hook := kHook hd.heap_1 [2, 3, 6, 15, 17, 18, 20, 21, 22, 24, 25, 27, 28, 39, 41, 42, 44, 45, 46, 48, 49, 51, 52, 53, 55, 56, 58, 59, 60, 62, 63, 65, 66, 67, 69, 70, 72, 73, 74, 76, 77, 79, 80, 81, 83, 84, 86, 87, 88, 89, 90, 91, 92, 95, 98, 100, 101, 103,
  104, 105, 107, 108, 110, 111, 112, 115, 116, 117, 119, 120, 122, 123, 124, 126, 127, 129, 130, 131, 134, 135, 136, 139, 140] (fun _ => by kernel_rfl)
def loose : List Str := [Str.ofString "Whitespace", Str.ofString "EXACT_TOKEN_TYPES"]
noncomputable def xt : Shared → Bool := fun s => xlAt vw [] s && recOk (RowW.records PySem.Challenge.rw_st0025_01.row.toRowW) s
/-- an object of the heap that is written out -/
noncomputable def hIt (P : Params) (k : Nat) : Obj := match (hd.heap_1 P).drop k with | (_, o) :: _ => o | [] => boot_o_0 P
noncomputable def hFd (P : Params) (k : Nat) : FuncData := match (hIt P k).data with | .func f => f | _ => default
noncomputable def hOthers (P : Params) : List Obj := [
  { cls := Value.type "tuple", data := Data.seq #[] },
  { cls := Value.none, data := Data.fields #[] },
  { cls := Value.type "code", data := Data.fields #[Value.str (Str.ofString "<module>") 182, Value.str (Str.ofString "<module>") 183, Value.str (Str.ofString "/claim/cut.py") 184, Value.int 1 0, Value.int 0 0, Value.int 0 0, Value.int 0 0, Value.int 0 0, Value.ref 11, Value.bool false, Value.int 181 0, Value.ref 12, Value.none, Value.none, Value.none, Value.none, Value.int 185 0, Value.int 1 0, Value.str (Str.ofString "/claim/cut.py") 186] },
  { cls := Value.type "frame", slots := #[some (Value.ref 13), some (Value.ref 3), some (Value.ref 3), none, some (Value.str (Str.ofString "__main__") 164), none, some (Value.ref 0)] },
  { cls := Value.type "dict", data := Data.dict #[{ hash := PyData.keyHash P (Str.ofString "__name__"), key := Value.str (Str.ofString "__name__") 165, val := Value.str (Str.ofString "cpy313.tabnanny") 204 }, { hash := PyData.keyHash P (Str.ofString "__doc__"), key := Value.str (Str.ofString "__doc__") 166, val := Value.none }, { hash := PyData.keyHash P (Str.ofString "__package__"), key := Value.str (Str.ofString "__package__") 167, val := Value.none }, { hash := PyData.keyHash P (Str.ofString "__loader__"), key := Value.str (Str.ofString "__loader__") 168, val := Value.builtin "__main__.__loader__#opaque" }, { hash := PyData.keyHash P (Str.ofString "__spec__"), key := Value.str (Str.ofString "__spec__") 169, val := Value.none }, { hash := PyData.keyHash P (Str.ofString "__annotations__"), key := Value.str (Str.ofString "__annotations__") 170, val := Value.ref 6 }, { hash := PyData.keyHash P (Str.ofString "__builtins__"), key := Value.str (Str.ofString "__builtins__") 171, val := Value.ref 4 }, { hash := PyData.keyHash P (Str.ofString "__file__"), key := Value.str (Str.ofString "__file__") 173, val := Value.str (Str.ofString "/claim/cut.py") 172 }, { hash := PyData.keyHash P (Str.ofString "__cached__"), key := Value.str (Str.ofString "__cached__") 174, val := Value.none }, { hash := PyData.keyHash P (Str.ofString "_wall"), key := Value.str (Str.ofString "_wall") 193, val := Value.ref 21 }, { hash := PyData.keyHash P (Str.ofString "_strcoll"), key := Value.str (Str.ofString "_strcoll") 203, val := Value.ref 28 }, { hash := PyData.keyHash P (Str.ofString "Whitespace"), key := Value.str (Str.ofString "Whitespace") 305, val := Value.ref 90 }] 12 },
  { cls := Value.none, data := Data.fields #[Value.int 1 0, Value.int 0 0, Value.ref 20, Value.int 5 0, Value.int 0 0, Value.ref 27, Value.int 8 0, Value.int 0 0, Value.ref 34] },
  { cls := Value.none, data := Data.func { name := (hFd P 7).name, qualname := (hFd P 7).qualname, params := (hFd P 7).params, body := (hFd P 7).body, scope := (hFd P 7).scope, globals := 0, closure := [], defaults := Value.none, kwdefaults := Value.none } },
  { cls := Value.none, data := Data.func { name := (hFd P 12).name, qualname := (hFd P 12).qualname, params := (hFd P 12).params, body := (hFd P 12).body, scope := (hFd P 12).scope, globals := 0, closure := [], defaults := Value.none, kwdefaults := Value.none } },
  { cls := Value.type "builtin_function_or_method", data := Data.fields #[Value.builtin "type.__prepare__", Value.type "type"] },
  { cls := Value.type "dict", data := Data.dict #[{ hash := PyData.keyHash P (Str.ofString "__module__"), key := Value.str (Str.ofString "__module__") 213, val := Value.str (Str.ofString "cpy313.tabnanny") 204 }, { hash := PyData.keyHash P (Str.ofString "__qualname__"), key := Value.str (Str.ofString "__qualname__") 215, val := Value.str (Str.ofString "Whitespace") 214 }, { hash := PyData.keyHash P (Str.ofString "__firstlineno__"), key := Value.str (Str.ofString "__firstlineno__") 217, val := Value.int 8 216 }, { hash := PyData.keyHash P (Str.ofString "S"), key := Value.str (Str.ofString "S") 221, val := Value.str (Str.ofString " ") 219 }, { hash := PyData.keyHash P (Str.ofString "T"), key := Value.str (Str.ofString "T") 222, val := Value.str (Str.ofString "\t") 220 }, { hash := PyData.keyHash P (Str.ofString "__init__"), key := Value.str (Str.ofString "__init__") 237, val := Value.ref 45 }, { hash := PyData.keyHash P (Str.ofString "longest_run_of_spaces"), key := Value.str (Str.ofString "longest_run_of_spaces") 246, val := Value.ref 52 }, { hash := PyData.keyHash P (Str.ofString "indent_level"), key := Value.str (Str.ofString "indent_level") 258, val := Value.ref 59 }, { hash := PyData.keyHash P (Str.ofString "equal"), key := Value.str (Str.ofString "equal") 266, val := Value.ref 66 }, { hash := PyData.keyHash P (Str.ofString "not_equal_witness"), key := Value.str (Str.ofString "not_equal_witness") 274, val := Value.ref 73 }, { hash := PyData.keyHash P (Str.ofString "less"), key := Value.str (Str.ofString "less") 284, val := Value.ref 80 }, { hash := PyData.keyHash P (Str.ofString "not_less_witness"), key := Value.str (Str.ofString "not_less_witness") 292, val := Value.ref 87 }, { hash := PyData.keyHash P (Str.ofString "__static_attributes__"), key := Value.str (Str.ofString "__static_attributes__") 298, val := Value.ref 88 }] 13 },
  { cls := Value.none, data := Data.fields #[Value.int 11 0, Value.int 4 0, Value.ref 44, Value.int 34 0, Value.int 4 0, Value.ref 51, Value.int 38 0, Value.int 4 0, Value.ref 58, Value.int 45 0, Value.int 4 0, Value.ref 65, Value.int 48 0, Value.int 4 0, Value.ref 72, Value.int 51 0, Value.int 4 0, Value.ref 79, Value.int 62 0, Value.int 4 0, Value.ref 86] },
  { cls := Value.type "code", data := Data.fields #[Value.str (Str.ofString "Whitespace") 208, Value.str (Str.ofString "Whitespace") 209, Value.str (Str.ofString "/claim/cut.py") 210, Value.int 8 0, Value.int 0 0, Value.int 0 0, Value.int 0 0, Value.int 0 0, Value.ref 32, Value.bool false, Value.int 181 0, Value.ref 33, Value.none, Value.none, Value.none, Value.none, Value.int 211 0, Value.int 8 0, Value.str (Str.ofString "/claim/cut.py") 212] },
  { cls := Value.type "frame", slots := #[some (Value.ref 34), some (Value.ref 3), some (Value.ref 31), none, some (Value.str (Str.ofString "cpy313.tabnanny") 204), none, some (Value.ref 0)] },
  { cls := Value.type "str_ascii_iterator", data := Data.fields #[Value.none, Value.int 2 0] },
  { cls := Value.type "StopIteration", data := Data.fields #[Value.ref 37, Value.none, Value.none, Value.none, Value.bool false, Value.none] },
  { cls := Value.none, data := Data.func { name := (hFd P 17).name, qualname := (hFd P 17).qualname, params := (hFd P 17).params, body := (hFd P 17).body, scope := (hFd P 17).scope, globals := 0, closure := [], defaults := Value.none, kwdefaults := Value.none } },
  { cls := Value.none, data := Data.func { name := (hFd P 22).name, qualname := (hFd P 22).qualname, params := (hFd P 22).params, body := (hFd P 22).body, scope := (hFd P 22).scope, globals := 0, closure := [], defaults := Value.none, kwdefaults := Value.none } },
  { cls := Value.none, data := Data.func { name := (hFd P 27).name, qualname := (hFd P 27).qualname, params := (hFd P 27).params, body := (hFd P 27).body, scope := (hFd P 27).scope, globals := 0, closure := [], defaults := Value.none, kwdefaults := Value.none } },
  { cls := Value.none, data := Data.func { name := (hFd P 32).name, qualname := (hFd P 32).qualname, params := (hFd P 32).params, body := (hFd P 32).body, scope := (hFd P 32).scope, globals := 0, closure := [], defaults := Value.none, kwdefaults := Value.none } },
  { cls := Value.none, data := Data.func { name := (hFd P 37).name, qualname := (hFd P 37).qualname, params := (hFd P 37).params, body := (hFd P 37).body, scope := (hFd P 37).scope, globals := 0, closure := [], defaults := Value.none, kwdefaults := Value.none } },
  { cls := Value.none, data := Data.func { name := (hFd P 42).name, qualname := (hFd P 42).qualname, params := (hFd P 42).params, body := (hFd P 42).body, scope := (hFd P 42).scope, globals := 0, closure := [], defaults := Value.none, kwdefaults := Value.none } },
  { cls := Value.none, data := Data.func { name := (hFd P 47).name, qualname := (hFd P 47).qualname, params := (hFd P 47).params, body := (hFd P 47).body, scope := (hFd P 47).scope, globals := 0, closure := [], defaults := Value.none, kwdefaults := Value.none } },
  { cls := Value.type "super", data := Data.fields #[Value.ref 90, Value.ref 90, Value.ref 90] },
  { cls := Value.type "builtin_function_or_method", data := Data.fields #[Value.builtin "object.__init_subclass__", Value.ref 90] },
  { cls := Value.type "dict", data := Data.dict #[{ hash := PyData.keyHash P (Str.ofString "__name__"), key := Value.str (Str.ofString "__name__") 165, val := Value.str (Str.ofString "cpy313.tabnanny") 204 }, { hash := PyData.keyHash P (Str.ofString "__doc__"), key := Value.str (Str.ofString "__doc__") 166, val := Value.none }, { hash := PyData.keyHash P (Str.ofString "__package__"), key := Value.str (Str.ofString "__package__") 167, val := Value.none }, { hash := PyData.keyHash P (Str.ofString "__loader__"), key := Value.str (Str.ofString "__loader__") 168, val := Value.builtin "__main__.__loader__#opaque" }, { hash := PyData.keyHash P (Str.ofString "__spec__"), key := Value.str (Str.ofString "__spec__") 169, val := Value.none }, { hash := PyData.keyHash P (Str.ofString "__annotations__"), key := Value.str (Str.ofString "__annotations__") 170, val := Value.ref 6 }, { hash := PyData.keyHash P (Str.ofString "__builtins__"), key := Value.str (Str.ofString "__builtins__") 171, val := Value.ref 4 }, { hash := PyData.keyHash P (Str.ofString "__file__"), key := Value.str (Str.ofString "__file__") 173, val := Value.str (Str.ofString "/claim/cut.py") 172 }, { hash := PyData.keyHash P (Str.ofString "__cached__"), key := Value.str (Str.ofString "__cached__") 174, val := Value.none }, { hash := PyData.keyHash P (Str.ofString "_wall"), key := Value.str (Str.ofString "_wall") 193, val := Value.ref 21 }, { hash := PyData.keyHash P (Str.ofString "_strcoll"), key := Value.str (Str.ofString "_strcoll") 203, val := Value.ref 28 }, { hash := PyData.keyHash P (Str.ofString "Whitespace"), key := Value.str (Str.ofString "Whitespace") 305, val := Value.ref 90 }, { hash := PyData.keyHash P (Str.ofString "LPAR"), key := Value.str (Str.ofString "LPAR") 307, val := Value.int 7 306 }, { hash := PyData.keyHash P (Str.ofString "RPAR"), key := Value.str (Str.ofString "RPAR") 309, val := Value.int 8 308 }, { hash := PyData.keyHash P (Str.ofString "LSQB"), key := Value.str (Str.ofString "LSQB") 311, val := Value.int 9 310 }, { hash := PyData.keyHash P (Str.ofString "RSQB"), key := Value.str (Str.ofString "RSQB") 313, val := Value.int 10 312 }, { hash := PyData.keyHash P (Str.ofString "COLON"), key := Value.str (Str.ofString "COLON") 315, val := Value.int 11 314 }, { hash := PyData.keyHash P (Str.ofString "COMMA"), key := Value.str (Str.ofString "COMMA") 317, val := Value.int 12 316 }, { hash := PyData.keyHash P (Str.ofString "SEMI"), key := Value.str (Str.ofString "SEMI") 319, val := Value.int 13 318 }, { hash := PyData.keyHash P (Str.ofString "PLUS"), key := Value.str (Str.ofString "PLUS") 321, val := Value.int 14 320 }, { hash := PyData.keyHash P (Str.ofString "MINUS"), key := Value.str (Str.ofString "MINUS") 323, val := Value.int 15 322 }, { hash := PyData.keyHash P (Str.ofString "STAR"), key := Value.str (Str.ofString "STAR") 325, val := Value.int 16 324 }, { hash := PyData.keyHash P (Str.ofString "SLASH"), key := Value.str (Str.ofString "SLASH") 327, val := Value.int 17 326 }, { hash := PyData.keyHash P (Str.ofString "VBAR"), key := Value.str (Str.ofString "VBAR") 329, val := Value.int 18 328 }, { hash := PyData.keyHash P (Str.ofString "AMPER"), key := Value.str (Str.ofString "AMPER") 331, val := Value.int 19 330 }, { hash := PyData.keyHash P (Str.ofString "LESS"), key := Value.str (Str.ofString "LESS") 333, val := Value.int 20 332 }, { hash := PyData.keyHash P (Str.ofString "GREATER"), key := Value.str (Str.ofString "GREATER") 335, val := Value.int 21 334 }, { hash := PyData.keyHash P (Str.ofString "EQUAL"), key := Value.str (Str.ofString "EQUAL") 337, val := Value.int 22 336 }, { hash := PyData.keyHash P (Str.ofString "DOT"), key := Value.str (Str.ofString "DOT") 339, val := Value.int 23 338 }, { hash := PyData.keyHash P (Str.ofString "PERCENT"), key := Value.str (Str.ofString "PERCENT") 341, val := Value.int 24 340 }, { hash := PyData.keyHash P (Str.ofString "LBRACE"), key := Value.str (Str.ofString "LBRACE") 343, val := Value.int 25 342 }, { hash := PyData.keyHash P (Str.ofString "RBRACE"), key := Value.str (Str.ofString "RBRACE") 345, val := Value.int 26 344 }, { hash := PyData.keyHash P (Str.ofString "EQEQUAL"), key := Value.str (Str.ofString "EQEQUAL") 347, val := Value.int 27 346 }, { hash := PyData.keyHash P (Str.ofString "NOTEQUAL"), key := Value.str (Str.ofString "NOTEQUAL") 349, val := Value.int 28 348 }, { hash := PyData.keyHash P (Str.ofString "LESSEQUAL"), key := Value.str (Str.ofString "LESSEQUAL") 351, val := Value.int 29 350 }, { hash := PyData.keyHash P (Str.ofString "GREATEREQUAL"), key := Value.str (Str.ofString "GREATEREQUAL") 353, val := Value.int 30 352 }, { hash := PyData.keyHash P (Str.ofString "TILDE"), key := Value.str (Str.ofString "TILDE") 355, val := Value.int 31 354 }, { hash := PyData.keyHash P (Str.ofString "CIRCUMFLEX"), key := Value.str (Str.ofString "CIRCUMFLEX") 357, val := Value.int 32 356 }, { hash := PyData.keyHash P (Str.ofString "LEFTSHIFT"), key := Value.str (Str.ofString "LEFTSHIFT") 359, val := Value.int 33 358 }, { hash := PyData.keyHash P (Str.ofString "RIGHTSHIFT"), key := Value.str (Str.ofString "RIGHTSHIFT") 361, val := Value.int 34 360 }, { hash := PyData.keyHash P (Str.ofString "DOUBLESTAR"), key := Value.str (Str.ofString "DOUBLESTAR") 363, val := Value.int 35 362 }, { hash := PyData.keyHash P (Str.ofString "PLUSEQUAL"), key := Value.str (Str.ofString "PLUSEQUAL") 365, val := Value.int 36 364 }, { hash := PyData.keyHash P (Str.ofString "MINEQUAL"), key := Value.str (Str.ofString "MINEQUAL") 367, val := Value.int 37 366 }, { hash := PyData.keyHash P (Str.ofString "STAREQUAL"), key := Value.str (Str.ofString "STAREQUAL") 369, val := Value.int 38 368 }, { hash := PyData.keyHash P (Str.ofString "SLASHEQUAL"), key := Value.str (Str.ofString "SLASHEQUAL") 371, val := Value.int 39 370 }, { hash := PyData.keyHash P (Str.ofString "PERCENTEQUAL"), key := Value.str (Str.ofString "PERCENTEQUAL") 373, val := Value.int 40 372 }, { hash := PyData.keyHash P (Str.ofString "AMPEREQUAL"), key := Value.str (Str.ofString "AMPEREQUAL") 375, val := Value.int 41 374 }, { hash := PyData.keyHash P (Str.ofString "VBAREQUAL"), key := Value.str (Str.ofString "VBAREQUAL") 377, val := Value.int 42 376 }, { hash := PyData.keyHash P (Str.ofString "CIRCUMFLEXEQUAL"), key := Value.str (Str.ofString "CIRCUMFLEXEQUAL") 379, val := Value.int 43 378 }, { hash := PyData.keyHash P (Str.ofString "LEFTSHIFTEQUAL"), key := Value.str (Str.ofString "LEFTSHIFTEQUAL") 381, val := Value.int 44 380 }, { hash := PyData.keyHash P (Str.ofString "RIGHTSHIFTEQUAL"), key := Value.str (Str.ofString "RIGHTSHIFTEQUAL") 383, val := Value.int 45 382 }, { hash := PyData.keyHash P (Str.ofString "DOUBLESTAREQUAL"), key := Value.str (Str.ofString "DOUBLESTAREQUAL") 385, val := Value.int 46 384 }, { hash := PyData.keyHash P (Str.ofString "DOUBLESLASH"), key := Value.str (Str.ofString "DOUBLESLASH") 387, val := Value.int 47 386 }, { hash := PyData.keyHash P (Str.ofString "DOUBLESLASHEQUAL"), key := Value.str (Str.ofString "DOUBLESLASHEQUAL") 389, val := Value.int 48 388 }, { hash := PyData.keyHash P (Str.ofString "AT"), key := Value.str (Str.ofString "AT") 391, val := Value.int 49 390 }, { hash := PyData.keyHash P (Str.ofString "ATEQUAL"), key := Value.str (Str.ofString "ATEQUAL") 393, val := Value.int 50 392 }, { hash := PyData.keyHash P (Str.ofString "RARROW"), key := Value.str (Str.ofString "RARROW") 395, val := Value.int 51 394 }, { hash := PyData.keyHash P (Str.ofString "ELLIPSIS"), key := Value.str (Str.ofString "ELLIPSIS") 397, val := Value.int 52 396 }, { hash := PyData.keyHash P (Str.ofString "COLONEQUAL"), key := Value.str (Str.ofString "COLONEQUAL") 399, val := Value.int 53 398 }, { hash := PyData.keyHash P (Str.ofString "EXCLAMATION"), key := Value.str (Str.ofString "EXCLAMATION") 401, val := Value.int 54 400 }] 60 },
  { cls := Value.type "dict", data := Data.dict #[{ hash := PyData.keyHash P (Str.ofString "__name__"), key := Value.str (Str.ofString "__name__") 165, val := Value.str (Str.ofString "cpy313.tabnanny") 204 }, { hash := PyData.keyHash P (Str.ofString "__doc__"), key := Value.str (Str.ofString "__doc__") 166, val := Value.none }, { hash := PyData.keyHash P (Str.ofString "__package__"), key := Value.str (Str.ofString "__package__") 167, val := Value.none }, { hash := PyData.keyHash P (Str.ofString "__loader__"), key := Value.str (Str.ofString "__loader__") 168, val := Value.builtin "__main__.__loader__#opaque" }, { hash := PyData.keyHash P (Str.ofString "__spec__"), key := Value.str (Str.ofString "__spec__") 169, val := Value.none }, { hash := PyData.keyHash P (Str.ofString "__annotations__"), key := Value.str (Str.ofString "__annotations__") 170, val := Value.ref 6 }, { hash := PyData.keyHash P (Str.ofString "__builtins__"), key := Value.str (Str.ofString "__builtins__") 171, val := Value.ref 4 }, { hash := PyData.keyHash P (Str.ofString "__file__"), key := Value.str (Str.ofString "__file__") 173, val := Value.str (Str.ofString "/claim/cut.py") 172 }, { hash := PyData.keyHash P (Str.ofString "__cached__"), key := Value.str (Str.ofString "__cached__") 174, val := Value.none }, { hash := PyData.keyHash P (Str.ofString "_wall"), key := Value.str (Str.ofString "_wall") 193, val := Value.ref 21 }, { hash := PyData.keyHash P (Str.ofString "_strcoll"), key := Value.str (Str.ofString "_strcoll") 203, val := Value.ref 28 }, { hash := PyData.keyHash P (Str.ofString "Whitespace"), key := Value.str (Str.ofString "Whitespace") 305, val := Value.ref 90 }, { hash := PyData.keyHash P (Str.ofString "LPAR"), key := Value.str (Str.ofString "LPAR") 307, val := Value.int 7 306 }, { hash := PyData.keyHash P (Str.ofString "RPAR"), key := Value.str (Str.ofString "RPAR") 309, val := Value.int 8 308 }, { hash := PyData.keyHash P (Str.ofString "LSQB"), key := Value.str (Str.ofString "LSQB") 311, val := Value.int 9 310 }, { hash := PyData.keyHash P (Str.ofString "RSQB"), key := Value.str (Str.ofString "RSQB") 313, val := Value.int 10 312 }, { hash := PyData.keyHash P (Str.ofString "COLON"), key := Value.str (Str.ofString "COLON") 315, val := Value.int 11 314 }, { hash := PyData.keyHash P (Str.ofString "COMMA"), key := Value.str (Str.ofString "COMMA") 317, val := Value.int 12 316 }, { hash := PyData.keyHash P (Str.ofString "SEMI"), key := Value.str (Str.ofString "SEMI") 319, val := Value.int 13 318 }, { hash := PyData.keyHash P (Str.ofString "PLUS"), key := Value.str (Str.ofString "PLUS") 321, val := Value.int 14 320 }, { hash := PyData.keyHash P (Str.ofString "MINUS"), key := Value.str (Str.ofString "MINUS") 323, val := Value.int 15 322 }, { hash := PyData.keyHash P (Str.ofString "STAR"), key := Value.str (Str.ofString "STAR") 325, val := Value.int 16 324 }, { hash := PyData.keyHash P (Str.ofString "SLASH"), key := Value.str (Str.ofString "SLASH") 327, val := Value.int 17 326 }, { hash := PyData.keyHash P (Str.ofString "VBAR"), key := Value.str (Str.ofString "VBAR") 329, val := Value.int 18 328 }, { hash := PyData.keyHash P (Str.ofString "AMPER"), key := Value.str (Str.ofString "AMPER") 331, val := Value.int 19 330 }, { hash := PyData.keyHash P (Str.ofString "LESS"), key := Value.str (Str.ofString "LESS") 333, val := Value.int 20 332 }, { hash := PyData.keyHash P (Str.ofString "GREATER"), key := Value.str (Str.ofString "GREATER") 335, val := Value.int 21 334 }, { hash := PyData.keyHash P (Str.ofString "EQUAL"), key := Value.str (Str.ofString "EQUAL") 337, val := Value.int 22 336 }, { hash := PyData.keyHash P (Str.ofString "DOT"), key := Value.str (Str.ofString "DOT") 339, val := Value.int 23 338 }, { hash := PyData.keyHash P (Str.ofString "PERCENT"), key := Value.str (Str.ofString "PERCENT") 341, val := Value.int 24 340 }, { hash := PyData.keyHash P (Str.ofString "LBRACE"), key := Value.str (Str.ofString "LBRACE") 343, val := Value.int 25 342 }, { hash := PyData.keyHash P (Str.ofString "RBRACE"), key := Value.str (Str.ofString "RBRACE") 345, val := Value.int 26 344 }, { hash := PyData.keyHash P (Str.ofString "EQEQUAL"), key := Value.str (Str.ofString "EQEQUAL") 347, val := Value.int 27 346 }, { hash := PyData.keyHash P (Str.ofString "NOTEQUAL"), key := Value.str (Str.ofString "NOTEQUAL") 349, val := Value.int 28 348 }, { hash := PyData.keyHash P (Str.ofString "LESSEQUAL"), key := Value.str (Str.ofString "LESSEQUAL") 351, val := Value.int 29 350 }, { hash := PyData.keyHash P (Str.ofString "GREATEREQUAL"), key := Value.str (Str.ofString "GREATEREQUAL") 353, val := Value.int 30 352 }, { hash := PyData.keyHash P (Str.ofString "TILDE"), key := Value.str (Str.ofString "TILDE") 355, val := Value.int 31 354 }, { hash := PyData.keyHash P (Str.ofString "CIRCUMFLEX"), key := Value.str (Str.ofString "CIRCUMFLEX") 357, val := Value.int 32 356 }, { hash := PyData.keyHash P (Str.ofString "LEFTSHIFT"), key := Value.str (Str.ofString "LEFTSHIFT") 359, val := Value.int 33 358 }, { hash := PyData.keyHash P (Str.ofString "RIGHTSHIFT"), key := Value.str (Str.ofString "RIGHTSHIFT") 361, val := Value.int 34 360 }, { hash := PyData.keyHash P (Str.ofString "DOUBLESTAR"), key := Value.str (Str.ofString "DOUBLESTAR") 363, val := Value.int 35 362 }, { hash := PyData.keyHash P (Str.ofString "PLUSEQUAL"), key := Value.str (Str.ofString "PLUSEQUAL") 365, val := Value.int 36 364 }, { hash := PyData.keyHash P (Str.ofString "MINEQUAL"), key := Value.str (Str.ofString "MINEQUAL") 367, val := Value.int 37 366 }, { hash := PyData.keyHash P (Str.ofString "STAREQUAL"), key := Value.str (Str.ofString "STAREQUAL") 369, val := Value.int 38 368 }, { hash := PyData.keyHash P (Str.ofString "SLASHEQUAL"), key := Value.str (Str.ofString "SLASHEQUAL") 371, val := Value.int 39 370 }, { hash := PyData.keyHash P (Str.ofString "PERCENTEQUAL"), key := Value.str (Str.ofString "PERCENTEQUAL") 373, val := Value.int 40 372 }, { hash := PyData.keyHash P (Str.ofString "AMPEREQUAL"), key := Value.str (Str.ofString "AMPEREQUAL") 375, val := Value.int 41 374 }, { hash := PyData.keyHash P (Str.ofString "VBAREQUAL"), key := Value.str (Str.ofString "VBAREQUAL") 377, val := Value.int 42 376 }, { hash := PyData.keyHash P (Str.ofString "CIRCUMFLEXEQUAL"), key := Value.str (Str.ofString "CIRCUMFLEXEQUAL") 379, val := Value.int 43 378 }, { hash := PyData.keyHash P (Str.ofString "LEFTSHIFTEQUAL"), key := Value.str (Str.ofString "LEFTSHIFTEQUAL") 381, val := Value.int 44 380 }, { hash := PyData.keyHash P (Str.ofString "RIGHTSHIFTEQUAL"), key := Value.str (Str.ofString "RIGHTSHIFTEQUAL") 383, val := Value.int 45 382 }, { hash := PyData.keyHash P (Str.ofString "DOUBLESTAREQUAL"), key := Value.str (Str.ofString "DOUBLESTAREQUAL") 385, val := Value.int 46 384 }, { hash := PyData.keyHash P (Str.ofString "DOUBLESLASH"), key := Value.str (Str.ofString "DOUBLESLASH") 387, val := Value.int 47 386 }, { hash := PyData.keyHash P (Str.ofString "DOUBLESLASHEQUAL"), key := Value.str (Str.ofString "DOUBLESLASHEQUAL") 389, val := Value.int 48 388 }, { hash := PyData.keyHash P (Str.ofString "AT"), key := Value.str (Str.ofString "AT") 391, val := Value.int 49 390 }, { hash := PyData.keyHash P (Str.ofString "ATEQUAL"), key := Value.str (Str.ofString "ATEQUAL") 393, val := Value.int 50 392 }, { hash := PyData.keyHash P (Str.ofString "RARROW"), key := Value.str (Str.ofString "RARROW") 395, val := Value.int 51 394 }, { hash := PyData.keyHash P (Str.ofString "ELLIPSIS"), key := Value.str (Str.ofString "ELLIPSIS") 397, val := Value.int 52 396 }, { hash := PyData.keyHash P (Str.ofString "COLONEQUAL"), key := Value.str (Str.ofString "COLONEQUAL") 399, val := Value.int 53 398 }, { hash := PyData.keyHash P (Str.ofString "EXCLAMATION"), key := Value.str (Str.ofString "EXCLAMATION") 401, val := Value.int 54 400 }, { hash := PyData.keyHash P (Str.ofString "EXACT_TOKEN_TYPES"), key := Value.str (Str.ofString "EXACT_TOKEN_TYPES") 498, val := Value.ref 95 }] 61 },
  { cls := Value.type "dict", data := Data.dict #[{ hash := PyData.keyHash P (Str.ofString "->"), key := Value.str (Str.ofString "->") 436, val := Value.int 51 394 }, { hash := PyData.keyHash P (Str.ofString "."), key := Value.str (Str.ofString ".") 438, val := Value.int 23 338 }, { hash := PyData.keyHash P (Str.ofString "..."), key := Value.str (Str.ofString "...") 440, val := Value.int 52 396 }, { hash := PyData.keyHash P (Str.ofString "/"), key := Value.str (Str.ofString "/") 442, val := Value.int 17 326 }, { hash := PyData.keyHash P (Str.ofString "//"), key := Value.str (Str.ofString "//") 444, val := Value.int 47 386 }, { hash := PyData.keyHash P (Str.ofString "//="), key := Value.str (Str.ofString "//=") 446, val := Value.int 48 388 }, { hash := PyData.keyHash P (Str.ofString "/="), key := Value.str (Str.ofString "/=") 448, val := Value.int 39 370 }, { hash := PyData.keyHash P (Str.ofString ":"), key := Value.str (Str.ofString ":") 450, val := Value.int 11 314 }, { hash := PyData.keyHash P (Str.ofString ":="), key := Value.str (Str.ofString ":=") 452, val := Value.int 53 398 }, { hash := PyData.keyHash P (Str.ofString ";"), key := Value.str (Str.ofString ";") 454, val := Value.int 13 318 }, { hash := PyData.keyHash P (Str.ofString "<"), key := Value.str (Str.ofString "<") 456, val := Value.int 20 332 }, { hash := PyData.keyHash P (Str.ofString "<<"), key := Value.str (Str.ofString "<<") 458, val := Value.int 33 358 }, { hash := PyData.keyHash P (Str.ofString "<<="), key := Value.str (Str.ofString "<<=") 460, val := Value.int 44 380 }, { hash := PyData.keyHash P (Str.ofString "<="), key := Value.str (Str.ofString "<=") 462, val := Value.int 29 350 }, { hash := PyData.keyHash P (Str.ofString "="), key := Value.str (Str.ofString "=") 464, val := Value.int 22 336 }, { hash := PyData.keyHash P (Str.ofString "=="), key := Value.str (Str.ofString "==") 466, val := Value.int 27 346 }, { hash := PyData.keyHash P (Str.ofString ">"), key := Value.str (Str.ofString ">") 468, val := Value.int 21 334 }] 17 },
  { cls := Value.type "dict", data := Data.dict #[{ hash := PyData.keyHash P (Str.ofString ">="), key := Value.str (Str.ofString ">=") 470, val := Value.int 30 352 }, { hash := PyData.keyHash P (Str.ofString ">>"), key := Value.str (Str.ofString ">>") 471, val := Value.int 34 360 }, { hash := PyData.keyHash P (Str.ofString ">>="), key := Value.str (Str.ofString ">>=") 472, val := Value.int 45 382 }, { hash := PyData.keyHash P (Str.ofString "@"), key := Value.str (Str.ofString "@") 473, val := Value.int 49 390 }, { hash := PyData.keyHash P (Str.ofString "@="), key := Value.str (Str.ofString "@=") 474, val := Value.int 50 392 }, { hash := PyData.keyHash P (Str.ofString "["), key := Value.str (Str.ofString "[") 475, val := Value.int 9 310 }, { hash := PyData.keyHash P (Str.ofString "]"), key := Value.str (Str.ofString "]") 476, val := Value.int 10 312 }, { hash := PyData.keyHash P (Str.ofString "^"), key := Value.str (Str.ofString "^") 477, val := Value.int 32 356 }, { hash := PyData.keyHash P (Str.ofString "^="), key := Value.str (Str.ofString "^=") 478, val := Value.int 43 378 }, { hash := PyData.keyHash P (Str.ofString "{"), key := Value.str (Str.ofString "{") 479, val := Value.int 25 342 }, { hash := PyData.keyHash P (Str.ofString "|"), key := Value.str (Str.ofString "|") 480, val := Value.int 18 328 }, { hash := PyData.keyHash P (Str.ofString "|="), key := Value.str (Str.ofString "|=") 481, val := Value.int 42 376 }, { hash := PyData.keyHash P (Str.ofString "}"), key := Value.str (Str.ofString "}") 482, val := Value.int 26 344 }, { hash := PyData.keyHash P (Str.ofString "~"), key := Value.str (Str.ofString "~") 483, val := Value.int 31 354 }] 14 }]
noncomputable def hOt (P : Params) (k : Nat) : Obj := match (hOthers P).drop k with | o :: _ => o | [] => boot_o_0 P
noncomputable def hMid0 (P : Params) : Heap := Heap.mk (Array.mk [boot_o_0 P, boot_o_1 P, boot_o_2 P, boot_o_3 P, boot_o_4 P, boot_o_5 P, boot_o_6 P, boot_o_7 P, boot_o_8 P, boot_o_9 P, boot_o_10 P, hOt P 0, hOt P 1, hOt P 2, hOt P 3]) { }
def hPos0 : Pos := { line := 0, col := 0, endLine := 0, endCol := 0 }
noncomputable def hMid1 (P : Params) : Heap := Heap.mk (Array.mk [boot_o_0 P, boot_o_1 P, boot_o_2 P, hOt P 4, boot_o_4 P, boot_o_5 P, boot_o_6 P, boot_o_7 P, boot_o_8 P, boot_o_9 P, boot_o_10 P, hOt P 0, hOt P 5, hOt P 2, hOt P 3, hIt P 3, hOt P 1, hIt P 4, hIt P 5, hOt P 6, hIt P 6, hIt P 7, hIt P 8, hOt P 1, hIt P 9, hIt P 10, hOt P 7, hIt P 11, hIt P 12, hOt P 0, hOt P 8, hOt P 9, hOt P 0, hOt P 10, hOt P 11, hOt P 12, hOt P 13, hOt P 0, hOt P 14, hIt P 13, hOt P 1, hIt P 14, hIt P 15, hOt P 15, hIt P 16, hIt P 17, hIt P 18, hOt P 1, hIt P 19, hIt P 20, hOt P 16, hIt P 21, hIt P 22, hIt P 23, hOt P 1, hIt P 24, hIt P 25, hOt P 17, hIt P 26, hIt P 27, hIt P 28, hOt P 1, hIt P 29, hIt P 30, hOt P 18, hIt P 31, hIt P 32, hIt P 33, hOt P 1, hIt P 34, hIt P 35, hOt P 19, hIt P 36, hIt P 37, hIt P 38, hOt P 1, hIt P 39, hIt P 40, hOt P 20, hIt P 41, hIt P 42, hIt P 43, hOt P 1, hIt P 44, hIt P 45, hOt P 21, hIt P 46, hIt P 47, hIt P 48, hIt P 49, hIt P 50, hIt P 51, hIt P 52, hOt P 22, hOt P 23]) { }
def hPos1 : Pos := { line := 8, col := 0, endLine := 63, endCol := 16 }
noncomputable def hMid2 (P : Params) : Heap := Heap.mk (Array.mk [boot_o_0 P, boot_o_1 P, boot_o_2 P, hOt P 24, boot_o_4 P, boot_o_5 P, boot_o_6 P, boot_o_7 P, boot_o_8 P, boot_o_9 P, boot_o_10 P, hOt P 0, hOt P 5, hOt P 2, hOt P 3, hIt P 3, hOt P 1, hIt P 4, hIt P 5, hOt P 6, hIt P 6, hIt P 7, hIt P 8, hOt P 1, hIt P 9, hIt P 10, hOt P 7, hIt P 11, hIt P 12, hOt P 0, hOt P 8, hOt P 9, hOt P 0, hOt P 10, hOt P 11, hOt P 12, hOt P 13, hOt P 0, hOt P 14, hIt P 13, hOt P 1, hIt P 14, hIt P 15, hOt P 15, hIt P 16, hIt P 17, hIt P 18, hOt P 1, hIt P 19, hIt P 20, hOt P 16, hIt P 21, hIt P 22, hIt P 23, hOt P 1, hIt P 24, hIt P 25, hOt P 17, hIt P 26, hIt P 27, hIt P 28, hOt P 1, hIt P 29, hIt P 30, hOt P 18, hIt P 31, hIt P 32, hIt P 33, hOt P 1, hIt P 34, hIt P 35, hOt P 19, hIt P 36, hIt P 37, hIt P 38, hOt P 1, hIt P 39, hIt P 40, hOt P 20, hIt P 41, hIt P 42, hIt P 43, hOt P 1, hIt P 44, hIt P 45, hOt P 21, hIt P 46, hIt P 47, hIt P 48, hIt P 49, hIt P 50, hIt P 51, hIt P 52, hOt P 22, hOt P 23]) { }
def hPos2 : Pos := { line := 111, col := 0, endLine := 111, endCol := 11 }
noncomputable def hMid3 (P : Params) : Heap := Heap.mk (Array.mk [boot_o_0 P, boot_o_1 P, boot_o_2 P, hOt P 25, boot_o_4 P, boot_o_5 P, boot_o_6 P, boot_o_7 P, boot_o_8 P, boot_o_9 P, boot_o_10 P, hOt P 0, hOt P 5, hOt P 2, hOt P 3, hIt P 3, hOt P 1, hIt P 4, hIt P 5, hOt P 6, hIt P 6, hIt P 7, hIt P 8, hOt P 1, hIt P 9, hIt P 10, hOt P 7, hIt P 11, hIt P 12, hOt P 0, hOt P 8, hOt P 9, hOt P 0, hOt P 10, hOt P 11, hOt P 12, hOt P 13, hOt P 0, hOt P 14, hIt P 13, hOt P 1, hIt P 14, hIt P 15, hOt P 15, hIt P 16, hIt P 17, hIt P 18, hOt P 1, hIt P 19, hIt P 20, hOt P 16, hIt P 21, hIt P 22, hIt P 23, hOt P 1, hIt P 24, hIt P 25, hOt P 17, hIt P 26, hIt P 27, hIt P 28, hOt P 1, hIt P 29, hIt P 30, hOt P 18, hIt P 31, hIt P 32, hIt P 33, hOt P 1, hIt P 34, hIt P 35, hOt P 19, hIt P 36, hIt P 37, hIt P 38, hOt P 1, hIt P 39, hIt P 40, hOt P 20, hIt P 41, hIt P 42, hIt P 43, hOt P 1, hIt P 44, hIt P 45, hOt P 21, hIt P 46, hIt P 47, hIt P 48, hIt P 49, hIt P 50, hIt P 51, hIt P 52, hOt P 22, hOt P 23, hIt P 53, hOt P 26, hOt P 27]) { }
def hPos3 : Pos := { line := 112, col := 0, endLine := 112, endCol := 17 }

noncomputable def hBd : List Stmt := behindTheImports PySem.Challenge.pw_st0025_01
noncomputable def hEnv : Env := { scope := PySem.Challenge.pw_st0025_01.main.scope, locals := mainNs, globals := mainNs, cells := [], code := .ref 13, frame := some 14 }
noncomputable def hCd : Code := .body hBd hEnv
abbrev hFr : Frame := topFrame hPos0
noncomputable def hSts1 : List Stmt := hBd.take 5
noncomputable def hSts2 : List Stmt := (hBd.drop 5).take 48
noncomputable def hSts3 : List Stmt := ((hBd.drop 5).drop 48).take 1
noncomputable def hSts4 : List Stmt := ((hBd.drop 5).drop 48).drop 1
noncomputable def hSh (h : Heap) (k : Nat) (os : OsState) : Shared := ⟨h, Array.mk [], boot_drawn, k, os⟩
def HSeg (w' : World) (N : Nat) (h h' : Heap) (k k' : Nat) (l : List Stmt) (p p' : Pos) : Prop := ∀ os : OsState,
    segRun treeTable PySem.Challenge.pw_st0025_01 w' 11 (some (.ref 6)) 1 N (hSh h k os) (piecesOf l hEnv hCd p [hFr]) = some (.next, hSh h' k' os, hCd, p')
set_option maxRecDepth 100000
set_option maxHeartbeats 8000000
theorem h_pre (w : World) (os : OsState) : topGo treeTable PySem.Challenge.pw_st0025_01 w 11 (some (.ref 6)) 12 (hSh (boot_heap w.params) boot_toks os) (topStub PySem.Challenge.pw_st0025_01) = some (hSh (hMid0 w.params) 187 os, ⟨denote treeTable hCd, hCd, hPos0, [hFr]⟩) := by kernel_rfl
theorem h_block (w : World) (os : OsState) : segRun treeTable PySem.Challenge.pw_st0025_01 w 11 (some (.ref 6)) 1 1 (hSh (hMid0 w.params) 187 os) (blockOf hBd hEnv hCd hPos0 [hFr]) = some (.next, hSh (hMid0 w.params) 187 os, hCd, hPos0) := by kernel_rfl
theorem h_seg1_false (w : World) : HSeg (w.withFollow "special-get-raises" false) 570 (hMid0 w.params) (hMid1 w.params) 187 306 hSts1 hPos0 hPos1 := fun os => by kernel_rfl
theorem h_seg1_true (w : World) : HSeg (w.withFollow "special-get-raises" true) 570 (hMid0 w.params) (hMid1 w.params) 187 306 hSts1 hPos0 hPos1 := fun os => by kernel_rfl
theorem h_seg2 (w : World) : HSeg w 433 (hMid1 w.params) (hMid2 w.params) 306 402 hSts2 hPos1 hPos2 := fun os => by kernel_rfl
theorem h_seg3_false (w : World) : HSeg (w.withFollow "special-get-raises" false) 979 (hMid2 w.params) (hMid3 w.params) 402 499 hSts3 hPos2 hPos3 := fun os => by kernel_rfl
theorem h_seg3_true (w : World) : HSeg (w.withFollow "special-get-raises" true) 979 (hMid2 w.params) (hMid3 w.params) 402 499 hSts3 hPos2 hPos3 := fun os => by kernel_rfl
/-- what the run's end is asked -/
noncomputable def hAsks (P : Params) (s₁ : Shared) : Option Shared := match staticsOk (importedModules PySem.Challenge.pw_st0025_01.main.body) (boot_heap P) s₁.heap && namesBound PySem.Challenge.pw_st0025_01 s₁.heap && gensDone s₁ && laidKept (boot_heap P) s₁.heap with
    | true => some s₁
    | false => none
theorem h_seg4 (w : World) (os : OsState) : ((topRun treeTable PySem.Challenge.pw_st0025_01 w 11 (some (.ref 6)) 2523 (hSh (hMid3 w.params) 499 os) (restOf hSts4 hEnv hCd hPos3 [hFr])).bind (hAsks w.params)).map
    (fun s => (openSeen vw loose (importedModules PySem.Challenge.pw_st0025_01.main.body) xt true s, hk.obs s)) = some (openGood vw loose, hk.val w) := by kernel_rfl
theorem h_both {Φ : World → Prop} (row : String) (h : ∀ w b, w.withFollow row b = w → Φ w) (w : World) : Φ w := h w _ (World.withFollow_self w row)
theorem h_seg1 (w : World) : HSeg w 570 (hMid0 w.params) (hMid1 w.params) 187 306 hSts1 hPos0 hPos1 := h_both "special-get-raises" (fun w b e => by
  have h : HSeg (w.withFollow "special-get-raises" b) 570 (hMid0 w.params) (hMid1 w.params) 187 306 hSts1 hPos0 hPos1 := match b with | false => h_seg1_false w | true => h_seg1_true w
  rwa [e] at h) w
theorem h_seg3 (w : World) : HSeg w 979 (hMid2 w.params) (hMid3 w.params) 402 499 hSts3 hPos2 hPos3 := h_both "special-get-raises" (fun w b e => by
  have h : HSeg (w.withFollow "special-get-raises" b) 979 (hMid2 w.params) (hMid3 w.params) 402 499 hSts3 hPos2 hPos3 := match b with | false => h_seg3_false w | true => h_seg3_true w
  rwa [e] at h) w
theorem h_bd : hBd = hSts1 ++ (hSts2 ++ (hSts3 ++ hSts4)) := by
  unfold hSts1 hSts2 hSts3 hSts4
  rw [List.take_append_drop, List.take_append_drop, List.take_append_drop]
theorem h_top (w : World) (os : OsState) (r : Shared) (h : topRun treeTable PySem.Challenge.pw_st0025_01 w 11 (some (.ref 6)) 2523 (hSh (hMid3 w.params) 499 os) (restOf hSts4 hEnv hCd hPos3 [hFr]) = some r) :
    topRun treeTable PySem.Challenge.pw_st0025_01 w 11 (some (.ref 6)) 4518 (hSh (boot_heap w.params) boot_toks os) (topStub PySem.Challenge.pw_st0025_01) = some r := by
  have k3 := piece_app (h_seg3 w os) h
  have k2 := piece_app (h_seg2 w os) k3
  have k1 := piece_app (h_seg1 w os) k2
  rw [← h_bd] at k1
  have k0 := piece_block (h_block w os) k1
  exact go_top (h_pre w os) k0
theorem h_boot (P : Params) : ((boot_heap P).isNs mainGlobals && (Array.mk ([] : List GenState)).size == 0, (boot_heap P).objs.size, (boot_heap P).nsMap mainGlobals "__annotations__") = (true, 11, some (.ref 6)) := by kernel_rfl
theorem h_ends (w : World) (os : OsState) : (topFrom treeTable PySem.Challenge.pw_st0025_01 w 4518 ⟨boot_heap w.params, Array.mk [], boot_drawn, boot_toks, os⟩).map
    (fun s => (openSeen vw loose (importedModules PySem.Challenge.pw_st0025_01.main.body) xt true s, hk.obs s)) = some (openGood vw loose, hk.val w) := by
  obtain ⟨z1, z2, z3⟩ : _ ∧ _ ∧ _ := by simpa only [Prod.mk.injEq] using h_boot w.params
  have g := h_seg4 w os
  obtain ⟨s, hs, _⟩ := Option.map_eq_some_iff.mp g
  obtain ⟨r, hr, _⟩ := Option.bind_eq_some_iff.mp hs
  have t := h_top w os r hr
  rw [hr] at g
  unfold topFrom
  dsimp only
  rw [z1, z2, z3]
  show ((Option.bind (topRun treeTable PySem.Challenge.pw_st0025_01 w 11 (some (.ref 6)) 4518 (hSh (boot_heap w.params) boot_toks os) (topStub PySem.Challenge.pw_st0025_01)) (hAsks w.params)).map _) = _
  rw [t]
  exact g
theorem left_of {p q : Program} {loose : List Str} {Xt : Shared → Bool} {α : Type} {Yf : Shared → α} {Ya : World → α} {N : Nat} {g0 : Bool}
    (eB : opening p = plainProg p.main.scope.names) (hN : Nat.ble 600 N = true) (f : ∀ s, fenceModules? p s = some s)
    (h1 : ∀ (w : World) (os : OsState), (topFrom treeTable p w N ⟨boot_heap w.params, Array.mk [], boot_drawn, boot_toks, os⟩).map (fun s => (openSeen q loose (importedModules p.main.body) Xt g0 s, Yf s)) = some (openGood q loose, Ya w)) :
    LeftO p q loose Xt Yf Ya N g0 := fun w => by
  obtain ⟨⟨h, gs, d, k, os⟩, a, b⟩ := Option.map_eq_some_iff.mp (boot_open eB hN f w)
  simp only [Prod.mk.injEq] at b
  obtain ⟨rfl, rfl, rfl, rfl⟩ := b
  unfold openEnds
  rw [a]
  exact h1 w os
theorem law_said : PySem.Challenge.rw_st0025_01.wellSaid = true := by kernel_rfl
theorem head_ok : (chainsOk vw && opensWell PySem.Challenge.rw_st0025_01.row.prog && (frees PySem.Challenge.rw_st0025_01.row.toRowW && PySem.Challenge.rw_st0025_01.row.within.isEmpty)) = true := by decide +kernel
theorem tables_ok : PySem.Challenge.rw_st0025_01.row.prog.tablesWhole = true := by decide +kernel
theorem boot1 : opening PySem.Challenge.pw_st0025_01 = plainProg PySem.Challenge.pw_st0025_01.main.scope.names := by kernel_rfl
theorem boot2 (s : Shared) : fenceModules? PySem.Challenge.pw_st0025_01 s = some s := by kernel_rfl
theorem left_all : LeftO PySem.Challenge.pw_st0025_01 vw loose xt hk.obs hk.val 4518 := left_of boot1 rfl boot2 h_ends

end Mine
namespace Mine



abbrev Sub (h h' : Heap) : Prop := ∀ b o, h.get? b = some o → h'.get? b = some o
theorem Sub.rfl' {h : Heap} : Sub h h := fun _ _ e => e
theorem Sub.trans {a b c : Heap} (x : Sub a b) (y : Sub b c) : Sub a c := fun p o e => y p o (x p o e)
theorem Sub.push {a b : Heap} (x : Sub a b) (o : Obj) : Sub a (b.push o) := fun p q e => Heap.get?_push_of_some _ (x p q e)

/-- the names of a frame, by their slots -/
def look : List Str → List (Option Value) → Str → Option Value
  | n :: ns, v :: vs, x => if x = n then v else look ns vs x
  | _, _, _ => none
inductive AtV : List Str → List (Option Value) → Str → Value → Prop where
  | head {x ns v vs} : AtV (x :: ns) (some v :: vs) x v
  | tail {x y ns o v vs} : AtV ns vs x v → AtV (y :: ns) (o :: vs) x v
inductive Put : List Str → List (Option Value) → Str → Value → List (Option Value) → Prop where
  | head {x ns o v vs} : Put (x :: ns) (o :: vs) x v (some v :: vs)
  | tail {x y ns o v vs vs'} : Put ns vs x v vs' → Put (y :: ns) (o :: vs) x v (o :: vs')
theorem AtV.mem {ns vs x v} (h : AtV ns vs x v) : x ∈ ns := by
  induction h with
  | head => exact .head _
  | tail _ ih => exact .tail _ ih
theorem Put.mem {ns vs x v vs'} (h : Put ns vs x v vs') : x ∈ ns := by
  induction h with
  | head => exact .head _
  | tail _ ih => exact .tail _ ih
theorem AtV.look {ns vs x v} (h : AtV ns vs x v) (nd : ns.Nodup) : look ns vs x = some v := by
  induction h with
  | head => simp [Mine.look]
  | @tail x y ns o v vs h ih =>
    have := List.nodup_cons.mp nd
    have hne : x ≠ y := fun e => this.1 (e ▸ h.mem)
    simp only [Mine.look, if_neg hne]; exact ih this.2
theorem Put.look {ns vs x v vs'} (h : Put ns vs x v vs') (nd : ns.Nodup) : look ns vs' = fun y => if y = x then some v else look ns vs y := by
  induction h with
  | head => funext y; simp only [Mine.look]
            split <;> rfl
  | @tail x y ns o v vs vs' h ih =>
    have := List.nodup_cons.mp nd
    have hne : x ≠ y := fun e => this.1 (e ▸ h.mem)
    funext z
    simp only [Mine.look, ih this.2]
    by_cases hz : z = y
    · subst hz; simp [Ne.symm hne]
    · simp [hz]

/-- what a mutable object of the ledger is -/
inductive MO where
  | list (items : List Value)
  | lst (items : List Value)
  | tup (items : List Value)
  | cell (v : Option Value)
  | flds (fs : List (Str × Value))
  | obj (o : Obj)
def EntsAre : List DictEntry → List (Str × Value) → Prop
  | [], [] => True
  | e :: es, f :: fs => (∃ t, e.key = .str f.1 t) ∧ e.val = f.2 ∧ EntsAre es fs
  | _, _ => False
def LObj (h : Heap) (a : Addr) (items : List Value) : Prop := ∃ n, h.get? a = some { cls := .type "list", dict := none, data := .seq items.toArray n, slots := #[] }
def TObj (h : Heap) (a : Addr) (items : List Value) : Prop := ∃ n, h.get? a = some { cls := .type "tuple", dict := none, data := .seq items.toArray n, slots := #[] }
def MO.At (m : MO) (h : Heap) (a : Addr) : Prop := match m with
  | .list items => LObj h a items
  | .lst items => h.IsList a items.toArray
  | .tup items => TObj h a items
  | .cell v => ∃ o, h.get? a = some o ∧ o.data = .cell v
  | .flds fs => ∃ es n, h.get? a = some (dictOf es n) ∧ EntsAre es fs
  | .obj o => h.get? a = some o
theorem LObj.mono {h h' a items} (x : LObj h a items) (s : Sub h h') : LObj h' a items := let ⟨n, e⟩ := x; ⟨n, s _ _ e⟩
theorem TObj.mono {h h' a items} (x : TObj h a items) (s : Sub h h') : TObj h' a items := let ⟨n, e⟩ := x; ⟨n, s _ _ e⟩
theorem LObj.isList {h a items} (x : LObj h a items) : h.IsList a items.toArray := let ⟨n, e⟩ := x; ⟨_, e, rfl, n, rfl⟩
theorem TObj.isTup {h a items} (x : TObj h a items) : IsTup h a items.toArray := let ⟨n, e⟩ := x; ⟨_, e, rfl, n, rfl⟩
theorem MO.At.ex {m : MO} {h a} (x : m.At h a) : ∃ o, h.get? a = some o := by
  cases m with
  | list items => exact let ⟨n, e⟩ := x; ⟨_, e⟩
  | lst items => exact let ⟨o, e, _⟩ := x; ⟨o, e⟩
  | tup items => exact let ⟨n, e⟩ := x; ⟨_, e⟩
  | cell v => exact let ⟨o, e, _⟩ := x; ⟨o, e⟩
  | flds fs => exact let ⟨_, _, e, _⟩ := x; ⟨_, e⟩
  | obj o => exact ⟨o, x⟩
theorem MO.At.of {m : MO} {h h' a} (x : m.At h a) (e : ∀ o, h.get? a = some o → h'.get? a = some o) : m.At h' a := by
  cases m with
  | list items => exact let ⟨n, q⟩ := x; ⟨n, e _ q⟩
  | lst items => exact let ⟨o, q, r⟩ := x; ⟨o, e _ q, r⟩
  | tup items => exact let ⟨n, q⟩ := x; ⟨n, e _ q⟩
  | cell v => exact let ⟨o, q, r⟩ := x; ⟨o, e _ q, r⟩
  | flds fs => exact let ⟨es, n, q, r⟩ := x; ⟨es, n, e _ q, r⟩
  | obj o => exact e _ x

/-- the program's own part of the heap -/
structure Gd (w : World) (h : Heap) : Prop where
  X : (hd.heap_1 w.params).In h
  T : ∃ mg mb, h.Ns mainGlobals mg ∧ h.Ns builtinsNs mb ∧ h.NoLimit ∧ ∀ x : Str, x ≠ "__name__" → mb x = bootBuiltins x
theorem Gd.mono {w h h'} (G : Gd w h) (s : Sub h h') : Gd w h' :=
  ⟨G.X.keeps s, let ⟨mg, mb, a, b, c, d⟩ := G.T; ⟨mg, mb, a.keeps s, b.keeps s, c.keeps s, d⟩⟩

structure St (w : World) (s₀ : Shared) (g : Heap) (L : Addr) (ns : List Str) (loc : List (Option Value)) (mu : List (Addr × MO)) (s : Shared) : Prop where
  gens : s.gens = s₀.gens
  drawn : s.drawn = s₀.drawn
  os : s.os = s₀.os
  nsp : s.heap.Ns L (look ns loc)
  nd : ns.Nodup
  keep : Sub g s.heap
  nL : g.get? L = none
  ml : ∀ p ∈ mu, p.2.At s.heap p.1
  mf : ∀ p ∈ mu, g.get? p.1 = none ∧ p.1 ≠ L
  mn : (mu.map Prod.fst).Nodup
  gd : Gd w g

section
variable {w : World} {s₀ s : Shared} {g : Heap} {L : Addr} {ns : List Str} {loc loc' : List (Option Value)} {mu : List (Addr × MO)}
theorem St.G (S : St w s₀ g L ns loc mu s) : Gd w s.heap := S.gd.mono S.keep
theorem St.toks (S : St w s₀ g L ns loc mu s) (t : Nat) : St w s₀ g L ns loc mu { s with toks := t } :=
  ⟨S.gens, S.drawn, S.os, S.nsp, S.nd, S.keep, S.nL, S.ml, S.mf, S.mn, S.gd⟩
/-- the heap has grown: nothing that stood was changed -/
theorem St.grow (S : St w s₀ g L ns loc mu s) {s' : Shared} (k : Sub s.heap s'.heap) (h1 : s'.gens = s.gens) (h2 : s'.drawn = s.drawn) (h3 : s'.os = s.os) : St w s₀ g L ns loc mu s' :=
  ⟨h1.trans S.gens, h2.trans S.drawn, h3.trans S.os, S.nsp.keeps k, S.nd, S.keep.trans k, S.nL, fun p hp => (S.ml p hp).of fun o e => k _ o e, S.mf, S.mn, S.gd⟩
theorem St.growH (S : St w s₀ g L ns loc mu s) {h' : Heap} {t : Nat} (k : Sub s.heap h') : St w s₀ g L ns loc mu { s with heap := h', toks := t } := S.grow k rfl rfl rfl
/-- the frame's names changed -/
theorem St.put {x : Str} {v : Value} (S : St w s₀ g L ns loc mu s) (P : Put ns loc x v loc') {h' : Heap} {t : Nat} (hn : h'.Ns L (fun y => if y = x then some v else look ns loc y)) (hs : Heap.SameBut L s.heap h') :
    St w s₀ g L ns loc' mu { s with heap := h', toks := t } :=
  ⟨S.gens, S.drawn, S.os, by rw [P.look S.nd]; exact hn, S.nd, fun b o e => (hs.2 b (fun q => by rw [q, S.nL] at e; cases e)).trans (S.keep b o e), S.nL,
    fun p hp => (S.ml p hp).of fun o e => (hs.2 p.1 (S.mf p hp).2).trans e, S.mf, S.mn, S.gd⟩
theorem setMO_fst (k : Nat) (a : Addr) (m m' : MO) : ∀ (mu : List (Addr × MO)), mu[k]? = some (a, m) → (mu.set k (a, m')).map Prod.fst = mu.map Prod.fst := by
  induction k with
  | zero => intro mu h; cases mu with | nil => cases h | cons p r => simp at h; simp [h]
  | succ k ih => intro mu h; cases mu with | nil => cases h | cons p r => simp at h; simp [ih r h]
theorem nodup_get_ne {mu : List (Addr × MO)} (nd : (mu.map Prod.fst).Nodup) {k j : Nat} {p q : Addr × MO} (h : mu[k]? = some p) (h' : mu[j]? = some q) (hne : k ≠ j) : q.1 ≠ p.1 := by
  induction mu generalizing k j with
  | nil => simp at h
  | cons x r ih =>
    simp only [List.map_cons, List.nodup_cons] at nd
    cases k with
    | zero =>
      cases j with
      | zero => exact absurd rfl hne
      | succ j =>
        simp at h h'; subst h
        intro e; exact nd.1 (e ▸ List.mem_map_of_mem (List.mem_of_getElem? h'))
    | succ k =>
      cases j with
      | zero =>
        simp at h h'; subst h'
        intro e; exact nd.1 (e.symm ▸ List.mem_map_of_mem (List.mem_of_getElem? h))
      | succ j => simp at h h'; exact ih nd.2 h h' (fun e => hne (by rw [e]))
/-- one object of the ledger changed -/
theorem St.upd {k : Nat} {a : Addr} {m m' : MO} (S : St w s₀ g L ns loc mu s) (hk : mu[k]? = some (a, m)) {h' : Heap} {t : Nat} (hm : m'.At h' a) (hs : Heap.SameBut a s.heap h') :
    St w s₀ g L ns loc (mu.set k (a, m')) { s with heap := h', toks := t } := by
  have ha := S.mf _ (List.mem_of_getElem? hk)
  refine ⟨S.gens, S.drawn, S.os, S.nsp.sameBut hs (Ne.symm ha.2), S.nd, fun b o e => (hs.2 b (fun q => by rw [q, ha.1] at e; cases e)).trans (S.keep b o e), S.nL, ?_, ?_, by rw [setMO_fst k a m m' mu hk]; exact S.mn, S.gd⟩
  · intro p hp
    obtain ⟨j, hj, rfl⟩ := List.mem_iff_getElem.mp hp
    rw [List.getElem_set]
    split
    · exact hm
    · rename_i hne
      have hj' : j < mu.length := by simpa using hj
      have hq := nodup_get_ne S.mn hk (List.getElem?_eq_getElem hj') hne
      exact (S.ml _ (List.getElem_mem hj')).of fun o e => (hs.2 _ hq).trans e
  · intro p hp
    obtain ⟨j, hj, rfl⟩ := List.mem_iff_getElem.mp hp
    rw [List.getElem_set]
    split
    · exact ha
    · exact S.mf _ (List.getElem_mem (by simpa using hj))
/-- a new object, onto the ledger -/
theorem St.alloc {o : Obj} {m : MO} (S : St w s₀ g L ns loc mu s) {t : Nat} (hm : m.At (s.heap.push o) s.heap.objs.size) : St w s₀ g L ns loc ((s.heap.objs.size, m) :: mu) { s with heap := s.heap.push o, toks := t } := by
  have k : Sub s.heap (s.heap.push o) := fun b q e => Heap.get?_push_of_some _ e
  have T := S.growH (h' := s.heap.push o) (t := t) k
  refine ⟨T.gens, T.drawn, T.os, T.nsp, T.nd, T.keep, T.nL, ?_, ?_, ?_, T.gd⟩
  · intro p hp
    rcases List.mem_cons.mp hp with rfl | hp
    · exact hm
    · exact T.ml p hp
  · intro p hp
    rcases List.mem_cons.mp hp with rfl | hp
    · refine ⟨?_, fun q => absurd S.nsp.lt (by rw [← q]; exact Nat.lt_irrefl _)⟩
      cases q : g.get? s.heap.objs.size with
      | none => rfl
      | some o' => exact absurd (Heap.lt_size (S.keep _ _ q)) (Nat.lt_irrefl _)
    · exact S.mf p hp
  · simp only [List.map_cons, List.nodup_cons]
    refine ⟨fun hm => ?_, S.mn⟩
    obtain ⟨p, hp, e⟩ := List.mem_map.mp hm
    obtain ⟨q, hq⟩ := (S.ml p hp).ex
    rw [e] at hq
    exact absurd (Heap.lt_size hq) (Nat.lt_irrefl _)
/-- entries forgotten -/
theorem St.less {mu' : List (Addr × MO)} (S : St w s₀ g L ns loc mu s) (h : mu'.Sublist mu) : St w s₀ g L ns loc mu' s :=
  ⟨S.gens, S.drawn, S.os, S.nsp, S.nd, S.keep, S.nL, fun p hp => S.ml p (h.subset hp), fun p hp => S.mf p (h.subset hp), S.mn.sublist (h.map _), S.gd⟩
/-- all that is not the frame's own names nor of the ledger, frozen -/
theorem St.freeze {mu' : List (Addr × MO)} (S : St w s₀ g L ns loc mu s) (h : mu'.Sublist mu) :
    ∃ g', Sub g g' ∧ St w s₀ g' L ns loc mu' s ∧ ∀ b o, s.heap.get? b = some o → b ≠ L → b ∉ mu'.map Prod.fst → g'.get? b = some o := by
  have S' := S.less h
  let as := L :: mu'.map Prod.fst
  have hget : ∀ b o, s.heap.get? b = some o → b ∉ as → (hideAll s.heap as).get? b = some o := fun b o e hb => hideAll_get as e hb
  have hgg : Sub g (hideAll s.heap as) := fun b o e => hget b o (S.keep b o e) fun q => by
    rcases List.mem_cons.mp q with q | q
    · rw [q, S.nL] at e; cases e
    · obtain ⟨p, hp, rfl⟩ := List.mem_map.mp q
      rw [(S'.mf p hp).1] at e; cases e
  refine ⟨hideAll s.heap as, hgg, ⟨S.gens, S.drawn, S.os, S.nsp, S.nd, fun b o e => of_hideAll _ e, hideAll_none _ (List.mem_cons_self ..), S'.ml, fun p hp => ⟨hideAll_none _ (List.mem_cons_of_mem _ (List.mem_map_of_mem hp)), (S'.mf p hp).2⟩, S'.mn, S.gd.mono hgg⟩, ?_⟩
  intro b o e hL hb
  exact hget b o e fun q => (List.mem_cons.mp q).elim hL hb
end

end Mine
namespace Mine


theorem z_nn (i : Nat) : (0 : Int) ≤ 0 + (i : Int) := by omega
theorem z_tn (i : Nat) : (0 + (i : Int)).toNat = i := by omega
theorem c_nn (i : Nat) : (0 : Int) ≤ (i : Int) := Int.natCast_nonneg i

end Mine
namespace Mine



structure Fn (e : Env) (L : Addr) (ns gs : List Str) : Prop where
  kind : e.scope.kind = .function
  loc : e.locals = L
  glob : e.globals = mainGlobals
  bi : e.builtins = builtinsNs
  kinds : ∀ x ∈ ns, e.kindOf x = some .local
  gkinds : ∀ x ∈ gs, e.kindOf x = some .globalImplicit
  dbg : ∀ x ∈ ns ++ gs, (x == ("__debug__" : Str)) = false

structure Amb (n : Nat) (A : Around) : Prop where
  hd : A.handled = none
  dp : A.depth + n ≤ 900
  un : A.units + 50 * n ≤ 9000
theorem Amb.le {n m : Nat} {A : Around} (a : Amb n A) (h : m ≤ n) : Amb m A := ⟨a.hd, by have := a.dp; omega, by have := a.un; omega⟩
theorem Amb.deeper {n : Nat} {A : Around} (a : Amb (n + 1) A) (e : Env) : Amb n (A.deeper e) :=
  ⟨a.hd, by show A.depth + 1 + n ≤ 900; have := a.dp; omega, by show A.units + 3 + 50 * n ≤ 9000; have := a.un; omega⟩
theorem Amb.room {n : Nat} {A : Around} (a : Amb n A) : A.depth < recursionLimit := by have := a.dp; show A.depth < 1000; omega
theorem Amb.units {n : Nat} {A : Around} (a : Amb n A) : A.units < cLine := by have := a.un; show A.units < 9900; omega
theorem Amb.units64 {n : Nat} {A : Around} (a : Amb n A) : A.units + 64 < cLine := by have := a.un; show A.units + 64 < 9900; omega
theorem Amb.in1 {n : Nat} {A : Around} (a : Amb (n + 1) A) : Amb n A.in1 :=
  ⟨a.hd, by show A.depth + n ≤ 900; have := a.dp; omega, by show A.units + 1 + 50 * n ≤ 9000; have := a.un; omega⟩

def Glb (x : Str) (v : Value) : Prop := ∀ P, nsIn (hd.heap_1 P) mainGlobals x = some (some v)
structure Blt (x : Str) (v : Value) : Prop where
  no : ∀ P, nsIn (hd.heap_1 P) mainGlobals x = some none
  bt : bootBuiltins x = some v
  nn : x ≠ "__name__"


/-- a tree that ends well, sealed (so that no unifier opens it) -/
structure Wp (prog : Program) (w : World) (A : Around) {α : Type} (t : Sem α) (Q : α → Shared → Prop) (s : Shared) : Prop where
  run : wpAny (model prog w) A t Q (fun _ _ => False) s
theorem Wp.to {prog w A} {α : Type} {t : Sem α} {Q : α → Shared → Prop} {s} (h : Wp prog w A t Q s) {E} : wpAny (model prog w) A t Q E s := wpAny_mono h.run (fun _ _ x => x) (fun _ _ x => x.elim)
theorem Wp.mono {prog w A} {α : Type} {t : Sem α} {Q Q' : α → Shared → Prop} {s} (h : Wp prog w A t Q s) (k : ∀ a s', Q a s' → Q' a s') : Wp prog w A t Q' s := ⟨wpAny_mono h.run k (fun _ _ x => x)⟩
/-- what follows a statement -/
def Then (prog : Program) (w : World) (A : Around) (rest : List Stmt) (e : Env) (QF : Flow → Shared → Prop) : Flow → Shared → Prop := fun f s' => match f with
  | .next => Wp prog w A (execs rest e) QF s'
  | f => QF f s'

section
variable {prog : Program} {w : World} {A : Around} {s₀ s : Shared} {g : Heap} {L : Addr} {ns gs : List Str} {loc loc' : List (Option Value)} {mu : List (Addr × MO)} {e : Env}
variable {Q : Value → Shared → Prop} {QF : Flow → Shared → Prop} {QU : Unit → Shared → Prop} {QB : Bool → Shared → Prop} {rest : List Stmt}

theorem then_next (h : Wp prog w A (execs rest e) QF s) : Then prog w A rest e QF .next s := h
theorem then_ret {v : Value} (h : QF (.ret v) s) : Then prog w A rest e QF (.ret v) s := h
theorem then_brk (h : QF .brk s) : Then prog w A rest e QF .brk s := h
theorem wp_cons {st : Stmt} (h : wpAny (model prog w) A (exec st e) (Then prog w A rest e QF) (fun _ _ => False) s) : Wp prog w A (execs (st :: rest) e) QF s :=
  ⟨wpAny_execs_cons (wpAny_mono h (fun f s' q => by cases f <;> first | exact q.run | exact q) fun _ _ x => x)⟩

theorem r_name {x : Str} {pos : Pos} {v : Value} (C : Fn e L ns gs) (S : St w s₀ g L ns loc mu s) (h : AtV ns loc x v) (k : Q v s) : Wp prog w A (eval (.Name x pos) e) Q s :=
  ⟨wpAny_Name (wpAny_loadName_local C.kind (C.kinds x h.mem) (by rw [C.loc]; exact S.nsp) (h.look S.nd) k) (C.dbg x (List.mem_append_left _ h.mem))⟩
theorem r_glob {x : Str} {pos : Pos} {v : Value} (C : Fn e L ns gs) (S : St w s₀ g L ns loc mu s) (hx : x ∈ gs) (h : Glb x v) (k : Q v s) : Wp prog w A (eval (.Name x pos) e) Q s := by
  obtain ⟨mg, mb, hg, hb, _, _⟩ := S.G.T
  exact ⟨Name_function_global C.kind (C.gkinds x hx) (loadGlobal_global (env := e) (by rw [C.glob]; exact hg) (mg_of S.G.X hg (h _)) k) (C.dbg x (List.mem_append_right _ hx))⟩
theorem r_blt {x : Str} {pos : Pos} {v : Value} (C : Fn e L ns gs) (S : St w s₀ g L ns loc mu s) (hx : x ∈ gs) (h : Blt x v) (k : Q v s) : Wp prog w A (eval (.Name x pos) e) Q s := by
  obtain ⟨mg, mb, hg, hb, _, hbt⟩ := S.G.T
  exact ⟨Name_function_global C.kind (C.gkinds x hx) (loadGlobal_builtin (env := e) (by rw [C.glob]; exact hg) (mg_none_of S.G.X hg (h.no _)) (by rw [C.bi]; exact hb) ((hbt x h.nn).trans h.bt) k) (C.dbg x (List.mem_append_right _ hx))⟩

theorem r_int {i : Int} {k : Nat} {pos : Pos} (S : St w s₀ g L ns loc mu s) (h : ∀ t s', St w s₀ g L ns loc mu s' → Q (.int i t) s') : Wp prog w A (eval (.Constant (.int i) k pos) e) Q s :=
  ⟨wpAny_Constant_int (h _ _ (S.toks _))⟩
theorem r_str {x : Str} {k : Nat} {pos : Pos} (S : St w s₀ g L ns loc mu s) (h : ∀ t s', St w s₀ g L ns loc mu s' → Q (.str x t) s') : Wp prog w A (eval (.Constant (.str x) k pos) e) Q s :=
  ⟨wpAny_Constant_str (h _ _ (S.toks _))⟩
theorem r_bool {b : Bool} {k : Nat} {pos : Pos} (h : Q (.bool b) s) : Wp prog w A (eval (.Constant (.bool b) k pos) e) Q s := ⟨wpAny_Constant_bool h⟩

theorem r_bin {l r : Expr} {op : Operator} {pos : Pos} (h : Wp prog w A (eval l e) (fun a s₁ => Wp prog w A (eval r e) (fun b s₂ => Wp prog w A (binaryOp op a b) Q s₂) s₁) s) :
    Wp prog w A (eval (.BinOp l op r pos) e) Q s := ⟨wpAny_BinOp (wpAny_mono h.run (fun _ _ q => wpAny_mono q.run (fun _ _ q => q.run) fun _ _ x => x) fun _ _ x => x)⟩
theorem r_cmp {l r : Expr} {op : CmpOp} {pos : Pos} (h : Wp prog w A (eval l e) (fun a s₁ => Wp prog w A (eval r e) (fun b s₂ => Wp prog w A (compareOp op a b) Q s₂) s₁) s)
    (hm : behindInMarks op r = false := by with_unfolding_all rfl) :
    Wp prog w A (eval (.Compare l [op] [r] pos) e) Q s := ⟨wpAny_Compare1 (wpAny_mono h.run (fun _ _ q => wpAny_mono q.run (fun _ _ q => q.run) fun _ _ x => x) fun _ _ x => x) hm⟩
theorem r_un {x : Expr} {op : UnaryOp} {pos : Pos} (h : Wp prog w A (eval x e) (fun v s₁ => Wp prog w A (unaryOp op v) Q s₁) s) : Wp prog w A (eval (.UnaryOp op x pos) e) Q s :=
  ⟨wpAny_UnaryOp (wpAny_mono h.run (fun _ _ q => q.run) fun _ _ x => x)⟩
theorem r_ifexp {test body orelse : Expr} {pos : Pos} (h : Wp prog w A (isTrue test e (eval test e)) (fun b s₁ => (b = true → Wp prog w A (eval body e) Q s₁) ∧ (b = false → Wp prog w A (eval orelse e) Q s₁)) s) :
    Wp prog w A (eval (.IfExp test body orelse pos) e) Q s :=
  ⟨wpAny_IfExp (wpAny_mono h.run (fun b _ q => by cases b <;> first | exact (q.1 rfl).run | exact (q.2 rfl).run) fun _ _ x => x)⟩
/-- a test that is a comparison -/
theorem t_cmp {l r : Expr} {op : CmpOp} {pos : Pos} {whole : Sem Value} (h : Wp prog w A (eval l e) (fun a s₁ => Wp prog w A (eval r e) (fun b s₂ => Wp prog w A (compareOp op a b) (fun c s₃ => ∃ k, c = .bool k ∧ QB k s₃) s₂) s₁) s)
    (hm : behindInMarks op r = false := by with_unfolding_all rfl) : Wp prog w A (isTrue (.Compare l [op] [r] pos) e whole) QB s :=
  ⟨wpAny_isTrue_Compare1 (wpAny_mono h.run (fun _ _ q => wpAny_mono q.run (fun _ _ q => wpAny_mono q.run (fun c _ q => by obtain ⟨k, rfl, q⟩ := q; exact wpAny_truthy_bool q) fun _ _ x => x) fun _ _ x => x) fun _ _ x => x) hm⟩

-- ints
section
variable {a b : Int} {t u : Tok}
theorem r_add (S : St w s₀ g L ns loc mu s) (h : ∀ t s', St w s₀ g L ns loc mu s' → Q (.int (a + b) t) s') : Wp prog w A (binaryOp .Add (.int a t) (.int b u)) Q s := ⟨PyProof.Rows.add_int (h _ _ (S.toks _))⟩
theorem r_sub (S : St w s₀ g L ns loc mu s) (h : ∀ t s', St w s₀ g L ns loc mu s' → Q (.int (a - b) t) s') : Wp prog w A (binaryOp .Sub (.int a t) (.int b u)) Q s := ⟨PyProof.Rows.sub_int (h _ _ (S.toks _))⟩
theorem r_mul (S : St w s₀ g L ns loc mu s) (h0 : 0 ≤ a) (h1 : a < 2 ^ 62) (h : ∀ t s', St w s₀ g L ns loc mu s' → Q (.int (a * b) t) s') : Wp prog w A (binaryOp .Mult (.int a t) (.int b u)) Q s := ⟨PyProof.Rows.mul_int (h _ _ (S.toks _)) (PySem.IntMulOk.of_left (PySem.intBits_le_64 (by omega) (by omega)))⟩
theorem r_div (S : St w s₀ g L ns loc mu s) (h0 : 0 < b) (h1 : b < 1000000) (h : ∀ t s', St w s₀ g L ns loc mu s' → Q (.int (a / b) t) s') : Wp prog w A (binaryOp .FloorDiv (.int a t) (.int b u)) Q s :=
  ⟨PyProof.Rows.floordiv_int (by omega) (by rw [Int.fdiv_eq_ediv_of_nonneg _ (by omega)]; exact h _ _ (S.toks _)) (.inl (PyProof.noPylong_small (by omega)))⟩
theorem r_mod (S : St w s₀ g L ns loc mu s) (h0 : 0 < b) (h : ∀ t s', St w s₀ g L ns loc mu s' → Q (.int (a % b) t) s') : Wp prog w A (binaryOp .Mod (.int a t) (.int b u)) Q s :=
  ⟨PyProof.Rows.mod_int (by omega) (by rw [Int.fmod_eq_emod_of_nonneg _ (by omega)]; exact h _ _ (S.toks _))⟩
theorem r_neg (S : St w s₀ g L ns loc mu s) (h : ∀ t s', St w s₀ g L ns loc mu s' → Q (.int (-a) t) s') : Wp prog w A (unaryOp .USub (.int a t)) Q s := ⟨PyProof.Rows.neg_int (h _ _ (S.toks _))⟩
theorem r_iadd (S : St w s₀ g L ns loc mu s) (h : ∀ t s', St w s₀ g L ns loc mu s' → Q (.int (a + b) t) s') : Wp prog w A (inplaceOp .Add (.int a t) (.int b u)) Q s := ⟨PyProof.Rows.iadd_int (h _ _ (S.toks _))⟩
theorem r_isub (S : St w s₀ g L ns loc mu s) (h : ∀ t s', St w s₀ g L ns loc mu s' → Q (.int (a - b) t) s') : Wp prog w A (inplaceOp .Sub (.int a t) (.int b u)) Q s := ⟨PyProof.Rows.isub_int (h _ _ (S.toks _))⟩
theorem r_lt (h : Q (.bool (decide (a < b))) s) : Wp prog w A (compareOp .Lt (.int a t) (.int b u)) Q s := ⟨PyProof.Rows.lt_int h⟩
theorem r_le (h : Q (.bool (decide (a ≤ b))) s) : Wp prog w A (compareOp .LtE (.int a t) (.int b u)) Q s := ⟨PyProof.Rows.le_int h⟩
theorem r_gt (h : Q (.bool (decide (b < a))) s) : Wp prog w A (compareOp .Gt (.int a t) (.int b u)) Q s := ⟨PyProof.Rows.gt_int h⟩
theorem r_ge (h : Q (.bool (decide (b ≤ a))) s) : Wp prog w A (compareOp .GtE (.int a t) (.int b u)) Q s := ⟨PyProof.Rows.ge_int h⟩
theorem r_eqi (h : Q (.bool (a == b)) s) : Wp prog w A (compareOp .Eq (.int a t) (.int b u)) Q s := ⟨PyProof.Rows.eq_int h⟩
theorem r_nei (h : Q (.bool (a != b)) s) : Wp prog w A (compareOp .NotEq (.int a t) (.int b u)) Q s := ⟨PyProof.Rows.ne_int h⟩
end
-- strs
section
variable {x y : Str} {t u : Tok}
theorem r_eqs (h : Q (.bool (x == y)) s) : Wp prog w A (compareOp .Eq (.str x t) (.str y u)) Q s := ⟨PyProof.Rows.eq_str h⟩
theorem r_nes (h : Q (.bool (x != y)) s) : Wp prog w A (compareOp .NotEq (.str x t) (.str y u)) Q s := ⟨PyProof.Rows.ne_str h⟩
theorem r_lts (h : Q (.bool (decide (x.cps.toList < y.cps.toList))) s) : Wp prog w A (compareOp .Lt (.str x t) (.str y u)) Q s := ⟨PyProof.Rows.lt_str h⟩
theorem r_gts (h : Q (.bool (decide (y.cps.toList < x.cps.toList))) s) : Wp prog w A (compareOp .Gt (.str x t) (.str y u)) Q s := ⟨PySem.P.gt_str h⟩
theorem r_cat (S : St w s₀ g L ns loc mu s) (hz : x.length + y.length ≤ sizeLine) (h : ∀ t s', St w s₀ g L ns loc mu s' → Q (.str (x ++ y) t) s') : Wp prog w A (binaryOp .Add (.str x t) (.str y u)) Q s :=
  ⟨PyProof.Rows.add_str (fun _ _ => h _ _ (S.toks _)) hz⟩
end
theorem r_subb {p q : Bool} (S : St w s₀ g L ns loc mu s) (h : ∀ t s', St w s₀ g L ns loc mu s' → Q (.int (b2i p - b2i q) t) s') : Wp prog w A (binaryOp .Sub (.bool p) (.bool q)) Q s := ⟨PyProof.Rows.sub_bool (h _ _ (S.toks _))⟩

-- statements
theorem x_nil (h : QF .next s) : Wp prog w A (execs [] e) QF s := ⟨wpAny_execs_nil h⟩
theorem x_ret {x : Expr} {pos : Pos} (h : Wp prog w A (eval x e) (fun v => QF (.ret v)) s) : Wp prog w A (execs (.Return (some x) pos :: rest) e) QF s := wp_cons (wpAny_Return_some h.run)
theorem r_store {x : Str} {v : Value} (C : Fn e L ns gs) (S : St w s₀ g L ns loc mu s) (P : Put ns loc x v loc') (h : ∀ s', St w s₀ g L ns loc' mu s' → QU () s') : Wp prog w A (storeName e x v) QU s := by
  have hl := C.loc; subst hl
  refine ⟨wpAny_storeName_local (C.kinds x P.mem) S.nsp (fun h' hn hs => h _ (S.put P hn hs)) ?_⟩
  rw [C.kind]; rfl
theorem x_asg {x : Str} {pos' : Pos} {value : Expr} {pos : Pos} (h : Wp prog w A (eval value e) (fun v s₁ => Wp prog w A (storeName e x v) (fun _ s₂ => Wp prog w A (execs rest e) QF s₂) s₁) s)
    (hs : swapsWith value (some (.Name x pos')) pos.line e = pure false := by with_unfolding_all rfl) : Wp prog w A (execs (.Assign [.Name x pos'] value pos :: rest) e) QF s :=
  wp_cons (wpAny_Assign_Name (wpAny_mono h.run (fun _ _ q => wpAny_mono q.run (fun _ _ q => q) fun _ _ x => x) fun _ _ x => x) hs)
theorem x_aug {x : Str} {pos' : Pos} {op : Operator} {value : Expr} {pos : Pos} (h : Wp prog w A (loadName e x) (fun old s₁ => Wp prog w A (eval value e) (fun v s₂ => Wp prog w A (inplaceOp op old v) (fun r s₃ =>
      Wp prog w A (storeName e x r) (fun _ s₄ => Wp prog w A (execs rest e) QF s₄) s₃) s₂) s₁) s) : Wp prog w A (execs (.AugAssign (.Name x pos') op value pos :: rest) e) QF s :=
  wp_cons (wpAny_AugAssign_Name (wpAny_mono h.run (fun _ _ q => wpAny_mono q.run (fun _ _ q => wpAny_mono q.run (fun _ _ q => wpAny_mono q.run (fun _ _ q => q) fun _ _ x => x) fun _ _ x => x) fun _ _ x => x) fun _ _ x => x))
theorem r_load {x : Str} {v : Value} (C : Fn e L ns gs) (S : St w s₀ g L ns loc mu s) (h : AtV ns loc x v) (k : Q v s) : Wp prog w A (loadName e x) Q s :=
  ⟨wpAny_loadName_local C.kind (C.kinds x h.mem) (by rw [C.loc]; exact S.nsp) (h.look S.nd) k⟩
theorem x_if {test : Expr} {body orelse : List Stmt} {pos : Pos} (h : Wp prog w A (isTrue test e (eval test e)) (fun b s₁ => (b = true → Wp prog w A (execs body e) (Then prog w A rest e QF) s₁) ∧ (b = false → Wp prog w A (execs orelse e) (Then prog w A rest e QF) s₁)) s) :
    Wp prog w A (execs (.If test body orelse pos :: rest) e) QF s :=
  wp_cons (wpAny_If (wpAny_mono h.run (fun b _ q => by cases b <;> first | exact (q.1 rfl).run | exact (q.2 rfl).run) fun _ _ x => x))
end

end Mine
namespace Mine



theorem look_none : ∀ (ns : List Str) (x : Str), look ns (ns.map fun _ => none) x = none
  | [], _ => rfl
  | n :: ns, x => by
    simp only [List.map_cons, look]
    split
    · rfl
    · exact look_none ns x
theorem lookup_append' (l r : List (Str × Value)) (x : Str) : (l ++ r).lookup x = (l.lookup x).or (r.lookup x) := List.lookup_append
theorem lookup_reverse_nodup : ∀ (bs : List (Str × Value)), (bs.map Prod.fst).Nodup → ∀ x, bs.reverse.lookup x = bs.lookup x
  | [], _, _ => rfl
  | (n, v) :: r, nd, x => by
    simp only [List.map_cons, List.nodup_cons] at nd
    rw [List.reverse_cons, lookup_append', lookup_reverse_nodup r nd.2, List.lookup_cons, List.lookup_cons, List.lookup_nil]
    by_cases h : x = n
    · subst h
      have hn : r.lookup x = none := by
        rw [List.lookup_eq_none_iff]
        intro p hp
        simp only [ne_eq, bne_iff_ne]
        intro e; exact nd.1 (List.mem_map.mpr ⟨p, hp, e.symm⟩)
      simp [hn]
    · have : (x == n) = false := by simpa using h
      simp [this]
theorem look_binds : ∀ (bs : List (Str × Value)) (rest : List Str), (bs.map Prod.fst).Nodup → look (bs.map Prod.fst ++ rest) (bs.map (fun p => some p.2) ++ rest.map fun _ => none) = fun x => bs.reverse.lookup x := by
  intro bs rest nd
  funext x
  rw [lookup_reverse_nodup bs nd]
  clear nd
  induction bs with
  | nil => simpa using look_none rest x
  | cons p r ih =>
    obtain ⟨n, v⟩ := p
    simp only [List.map_cons, List.cons_append, look, List.lookup_cons]
    by_cases h : x = n
    · subst h; simp
    · have hb : (x == n) = false := by simpa using h
      simp only [if_neg h, hb]; exact ih

theorem Fn.of {fd : FuncData} {fa : Addr} {ns gs : List Str} (hk : fd.scope.kind = .function) (hg : fd.globals = mainGlobals) (hb : fd.builtins = builtinsNs)
    (h1 : (ns.all fun x => fd.scope.names.lookup x == some .local && !(x == ("__debug__" : Str))) = true) (h2 : (gs.all fun x => fd.scope.names.lookup x == some .globalImplicit && !(x == ("__debug__" : Str))) = true) (L : Addr) :
    Fn (callEnv fd L fa) L ns gs where
  kind := hk
  loc := rfl
  glob := hg
  bi := hb
  kinds := fun x hx => by have := List.all_eq_true.mp h1 x hx; simp only [Bool.and_eq_true, beq_iff_eq] at this; exact this.1
  gkinds := fun x hx => by have := List.all_eq_true.mp h2 x hx; simp only [Bool.and_eq_true, beq_iff_eq] at this; exact this.1
  dbg := fun x hx => by
    rcases List.mem_append.mp hx with hx | hx
    · have := List.all_eq_true.mp h1 x hx; simp only [Bool.and_eq_true, Bool.not_eq_true'] at this; exact this.2
    · have := List.all_eq_true.mp h2 x hx; simp only [Bool.and_eq_true, Bool.not_eq_true'] at this; exact this.2


theorem zip_fst : ∀ (ps : List Str) (vs : List Value), ps.length = vs.length → (ps.zip vs).map Prod.fst = ps
  | [], [], _ => rfl
  | p :: ps, v :: vs, h => by simp only [List.zip_cons_cons, List.map_cons]; rw [zip_fst ps vs (by simpa using h)]
theorem zip_snd : ∀ (ps : List Str) (vs : List Value), ps.length = vs.length → (ps.zip vs).map (fun p => some p.2) = vs.map some
  | [], [], _ => rfl
  | p :: ps, v :: vs, h => by simp only [List.zip_cons_cons, List.map_cons]; rw [zip_snd ps vs (by simpa using h)]
section
variable {prog : Program} {w : World} {A : Around} {s : Shared}
/-- a def of the text is called -/
theorem enter {n : Nat} {fa : Addr} {oc : Value} {od : Option Addr} {sl : Array (Option Value)} {fd : FuncData} {body : List Stmt} {args : List Value} {Q : Value → Shared → Prop} (ps rest gs : List Str)
    (Am : Amb n A) (G : Gd w s.heap) (ho : (hd.heap_1 w.params).lookup fa = some ⟨oc, od, .func fd, sl⟩) (hb : fd.body = .stmts body) (hbind : bindArgs fd ⟨args, []⟩ = pure (ps.zip args)) (hlen : ps.length = args.length)
    (hcd : codeIn (hd.heap_1 w.params) fd.code fd.qualname = true) (hk : fd.scope.kind = .function) (hg : fd.globals = mainGlobals) (hbi : fd.builtins = builtinsNs)
    (h0 : (fd.scope.names.all fun x => x.2 != .cell) = true) (h1 : ((ps ++ rest).all fun x => fd.scope.names.lookup x == some .local && !(x == ("__debug__" : Str))) = true)
    (h2 : (gs.all fun x => fd.scope.names.lookup x == some .globalImplicit && !(x == ("__debug__" : Str))) = true) (nd : decide (ps ++ rest).Nodup = true)
    (hco : fd.scope.isCoroutine = false) (hgen : fd.scope.isGenerator = false)
    (h : ∀ e L s', Fn e L (ps ++ rest) gs → St w s s.heap L (ps ++ rest) (args.map some ++ rest.map fun _ => none) [] s' →
      Wp prog w (A.deeper e) (execs body e) (fun f s'' => Q (match f with | .ret v => v | _ => .none) s'') s') :
    Wp prog w A (call (.ref fa) args) Q s := by
  obtain ⟨mg, mb, hmg, hmb, hlim, hbt⟩ := G.T
  have nd' := of_decide_eq_true nd
  have C := fun L => Fn.of (fa := fa) hk hg hbi h1 h2 L
  have hz := zip_fst ps args hlen
  refine ⟨?_⟩
  with_reducible refine wpAny_call ?_
  have hx0 : ∀ x ∈ fd.scope.names, x.2 ≠ .cell := fun x hx => by have := List.all_eq_true.mp h0 x hx; simpa using this
  have hx1 : ∀ x ∈ ps.zip args, fd.scope.names.lookup x.1 = some .local := fun x hx => (C 0).kinds x.1 (List.mem_append_left _ (by rw [← hz]; exact List.mem_map_of_mem hx))
  have ho' := G.X _ _ ho
  have hr := Am.room
  have hcd' := codeRec_of G.X hcd
  have hbt' : BindsTo s fd ⟨args, []⟩ (ps.zip args) := BindsTo.of_eq hbind
  with_reducible refine codeAny_call_def (fd := fd) (body := body) (binds := ps.zip args) hr ho' ?_ hlim hcd' hb hbt' hx0 hx1 ?_ hco hgen hk
  · rfl
  intro h₁ hns hk₁
  have hL0 : s.heap.get? s.heap.objs.size = none := by
    cases q : s.heap.get? s.heap.objs.size with
    | none => rfl
    | some o => exact absurd (Heap.lt_size q) (Nat.lt_irrefl _)
  have hl := look_binds (ps.zip args) rest (by rw [hz]; exact (List.nodup_append.mp nd').1)
  rw [hz, zip_snd ps args hlen] at hl
  have S : St w s s.heap s.heap.objs.size (ps ++ rest) (args.map some ++ rest.map fun _ => none) [] { s with heap := h₁, toks := s.toks + (ps.zip args).length } :=
    ⟨rfl, rfl, rfl, by rw [hl]; exact hns, nd', hk₁, hL0, (fun _ hp => by cases hp), (fun _ hp => by cases hp), List.nodup_nil, G⟩
  exact wpAny_mono (h _ _ _ (C _) S).run (fun f s' q => q) fun _ _ x => x.elim
end
/-- what a call leaves -/
structure After (s s' : Shared) : Prop where
  gens : s'.gens = s.gens
  drawn : s'.drawn = s.drawn
  os : s'.os = s.os
  keep : Sub s.heap s'.heap
theorem St.after {w : World} {s s' : Shared} {L : Addr} {ns loc mu} {g : Heap} (S : St w s g L ns loc mu s') (k : Sub s.heap g) : After s s' := ⟨S.gens, S.drawn, S.os, k.trans S.keep⟩
theorem After.st {w : World} {s₀ s s' : Shared} {g : Heap} {L : Addr} {ns loc mu} (a : After s s') (S : St w s₀ g L ns loc mu s) : St w s₀ g L ns loc mu s' := S.grow a.keep a.gens a.drawn a.os

local macro_rules | `(tactic| walk_at "atv") => `(tactic| repeat (first | exact AtV.head | apply AtV.tail))
local macro_rules | `(tactic| walk_at "put") => `(tactic| repeat (first | exact Put.head | apply Put.tail))

theorem strcoll_call {prog : Program} {w : World} {A : Around} {s : Shared} {n : Nat} {Q : Value → Shared → Prop} (Am : Amb n A) (G : Gd w s.heap) {x y : Str} {t u : Tok}
    (h : ∀ v s', After s s' → Q (.int (b2i (decide (y.cps.toList < x.cps.toList)) - b2i (decide (x.cps.toList < y.cps.toList))) v) s') : Wp prog w A (call (.ref 28) [.str x t, .str y u]) Q s := by
  refine enter [Str.ofString "a", Str.ofString "b"] [] [] Am G rfl rfl rfl rfl (by kernel_rfl) rfl rfl rfl (by decide +kernel) (by decide +kernel) (by decide +kernel) (by decide +kernel) rfl rfl ?_
  intro e L s' C S
  dsimp only [List.map, List.cons_append, List.nil_append] at C S
  with_reducible refine x_ret ?_
  with_reducible refine r_bin ?_
  with_reducible refine r_cmp ?_
  with_reducible refine r_name C S (by walk_at "atv") ?_
  with_reducible refine r_name C S (by walk_at "atv") ?_
  with_reducible refine r_gts ?_
  with_reducible refine r_cmp ?_
  with_reducible refine r_name C S (by walk_at "atv") ?_
  with_reducible refine r_name C S (by walk_at "atv") ?_
  with_reducible refine r_lts ?_
  with_reducible refine r_subb S ?_
  intro v s'' S'
  exact h v s'' (S'.after Sub.rfl')

end Mine
namespace Mine



section
variable {prog : Program} {w : World} {A : Around} {s₀ s : Shared} {g : Heap} {L : Addr} {ns gs : List Str} {loc loc' : List (Option Value)} {mu : List (Addr × MO)} {e : Env}
variable {Q : Value → Shared → Prop} {QF : Flow → Shared → Prop} {QU : Unit → Shared → Prop} {QB : Bool → Shared → Prop} {rest : List Stmt}

-- calls
theorem r_call {x : Str} {p pos : Pos} {args : List Expr} (h : Wp prog w A (eval (.Name x p) e) (fun f s₁ => Wp prog w A (callWith pos f [] (backTo pos (starEach args e)) []) Q s₁) s) :
    Wp prog w A (eval (.Call (.Name x p) args [] pos) e) Q s := by
  refine ⟨?_⟩
  with_reducible refine Call_Name rfl ?_
  exact wpAny_mono h.run (fun _ _ q => q.run) fun _ _ x => x
theorem r_meth {o : Expr} {name : Str} {apos pos : Pos} {args : List Expr} (h : Wp prog w A (eval o e) (fun ov s₁ => ∀ pl, Wp prog w A (getMethod ov name pl) (fun fx s₂ => Wp prog w A (callWith pos fx.1 fx.2 (backTo pos (starEach args e)) []) Q s₂) s₁) s)
    {pl : Sem Bool} (he : eval (.Call (.Attribute o name apos) args [] pos) e = (do
      let ov ← eval o e
      standAt apos.atName
      let (f, first) ← holding [ov] (getMethod ov name pl)
      callWith pos f first (backTo pos (starEach args e)) []) := by with_unfolding_all rfl) :
    Wp prog w A (eval (.Call (.Attribute o name apos) args [] pos) e) Q s := by
  refine ⟨?_⟩
  have h' := wpAny_mono h.run (Q' := fun ov s₁ => wpAny (model prog w) A (getMethod ov name pl) (fun fx s₂ => wpAny (model prog w) A (callWith pos fx.1 fx.2 (backTo pos (starEach args e)) []) Q (fun _ _ => False) s₂) (fun _ _ => False) s₁) (fun ov s₁ q => wpAny_mono (q pl).run (fun _ _ q => q.run) fun _ _ x => x) fun _ _ x => x
  with_reducible exact MethodCall_ h' he
theorem a_nil {pos : Pos} {QL : List Value → Shared → Prop} (h : QL [] s) : Wp prog w A (spliced (backTo pos (starEach [] e))) QL s := ⟨args_nil h⟩
theorem a_cons {x : Expr} {xs : List Expr} {pos : Pos} {QL : List Value → Shared → Prop} (h : Wp prog w A (eval x e) (fun v s₁ => Wp prog w A (spliced (backTo pos (starEach xs e))) (fun vs s₂ => QL (v :: vs) s₂) s₁) s)
    (he : starEach (x :: xs) e = (false, eval x e) :: starEach xs e := by with_unfolding_all rfl) : Wp prog w A (spliced (backTo pos (starEach (x :: xs) e))) QL s := by
  refine ⟨?_⟩
  have h' := wpAny_mono h.run (fun _ _ q => q.run) fun _ _ x => x
  with_reducible exact args_cons h' he
theorem c_bi {pos : Pos} {id : String} {x : Expr} {xs : List Expr} (h : Wp prog w A (spliced (backTo pos (starEach (x :: xs) e))) (fun vs s₁ => Wp prog w A (call (.builtin id) vs) Q s₁) s)
    (he : starEach (x :: xs) e = (false, eval x e) :: starEach xs e := by with_unfolding_all rfl) (hp : (backTo pos (starEach xs e)).any (·.1) = false := by with_unfolding_all rfl) :
    Wp prog w A (callWith pos (.builtin id) [] (backTo pos (starEach (x :: xs) e)) []) Q s := by
  refine ⟨?_⟩
  have h' := wpAny_mono h.run (fun _ _ q => q.run) fun _ _ x => x
  with_reducible exact PyProof.Rows.callWith_builtin1 h' he hp
theorem c_ty {pos : Pos} {T : String} {x : Expr} {xs : List Expr} (h : Wp prog w A (spliced (backTo pos (starEach (x :: xs) e))) (fun vs s₁ => Wp prog w A (call (.type T) vs) Q s₁) s)
    (he : starEach (x :: xs) e = (false, eval x e) :: starEach xs e := by with_unfolding_all rfl) (hp : (backTo pos (starEach xs e)).any (·.1) = false := by with_unfolding_all rfl) :
    Wp prog w A (callWith pos (.type T) [] (backTo pos (starEach (x :: xs) e)) []) Q s := by
  refine ⟨?_⟩
  have h' := wpAny_mono h.run (fun _ _ q => q.run) fun _ _ x => x
  with_reducible exact PyProof.Rows.callWith_type1 h' he hp
theorem c_bm {pos : Pos} {id : String} {self : Value} {x : Expr} {xs : List Expr} (h : Wp prog w A (spliced (backTo pos (starEach (x :: xs) e))) (fun vs s₁ => Wp prog w A (call (.builtin id) (self :: vs)) Q s₁) s)
    (he : starEach (x :: xs) e = (false, eval x e) :: starEach xs e := by with_unfolding_all rfl) (hp : (backTo pos (starEach xs e)).any (·.1) = false := by with_unfolding_all rfl) :
    Wp prog w A (callWith pos (.builtin id) [self] (backTo pos (starEach (x :: xs) e)) []) Q s := by
  refine ⟨?_⟩
  have h' := wpAny_mono h.run (fun _ _ q => q.run) fun _ _ x => x
  exact PyProof.Rows.callWith_method1 h' he hp
theorem c_bm0 {pos : Pos} {id : String} {self : Value} (h : Wp prog w A (call (.builtin id) [self]) Q s) : Wp prog w A (callWith pos (.builtin id) [self] (backTo pos (starEach [] e)) []) Q s :=
  ⟨PyProof.Rows.callWith_method0 h.run⟩
/-- a def or a class of the text is called -/
theorem c_fn {pos : Pos} {fa : Addr} {x : Expr} {xs : List Expr} (hk : ∀ P, keepIn (hd.heap_1 P) (.ref fa) = true)
    (h : Wp prog w A (spliced (backTo pos (starEach (x :: xs) e))) (fun vs s₁ => Gd w s₁.heap ∧ Wp prog w A (call (.ref fa) vs) Q s₁) s)
    (he : starEach (x :: xs) e = (false, eval x e) :: starEach xs e := by with_unfolding_all rfl) (hp : (backTo pos (starEach xs e)).any (·.1) = false := by with_unfolding_all rfl) :
    Wp prog w A (callWith pos (.ref fa) [] (backTo pos (starEach (x :: xs) e)) []) Q s := by
  refine ⟨?_⟩
  have h' := wpAny_mono h.run (fun _ _ q => q) fun _ _ x => x
  rw [he] at h' ⊢
  refine callWith_of (P := fun h => (hd.heap_1 w.params).In h) (by show ((false || (backTo pos (starEach xs e)).any (·.1)) || false) = false; rw [hp]; rfl) (keeps_K (hk _)) (evalArgs_plain (wpAny_mono h' (fun vs s₁ q => ⟨q.1.X, q.2.run⟩) fun _ _ x => x))
theorem c_fm {pos : Pos} {fa : Addr} {self : Value} {x : Expr} {xs : List Expr} (hk : ∀ P, keepIn (hd.heap_1 P) (.ref fa) = true)
    (h : Wp prog w A (spliced (backTo pos (starEach (x :: xs) e))) (fun vs s₁ => Gd w s₁.heap ∧ Wp prog w A (call (.ref fa) (self :: vs)) Q s₁) s)
    (he : starEach (x :: xs) e = (false, eval x e) :: starEach xs e := by with_unfolding_all rfl) (hp : (backTo pos (starEach xs e)).any (·.1) = false := by with_unfolding_all rfl) :
    Wp prog w A (callWith pos (.ref fa) [self] (backTo pos (starEach (x :: xs) e)) []) Q s := by
  refine ⟨?_⟩
  have h' := wpAny_mono h.run (fun _ _ q => q) fun _ _ x => x
  rw [he] at h' ⊢
  refine callWith_of (P := fun h => (hd.heap_1 w.params).In h) (by show ((false || (backTo pos (starEach xs e)).any (·.1)) || false) = false; rw [hp]; rfl) (keeps_K (hk _)) (evalArgs_plain (wpAny_mono h' (fun vs s₁ q => ⟨q.1.X, q.2.run⟩) fun _ _ x => x))
theorem c_fn0 {pos : Pos} {fa : Addr} (hk : ∀ P, keepIn (hd.heap_1 P) (.ref fa) = true) (G : Gd w s.heap) (h : Wp prog w A (call (.ref fa) []) Q s) :
    Wp prog w A (callWith pos (.ref fa) [] (backTo pos (starEach [] e)) []) Q s := ⟨callWith_K0 G.X (hk _) h.run⟩
theorem c_fm0 {pos : Pos} {fa : Addr} {self : Value} (hk : ∀ P, keepIn (hd.heap_1 P) (.ref fa) = true) (G : Gd w s.heap) (h : Wp prog w A (call (.ref fa) [self]) Q s) :
    Wp prog w A (callWith pos (.ref fa) [self] (backTo pos (starEach [] e)) []) Q s := ⟨callWith_K0 G.X (hk _) h.run⟩

-- subscripts
theorem r_sub' {value slice : Expr} {pos : Pos} (h : Wp prog w A (eval value e) (fun o s₁ => Wp prog w A (eval slice e) (fun i s₂ => Wp prog w A (subscriptTail value slice o i) Q s₂) s₁) s) :
    Wp prog w A (eval (.Subscript value slice pos) e) Q s := by
  refine ⟨?_⟩
  have h' := wpAny_mono h.run (fun _ _ q => wpAny_mono q.run (fun _ _ q => q.run) fun _ _ x => x) fun _ _ x => x
  with_reducible exact Subscript_ h'
theorem i_list {value slice : Expr} {l : Addr} {items : List Value} {k : Int} {u : Tok} {v : Value} (hl : s.heap.IsList l items.toArray) (h0 : 0 ≤ k) (h1 : k < 2 ^ 62) (hx : items[k.toNat]? = some v) (h : Q v s)
    (hs : subscripted slice false (.ref l) (.int k u) = operate [.ref l, .int k u] (getItem (.ref l) (.int k u)) := by with_unfolding_all rfl) : Wp prog w A (subscriptTail value slice (.ref l) (.int k u)) Q s :=
  ⟨tail_any hl.typeIs slot_list_getitem.lookup (wpAny_getItem_list hl h0 (by omega) (by simpa using hx) h) hs⟩
theorem i_tup {value slice : Expr} {l : Addr} {items : List Value} {k : Int} {u : Tok} {v : Value} (hl : TObj s.heap l items) (h0 : 0 ≤ k) (h1 : k < 2 ^ 62) (hx : items[k.toNat]? = some v) (h : Q v s)
    (hs : subscripted slice false (.ref l) (.int k u) = operate [.ref l, .int k u] (getItem (.ref l) (.int k u)) := by with_unfolding_all rfl) : Wp prog w A (subscriptTail value slice (.ref l) (.int k u)) Q s := by
  refine ⟨item_tupleT (j := k.toNat) hl.isTup (by omega) (by omega) ?_ hx h hs⟩
  have hlt : k.toNat < items.length := (List.getElem?_eq_some_iff.mp hx).1
  have e1 : (if k < 0 then k + (items.length : Int) else k) = k := if_neg (by omega)
  have e2 : (decide (0 ≤ k) && decide (k < (items.length : Int))) = true := by simp only [Bool.and_eq_true, decide_eq_true_eq]; omega
  simp only [seqIndex?, e1, e2, if_true]
end

end Mine
namespace Mine



section
variable {prog : Program} {w : World} {A : Around} {s₀ s : Shared} {g : Heap} {L : Addr} {ns gs : List Str} {loc loc' : List (Option Value)} {mu : List (Addr × MO)} {e : Env}
variable {Q : Value → Shared → Prop} {QF : Flow → Shared → Prop} {QU : Unit → Shared → Prop} {QB : Bool → Shared → Prop} {rest : List Stmt}

theorem St.lst {a : Addr} {items : List Value} (S : St w s₀ g L ns loc mu s) (h : (a, MO.list items) ∈ mu) : LObj s.heap a items := S.ml _ h
theorem St.tup {a : Addr} {items : List Value} (S : St w s₀ g L ns loc mu s) (h : (a, MO.tup items) ∈ mu) : TObj s.heap a items := S.ml _ h

-- displays
theorem r_list {elts : List Expr} {pos : Pos} (h : Wp prog w A (spliced (backTo pos (starEach elts e))) (fun vs s₁ => Wp prog w A (newList vs) Q s₁) s) : Wp prog w A (eval (.List elts pos) e) Q s := by
  refine ⟨?_⟩
  have h' := wpAny_mono h.run (fun _ _ q => q.run) fun _ _ x => x
  with_reducible exact List_ h'
theorem r_tuple {elts : List Expr} {k : Nat} {pos : Pos} (h : Wp prog w A (spliced (backTo pos (starEach elts e))) (fun vs s₁ => Wp prog w A (newTuple vs) Q s₁) s) : Wp prog w A (eval (.Tuple elts k pos) e) Q s := by
  refine ⟨?_⟩
  have h' := wpAny_mono h.run (fun _ _ q => q.run) fun _ _ x => x
  with_reducible exact Tuple_ h'
theorem n_list {vs : List Value} (S : St w s₀ g L ns loc mu s) (hz : vs.length ≤ sizeLine) (k : ∀ a s', s.heap.get? a = none → Sub s.heap s'.heap → St w s₀ g L ns loc ((a, .list vs) :: mu) s' → Q (.ref a) s') : Wp prog w A (newList vs) Q s := by
  have hn : s.heap.get? s.heap.objs.size = none := by
    cases q : s.heap.get? s.heap.objs.size with
    | none => rfl
    | some o => exact absurd (Heap.lt_size q) (Nat.lt_irrefl _)
  refine ⟨wpAny_newObj_type (k _ _ hn (fun b o x => Heap.get?_push_of_some _ x) (S.alloc (m := .list vs) (t := s.toks) ⟨_, Heap.get?_push_size _ rfl⟩)) (by show vs.toArray.size ≤ sizeLine; rw [List.size_toArray]; exact hz)⟩
theorem n_tuple {vs : List Value} (S : St w s₀ g L ns loc mu s) (hz : vs.length ≤ sizeLine) (k : ∀ a s', s.heap.get? a = none → Sub s.heap s'.heap → St w s₀ g L ns loc ((a, .tup vs) :: mu) s' → Q (.ref a) s') : Wp prog w A (newTuple vs) Q s := by
  have hn : s.heap.get? s.heap.objs.size = none := by
    cases q : s.heap.get? s.heap.objs.size with
    | none => rfl
    | some o => exact absurd (Heap.lt_size q) (Nat.lt_irrefl _)
  refine ⟨wpAny_newObj_type (k _ _ hn (fun b o x => Heap.get?_push_of_some _ x) (S.alloc (m := .tup vs) (t := s.toks) ⟨_, Heap.get?_push_size _ rfl⟩)) (by show vs.toArray.size ≤ sizeLine; rw [List.size_toArray]; exact hz)⟩

-- a list against the empty one
theorem q_ne_nil {n : Nat} {a b : Addr} {items : List Value} (Am : Amb n A) (ha : LObj s.heap a items) (hb : LObj s.heap b []) (h : Q (.bool (!items.isEmpty)) s) : Wp prog w A (compareOp .NotEq (.ref a) (.ref b)) Q s := by
  refine ⟨?_⟩
  cases items with
  | nil => exact PySem.SeqAt.RcNeAt.lists (e := fun _ => true) ha.isList hb.isList rfl Am.units (fun j h1 => absurd h1 (Nat.not_lt_zero _)) prog w _ Q (by simpa using h)
  | cons x r => exact PySem.SeqAt.RcNeAt.lists_lengths ha.isList hb.isList (by simp) Am.units prog w _ Q (by simpa using h)
theorem q_eq_nil {n : Nat} {a b : Addr} {items : List Value} (Am : Amb n A) (ha : LObj s.heap a items) (hb : LObj s.heap b []) (h : Q (.bool items.isEmpty) s) : Wp prog w A (compareOp .Eq (.ref a) (.ref b)) Q s := by
  refine ⟨?_⟩
  cases items with
  | nil => exact PySem.SeqAt.RcAt.lists (e := fun _ => true) ha.isList hb.isList rfl Am.units (fun j h1 => absurd h1 (Nat.not_lt_zero _)) prog w _ Q (by simpa using h)
  | cons x r => exact PySem.SeqAt.RcAt.lists_lengths ha.isList hb.isList (by simp) Am.units prog w _ Q (by simpa using h)

-- two names out of a tuple
theorem r_bindName {x : Str} {v : Value} (h : Wp prog w A (storeName e x v) QU s) : Wp prog w A (bindName e x v) QU s := ⟨wpAny_bindName h.run⟩
theorem x_unpack2 {x y : Str} {px py : Pos} {k : Nat} {tpos : Pos} {value : Expr} {pos : Pos} {n : Nat} (Am : Amb n A)
    (h : Wp prog w A (eval value e) (fun v s₁ => ∃ a v1 v2, v = .ref a ∧ TObj s₁.heap a [v1, v2] ∧ ∀ s₂, After s₁ s₂ → Wp prog w A (storeName e x v1) (fun _ s₃ => Wp prog w A (storeName e y v2) (fun _ s₄ => Wp prog w A (execs rest e) QF s₄) s₃) s₂) s)
    (hs : swapsWithSole [.Tuple [.Name x px, .Name y py] k tpos] value pos.line e = pure false := by with_unfolding_all rfl)
    (hw : swappedStores [.Tuple [.Name x px, .Name y py] k tpos] value e = pure none := by with_unfolding_all rfl) :
    Wp prog w A (execs (.Assign [.Tuple [.Name x px, .Name y py] k tpos] value pos :: rest) e) QF s := by
  refine wp_cons (Assign_Tuple (wpAny_mono h.run (fun v s₁ q => ?_) fun _ _ x => x) hs hw)
  obtain ⟨a, v1, v2, rfl, ht, k⟩ := q
  refine wpAny_assign_Tuple Am.hd (items := #[v1, v2]) ht.isTup rfl rfl fun h' he => ?_
  have K := k { s₁ with heap := h' } ⟨rfl, rfl, rfl, fun b o q => he b o (Nat.ne_of_lt (Heap.lt_size q)) q⟩
  show wpAny _ _ (do holding [v2] (assign (.Name x px) e v1); do holding [] (assign (.Name y py) e v2); pure ()) _ _ _
  refine wpAny_bind (wpAny_holding (wpAny_assign_Name (wpAny_mono K.run (fun _ s₃ q => ?_) fun _ _ x => x)))
  exact wpAny_bind (wpAny_holding (wpAny_assign_Name (wpAny_mono q.run (fun _ s₄ q => wpAny_pure (then_next q)) fun _ _ x => x)))
end

end Mine
namespace Mine



structure Cp (prog : Program) (w : World) (A : Around) (c : Code) (R : Flow → Shared → Prop) (s : Shared) : Prop where
  run : codeAny (model prog w) A c (fun r s' => match r with | .ok f => R f s' | .error _ => False) s

/-- an iterator that stands at its start -/
def It (prog : Program) (w : World) (A : Around) (g : Heap) (I : Addr) (n : Nat) (P : Nat → Value → Prop) (h : Heap) : Prop :=
  ∃ fp Sti, Walks prog w A I fp [I] n P Sti ∧ Sti 0 h ∧ (∀ i h, Sti i h → ∃ o, h.get? I = some o) ∧ ∀ b ∈ fp, b ≠ I → ∃ o, g.get? b = some o

/-- how a turn of a loop ends: it goes on (N), or it leaves the loop -/
def Turn (N : Shared → Prop) (R : Flow → Shared → Prop) : Flow → Shared → Prop := fun f s => match f with
  | .next | .cont => N s
  | .brk => R .next s
  | .ret v => R (.ret v) s
theorem turn_next {N : Shared → Prop} {R : Flow → Shared → Prop} {s} (h : N s) : Turn N R .next s := h
theorem turn_brk {N : Shared → Prop} {R : Flow → Shared → Prop} {s} (h : R .next s) : Turn N R .brk s := h
theorem turn_ret {N : Shared → Prop} {R : Flow → Shared → Prop} {s v} (h : R (.ret v) s) : Turn N R (.ret v) s := h

section
variable {prog : Program} {w : World} {A : Around} {s₀ s : Shared} {g : Heap} {L : Addr} {ns gs : List Str} {loc loc' : List (Option Value)} {mu : List (Addr × MO)} {e : Env}
variable {Q : Value → Shared → Prop} {QF : Flow → Shared → Prop} {QU : Unit → Shared → Prop} {QB : Bool → Shared → Prop} {rest : List Stmt}

theorem x_for {target iter : Expr} {body : List Stmt} {pos : Pos} (h : Wp prog w A (eval iter e) (fun v s₁ => Wp prog w A (pyIter v) (fun it s₂ => Cp prog w A (.forLoop target it body [] e) (Then prog w A rest e QF) s₂) s₁) s)
    (hs : ∀ x, foldedSetIterable iter e x = pure x := by intro _; with_unfolding_all rfl) : Wp prog w A (execs (.For target iter body [] pos :: rest) e) QF s := by
  refine wp_cons ?_
  have h' := wpAny_mono h.run (fun _ _ q => wpAny_mono q.run (fun _ _ q => codeAny_mono q.run (R' := fun r s' => match r with | .ok f => Then prog w A rest e QF f s' | .error x => cameBackBy (model prog w) A e (fun _ _ => False) x s') (fun r s' q => by cases r <;> first | exact q | exact q.elim)) fun _ _ x => x) fun _ _ x => x
  exact wpAny_For h' hs

theorem St.alloc' {o : Obj} {m : MO} (S : St w s₀ g L ns loc mu s) (hm : m.At (s.heap.push o) s.heap.objs.size) : St w s₀ g L ns loc ((s.heap.objs.size, m) :: mu) { s with heap := s.heap.push o } := S.alloc (t := s.toks) hm

-- ranges
def RangeIs (h : Heap) (r : Addr) (a b : Int) : Prop := ∃ t u v, IsRange h r a b 1 t u v
theorem r_range1 {n : Int} {t : Tok} (S : St w s₀ g L ns loc mu s) (k : ∀ r s', RangeIs s'.heap r 0 n → St w s₀ g L ns loc mu s' → Q (.ref r) s') : Wp prog w A (call (.type "range") [.int n t]) Q s := by
  refine ⟨call_range_1 (k _ _ ⟨_, _, _, Heap.get?_push_size _ rfl⟩ (S.growH fun b o x => Heap.get?_push_of_some _ x))⟩
theorem r_range2 {a b : Int} {t u : Tok} (S : St w s₀ g L ns loc mu s) (k : ∀ r s', RangeIs s'.heap r a b → St w s₀ g L ns loc mu s' → Q (.ref r) s') : Wp prog w A (call (.type "range") [.int a t, .int b u]) Q s := by
  refine ⟨call_range_2 (k _ _ ⟨_, _, _, Heap.get?_push_size _ rfl⟩ (S.growH fun b o x => Heap.get?_push_of_some _ x))⟩
theorem p_range {k : Nat} {r : Addr} {a b : Int} (Am : Amb k A) (S : St w s₀ g L ns loc mu s) (hr : RangeIs s.heap r a b) (ha : -(2 ^ 62) ≤ a) (ha' : a < 2 ^ 62) (hb : -(2 ^ 62) ≤ b) (hb' : b < 2 ^ 62)
    (h : ∀ I oI s', It prog w A g I (b - a).toNat (fun i v => ∃ t, v = .int (a + i) t) s'.heap → St w s₀ g L ns loc ((I, .obj oI) :: mu) s' → Q (.ref I) s') : Wp prog w A (pyIter (.ref r)) Q s := by
  obtain ⟨t, u, v, hr⟩ := hr
  have hsz : Builtin.Range.rangeSize a b 1 = ((b - a).toNat : Int) := by rw [rangeSize_one]; split <;> omega
  have W := Walks.range (prog := prog) (w := w) Am.hd s.heap.objs.size a 1 (b - a).toNat
  have e0 : (fun (i : Nat) (v : Value) => ∃ t, v = .int (a + i * 1) t) = fun (i : Nat) v => ∃ t, v = .int (a + i) t := by funext i v; rw [Int.mul_one]
  rw [e0] at W
  refine ⟨wpAny_pyIter_range hr (small_one ha ha' hb hb') ?_⟩
  refine h s.heap.objs.size _ _ ⟨_, _, W, ?_, fun _ _ q => ⟨_, q⟩, fun b hb hne => absurd (List.mem_singleton.mp hb) hne⟩ (S.alloc' (m := .obj _) (Heap.get?_push_size _ rfl))
  show IsRangeIter _ _ _ _ _
  rw [hsz]
  have e1 : a + ((0 : Nat) : Int) * 1 = a := by omega
  have e2 : ((b - a).toNat : Int) - ((0 : Nat) : Int) = ((b - a).toNat : Int) := by omega
  rw [e1, e2]
  exact Heap.get?_push_size _ rfl
theorem p_list {k : Nat} {l : Addr} {items : List Value} (Am : Amb k A) (S : St w s₀ g L ns loc mu s) (hl : g.IsList l items.toArray)
    (h : ∀ I oI s', It prog w A g I items.length (fun i v => items[i]? = some v) s'.heap → St w s₀ g L ns loc ((I, .obj oI) :: mu) s' → Q (.ref I) s') : Wp prog w A (pyIter (.ref l)) Q s := by
  obtain ⟨o0, hg, hcd⟩ := id hl
  have hl' : s.heap.IsList l items.toArray := ⟨o0, S.keep _ _ hg, hcd⟩
  have hne : l ≠ s.heap.objs.size := Nat.ne_of_lt (Heap.lt_size (S.keep _ _ hg))
  have W := Walks.list (prog := prog) (w := w) Am.hd s.heap.objs.size l hne items.toArray
  have e : items.toArray.size = items.length := by simp
  rw [e] at W
  have e2 : (fun (i : Nat) v => items.toArray[i]? = some v) = fun i v => items[i]? = some v := by funext i v; simp
  rw [e2] at W
  refine ⟨wpAny_pyIter_list hl' ?_⟩
  refine h s.heap.objs.size _ _ ⟨_, _, W, ?_, fun _ _ q => let ⟨o, q, _⟩ := q.1; ⟨o, q⟩, fun b hb hne => ?_⟩ (S.alloc' (m := .obj _) (Heap.get?_push_size _ rfl))
  · exact ⟨⟨_, Heap.get?_push_size _ rfl, rfl, rfl⟩, hl'.push _⟩
  · rcases List.mem_cons.mp hb with rfl | hb
    · exact absurd rfl hne
    · rw [List.mem_singleton.mp hb]; exact ⟨_, hg⟩
theorem p_str {k : Nat} {x : Str} {t : Tok} (Am : Amb k A) (S : St w s₀ g L ns loc mu s)
    (h : ∀ I oI s', It prog w A g I x.cps.size (SignAt x) s'.heap → St w s₀ g L ns loc ((I, .obj oI) :: mu) s' → Q (.ref I) s') : Wp prog w A (pyIter (.str x t)) Q s := by
  cases ha : x.cps.all (· < 128)
  · refine ⟨wpAny_pyIter_wide ha ?_⟩
    refine h s.heap.objs.size _ _ ⟨_, _, Walks.strWide Am.hd s.heap.objs.size x t, ?_, fun _ _ q => let ⟨o, q, _⟩ := q; ⟨o, q⟩, fun b hb hne => absurd (List.mem_singleton.mp hb) hne⟩ (S.alloc' (m := .obj _) (Heap.get?_push_size _ rfl))
    exact ⟨_, Heap.get?_push_size _ rfl, rfl, rfl⟩
  · refine ⟨wpAny_pyIter_ascii ha ?_⟩
    refine h s.heap.objs.size _ _ ⟨_, _, Walks.strAscii Am.hd s.heap.objs.size x t, ?_, fun _ _ q => let ⟨o, q, _⟩ := q; ⟨o, q⟩, fun b hb hne => absurd (List.mem_singleton.mp hb) hne⟩ (S.alloc' (m := .obj _) (Heap.get?_push_size _ rfl))
    exact ⟨_, Heap.get?_push_size _ rfl, rfl, rfl⟩

/-- a loop over an iterator: the frame's names are «lo σ o» (o: the loop's own name), the ledger «muOf σ», σ what the turns carry -/
theorem loop {σ : Type} {I : Addr} {oI : Obj} {n : Nat} {P : Nat → Value → Prop} {x : Str} {px : Pos} {body : List Stmt} {R : Flow → Shared → Prop} {o₀ : Option Value} {σ₀ : σ}
    (lo : σ → Option Value → List (Option Value)) (muOf : σ → List (Addr × MO)) (J : Nat → Heap → σ → Prop)
    (C : Fn e L ns gs) (W : It prog w A g I n P s.heap) (S : St w s₀ g L ns (lo σ₀ o₀) ((I, .obj oI) :: muOf σ₀) s) (hput : ∀ σ o v, Put ns (lo σ o) x v (lo σ (some v)))
    (J0 : J 0 g σ₀)
    (turn : ∀ i v g' σ oI s', i < n → P i v → Sub g g' → J i g' σ → St w s₀ g' L ns (lo σ (some v)) ((I, .obj oI) :: muOf σ) s' →
      Wp prog w A (execs body e) (Turn (fun s'' => ∃ g'' σ' o, Sub g' g'' ∧ J (i + 1) g'' σ' ∧ St w s₀ g'' L ns (lo σ' o) ((I, .obj oI) :: muOf σ') s'') R) s')
    (done : ∀ g' σ o s', Sub g g' → J n g' σ → St w s₀ g' L ns (lo σ o) (muOf σ) s' → R .next s') :
    Cp prog w A (.forLoop (.Name x px) (.ref I) body [] e) R s := by
  obtain ⟨fp, Sti, W, hst, hio, hfp⟩ := W
  refine ⟨?_⟩
  refine codeAny_forLoop (fun k s' => ∃ i g' σ o oI, k = n + 1 - i ∧ i ≤ n ∧ Sub g g' ∧ J i g' σ ∧ Sti i s'.heap ∧ St w s₀ g' L ns (lo σ o) ((I, .obj oI) :: muOf σ) s') ?_ (n + 1)
    ⟨0, g, σ₀, o₀, oI, rfl, Nat.zero_le _, Sub.rfl', J0, hst, S⟩
  rintro k s' ⟨i, g', σ, o, oI, rfl, hi, hg, hJ, hsti, S'⟩
  have hIm := S'.ml _ (List.mem_cons_self ..)
  have hIf := S'.mf _ (List.mem_cons_self ..)
  -- what stands when only the iterator has turned
  have moved : ∀ (h' : Heap) (tk : Nat), (∀ b ob, b ∉ [I] → s'.heap.get? b = some ob → h'.get? b = some ob) → St w s₀ g' L ns (lo σ o) (muOf σ) { s' with heap := h', toks := tk } := by
    intro h' tk hk
    have T := S'.less (List.sublist_cons_self ..)
    have hIn : ∀ b ob, g'.get? b = some ob → b ≠ I := fun b ob q r => by rw [r, hIf.1] at q; cases q
    refine ⟨T.gens, T.drawn, T.os, ?_, T.nd, fun b ob q => hk b ob (fun r => hIn b ob q (List.mem_singleton.mp r)) (T.keep b ob q), T.nL, fun p hp => (T.ml p hp).of fun ob q => hk _ ob (fun r => ?_) q, T.mf, T.mn, T.gd⟩
    · exact T.nsp.at' fun ob q => hk _ ob (fun r => hIf.2 (List.mem_singleton.mp r).symm) q
    · have := S'.mn
      simp only [List.map_cons, List.nodup_cons] at this
      exact this.1 (List.mem_singleton.mp r ▸ List.mem_map_of_mem hp)
  have back : ∀ (s₁ : Shared) (o₁ : Obj), St w s₀ g' L ns (lo σ o) (muOf σ) s₁ → s₁.heap.get? I = some o₁ → St w s₀ g' L ns (lo σ o) ((I, .obj o₁) :: muOf σ) s₁ := by
    intro s₁ o₁ T ho
    refine ⟨T.gens, T.drawn, T.os, T.nsp, T.nd, T.keep, T.nL, fun p hp => ?_, fun p hp => ?_, S'.mn, T.gd⟩
    · rcases List.mem_cons.mp hp with rfl | hp
      · exact ho
      · exact T.ml p hp
    · rcases List.mem_cons.mp hp with rfl | hp
      · exact hIf
      · exact T.mf p hp
  by_cases hlt : i < n
  · refine W.item i _ _ _ hlt hsti fun v h₁ tk₁ hP hst₁ hk₁ => ?_
    have T := moved h₁ tk₁ hk₁
    obtain ⟨oI', hoI'⟩ := hio _ _ hst₁
    have T' := back _ oI' T hoI'
    refine wpAny_assign_Name ?_
    refine wpAny_mono (r_store (prog := prog) (A := A) (QU := fun _ s₂ => St w s₀ g' L ns (lo σ (some v)) ((I, .obj oI') :: muOf σ) s₂) C T' (hput σ o v) fun s₂ S₂ => S₂).run (fun _ s₂ S₂ => ?_) fun _ _ x => x.elim
    have same : ∀ (s₃ : Shared) (g'' : Heap) (l : List (Option Value)) (m : List (Addr × MO)), Sub g' g'' → St w s₀ g'' L ns l ((I, .obj oI') :: m) s₃ → Sti (i + 1) s₃.heap := by
      intro s₃ g'' l m hs S₃
      refine W.frame _ _ _ hst₁ fun b hb ob hq => ?_
      by_cases hbI : b = I
      · rw [hbI] at hq ⊢
        have h2 : s₃.heap.get? I = some oI' := S₃.ml _ (List.mem_cons_self ..)
        rw [hoI'] at hq; rw [h2]; exact hq
      · obtain ⟨o2, ho2⟩ := hfp b hb hbI
        have h1 := T.keep _ _ (hg _ _ ho2)
        have h2 := S₃.keep _ _ (hs _ _ (hg _ _ ho2))
        rw [h1] at hq; rw [h2]; exact hq
    have Tn := turn i v g' σ oI' s₂ hlt hP hg hJ S₂
    refine wpAny_mono Tn.run (fun f s₃ q => ?_) fun _ _ x => x.elim
    have fin : (∃ g'' σ' o, Sub g' g'' ∧ J (i + 1) g'' σ' ∧ St w s₀ g'' L ns (lo σ' o) ((I, .obj oI') :: muOf σ') s₃) → ∃ m, m < n + 1 - i ∧ ∃ i g' σ o oI, m = n + 1 - i ∧ i ≤ n ∧ Sub g g' ∧ J i g' σ ∧ Sti i s₃.heap ∧ St w s₀ g' L ns (lo σ o) ((I, .obj oI) :: muOf σ) s₃ := by
      rintro ⟨g'', σ', o', hs, hj, S₃⟩
      exact ⟨n + 1 - (i + 1), by omega, i + 1, g'', σ', o', oI', rfl, hlt, hg.trans hs, hj, same s₃ g'' _ _ hs S₃, S₃⟩
    cases f with
    | next => exact fin q
    | cont => exact fin q
    | brk => exact q
    | ret v => exact q
  · have hin : i = n := by omega
    subst hin
    refine W.done _ _ _ hsti fun h₁ tk₁ hk₁ => wpAny_execs_nil ?_
    exact done g' σ o _ hg hJ (moved h₁ tk₁ hk₁)
end

end Mine
namespace Mine



theorem IntsAre.get' {vs : List Value} {ns : List Int} (h : IntsAre vs ns) {i : Nat} {k : Int} (hk : ns[i]? = some k) : ∃ t, vs[i]? = some (.int k t) := by
  induction h generalizing i with
  | nil => simp at hk
  | cons n t _ ih =>
    cases i with
    | zero => simp at hk; subst hk; exact ⟨t, rfl⟩
    | succ i => simp at hk; simpa using ih hk
theorem IntsAre.len' {vs : List Value} {ns : List Int} (h : IntsAre vs ns) : vs.length = ns.length := by
  induction h with
  | nil => rfl
  | cons n t _ ih => simp [ih]

theorem blt_len : Blt (Str.ofString "len") (.builtin "len") := ⟨fun _ => by kernel_rfl, by decide +kernel, by decide⟩
theorem blt_max : Blt (Str.ofString "max") (.builtin "max") := ⟨fun _ => by kernel_rfl, by decide +kernel, by decide⟩
theorem blt_min : Blt (Str.ofString "min") (.builtin "min") := ⟨fun _ => by kernel_rfl, by decide +kernel, by decide⟩
theorem blt_range : Blt (Str.ofString "range") (.type "range") := ⟨fun _ => by kernel_rfl, by decide +kernel, by decide⟩

theorem blt_tuple : Blt (Str.ofString "tuple") (.type "tuple") := ⟨fun _ => by kernel_rfl, by decide +kernel, by decide⟩
theorem blt_sorted : Blt (Str.ofString "sorted") (.builtin "sorted") := ⟨fun _ => by kernel_rfl, by decide +kernel, by decide⟩
theorem blt_type : Blt (Str.ofString "type") (.type "type") := ⟨fun _ => by kernel_rfl, by decide +kernel, by decide⟩
theorem blt_int : Blt (Str.ofString "int") (.type "int") := ⟨fun _ => by kernel_rfl, by decide +kernel, by decide⟩
theorem glb_strcoll : Glb (Str.ofString "_strcoll") (.ref 28) := fun _ => by kernel_rfl
theorem glb_ws : Glb (Str.ofString "Whitespace") (.ref 90) := fun _ => by kernel_rfl
theorem glb_tok : Glb (Str.ofString "EXACT_TOKEN_TYPES") (.ref 95) := fun _ => by kernel_rfl
theorem glb_names : Glb (Str.ofString "_law_names") (.ref 104) := fun _ => by kernel_rfl
theorem glb_read : Glb (Str.ofString "_law_read") (.ref 111) := fun _ => by kernel_rfl
theorem glb_lead : Glb (Str.ofString "_law_lead") (.ref 116) := fun _ => by kernel_rfl
theorem glb_told : Glb (Str.ofString "_law_told") (.ref 123) := fun _ => by kernel_rfl
theorem glb_columns : Glb (Str.ofString "_law_columns") (.ref 130) := fun _ => by kernel_rfl
theorem glb_ways : Glb (Str.ofString "_law_ways") (.ref 135) := fun _ => by kernel_rfl
theorem kp28 (P) : keepIn (hd.heap_1 P) (.ref 28) = true := by kernel_rfl
theorem kp52 (P) : keepIn (hd.heap_1 P) (.ref 52) = true := by kernel_rfl
theorem kp59 (P) : keepIn (hd.heap_1 P) (.ref 59) = true := by kernel_rfl
theorem kp66 (P) : keepIn (hd.heap_1 P) (.ref 66) = true := by kernel_rfl
theorem kp80 (P) : keepIn (hd.heap_1 P) (.ref 80) = true := by kernel_rfl
theorem kp90 (P) : keepIn (hd.heap_1 P) (.ref 90) = true := by kernel_rfl
theorem kp104 (P) : keepIn (hd.heap_1 P) (.ref 104) = true := by kernel_rfl
theorem kp111 (P) : keepIn (hd.heap_1 P) (.ref 111) = true := by kernel_rfl
theorem kp116 (P) : keepIn (hd.heap_1 P) (.ref 116) = true := by kernel_rfl
theorem kp123 (P) : keepIn (hd.heap_1 P) (.ref 123) = true := by kernel_rfl
theorem kp130 (P) : keepIn (hd.heap_1 P) (.ref 130) = true := by kernel_rfl
theorem kp135 (P) : keepIn (hd.heap_1 P) (.ref 135) = true := by kernel_rfl

structure Ws where
  n : Int
  nt : Int
  cnt : List Int
  b : Int
def methNames : List Str := [Str.ofString "longest_run_of_spaces", Str.ofString "indent_level", Str.ofString "equal", Str.ofString "less"]
/-- an object of the class Whitespace; P holds of all its parts' addresses -/
def WsAt (P : Addr → Prop) (h : Heap) (a : Addr) (ws : Ws) : Prop :=
  ∃ dx es m t1 t2 vs k1 k2 k3, P a ∧ P dx ∧ P t1 ∧ P t2 ∧ h.get? a = some (instObj 90 dx) ∧ h.get? dx = some (dictOf es m) ∧ getL "n" es = some (some (.int ws.n k1)) ∧ getL "nt" es = some (some (.int ws.nt k2)) ∧
    getL "norm" es = some (some (.ref t1)) ∧ getL "is_simple" es = some (some (.bool (decide (ws.cnt.length ≤ 1)))) ∧ (∀ x ∈ methNames, getL x es = some none) ∧ TObj h t1 [.ref t2, .int ws.b k3] ∧ TObj h t2 vs ∧ IntsAre vs ws.cnt
theorem WsAt.via {P P' : Addr → Prop} {h h' : Heap} {a : Addr} {ws : Ws} (x : WsAt P h a ws) (k : ∀ b o, P b → h.get? b = some o → P' b ∧ h'.get? b = some o) : WsAt P' h' a ws := by
  obtain ⟨dx, es, m, t1, t2, vs, k1, k2, k3, p1, p2, p3, p4, q1, q2, r1, r2, r3, r4, r5, ⟨n1, q3⟩, ⟨n2, q4⟩, i⟩ := x
  exact ⟨dx, es, m, t1, t2, vs, k1, k2, k3, (k _ _ p1 q1).1, (k _ _ p2 q2).1, (k _ _ p3 q3).1, (k _ _ p4 q4).1, (k _ _ p1 q1).2, (k _ _ p2 q2).2, r1, r2, r3, r4, r5, ⟨n1, (k _ _ p3 q3).2⟩, ⟨n2, (k _ _ p4 q4).2⟩, i⟩
theorem WsAt.mono {P : Addr → Prop} {h h' : Heap} {a : Addr} {ws : Ws} (x : WsAt P h a ws) (s : Sub h h') : WsAt P h' a ws := x.via fun b o p q => ⟨p, s b o q⟩

theorem pg90 (P) : plainGet (hd.heap_1 P) 90 "" = true := by kernel_rfl
theorem hd90 (P) : hasDictIn (hd.heap_1 P) 90 = true := by kernel_rfl
theorem fn_n (P) : findIn (hd.heap_1 P) (.ref 90) "n" = some none := by kernel_rfl
theorem fn_nt (P) : findIn (hd.heap_1 P) (.ref 90) "nt" = some none := by kernel_rfl
theorem fn_norm (P) : findIn (hd.heap_1 P) (.ref 90) "norm" = some none := by kernel_rfl
theorem fn_simple (P) : findIn (hd.heap_1 P) (.ref 90) "is_simple" = some none := by kernel_rfl
theorem fm_long (P) : findIn (hd.heap_1 P) (.ref 90) "longest_run_of_spaces" = some (some (.ref 52)) := by kernel_rfl
theorem fm_indent (P) : findIn (hd.heap_1 P) (.ref 90) "indent_level" = some (some (.ref 59)) := by kernel_rfl
theorem fm_equal (P) : findIn (hd.heap_1 P) (.ref 90) "equal" = some (some (.ref 66)) := by kernel_rfl
theorem fm_less (P) : findIn (hd.heap_1 P) (.ref 90) "less" = some (some (.ref 80)) := by kernel_rfl

section
variable {prog : Program} {w : World} {A : Around} {s₀ s : Shared} {g : Heap} {L : Addr} {ns gs : List Str} {loc loc' : List (Option Value)} {mu : List (Addr × MO)} {e : Env}
variable {Q : Value → Shared → Prop} {QF : Flow → Shared → Prop} {QU : Unit → Shared → Prop} {QB : Bool → Shared → Prop} {rest : List Stmt}

theorem r_attr {x attr : Str} {xp pos : Pos} (h : Wp prog w A (eval (.Name x xp) e) (fun o s₁ => Wp prog w A (getAttr o attr true) Q s₁) s) : Wp prog w A (eval (.Attribute (.Name x xp) attr pos) e) Q s := by
  refine ⟨?_⟩
  have h' := wpAny_mono h.run (fun _ _ q => q.run) fun _ _ x => x
  with_reducible exact Attribute_name h'
theorem own_get {x dx : Addr} {es : List DictEntry} {m : Nat} {name : Str} {v : Value} (S : St w s₀ g L ns loc mu s) (h1 : s.heap.get? x = some (instObj 90 dx)) (h2 : s.heap.get? dx = some (dictOf es m)) (hn : ∀ P, findIn (hd.heap_1 P) (.ref 90) name = some none)
    (hl : getL name es = some (some v)) (hv : handedIn v = true) (k : ∀ s', s'.heap = s.heap → St w s₀ g L ns loc mu s' → Q v s') : Wp prog w A (getAttr (.ref x) name true) Q s := by
  have I : InstAt s.heap x (instObj 90 dx) 90 (some (dictOf es m)) := ⟨h1, rfl, rfl, h2⟩
  have hl' : lookIn name (dictOf es m) = some (some v) := hl
  have hg : noGet (hd.heap_1 w.params) none = true := rfl
  have hf := findObj_own (hd90 w.params) (hn _) hg hl'
  refine ⟨?_⟩
  with_reducible refine get_value S.G.X I (plainGet_of (name := "") (pg90 _)).1 hf hv ?_
  exact k _ rfl (S.toks _)
theorem own_meth {x dx : Addr} {es : List DictEntry} {m : Nat} {name : Str} {f : Addr} {pl : Sem Bool} {QM : Value × List Value → Shared → Prop} (G : Gd w s.heap) (h1 : s.heap.get? x = some (instObj 90 dx)) (h2 : s.heap.get? dx = some (dictOf es m))
    (hf : ∀ P, findIn (hd.heap_1 P) (.ref 90) name = some (some (.ref f))) (ht : ∀ P, typeIn (hd.heap_1 P) (.ref f) = some (.type "function")) (hl : getL name es = some none) (h : QM (.ref f, [.ref x]) s) : Wp prog w A (getMethod (.ref x) name pl) QM s := by
  have I : InstAt s.heap x (instObj 90 dx) 90 (some (dictOf es m)) := ⟨h1, rfl, rfl, h2⟩
  have hs : shadowIn (some (dictOf es m)) name = some false := by show (lookIn name (dictOf es m)).map _ = _; rw [lookIn_dict, hl]; rfl
  refine ⟨?_⟩
  with_reducible exact method_fn G.X I (plainGet_of (name := "") (pg90 _)).1 (plainGet_of (name := "") (pg90 _)).2 (hf _) (ht _) hs h
section
variable {P : Addr → Prop} {a : Addr} {ws : Ws} {pl : Sem Bool} {QM : Value × List Value → Shared → Prop}
theorem g_n (S : St w s₀ g L ns loc mu s) (x : WsAt P g a ws) (k : ∀ t s', St w s₀ g L ns loc mu s' → Q (.int ws.n t) s') : Wp prog w A (getAttr (.ref a) (Str.ofString "n") true) Q s := by
  obtain ⟨dx, es, m, t1, t2, vs, k1, k2, k3, _, _, _, _, q1, q2, r1, r2, r3, r4, r5, _⟩ := x
  exact own_get S (S.keep _ _ q1) (S.keep _ _ q2) fn_n r1 rfl fun s' _ S' => k _ _ S'
theorem g_nt (S : St w s₀ g L ns loc mu s) (x : WsAt P g a ws) (k : ∀ t s', St w s₀ g L ns loc mu s' → Q (.int ws.nt t) s') : Wp prog w A (getAttr (.ref a) (Str.ofString "nt") true) Q s := by
  obtain ⟨dx, es, m, t1, t2, vs, k1, k2, k3, _, _, _, _, q1, q2, r1, r2, r3, r4, r5, _⟩ := x
  exact own_get S (S.keep _ _ q1) (S.keep _ _ q2) fn_nt r2 rfl fun s' _ S' => k _ _ S'
theorem g_simple (S : St w s₀ g L ns loc mu s) (x : WsAt P g a ws) (k : ∀ s', St w s₀ g L ns loc mu s' → Q (.bool (decide (ws.cnt.length ≤ 1))) s') : Wp prog w A (getAttr (.ref a) (Str.ofString "is_simple") true) Q s := by
  obtain ⟨dx, es, m, t1, t2, vs, k1, k2, k3, _, _, _, _, q1, q2, r1, r2, r3, r4, r5, _⟩ := x
  exact own_get S (S.keep _ _ q1) (S.keep _ _ q2) fn_simple r4 rfl fun s' _ S' => k _ S'
theorem g_norm (S : St w s₀ g L ns loc mu s) (x : WsAt P g a ws) (k : ∀ t1 t2 vs k3 s', TObj g t1 [.ref t2, .int ws.b k3] → TObj g t2 vs → IntsAre vs ws.cnt → vs.length = ws.cnt.length → P t1 → P t2 → St w s₀ g L ns loc mu s' → Q (.ref t1) s') :
    Wp prog w A (getAttr (.ref a) (Str.ofString "norm") true) Q s := by
  obtain ⟨dx, es, m, t1, t2, vs, k1, k2, k3, _, _, p1, p2, q1, q2, r1, r2, r3, r4, r5, u1, u2, i⟩ := x
  exact own_get S (S.keep _ _ q1) (S.keep _ _ q2) fn_norm r3 rfl fun s' e S' => k _ _ _ _ _ u1 u2 i (IntsAre.len' i) p1 p2 S'
theorem m_long (S : St w s₀ g L ns loc mu s) (x : WsAt P g a ws) (h : QM (.ref 52, [.ref a]) s) : Wp prog w A (getMethod (.ref a) (Str.ofString "longest_run_of_spaces") pl) QM s := by
  obtain ⟨dx, es, m, t1, t2, vs, k1, k2, k3, _, _, _, _, q1, q2, r1, r2, r3, r4, r5, _⟩ := x
  exact own_meth S.G (S.keep _ _ q1) (S.keep _ _ q2) fm_long (fun _ => by kernel_rfl) (r5 _ (.head _)) h
theorem m_indent (S : St w s₀ g L ns loc mu s) (x : WsAt P g a ws) (h : QM (.ref 59, [.ref a]) s) : Wp prog w A (getMethod (.ref a) (Str.ofString "indent_level") pl) QM s := by
  obtain ⟨dx, es, m, t1, t2, vs, k1, k2, k3, _, _, _, _, q1, q2, r1, r2, r3, r4, r5, _⟩ := x
  exact own_meth S.G (S.keep _ _ q1) (S.keep _ _ q2) fm_indent (fun _ => by kernel_rfl) (r5 _ (.tail _ (.head _))) h
theorem m_equal (S : St w s₀ g L ns loc mu s) (x : WsAt P g a ws) (h : QM (.ref 66, [.ref a]) s) : Wp prog w A (getMethod (.ref a) (Str.ofString "equal") pl) QM s := by
  obtain ⟨dx, es, m, t1, t2, vs, k1, k2, k3, _, _, _, _, q1, q2, r1, r2, r3, r4, r5, _⟩ := x
  exact own_meth S.G (S.keep _ _ q1) (S.keep _ _ q2) fm_equal (fun _ => by kernel_rfl) (r5 _ (.tail _ (.tail _ (.head _)))) h
theorem m_less (S : St w s₀ g L ns loc mu s) (x : WsAt P g a ws) (h : QM (.ref 80, [.ref a]) s) : Wp prog w A (getMethod (.ref a) (Str.ofString "less") pl) QM s := by
  obtain ⟨dx, es, m, t1, t2, vs, k1, k2, k3, _, _, _, _, q1, q2, r1, r2, r3, r4, r5, _⟩ := x
  exact own_meth S.G (S.keep _ _ q1) (S.keep _ _ q2) fm_less (fun _ => by kernel_rfl) (r5 _ (.tail _ (.tail _ (.tail _ (.head _))))) h
end
theorem St.lfz {a : Addr} {items : List Value} (S : St w s₀ g L ns loc mu s) (h : LObj g a items) : LObj s.heap a items := h.mono S.keep
theorem St.li1 {a : Addr} {items : List Value} (S : St w s₀ g L ns loc mu s) (h : (a, MO.list items) ∈ mu) : s.heap.IsList a items.toArray := (S.lst h).isList
theorem St.li2 {a : Addr} {items : List Value} (S : St w s₀ g L ns loc mu s) (h : (a, MO.lst items) ∈ mu) : s.heap.IsList a items.toArray := S.ml _ h
theorem St.li3 {a : Addr} {items : List Value} (S : St w s₀ g L ns loc mu s) (h : LObj g a items) : s.heap.IsList a items.toArray := (h.mono S.keep).isList
theorem St.li4 {a : Addr} {items : List Value} (S : St w s₀ g L ns loc mu s) (h : g.IsList a items.toArray) : s.heap.IsList a items.toArray := let ⟨o, q, r⟩ := h; ⟨o, S.keep _ _ q, r⟩
theorem St.tfz {a : Addr} {items : List Value} (S : St w s₀ g L ns loc mu s) (h : TObj g a items) : TObj s.heap a items := h.mono S.keep

-- built-ins
theorem r_max {k : Nat} {a b : Int} {t u : Tok} (Am : Amb k A) (S : St w s₀ g L ns loc mu s) (h : ∀ t s', St w s₀ g L ns loc mu s' → Q (.int (max a b) t) s') : Wp prog w A (call (.builtin "max") [.int a t, .int b u]) Q s := by
  refine ⟨max_two_ints Am.hd fun h' tk hk => ?_⟩
  by_cases hc : b > a
  · rw [if_pos hc]; have := h u _ (S.growH (t := tk) hk); rwa [show max a b = b by omega] at this
  · rw [if_neg hc]; have := h t _ (S.growH (t := tk) hk); rwa [show max a b = a by omega] at this
theorem r_min {k : Nat} {a b : Int} {t u : Tok} (Am : Amb k A) (S : St w s₀ g L ns loc mu s) (h : ∀ t s', St w s₀ g L ns loc mu s' → Q (.int (min a b) t) s') : Wp prog w A (call (.builtin "min") [.int a t, .int b u]) Q s := by
  refine ⟨min_two_ints Am.hd fun h' tk hk => ?_⟩
  by_cases hc : b < a
  · rw [if_pos hc]; have := h u _ (S.growH (t := tk) hk); rwa [show min a b = b by omega] at this
  · rw [if_neg hc]; have := h t _ (S.growH (t := tk) hk); rwa [show min a b = a by omega] at this
theorem r_lenl {a : Addr} {items : List Value} (S : St w s₀ g L ns loc mu s) (hl : s.heap.IsList a items.toArray) (hz : items.length < 2 ^ 62) (h : ∀ t s', St w s₀ g L ns loc mu s' → Q (.int items.length t) s') : Wp prog w A (call (.builtin "len") [.ref a]) Q s := by
  refine ⟨call_len_list hl (by simp; omega) ?_⟩
  simpa using h _ _ (S.toks _)
theorem r_lent {a : Addr} {items : List Value} (S : St w s₀ g L ns loc mu s) (hl : TObj s.heap a items) (hz : items.length < 2 ^ 62) (h : ∀ t s', St w s₀ g L ns loc mu s' → Q (.int items.length t) s') : Wp prog w A (call (.builtin "len") [.ref a]) Q s := by
  refine ⟨len_tuple hl.isTup (by simp; omega) ?_⟩
  simpa using h _ _ (S.toks _)
theorem r_lens {x : Str} {t : Tok} (S : St w s₀ g L ns loc mu s) (hz : x.length < 2 ^ 62) (h : ∀ t s', St w s₀ g L ns loc mu s' → Q (.int x.length t) s') : Wp prog w A (call (.builtin "len") [.str x t]) Q s :=
  ⟨PyProof.Rows.len_str (by omega) (h _ _ (S.toks _))⟩
end

end Mine
namespace Mine


theorem sameAll_ints (ns ms : List Int) : PySem.Spec.sameAll (ns.map PyData.int) (ms.map PyData.int) = decide (ns = ms) := PySem.W.same_ints ns ms
theorem LObj.readsInts {h : Heap} {a : Addr} {vs : List Value} {ns : List Int} (l : LObj h a vs) (i : IntsAre vs ns) : Reads h (.ref a) (.list (ns.map PyData.int)) [a] := reads_of_ints l.isList i
theorem readsNorm {h : Heap} {t1 t2 : Addr} {vs : List Value} {ns : List Int} {b : Int} {k : Tok} (h1 : TObj h t1 [.ref t2, .int b k]) (h2 : TObj h t2 vs) (i : IntsAre vs ns) :
    Reads h (.ref t1) (.tuple [.tuple (ns.map PyData.int), .int b]) [] := by
  obtain ⟨n1, q1⟩ := h1
  obtain ⟨n2, q2⟩ := h2
  exact .tuple q1 rfl rfl (.cons (.tuple q2 rfl rfl (by simpa using readsAll_of_ints i)) (.cons (.int b k) .nil))
theorem shapedNorm (ns : List Int) (b : Int) : PySem.SeqAt.shaped (.tuple [.tuple (ns.map PyData.int), .int b]) = true := by
  have h1 := PySem.W.depthAll_ints ns
  have h2 : PyData.depth (.tuple [.tuple (ns.map PyData.int), .int b]) ≤ 64 := by simp only [PyData.depth, PyData.depthAll]; omega
  show (PyData.canLay0 _ && decide (PyData.depth _ ≤ 64)) = true
  rw [Bool.and_eq_true]
  exact ⟨by simp [PyData.canLay0, PyData.canLayAll0, canLayAll0_ints ns], decide_eq_true h2⟩
section
variable {prog : Program} {w : World} {A : Around} {s₀ s : Shared} {g : Heap} {L : Addr} {ns gs : List Str} {loc loc' : List (Option Value)} {mu : List (Addr × MO)} {e : Env}
variable {Q : Value → Shared → Prop} {QF : Flow → Shared → Prop} {QU : Unit → Shared → Prop} {QB : Bool → Shared → Prop} {rest : List Stmt}
theorem q_eq_norm {k : Nat} {t1 t2 u1 u2 : Addr} {vs us : List Value} {ns ms : List Int} {b c : Int} {k1 k2 : Tok} (Am : Amb k A) (h1 : TObj s.heap t1 [.ref t2, .int b k1]) (h2 : TObj s.heap t2 vs) (i : IntsAre vs ns)
    (h3 : TObj s.heap u1 [.ref u2, .int c k2]) (h4 : TObj s.heap u2 us) (j : IntsAre us ms) (h : Q (.bool (decide (ns = ms) && decide (b = c))) s) : Wp prog w A (compareOp .Eq (.ref t1) (.ref u1)) Q s := by
  refine ⟨eq_dataH_same (readsNorm h1 h2 i) (readsNorm h3 h4 j) (shapedNorm ns b) (shapedNorm ms c) Am.units64 ?_ ?_⟩
  · simp [PySem.SeqAt.noMix, PySem.SeqAt.noMixAll, noMix_ints]
  · have e : PySem.Spec.same (.tuple [.tuple (ns.map PyData.int), .int b]) (.tuple [.tuple (ms.map PyData.int), .int c]) = (decide (ns = ms) && decide (b = c)) := by
      simp only [PySem.Spec.same, PySem.Spec.sameAll, sameAll_ints, Bool.and_true]
      rfl
    rw [e]; exact h
theorem q_eq_ints {k : Nat} {a b : Addr} {vs us : List Value} {ns ms : List Int} (Am : Amb k A) (hl : LObj s.heap a vs) (hi : IntsAre vs ns) (hl' : LObj s.heap b us) (hi' : IntsAre us ms)
    (h : Q (.bool (decide (ns = ms))) s) : Wp prog w A (compareOp .Eq (.ref a) (.ref b)) Q s := ⟨eq_intsK hl.isList hi hl'.isList hi' Am.units64 h⟩
theorem q_ne_ints {k : Nat} {a b : Addr} {vs us : List Value} {ns ms : List Int} (Am : Amb k A) (hl : LObj s.heap a vs) (hi : IntsAre vs ns) (hl' : LObj s.heap b us) (hi' : IntsAre us ms)
    (h : Q (.bool (!decide (ns = ms))) s) : Wp prog w A (compareOp .NotEq (.ref a) (.ref b)) Q s := ⟨ne_intsK hl.isList hi hl'.isList hi' Am.units64 h⟩
theorem t_and2 {x y : Expr} {pos : Pos} {whole : Sem Value} (h : Wp prog w A (isTrue x e (eval x e)) (fun b s₁ => (b = true → Wp prog w A (isTrue y e (eval y e)) QB s₁) ∧ (b = false → QB false s₁)) s) :
    Wp prog w A (isTrue (.BoolOp .And [x, y] pos) e whole) QB s := by
  refine ⟨wpAny_isTrue_BoolOp (wpAny_allTrue_And_cons (wpAny_mono h.run (fun b s₁ q => ?_) fun _ _ x => x))⟩
  cases b with
  | false => simpa using q.2 rfl
  | true =>
    simp only [if_true]
    refine wpAny_allTrue_And_cons (wpAny_mono (q.1 rfl).run (fun b s₂ q => ?_) fun _ _ x => x)
    cases b with
    | false => simpa using q
    | true => simp only [if_true]; exact wpAny_allTrue_And_nil q
theorem t_or2 {x y : Expr} {pos : Pos} {whole : Sem Value} (h : Wp prog w A (isTrue x e (eval x e)) (fun b s₁ => (b = true → QB true s₁) ∧ (b = false → Wp prog w A (isTrue y e (eval y e)) QB s₁)) s) :
    Wp prog w A (isTrue (.BoolOp .Or [x, y] pos) e whole) QB s := by
  refine ⟨wpAny_isTrue_BoolOp (wpAny_allTrue_Or_cons (wpAny_mono h.run (fun b s₁ q => ?_) fun _ _ x => x))⟩
  cases b with
  | true => simpa using q.1 rfl
  | false =>
    simp only [Bool.false_eq_true, if_false]
    refine wpAny_allTrue_Or_cons (wpAny_mono (q.2 rfl).run (fun b s₂ q => ?_) fun _ _ x => x)
    cases b with
    | true => simpa using q
    | false => simp only [Bool.false_eq_true, if_false]; exact wpAny_allTrue_Or_nil q
theorem t_val {x : Expr} {whole : Sem Value} (h : Wp prog w A whole (fun v s₁ => ∃ k, v = .bool k ∧ QB k s₁) s) (he : isTrue x e whole = (do let v ← whole; standAt x.pos; holding [v] (truthy v)) := by with_unfolding_all rfl) :
    Wp prog w A (isTrue x e whole) QB s :=
  ⟨wpAny_isTrue_value (wpAny_mono h.run (fun v s₁ q => by obtain ⟨k, rfl, q⟩ := q; exact wpAny_truthy_bool q) fun _ _ x => x) he⟩
theorem then_ret' {v : Value} {A' : Around} {e' : Env} (h : QF (.ret v) s) : Then prog w A' rest e' QF (.ret v) s := h
end

end Mine
namespace Mine


/-- one entry of the ledger turned -/
inductive Up : List (Addr × MO) → Addr → MO → MO → List (Addr × MO) → Prop where
  | head {a m m' r} : Up ((a, m) :: r) a m m' ((a, m') :: r)
  | tail {p a m m' r r'} : Up r a m m' r' → Up (p :: r) a m m' (p :: r')
theorem Up.at {mu a m m' mu'} (u : Up mu a m m' mu') : ∃ k, mu[k]? = some (a, m) ∧ mu' = mu.set k (a, m') := by
  induction u with
  | head => exact ⟨0, rfl, rfl⟩
  | tail _ ih => obtain ⟨k, h1, h2⟩ := ih; exact ⟨k + 1, by simpa using h1, by simp [h2]⟩
section
variable {prog : Program} {w : World} {A : Around} {s₀ s : Shared} {g : Heap} {L : Addr} {ns gs : List Str} {loc loc' : List (Option Value)} {mu mu' : List (Addr × MO)} {e : Env}
variable {Q : Value → Shared → Prop} {QF : Flow → Shared → Prop} {QU : Unit → Shared → Prop} {QB : Bool → Shared → Prop} {rest : List Stmt}
theorem St.up {a : Addr} {m m' : MO} (S : St w s₀ g L ns loc mu s) (u : Up mu a m m' mu') {h' : Heap} {t : Nat} (hm : m'.At h' a) (hs : Heap.SameBut a s.heap h') : St w s₀ g L ns loc mu' { s with heap := h', toks := t } := by
  obtain ⟨k, h1, rfl⟩ := u.at
  exact S.upd h1 hm hs
theorem Up.mem {a : Addr} {m m' : MO} (u : Up mu a m m' mu') : (a, m) ∈ mu := by
  obtain ⟨k, h1, _⟩ := u.at
  exact List.mem_of_getElem? h1
theorem x_expr {x : Expr} {pos : Pos} (C : Fn e L ns gs) (h : Wp prog w A (eval x e) (fun _ s₁ => Wp prog w A (execs rest e) QF s₁) s) (hs : swapsWith x none pos.line e = pure false := by with_unfolding_all rfl) :
    Wp prog w A (execs (.Expr x pos :: rest) e) QF s := by
  refine wp_cons (wpAny_Expr_any (wpAny_mono h.run (fun _ _ q => q) fun _ _ x => x) ?_ hs)
  unfold interactive; rw [C.kind]; rfl
theorem m_append {l : Addr} {items : List Value} {pl : Sem Bool} {QM : Value × List Value → Shared → Prop} (hl : LObj s.heap l items) (h : QM (.builtin "list.append", [.ref l]) s) : Wp prog w A (getMethod (.ref l) (Str.ofString "append") pl) QM s :=
  let ⟨_, q⟩ := hl; ⟨getMethod_list_append q rfl rfl h⟩
theorem r_append {l : Addr} {items : List Value} {v : Value} (S : St w s₀ g L ns loc mu s) (u : Up mu l (.list items) (.list (items ++ [v])) mu') (hz : items.length ≤ sizeLine)
    (k : ∀ s', St w s₀ g L ns loc mu' s' → Q .none s') : Wp prog w A (call (.builtin "list.append") [.ref l, v]) Q s := by
  refine ⟨wpAny_list_append_plain (items := items.toArray) (S.lst u.mem) (fun h' hm hs => ?_) (by simpa using hz)⟩
  have := S.up (t := s.toks) u (h' := h') (by obtain ⟨n, q⟩ := hm; exact ⟨n, by simpa using q⟩) hs
  exact k _ this
theorem r_setitem {l : Addr} {items : List Value} {m : MO} {v : Value} {i : Int} {t : Tok} (S : St w s₀ g L ns loc mu s) (hl : s.heap.IsList l items.toArray) (u : Up mu l m (.lst (items.set i.toNat v)) mu') (h0 : 0 ≤ i) (h1 : i < 2 ^ 62) (hn : i < items.length)
    (k : ∀ s', St w s₀ g L ns loc mu' s' → QU () s') : Wp prog w A (setItem (.ref l) (.int i t) v) QU s := by
  refine ⟨wpAny_setItem_list hl h0 (by omega) (by simpa using hn) fun h' hm hs => ?_⟩
  exact k _ (S.up (t := s.toks) u (by simpa [MO.At] using hm) hs)
theorem x_asgsub {o i : Expr} {pos' : Pos} {value : Expr} {pos : Pos} (h : Wp prog w A (eval value e) (fun v s₁ => Wp prog w A (eval o e) (fun ov s₂ => Wp prog w A (eval i e) (fun iv s₃ => Wp prog w A (setItem ov iv v) (fun _ s₄ => Wp prog w A (execs rest e) QF s₄) s₃) s₂) s₁) s)
    (hs : swapsWith value (some (.Subscript o i pos')) pos.line e = pure false := by with_unfolding_all rfl) : Wp prog w A (execs (.Assign [.Subscript o i pos'] value pos :: rest) e) QF s := by
  refine wp_cons ?_
  have h' := wpAny_mono h.run (fun _ _ q => wpAny_mono q.run (fun _ _ q => wpAny_mono q.run (fun _ _ q => wpAny_mono q.run (Q' := fun _ => Then prog w A rest e QF .next) (fun _ _ q => then_next q) fun _ _ x => x) fun _ _ x => x) fun _ _ x => x) fun _ _ x => x
  with_reducible exact wpAny_Assign_Subscript h' hs
theorem x_augsub {o i : Expr} {pos' : Pos} {op : Operator} {value : Expr} {pos : Pos} (h : Wp prog w A (eval o e) (fun ov s₁ => Wp prog w A (eval i e) (fun iv s₂ => Wp prog w A (getItem ov iv) (fun old s₃ =>
      Wp prog w A (eval value e) (fun v s₄ => Wp prog w A (inplaceOp op old v) (fun new s₅ => Wp prog w A (setItem ov iv new) (fun _ s₆ => Wp prog w A (execs rest e) QF s₆) s₅) s₄) s₃) s₂) s₁) s)
    (hi : ∀ ov iv new, augStore i ov iv new = (do holding [new, ov, iv] (setItem ov iv new); release [new, ov, iv] []; pure .next) := by intros; with_unfolding_all rfl) :
    Wp prog w A (execs (.AugAssign (.Subscript o i pos') op value pos :: rest) e) QF s := by
  refine wp_cons ?_
  have h' := wpAny_mono h.run (fun _ _ q => wpAny_mono q.run (fun _ _ q => wpAny_mono q.run (fun _ _ q => wpAny_mono q.run (fun _ _ q => wpAny_mono q.run (fun _ _ q => wpAny_mono q.run (Q' := fun _ => Then prog w A rest e QF .next) (fun _ _ q => then_next q) fun _ _ x => x) fun _ _ x => x) fun _ _ x => x) fun _ _ x => x) fun _ _ x => x) fun _ _ x => x
  with_reducible exact wpAny_AugAssign_SubscriptAny h' hi
theorem r_getitem {l : Addr} {items : List Value} {k : Int} {u : Tok} {v : Value} (hl : s.heap.IsList l items.toArray) (h0 : 0 ≤ k) (h1 : k < 2 ^ 62) (hx : items[k.toNat]? = some v) (h : Q v s) : Wp prog w A (getItem (.ref l) (.int k u)) Q s :=
  ⟨wpAny_getItem_list hl h0 (by omega) (by simpa using hx) h⟩
end

end Mine
namespace Mine


def e0 : Heap := ⟨#[], {}⟩
theorem e0_none (b : Addr) : e0.get? b = none := rfl
def allOf (h : Heap) (L : Addr) : List (Addr × Obj) := (List.range h.objs.size).filterMap fun b => if b = L then none else (h.get? b).map fun o => (b, o)
theorem mem_allOf {h : Heap} {L : Addr} {p : Addr × Obj} : p ∈ allOf h L ↔ p.1 ≠ L ∧ h.get? p.1 = some p.2 := by
  unfold allOf
  simp only [List.mem_filterMap, List.mem_range]
  constructor
  · rintro ⟨b, _, hb⟩
    split at hb
    · cases hb
    · obtain ⟨o, ho, rfl⟩ := Option.map_eq_some_iff.mp hb
      exact ⟨by assumption, ho⟩
  · rintro ⟨h1, h2⟩
    exact ⟨p.1, Heap.lt_size h2, by rw [if_neg h1, h2]; rfl⟩
section
variable {prog : Program} {w : World} {A : Around} {s₀ s : Shared} {g : Heap} {L : Addr} {ns gs : List Str} {loc loc' : List (Option Value)} {mu mu' : List (Addr × MO)} {e : Env}
variable {Q : Value → Shared → Prop} {QF : Flow → Shared → Prop} {QU : Unit → Shared → Prop} {QB : Bool → Shared → Prop} {rest : List Stmt}
theorem St.moved (S : St w s₀ g L ns loc mu s) {s' : Shared} (k : ∀ b o, b ≠ L → s.heap.get? b = some o → s'.heap.get? b = some o) (hn : s'.heap.Ns L (look ns loc)) (h1 : s'.gens = s.gens) (h2 : s'.drawn = s.drawn) (h3 : s'.os = s.os) :
    St w s₀ g L ns loc mu s' :=
  ⟨h1.trans S.gens, h2.trans S.drawn, h3.trans S.os, hn, S.nd, fun b o q => k b o (fun r => by rw [r, S.nL] at q; cases q) (S.keep b o q), S.nL, fun p hp => (S.ml p hp).of fun o q => k _ o (S.mf p hp).2 q, S.mf, S.mn, S.gd⟩
theorem St.frE (S : St w s₀ g L ns loc mu s) : Fr e0 L s.heap (look ns loc) := ⟨S.nsp, (fun b o q => by rw [e0_none] at q; cases q), Nat.zero_le _⟩
theorem St.newsE (_S : St w s₀ g L ns loc mu s) : News e0 L s.heap (allOf s.heap L) := fun p hp => ⟨(mem_allOf.mp hp).2, (mem_allOf.mp hp).1, rfl⟩
theorem St.ofFr (S : St w s₀ g L ns loc mu s) {h' : Heap} {t : Nat} (F : Fr e0 L h' (look ns loc)) (N : News e0 L h' (allOf s.heap L)) : St w s₀ g L ns loc mu { s with heap := h', toks := t } :=
  S.moved (fun b o hb q => (N (b, o) (mem_allOf.mpr ⟨hb, q⟩)).1) F.ns rfl rfl rfl
theorem St.notg (S : St w s₀ g L ns loc mu s) {a : Addr} (h : s.heap.get? a = none) : g.get? a = none := by
  cases q : g.get? a with
  | none => rfl
  | some o => rw [S.keep _ _ q] at h; cases h
theorem size_none (h : Heap) : h.get? h.objs.size = none := by
  cases q : h.get? h.objs.size with
  | none => rfl
  | some o => exact absurd (Heap.lt_size q) (Nat.lt_irrefl _)
/-- an object that stood nowhere, onto the ledger -/
theorem St.consL {s' : Shared} (S' : St w s₀ g L ns loc mu s') (S : St w s₀ g L ns loc mu s) {a : Addr} {m : MO} (ha : s.heap.get? a = none) (hL : a ≠ L) (hm : m.At s'.heap a) : St w s₀ g L ns loc ((a, m) :: mu) s' := by
  refine ⟨S'.gens, S'.drawn, S'.os, S'.nsp, S'.nd, S'.keep, S'.nL, ?_, ?_, ?_, S'.gd⟩
  · intro p hp
    rcases List.mem_cons.mp hp with rfl | hp
    · exact hm
    · exact S'.ml p hp
  · intro p hp
    rcases List.mem_cons.mp hp with rfl | hp
    · exact ⟨S.notg ha, hL⟩
    · exact S'.mf p hp
  · simp only [List.map_cons, List.nodup_cons]
    refine ⟨fun hm => ?_, S'.mn⟩
    obtain ⟨p, hp, e⟩ := List.mem_map.mp hm
    obtain ⟨q, hq⟩ := (S.ml p hp).ex
    rw [e, ha] at hq; cases hq
theorem St.sizeL (S : St w s₀ g L ns loc mu s) : s.heap.objs.size ≠ L := fun q => absurd S.nsp.lt (by rw [← q]; exact Nat.lt_irrefl _)
theorem St.ofFr1 (S : St w s₀ g L ns loc mu s) {h' : Heap} {t : Nat} {o : Obj} {m : MO} (F : Fr e0 L h' (look ns loc)) (N : News e0 L h' ((s.heap.objs.size, o) :: allOf s.heap L)) (hm : h'.get? s.heap.objs.size = some o → m.At h' s.heap.objs.size) :
    St w s₀ g L ns loc ((s.heap.objs.size, m) :: mu) { s with heap := h', toks := t } :=
  (S.ofFr (t := t) F fun p hp => N p (.tail _ hp)).consL S (size_none _) S.sizeL (hm (N _ (.head _)).1)

theorem r_addl {l b : Addr} {vs us : List Value} (S : St w s₀ g L ns loc mu s) (hl : s.heap.IsList l vs.toArray) (hb : s.heap.IsList b us.toArray) (hz : vs.length + us.length ≤ sizeLine)
    (k : ∀ a s', s.heap.get? a = none → St w s₀ g L ns loc ((a, .list (vs ++ us)) :: mu) s' → Q (.ref a) s') : Wp prog w A (binaryOp .Add (.ref l) (.ref b)) Q s :=
  ⟨add_lists (hsz := hz) S.frE S.newsE hl hb fun h' F N => k _ _ (size_none _) (S.ofFr1 (t := s.toks) F N fun q => ⟨0, q⟩)⟩
theorem r_mull {l : Addr} {vs : List Value} {x : Int} {t : Tok} (S : St w s₀ g L ns loc mu s) (hl : LObj s.heap l vs) (h0 : -(2 ^ 62) ≤ x) (h1 : x < 2 ^ 62) (hz : vs.length * x.toNat ≤ 2 ^ 24)
    (k : ∀ a s', s.heap.get? a = none → St w s₀ g L ns loc ((a, .list (List.replicate x.toNat vs).flatten) :: mu) s' → Q (.ref a) s') : Wp prog w A (binaryOp .Mult (.ref l) (.int x t)) Q s := by
  obtain ⟨n, hl⟩ := hl
  refine ⟨mul_list S.frE S.newsE hl (by omega) (by omega) (by simpa using hz) fun h' F N => k _ _ (size_none _) (S.ofFr1 (t := s.toks) F N fun q => ⟨0, ?_⟩)⟩
  rw [q]
  congr 2
  cases vs with
  | nil => simp
  | cons v r =>
    simp only [List.isEmpty_toArray, List.isEmpty_cons, Bool.false_eq_true, if_false]
    have : ∀ (m : Nat) (ac : Array Value), List.foldl (fun x1 x2 => x1 ++ x2) ac (List.replicate m (v :: r).toArray) = ac ++ (List.replicate m (v :: r)).flatten.toArray := by
      intro m
      induction m with
      | zero => intro ac; simp
      | succ m ih => intro ac; rw [List.replicate_succ, List.foldl_cons, ih]; simp [List.replicate_succ]
    rw [this]; simp
theorem r_tuplel {l : Addr} {vs : List Value} (S : St w s₀ g L ns loc mu s) (hl : s.heap.IsList l vs.toArray) (hz : vs.length ≤ sizeLine)
    (k : ∀ a s', s.heap.get? a = none → St w s₀ g L ns loc ((a, .tup vs) :: mu) s' → Q (.ref a) s') : Wp prog w A (call (.type "tuple") [.ref l]) Q s := by
  refine ⟨call_tuple_list hl (fun h' hk => ?_) (by simpa using hz)⟩
  have S1 := S.growH (t := s.toks) hk
  have hn : s.heap.get? h'.objs.size = none := by
    cases q : s.heap.get? h'.objs.size with
    | none => rfl
    | some o => exact absurd (Heap.lt_size (hk _ _ q)) (Nat.lt_irrefl _)
  exact k _ _ hn (S1.alloc' (m := .tup vs) ⟨_, Heap.get?_push_size _ rfl⟩)
end

end Mine
namespace Mine


theorem ents_find : ∀ (es : List DictEntry) (fs : List (Str × Value)), EntsAre es fs → ∀ x : Str, es.find? (·.key.isStr x) = none ↔ fs.lookup x = none := by
  intro es
  induction es with
  | nil => intro fs h x; cases fs with | nil => simp | cons f fs => exact h.elim
  | cons e es ih =>
    intro fs h x
    cases fs with
    | nil => exact h.elim
    | cons f fs =>
      obtain ⟨⟨t, hk⟩, hv, hr⟩ := h
      obtain ⟨fk, fv⟩ := f
      simp only [List.find?_cons, List.lookup_cons, hk, Value.isStr]
      by_cases hx : x = fk
      · subst hx; simp
      · have h1 : (x == fk) = false := by simpa using hx
        have h2 : (fk == x) = false := by simpa using fun q => hx q.symm
        simp only [h1, h2]; exact ih fs hr x
theorem ents_get : ∀ (es : List DictEntry) (fs : List (Str × Value)), EntsAre es fs → ∀ (x : Str) (v : Value), fs.lookup x = some v → getL x es = some (some v) := by
  intro es
  induction es with
  | nil => intro fs h x; cases fs with | nil => simp | cons f fs => exact h.elim
  | cons e es ih =>
    intro fs h x v hv
    cases fs with
    | nil => exact h.elim
    | cons f fs =>
      obtain ⟨⟨t, hk⟩, hv', hr⟩ := h
      obtain ⟨fk, fv⟩ := f
      have ih' := ih fs hr x v
      unfold getL at ih' ⊢
      rw [List.lookup_cons] at hv
      by_cases hx : x = fk
      · subst hx
        have h2 : e.key.isStr x = true := by rw [hk]; exact beq_self_eq_true x
        simp only [List.find?_cons, h2]
        simp at hv ⊢; exact hv'.trans hv
      · have h1 : (x == fk) = false := by simpa using hx
        have h2 : e.key.isStr x = false := by rw [hk]; exact beq_eq_false_iff_ne.mpr fun q => hx q.symm
        rw [h1] at hv
        simp only [List.find?_cons, h2]
        have := ih' hv
        split at this
        · rename_i en q; rw [q]; exact this
        · split at this <;> simp at this
theorem ents_none {es : List DictEntry} {fs : List (Str × Value)} (h : EntsAre es fs) {x : Str} (hx : fs.lookup x = none) : getL x es = some none := by
  have hf := (ents_find es fs h x).mpr hx
  unfold getL
  rw [hf]
  have : es.any (·.refKey) = false := by
    clear hf hx
    induction es generalizing fs with
    | nil => rfl
    | cons e es ih =>
      cases fs with
      | nil => exact h.elim
      | cons f fs =>
        obtain ⟨⟨t, hk⟩, hv, hr⟩ := h
        rw [List.any_cons, ih hr, Bool.or_false]
        unfold DictEntry.refKey; rw [hk]
  simp [this]
theorem ents_put {es : List DictEntry} {fs : List (Str × Value)} (h : EntsAre es fs) {x : Str} (hx : fs.lookup x = none) (hsh : Int) (t : Tok) (v : Value) : EntsAre (putL x hsh (.str x t) v es) (fs ++ [(x, v)]) := by
  induction es generalizing fs with
  | nil => cases fs with | nil => exact ⟨⟨t, rfl⟩, rfl, trivial⟩ | cons f fs => exact h.elim
  | cons e es ih =>
    cases fs with
    | nil => exact h.elim
    | cons f fs =>
      obtain ⟨⟨t', hk⟩, hv, hr⟩ := h
      obtain ⟨fk, fv⟩ := f
      rw [List.lookup_cons] at hx
      have hne : (x == fk) = false := by cases q : (x == fk) with | false => rfl | true => rw [q] at hx; simp at hx
      rw [hne] at hx
      have h2 : (fk == x) = false := by simp only [beq_eq_false_iff_ne, ne_eq] at hne ⊢; exact fun q => hne q.symm
      unfold putL
      rw [hk]
      simp only [Value.isStr, h2, Bool.false_eq_true, if_false]
      exact ⟨⟨t', hk⟩, hv, ih hr hx⟩
theorem EntsAre.len : ∀ {es : List DictEntry} {fs : List (Str × Value)}, EntsAre es fs → es.length = fs.length
  | [], [], _ => rfl
  | _ :: _, _ :: _, h => by simp [EntsAre.len h.2.2]

theorem sa90 (P) : findIn (hd.heap_1 P) (.ref 90) "__setattr__" = some (some (.builtin "object.__setattr__")) := by kernel_rfl
theorem po90 (P) : plainOver (hd.heap_1 P) 90 = true := by kernel_rfl
theorem mk90 (P) : makesIn (hd.heap_1 P) 90 = true := by kernel_rfl
theorem in90 (P) : findIn (hd.heap_1 P) (.ref 90) "__init__" = some (some (.ref 45)) := by kernel_rfl
theorem ty45 (P) : typeIn (hd.heap_1 P) (.ref 45) = some (.type "function") := by kernel_rfl
theorem rd90 (P) : readsIn (hd.heap_1 P) 90 (.type "type") = true := by kernel_rfl
def strFound (y : Str) : Option CFound → Bool
  | some (.val (.str x _)) => x == y
  | _ => false
theorem strFound_of {y : Str} {o : Option CFound} (h : strFound y o = true) : ∃ t, o = some (.val (.str y t)) := by
  unfold strFound at h
  split at h
  · exact ⟨_, by rw [eq_of_beq h]⟩
  · cases h
theorem fc_S (P) : ∃ t, findCls (hd.heap_1 P) (.ref 90) (.type "type") "S" = some (.val (.str (Str.ofString " ") t)) := strFound_of (by kernel_rfl)
theorem fc_T (P) : ∃ t, findCls (hd.heap_1 P) (.ref 90) (.type "type") "T" = some (.val (.str (Str.ofString "\t") t)) := strFound_of (by kernel_rfl)
def Taken (name : Str) : Prop := ∀ P, takerIn (hd.heap_1 P) 90 name = some none
theorem tk_raw : Taken "raw" := fun _ => by kernel_rfl
theorem tk_n : Taken "n" := fun _ => by kernel_rfl
theorem tk_nt : Taken "nt" := fun _ => by kernel_rfl
theorem tk_norm : Taken "norm" := fun _ => by kernel_rfl
theorem tk_simple : Taken "is_simple" := fun _ => by kernel_rfl
theorem fn_raw (P) : findIn (hd.heap_1 P) (.ref 90) "raw" = some none := by kernel_rfl

section
variable {prog : Program} {w : World} {A : Around} {s₀ s : Shared} {g : Heap} {L : Addr} {ns gs : List Str} {loc loc' : List (Option Value)} {mu mu' : List (Addr × MO)} {e : Env}
variable {Q : Value → Shared → Prop} {QF : Flow → Shared → Prop} {QU : Unit → Shared → Prop} {QB : Bool → Shared → Prop} {rest : List Stmt}
theorem r_setattr {x dx : Addr} {fs : List (Str × Value)} {name : Str} {v : Value} (S : St w s₀ g L ns loc mu s) (hx : g.get? x = some (instObj 90 dx)) (u : Up mu dx (.flds fs) (.flds (fs ++ [(name, v)])) mu')
    (hn : fs.lookup name = none) (ht : Taken name) (hz : fs.length < 100) (k : ∀ s', St w s₀ g L ns loc mu' s' → QU () s') : Wp prog w A (setAttr (.ref x) name v) QU s := by
  have X := S.G.X
  obtain ⟨es, n, D, hE⟩ := S.ml _ u.mem
  have hx' := S.keep _ _ hx
  have I : InstAt s.heap x (instObj 90 dx) 90 (some (dictOf es n)) := ⟨hx', rfl, rfl, D⟩
  refine ⟨set_plain X I (sa90 _) ?_⟩
  refine osa_open (s := { s with toks := s.toks + 1 }) X I (po90 _) (ht _) fun b => ?_
  obtain ⟨cd, hc, hd'⟩ := any_some (hd90 w.params)
  have es' : EntsAre (putL name (PyData.keyHash w.params name) (.str name (s.toks + 1)) v es) (fs ++ [(name, v)]) := ents_put hE hn _ _ _
  have hsame := Heap.SameBut.update s.heap dx (Obj.putName name (PyData.keyHash w.params name) (.str name (s.toks + 1)) v)
  have D' : (s.heap.update dx (Obj.putName name (PyData.keyHash w.params name) (.str name (s.toks + 1)) v)).get? dx = some (dictOf (putL name (PyData.keyHash w.params name) (.str name (s.toks + 1)) v es) (putN name es n)) := by
    rw [Heap.get?_update_self _ D (by rw [putName_dict]; rfl), putName_dict]
  have S' := S.up (t := s.toks + 2) u (h' := s.heap.update dx (Obj.putName name (PyData.keyHash w.params name) (.str name (s.toks + 1)) v)) ⟨_, _, D', es'⟩ hsame
  refine wpAny_bind (wpAny_pure (wpAny_bind (wpAny_bind (wpAny_loadPart hx' (wpAny_bind (Looks.here (s := { s with toks := s.toks + 1 }) (looks_clsIn X hc) ?_))))))
  rw [hd']
  refine wpAny_pure (a := some dx) (wpAny_bind (wpAny_pure (wpAny_bind ?_)))
  unfold nsSet
  refine wpAny_bind (wpAny_bind (wpAny_askSetting (wpAny_pure (wpAny_bind (wpAny_mkText (wpAny_bind (wpAny_loadPart D ?_)))))))
  have c : (!es.toArray.any (·.key.isStr name) && es.toArray.any (·.refKey)) = false := by
    have := ents_none hE hn
    unfold getL at this
    rw [← Array.any_toList, ← Array.any_toList]
    split at this
    · simp at this
    · split at this
      · cases this
      · rename_i z; rw [Bool.not_eq_true] at z; rw [z, Bool.and_false]
  dsimp only
  rw [aRefKeyMayBeTheName_at, c]
  refine wpAny_updatePart D ?_
  refine wpAny_bind (wpAny_lookBehind D' (pastItsLine_dict (by rw [List.size_toArray, EntsAre.len es', List.length_append, sizeLine_eq]; show fs.length + 1 ≤ _; omega)) ?_)
  exact wpAny_pure (k _ S')
theorem own_get' {x dx : Addr} {fs : List (Str × Value)} {name : Str} {v : Value} (S : St w s₀ g L ns loc mu s) (hx : g.get? x = some (instObj 90 dx)) (hm : (dx, MO.flds fs) ∈ mu) (hn : ∀ P, findIn (hd.heap_1 P) (.ref 90) name = some none)
    (hl : fs.lookup name = some v) (hv : handedIn v = true) (k : ∀ s', St w s₀ g L ns loc mu s' → Q v s') : Wp prog w A (getAttr (.ref x) name true) Q s := by
  obtain ⟨es, n, D, hE⟩ := S.ml _ hm
  exact own_get S (S.keep _ _ hx) D hn (ents_get es fs hE name v hl) hv fun s' _ => k s'
theorem g_S (S : St w s₀ g L ns loc mu s) (k : ∀ t s', St w s₀ g L ns loc mu s' → Q (.str (Str.ofString " ") t) s') : Wp prog w A (getAttr (.ref 90) (Str.ofString "S") true) Q s := by
  obtain ⟨t, ht⟩ := fc_S w.params
  exact ⟨cls_value S.G.X (rd90 _) ht rfl (k _ _ (S.toks _))⟩
theorem g_T (S : St w s₀ g L ns loc mu s) (k : ∀ t s', St w s₀ g L ns loc mu s' → Q (.str (Str.ofString "\t") t) s') : Wp prog w A (getAttr (.ref 90) (Str.ofString "T") true) Q s := by
  obtain ⟨t, ht⟩ := fc_T w.params
  exact ⟨cls_value S.G.X (rd90 _) ht rfl (k _ _ (S.toks _))⟩
theorem x_asgattr {o : Expr} {attr : Str} {pos' : Pos} {value : Expr} {pos : Pos} (h : Wp prog w A (eval value e) (fun v s₁ => Wp prog w A (eval o e) (fun ov s₂ => Wp prog w A (setAttr ov attr v) (fun _ s₃ => Wp prog w A (execs rest e) QF s₃) s₂) s₁) s)
    (hs : swapsWith value (some (.Attribute o attr pos')) pos.line e = pure false := by with_unfolding_all rfl) : Wp prog w A (execs (.Assign [.Attribute o attr pos'] value pos :: rest) e) QF s := by
  refine wp_cons ?_
  have h' := wpAny_mono h.run (fun _ _ q => wpAny_mono q.run (fun _ _ q => wpAny_mono q.run (Q' := fun _ => Then prog w A rest e QF .next) (fun _ _ q => then_next q) fun _ _ x => x) fun _ _ x => x) fun _ _ x => x
  with_reducible exact plainObj_wpAny_Assign_Attribute h' hs
theorem x_asg3 {x y z : Str} {px py pz : Pos} {value : Expr} {pos : Pos} (h : Wp prog w A (eval value e) (fun v s₁ => Wp prog w A (storeName e x v) (fun _ s₂ => Wp prog w A (storeName e y v) (fun _ s₃ => Wp prog w A (storeName e z v) (fun _ s₄ => Wp prog w A (execs rest e) QF s₄) s₃) s₂) s₁) s)
    (he : (assignEach [.Name x px, .Name y py, .Name z pz] e).map (·.2) = [assign (.Name x px) e, assign (.Name y py) e, assign (.Name z pz) e] := by with_unfolding_all rfl)
    (hw : swappedStores [.Name x px, .Name y py, .Name z pz] value e = pure none := by with_unfolding_all rfl) : Wp prog w A (execs (.Assign [.Name x px, .Name y py, .Name z pz] value pos :: rest) e) QF s := by
  refine wp_cons ?_
  have h' := wpAny_mono h.run (fun _ _ q => wpAny_assign_Name (pos := px) (wpAny_mono q.run (fun _ _ q => wpAny_assign_Name (pos := py) (wpAny_mono q.run (fun _ _ q => wpAny_assign_Name (pos := pz) (wpAny_mono q.run (Q' := fun _ => Then prog w A rest e QF .next) (fun _ _ q => then_next q) fun _ _ x => x)) fun _ _ x => x)) fun _ _ x => x)) fun _ _ x => x
  with_reducible exact wpAny_Assign_three h' he hw
theorem x_unpack2s {x y : Str} {px py : Pos} {k : Nat} {tpos : Pos} {value : Expr} {pos : Pos} {n : Nat} (Am : Amb n A)
    (hs : swapsWithSole [.Tuple [.Name x px, .Name y py] k tpos] value pos.line e = pure false)
    (hw : swappedStores [.Tuple [.Name x px, .Name y py] k tpos] value e = pure (some [x, y]))
    (h : Wp prog w A (eval value e) (fun v s₁ => ∃ a v1 v2, v = .ref a ∧ TObj s₁.heap a [v1, v2] ∧ ∀ s₂, After s₁ s₂ → Wp prog w A (storeName e y v2) (fun _ s₃ => Wp prog w A (storeName e x v1) (fun _ s₄ => Wp prog w A (execs rest e) QF s₄) s₃) s₂) s) :
    Wp prog w A (execs (.Assign [.Tuple [.Name x px, .Name y py] k tpos] value pos :: rest) e) QF s := by
  refine wp_cons (Assign_Tuple_swapped (names := [x, y]) (wpAny_mono h.run (fun v s₁ q => ?_) fun _ _ x => x) hs hw)
  obtain ⟨a, v1, v2, rfl, ht, k⟩ := q
  refine unpackItems_tuple Am.hd (items := #[v1, v2]) ht.isTup fun h' he => ?_
  have K := k { s₁ with heap := h' } ⟨rfl, rfl, rfl, fun b o q => he b o (Nat.ne_of_lt (Heap.lt_size q)) q⟩
  show wpAny _ _ (do holding [v1] (bindName e y v2); do holding [] (bindName e x v1); pure ()) _ _ _
  refine wpAny_bind (wpAny_holding (wpAny_bindName (wpAny_mono K.run (fun _ s₃ q => ?_) fun _ _ x => x)))
  exact wpAny_bind (wpAny_holding (wpAny_bindName (wpAny_mono q.run (fun _ s₄ q => wpAny_pure (then_next q)) fun _ _ x => x)))
theorem x_brk {pos : Pos} (h : QF .brk s) : Wp prog w A (execs (.Break pos :: rest) e) QF s := wp_cons (wpAny_Break h)
end

end Mine
namespace Mine


inductive Rm {α : Type} : List α → α → List α → Prop where
  | head {p r} : Rm (p :: r) p r
  | tail {q p r r'} : Rm r p r' → Rm (q :: r) p (q :: r')
inductive Pick {α : Type} : List α → List α → Prop where
  | nil {m} : Pick m []
  | cons {m p m1 r} : Rm m p m1 → Pick m1 r → Pick m (p :: r)
theorem Rm.perm {α : Type} {m : List α} {p : α} {r : List α} (h : Rm m p r) : m.Perm (p :: r) := by
  induction h with
  | head => exact .refl _
  | tail _ ih => exact (ih.cons _).trans (.swap ..)
theorem Pick.sub {α : Type} {m m' : List α} (h : Pick m m') : ∃ r, m.Perm (m' ++ r) := by
  induction h with
  | nil => exact ⟨_, .refl _⟩
  | cons h1 _ ih => obtain ⟨r, hr⟩ := ih; exact ⟨r, h1.perm.trans (hr.cons _)⟩
section
variable {prog : Program} {w : World} {A : Around} {s₀ s : Shared} {g : Heap} {L : Addr} {ns gs : List Str} {loc loc' : List (Option Value)} {mu mu' : List (Addr × MO)} {e : Env}
theorem St.pick (S : St w s₀ g L ns loc mu s) (h : Pick mu mu') : St w s₀ g L ns loc mu' s := by
  obtain ⟨r, hr⟩ := h.sub
  have hm : ∀ p ∈ mu', p ∈ mu := fun p hp => hr.mem_iff.mpr (List.mem_append_left _ hp)
  refine ⟨S.gens, S.drawn, S.os, S.nsp, S.nd, S.keep, S.nL, fun p hp => S.ml p (hm p hp), fun p hp => S.mf p (hm p hp), ?_, S.gd⟩
  have := (hr.map Prod.fst).nodup_iff.mp S.mn
  rw [List.map_append] at this
  exact (List.nodup_append.mp this).1
theorem St.toLst {a : Addr} {items : List Value} (S : St w s₀ g L ns loc mu s) (u : Up mu a (.list items) (.lst items) mu') : St w s₀ g L ns loc mu' s := by
  have h := S.lst u.mem
  exact S.up (t := s.toks) u (h' := s.heap) h.isList (Heap.SameBut.refl _ _)
/-- a frozen object becomes one of the ledger -/
theorem St.thaw {a : Addr} {m : MO} (S : St w s₀ g L ns loc mu s) (ha : m.At g a) (hg : Gd w (hideAll g [a])) : St w s₀ (hideAll g [a]) L ns loc ((a, m) :: mu) s := by
  obtain ⟨o, ho⟩ := ha.ex
  have hs : Sub (hideAll g [a]) g := fun b o q => of_hideAll _ q
  have hn : ∀ b, g.get? b = none → (hideAll g [a]).get? b = none := fun b q => by
    cases r : (hideAll g [a]).get? b with
    | none => rfl
    | some o => rw [hs _ _ r] at q; cases q
  refine ⟨S.gens, S.drawn, S.os, S.nsp, S.nd, hs.trans S.keep, hn _ S.nL, ?_, ?_, ?_, hg⟩
  · intro p hp
    rcases List.mem_cons.mp hp with rfl | hp
    · exact ha.of fun o q => S.keep _ _ q
    · exact S.ml p hp
  · intro p hp
    rcases List.mem_cons.mp hp with rfl | hp
    · exact ⟨hideAll_none _ (.head _), fun q => by dsimp only at q; rw [q, S.nL] at ho; cases ho⟩
    · exact ⟨hn _ (S.mf p hp).1, (S.mf p hp).2⟩
  · simp only [List.map_cons, List.nodup_cons]
    refine ⟨fun hm => ?_, S.mn⟩
    obtain ⟨p, hp, q⟩ := List.mem_map.mp hm
    have := (S.mf p hp).1
    rw [q, ho] at this; cases this
/-- as «enter», for the code of a call -/
theorem enterC {n : Nat} {fa : Addr} {oc : Value} {od : Option Addr} {sl : Array (Option Value)} {fd : FuncData} {body : List Stmt} {args : List Value} {R : Result → Shared → Prop} (ps rest gs : List Str)
    (Am : Amb n A) (G : Gd w s.heap) (ho : (hd.heap_1 w.params).lookup fa = some ⟨oc, od, .func fd, sl⟩) (hb : fd.body = .stmts body) (hbind : bindArgs fd ⟨args, []⟩ = pure (ps.zip args)) (hlen : ps.length = args.length)
    (hcd : codeIn (hd.heap_1 w.params) fd.code fd.qualname = true) (hk : fd.scope.kind = .function) (hg : fd.globals = mainGlobals) (hbi : fd.builtins = builtinsNs)
    (h0 : (fd.scope.names.all fun x => x.2 != .cell) = true) (h1 : ((ps ++ rest).all fun x => fd.scope.names.lookup x == some .local && !(x == ("__debug__" : Str))) = true)
    (h2 : (gs.all fun x => fd.scope.names.lookup x == some .globalImplicit && !(x == ("__debug__" : Str))) = true) (nd : decide (ps ++ rest).Nodup = true)
    (hco : fd.scope.isCoroutine = false) (hgen : fd.scope.isGenerator = false)
    (h : ∀ e L s', Fn e L (ps ++ rest) gs → St w s s.heap L (ps ++ rest) (args.map some ++ rest.map fun _ => none) [] s' →
      Wp prog w (A.deeper e) (execs body e) (fun f s'' => R (.ok (.ret (match f with | .ret v => v | _ => .none))) s'') s') :
    codeAny (model prog w) A (.call (.ref fa) ⟨args, []⟩) R s := by
  obtain ⟨mg, mb, hmg, hmb, hlim, hbt⟩ := G.T
  have nd' := of_decide_eq_true nd
  have C := fun L => Fn.of (fa := fa) hk hg hbi h1 h2 L
  have hz := zip_fst ps args hlen
  have hx0 : ∀ x ∈ fd.scope.names, x.2 ≠ .cell := fun x hx => by have := List.all_eq_true.mp h0 x hx; simpa using this
  have hx1 : ∀ x ∈ ps.zip args, fd.scope.names.lookup x.1 = some .local := fun x hx => (C 0).kinds x.1 (List.mem_append_left _ (by rw [← hz]; exact List.mem_map_of_mem hx))
  have ho' := G.X _ _ ho
  have hr := Am.room
  have hcd' := codeRec_of G.X hcd
  have hbt' : BindsTo s fd ⟨args, []⟩ (ps.zip args) := BindsTo.of_eq hbind
  with_reducible refine codeAny_call_def (fd := fd) (body := body) (binds := ps.zip args) hr ho' ?_ hlim hcd' hb hbt' hx0 hx1 ?_ hco hgen hk
  · rfl
  intro h₁ hns hk₁
  have hL0 : s.heap.get? s.heap.objs.size = none := size_none _
  have hl := look_binds (ps.zip args) rest (by rw [hz]; exact (List.nodup_append.mp nd').1)
  rw [hz, zip_snd ps args hlen] at hl
  have S : St w s s.heap s.heap.objs.size (ps ++ rest) (args.map some ++ rest.map fun _ => none) [] { s with heap := h₁, toks := s.toks + (ps.zip args).length } :=
    ⟨rfl, rfl, rfl, by rw [hl]; exact hns, nd', hk₁, hL0, (fun _ hp => by cases hp), (fun _ hp => by cases hp), List.nodup_nil, G⟩
  exact wpAny_mono (h _ _ _ (C _) S).run (fun f s' q => q) fun _ _ x => x.elim
theorem Amb.underCall {n : Nat} (a : Amb (n + 1) A) (C : Addr) (r : List Value) : Amb n (A.under (.builtin "type.__call__" ⟨.ref C :: r, []⟩)) := by
  have h1 : (Code.builtin "type.__call__" ⟨.ref C :: r, []⟩).weight = 1 := by kernel_rfl
  have h2 : (A.under (.builtin "type.__call__" ⟨.ref C :: r, []⟩)).units = A.units + 1 := by first | rfl | simp [Around.under, Code.cUnits, Code.frames, Code.isFrame]
  refine ⟨a.hd, ?_, by rw [h2]; have := a.un; omega⟩
  show A.depth + (Code.builtin "type.__call__" ⟨.ref C :: r, []⟩).weight + n ≤ 900
  have := a.dp; omega
end

end Mine
namespace Mine


theorem str_one (c d : Nat) : ((⟨#[c]⟩ : Str) == ⟨#[d]⟩) = decide (c = d) := by
  by_cases h : c = d <;> simp [h]
def OrD (D : Shared → Prop) (R : Flow → Shared → Prop) : Flow → Shared → Prop := fun f s => match f with
  | .next => D s
  | f => R f s
section
variable {prog : Program} {w : World} {A : Around} {s₀ s : Shared} {g : Heap} {L : Addr} {ns gs : List Str} {loc loc' : List (Option Value)} {mu : List (Addr × MO)} {e : Env}
theorem Cp.via {c : Code} {R : Flow → Shared → Prop} (D : Shared → Prop) (h : Cp prog w A c (OrD D R) s) (fin : ∀ s', D s' → R .next s') : Cp prog w A c R s :=
  ⟨codeAny_mono h.run fun r s' q => by
    cases r with
    | error x => exact q
    | ok f => cases f with
      | next => exact fin _ q
      | _ => exact q⟩
theorem or_next {D : Shared → Prop} {R : Flow → Shared → Prop} {s : Shared} (h : D s) : OrD D R .next s := h
theorem or_ret {D : Shared → Prop} {R : Flow → Shared → Prop} {s : Shared} {v : Value} (h : R (.ret v) s) : OrD D R (.ret v) s := h
end

end Mine
namespace Mine
set_option maxRecDepth 1000000

def strLt : Code → Option Result
  | .call (.builtin i) ⟨[.str x _, .str y _], []⟩ => if i = "str.__lt__" then some (.ok (.ret (.bool (decide (x.cps.toList < y.cps.toList))))) else none
  | _ => none
def ev {α : Type} (S : PySem.Setting) : Sem α → Option α
  | .pure a => some a
  | .rule _ k => ev S (k ())
  | .at _ k => ev S (k ())
  | .point _ k => ev S (k ())
  | .ask k => ev S (k S)
  | .call c none _ _ k => match strLt c with
    | some r => ev S (k r)
    | none => none
  | _ => none
def signsOf (names : List String) (t : Nat → Tok) : List Value := (names.flatMap fun n => [n ++ "a", n ++ "B"]).zipIdx.map fun p => Value.str (Str.ofString p.1) (t p.2)
def cpsOf : Value → Option (List Nat)
  | .str x _ => some x.cps.toList
  | _ => none
def outOf (r : Option (Unit × SortSt)) : Option (List (Option (List Nat)) × Bool) := r.map fun r => ((arrOf r.2).toList.map fun p => cpsOf p.2, (failedOf r.2).isNone)
def startOf (vs : List Value) : SortSt := SortSt.mk' oneType' (vs.toArray.zip vs.toArray) #[] 7 none
set_option maxHeartbeats 1000000

def withText (P : Params) (c : Bool) : Params := { P with followText := fun x => if x = "special-get-raises" then c else P.followText x }
theorem withText_eq (P : Params) : P = withText P (P.followText "special-get-raises") := by
  obtain ⟨a, b, c, d, e, f, g, h, i, j, k, l, m⟩ := P
  unfold withText
  congr 1
  funext x
  split
  · rename_i h; rw [h]
  · rfl
theorem strLt_sound {prog : Program} {w : World} {A : Around} {c : Code} {r : Result} {s : Shared} (h : strLt c = some r) {Γ : Ctx} {p : Pos} (hΓ : Γ.In A) {R : Result → Shared → Prop} (hr : R r s) : wpCode (model prog w) (Γ.enter c none p) R p s := by
  unfold strLt at h
  split at h
  · rename_i i x tx y ty
    split at h
    · rename_i hi
      subst hi
      cases h
      have k := call_str_lt (prog := prog) (w := w) (A := A) (E := fun _ _ => False) (s := s) (a := x) (b := y) (t := tx) (u := ty) (Q := fun v s' => v = .bool (decide (x.cps.toList < y.cps.toList)) ∧ s' = s) ⟨rfl, rfl⟩ Γ p hΓ
      rw [Sem.wp_cmd_call] at k
      refine wpCode_mono ?_ k
      intro r' s' q
      cases r' with
      | error e => exact q.elim
      | ok f => cases f with
        | ret v => obtain ⟨rfl, rfl⟩ := q; exact hr
        | _ => exact q.elim
    · cases h
  · cases h
theorem ev_sound {prog : Program} {w : World} {A : Around} {α : Type} {s : Shared} {E : Value → Shared → Prop} {Q : α → Shared → Prop} : ∀ (t : Sem α) {a : α}, ev ⟨prog, w.params⟩ t = some a → Q a s → wpAny (model prog w) A t Q E s := by
  intro t
  induction t with
  | pure a => intro b h q Γ p _; simp only [ev, Option.some.injEq] at h; subst h; simpa using q
  | rule tag k ih => intro b h q Γ p hΓ; rw [Sem.wp_rule]; exact ih () h q Γ p hΓ
  | «at» pos k ih => intro b h q Γ p hΓ; rw [Sem.wp_at]; exact ih () h q Γ pos hΓ
  | point l k ih => intro b h q Γ p hΓ; rw [Sem.wp_point]; exact ih () h q Γ p hΓ
  | ask k ih => intro b h q Γ p hΓ; rw [Sem.wp_ask]; exact ih _ h q Γ p hΓ
  | call c hd g l k ih =>
    intro b h q Γ p hΓ
    cases hd with
    | some x => simp [ev] at h
    | none =>
      rw [Sem.wp_call]
      simp only [ev] at h
      split at h
      · rename_i r hr
        exact strLt_sound hr hΓ (ih r h q Γ p hΓ)
      · cases h
  | _ => intro b h; simp [ev] at h
def opNames : List String := ["(", ")", "[", "]", ":", ",", ";", "+", "-", "*", "/", "|", "&", "<", ">", "=", ".", "%", "{", "}", "==", "!=", "<=", ">=", "~", "^", "<<", ">>", "**", "+=", "-=", "*=", "/=", "%=", "&=", "|=", "^=", "<<=", ">>=", "**=", "//", "//=", "@", "@=", "->", "...", ":=", "!"]
def sortedCps : List (List Nat) := [[33, 61, 66], [33, 61, 97], [33, 66], [33, 97], [37, 61, 66], [37, 61, 97], [37, 66], [37, 97], [38, 61, 66], [38, 61, 97], [38, 66], [38, 97], [40, 66], [40, 97], [41, 66], [41, 97], [42, 42, 61, 66], [42, 42, 61, 97], [42, 42, 66], [42, 42, 97], [42, 61, 66], [42, 61, 97], [42, 66], [42, 97], [43, 61, 66], [43, 61, 97], [43, 66], [43, 97], [44, 66], [44, 97], [45, 61, 66], [45, 61, 97], [45, 62, 66], [45, 62, 97], [45, 66], [45, 97], [46, 46, 46, 66], [46, 46, 46, 97], [46, 66], [46, 97], [47, 47, 61, 66], [47, 47, 61, 97], [47, 47, 66], [47, 47, 97], [47, 61, 66], [47, 61, 97], [47, 66], [47, 97], [58, 61, 66], [58, 61, 97], [58, 66], [58, 97], [59, 66], [59, 97], [60, 60, 61, 66], [60, 60, 61, 97], [60, 60, 66], [60, 60, 97], [60, 61, 66], [60, 61, 97], [60, 66], [60, 97], [61, 61, 66], [61, 61, 97], [61, 66], [61, 97], [62, 61, 66], [62, 61, 97], [62, 62, 61, 66], [62, 62, 61, 97], [62, 62, 66], [62, 62, 97], [62, 66], [62, 97], [64, 61, 66], [64, 61, 97], [64, 66], [64, 97], [91, 66], [91, 97], [93, 66], [93, 97], [94, 61, 66], [94, 61, 97], [94, 66], [94, 97], [123, 66], [123, 97], [124, 61, 66], [124, 61, 97], [124, 66], [124, 97], [125, 66], [125, 97], [126, 66], [126, 97]]
set_option maxHeartbeats 1000000


end Mine
namespace Mine
set_option maxRecDepth 100000
set_option maxHeartbeats 400000


section
variable {prog : Program} {w : World} {A : Around} {E : Value → Shared → Prop} {s : Shared} {vs : List Value} {st : SortSt}
/-- the run of the sort over «vs» ends in the state st -/
def Sorts (prog : Program) (w : World) (vs : List Value) (st : SortSt) : Prop :=
  ∀ (A : Around) (E : Value → Shared → Prop) (Q : Unit × SortSt → Shared → Prop) (s : Shared), Q ((), st) s → wpAny (model prog w) A (sortRuns'.run (startOf vs)) Q E s
theorem sort_run {a : Addr} {n : Nat} {P : PySem.Fin → Shared → Prop} (ho : s.heap.get? a = some (seqObj "list" vs.toArray n)) (h2 : 2 ≤ vs.length) (hz : vs.length ≤ 1000) (hz2 : (arrOf st).size ≤ 1000)
    (hk : keyKind' vs.toArray = pure oneType') (hf : failedOf st = none) (hs : Sorts prog w vs st) (h : P (.done (.ret .none)) { s with heap := sortedHeap s.heap a vs ((arrOf st).map (·.2)) }) :
    wpAny (model prog w) A (Builtin.«list.sort» ⟨[.ref a], []⟩) P E s := by
  have ha : a < s.heap.objs.size := Heap.lt_size ho
  have hv : vs.toArray.size ≤ sizeLine := by rw [List.size_toArray, sizeLine_eq]; omega
  have h1 : (s.heap.update a (Obj.mapSeq fun _ => #[])).get? a = some (seqObj "list" #[] _) := get?_update_seq ho (fun _ => #[])
  have h3 := h1
  have hn1 : a ≠ (s.heap.update a (Obj.mapSeq fun _ => #[])).objs.size := by rw [Heap.size_update]; exact Nat.ne_of_lt ha
  have hn2 : a ≠ ((s.heap.update a (Obj.mapSeq fun _ => #[])).push (seqObj "tuple" vs.toArray 0)).objs.size := by rw [size_push', Heap.size_update]; exact Nat.ne_of_lt (Nat.lt_succ_of_lt ha)
  rw [← Heap.get?_push_ne _ _ (seqObj "tuple" vs.toArray 0) hn1, ← Heap.get?_push_ne _ _ (seqObj "list" #[] 0) hn2] at h3
  have hno : ¬ vs.toArray.size < 2 := by rw [List.size_toArray]; omega
  rw [list_sort_plain]
  refine wpAny_bind (listItems_at ho rfl ?_)
  refine wpAny_bind (listUpdate_at ho rfl ?_ hv (Nat.zero_le _))
  refine wpAny_bind (seqEpoch_at h1 rfl ?_)
  refine wpAny_bind (wpAny_newTuple ?_ (by simpa using hv))
  refine wpAny_bind (wpAny_newList ?_)
  refine wpAny_holding ?_
  show wpAny (model prog w) A _ P E { s with heap := ((s.heap.update a (Obj.mapSeq fun _ => #[])).push (seqObj "tuple" vs.toArray 0)).push (seqObj "list" #[] 0) }
  dsimp only
  rw [if_neg hno, if_neg hno, hk]
  refine wpAny_bind (wpAny_pure (wpAny_bind (hs _ _ _ _ ?_)))
  dsimp only
  refine wpAny_bind (seqEpoch_at h3 rfl (wpAny_bind (listUpdate_at h3 rfl ?_ (Nat.zero_le _) (by rw [Array.size_map, sizeLine_eq]; omega))))
  rw [hf]
  simp only [bne_self_eq_false, Bool.false_eq_true, if_false]
  exact wpAny_pure h
theorem sorted_run {l : Addr} {Q : Value → Shared → Prop} (hl : s.heap.IsList l vs.toArray) (h2 : 2 ≤ vs.length) (hz : vs.length ≤ 1000) (hz2 : (arrOf st).size ≤ 1000)
    (hk : keyKind' vs.toArray = pure oneType') (hf : failedOf st = none) (hs : Sorts prog w vs st) (h : Q (.ref (s.heap.objs.size + 1)) { s with heap := sortedAll s.heap vs ((arrOf st).map (·.2)) }) :
    wpAny (model prog w) A (call (.builtin "sorted") [.ref l]) Q E s := by
  refine Calls.call_function_entry kind_sorted plain_sorted entry_sorted (args_sorted1 _) ?_
  unfold Builtin.«sorted»
  have hsz : ((s.heap.push (seqObj "list" #[] 0)).update s.heap.objs.size (Obj.mapSeq (· ++ vs.toArray))).objs.size = s.heap.objs.size + 1 := by
    rw [Heap.size_update, size_push']
  have hnew : (((s.heap.push (seqObj "list" #[] 0)).update s.heap.objs.size (Obj.mapSeq (· ++ vs.toArray))).push (seqObj "list" vs.toArray 0)).get? (s.heap.objs.size + 1) = some (seqObj "list" vs.toArray 0) := by
    rw [← hsz]; exact Heap.get?_push_size _ rfl
  refine wpAny_bind (m := checkCount "sorted" 1 1 _) (wpAny_pure ?_)
  refine wpAny_bind (collect_list hl ?_ (by rw [sizeLine_eq]; omega))
  refine wpAny_bind (wpAny_newList ?_ (by rw [sizeLine_eq]; omega))
  show wpAny _ _ _ _ _ { s with heap := ((s.heap.push (seqObj "list" #[] 0)).update s.heap.objs.size (Obj.mapSeq (· ++ vs.toArray))).push (seqObj "list" vs.toArray 0) }
  rw [hsz]
  refine wpAny_bind (wpAny_holding (wpAny_call_entry slot_list_sort ⟨_, hnew, rfl⟩ entry_list_sort (sort_run hnew h2 hz hz2 hk hf hs ⟨_, rfl, ?_⟩) (args_list_sort _)))
  exact wpAny_pure ⟨_, rfl, h⟩
end

end Mine
namespace Mine
set_option maxRecDepth 1000000
set_option maxHeartbeats 4000000

noncomputable def sortSg (t : Nat → Tok) (i : Nat) : Value := (signsOf opNames t).getD i .none
noncomputable def sortStP (t : Nat → Tok) (l : List Nat) (p : List (Nat × Nat × Nat)) (g : Nat) : SortSt := SortSt.mk' oneType' (Array.mk (l.map fun i => (sortSg t i, sortSg t i))) (Array.mk p) g none
/-- the order once the first, then once the second half is sorted -/
def sortHalf1 : List Nat := [43, 42, 35, 34, 25, 24, 1, 0, 3, 2, 19, 18, 15, 14, 11, 10, 17, 16, 33, 32, 21, 20, 9, 8, 13, 12, 45, 44, 27, 26, 41, 40, 31, 30, 47, 46, 29, 28, 5, 4, 7, 6, 37, 36, 23, 22, 39, 38, 48, 49, 50, 51, 52, 53, 54, 55, 56, 57, 58, 59, 60, 61, 62, 63, 64, 65, 66, 67, 68, 69, 70, 71, 72, 73, 74, 75, 76, 77, 78, 79, 80, 81, 82, 83, 84, 85, 86, 87, 88, 89, 90, 91, 92, 93, 94, 95]
def sortHalf2 : List Nat := [43, 42, 35, 34, 25, 24, 1, 0, 3, 2, 19, 18, 15, 14, 11, 10, 17, 16, 33, 32, 21, 20, 9, 8, 13, 12, 45, 44, 27, 26, 41, 40, 31, 30, 47, 46, 29, 28, 5, 4, 7, 6, 37, 36, 23, 22, 39, 38, 95, 94, 67, 66, 69, 68, 79, 78, 57, 56, 63, 62, 59, 58, 61, 60, 89, 88, 91, 90, 83, 82, 81, 80, 65, 64, 93, 92, 75, 74, 53, 52, 77, 76, 55, 54, 87, 86, 85, 84, 73, 72, 51, 50, 71, 70, 49, 48]
def sortWhole : List Nat := [43, 42, 95, 94, 67, 66, 35, 34, 69, 68, 25, 24, 1, 0, 3, 2, 79, 78, 57, 56, 63, 62, 19, 18, 59, 58, 15, 14, 11, 10, 61, 60, 89, 88, 17, 16, 91, 90, 33, 32, 83, 82, 81, 80, 65, 64, 21, 20, 93, 92, 9, 8, 13, 12, 75, 74, 53, 52, 45, 44, 27, 26, 41, 40, 31, 30, 47, 46, 77, 76, 55, 54, 29, 28, 87, 86, 85, 84, 5, 4, 7, 6, 73, 72, 51, 50, 37, 36, 71, 70, 23, 22, 39, 38, 49, 48]
theorem sort_start (t : Nat → Tok) : startOf (signsOf opNames t) = sortStP t (List.range 96) [] 7 := by kernel_rfl
section
variable {prog : Program} {w : World} {A : Around} {E : Value → Shared → Prop} {s : Shared}
theorem wpS_of_ev {α : Type} {m : StateT SortSt Sem α} {Q : α → SortSt → Prop} {st st' : SortSt} {a : α} (h : ev ⟨prog, w.params⟩ (m.run st) = some (a, st')) (q : Q a st') : wpS (model prog w) A E s m Q st :=
  ev_sound _ h ⟨rfl, q⟩
/-- the sort's loop over the runs and what is behind it, as they stand in its text -/
noncomputable def sortParts : (f : SortSt → Nat → Option Unit × Nat → StateT SortSt Sem (ForInStep (Option Unit × Nat))) ×' (k : SortSt → Option Unit × Nat → StateT SortSt Sem Unit) ×'
    (sortRuns' = (do let st ← get; let c ← forIn [0:(arrOf st).size] (none, 0) (f st); k st c)) := ⟨_, _, sortRuns'_eq⟩
noncomputable def sortSt0 (t : Nat → Tok) : SortSt := sortStP t (List.range 96) [] 7
noncomputable def sortSt1 (t : Nat → Tok) : SortSt := sortStP t sortHalf1 [(0, 48, 0)] 7
noncomputable def sortSt2 (t : Nat → Tok) : SortSt := sortStP t sortHalf2 [(0, 48, 1), (48, 48, 0)] 7
noncomputable def sortSt3 (t : Nat → Tok) : SortSt := sortStP t sortWhole [(0, 96, 1)] 8
def SortTurn1 (prog : Program) (b : Bool) : Prop := ∀ (t : Nat → Tok) (P : Params),
  ev ⟨prog, withText P b⟩ ((sortParts.1 (sortSt0 t) 0 (none, 0)).run (sortSt0 t)) = some (.yield (none, 48), sortSt1 t)
def SortTurn2 (prog : Program) (b : Bool) : Prop := ∀ (t : Nat → Tok) (P : Params),
  ev ⟨prog, withText P b⟩ ((sortParts.1 (sortSt0 t) 1 (none, 48)).run (sortSt1 t)) = some (.yield (none, 96), sortSt2 t)
def SortTurn3 (prog : Program) (b : Bool) : Prop := ∀ (t : Nat → Tok) (P : Params),
  ev ⟨prog, withText P b⟩ ((sortParts.2.1 (sortSt0 t) (none, 96)).run (sortSt2 t)) = some ((), sortSt3 t)
theorem sort_turn1_false (prog : Program) : SortTurn1 prog false := fun t P => by kernel_rfl
theorem sort_turn1_true (prog : Program) : SortTurn1 prog true := fun t P => by kernel_rfl
theorem sort_turn2_false (prog : Program) : SortTurn2 prog false := fun t P => by kernel_rfl
theorem sort_turn2_true (prog : Program) : SortTurn2 prog true := fun t P => by kernel_rfl
theorem sort_turn3_false (prog : Program) : SortTurn3 prog false := fun t P => by kernel_rfl
theorem sort_turn3_true (prog : Program) : SortTurn3 prog true := fun t P => by kernel_rfl
theorem sort_turn_end (prog : Program) (t : Nat → Tok) (P : Params) (x : Nat) : ev ⟨prog, P⟩ ((sortParts.1 (sortSt0 t) x (none, 96)).run (sortSt2 t)) = some (.done (none, 96), sortSt2 t) := by kernel_rfl
theorem sort_pieces (t : Nat → Tok) : wpS (model prog w) A E s sortRuns' (fun _ st => st = sortSt3 t) (sortSt0 t) := by
  rw [sortParts.2.2]
  refine wpS_bind (wpS_get ?_)
  have z : (arrOf (sortSt0 t)).size = 96 := by kernel_rfl
  rw [z]
  refine wpS_bind (wpS_mono (wpS_forRange
    (I := fun x c st => (x = 0 ∧ c = (none, 0) ∧ st = sortSt0 t) ∨ (x = 1 ∧ c = (none, 48) ∧ st = sortSt1 t) ∨ (2 ≤ x ∧ c = (none, 96) ∧ st = sortSt2 t))
    (Q := fun c st => c = (none, 96) ∧ st = sortSt2 t) ?step ?fin (.inl ⟨rfl, rfl, rfl⟩)) ?post)
  case fin =>
    rintro c st (⟨hx, _⟩ | ⟨hx, _⟩ | ⟨_, hc, hs⟩)
    · exact absurd hx (by decide)
    · exact absurd hx (by decide)
    · exact ⟨hc, hs⟩
  case step =>
    rintro x c st _ _ (⟨rfl, rfl, rfl⟩ | ⟨rfl, rfl, rfl⟩ | ⟨_, rfl, rfl⟩)
    · refine wpS_of_ev (a := .yield (none, 48)) (st' := sortSt1 t) ?_ (.inr (.inl ⟨rfl, rfl, rfl⟩))
      rw [withText_eq w.params]
      cases w.params.followText "special-get-raises" with
      | false => exact sort_turn1_false prog t w.params
      | true => exact sort_turn1_true prog t w.params
    · refine wpS_of_ev (a := .yield (none, 96)) (st' := sortSt2 t) ?_ (.inr (.inr ⟨Nat.le_refl _, rfl, rfl⟩))
      rw [withText_eq w.params]
      cases w.params.followText "special-get-raises" with
      | false => exact sort_turn2_false prog t w.params
      | true => exact sort_turn2_true prog t w.params
    · exact wpS_of_ev (sort_turn_end prog t w.params x) ⟨rfl, rfl⟩
  case post =>
    rintro c st ⟨rfl, rfl⟩
    refine wpS_of_ev (a := ()) (st' := sortSt3 t) ?_ rfl
    rw [withText_eq w.params]
    cases w.params.followText "special-get-raises" with
    | false => exact sort_turn3_false prog t w.params
    | true => exact sort_turn3_true prog t w.params
end
theorem sort_whole (t : Nat → Tok) : (arrOf (sortSt3 t)).toList.map (fun p => cpsOf p.2) = sortedCps.map some := by kernel_rfl
theorem signs_sort (t : Nat → Tok) (prog : Program) (w : World) : ∃ st, Sorts prog w (signsOf opNames t) st ∧ failedOf st = none ∧ (arrOf st).toList.map (fun p => cpsOf p.2) = sortedCps.map some := by
  refine ⟨sortSt3 t, fun A E Q s q => ?_, rfl, sort_whole t⟩
  rw [sort_start]
  show wpAny _ _ (sortRuns'.run (sortSt0 t)) _ _ _
  refine wpAny_mono (sort_pieces t) (fun r s' h => ?_) fun _ _ e => e
  obtain ⟨rfl, h⟩ := h
  obtain ⟨u, st⟩ := r
  obtain rfl : st = _ := h
  exact q

end Mine
namespace Mine
set_option linter.unusedVariables false

section
variable {prog : Program} {w : World} {A : Around} {s₀ s : Shared} {g : Heap} {L : Addr} {ns gs : List Str} {loc loc' : List (Option Value)} {mu mu' : List (Addr × MO)} {e : Env}
variable {Q : Value → Shared → Prop} {QF : Flow → Shared → Prop} {QU : Unit → Shared → Prop} {QB : Bool → Shared → Prop} {rest : List Stmt}
-- slices
def NewSl (l u st : Value) (Q : Value → Shared → Prop) (s : Shared) : Prop := Q (.ref s.heap.objs.size) { s with heap := s.heap.push { cls := .type "slice", data := .fields #[l, u, st] } }
theorem newsl {l u st : Value} (S : St w s₀ g L ns loc mu s) (k : ∀ a s', s'.heap.IsSliceOf a l u st → St w s₀ g L ns loc mu s' → Q (.ref a) s') : NewSl l u st Q s :=
  k _ _ (Heap.IsSliceOf.new ..) (S.grow (s' := { s with heap := s.heap.push { cls := .type "slice", data := .fields #[l, u, st] } }) (fun b o q => Heap.get?_push_of_some _ q) rfl rfl rfl)
theorem r_slice {lower upper step : Option Expr} {p : Pos} (h : Wp prog w A (evalPart lower e) (fun l s₁ => Wp prog w A (evalPart upper e) (fun u s₂ => Wp prog w A (evalPart step e) (fun st s₃ => NewSl l u st Q s₃) s₂) s₁) s) :
    Wp prog w A (eval (.Slice lower upper step p) e) Q s :=
  ⟨wpAny_Slice (wpAny_mono h.run (fun _ _ q => wpAny_mono q.run (fun _ _ q => wpAny_mono q.run (fun _ _ q => q) fun _ _ x => x) fun _ _ x => x) fun _ _ x => x)⟩
theorem r_part0 (h : Q .none s) : Wp prog w A (evalPart none e) Q s := ⟨evalPart_none_step h⟩
theorem r_part1 {x : Expr} (h : Wp prog w A (eval x e) Q s) : Wp prog w A (evalPart (some x) e) Q s := ⟨evalPart_some_step h.run⟩
theorem i_lslice {ops : List Value} {value slice : Expr} {l sl : Addr} {items : List Value} {vl vu vs : Value} {lo hi st : Option Int} (S : St w s₀ g L ns loc mu s) (hl : s.heap.IsList l items.toArray) (hs : s.heap.IsSliceOf sl vl vu vs) (pl : IsPart vl lo) (pu : IsPart vu hi) (ps : IsPart vs st) (h0 : st ≠ some 0)
    (hz : items.length ≤ sizeLine) (k : ∀ a s', s.heap.get? a = none → St w s₀ g L ns loc ((a, .list (slicePick items.toArray lo hi st).toList) :: mu) s' → Q (.ref a) s')
    (hsub : subscripted slice false (.ref l) (.ref sl) = operate ops (getItem (.ref l) (.ref sl)) := by with_unfolding_all rfl) (ht : ∀ r, letTemporaryGo value (.ref l) r = pure () := by intro _; with_unfolding_all rfl) :
    Wp prog w A (subscriptTail value slice (.ref l) (.ref sl)) Q s := by
  refine ⟨subscriptTail_ops hl.typeIs list_getitem_lookup (wpAny_getItem_list_slice hl hs pl pu ps h0 ?_ (by simpa using hz)) hsub ht⟩
  exact k _ _ (size_none _) (S.alloc' (m := .list _) ⟨0, Heap.get?_push_size _ rfl⟩)
theorem i_listneg {value slice : Expr} {l : Addr} {items : List Value} {k : Int} {u : Tok} {v : Value} (hl : s.heap.IsList l items.toArray) (h0 : k < 0) (h1 : -(items.length : Int) ≤ k) (h2 : -(2 ^ 62) ≤ k) (hx : items[(k + items.length).toNat]? = some v) (h : Q v s)
    (hs : subscripted slice false (.ref l) (.int k u) = operate [.ref l, .int k u] (getItem (.ref l) (.int k u)) := by with_unfolding_all rfl) : Wp prog w A (subscriptTail value slice (.ref l) (.int k u)) Q s :=
  ⟨tail_any hl.typeIs slot_list_getitem.lookup (wpAny_getItem_list_neg hl h0 (by simpa using h1) (by omega) (by simpa using hx) h) hs⟩
theorem i_strslice {value slice : Expr} {x : Str} {tx : Tok} {sl : Addr} {l u : Option (Int × Tok)} (S : St w s₀ g L ns loc mu s) (hs : s.heap.IsSliceOf sl (partValue l) (partValue u) .none) (hz : x.length ≤ sizeLine)
    (k : ∀ t s', St w s₀ g L ns loc mu s' → Q (.str (Txt.slice x (l.map (·.1)) (u.map (·.1))) t) s')
    (hsub : subscripted slice false (.str x tx) (.ref sl) = operate [.ref sl, .str x tx] (getItem (.str x tx) (.ref sl)) := by with_unfolding_all rfl) (ht : ∀ r, letTemporaryGo value (.str x tx) r = pure () := by intro _; with_unfolding_all rfl) :
    Wp prog w A (subscriptTail value slice (.str x tx) (.ref sl)) Q s := by
  refine ⟨subscriptTail_ops (typeIs_str _ _ _) F.slot_str_getitem.lookup (wpAny_getItem_str_slice (l := l) (u := u) (st := none) hs rfl ?_) hsub ht⟩
  exact post_val_or_str ⟨Nat.le_trans (Txt.slice_le x _ _) hz, fun t' k' => k _ _ (S.toks _)⟩
-- texts
theorem m_split {x : Str} {t : Tok} {pl : Sem Bool} {QM : Value × List Value → Shared → Prop} (h : QM (.builtin "str.split", [.str x t]) s) : Wp prog w A (getMethod (.str x t) (Str.ofString "split") pl) QM s := by
  refine ⟨?_⟩
  with_reducible exact GM.split h
theorem m_join {x : Str} {t : Tok} {pl : Sem Bool} {QM : Value × List Value → Shared → Prop} (h : QM (.builtin "str.join", [.str x t]) s) : Wp prog w A (getMethod (.str x t) (Str.ofString "join") pl) QM s := by
  refine ⟨?_⟩
  with_reducible exact GM.join h
theorem r_split0 {x : Str} {t : Tok} (S : St w s₀ g L ns loc mu s) (hz : x.length + 2 ≤ sizeLine)
    (k : ∀ a vs s', s.heap.get? a = none → StrsAre vs (Txt.words x) → St w s₀ g L ns loc ((a, .list vs) :: mu) s' → Q (.ref a) s') : Wp prog w A (call (.builtin "str.split") [.str x t]) Q s :=
  ⟨splitN0A S.frE S.newsE (fun l h' tk e hS _ _ F N => k _ _ _ (size_none _) (e ▸ hS) (S.ofFr1 F N fun q => ⟨0, q⟩)) hz⟩
theorem r_split1 {x y : Str} {t u : Tok} (S : St w s₀ g L ns loc mu s) (hy : (y.length == 0) = false) (hz : x.length + 2 ≤ sizeLine)
    (k : ∀ a vs s', s.heap.get? a = none → StrsAre vs (Txt.split x y) → St w s₀ g L ns loc ((a, .list vs) :: mu) s' → Q (.ref a) s') : Wp prog w A (call (.builtin "str.split") [.str x t, .str y u]) Q s :=
  ⟨splitN1A S.frE S.newsE hy (fun l h' tk e hS _ _ F N => k _ _ _ (size_none _) (e ▸ hS) (S.ofFr1 F N fun q => ⟨0, q⟩)) hz⟩
theorem r_join {x : Str} {t : Tok} {D : Addr} {vs : List Value} {ys : List Str} (S : St w s₀ g L ns loc mu s) (hl : s.heap.IsList D vs.toArray) (hi : StrsAre vs ys) (hz : (ys.map (·.length)).sum + ys.length * x.length ≤ 16777216)
    (k : ∀ t s', St w s₀ g L ns loc mu s' → Q (.str (Txt.join x ys) t) s') : Wp prog w A (call (.builtin "str.join") [.str x t, .ref D]) Q s :=
  ⟨join_list hl hi hz fun t' _ => k t' _ (S.toks _)⟩
-- while
theorem x_while {test : Expr} {body : List Stmt} {pos : Pos} (h : Cp prog w A (.whileLoop test body [] e) (Then prog w A rest e QF) s) : Wp prog w A (execs (.While test body [] pos :: rest) e) QF s := by
  refine wp_cons (wpAny_While ?_)
  exact codeAny_mono h.run fun r s' q => by cases r <;> first | exact q | exact q.elim
/-- a while loop, with a bound of the turns -/
theorem wloop {σ : Type} {test : Expr} {body : List Stmt} {R : Flow → Shared → Prop} {σ₀ : σ} (J : σ → Shared → Prop) (meas : σ → Nat) (J0 : J σ₀ s)
    (turn : ∀ σ s', J σ s' → Wp prog w A (isTrue test e (eval test e)) (fun b s₁ => (b = true → Wp prog w A (execs body e) (Turn (fun s₂ => ∃ σ', J σ' s₂ ∧ meas σ' < meas σ) R) s₁) ∧ (b = false → R .next s₁)) s') :
    Cp prog w A (.whileLoop test body [] e) R s := by
  refine ⟨codeAny_whileLoop (fun k s' => ∃ σ, J σ s' ∧ meas σ = k) ?_ (meas σ₀) ⟨σ₀, J0, rfl⟩⟩
  rintro k s' ⟨σ, hJ, rfl⟩
  refine wpAny_mono (turn σ s' hJ).run (fun b s₁ q => ?_) fun _ _ x => x.elim
  cases b with
  | true =>
    simp only [if_true]
    refine wpAny_mono (q.1 rfl).run (fun f s₂ q => ?_) fun _ _ x => x.elim
    cases f with
    | next => obtain ⟨σ', h1, h2⟩ := q; exact ⟨_, h2, σ', h1, rfl⟩
    | cont => obtain ⟨σ', h1, h2⟩ := q; exact ⟨_, h2, σ', h1, rfl⟩
    | brk => exact q
    | ret v => exact q
  | false =>
    simp only [Bool.false_eq_true, if_false]
    exact wpAny_execs_nil (q.2 rfl)
end

end Mine
namespace Mine
set_option linter.unusedVariables false

def opTab : List (Str × Int) := [(Str.ofString "!", 54), (Str.ofString "!=", 28), (Str.ofString "%", 24), (Str.ofString "%=", 40), (Str.ofString "&", 19), (Str.ofString "&=", 41), (Str.ofString "(", 7), (Str.ofString ")", 8), (Str.ofString "*", 16), (Str.ofString "**", 35), (Str.ofString "**=", 46), (Str.ofString "*=", 38), (Str.ofString "+", 14), (Str.ofString "+=", 36), (Str.ofString ",", 12), (Str.ofString "-", 15), (Str.ofString "-=", 37), (Str.ofString "->", 51), (Str.ofString ".", 23), (Str.ofString "...", 52), (Str.ofString "/", 17), (Str.ofString "//", 47), (Str.ofString "//=", 48), (Str.ofString "/=", 39), (Str.ofString ":", 11), (Str.ofString ":=", 53), (Str.ofString ";", 13), (Str.ofString "<", 20), (Str.ofString "<<", 33), (Str.ofString "<<=", 44), (Str.ofString "<=", 29), (Str.ofString "=", 22), (Str.ofString "==", 27), (Str.ofString ">", 21), (Str.ofString ">=", 30), (Str.ofString ">>", 34), (Str.ofString ">>=", 45), (Str.ofString "@", 49), (Str.ofString "@=", 50), (Str.ofString "[", 9), (Str.ofString "]", 10), (Str.ofString "^", 32), (Str.ofString "^=", 43), (Str.ofString "{", 25), (Str.ofString "|", 18), (Str.ofString "|=", 42), (Str.ofString "}", 26), (Str.ofString "~", 31)]
def tabOf : List DictEntry → Option (List (Str × Int))
  | [] => some []
  | ⟨_, .str x _, .int n _⟩ :: r => (tabOf r).map ((x, n) :: ·)
  | _ => none
def entIn (K : Frag) (a : Addr) : Option (List DictEntry) := match K.lookup a with
  | some ⟨c, none, .dict es _, sl⟩ => if c = .type "dict" ∧ sl = #[] then some es.toList else none
  | _ => none
theorem entIn_of {K : Frag} {a : Addr} {l : List DictEntry} (h : entIn K a = some l) : ∃ es n, K.lookup a = some ⟨.type "dict", none, .dict es n, #[]⟩ ∧ es.toList = l := by
  unfold entIn at h
  split at h
  · split at h
    · rename_i q hc; obtain ⟨rfl, rfl⟩ := hc; cases h; exact ⟨_, _, q, rfl⟩
    · cases h
  · cases h
theorem tab_find {x : Str} : ∀ {es : List DictEntry} {T : List (Str × Int)}, tabOf es = some T → ∃ t : Int → Tok, (es.find? fun d => d.key.isStr x).map (·.val) = (T.lookup x).map fun n => Value.int n (t n) := by
  intro es
  induction es with
  | nil => intro T h; cases h; exact ⟨fun _ => 0, rfl⟩
  | cons d r ih =>
    intro T h
    unfold tabOf at h
    split at h
    · rename_i q; cases q
    · rename_i hs k tk n tn r' heq
      cases heq
      obtain ⟨T', hT, rfl⟩ := Option.map_eq_some_iff.mp h
      obtain ⟨t, ht⟩ := ih hT
      by_cases hx : x = k
      · subst hx
        refine ⟨fun _ => tn, ?_⟩
        simp [List.find?_cons, Value.isStr, List.lookup_cons]
      · have h1 : (x == k) = false := by simpa using hx
        have h2 : (k == x) = false := by simpa using fun q => hx q.symm
        refine ⟨t, ?_⟩
        simp only [List.find?_cons, Value.isStr, List.lookup_cons, h1, h2]
        exact ht
    · cases h
def tok (x : Str) : Option Int := opTab.lookup x
theorem ent95 (P) : (entIn (hd.heap_1 P) 95).bind tabOf = some opTab := by kernel_rfl
theorem keys95 (P : Params) : ∀ es n, (hd.heap_1 P).lookup 95 = some ⟨.type "dict", none, .dict es n, #[]⟩ → KeysLit P es.toList := by
  intro es n h
  obtain ⟨es0, n0, h0, k0⟩ : ∃ es n, (hd.heap_1 P).lookup 95 = some ⟨.type "dict", none, .dict es n, #[]⟩ ∧ KeysLit P es.toList := ⟨_, _, rfl, by repeat (first | exact True.intro | refine And.intro ⟨_, _, rfl, rfl⟩ ?_)⟩
  rw [h0] at h
  cases h
  exact k0
theorem tokMap {prog : Program} {w : World} {h : Heap} (G : Gd w h) : ∃ f, h.MapOf (strKind prog w) 95 f ∧ ∀ x, ∃ t : Int → Tok, f x = (tok x).map fun n => Value.int n (t n) := by
  obtain ⟨l, h1, h2⟩ := Option.bind_eq_some_iff.mp (ent95 w.params)
  obtain ⟨es, n, h3, h4⟩ := entIn_of h1
  subst h4
  refine ⟨_, mapOf_K (prog := prog) G.X h3 (keys95 _ _ _ h3), fun x => ?_⟩
  obtain ⟨t, ht⟩ := tab_find (x := x) h2
  refine ⟨t, ?_⟩
  show findBy Value.isStrOf es x = _
  unfold findBy
  have q : (fun d : DictEntry => Value.isStrOf x d.key) = fun d => d.key.isStr x := funext fun d => (isStr_of x d.key).symm
  rw [← Array.find?_toList, q]
  exact ht
section
variable {prog : Program} {w : World} {A : Around} {s₀ s : Shared} {g : Heap} {L : Addr} {ns gs : List Str} {loc loc' : List (Option Value)} {mu mu' : List (Addr × MO)} {e : Env} {Q : Value → Shared → Prop}
theorem r_notin {x : Str} {t : Tok} (S : St w s₀ g L ns loc mu s) (k : ∀ s', St w s₀ g L ns loc mu s' → Q (.bool (!(tok x).isSome)) s') : Wp prog w A (compareOp .NotIn (.str x t) (.ref 95)) Q s := by
  obtain ⟨f, hm, hf⟩ := tokMap (prog := prog) S.G
  obtain ⟨u, hu⟩ := hf x
  refine ⟨wpAny_notIn_of (strKind_is prog w x t) (by decide) hm ?_⟩
  rw [hu, Option.isSome_map]
  exact k _ (S.toks _)
theorem r_get {x : Str} {t u : Tok} {d : Int} (S : St w s₀ g L ns loc mu s) (k : ∀ t s', St w s₀ g L ns loc mu s' → Q (.int ((tok x).getD d) t) s') : Wp prog w A (call (.builtin "dict.get") [.ref 95, .str x t, .int d u]) Q s := by
  obtain ⟨f, hm, hf⟩ := tokMap (prog := prog) S.G
  obtain ⟨v, hv⟩ := hf x
  refine ⟨call_meetsIn PySem.F.slot_dict_get hm.typeIs PySem.F.entry_dict_get (PySem.F.args_dict_get_3 _ _ _) (meets_dict_get_default (strKind prog w) 95 (strKind_is prog w x t) (by decide) _) ⟨_, hm, ?_⟩⟩
  rw [hv]
  cases h : tok x with
  | none => have := k u _ (S.toks (s.toks + 1)); rw [h] at this; exact this
  | some n => have := k (v n) _ (S.toks (s.toks + 1)); rw [h] at this; exact this
theorem nodict95 (P) : ((hd.heap_1 P).lookup 95).map (·.dict) = some none := by kernel_rfl
theorem m_get {pl : Sem Bool} {QM : Value × List Value → Shared → Prop} (G : Gd w s.heap) (h : QM (.builtin "dict.get", [.ref 95]) s) : Wp prog w A (getMethod (.ref 95) (Str.ofString "get") pl) QM s := by
  obtain ⟨f, hm, hf⟩ := tokMap (prog := prog) G
  refine ⟨?_⟩
  refine getMethod_builtin hm.typeIs PySem.F.plainAttrs_dict PySem.F.slot_dict_get PySem.F.type_dict_get ?_ h
  intro a ha
  cases ha
  obtain ⟨o, h1, h2⟩ := Option.map_eq_some_iff.mp (nodict95 w.params)
  exact ⟨o, G.X _ _ h1, h2⟩
end

end Mine
namespace Mine
set_option linter.unusedVariables false

section
variable {prog : Program} {w : World} {A : Around} {s₀ s s1 : Shared} {g : Heap} {L : Addr} {ns gs : List Str} {loc loc' : List (Option Value)} {mu mu' : List (Addr × MO)} {e : Env} {Q : Value → Shared → Prop}
theorem St.getL (S : St w s₀ g L ns loc mu s) : ∃ o, s.heap.get? L = some o := by
  obtain ⟨o, _, _, h, _⟩ := S.nsp
  exact ⟨o, h⟩
/-- what a call has made, frozen -/
theorem St.freezeWs {x : Addr} {ws : Ws} (S : St w s₀ g L ns loc mu s) (S1 : St w s₀ g L ns loc mu s1) (W : WsAt (fun a => s.heap.get? a = none) s1.heap x ws) : ∃ g', Sub g g' ∧ St w s₀ g' L ns loc mu s1 ∧ WsAt (fun _ => True) g' x ws := by
  obtain ⟨g', h1, h2, h3⟩ := S1.freeze (List.Sublist.refl _)
  refine ⟨g', h1, h2, W.via fun b o hb hq => ⟨trivial, h3 b o hq ?_ ?_⟩⟩
  · rintro rfl
    obtain ⟨o, ho⟩ := S.getL
    rw [hb] at ho; cases ho
  · intro hm
    obtain ⟨p, hp, rfl⟩ := List.mem_map.mp hm
    obtain ⟨o, ho⟩ := (S.ml p hp).ex
    rw [hb] at ho; cases ho
/-- the head of the ledger, frozen -/
theorem St.freezeHead {a : Addr} {m : MO} (S : St w s₀ g L ns loc ((a, m) :: mu) s) : ∃ g', Sub g g' ∧ St w s₀ g' L ns loc mu s ∧ m.At g' a := by
  obtain ⟨g', h1, h2, h3⟩ := S.freeze (List.sublist_cons_self ..)
  have hm := S.ml _ (.head _)
  refine ⟨g', h1, h2, hm.of fun o q => h3 a o q (S.mf _ (.head _)).2 ?_⟩
  have := S.mn
  simp only [List.map_cons, List.nodup_cons] at this
  exact this.1
end
def Join (D : Shared → Prop) : Flow → Shared → Prop := fun f s => f = .next ∧ D s
theorem join_next {D : Shared → Prop} {s : Shared} (h : D s) : Join D .next s := ⟨rfl, h⟩
theorem if_join {prog : Program} {w : World} {A : Around} {e : Env} {b : Bool} {body orelse rest : List Stmt} {QF : Flow → Shared → Prop} {s : Shared} (D : Shared → Prop)
    (h1 : b = true → Wp prog w A (execs body e) (Join D) s) (h2 : b = false → Wp prog w A (execs orelse e) (Join D) s) (h3 : ∀ s', D s' → Wp prog w A (execs rest e) QF s') :
    (b = true → Wp prog w A (execs body e) (Then prog w A rest e QF) s) ∧ (b = false → Wp prog w A (execs orelse e) (Then prog w A rest e QF) s) :=
  ⟨fun h => (h1 h).mono fun f s' q => by obtain ⟨rfl, q⟩ := q; exact then_next (h3 _ q), fun h => (h2 h).mono fun f s' q => by obtain ⟨rfl, q⟩ := q; exact then_next (h3 _ q)⟩

end Mine
namespace Mine
set_option linter.unusedVariables false

/-- a name of the env that lies in a cell -/
structure CellOf (e : Env) (x : Str) (c : Addr) : Prop where
  fn : e.scope.kind = .function
  kind : e.kindOf x = some .cell
  at' : e.cells.lookup x = some c
  dbg : (x == ("__debug__" : Str)) = false
section
variable {prog : Program} {w : World} {A : Around} {s₀ s : Shared} {g : Heap} {L : Addr} {ns gs : List Str} {loc loc' : List (Option Value)} {mu mu' : List (Addr × MO)} {e : Env}
variable {Q : Value → Shared → Prop} {QF : Flow → Shared → Prop} {QU : Unit → Shared → Prop} {QB : Bool → Shared → Prop} {rest : List Stmt}
theorem r_cell {x : Str} {pos : Pos} {c : Addr} {v : Value} (C : CellOf e x c) (S : St w s₀ g L ns loc mu s) (hm : (c, MO.cell (some v)) ∈ mu) (k : Q v s) : Wp prog w A (eval (.Name x pos) e) Q s := by
  obtain ⟨o, ho, hd⟩ := S.ml _ hm
  exact ⟨wpAny_Name (wpAny_loadName_cell C.fn C.kind C.at' ⟨o, ho, hd⟩ k) C.dbg⟩
theorem r_cellz {x : Str} {pos : Pos} {c : Addr} {v : Value} (C : CellOf e x c) (S : St w s₀ g L ns loc mu s) (hm : (MO.cell (some v)).At g c) (k : Q v s) : Wp prog w A (eval (.Name x pos) e) Q s := by
  obtain ⟨o, ho, hd⟩ := hm
  exact ⟨wpAny_Name (wpAny_loadName_cell C.fn C.kind C.at' ⟨o, S.keep _ _ ho, hd⟩ k) C.dbg⟩
theorem CellOf.comp {scope : Scope} {cl : List (Str × Addr)} {Ca : Addr} {x : Str} {c : Addr} (h : CellOf e x c) (hk : scope.kind = .function) (hf : (relabel scope e).names.lookup x = some .cell) (hc : cl.lookup x = some c) : CellOf (compEnvC scope cl Ca e) x c :=
  ⟨hk, hf, hc, h.dbg⟩

/-- tests of a comprehension's clause -/
def Tests (prog : Program) (w : World) (A : Around) (ifs : List Expr) (e : Env) (QB : Bool → Shared → Prop) (s : Shared) : Prop :=
  Wp prog w A (forIn ifs true fun c r => if r = true then do let ok ← isTrue c e (eval c e); pure (ForInStep.yield ok) else pure (ForInStep.yield r)) QB s
theorem tests_nil (h : QB true s) : Tests prog w A [] e QB s := ⟨by rw [List.forIn_nil]; exact wpAny_pure h⟩
theorem tests_one {c : Expr} (h : Wp prog w A (isTrue c e (eval c e)) QB s) : Tests prog w A [c] e QB s := by
  refine ⟨?_⟩
  rw [List.forIn_cons]
  simp only [if_true]
  refine wpAny_bind (wpAny_bind (wpAny_mono h.run (fun b s₁ q => wpAny_pure ?_) fun _ _ x => x))
  dsimp only
  rw [List.forIn_nil]
  exact wpAny_pure q

theorem compLoop_rule {elt iter : Expr} {x : Str} {px : Pos} {ifs : List Expr} {scope : Scope} {pos : Pos} {ce : Env} {I D C : Addr} {oI : Obj} {n : Nat} {P : Nat → Value → Prop} {R : Result → Shared → Prop} {gC : Heap} {o₀ : Option Value}
    (J : Nat → List Value → Heap → Prop) (Cf : Fn ce C [x] gs) (W : It prog w A gC I n P s.heap) (S : St w s₀ gC C [x] [o₀] [(D, .list []), (I, .obj oI)] s) (hz : n ≤ sizeLine) (J0 : J 0 [] gC)
    (turn : ∀ i v vs g' oI' s', i < n → P i v → Sub gC g' → J i vs g' → St w s₀ g' C [x] [some v] [(D, .list vs), (I, .obj oI')] s' →
      Tests prog w A ifs ce (fun ok s₄ => (ok = true → Wp prog w A (eval elt ce) (fun y s₅ => ∃ g'', Sub g' g'' ∧ J (i + 1) (vs ++ [y]) g'' ∧ St w s₀ g'' C [x] [some v] [(D, .list vs), (I, .obj oI')] s₅) s₄) ∧
        (ok = false → ∃ g'', Sub g' g'' ∧ J (i + 1) vs g'' ∧ St w s₀ g'' C [x] [some v] [(D, .list vs), (I, .obj oI')] s₄)) s')
    (done : ∀ g' vs o s', Sub gC g' → J n vs g' → vs.length ≤ n → St w s₀ g' C [x] [o] [(D, .list vs)] s' → R (.ok .next) s') :
    codeAny (model prog w) A (.compLoop (.ListComp elt [⟨.Name x px, iter, ifs, 0⟩] scope pos) 0 (.ref I) (.ref D) ce) R s := by
  obtain ⟨fp, Sti, W, hst, hio, hfp⟩ := W
  have ff : ∀ (s : Shared) (E : Value → Shared → Prop) {α : Type} {t : Sem α} {Q : α → Shared → Prop}, Wp prog w A t Q s → wpAny (model prog w) A t Q E s := fun s E _ _ _ h => h.to
  refine codeAny_compLoop_tests (fun k s' => ∃ i g' vs o oI, k = n + 1 - i ∧ i ≤ n ∧ vs.length ≤ i ∧ Sub gC g' ∧ J i vs g' ∧ Sti i s'.heap ∧ St w s₀ g' C [x] [o] [(D, .list vs), (I, .obj oI)] s') ?_ (n + 1)
    ⟨0, gC, [], o₀, oI, rfl, Nat.zero_le _, Nat.le_refl _, Sub.rfl', J0, hst, S⟩
  rintro k s' ⟨i, g', vs, o, oI, rfl, hi, hvi, hg, hJ, hsti, S'⟩
  have hIm := S'.ml _ (.tail _ (.head _))
  have hIf := S'.mf _ (.tail _ (.head _))
  have hmn := S'.mn
  simp only [List.map_cons, List.map_nil, List.nodup_cons, List.mem_singleton, List.not_mem_nil, not_false_eq_true, true_and] at hmn
  have moved : ∀ (h' : Heap) (tk : Nat), (∀ b ob, b ∉ [I] → s'.heap.get? b = some ob → h'.get? b = some ob) → St w s₀ g' C [x] [o] [(D, .list vs)] { s' with heap := h', toks := tk } := by
    intro h' tk hk
    have T := S'.less (mu' := [(D, .list vs)]) (List.Sublist.cons_cons _ (List.nil_sublist _))
    have hIn : ∀ b ob, g'.get? b = some ob → b ≠ I := fun b ob q r => by rw [r, hIf.1] at q; cases q
    refine ⟨T.gens, T.drawn, T.os, ?_, T.nd, fun b ob q => hk b ob (fun r => hIn b ob q (List.mem_singleton.mp r)) (T.keep b ob q), T.nL, fun p hp => (T.ml p hp).of fun ob q => hk _ ob (fun r => ?_) q, T.mf, T.mn, T.gd⟩
    · exact T.nsp.at' fun ob q => hk _ ob (fun r => hIf.2 (List.mem_singleton.mp r).symm) q
    · rw [List.mem_singleton.mp hp] at r
      exact hmn.1 (List.mem_singleton.mp r)
  have back : ∀ (s₁ : Shared) (o₁ : Obj) (l : List (Option Value)), St w s₀ g' C [x] l [(D, .list vs)] s₁ → s₁.heap.get? I = some o₁ → St w s₀ g' C [x] l [(D, .list vs), (I, .obj o₁)] s₁ := by
    intro s₁ o₁ l T ho
    refine ⟨T.gens, T.drawn, T.os, T.nsp, T.nd, T.keep, T.nL, fun p hp => ?_, fun p hp => ?_, S'.mn, T.gd⟩
    · rcases List.mem_cons.mp hp with rfl | hp
      · exact T.ml _ (.head _)
      · rw [List.mem_singleton.mp hp]; exact ho
    · rcases List.mem_cons.mp hp with rfl | hp
      · exact T.mf _ (.head _)
      · rw [List.mem_singleton.mp hp]; exact hIf
  by_cases hlt : i < n
  · refine W.item i _ _ _ hlt hsti fun v h₁ tk₁ hP hst₁ hk₁ => ?_
    have T := moved h₁ tk₁ hk₁
    obtain ⟨oI', hoI'⟩ := hio _ _ hst₁
    have T' := back _ oI' _ T hoI'
    refine wpAny_assign_Name ?_
    refine wpAny_mono (ff _ _ (r_store (prog := prog) (A := A) (QU := fun _ s₂ => St w s₀ g' C [x] [some v] [(D, .list vs), (I, .obj oI')] s₂) Cf T' .head fun s₂ S₂ => S₂)) (fun _ s₂ S₂ => ?_) fun _ _ x => x
    have same : ∀ (s₃ : Shared) (g'' : Heap) (l : List (Option Value)) (us : List Value), Sub g' g'' → St w s₀ g'' C [x] l [(D, .list us), (I, .obj oI')] s₃ → Sti (i + 1) s₃.heap := by
      intro s₃ g'' l us hs S₃
      refine W.frame _ _ _ hst₁ fun b hb ob hq => ?_
      by_cases hbI : b = I
      · rw [hbI] at hq ⊢
        have h2 : s₃.heap.get? I = some oI' := S₃.ml _ (.tail _ (.head _))
        rw [hoI'] at hq; rw [h2]; exact hq
      · obtain ⟨o2, ho2⟩ := hfp b hb hbI
        have h1 := T.keep _ _ (hg _ _ ho2)
        have h2 := S₃.keep _ _ (hs _ _ (hg _ _ ho2))
        rw [h1] at hq; rw [h2]; exact hq
    have Tn := turn i v vs g' oI' s₂ hlt hP hg hJ S₂
    refine wpAny_mono (ff _ _ Tn) (fun ok s₃ q => ?_) fun _ _ x => x
    cases ok with
    | false =>
      simp only [Bool.false_eq_true, if_false]
      obtain ⟨g'', hs, hj, S₃⟩ := q.2 rfl
      exact ⟨n + 1 - (i + 1), by omega, i + 1, g'', vs, _, oI', rfl, hlt, by omega, hg.trans hs, hj, same s₃ g'' _ _ hs S₃, S₃⟩
    | true =>
      simp only [if_true]
      refine wpAny_mono (ff _ _ (q.1 rfl)) (fun y s₅ q => ?_) fun _ _ x => x
      obtain ⟨g'', hs, hj, S₅⟩ := q
      refine wpAny_mono (ff _ _ (r_append (Q := fun _ s₆ => St w s₀ g'' C [x] [some v] [(D, .list (vs ++ [y])), (I, .obj oI')] s₆) S₅ .head (by omega) fun s₆ S₆ => S₆)) (fun _ s₆ S₆ => ?_) fun _ _ x => x
      exact ⟨n + 1 - (i + 1), by omega, i + 1, g'', vs ++ [y], _, oI', rfl, hlt, by simp only [List.length_append, List.length_cons, List.length_nil]; omega, hg.trans hs, hj, same s₆ g'' _ _ hs S₆, S₆⟩
  · have hin : i = n := by omega
    subst hin
    refine W.done _ _ _ hsti fun h₁ tk₁ hk₁ => ?_
    exact done g' vs o _ hg hJ hvi (moved h₁ tk₁ hk₁)
theorem lookup_relabel_other {env : Env} {k : NameKind} (hk : (k == NameKind.free) = false) : ∀ {names : List (Str × NameKind)} {x : Str}, names.lookup x = some k →
    (names.map fun (n, k) => if (k == NameKind.free && env.scope.kind == .function && env.kindOf n == some .cell) then (n, NameKind.cell) else (n, k)).lookup x = some k
  | [], _, h => by simp at h
  | (n, k') :: r, x, h => by
    have ih := @lookup_relabel_other env k hk r x
    show List.lookup x ((if (k' == NameKind.free && env.scope.kind == .function && env.kindOf n == some .cell) = true then (n, NameKind.cell) else (n, k')) :: _) = _
    cases hx : x == n with
    | true =>
      simp only [List.lookup_cons, hx] at h
      cases h
      simp [List.lookup_cons, hx, hk]
    | false =>
      simp only [List.lookup_cons, hx] at h
      by_cases hc : (k' == NameKind.free && env.scope.kind == .function && env.kindOf n == some .cell) = true
      · rw [if_pos hc]; simp only [List.lookup_cons, hx]; exact ih h
      · rw [if_neg hc]; simp only [List.lookup_cons, hx]; exact ih h
theorem Fn.comp {gs0 : List Str} {scope : Scope} {cl : List (Str × Addr)} {x : Str} (Cf : Fn e L ns gs0) (hk : scope.kind = .function) (hx : (scope.names.lookup x == some .local && !(x == ("__debug__" : Str))) = true)
    (hg : (gs.all fun y => scope.names.lookup y == some .globalImplicit && !(y == ("__debug__" : Str))) = true) (Ca : Addr) : Fn (compEnvC scope cl Ca e) Ca [x] gs where
  kind := hk
  loc := rfl
  glob := Cf.glob
  bi := Cf.bi
  kinds := fun y hy => by
    rw [List.mem_singleton.mp hy]
    simp only [Bool.and_eq_true, beq_iff_eq] at hx
    exact lookup_relabel_other rfl hx.1
  gkinds := fun y hy => by
    have := List.all_eq_true.mp hg y hy
    simp only [Bool.and_eq_true, beq_iff_eq] at this
    exact lookup_relabel_other rfl this.1
  dbg := fun y hy => by
    rcases List.mem_append.mp hy with hy | hy
    · rw [List.mem_singleton.mp hy]
      simp only [Bool.and_eq_true, Bool.not_eq_true'] at hx
      exact hx.2
    · have := List.all_eq_true.mp hg y hy
      simp only [Bool.and_eq_true, Bool.not_eq_true'] at this
      exact this.2

/-- what a comprehension of one clause shows, once its iterator stands -/
def CompOf (prog : Program) (w : World) (A : Around) (elt : Expr) (x : Str) (ifs : List Expr) (scope : Scope) (cl : List (Str × Addr)) (e : Env) (gs : List Str) (I : Addr) (n : Nat) (P : Nat → Value → Prop) (s₂ : Shared)
    (fin : Addr → List Value → Heap → Shared → Prop) : Prop :=
  ∃ J : Nat → List Value → Heap → Prop, ∀ D C gC, (∀ b o, b ≠ I → s₂.heap.get? b = some o → gC.get? b = some o) → (∀ b o, gC.get? b = some o → s₂.heap.get? b = some o ∧ b ≠ I) → Fn (compEnvC scope cl C e) C [x] gs →
    J 0 [] gC ∧
    (∀ i v vs g' oI' s', i < n → P i v → Sub gC g' → J i vs g' → St w s₂ g' C [x] [some v] [(D, .list vs), (I, .obj oI')] s' →
      Tests prog w A ifs (compEnvC scope cl C e) (fun ok s₄ => (ok = true → Wp prog w A (eval elt (compEnvC scope cl C e)) (fun y s₅ => ∃ g'', Sub g' g'' ∧ J (i + 1) (vs ++ [y]) g'' ∧ St w s₂ g'' C [x] [some v] [(D, .list vs), (I, .obj oI')] s₅) s₄) ∧
        (ok = false → ∃ g'', Sub g' g'' ∧ J (i + 1) vs g'' ∧ St w s₂ g'' C [x] [some v] [(D, .list vs), (I, .obj oI')] s₄)) s') ∧
    (∀ g' vs s', Sub gC g' → J n vs g' → vs.length ≤ n → g'.get? D = none → Sub g' s'.heap → fin D vs g' s')
theorem r_comp {elt iter : Expr} {x : Str} {px : Pos} {ifs : List Expr} {scope : Scope} {cl : List (Str × Addr)} {pos : Pos} {gs0 : List Str} (gs : List Str) (Cf : Fn e L ns gs0) (hclos : closureFor scope e = pure cl) (hk : scope.kind = .function)
    (hcell : (scope.names.all fun y => y.2 != .cell) = true) (hnames : (scope.names.all fun y => y.2 != .local || scope.names.lookup y.1 == some .local) = true) (hx : (scope.names.lookup x == some .local && !(x == ("__debug__" : Str))) = true)
    (hg : (gs.all fun y => scope.names.lookup y == some .globalImplicit && !(y == ("__debug__" : Str))) = true)
    (h : Wp prog w A (eval iter e) (fun xv s₁ => Wp prog w A (pyIter xv) (fun it s₂ => ∃ I oI n P, it = .ref I ∧ It prog w A g I n P s₂.heap ∧ St w s₀ g L ns loc ((I, .obj oI) :: mu) s₂ ∧ n ≤ sizeLine ∧
      CompOf prog w A elt x ifs scope cl e gs I n P s₂ (fun D vs g' s' => St w s₀ g L ns loc ((D, .list vs) :: mu) s' → Q (.ref D) s')) s₁) s)
    (hs : ∀ x, foldedSetIterable iter e x = pure x := by intro _; with_unfolding_all rfl) :
    Wp prog w A (eval (.ListComp elt [⟨.Name x px, iter, ifs, 0⟩] scope pos) e) Q s := by
  have hcell' : ∀ y ∈ scope.names, y.2 ≠ .cell := fun y hy => by have := List.all_eq_true.mp hcell y hy; simpa using this
  have hnames' : ∀ y ∈ scope.names, y.2 = .local → scope.names.lookup y.1 = some .local := fun y hy hl => by
    have := List.all_eq_true.mp hnames y hy
    simpa [hl] using this
  refine ⟨?_⟩
  rw [eval_ListComp]
  refine wpAny_comprehension_free (use := none) rfl hs hclos hk hnames' (wpAny_mono h.run (fun xv s₁ q => wpAny_mono q.run (fun it s₂ q => ?_) fun _ _ x => x) fun _ _ x => x)
  obtain ⟨I, oI, n, P, rfl, W, S₂, hz, J, hJ⟩ := q
  have hIm := S₂.ml _ (.head _)
  have hIf := S₂.mf _ (.head _)
  have hIlt : I < s₂.heap.objs.size := Heap.lt_size (show s₂.heap.get? I = some oI from hIm)
  have hLlt := S₂.nsp.lt
  refine wpAny_newObj_type (wpAny_newFunctionEnv hcell' (by intro y hy; simp at hy) (fun h₁ hns₁ hsb₁ => ?_) hk)
  dsimp only at hns₁ hsb₁ ⊢
  generalize hH2 : s₂.heap.push { cls := .type "list", dict := none, data := .seq ([] : List Value).toArray } = H2 at hns₁ hsb₁ ⊢
  have hC : H2.objs.size = s₂.heap.objs.size + 1 := by rw [← hH2, Heap.size_push]
  have hDC : s₂.heap.objs.size ≠ H2.objs.size := by rw [hC]; exact Nat.ne_of_lt (Nat.lt_succ_self _)
  have below : ∀ b, b < s₂.heap.objs.size → b ≠ H2.objs.size ∧ b ≠ s₂.heap.objs.size := fun b hb => ⟨by rw [hC]; exact Nat.ne_of_lt (Nat.lt_succ_of_lt hb), Nat.ne_of_lt hb⟩
  have old : ∀ b o, s₂.heap.get? b = some o → h₁.get? b = some o := fun b o e => hsb₁.extBut b o (below b (Heap.lt_size e)).1 (Heap.get?_push_of_some _ (hH2 ▸ Heap.get?_push_of_some _ e))
  have hD : LObj h₁ s₂.heap.objs.size [] := ⟨0, hsb₁.extBut _ _ hDC (Heap.get?_push_of_some _ (hH2 ▸ Heap.get?_push_size _ rfl))⟩
  have fresh : ∀ a, s₂.heap.objs.size ≤ a → s₂.heap.get? a = none := fun a ha => by
    cases e : s₂.heap.get? a with
    | none => rfl
    | some o' => exact absurd (Heap.lt_size e) (Nat.not_lt.mpr ha)
  have g1 : ∀ b o, b ≠ I → s₂.heap.get? b = some o → (hideAll s₂.heap [I]).get? b = some o := fun b o hb q => hideAll_get _ q fun r => hb (List.mem_singleton.mp r)
  have g2 : ∀ b o, (hideAll s₂.heap [I]).get? b = some o → s₂.heap.get? b = some o ∧ b ≠ I := fun b o q => ⟨of_hideAll _ q, by rintro rfl; rw [hideAll_none _ (.head _)] at q; cases q⟩
  have gnone : ∀ a, s₂.heap.get? a = none → (hideAll s₂.heap [I]).get? a = none := fun a q => by
    cases r : (hideAll s₂.heap [I]).get? a with
    | none => rfl
    | some o => rw [(g2 _ _ r).1] at q; cases q
  have gsub : Sub g (hideAll s₂.heap [I]) := fun b o q => g1 b o (by rintro rfl; rw [hIf.1] at q; cases q) (S₂.keep _ _ q)
  have Cc := Fn.comp (cl := cl) (gs := gs) Cf hk hx hg H2.objs.size
  obtain ⟨J0, turn, done⟩ := hJ s₂.heap.objs.size H2.objs.size (hideAll s₂.heap [I]) g1 g2 Cc
  have hl : look [x] [none] = fun _ => none := by
    funext y
    simp only [look]
    split <;> rfl
  have S3 : St w s₂ (hideAll s₂.heap [I]) H2.objs.size [x] [none] [(s₂.heap.objs.size, .list []), (I, .obj oI)] { s₂ with heap := h₁, toks := s₂.toks + ([] : List (Str × Value)).length } := by
    refine ⟨rfl, rfl, rfl, by rw [hl]; exact hns₁, List.nodup_cons.mpr ⟨List.not_mem_nil, List.nodup_nil⟩, fun b o q => old b o (g2 b o q).1, gnone _ (fresh _ (by rw [hC]; exact Nat.le_succ _)), ?_, ?_, ?_, S₂.gd.mono gsub⟩
    · intro p hp
      rcases List.mem_cons.mp hp with rfl | hp
      · exact hD
      · rw [List.mem_singleton.mp hp]; exact old _ _ hIm
    · intro p hp
      rcases List.mem_cons.mp hp with rfl | hp
      · exact ⟨gnone _ (fresh _ (Nat.le_refl _)), hDC⟩
      · rw [List.mem_singleton.mp hp]; exact ⟨hideAll_none _ (.head _), (below I hIlt).1⟩
    · refine List.nodup_cons.mpr ⟨fun q => ?_, List.nodup_cons.mpr ⟨List.not_mem_nil, List.nodup_nil⟩⟩
      exact (below I hIlt).2 (List.mem_singleton.mp q).symm
  obtain ⟨fp, Sti, Wk, hst, hio, hfp⟩ := W
  have hst₁ : Sti 0 h₁ := Wk.frame _ _ _ hst fun b _ o e => old b o e
  have W' : It prog w A (hideAll s₂.heap [I]) I n P h₁ := ⟨fp, Sti, Wk, hst₁, hio, fun b hb hne => let ⟨o, q⟩ := hfp b hb hne; ⟨o, gsub _ _ q⟩⟩
  have lp := compLoop_rule (elt := elt) (iter := iter) (px := px) (ifs := ifs) (scope := scope) (pos := pos) (o₀ := none) (R := compPost (model prog w) A (fun _ _ => False) none Q (.ref s₂.heap.objs.size) H2.objs.size) J Cc W' S3 hz J0 turn ?_
  · exact codeAny_compStart_list lp (Wk.self 0 _ _ _ hst₁ lp)
  intro g' vs o s' hg' hJn hvn Sf
  refine ⟨_, Sf.nsp, fun h' hs' => ?_⟩
  have hCold : ∀ b o, b ≠ I → s₂.heap.get? b = some o → h'.get? b = some o := fun b o hb q => (hs'.2 b (by rintro rfl; rw [fresh _ (by rw [hC]; exact Nat.le_succ _)] at q; cases q)).trans (Sf.keep _ _ (hg' _ _ (g1 b o hb q)))
  have T := S₂.less (List.sublist_cons_self ..)
  have hmn := S₂.mn
  simp only [List.map_cons, List.nodup_cons] at hmn
  have So : St w s₀ g L ns loc mu { s' with heap := h' } := by
    refine ⟨Sf.gens.trans T.gens, Sf.drawn.trans T.drawn, Sf.os.trans T.os, ?_, T.nd, fun b o q => hCold b o (by rintro rfl; rw [hIf.1] at q; cases q) (T.keep _ _ q), T.nL, fun p hp => (T.ml p hp).of fun o q => hCold _ o ?_ q, T.mf, T.mn, T.gd⟩
    · exact T.nsp.at' fun o q => hCold _ o (Ne.symm hIf.2) q
    · intro r; exact hmn.1 (r ▸ List.mem_map_of_mem hp)
  have hDL : s₂.heap.objs.size ≠ L := fun q => absurd hLlt (by rw [← q]; exact Nat.lt_irrefl _)
  refine done g' vs { s' with heap := h' } hg' hJn hvn (Sf.mf _ (.head _)).1 (fun b o q => (hs'.2 b (by rintro rfl; rw [Sf.nL] at q; cases q)).trans (Sf.keep _ _ q)) (So.consL T (fresh _ (Nat.le_refl _)) hDL ?_)
  exact (Sf.lst (.head _)).imp fun m q => (hs'.2 _ hDC).trans q
end

end Mine
namespace Mine
set_option linter.unusedVariables false

section
variable {prog : Program} {w : World} {A : Around} {s₀ s : Shared} {g : Heap} {L : Addr} {ns gs : List Str} {loc loc' : List (Option Value)} {mu mu' : List (Addr × MO)} {e : Env}
variable {Q : Value → Shared → Prop} {QF : Flow → Shared → Prop} {QU : Unit → Shared → Prop} {QB : Bool → Shared → Prop} {rest : List Stmt}
/-- any loop over an iterator, its body given as what it shows -/
theorem iloop {σ : Type} {c : Code} {I : Addr} {oI : Obj} {n : Nat} {P : Nat → Value → Prop} {x : Str} {px : Pos} {R : Result → Shared → Prop} {o₀ : Option Value} {σ₀ : σ}
    (lo : σ → Option Value → List (Option Value)) (muOf : σ → List (Addr × MO)) (J : Nat → Heap → σ → Prop) (Bdy : (Shared → Prop) → Shared → Prop) (mono : ∀ K K' s, (∀ s, K s → K' s) → Bdy K s → Bdy K' s)
    (base : ∀ (Iv : Nat → Shared → Prop), (∀ n s, Iv n s → wpAny (model prog w) A (pyNext (.ref I)) (fun r s₁ => match r with
        | none => R (.ok .next) s₁
        | some v => wpAny (model prog w) A (assign (.Name x px) e v) (fun _ s₂ => Bdy (fun s' => ∃ m, m < n ∧ Iv m s') s₂) (fun _ _ => False) s₁) (fun _ _ => False) s) → ∀ n s, Iv n s → codeAny (model prog w) A c R s)
    (C : Fn e L ns gs) (W : It prog w A g I n P s.heap) (S : St w s₀ g L ns (lo σ₀ o₀) ((I, .obj oI) :: muOf σ₀) s) (hput : ∀ σ o v, Put ns (lo σ o) x v (lo σ (some v)))
    (J0 : J 0 g σ₀)
    (turn : ∀ i v g' σ oI s', i < n → P i v → Sub g g' → J i g' σ → St w s₀ g' L ns (lo σ (some v)) ((I, .obj oI) :: muOf σ) s' →
      Bdy (fun s'' => ∃ g'' σ' o, Sub g' g'' ∧ J (i + 1) g'' σ' ∧ St w s₀ g'' L ns (lo σ' o) ((I, .obj oI) :: muOf σ') s'') s')
    (done : ∀ g' σ o s', Sub g g' → J n g' σ → St w s₀ g' L ns (lo σ o) (muOf σ) s' → R (.ok .next) s') :
    codeAny (model prog w) A c R s := by
  obtain ⟨fp, Sti, W, hst, hio, hfp⟩ := W
  refine base (fun k s' => ∃ i g' σ o oI, k = n + 1 - i ∧ i ≤ n ∧ Sub g g' ∧ J i g' σ ∧ Sti i s'.heap ∧ St w s₀ g' L ns (lo σ o) ((I, .obj oI) :: muOf σ) s') ?_ (n + 1) s
    ⟨0, g, σ₀, o₀, oI, rfl, Nat.zero_le _, Sub.rfl', J0, hst, S⟩
  rintro k s' ⟨i, g', σ, o, oI, rfl, hi, hg, hJ, hsti, S'⟩
  have hIm := S'.ml _ (List.mem_cons_self ..)
  have hIf := S'.mf _ (List.mem_cons_self ..)
  have moved : ∀ (h' : Heap) (tk : Nat), (∀ b ob, b ∉ [I] → s'.heap.get? b = some ob → h'.get? b = some ob) → St w s₀ g' L ns (lo σ o) (muOf σ) { s' with heap := h', toks := tk } := by
    intro h' tk hk
    have T := S'.less (List.sublist_cons_self ..)
    have hIn : ∀ b ob, g'.get? b = some ob → b ≠ I := fun b ob q r => by rw [r, hIf.1] at q; cases q
    refine ⟨T.gens, T.drawn, T.os, ?_, T.nd, fun b ob q => hk b ob (fun r => hIn b ob q (List.mem_singleton.mp r)) (T.keep b ob q), T.nL, fun p hp => (T.ml p hp).of fun ob q => hk _ ob (fun r => ?_) q, T.mf, T.mn, T.gd⟩
    · exact T.nsp.at' fun ob q => hk _ ob (fun r => hIf.2 (List.mem_singleton.mp r).symm) q
    · have := S'.mn
      simp only [List.map_cons, List.nodup_cons] at this
      exact this.1 (List.mem_singleton.mp r ▸ List.mem_map_of_mem hp)
  have back : ∀ (s₁ : Shared) (o₁ : Obj), St w s₀ g' L ns (lo σ o) (muOf σ) s₁ → s₁.heap.get? I = some o₁ → St w s₀ g' L ns (lo σ o) ((I, .obj o₁) :: muOf σ) s₁ := by
    intro s₁ o₁ T ho
    refine ⟨T.gens, T.drawn, T.os, T.nsp, T.nd, T.keep, T.nL, fun p hp => ?_, fun p hp => ?_, S'.mn, T.gd⟩
    · rcases List.mem_cons.mp hp with rfl | hp
      · exact ho
      · exact T.ml p hp
    · rcases List.mem_cons.mp hp with rfl | hp
      · exact hIf
      · exact T.mf p hp
  by_cases hlt : i < n
  · refine W.item i _ _ _ hlt hsti fun v h₁ tk₁ hP hst₁ hk₁ => ?_
    have T := moved h₁ tk₁ hk₁
    obtain ⟨oI', hoI'⟩ := hio _ _ hst₁
    have T' := back _ oI' T hoI'
    refine wpAny_assign_Name ?_
    refine wpAny_mono (r_store (prog := prog) (A := A) (QU := fun _ s₂ => St w s₀ g' L ns (lo σ (some v)) ((I, .obj oI') :: muOf σ) s₂) C T' (hput σ o v) fun s₂ S₂ => S₂).run (fun _ s₂ S₂ => ?_) fun _ _ x => x.elim
    have same : ∀ (s₃ : Shared) (g'' : Heap) (l : List (Option Value)) (m : List (Addr × MO)), Sub g' g'' → St w s₀ g'' L ns l ((I, .obj oI') :: m) s₃ → Sti (i + 1) s₃.heap := by
      intro s₃ g'' l m hs S₃
      refine W.frame _ _ _ hst₁ fun b hb ob hq => ?_
      by_cases hbI : b = I
      · rw [hbI] at hq ⊢
        have h2 : s₃.heap.get? I = some oI' := S₃.ml _ (List.mem_cons_self ..)
        rw [hoI'] at hq; rw [h2]; exact hq
      · obtain ⟨o2, ho2⟩ := hfp b hb hbI
        have h1 := T.keep _ _ (hg _ _ ho2)
        have h2 := S₃.keep _ _ (hs _ _ (hg _ _ ho2))
        rw [h1] at hq; rw [h2]; exact hq
    refine mono _ _ _ (fun s₃ q => ?_) (turn i v g' σ oI' s₂ hlt hP hg hJ S₂)
    obtain ⟨g'', σ', o', hs, hj, S₃⟩ := q
    exact ⟨n + 1 - (i + 1), by omega, i + 1, g'', σ', o', oI', rfl, hlt, hg.trans hs, hj, same s₃ g'' _ _ hs S₃, S₃⟩
  · have hin : i = n := by omega
    subst hin
    refine W.done _ _ _ hsti fun h₁ tk₁ hk₁ => ?_
    exact done g' σ o _ hg hJ (moved h₁ tk₁ hk₁)

-- comprehensions of two clauses
section two
variable {elt i1 i2 : Expr} {x y : Str} {px py : Pos} {scope : Scope} {pos : Pos}
abbrev two (elt i1 i2 : Expr) (x y : Str) (px py : Pos) (scope : Scope) (pos : Pos) : Expr := .ListComp elt [⟨.Name x px, i1, [], 0⟩, ⟨.Name y py, i2, [], 0⟩] scope pos
def BIn (prog : Program) (w : World) (A : Around) (elt : Expr) (ce : Env) (acc : Value) (K : Shared → Prop) (s : Shared) : Prop :=
  Wp prog w A (eval elt ce) (fun v s₁ => Wp prog w A (call (.builtin "list.append") [acc, v]) (fun _ s₂ => K s₂) s₁) s
def BOut (prog : Program) (w : World) (A : Around) (e0 i2 : Expr) (ce : Env) (acc : Value) (K : Shared → Prop) (s : Shared) : Prop :=
  Wp prog w A (eval i2 ce) (fun v s₁ => Wp prog w A (pyIter v) (fun it s₂ => codeAny (model prog w) A (.compStart e0 1 it acc ce) (fun r s₃ => match r with | .ok _ => K s₃ | .error _ => False) s₂) s₁) s
theorem base_in {it acc : Value} {ce : Env} {R : Result → Shared → Prop} (Iv : Nat → Shared → Prop) (turn : ∀ n s, Iv n s → wpAny (model prog w) A (pyNext it) (fun r s₁ => match r with
        | none => R (.ok .next) s₁
        | some v => wpAny (model prog w) A (assign (.Name y py) ce v) (fun _ s₂ => BIn prog w A elt ce acc (fun s' => ∃ m, m < n ∧ Iv m s') s₂) (fun _ _ => False) s₁) (fun _ _ => False) s) (n : Nat) (s : Shared) (h : Iv n s) :
    codeAny (model prog w) A (.compLoop (two elt i1 i2 x y px py scope pos) 1 it acc ce) R s := by
  refine codeAny_loop rfl Iv (fun n s hI => ?_) n h
  show wpAny _ A ((compTurn (two elt i1 i2 x y px py scope pos) 1 it acc ce).onRaise (fun x => do noteFrame x ce; theTreesLotGoes x)) _ _ s
  refine wpAny_noted ?_
  show wpAny _ _ (standAt i2.pos >>= fun _ => pyNext it >>= _) _ _ _
  refine wpAny_bind (wpAny_standAt (wpAny_bind (wpAny_mono (turn n s hI) (fun r s₁ h₁ => ?_) fun _ _ h' => h'.elim)))
  cases r with
  | none => exact wpAny_pure h₁
  | some v =>
    show wpAny _ _ (letOwnedTupleGo (.Name y py) it v >>= fun _ => assign (.Name y py) ce v >>= fun _ => (eval elt ce >>= fun x => call (.builtin "list.append") [acc, x] >>= fun _ => pure ()) >>= fun _ => again _) _ _ _
    refine wpAny_bind (wpAny_of_eq (show letOwnedTupleGo (.Name y py) it v = pure () from rfl) ?_)
    refine wpAny_bind (wpAny_mono h₁ (fun _ s₂ h₂ => wpAny_bind (wpAny_bind (wpAny_mono h₂.run (fun z s₃ h₃ => wpAny_bind (wpAny_mono h₃.run (fun _ s₄ h₄ => wpAny_pure (wpAny_pure ⟨rfl, h₄⟩)) fun _ _ h' => h'.elim)) fun _ _ h' => h'.elim))) fun _ _ h' => h'.elim)
theorem base_out {it acc : Value} {ce : Env} {R : Result → Shared → Prop} (hs : ∀ v, foldedSetIterable i2 ce v = pure v) (Iv : Nat → Shared → Prop) (turn : ∀ n s, Iv n s → wpAny (model prog w) A (pyNext it) (fun r s₁ => match r with
        | none => R (.ok .next) s₁
        | some v => wpAny (model prog w) A (assign (.Name x px) ce v) (fun _ s₂ => BOut prog w A (two elt i1 i2 x y px py scope pos) i2 ce acc (fun s' => ∃ m, m < n ∧ Iv m s') s₂) (fun _ _ => False) s₁) (fun _ _ => False) s) (n : Nat) (s : Shared) (h : Iv n s) :
    codeAny (model prog w) A (.compLoop (two elt i1 i2 x y px py scope pos) 0 it acc ce) R s := by
  refine codeAny_loop rfl Iv (fun n s hI => ?_) n h
  show wpAny _ A ((compTurn (two elt i1 i2 x y px py scope pos) 0 it acc ce).onRaise (fun x => do noteFrame x ce; theTreesLotGoes x)) _ _ s
  refine wpAny_noted ?_
  show wpAny _ _ (standAt i1.pos >>= fun _ => pyNext it >>= _) _ _ _
  refine wpAny_bind (wpAny_standAt (wpAny_bind (wpAny_mono (turn n s hI) (fun r s₁ h₁ => ?_) fun _ _ h' => h'.elim)))
  cases r with
  | none => exact wpAny_pure h₁
  | some v =>
    show wpAny _ _ (letOwnedTupleGo (.Name x px) it v >>= fun _ => assign (.Name x px) ce v >>= fun _ => (eval i2 ce >>= fun z => standAt i2.pos >>= fun _ => foldedSetIterable i2 ce z >>= fun z => (holding [z] (pyIter z)) >>= fun it2 => runOwn (.compStart (two elt i1 i2 x y px py scope pos) 1 it2 acc ce) ce >>= fun _ => again _)) _ _ _
    refine wpAny_bind (wpAny_of_eq (show letOwnedTupleGo (.Name x px) it v = pure () from rfl) ?_)
    refine wpAny_bind (wpAny_mono h₁ (fun _ s₂ h₂ => wpAny_bind (wpAny_mono h₂.run (fun z s₃ h₃ => wpAny_bind (wpAny_standAt (wpAny_bind (wpAny_of_eq (hs z) (wpAny_bind (wpAny_holding (wpAny_mono h₃.run (fun it2 s₄ h₄ => wpAny_bind (wpAny_runOwn ?_)) fun _ _ h' => h'.elim))))))) fun _ _ h' => h'.elim)) fun _ _ h' => h'.elim)
    refine codeAny_mono h₄ fun r s₅ q => ?_
    cases r with
    | ok f => exact wpAny_pure ⟨rfl, q⟩
    | error x => exact q.elim
end two
end

end Mine
namespace Mine
set_option linter.unusedVariables false

section
variable {prog : Program} {w : World} {A : Around} {s₀ s : Shared} {g : Heap} {L : Addr} {ns gs : List Str} {loc loc' : List (Option Value)} {mu mu' : List (Addr × MO)} {e : Env}
variable {Q : Value → Shared → Prop} {QF : Flow → Shared → Prop} {QU : Unit → Shared → Prop} {QB : Bool → Shared → Prop} {rest : List Stmt}
theorem start_in {elt i1 i2 : Expr} {x y : Str} {px py : Pos} {scope : Scope} {pos : Pos} {it acc : Value} {ce : Env} {R : Result → Shared → Prop}
    (h0 : codeAny (model prog w) A (.compLoop (two elt i1 i2 x y px py scope pos) 1 it acc ce) R s)
    (h : wpAny (model prog w) A (pyIter it) (fun it' s' => codeAny (model prog w) A (.compLoop (two elt i1 i2 x y px py scope pos) 1 it' acc ce) R s') (fun _ _ => False) s) :
    codeAny (model prog w) A (.compStart (two elt i1 i2 x y px py scope pos) 1 it acc ce) R s := by
  refine codeAny_of_tree ?_
  show wpAny _ _ ((compStart (two elt i1 i2 x y px py scope pos) 1 it acc ce).onRaise (fun x => do noteFrame x ce; standAt theWindowsPlace)) _ _ s
  refine wpAny_notedAt ?_
  unfold compStart
  show wpAny _ _ (ask >>= _) _ _ s
  refine wpAny_bind (wpAny_askSetting (wpAny_ite ?_))
  split
  · first
      | exact wpAny_bind (wpAny_pure (wpAny_pure (And.intro rfl h0)))
      | exact wpAny_pure (And.intro rfl h0)
  · refine wpAny_bind (wpAny_rule ?_)
    show wpAny _ _ (standAt i2.pos >>= _) _ _ s
    exact wpAny_bind (wpAny_standAt (wpAny_bind (wpAny_mono h (fun it' s' h' => wpAny_pure (And.intro rfl h')) fun _ _ x => x.elim)))

/-- the frame of a comprehension: «ns1» its names -/
theorem FnN.comp {gs0 ns1 : List Str} {scope : Scope} {cl : List (Str × Addr)} (Cf : Fn e L ns gs0) (hk : scope.kind = .function) (hx : (ns1.all fun x => scope.names.lookup x == some .local && !(x == ("__debug__" : Str))) = true)
    (hg : (gs.all fun y => scope.names.lookup y == some .globalImplicit && !(y == ("__debug__" : Str))) = true) (Ca : Addr) : Fn (compEnvC scope cl Ca e) Ca ns1 gs where
  kind := hk
  loc := rfl
  glob := Cf.glob
  bi := Cf.bi
  kinds := fun y hy => by
    have := List.all_eq_true.mp hx y hy
    simp only [Bool.and_eq_true, beq_iff_eq] at this
    exact lookup_relabel_other rfl this.1
  gkinds := fun y hy => by
    have := List.all_eq_true.mp hg y hy
    simp only [Bool.and_eq_true, beq_iff_eq] at this
    exact lookup_relabel_other rfl this.1
  dbg := fun y hy => by
    rcases List.mem_append.mp hy with hy | hy
    · have := List.all_eq_true.mp hx y hy
      simp only [Bool.and_eq_true, Bool.not_eq_true'] at this
      exact this.2
    · have := List.all_eq_true.mp hg y hy
      simp only [Bool.and_eq_true, Bool.not_eq_true'] at this
      exact this.2
/-- what a comprehension shows, once its first iterator stands; «fin» what is wanted of its end -/
def CompF (prog : Program) (w : World) (A : Around) (e0 : Expr) (scope : Scope) (cl : List (Str × Addr)) (e : Env) (ns1 gs : List Str) (g : Heap) (L : Addr) (I : Addr) (oI : Obj) (n : Nat) (P : Nat → Value → Prop) (s₂ : Shared)
    (fin : Addr → List Value → Shared → Prop) : Prop :=
  ∀ D C gC s₃, (∀ b o, b ≠ I → s₂.heap.get? b = some o → gC.get? b = some o) → (∀ b o, gC.get? b = some o → s₂.heap.get? b = some o ∧ b ≠ I) → Fn (compEnvC scope cl C e) C ns1 gs → It prog w A gC I n P s₃.heap →
    wpAny (model prog w) A (pyIter (.ref I)) (fun it s' => it = .ref I ∧ s' = s₃) (fun _ _ => False) s₃ →
    St w s₂ gC C ns1 (ns1.map fun _ => none) [(D, .list []), (I, .obj oI)] s₃ →
    codeAny (model prog w) A (.compStart e0 0 (.ref I) (.ref D) (compEnvC scope cl C e)) (fun r s' => match r with
      | .ok _ => ∃ g' vs o, Sub gC g' ∧ St w s₂ g' C ns1 o [(D, .list vs)] s' ∧ ∀ s'' : Shared, g'.get? D = none → (∀ b o, b ≠ L → g'.get? b = some o → s''.heap.get? b = some o) → fin D vs s''
      | .error _ => False) s₃
/-- the use of the value: none, or the store into a name of the frame -/
inductive Use where
  | val
  | name (z : Str) (pz : Pos) (lo : Value → List (Option Value))
def Use.sem (e : Env) : Use → Option (Value → Sem Unit)
  | .val => none
  | .name z pz _ => some (assign (.Name z pz) e)
def Use.Ok (ns : List Str) (loc : List (Option Value)) : Use → Prop
  | .val => True
  | .name z _ lo => ∀ v, Put ns loc z v (lo v)
def Use.Post (w : World) (s₀ : Shared) (g : Heap) (L : Addr) (ns : List Str) (loc : List (Option Value)) (mu : List (Addr × MO)) (Q : Value → Shared → Prop) (D : Addr) (vs : List Value) (s' : Shared) : Use → Prop
  | .val => St w s₀ g L ns loc ((D, .list vs) :: mu) s' → Q (.ref D) s'
  | .name z _ lo => St w s₀ g L ns (lo (.ref D)) ((D, .list vs) :: mu) s' → Q .none s'
theorem comp_frame {e0 i1 : Expr} {g1 : Comprehension} {gr : List Comprehension} {ns1 : List Str} {scope : Scope} {cl : List (Str × Addr)} {pos : Pos} {gs0 : List Str} (gs : List Str) (u : Use) (hcl : clausesOf e0 = g1 :: gr) (hi1 : g1.iter = i1) (Cf : Fn e L ns gs0) (hclos : closureFor scope e = pure cl) (hk : scope.kind = .function)
    (hcell : (scope.names.all fun y => y.2 != .cell) = true) (hnames : (scope.names.all fun y => y.2 != .local || scope.names.lookup y.1 == some .local) = true) (hx : (ns1.all fun x => scope.names.lookup x == some .local && !(x == ("__debug__" : Str))) = true)
    (hg : (gs.all fun y => scope.names.lookup y == some .globalImplicit && !(y == ("__debug__" : Str))) = true) (hnd : ns1.Nodup)
    (h : Wp prog w A (eval i1 e) (fun xv s₁ => Wp prog w A (pyIter xv) (fun it s₂ => ∃ (g : Heap) (mu : List (Addr × MO)) (I : Addr) (oI : Obj) (n : Nat) (P : Nat → Value → Prop), it = .ref I ∧ It prog w A g I n P s₂.heap ∧ St w s₀ g L ns loc ((I, .obj oI) :: mu) s₂ ∧
      CompF prog w A e0 scope cl e ns1 gs g L I oI n P s₂ (fun D vs s' => u.Post w s₀ g L ns loc mu Q D vs s')) s₁) s)
    (hs : ∀ x, foldedSetIterable i1 e x = pure x) (hu : u.Ok ns loc) :
    wpAny (model prog w) A (comprehension e0 scope e pos (newList []) false (eval i1 e) (u.sem e)) Q (fun _ _ => False) s := by
  have hcell' : ∀ y ∈ scope.names, y.2 ≠ .cell := fun y hy => by have := List.all_eq_true.mp hcell y hy; simpa using this
  have hnames' : ∀ y ∈ scope.names, y.2 = .local → scope.names.lookup y.1 = some .local := fun y hy hl => by
    have := List.all_eq_true.mp hnames y hy
    simpa [hl] using this
  subst hi1
  refine wpAny_comprehension_free (use := u.sem e) hcl hs hclos hk hnames' (wpAny_mono h.run (fun xv s₁ q => wpAny_mono q.run (fun it s₂ q => ?_) fun _ _ x => x) fun _ _ x => x)
  obtain ⟨g, mu, I, oI, n, P, rfl, W, S₂, hJ⟩ := q
  have hIm := S₂.ml _ (.head _)
  have hIf := S₂.mf _ (.head _)
  have hIlt : I < s₂.heap.objs.size := Heap.lt_size (show s₂.heap.get? I = some oI from hIm)
  have hLlt := S₂.nsp.lt
  refine wpAny_newObj_type (wpAny_newFunctionEnv hcell' (by intro y hy; simp at hy) (fun h₁ hns₁ hsb₁ => ?_) hk)
  dsimp only at hns₁ hsb₁ ⊢
  generalize hH2 : s₂.heap.push { cls := .type "list", dict := none, data := .seq ([] : List Value).toArray } = H2 at hns₁ hsb₁ ⊢
  have hC : H2.objs.size = s₂.heap.objs.size + 1 := by rw [← hH2, Heap.size_push]
  have hDC : s₂.heap.objs.size ≠ H2.objs.size := by rw [hC]; exact Nat.ne_of_lt (Nat.lt_succ_self _)
  have below : ∀ b, b < s₂.heap.objs.size → b ≠ H2.objs.size ∧ b ≠ s₂.heap.objs.size := fun b hb => ⟨by rw [hC]; exact Nat.ne_of_lt (Nat.lt_succ_of_lt hb), Nat.ne_of_lt hb⟩
  have old : ∀ b o, s₂.heap.get? b = some o → h₁.get? b = some o := fun b o e => hsb₁.extBut b o (below b (Heap.lt_size e)).1 (Heap.get?_push_of_some _ (hH2 ▸ Heap.get?_push_of_some _ e))
  have hD : LObj h₁ s₂.heap.objs.size [] := ⟨0, hsb₁.extBut _ _ hDC (Heap.get?_push_of_some _ (hH2 ▸ Heap.get?_push_size _ rfl))⟩
  have fresh : ∀ a, s₂.heap.objs.size ≤ a → s₂.heap.get? a = none := fun a ha => by
    cases e : s₂.heap.get? a with
    | none => rfl
    | some o' => exact absurd (Heap.lt_size e) (Nat.not_lt.mpr ha)
  have hC0 : s₂.heap.get? H2.objs.size = none := fresh _ (by rw [hC]; exact Nat.le_succ _)
  have hD0 : s₂.heap.get? s₂.heap.objs.size = none := fresh _ (Nat.le_refl _)
  have g1' : ∀ b o, b ≠ I → s₂.heap.get? b = some o → (hideAll s₂.heap [I]).get? b = some o := fun b o hb q => hideAll_get _ q fun r => hb (List.mem_singleton.mp r)
  have g2 : ∀ b o, (hideAll s₂.heap [I]).get? b = some o → s₂.heap.get? b = some o ∧ b ≠ I := fun b o q => ⟨of_hideAll _ q, by rintro rfl; rw [hideAll_none _ (.head _)] at q; cases q⟩
  have gnone : ∀ a, s₂.heap.get? a = none → (hideAll s₂.heap [I]).get? a = none := fun a q => by
    cases r : (hideAll s₂.heap [I]).get? a with
    | none => rfl
    | some o => rw [(g2 _ _ r).1] at q; cases q
  have gsub : Sub g (hideAll s₂.heap [I]) := fun b o q => g1' b o (by rintro rfl; rw [hIf.1] at q; cases q) (S₂.keep _ _ q)
  have Cc := FnN.comp (cl := cl) (gs := gs) (ns1 := ns1) Cf hk hx hg H2.objs.size
  have hl : look ns1 (ns1.map fun _ => none) = fun _ => none := funext fun y => look_none ns1 y
  have S3 : St w s₂ (hideAll s₂.heap [I]) H2.objs.size ns1 (ns1.map fun _ => none) [(s₂.heap.objs.size, .list []), (I, .obj oI)] { s₂ with heap := h₁, toks := s₂.toks + ([] : List (Str × Value)).length } := by
    refine ⟨rfl, rfl, rfl, by rw [hl]; exact hns₁, hnd, fun b o q => old b o (g2 b o q).1, gnone _ hC0, ?_, ?_, ?_, S₂.gd.mono gsub⟩
    · intro p hp
      rcases List.mem_cons.mp hp with rfl | hp
      · exact hD
      · rw [List.mem_singleton.mp hp]; exact old _ _ hIm
    · intro p hp
      rcases List.mem_cons.mp hp with rfl | hp
      · exact ⟨gnone _ hD0, hDC⟩
      · rw [List.mem_singleton.mp hp]; exact ⟨hideAll_none _ (.head _), (below I hIlt).1⟩
    · refine List.nodup_cons.mpr ⟨fun q => ?_, List.nodup_cons.mpr ⟨List.not_mem_nil, List.nodup_nil⟩⟩
      exact (below I hIlt).2 (List.mem_singleton.mp q).symm
  obtain ⟨fp, Sti, Wk, hst, hio, hfp⟩ := W
  have hst₁ : Sti 0 h₁ := Wk.frame _ _ _ hst fun b _ o e => old b o e
  have W' : It prog w A (hideAll s₂.heap [I]) I n P h₁ := ⟨fp, Sti, Wk, hst₁, hio, fun b hb hne => let ⟨o, q⟩ := hfp b hb hne; ⟨o, gsub _ _ q⟩⟩
  have run := hJ s₂.heap.objs.size H2.objs.size (hideAll s₂.heap [I]) _ g1' g2 Cc W' (Wk.self 0 _ _ _ hst₁ ⟨rfl, rfl⟩) S3
  refine codeAny_mono run fun r s' q => ?_
  cases r with
  | error x => exact q.elim
  | ok f =>
  obtain ⟨g', vs, o, hg', Sf, fin⟩ := q
  have hgD := (Sf.mf _ (.head _)).1
  have hgC := Sf.nL
  have sold : ∀ b o, b ≠ I → s₂.heap.get? b = some o → s'.heap.get? b = some o := fun b o hb q => Sf.keep _ _ (hg' _ _ (g1' b o hb q))
  have T := S₂.less (List.sublist_cons_self ..)
  have hmn := S₂.mn
  simp only [List.map_cons, List.nodup_cons] at hmn
  have hDL : s₂.heap.objs.size ≠ L := fun q => absurd hLlt (by rw [← q]; exact Nat.lt_irrefl _)
  have hCL : H2.objs.size ≠ L := fun q => absurd (Nat.lt_succ_of_lt hLlt) (by rw [← q, hC]; exact Nat.lt_irrefl _)
  have So : St w s₀ g L ns loc mu s' := by
    refine ⟨Sf.gens.trans T.gens, Sf.drawn.trans T.drawn, Sf.os.trans T.os, ?_, T.nd, fun b o q => sold b o (by rintro rfl; rw [hIf.1] at q; cases q) (T.keep _ _ q), T.nL, fun p hp => (T.ml p hp).of fun o q => sold _ o ?_ q, T.mf, T.mn, T.gd⟩
    · exact T.nsp.at' fun o q => sold _ o (Ne.symm hIf.2) q
    · intro r; exact hmn.1 (r ▸ List.mem_map_of_mem hp)
  have SD := So.consL T hD0 hDL (m := .list vs) (Sf.lst (.head _))
  obtain ⟨oC, es, ep, hoC, hr⟩ := Sf.nsp
  have hnC : s'.heap.Ns H2.objs.size (look ns1 o) := ⟨oC, es, ep, hoC, hr⟩
  -- what stands when only the comprehension's own frame has been let go
  have letgo : ∀ (loc2 : List (Option Value)) (s'' : Shared), St w s₀ g L ns loc2 ((s₂.heap.objs.size, .list vs) :: mu) s'' → ∀ h' : Heap, Heap.SameBut H2.objs.size s''.heap h' → St w s₀ g L ns loc2 ((s₂.heap.objs.size, .list vs) :: mu) { s'' with heap := h' } := by
    intro loc2 s'' S'' h' hs'
    have keepC : ∀ b o, b ≠ H2.objs.size → s''.heap.get? b = some o → h'.get? b = some o := fun b o hb q => (hs'.2 b hb).trans q
    refine ⟨S''.gens, S''.drawn, S''.os, S''.nsp.sameBut hs' (Ne.symm hCL), S''.nd, fun b o q => keepC b o ?_ (S''.keep _ _ q), S''.nL, fun p hp => (S''.ml p hp).of fun o q => keepC _ o ?_ q, S''.mf, S''.mn, S''.gd⟩
    · rintro rfl
      rw [T.notg hC0] at q; cases q
    · intro r
      rcases List.mem_cons.mp hp with rfl | hp
      · exact hDC r
      · obtain ⟨o2, ho2⟩ := (T.ml p hp).ex
        rw [r, hC0] at ho2; cases ho2
  cases u with
  | val =>
    refine ⟨_, hnC, fun h' hs' => ?_⟩
    have hs' : Heap.SameBut H2.objs.size s'.heap h' := hs'
    have hsub : ∀ b o, b ≠ L → g'.get? b = some o → h'.get? b = some o := fun b o _ q => by
      have hbC : b ≠ H2.objs.size := by rintro rfl; exact absurd (hgC.symm.trans q) (by intro r; cases r)
      exact (hs'.2 b hbC).trans (Sf.keep _ _ q)
    exact fin { s' with heap := h' } hgD hsub (letgo _ _ SD h' hs')
  | name z pz lo =>
    show wpAny _ _ (assign (.Name z pz) e (.ref s₂.heap.objs.size)) (fun _ s'' => ∃ m, s''.heap.Ns H2.objs.size m ∧ ∀ h', Heap.SameBut H2.objs.size s''.heap h' → Q .none { s'' with heap := h' }) _ _
    have SC : St w s₀ g L ns loc ((H2.objs.size, .obj oC) :: (s₂.heap.objs.size, .list vs) :: mu) s' := by
      refine ⟨SD.gens, SD.drawn, SD.os, SD.nsp, SD.nd, SD.keep, SD.nL, fun p hp => ?_, fun p hp => ?_, ?_, SD.gd⟩
      · rcases List.mem_cons.mp hp with rfl | hp
        · exact hoC
        · exact SD.ml p hp
      · rcases List.mem_cons.mp hp with rfl | hp
        · exact ⟨T.notg hC0, hCL⟩
        · exact SD.mf p hp
      · rw [List.map_cons, List.nodup_cons]
        refine ⟨fun hm => ?_, SD.mn⟩
        obtain ⟨p, hp, r⟩ := List.mem_map.mp hm
        rcases List.mem_cons.mp hp with rfl | hp
        · exact hDC r
        · obtain ⟨o2, ho2⟩ := (T.ml p hp).ex
          rw [r] at ho2; dsimp only at ho2; rw [hC0] at ho2; cases ho2
    have hloc := Cf.loc
    subst hloc
    refine wpAny_assign_Name (wpAny_storeName_local (Cf.kinds z (hu (.ref s₂.heap.objs.size)).mem) SC.nsp (fun h2 hn2 hs2 => ?_) (by rw [Cf.kind]; rfl))
    have S'' := SC.put (t := s'.toks + 1) (hu (.ref s₂.heap.objs.size)) hn2 hs2
    have hC2 : h2.get? H2.objs.size = some oC := S''.ml _ (.head _)
    refine ⟨_, ⟨oC, es, ep, hC2, hr⟩, fun h' hs' => ?_⟩
    have S3' := letgo _ _ (S''.less (List.sublist_cons_self ..)) h' hs'
    refine fin _ hgD (fun b o hb q => ?_) S3'
    have hbC : b ≠ H2.objs.size := by rintro rfl; exact absurd (hgC.symm.trans q) (by intro r; cases r)
    exact (hs'.2 b hbC).trans ((hs2.2 b hb).trans (Sf.keep _ _ q))
end

end Mine
namespace Mine
set_option linter.unusedVariables false

section
variable {prog : Program} {w : World} {A : Around} {s₀ s : Shared} {g : Heap} {L : Addr} {ns gs : List Str} {loc loc' : List (Option Value)} {mu mu' : List (Addr × MO)} {e : Env}
variable {Q : Value → Shared → Prop} {QF : Flow → Shared → Prop} {QU : Unit → Shared → Prop} {QB : Bool → Shared → Prop} {rest : List Stmt}
abbrev one (elt iter : Expr) (x : Str) (px : Pos) (ifs : List Expr) (scope : Scope) (pos : Pos) : Expr := .ListComp elt [⟨.Name x px, iter, ifs, 0⟩] scope pos
/-- what the scope of a comprehension must be (decided) -/
def compOk (scope : Scope) (ns1 gs : List Str) : Bool :=
  (scope.names.all fun y => y.2 != .cell) && (scope.names.all fun y => y.2 != .local || scope.names.lookup y.1 == some .local) && (ns1.all fun x => scope.names.lookup x == some .local && !(x == ("__debug__" : Str))) &&
  (gs.all fun y => scope.names.lookup y == some .globalImplicit && !(y == ("__debug__" : Str)))
theorem r_one {elt iter : Expr} {x : Str} {px : Pos} {ifs : List Expr} {scope : Scope} {cl : List (Str × Addr)} {pos : Pos} {gs0 : List Str} (gs : List Str) (Cf : Fn e L ns gs0) (hclos : closureFor scope e = pure cl) (hk : scope.kind = .function) (ho : compOk scope [x] gs = true)
    (h : Wp prog w A (eval iter e) (fun xv s₁ => Wp prog w A (pyIter xv) (fun it s₂ => ∃ (g : Heap) (mu : List (Addr × MO)) (I : Addr) (oI : Obj) (n : Nat) (P : Nat → Value → Prop), it = .ref I ∧ It prog w A g I n P s₂.heap ∧ St w s₀ g L ns loc ((I, .obj oI) :: mu) s₂ ∧
      CompF prog w A (one elt iter x px ifs scope pos) scope cl e [x] gs g L I oI n P s₂ (fun D vs s' => St w s₀ g L ns loc ((D, .list vs) :: mu) s' → Q (.ref D) s')) s₁) s)
    (hs : ∀ x, foldedSetIterable iter e x = pure x := by intro _; with_unfolding_all rfl) :
    Wp prog w A (eval (.ListComp elt [⟨.Name x px, iter, ifs, 0⟩] scope pos) e) Q s := by
  simp only [compOk, Bool.and_eq_true] at ho
  refine ⟨?_⟩
  rw [eval_ListComp]
  exact comp_frame gs .val rfl rfl Cf hclos hk ho.1.1.1 ho.1.1.2 ho.1.2 ho.2 (List.nodup_cons.mpr ⟨List.not_mem_nil, List.nodup_nil⟩) h hs trivial
theorem r_two {elt i1 i2 : Expr} {x y : Str} {px py : Pos} {scope : Scope} {cl : List (Str × Addr)} {pos : Pos} {gs0 : List Str} (gs : List Str) (Cf : Fn e L ns gs0) (hclos : closureFor scope e = pure cl) (hk : scope.kind = .function) (ho : compOk scope [x, y] gs = true) (hnd : decide ([x, y].Nodup) = true)
    (h : Wp prog w A (eval i1 e) (fun xv s₁ => Wp prog w A (pyIter xv) (fun it s₂ => ∃ (g : Heap) (mu : List (Addr × MO)) (I : Addr) (oI : Obj) (n : Nat) (P : Nat → Value → Prop), it = .ref I ∧ It prog w A g I n P s₂.heap ∧ St w s₀ g L ns loc ((I, .obj oI) :: mu) s₂ ∧
      CompF prog w A (two elt i1 i2 x y px py scope pos) scope cl e [x, y] gs g L I oI n P s₂ (fun D vs s' => St w s₀ g L ns loc ((D, .list vs) :: mu) s' → Q (.ref D) s')) s₁) s)
    (hs : ∀ x, foldedSetIterable i1 e x = pure x := by intro _; with_unfolding_all rfl) :
    Wp prog w A (eval (.ListComp elt [⟨.Name x px, i1, [], 0⟩, ⟨.Name y py, i2, [], 0⟩] scope pos) e) Q s := by
  simp only [compOk, Bool.and_eq_true] at ho
  refine ⟨?_⟩
  rw [eval_ListComp]
  exact comp_frame gs .val rfl rfl Cf hclos hk ho.1.1.1 ho.1.1.2 ho.1.2 ho.2 (of_decide_eq_true hnd) h hs trivial
theorem x_asgone {elt iter : Expr} {x : Str} {px : Pos} {ifs : List Expr} {scope : Scope} {cl : List (Str × Addr)} {pos spos : Pos} {z : Str} {pz : Pos} {gs0 : List Str} (gs : List Str) (lo : Value → List (Option Value)) (Cf : Fn e L ns gs0)
    (hsw : swapsWith (.ListComp elt [⟨.Name x px, iter, ifs, 0⟩] scope pos) (some (.Name z pz)) spos.line e = pure true) (hclos : closureFor scope e = pure cl) (hk : scope.kind = .function) (ho : compOk scope [x] gs = true) (hput : ∀ v, Put ns loc z v (lo v))
    (h : Wp prog w A (eval iter e) (fun xv s₁ => Wp prog w A (pyIter xv) (fun it s₂ => ∃ (g : Heap) (mu : List (Addr × MO)) (I : Addr) (oI : Obj) (n : Nat) (P : Nat → Value → Prop), it = .ref I ∧ It prog w A g I n P s₂.heap ∧ St w s₀ g L ns loc ((I, .obj oI) :: mu) s₂ ∧
      CompF prog w A (one elt iter x px ifs scope pos) scope cl e [x] gs g L I oI n P s₂ (fun D vs s' => St w s₀ g L ns (lo (.ref D)) ((D, .list vs) :: mu) s' → Wp prog w A (execs rest e) QF s')) s₁) s)
    (hs : ∀ x, foldedSetIterable iter e x = pure x := by intro _; with_unfolding_all rfl) :
    Wp prog w A (execs (.Assign [.Name z pz] (.ListComp elt [⟨.Name x px, iter, ifs, 0⟩] scope pos) spos :: rest) e) QF s := by
  simp only [compOk, Bool.and_eq_true] at ho
  refine wp_cons ?_
  rw [exec_Assign_Name_used _ _ _ _ hsw]
  refine wpAny_bind (wpAny_standAt (wpAny_bind ?_))
  show wpAny _ A (do let _ ← comprehension (.ListComp elt [⟨.Name x px, iter, ifs, 0⟩] scope pos) scope e _ (newList []) false (eval iter e) (some (assign (.Name z pz) e))) _ _ s
  refine wpAny_bind (wpAny_mono (comp_frame (Q := fun _ s' => Wp prog w A (execs rest e) QF s') gs (.name z pz lo) rfl rfl Cf hclos hk ho.1.1.1 ho.1.1.2 ho.1.2 ho.2 (List.nodup_cons.mpr ⟨List.not_mem_nil, List.nodup_nil⟩) h hs hput) (fun _ s' q => wpAny_pure (wpAny_pure (then_next q))) fun _ _ x => x)

/-- one clause: an invariant over what has been gathered -/
theorem compF_one {elt iter : Expr} {x : Str} {px : Pos} {ifs : List Expr} {scope : Scope} {cl : List (Str × Addr)} {pos : Pos} {I : Addr} {oI : Obj} {n : Nat} {P : Nat → Value → Prop} {s₂ : Shared} {fin : Addr → List Value → Shared → Prop}
    (J : Nat → List Value → Heap → Prop) (hz : n ≤ sizeLine)
    (h : ∀ D C gC, (∀ b o, b ≠ I → s₂.heap.get? b = some o → gC.get? b = some o) → (∀ b o, gC.get? b = some o → s₂.heap.get? b = some o ∧ b ≠ I) → Fn (compEnvC scope cl C e) C [x] gs → J 0 [] gC ∧
      (∀ i v vs g' oI' s', i < n → P i v → Sub gC g' → J i vs g' → St w s₂ g' C [x] [some v] [(D, .list vs), (I, .obj oI')] s' →
        Tests prog w A ifs (compEnvC scope cl C e) (fun ok s₄ => (ok = true → Wp prog w A (eval elt (compEnvC scope cl C e)) (fun y s₅ => ∃ g'', Sub g' g'' ∧ J (i + 1) (vs ++ [y]) g'' ∧ St w s₂ g'' C [x] [some v] [(D, .list vs), (I, .obj oI')] s₅) s₄) ∧
          (ok = false → ∃ g'', Sub g' g'' ∧ J (i + 1) vs g'' ∧ St w s₂ g'' C [x] [some v] [(D, .list vs), (I, .obj oI')] s₄)) s') ∧
      (∀ g' vs s'', Sub gC g' → J n vs g' → vs.length ≤ n → g'.get? D = none → (∀ b o, b ≠ L → g'.get? b = some o → s''.heap.get? b = some o) → fin D vs s'')) :
    CompF prog w A (one elt iter x px ifs scope pos) scope cl e [x] gs g L I oI n P s₂ fin := by
  intro D C gC s₃ h1 h2 Cc W hself S3
  obtain ⟨J0, turn, done⟩ := h D C gC h1 h2 Cc
  have lp := fun R hd => compLoop_rule (elt := elt) (iter := iter) (px := px) (ifs := ifs) (scope := scope) (pos := pos) (o₀ := none) (R := R) J Cc W S3 hz J0 turn hd
  refine codeAny_compStart_list (lp _ fun g' vs o s' hg hJ hv Sf => ⟨g', vs, [o], hg, Sf, fun s'' hD hk => done g' vs s'' hg hJ hv hD hk⟩) (wpAny_mono hself (fun it s' q => ?_) fun _ _ x => x.elim)
  obtain ⟨rfl, rfl⟩ := q
  exact lp _ fun g' vs o s' hg hJ hv Sf => ⟨g', vs, [o], hg, Sf, fun s'' hD hk => done g' vs s'' hg hJ hv hD hk⟩
end

end Mine
namespace Mine
set_option linter.unusedVariables false

section
variable {prog : Program} {w : World} {A : Around} {s₀ s : Shared} {g : Heap} {L : Addr} {ns gs : List Str} {loc loc' : List (Option Value)} {mu mu' : List (Addr × MO)} {e : Env}
theorem bin_mono {elt : Expr} {ce : Env} {acc : Value} (K K' : Shared → Prop) (s : Shared) (h : ∀ s, K s → K' s) (b : BIn prog w A elt ce acc K s) : BIn prog w A elt ce acc K' s :=
  Wp.mono b fun _ _ q => q.mono fun _ _ q => h _ q
theorem bout_mono {e0 i2 : Expr} {ce : Env} {acc : Value} (K K' : Shared → Prop) (s : Shared) (h : ∀ s, K s → K' s) (b : BOut prog w A e0 i2 ce acc K s) : BOut prog w A e0 i2 ce acc K' s :=
  Wp.mono b fun _ _ q => q.mono fun _ _ q => codeAny_mono q fun r s q => by cases r <;> first | exact h _ q | exact q
/-- two clauses -/
theorem compF_two {elt i1 i2 : Expr} {x y : Str} {px py : Pos} {scope : Scope} {cl : List (Str × Addr)} {pos : Pos} {I : Addr} {oI : Obj} {n : Nat} {P : Nat → Value → Prop} {s₂ : Shared} {fin : Addr → List Value → Shared → Prop}
    (J : Nat → List Value → Heap → Prop) (hs2 : ∀ C v, foldedSetIterable i2 (compEnvC scope cl C e) v = pure v)
    (h : ∀ D C gC, (∀ b o, b ≠ I → s₂.heap.get? b = some o → gC.get? b = some o) → (∀ b o, gC.get? b = some o → s₂.heap.get? b = some o ∧ b ≠ I) → Fn (compEnvC scope cl C e) C [x, y] gs → J 0 [] gC ∧
      (∀ i v vs o2 g' oI' s', i < n → P i v → Sub gC g' → J i vs g' → St w s₂ g' C [x, y] [some v, o2] [(I, .obj oI'), (D, .list vs)] s' →
        Wp prog w A (eval i2 (compEnvC scope cl C e)) (fun v2 s₃ => Wp prog w A (pyIter v2) (fun it s₄ => ∃ I2 oI2 n2 P2 gi, ∃ Jin : Nat → List Value → Heap → Prop, it = .ref I2 ∧ Sub g' gi ∧ It prog w A gi I2 n2 P2 s₄.heap ∧
          St w s₂ gi C [x, y] [some v, o2] [(I2, .obj oI2), (I, .obj oI'), (D, .list vs)] s₄ ∧ Jin 0 vs gi ∧ (∀ j us g3, Jin j us g3 → us.length ≤ 100000) ∧
          (∀ j u us g3 oI2' s5, j < n2 → P2 j u → Sub gi g3 → Jin j us g3 → St w s₂ g3 C [x, y] [some v, some u] [(I2, .obj oI2'), (I, .obj oI'), (D, .list us)] s5 →
            Wp prog w A (eval elt (compEnvC scope cl C e)) (fun r s6 => ∃ g4, Sub g3 g4 ∧ Jin (j + 1) (us ++ [r]) g4 ∧ St w s₂ g4 C [x, y] [some v, some u] [(I2, .obj oI2'), (I, .obj oI'), (D, .list us)] s6) s5) ∧
          (∀ us g3, Sub gi g3 → Jin n2 us g3 → J (i + 1) us g3)) s₃) s') ∧
      (∀ g' vs s'', Sub gC g' → J n vs g' → g'.get? D = none → (∀ b o, b ≠ L → g'.get? b = some o → s''.heap.get? b = some o) → fin D vs s'')) :
    CompF prog w A (two elt i1 i2 x y px py scope pos) scope cl e [x, y] gs g L I oI n P s₂ fin := by
  intro D C gC s₃ h1 h2 Cc W hself S3
  obtain ⟨J0, turn, done⟩ := h D C gC h1 h2 Cc
  have S3' := S3.pick (mu' := [(I, .obj oI), (D, .list [])]) (.cons (.tail .head) (.cons .head .nil))
  have hxy := (List.nodup_cons.mp S3.nd).1
  have inner : ∀ i v vs o2 g' oI' s', i < n → P i v → Sub gC g' → J i vs g' → St w s₂ g' C [x, y] [some v, o2] [(I, .obj oI'), (D, .list vs)] s' →
      BOut prog w A (two elt i1 i2 x y px py scope pos) i2 (compEnvC scope cl C e) (.ref D) (fun s'' => ∃ (g'' : Heap) (σ' : List Value × Option Value) (o : Option Value), Sub g' g'' ∧ J (i + 1) σ'.1 g'' ∧ St w s₂ g'' C [x, y] [o, σ'.2] [(I, .obj oI'), (D, .list σ'.1)] s'') s' := by
    intro i v vs o2 g' oI' s' hi hP hg hJ S
    refine (turn i v vs o2 g' oI' s' hi hP hg hJ S).mono fun v2 s₃ q => q.mono fun it s₄ q => ?_
    obtain ⟨I2, oI2, n2, P2, gi, Jin, rfl, hgi, W2, S4, Jin0, hlen, tin, dn⟩ := q
    have lp := fun R hd => iloop (σ := List Value) (c := .compLoop (two elt i1 i2 x y px py scope pos) 1 (.ref I2) (.ref D) (compEnvC scope cl C e)) (R := R) (x := y) (px := py) (o₀ := o2) (σ₀ := vs) (fun _ o => [some v, o]) (fun us => [(I, .obj oI'), (D, .list us)]) (fun j g3 us => Jin j us g3)
      (BIn prog w A elt (compEnvC scope cl C e) (.ref D)) bin_mono (fun Iv t n s hI => base_in Iv t n s hI) Cc W2 S4 (fun _ _ _ => .tail .head) Jin0 (fun j u g3 us oI2' s5 hj hP2 hg3 hJ3 S5 => by
        refine (tin j u us g3 oI2' s5 hj hP2 hg3 hJ3 S5).mono fun r s6 q => ?_
        obtain ⟨g4, hg4, hj4, S6⟩ := q
        refine r_append (mu' := [(I2, .obj oI2'), (I, .obj oI'), (D, .list (us ++ [r]))]) S6 (.tail (.tail .head)) (by have := hlen _ _ _ hJ3; rw [sizeLine_eq]; omega) fun s7 S7 => ?_
        exact ⟨g4, us ++ [r], _, hg4, hj4, S7⟩) hd
    have fin2 : ∀ (g3 : Heap) (us : List Value) (o : Option Value) (s' : Shared), Sub gi g3 → Jin n2 us g3 → St w s₂ g3 C [x, y] [some v, o] [(I, .obj oI'), (D, .list us)] s' →
        ∃ (g'' : Heap) (σ' : List Value × Option Value) (o : Option Value), Sub g' g'' ∧ J (i + 1) σ'.1 g'' ∧ St w s₂ g'' C [x, y] [o, σ'.2] [(I, .obj oI'), (D, .list σ'.1)] s' :=
      fun g3 us o s' hg3 hj S => ⟨g3, (us, o), some v, hgi.trans hg3, dn us g3 hg3 hj, S⟩
    have hself2 : wpAny (model prog w) A (pyIter (.ref I2)) (fun it s' => it = .ref I2 ∧ s' = s₄) (fun _ _ => False) s₄ := by
      obtain ⟨fp, Sti, Wk, hst, _⟩ := W2
      exact Wk.self 0 _ _ _ hst ⟨rfl, rfl⟩
    refine start_in (lp _ fun g3 us o s' hg3 hj S => fin2 g3 us o s' hg3 hj S) (wpAny_mono hself2 (fun it s' q => ?_) fun _ _ x => x)
    obtain ⟨rfl, rfl⟩ := q
    exact lp _ fun g3 us o s' hg3 hj S => fin2 g3 us o s' hg3 hj S
  have lp := fun R hd => iloop (σ := List Value × Option Value) (c := .compLoop (two elt i1 i2 x y px py scope pos) 0 (.ref I) (.ref D) (compEnvC scope cl C e)) (R := R) (x := x) (px := px) (o₀ := none) (σ₀ := ([], none)) (fun σ o => [o, σ.2]) (fun σ => [(D, .list σ.1)]) (fun j g3 σ => J j σ.1 g3)
    (BOut prog w A (two elt i1 i2 x y px py scope pos) i2 (compEnvC scope cl C e) (.ref D)) bout_mono (fun Iv t n s hI => base_out (hs2 C) Iv t n s hI) Cc W S3' (fun _ _ _ => .head) J0 (fun i v g' σ oI' s' hi hP hg hJ S => inner i v σ.1 σ.2 g' oI' s' hi hP hg hJ S) hd
  refine codeAny_compStart_list (lp _ fun g' σ o s' hg hJ Sf => ⟨g', σ.1, _, hg, Sf, fun s'' hD hk => done g' σ.1 s'' hg hJ hD hk⟩) (wpAny_mono hself (fun it s' q => ?_) fun _ _ x => x.elim)
  obtain ⟨rfl, rfl⟩ := q
  exact lp _ fun g' σ o s' hg hJ Sf => ⟨g', σ.1, _, hg, Sf, fun s'' hD hk => done g' σ.1 s'' hg hJ hD hk⟩
end

end Mine
namespace Mine
set_option linter.unusedVariables false

theorem fm_range {α : Type} (l : List α) : (List.range l.length).filterMap (fun k => l[k]?) = l := by
  have h : ∀ (m : Nat), m ≤ l.length → (List.range m).filterMap (fun k => l[k]?) = l.take m := by
    intro m
    induction m with
    | zero => intro _; simp
    | succ m ih =>
      intro hm
      rw [List.range_succ, List.filterMap_append, ih (by omega), List.take_succ_eq_append_getElem (by omega)]
      simp [List.getElem?_eq_getElem (show m < l.length by omega)]
  rw [h _ (Nat.le_refl _), List.take_length]
theorem fm_congr {α β : Type} {f g : α → Option β} : ∀ {l : List α}, (∀ a ∈ l, f a = g a) → l.filterMap f = l.filterMap g
  | [], _ => rfl
  | a :: r, h => by rw [List.filterMap_cons, List.filterMap_cons, h a (.head _), fm_congr fun b hb => h b (.tail _ hb)]
theorem rev_pick (items : Array Value) (hn : 1 ≤ items.size) : slicePick items (some (-2)) none (some (-1)) = (items.toList.dropLast.reverse).toArray := by
  have hl : items.toList.dropLast.reverse.length = items.size - 1 := by simp
  unfold slicePick
  have hb : sliceBounds (some (-2)) none (some (-1)) items.size = ((items.size : Int) - 2, -1, -1) := by
    unfold sliceBounds
    simp only [Option.getD_some, show ¬ ((-1 : Int) > 0) by decide, if_false, show ((-2 : Int) < 0) by decide, if_true]
    congr 1
    omega
  rw [hb]
  dsimp only
  unfold sliceRange
  simp only [show ¬ ((-1 : Int) > 0) by decide, if_false]
  have hc : (if (items.size : Int) - 2 > -1 then ((items.size : Int) - 2 - -1 - -1 - 1) / (- -1) else 0).toNat = items.size - 1 := by
    split
    · rw [show (- -1 : Int) = 1 by decide, Int.ediv_one]; omega
    · omega
  rw [hc]
  congr 1
  rw [List.filterMap_map]
  conv => rhs; rw [← fm_range items.toList.dropLast.reverse, hl]
  refine fm_congr fun k hk => ?_
  have hk := List.mem_range.mp hk
  have e : ((items.size : Int) - 2 + -1 * (k : Int)).toNat = items.size - 2 - k := by omega
  simp only [Function.comp_apply, e]
  rw [List.getElem?_reverse (by simp; omega), List.length_dropLast, Array.length_toList, List.getElem?_dropLast]
  rw [if_pos (by rw [Array.length_toList]; omega), Array.getElem?_toList]
  congr 1
theorem mem_join (sep : Str) : ∀ (ys : List Str) (p : Str), p ∈ ys → ∀ c ∈ p.cps.toList, c ∈ (Str.join sep ys).cps.toList
  | [], p, h, _, _ => by cases h
  | [x], p, h, c, hc => by
    rw [List.mem_singleton.mp h] at hc; exact hc
  | x :: y :: r, p, h, c, hc => by
    have e : (Str.join sep (x :: y :: r)).cps.toList = (x.cps.toList ++ sep.cps.toList) ++ (Str.join sep (y :: r)).cps.toList := by
      show ((x.cps ++ sep.cps) ++ (Str.join sep (y :: r)).cps).toList = _
      simp
    rw [e]
    rcases List.mem_cons.mp h with rfl | h
    · exact List.mem_append_left _ (List.mem_append_left _ hc)
    · exact List.mem_append_right _ (mem_join sep (y :: r) p h c hc)
theorem join_mem (sep : Str) : ∀ (ys : List Str) (c : Nat), c ∈ (Str.join sep ys).cps.toList → c ∈ sep.cps.toList ∨ ∃ p ∈ ys, c ∈ p.cps.toList
  | [], c, h => by cases h
  | [x], c, h => .inr ⟨x, .head _, h⟩
  | x :: y :: r, c, h => by
    have e : (Str.join sep (x :: y :: r)).cps.toList = (x.cps.toList ++ sep.cps.toList) ++ (Str.join sep (y :: r)).cps.toList := by
      show ((x.cps ++ sep.cps) ++ (Str.join sep (y :: r)).cps).toList = _
      simp
    rw [e] at h
    rcases List.mem_append.mp h with h | h
    · rcases List.mem_append.mp h with h | h
      · exact .inr ⟨x, .head _, h⟩
      · exact .inl h
    · rcases join_mem sep (y :: r) c h with h | ⟨p, hp, h⟩
      · exact .inl h
      · exact .inr ⟨p, .tail _ hp, h⟩

end Mine
namespace Mine
set_option linter.unusedVariables false

def cellNames : List (Str × NameKind) → List Str
  | [] => []
  | (x, k) :: r => if k == .cell then x :: cellNames r else cellNames r
theorem cellsFrom_eq : ∀ (names : List (Str × NameKind)) (n : Nat) (acc : List (Str × Addr)), cellsFrom n names acc = ((cellNames names).zipIdx n).reverse ++ acc
  | [], _, _ => rfl
  | (x, k) :: r, n, acc => by
    unfold cellsFrom cellNames
    split
    · rw [cellsFrom_eq r (n + 1), List.zipIdx_cons, List.reverse_cons, List.append_assoc]; rfl
    · exact cellsFrom_eq r n acc
theorem lookup_of_mem {x : Str} {c : Addr} : ∀ {l : List (Str × Addr)}, (l.map Prod.fst).Nodup → (x, c) ∈ l → l.lookup x = some c
  | (y, d) :: r, nd, h => by
    simp only [List.map_cons, List.nodup_cons] at nd
    rw [List.lookup_cons]
    rcases List.mem_cons.mp h with h | h
    · cases h; simp
    · have hne : x ≠ y := fun q => nd.1 (q ▸ List.mem_map_of_mem (f := Prod.fst) h)
      have : (x == y) = false := by simpa using hne
      rw [this]; exact lookup_of_mem nd.2 h
theorem bindL_eq {kindOf : Str → Option NameKind} : ∀ (binds : List (Str × Value)) (m : Str → Option Value), (∀ p ∈ binds, kindOf p.1 = some .local) → bindL kindOf binds m = fun y => (binds.reverse.lookup y).or (m y)
  | [], m, _ => by funext y; rfl
  | (n, v) :: r, m, h => by
    unfold bindL
    rw [if_pos (h _ (.head _)), bindL_eq r _ fun p hp => h p (.tail _ hp)]
    funext y
    rw [List.reverse_cons, lookup_append']
    cases r.reverse.lookup y with
    | some z => rfl
    | none =>
      simp only [Option.none_or, List.lookup_cons, List.lookup_nil]
      by_cases hy : y = n
      · subst hy; simp
      · have : (y == n) = false := by simpa using hy
        rw [this, if_neg hy]; rfl
theorem bindC_eq {kindOf : Str → Option NameKind} : ∀ (binds : List (Str × Value)) (m : Str → Option Value), (∀ p ∈ binds, kindOf p.1 = some .local) → bindC kindOf binds m = m
  | [], m, _ => rfl
  | (n, v) :: r, m, h => by
    unfold bindC
    rw [if_pos (h _ (.head _))]
    exact bindC_eq r _ fun p hp => h p (.tail _ hp)
/-- the ledger of the cells of a frame at L -/
def cellMu (L : Addr) (cn : List Str) : List (Addr × MO) := (cn.zipIdx (L + 1)).map fun p => (p.2, MO.cell none)
theorem zipIdx_fst {α : Type} : ∀ (l : List α) (n : Nat), (l.zipIdx n).map Prod.fst = l
  | [], _ => rfl
  | a :: r, n => by rw [List.zipIdx_cons, List.map_cons, zipIdx_fst r]
section
variable {prog : Program} {w : World} {A : Around} {s : Shared}
/-- a def of the text with cells is called -/
theorem enterK {n : Nat} {fa : Addr} {oc : Value} {od : Option Addr} {sl : Array (Option Value)} {fd : FuncData} {body : List Stmt} {args : List Value} {Q : Value → Shared → Prop} (ps rest gs cn : List Str)
    (Am : Amb n A) (G : Gd w s.heap) (ho : (hd.heap_1 w.params).lookup fa = some ⟨oc, od, .func fd, sl⟩) (hb : fd.body = .stmts body) (hbind : bindArgs fd ⟨args, []⟩ = pure (ps.zip args)) (hlen : ps.length = args.length)
    (hcd : codeIn (hd.heap_1 w.params) fd.code fd.qualname = true) (hk : fd.scope.kind = .function) (hg : fd.globals = mainGlobals) (hbi : fd.builtins = builtinsNs) (hclo : fd.closure = [])
    (hcn : cellNames fd.scope.names = cn) (hc1 : decide cn.Nodup = true) (hc2 : (cn.all fun x => fd.scope.names.lookup x == some .cell && !(x == ("__debug__" : Str))) = true) (h1 : ((ps ++ rest).all fun x => fd.scope.names.lookup x == some .local && !(x == ("__debug__" : Str))) = true)
    (h2 : (gs.all fun x => fd.scope.names.lookup x == some .globalImplicit && !(x == ("__debug__" : Str))) = true) (nd : decide (ps ++ rest).Nodup = true)
    (hco : fd.scope.isCoroutine = false) (hgen : fd.scope.isGenerator = false)
    (h : ∀ e L s', Fn e L (ps ++ rest) gs → (∀ x c, (x, c) ∈ cn.zipIdx (L + 1) → CellOf e x c) → (∀ x c, (x, c) ∈ cn.zipIdx (L + 1) → e.cells.lookup x = some c) → e.scope = fd.scope → St w s s.heap L (ps ++ rest) (args.map some ++ rest.map fun _ => none) (cellMu L cn) s' →
      Wp prog w (A.deeper e) (execs body e) (fun f s'' => Q (match f with | .ret v => v | _ => .none) s'') s') :
    Wp prog w A (call (.ref fa) args) Q s := by
  obtain ⟨mg, mb, hmg, hmb, hlim, hbt⟩ := G.T
  have nd' := of_decide_eq_true nd
  have hcnd := of_decide_eq_true hc1
  have hz := zip_fst ps args hlen
  have ho' := G.X _ _ ho
  have hr := Am.room
  have hcd' := codeRec_of G.X hcd
  have kl : ∀ x ∈ ps ++ rest, fd.scope.names.lookup x = some .local := fun x hx => by have := List.all_eq_true.mp h1 x hx; simp only [Bool.and_eq_true, beq_iff_eq] at this; exact this.1
  have hx1 : ∀ x ∈ ps.zip args, fd.scope.names.lookup x.1 = some .local := fun x hx => kl x.1 (List.mem_append_left _ (by rw [← hz]; exact List.mem_map_of_mem hx))
  refine ⟨?_⟩
  with_reducible refine wpAny_call ?_
  refine codeAny_call_cells (fd := fd) (body := body) (binds := ps.zip args) hr ho' rfl hlim hcd' hb hbind hclo (fun x hx => .inl (hx1 x hx)) (fun s₁ X => ?_) hco hgen hk
  have hcells : (callEnvC fd s.heap.objs.size fa).cells = (cn.zipIdx (s.heap.objs.size + 1)).reverse := by
    show cellsFrom (s.heap.objs.size + 1) fd.scope.names [] = _
    rw [cellsFrom_eq, hcn, List.append_nil]
  have hkl : ∀ p ∈ ps.zip args, (callEnvC fd s.heap.objs.size fa).kindOf p.1 = some .local := fun p hp => hx1 p hp
  rw [bindL_eq _ _ hkl, bindC_eq _ _ hkl] at X
  have hlook : ∀ x c, (x, c) ∈ cn.zipIdx (s.heap.objs.size + 1) → (callEnvC fd s.heap.objs.size fa).cells.lookup x = some c := by
    intro x c hm
    rw [hcells]
    exact lookup_of_mem (by rw [List.map_reverse, zipIdx_fst]; exact (List.reverse_perm cn).nodup_iff.mpr hcnd) (List.mem_reverse.mpr hm)
  obtain ⟨h₁, tk, hs₁⟩ := X.toInCall.same
  have hns := X.toInCall.ns
  have hl := look_binds (ps.zip args) rest (by rw [hz]; exact (List.nodup_append.mp nd').1)
  rw [hz, zip_snd ps args hlen] at hl
  have Cf : Fn (callEnvC fd s.heap.objs.size fa) s.heap.objs.size (ps ++ rest) gs := by
    refine ⟨hk, rfl, hg, hbi, kl, fun x hx => ?_, fun x hx => ?_⟩
    · have := List.all_eq_true.mp h2 x hx; simp only [Bool.and_eq_true, beq_iff_eq] at this; exact this.1
    · rcases List.mem_append.mp hx with hx | hx
      · have := List.all_eq_true.mp h1 x hx; simp only [Bool.and_eq_true, Bool.not_eq_true'] at this; exact this.2
      · have := List.all_eq_true.mp h2 x hx; simp only [Bool.and_eq_true, Bool.not_eq_true'] at this; exact this.2
  have hxm : ∀ x c, (x, c) ∈ cn.zipIdx (s.heap.objs.size + 1) → x ∈ cn := fun x c hm => by
    have := List.mem_map_of_mem (f := Prod.fst) hm
    rwa [zipIdx_fst] at this
  have hgt : ∀ x c, (x, c) ∈ cn.zipIdx (s.heap.objs.size + 1) → s.heap.objs.size < c := fun x c hm => by
    have := List.mem_zipIdx hm
    omega
  have cellOf : ∀ x c, (x, c) ∈ cn.zipIdx (s.heap.objs.size + 1) → CellOf (callEnvC fd s.heap.objs.size fa) x c := fun x c hm => by
    have := List.all_eq_true.mp hc2 x (hxm x c hm)
    simp only [Bool.and_eq_true, beq_iff_eq, Bool.not_eq_true'] at this
    exact ⟨hk, this.1, hlook x c hm, this.2⟩
  have none_of : ∀ a, s.heap.objs.size ≤ a → s.heap.get? a = none := fun a ha => by
    cases q : s.heap.get? a with
    | none => rfl
    | some o => exact absurd (Heap.lt_size q) (Nat.not_lt.mpr ha)
  have S : St w s s.heap s.heap.objs.size (ps ++ rest) (args.map some ++ rest.map fun _ => none) (cellMu s.heap.objs.size cn) s₁ := by
    refine ⟨by rw [hs₁], by rw [hs₁], by rw [hs₁], ?_, nd', X.toInCall.keep, size_none _, fun p hp => ?_, fun p hp => ?_, ?_, G⟩
    · rw [hl]
      have e : (fun y => ((ps.zip args).reverse.lookup y).or none) = fun x => (ps.zip args).reverse.lookup x := funext fun y => by simp
      rw [← e]; exact hns
    · obtain ⟨⟨x, c⟩, hm, rfl⟩ := List.mem_map.mp hp
      exact X.cell x c (hlook x c hm)
    · obtain ⟨⟨x, c⟩, hm, rfl⟩ := List.mem_map.mp hp
      have := hgt x c hm
      exact ⟨none_of _ (Nat.le_of_lt this), Nat.ne_of_gt this⟩
    · unfold cellMu
      rw [List.map_map]
      have e : (Prod.fst ∘ fun p : Str × Nat => (p.2, MO.cell none)) = Prod.snd := rfl
      rw [e]
      have : (cn.zipIdx (s.heap.objs.size + 1)).map Prod.snd = List.range' (s.heap.objs.size + 1) cn.length := by simp
      rw [this]
      exact List.nodup_range'
  exact wpAny_mono (h _ _ _ Cf cellOf hlook rfl S).run (fun f s' q => q) fun _ _ x => x.elim
end

end Mine
namespace Mine
set_option linter.unusedVariables false

def closOf (cs : List (Str × Addr)) : List (Str × NameKind) → List (Str × Addr) → Option (List (Str × Addr))
  | [], acc => some acc
  | (x, k) :: r, acc => if k == .free then (cs.lookup x).bind fun c => closOf cs r ((x, c) :: acc) else closOf cs r acc
theorem clos_of {scope : Scope} {e : Env} {cl : List (Str × Addr)} (h : closOf e.cells scope.names [] = some cl) : closureFor scope e = pure cl := by
  unfold closureFor
  have go : ∀ (l : List (Str × NameKind)) (acc : List (Str × Addr)) (out : List (Str × Addr)), closOf e.cells l acc = some out →
      (forIn l acc fun x c => match x with
        | (name, kind) => if (kind == NameKind.free) = true then do let a ← cellOf e name; pure (ForInStep.yield ((name, a) :: c)) else pure (ForInStep.yield c)) = (pure out : Sem (List (Str × Addr))) := by
    intro l
    induction l with
    | nil => intro acc out h; cases h; rfl
    | cons p r ih =>
      intro acc out h
      obtain ⟨x, k⟩ := p
      unfold closOf at h
      rw [List.forIn_cons]
      dsimp only
      split at h
      · rename_i hk
        obtain ⟨c, hc, h⟩ := Option.bind_eq_some_iff.mp h
        rw [if_pos hk]
        have e1 : cellOf e x = pure c := by unfold cellOf; rw [hc]
        rw [e1]
        simp only [pure_bind]
        exact ih _ _ h
      · rename_i hk
        rw [if_neg hk]
        simp only [pure_bind]
        exact ih _ _ h
  have := go scope.names [] cl h
  simp only [bind_pure] at this ⊢
  exact this
section
variable {prog : Program} {w : World} {A : Around} {s₀ s : Shared} {g : Heap} {L : Addr} {ns gs : List Str} {loc loc' : List (Option Value)} {mu mu' : List (Addr × MO)} {e : Env}
variable {QU : Unit → Shared → Prop} {Q : Value → Shared → Prop}
theorem r_storec {x : Str} {c : Addr} {o : Option Value} {v : Value} (C : CellOf e x c) (S : St w s₀ g L ns loc mu s) (u : Up mu c (.cell o) (.cell (some v)) mu') (k : ∀ s', St w s₀ g L ns loc mu' s' → QU () s') : Wp prog w A (storeName e x v) QU s := by
  refine ⟨wpAny_storeName_cell C.fn C.kind C.at' (S.ml _ u.mem) fun h' hv hs => ?_⟩
  exact k _ (S.up (t := s.toks) u hv hs)
theorem r_loadc {x : Str} {c : Addr} {v : Value} (C : CellOf e x c) (S : St w s₀ g L ns loc mu s) (hm : (c, MO.cell (some v)) ∈ mu) (k : Q v s) : Wp prog w A (loadName e x) Q s := by
  obtain ⟨o, ho, hd⟩ := S.ml _ hm
  exact ⟨wpAny_loadName_cell C.fn C.kind C.at' ⟨o, ho, hd⟩ k⟩
end

end Mine
namespace Mine
set_option linter.unusedVariables false

section
variable {prog : Program} {w : World} {A : Around} {s₀ s : Shared} {g : Heap} {L : Addr} {ns gs : List Str} {loc loc' : List (Option Value)} {mu mu' : List (Addr × MO)} {e : Env}
/-- as «iloop», the loop's name may lie in a cell: the ledger depends on it -/
theorem iloopK {σ : Type} {c : Code} {I : Addr} {oI : Obj} {n : Nat} {P : Nat → Value → Prop} {x : Str} {px : Pos} {R : Result → Shared → Prop} {o₀ : Option Value} {σ₀ : σ}
    (lo : σ → Option Value → List (Option Value)) (muOf : σ → Option Value → List (Addr × MO)) (J : Nat → Heap → σ → Prop) (Bdy : (Shared → Prop) → Shared → Prop) (mono : ∀ K K' s, (∀ s, K s → K' s) → Bdy K s → Bdy K' s)
    (base : ∀ (Iv : Nat → Shared → Prop), (∀ n s, Iv n s → wpAny (model prog w) A (pyNext (.ref I)) (fun r s₁ => match r with
        | none => R (.ok .next) s₁
        | some v => wpAny (model prog w) A (assign (.Name x px) e v) (fun _ s₂ => Bdy (fun s' => ∃ m, m < n ∧ Iv m s') s₂) (fun _ _ => False) s₁) (fun _ _ => False) s) → ∀ n s, Iv n s → codeAny (model prog w) A c R s)
    (W : It prog w A g I n P s.heap) (S : St w s₀ g L ns (lo σ₀ o₀) ((I, .obj oI) :: muOf σ₀ o₀) s) (hst' : ∀ σ o v g' oI s, St w s₀ g' L ns (lo σ o) ((I, .obj oI) :: muOf σ o) s → Wp prog w A (storeName e x v) (fun _ s₂ => St w s₀ g' L ns (lo σ (some v)) ((I, .obj oI) :: muOf σ (some v)) s₂) s)
    (J0 : J 0 g σ₀)
    (turn : ∀ i v g' σ oI s', i < n → P i v → Sub g g' → J i g' σ → St w s₀ g' L ns (lo σ (some v)) ((I, .obj oI) :: muOf σ (some v)) s' →
      Bdy (fun s'' => ∃ g'' σ' o, Sub g' g'' ∧ J (i + 1) g'' σ' ∧ St w s₀ g'' L ns (lo σ' o) ((I, .obj oI) :: muOf σ' o) s'') s')
    (done : ∀ g' σ o s', Sub g g' → J n g' σ → St w s₀ g' L ns (lo σ o) (muOf σ o) s' → R (.ok .next) s') :
    codeAny (model prog w) A c R s := by
  obtain ⟨fp, Sti, W, hst, hio, hfp⟩ := W
  refine base (fun k s' => ∃ i g' σ o oI, k = n + 1 - i ∧ i ≤ n ∧ Sub g g' ∧ J i g' σ ∧ Sti i s'.heap ∧ St w s₀ g' L ns (lo σ o) ((I, .obj oI) :: muOf σ o) s') ?_ (n + 1) s
    ⟨0, g, σ₀, o₀, oI, rfl, Nat.zero_le _, Sub.rfl', J0, hst, S⟩
  rintro k s' ⟨i, g', σ, o, oI, rfl, hi, hg, hJ, hsti, S'⟩
  have hIm := S'.ml _ (List.mem_cons_self ..)
  have hIf := S'.mf _ (List.mem_cons_self ..)
  have moved : ∀ (h' : Heap) (tk : Nat), (∀ b ob, b ∉ [I] → s'.heap.get? b = some ob → h'.get? b = some ob) → St w s₀ g' L ns (lo σ o) (muOf σ o) { s' with heap := h', toks := tk } := by
    intro h' tk hk
    have T := S'.less (List.sublist_cons_self ..)
    have hIn : ∀ b ob, g'.get? b = some ob → b ≠ I := fun b ob q r => by rw [r, hIf.1] at q; cases q
    refine ⟨T.gens, T.drawn, T.os, ?_, T.nd, fun b ob q => hk b ob (fun r => hIn b ob q (List.mem_singleton.mp r)) (T.keep b ob q), T.nL, fun p hp => (T.ml p hp).of fun ob q => hk _ ob (fun r => ?_) q, T.mf, T.mn, T.gd⟩
    · exact T.nsp.at' fun ob q => hk _ ob (fun r => hIf.2 (List.mem_singleton.mp r).symm) q
    · have := S'.mn
      simp only [List.map_cons, List.nodup_cons] at this
      exact this.1 (List.mem_singleton.mp r ▸ List.mem_map_of_mem hp)
  have back : ∀ (s₁ : Shared) (o₁ : Obj), St w s₀ g' L ns (lo σ o) (muOf σ o) s₁ → s₁.heap.get? I = some o₁ → St w s₀ g' L ns (lo σ o) ((I, .obj o₁) :: muOf σ o) s₁ := by
    intro s₁ o₁ T ho
    refine ⟨T.gens, T.drawn, T.os, T.nsp, T.nd, T.keep, T.nL, fun p hp => ?_, fun p hp => ?_, S'.mn, T.gd⟩
    · rcases List.mem_cons.mp hp with rfl | hp
      · exact ho
      · exact T.ml p hp
    · rcases List.mem_cons.mp hp with rfl | hp
      · exact hIf
      · exact T.mf p hp
  by_cases hlt : i < n
  · refine W.item i _ _ _ hlt hsti fun v h₁ tk₁ hP hst₁ hk₁ => ?_
    have T := moved h₁ tk₁ hk₁
    obtain ⟨oI', hoI'⟩ := hio _ _ hst₁
    have T' := back _ oI' T hoI'
    refine wpAny_assign_Name ?_
    refine wpAny_mono (hst' σ o v g' oI' _ T').run (fun _ s₂ S₂ => ?_) fun _ _ x => x.elim
    have same : ∀ (s₃ : Shared) (g'' : Heap) (l : List (Option Value)) (m : List (Addr × MO)), Sub g' g'' → St w s₀ g'' L ns l ((I, .obj oI') :: m) s₃ → Sti (i + 1) s₃.heap := by
      intro s₃ g'' l m hs S₃
      refine W.frame _ _ _ hst₁ fun b hb ob hq => ?_
      by_cases hbI : b = I
      · rw [hbI] at hq ⊢
        have h2 : s₃.heap.get? I = some oI' := S₃.ml _ (List.mem_cons_self ..)
        rw [hoI'] at hq; rw [h2]; exact hq
      · obtain ⟨o2, ho2⟩ := hfp b hb hbI
        have h1 := T.keep _ _ (hg _ _ ho2)
        have h2 := S₃.keep _ _ (hs _ _ (hg _ _ ho2))
        rw [h1] at hq; rw [h2]; exact hq
    refine mono _ _ _ (fun s₃ q => ?_) (turn i v g' σ oI' s₂ hlt hP hg hJ S₂)
    obtain ⟨g'', σ', o', hs, hj, S₃⟩ := q
    exact ⟨n + 1 - (i + 1), by omega, i + 1, g'', σ', o', oI', rfl, hlt, hg.trans hs, hj, same s₃ g'' _ _ hs S₃, S₃⟩
  · have hin : i = n := by omega
    subst hin
    refine W.done _ _ _ hsti fun h₁ tk₁ hk₁ => ?_
    exact done g' σ o _ hg hJ (moved h₁ tk₁ hk₁)


/-- the body of a «for» statement, as iloopK wants it -/
def BFor (prog : Program) (w : World) (A : Around) (body : List Stmt) (e : Env) (R : Flow → Shared → Prop) (K : Shared → Prop) (s : Shared) : Prop := Wp prog w A (execs body e) (Turn K R) s
theorem bfor_mono {body : List Stmt} {R : Flow → Shared → Prop} (K K' : Shared → Prop) (s : Shared) (h : ∀ s, K s → K' s) (b : BFor prog w A body e R K s) : BFor prog w A body e R K' s :=
  Wp.mono b fun f s q => by cases f <;> first | exact h _ q | exact q
theorem base_for {x : Str} {px : Pos} {body : List Stmt} {it : Value} {R : Flow → Shared → Prop} (Iv : Nat → Shared → Prop) (turn : ∀ n s, Iv n s → wpAny (model prog w) A (pyNext it) (fun r s₁ => match r with
        | none => R .next s₁
        | some v => wpAny (model prog w) A (assign (.Name x px) e v) (fun _ s₂ => BFor prog w A body e R (fun s' => ∃ m, m < n ∧ Iv m s') s₂) (fun _ _ => False) s₁) (fun _ _ => False) s) (n : Nat) (s : Shared) (h : Iv n s) :
    codeAny (model prog w) A (.forLoop (.Name x px) it body [] e) (fun r s' => match r with | .ok f => R f s' | .error _ => False) s := by
  refine codeAny_forLoop Iv (fun n s hI => ?_) n h
  refine wpAny_mono (turn n s hI) (fun r s₁ q => ?_) fun _ _ x => x.elim
  cases r with
  | none => exact wpAny_execs_nil q
  | some v =>
    refine wpAny_mono q (fun _ s₂ q => ?_) fun _ _ x => x.elim
    refine wpAny_mono q.run (fun f s₃ q => ?_) fun _ _ x => x.elim
    cases f with
    | next => exact q
    | cont => exact q
    | brk => exact q
    | ret v => exact q
end

end Mine
namespace Mine
set_option linter.unusedVariables false

section
variable {prog : Program} {w : World} {A : Around} {s₀ s : Shared} {g : Heap} {L : Addr} {ns gs : List Str} {loc loc' : List (Option Value)} {mu mu' : List (Addr × MO)} {e : Env} {Q : Value → Shared → Prop}
theorem r_maxl {k : Nat} {l : Addr} {vs : List Value} {is : List Int} (Am : Amb k A) (S : St w s₀ g L ns loc mu s) (hl : s.heap.IsList l vs.toArray) (hi : IntsAre vs is) (hne : 0 < is.length)
    (h : ∀ M t s', St w s₀ g L ns loc mu s' → M ∈ is → (∀ a ∈ is, a ≤ M) → Q (.int M t) s') : Wp prog w A (call (.builtin "max") [.ref l]) Q s :=
  ⟨max_list_N Am.hd S.frE S.newsE hl hi hne fun h' M t tk F N h1 h2 => h M t _ (S.ofFr F N) h1 h2⟩
theorem St.freezeL {s1 : Shared} {a : Addr} {cs : List Value} (S : St w s₀ g L ns loc mu s) (S1 : St w s₀ g L ns loc mu s1) (ha : s.heap.get? a = none) (hl : LObj s1.heap a cs) : ∃ g', Sub g g' ∧ St w s₀ g' L ns loc mu s1 ∧ LObj g' a cs := by
  obtain ⟨g', h1, h2, h3⟩ := S1.freeze (List.Sublist.refl _)
  refine ⟨g', h1, h2, hl.imp fun n q => h3 a _ q ?_ ?_⟩
  · rintro rfl
    obtain ⟨o, ho⟩ := S.getL
    rw [ha] at ho; cases ho
  · intro hm
    obtain ⟨p, hp, rfl⟩ := List.mem_map.mp hm
    obtain ⟨o, ho⟩ := (S.ml p hp).ex
    rw [ha] at ho; cases ho
theorem lookup_relabel_free {env : Env} (hf : env.scope.kind = .function) : ∀ {names : List (Str × NameKind)} {x : Str}, env.kindOf x = some .cell → names.lookup x = some .free →
    (names.map fun (n, k) => if (k == NameKind.free && env.scope.kind == .function && env.kindOf n == some .cell) then (n, NameKind.cell) else (n, k)).lookup x = some .cell
  | [], _, _, h => by simp at h
  | (n, k') :: r, x, hc, h => by
    have ih := @lookup_relabel_free env hf r x hc
    show List.lookup x ((if (k' == NameKind.free && env.scope.kind == .function && env.kindOf n == some .cell) = true then (n, NameKind.cell) else (n, k')) :: _) = _
    cases hx : x == n with
    | true =>
      simp only [List.lookup_cons, hx] at h
      cases h
      have e1 : x = n := by simpa using hx
      subst e1
      rw [if_pos (by rw [hf, hc]; rfl)]
      simp [List.lookup_cons]
    | false =>
      simp only [List.lookup_cons, hx] at h
      by_cases hq : (k' == NameKind.free && env.scope.kind == .function && env.kindOf n == some .cell) = true
      · rw [if_pos hq]; simp only [List.lookup_cons, hx]; exact ih h
      · rw [if_neg hq]; simp only [List.lookup_cons, hx]; exact ih h
theorem cell_of_fn {ns1 gs1 : List Str} {scope : Scope} {cl : List (Str × Addr)} {Ca : Addr} {x : Str} {c : Addr} (Cc : Fn (compEnvC scope cl Ca e) Ca ns1 gs1) (h : CellOf e x c) (hf : scope.names.lookup x = some .free) (hc : cl.lookup x = some c) : CellOf (compEnvC scope cl Ca e) x c :=
  ⟨Cc.kind, lookup_relabel_free h.fn h.kind hf, hc, h.dbg⟩
theorem swaps_cell {elt : Expr} {gens : List Comprehension} {scope : Scope} {pos px : Pos} {t : Str} {line : Nat} (h : e.kindOf t = some .cell) : swapsWith (.ListComp elt gens scope pos) (some (.Name t px)) line e = pure false := by
  have e1 : (e.kindOf t == some NameKind.local) = false := by rw [h]; rfl
  show (pure (e.blockKind == .function && e.kindOf t == some .local && px.line == _ && !(scope.names.any fun (n, k) => n == t && (k == .local || k == .cell))) : Sem Bool) = pure false
  rw [e1, Bool.and_false, Bool.false_and, Bool.false_and]
end

end Mine
namespace Mine
set_option linter.unusedVariables false

section
variable {prog : Program} {w : World} {A : Around} {s₀ s : Shared} {g : Heap} {L : Addr} {ns gs : List Str} {loc loc' : List (Option Value)} {mu mu' : List (Addr × MO)} {e : Env} {Q : Value → Shared → Prop}
/-- a «for» statement whose name lies in a cell -/
theorem loopK {σ : Type} {x : Str} {c : Addr} {px : Pos} {body : List Stmt} {I : Addr} {oI : Obj} {n : Nat} {P : Nat → Value → Prop} {R : Flow → Shared → Prop} {o₀ : Option Value} {σ₀ : σ}
    (lo : σ → List (Option Value)) (muOf : σ → Option Value → List (Addr × MO)) (J : Nat → Heap → σ → Prop) (K : CellOf e x c) (W : It prog w A g I n P s.heap) (S : St w s₀ g L ns (lo σ₀) ((I, .obj oI) :: muOf σ₀ o₀) s)
    (hup : ∀ σ o v, Up (muOf σ o) c (.cell o) (.cell (some v)) (muOf σ (some v))) (J0 : J 0 g σ₀)
    (turn : ∀ i v g' σ oI s', i < n → P i v → Sub g g' → J i g' σ → St w s₀ g' L ns (lo σ) ((I, .obj oI) :: muOf σ (some v)) s' →
      Wp prog w A (execs body e) (Turn (fun s'' => ∃ g'' σ' o, Sub g' g'' ∧ J (i + 1) g'' σ' ∧ St w s₀ g'' L ns (lo σ') ((I, .obj oI) :: muOf σ' o) s'') R) s')
    (done : ∀ g' σ o s', Sub g g' → J n g' σ → St w s₀ g' L ns (lo σ) (muOf σ o) s' → R .next s') :
    Cp prog w A (.forLoop (.Name x px) (.ref I) body [] e) R s :=
  ⟨iloopK (fun σ _ => lo σ) muOf J (BFor prog w A body e R) bfor_mono (fun Iv t n s hI => base_for Iv t n s hI) W S (fun σ o v g' oI s S' => r_storec K S' (.tail (hup σ o v)) fun _ S2 => S2) J0 turn done⟩
theorem St.cellC {I c : Addr} {oI : Obj} {m : MO} {gC : Heap} (S : St w s₀ g L ns loc ((I, .obj oI) :: mu) s) (h1 : ∀ b o, b ≠ I → s.heap.get? b = some o → gC.get? b = some o) (hm : (c, m) ∈ mu) : m.At gC c := by
  refine (S.ml _ (.tail _ hm)).of fun o q => h1 _ _ ?_ q
  have := S.mn
  simp only [List.map_cons, List.nodup_cons] at this
  rintro rfl
  exact this.1 (List.mem_map_of_mem (f := Prod.fst) hm)
theorem St.subC {I : Addr} {oI : Obj} {gC : Heap} (S : St w s₀ g L ns loc ((I, .obj oI) :: mu) s) (h1 : ∀ b o, b ≠ I → s.heap.get? b = some o → gC.get? b = some o) : Sub g gC := fun b o q => h1 _ _ (by
  rintro rfl
  rw [(S.mf _ (.head _)).1] at q; cases q) (S.keep _ _ q)
theorem swaps_local {elt : Expr} {gens : List Comprehension} {scope : Scope} {pos px : Pos} {t : Str} {line : Nat} (C : Fn e L ns gs) (ht : t ∈ ns) (h : (px.line == pos.line && !(scope.names.any fun (n, k) => n == t && (k == .local || k == .cell))) = true) :
    swapsWith (.ListComp elt gens scope pos) (some (.Name t px)) line e = pure true := by
  have e1 : (e.kindOf t == some NameKind.local) = true := by rw [C.kinds t ht]; rfl
  have e2 : (e.blockKind == ScopeKind.function) = true := by unfold Env.blockKind; rw [C.kind]; rfl
  show (pure (e.blockKind == .function && e.kindOf t == some .local && px.line == pos.line && !(scope.names.any fun (n, k) => n == t && (k == .local || k == .cell))) : Sem Bool) = pure true
  rw [e1, e2, Bool.true_and, Bool.true_and, h]
end

end Mine
namespace Mine
set_option linter.unusedVariables false

open PySem.SeqAt
open AutoSeq1 (wpAny_loadPart')
open MeetsSeq MeetsSeq2 MeetsSeq3
def ltI : List Int → List Int → Bool
  | _, [] => false
  | [], _ :: _ => true
  | a :: r, b :: q => if a = b then ltI r q else decide (a < b)
theorem ltI_nil_right (l : List Int) : ltI l [] = false := by cases l <;> rfl
theorem ints_getA {items : Array Value} {ns : List Int} (h : IntsAre items.toList ns) {i : Nat} (hi : i < items.size) : ∃ t, ∃ (h2 : i < ns.length), items[i] = .int ns[i] t := by
  have hl := h.length
  have h2 : i < ns.length := by have : items.toList.length = items.size := by simp
                                omega
  obtain ⟨t, ht⟩ := Mine.IntsAre.get' h (List.getElem?_eq_getElem h2)
  refine ⟨t, h2, ?_⟩
  have : items.toList[i]? = some items[i] := by simp [hi]
  rw [this] at ht
  exact Option.some.inj ht

theorem lt_loopI (l b : Addr) (items items2 : Array Value) (n n2 : Nat) (dd dd2 : Option Addr) (sl sl2 : Array (Option Value)) (ns ms : List Int) (hI : IntsAre items.toList ns) (hM : IntsAre items2.toList ms) (k : Nat) :
    ∀ i : Nat, items.size - i = k → i ≤ items.size → i ≤ items2.size → Meets (Builtin.«list.__eq__.loop» ⟨[.ref l, .ref b, rawInt i, rawInt 0], []⟩)
      (fun A R s => s.heap.get? l = some { cls := .type "list", dict := dd, data := .seq items n, slots := sl } ∧ s.heap.get? b = some { cls := .type "list", dict := dd2, data := .seq items2 n2, slots := sl2 } ∧
        R (.ok (.ret (.bool (ltI (ns.drop i) (ms.drop i))))) s) := by
  have hl1 : items.size = ns.length := by simpa using hI.length
  have hl2 : items2.size = ms.length := by simpa using hM.length
  induction k with
  | zero =>
    intro i hk hi1 hi2 prog w A R s h
    obtain ⟨hp, g, d, tk, os⟩ := s; obtain ⟨hl, hb, h⟩ := h
    wp_walk using wpAny_loadPart' hl, wpAny_loadPart' hb
    have hi3 : items[((i : Nat) : Int).toNat]? = none := by simp; omega
    rw [hi3]
    have hd : ns.drop i = [] := List.drop_eq_nil_of_le (by omega)
    wp_walk using wpAny_loadPart' hl, wpAny_loadPart' hb
    show R (.ok (.ret (.bool (decide (items.size < items2.size))))) _
    have he : decide (items.size < items2.size) = ltI (ns.drop i) (ms.drop i) := by
      rw [hd]
      cases hq : ms.drop i with
      | nil =>
        have := List.drop_eq_nil_iff.mp hq
        simp [ltI]; omega
      | cons x r =>
        have : ¬ ms.length ≤ i := fun q => by rw [List.drop_eq_nil_of_le q] at hq; cases hq
        simp [ltI]; omega
    rw [he]
    exact h
  | succ k ih =>
    intro i hk hi1 hi2 prog w A R s h
    obtain ⟨hp, g, d, tk, os⟩ := s; obtain ⟨hl, hb, h⟩ := h
    wp_walk using wpAny_loadPart' hl, wpAny_loadPart' hb
    have hlt : i < items.size := by omega
    have hi3 : items[((i : Nat) : Int).toNat]? = some items[i] := by simp [hlt]
    obtain ⟨t1, h1, e1⟩ := ints_getA hI hlt
    have hc : ((i : Int) + 1) = ((i + 1 : Nat) : Int) := by push_cast; rfl
    rw [hi3]
    by_cases hlt2 : i < items2.size
    · have hi4 : items2[((i : Nat) : Int).toNat]? = some items2[i] := by simp [hlt2]
      obtain ⟨t2, h2, e2⟩ := ints_getA hM hlt2
      rw [hi4]
      rw [List.drop_eq_getElem_cons h1, List.drop_eq_getElem_cons h2] at h
      have he := EqAt.int_int (A := A.in1) (s := ⟨hp, g, d, tk, os⟩) ns[i] t1 ms[i] t2
      rw [← e1, ← e2] at he
      refine wpAny_bind (he prog w _ _ ?_)
      cases hb' : ns[i] == ms[i] with
      | true =>
        have hb2 : ns[i] = ms[i] := by simpa using hb'
        unfold ltI at h
        rw [if_pos (by first | exact hb2 | exact hb2.symm)] at h
        wp_walk
        rw [hc]
        exact ⟨plainId_quiet plain_eq_loop _, codeAny_builtin entry_eq_loop (by
          rw [Around.under_plainId plain_eq_loop _]
          exact ih (i + 1) (by omega) (by omega) (by omega) prog w A R _ ⟨hl, hb, h⟩)⟩
      | false =>
        have hb2 : ¬ ns[i] = ms[i] := by simpa using hb'
        unfold ltI at h
        rw [if_neg (by first | exact hb2 | exact fun q => hb2 q.symm)] at h
        wp_walk using wpAny_loadPart' hl, wpAny_loadPart' hb
        rw [hi3, hi4, e1, e2]
        dsimp only
        refine wpAny_bind (lt_int ?_)
        wp_walk
        first | exact h | exact ⟨_, rfl, h⟩
    · have hi4 : items2[((i : Nat) : Int).toNat]? = none := by simp; omega
      rw [hi4]
      wp_walk using wpAny_loadPart' hl, wpAny_loadPart' hb
      show R (.ok (.ret (.bool (decide (items.size < items2.size))))) _
      have he : decide (items.size < items2.size) = ltI (ns.drop i) (ms.drop i) := by
        rw [List.drop_eq_nil_of_le (show ms.length ≤ i by omega), List.drop_eq_getElem_cons h1]
        simp [ltI]; omega
      rw [he]
      exact h

theorem gt_loopI (l b : Addr) (items items2 : Array Value) (n n2 : Nat) (dd dd2 : Option Addr) (sl sl2 : Array (Option Value)) (ns ms : List Int) (hI : IntsAre items.toList ns) (hM : IntsAre items2.toList ms) (k : Nat) :
    ∀ i : Nat, items.size - i = k → i ≤ items.size → i ≤ items2.size → Meets (Builtin.«list.__eq__.loop» ⟨[.ref l, .ref b, rawInt i, rawInt 4], []⟩)
      (fun A R s => s.heap.get? l = some { cls := .type "list", dict := dd, data := .seq items n, slots := sl } ∧ s.heap.get? b = some { cls := .type "list", dict := dd2, data := .seq items2 n2, slots := sl2 } ∧
        R (.ok (.ret (.bool (ltI (ms.drop i) (ns.drop i))))) s) := by
  have hl1 : items.size = ns.length := by simpa using hI.length
  have hl2 : items2.size = ms.length := by simpa using hM.length
  induction k with
  | zero =>
    intro i hk hi1 hi2 prog w A R s h
    obtain ⟨hp, g, d, tk, os⟩ := s; obtain ⟨hl, hb, h⟩ := h
    wp_walk using wpAny_loadPart' hl, wpAny_loadPart' hb
    have hi3 : items[((i : Nat) : Int).toNat]? = none := by simp; omega
    rw [hi3]
    have hd : ns.drop i = [] := List.drop_eq_nil_of_le (by omega)
    wp_walk using wpAny_loadPart' hl, wpAny_loadPart' hb
    show R (.ok (.ret (.bool (decide (items.size > items2.size))))) _
    have he : decide (items.size > items2.size) = ltI (ms.drop i) (ns.drop i) := by
      rw [hd]
      cases hq : ms.drop i with
      | nil =>
        have := List.drop_eq_nil_iff.mp hq
        simp [ltI]; omega
      | cons x r =>
        have : ¬ ms.length ≤ i := fun q => by rw [List.drop_eq_nil_of_le q] at hq; cases hq
        simp [ltI]; omega
    rw [he]
    exact h
  | succ k ih =>
    intro i hk hi1 hi2 prog w A R s h
    obtain ⟨hp, g, d, tk, os⟩ := s; obtain ⟨hl, hb, h⟩ := h
    wp_walk using wpAny_loadPart' hl, wpAny_loadPart' hb
    have hlt : i < items.size := by omega
    have hi3 : items[((i : Nat) : Int).toNat]? = some items[i] := by simp [hlt]
    obtain ⟨t1, h1, e1⟩ := ints_getA hI hlt
    have hc : ((i : Int) + 1) = ((i + 1 : Nat) : Int) := by push_cast; rfl
    rw [hi3]
    by_cases hlt2 : i < items2.size
    · have hi4 : items2[((i : Nat) : Int).toNat]? = some items2[i] := by simp [hlt2]
      obtain ⟨t2, h2, e2⟩ := ints_getA hM hlt2
      rw [hi4]
      rw [List.drop_eq_getElem_cons h1, List.drop_eq_getElem_cons h2] at h
      have he := EqAt.int_int (A := A.in1) (s := ⟨hp, g, d, tk, os⟩) ns[i] t1 ms[i] t2
      rw [← e1, ← e2] at he
      refine wpAny_bind (he prog w _ _ ?_)
      cases hb' : ns[i] == ms[i] with
      | true =>
        have hb2 : ns[i] = ms[i] := by simpa using hb'
        unfold ltI at h
        rw [if_pos (by first | exact hb2 | exact hb2.symm)] at h
        wp_walk
        rw [hc]
        exact ⟨plainId_quiet plain_eq_loop _, codeAny_builtin entry_eq_loop (by
          rw [Around.under_plainId plain_eq_loop _]
          exact ih (i + 1) (by omega) (by omega) (by omega) prog w A R _ ⟨hl, hb, h⟩)⟩
      | false =>
        have hb2 : ¬ ns[i] = ms[i] := by simpa using hb'
        unfold ltI at h
        rw [if_neg (by first | exact hb2 | exact fun q => hb2 q.symm)] at h
        wp_walk using wpAny_loadPart' hl, wpAny_loadPart' hb
        rw [hi3, hi4, e1, e2]
        dsimp only
        refine wpAny_bind (gt_int ?_)
        wp_walk
        first | exact h | exact ⟨_, rfl, h⟩
    · have hi4 : items2[((i : Nat) : Int).toNat]? = none := by simp; omega
      rw [hi4]
      wp_walk using wpAny_loadPart' hl, wpAny_loadPart' hb
      show R (.ok (.ret (.bool (decide (items.size > items2.size))))) _
      have he : decide (items.size > items2.size) = ltI (ms.drop i) (ns.drop i) := by
        rw [List.drop_eq_nil_of_le (show ms.length ≤ i by omega), List.drop_eq_getElem_cons h1]
        simp [ltI]; omega
      rw [he]
      exact h

theorem list_ltI (l b : Addr) (items items2 : Array Value) (n n2 : Nat) (dd dd2 : Option Addr) (sl sl2 : Array (Option Value)) (ns ms : List Int) (hI : IntsAre items.toList ns) (hM : IntsAre items2.toList ms) :
    Meets (Builtin.«list.__lt__» ⟨[.ref l, .ref b], []⟩)
      (fun A R s => s.heap.get? l = some { cls := .type "list", dict := dd, data := .seq items n, slots := sl } ∧ s.heap.get? b = some { cls := .type "list", dict := dd2, data := .seq items2 n2, slots := sl2 } ∧
        R (.ok (.ret (.bool (ltI ns ms)))) s) := by
  intro prog w A R s h
  obtain ⟨hp, g, d, tk, os⟩ := s; obtain ⟨hl, hb, h⟩ := h
  have f3 := AutoSeq1.sub_list_list
  wp_walk using wpAny_loadPart' hl, wpAny_loadPart' hb
  exact ⟨plainId_quiet plain_eq_loop _, codeAny_builtin entry_eq_loop (by
    rw [Around.under_plainId plain_eq_loop _]
    exact lt_loopI l b items items2 n n2 dd dd2 sl sl2 ns ms hI hM _ 0 rfl (Nat.zero_le _) (Nat.zero_le _) prog w A R _ ⟨hl, hb, by simpa using h⟩)⟩
theorem q_lt_ints {prog : Program} {w : World} {A : Around} {s : Shared} {Q : Value → Shared → Prop} {k : Nat} {l b : Addr} {vs us : List Value} {ns ms : List Int} (Am : Amb k A) (hl : LObj s.heap l vs) (hi : IntsAre vs ns) (hl' : LObj s.heap b us) (hi' : IntsAre us ms)
    (h : Q (.bool (ltI ns ms)) s) : Wp prog w A (compareOp .Lt (.ref l) (.ref b)) Q s := by
  obtain ⟨n, ho⟩ := hl
  obtain ⟨n2, ho2⟩ := hl'
  refine ⟨?_⟩
  show wpAny _ _ (richCompare .Lt (.ref l) (.ref b)) Q _ s
  exact richCompare_meets_room (op := .Lt) ⟨_, ho, rfl⟩ ⟨_, ho2, rfl⟩ F.slot_list_lt F.entry_list_lt (F.args_list_lt_2 _ _) (list_ltI l b vs.toArray us.toArray n n2 none none #[] #[] ns ms (by simpa using hi) (by simpa using hi'))
    ⟨ho, ho2, show Value.bool (ltI ns ms) ≠ Value.notImplemented ∧ Q (.bool (ltI ns ms)) s from ⟨(fun x => nomatch x), h⟩⟩ Am.units

theorem list_gtI (l b : Addr) (items items2 : Array Value) (n n2 : Nat) (dd dd2 : Option Addr) (sl sl2 : Array (Option Value)) (ns ms : List Int) (hI : IntsAre items.toList ns) (hM : IntsAre items2.toList ms) :
    Meets (Builtin.«list.__gt__» ⟨[.ref l, .ref b], []⟩)
      (fun A R s => s.heap.get? l = some { cls := .type "list", dict := dd, data := .seq items n, slots := sl } ∧ s.heap.get? b = some { cls := .type "list", dict := dd2, data := .seq items2 n2, slots := sl2 } ∧
        R (.ok (.ret (.bool (ltI ms ns)))) s) := by
  intro prog w A R s h
  obtain ⟨hp, g, d, tk, os⟩ := s; obtain ⟨hl, hb, h⟩ := h
  have f3 := AutoSeq1.sub_list_list
  wp_walk using wpAny_loadPart' hl, wpAny_loadPart' hb
  exact ⟨plainId_quiet plain_eq_loop _, codeAny_builtin entry_eq_loop (by
    rw [Around.under_plainId plain_eq_loop _]
    exact gt_loopI l b items items2 n n2 dd dd2 sl sl2 ns ms hI hM _ 0 rfl (Nat.zero_le _) (Nat.zero_le _) prog w A R _ ⟨hl, hb, by simpa using h⟩)⟩
theorem q_gt_ints {prog : Program} {w : World} {A : Around} {s : Shared} {Q : Value → Shared → Prop} {k : Nat} {l b : Addr} {vs us : List Value} {ns ms : List Int} (Am : Amb k A) (hl : LObj s.heap l vs) (hi : IntsAre vs ns) (hl' : LObj s.heap b us) (hi' : IntsAre us ms)
    (h : Q (.bool (ltI ms ns)) s) : Wp prog w A (compareOp .Gt (.ref l) (.ref b)) Q s := by
  obtain ⟨n, ho⟩ := hl
  obtain ⟨n2, ho2⟩ := hl'
  refine ⟨?_⟩
  show wpAny _ _ (richCompare .Gt (.ref l) (.ref b)) Q _ s
  exact richCompare_meets_room (op := .Gt) ⟨_, ho, rfl⟩ ⟨_, ho2, rfl⟩ F.slot_list_gt F.entry_list_gt (F.args_list_gt_2 _ _) (list_gtI l b vs.toArray us.toArray n n2 none none #[] #[] ns ms (by simpa using hi) (by simpa using hi'))
    ⟨ho, ho2, show Value.bool (ltI ms ns) ≠ Value.notImplemented ∧ Q (.bool (ltI ms ns)) s from ⟨(fun x => nomatch x), h⟩⟩ Am.units


end Mine
namespace Mine
set_option linter.unusedVariables false

open PySem.SeqAt
section
variable {prog : Program} {w : World} {A : Around} {s₀ s : Shared} {g : Heap} {L : Addr} {ns gs : List Str} {loc loc' : List (Option Value)} {mu mu' : List (Addr × MO)} {e : Env} {Q : Value → Shared → Prop} {rest : List Stmt} {QF : Flow → Shared → Prop}
theorem r_pow6 {t u : Tok} (S : St w s₀ g L ns loc mu s) (h : ∀ t s', St w s₀ g L ns loc mu s' → Q (.int 1000000 t) s') : Wp prog w A (binaryOp .Pow (.int 10 t) (.int 6 u)) Q s :=
  ⟨AutoIntOps.pow_4 (by decide) (by decide) (by decide) (by decide) (by decide +kernel) (h _ _ (S.toks _))⟩
theorem r_iaddl {l b : Addr} {vs us : List Value} (S : St w s₀ g L ns loc mu s) (u : Up mu l (.list vs) (.list (vs ++ us)) mu') (hb : LObj s.heap b us) (hz : vs.length + us.length ≤ sizeLine)
    (k : ∀ s', St w s₀ g L ns loc mu' s' → Q (.ref l) s') : Wp prog w A (inplaceOp .Add (.ref l) (.ref b)) Q s := by
  obtain ⟨n, ho⟩ := S.lst u.mem
  obtain ⟨n2, ho2⟩ := hb
  have ha : s.TypeIs (.ref l) "list" := ⟨_, ho, rfl⟩
  have hb : s.TypeIs (.ref b) "list" := ⟨_, ho2, rfl⟩
  refine ⟨?_⟩
  unfold inplaceOp
  refine wpAny_holding ?_
  have hsl : isSeqSlot (some (.builtin "list.__iadd__")) = true := by decide +kernel
  have hfi : fillsInplaceSlot (.type "list") "add" (Operator.Add == .Add) = pure false := by
    unfold fillsInplaceSlot
    show (typeLookup (.type "list") (dunderI "add") >>= fun fi => pure (fi.isSome && !isSeqSlot fi)) = pure false
    rw [F.slot_list_iadd.lookup]
    simp only [pure_bind, hsl]; rfl
  refine wpAny_bind (wpAny_typeOf ha (wpAny_bind (wpAny_of_eq hfi ?_)))
  show wpAny _ A (if false = true then _ else _) Q _ s
  rw [if_neg Bool.false_ne_true]
  refine wpAny_bind (wpAny_binaryOp1_none (nm := "add") ha hb noFill_list_add ?_)
  refine wpAny_bind (wpAny_of_eq (PySem.seqSlot_of F.slot_list_iadd.lookup hsl) ?_)
  refine wpAny_bind (wpAny_rule ?_)
  have hz2 : vs.toArray.size + us.toArray.size ≤ sizeLine := by simpa using hz
  refine call_meets F.slot_list_iadd ha F.entry_list_iadd (F.args_list_iadd_2 _ _) (AutoSeq1.list___iadd___list_list_0 l vs.toArray n b us.toArray n2 ?_ (by omega) (by omega)) ⟨ho, ho2, ?_⟩
  · have : Builtin.List.listTooLong (vs.toArray.size + us.toArray.size) = false := decide_eq_false (Nat.not_lt.mpr hz2)
    rw [this, Bool.and_false]; exact Bool.false_ne_true
  · refine k _ (S.up u (h' := s.heap.update l (Obj.mapSeq fun x => x ++ us.toArray)) ?_ (Heap.SameBut.update ..))
    have := get?_update_seq (c := "list") (xs := vs.toArray) (n := n) ho (fun x => x ++ us.toArray)
    rw [List.append_toArray] at this
    exact ⟨_, this⟩
theorem i_stridx {value slice : Expr} {x : Str} {tx : Tok} {k : Int} {u : Tok} {c : Nat} (S : St w s₀ g L ns loc mu s) (h0 : 0 ≤ k) (h1 : k < 2 ^ 62) (hc : x.cps[k.toNat]? = some c) (h : ∀ t s', St w s₀ g L ns loc mu s' → Q (.str ⟨#[c]⟩ t) s')
    (hs : subscripted slice false (.str x tx) (.int k u) = operate [.str x tx, .int k u] (getItem (.str x tx) (.int k u)) := by with_unfolding_all rfl) : Wp prog w A (subscriptTail value slice (.str x tx) (.int k u)) Q s := by
  refine ⟨tail_any (typeIs_str _ _ _) F.slot_str_getitem.lookup (P.getItem_str ?_ ?_ (h _ _ (S.toks _))) hs⟩
  · rw [Bool.or_eq_false_iff]; exact ⟨decide_eq_false (by omega), decide_eq_false (by omega)⟩
  · have hk : k.toNat < x.cps.size := by
      rcases Nat.lt_or_ge k.toNat x.cps.size with q | q
      · exact q
      · rw [Array.getElem?_eq_none q] at hc; cases hc
    have hl : x.length = x.cps.size := rfl
    unfold seqIndex?
    rw [hl]
    simp only [show ¬ k < 0 by omega, if_false]
    have : ¬ (k < 0 ∨ (x.cps.size : Int) ≤ k) := by omega
    simp_all
theorem m_index {l : Addr} {items : List Value} {pl : Sem Bool} {QM : Value × List Value → Shared → Prop} (hl : LObj s.heap l items) (h : QM (.builtin "list.index", [.ref l]) s) : Wp prog w A (getMethod (.ref l) (Str.ofString "index") pl) QM s := by
  obtain ⟨n, ho⟩ := hl
  refine ⟨getMethod_builtin (T := "list") ⟨_, ho, rfl⟩ F.plainAttrs_list F.slot_list_index F.type_list_index ?_ h⟩
  intro a ha
  cases ha
  exact ⟨_, ho, rfl⟩
def isStrV (x : Str) : Value → Bool
  | .str y _ => y == x
  | _ => false
theorem r_lindex {l : Addr} {vs : List Value} {ss : List Str} {x : Str} {t : Tok} (S : St w s₀ g L ns loc mu s) (hl : LObj s.heap l vs) (hi : StrsAre vs ss) (hx : x ∈ ss) (hz : ss.length ≤ 100000)
    (k : ∀ t s', St w s₀ g L ns loc mu s' → Q (.int (ss.idxOf x : Nat) t) s') : Wp prog w A (call (.builtin "list.index") [.ref l, .str x t]) Q s := by
  obtain ⟨n, ho⟩ := hl
  have hlen := StrsAre.len_eq hi
  have hj : ss.idxOf x < ss.length := List.idxOf_lt_length_iff.mpr hx
  have hat : ∀ j (h : j < vs.length) (h2 : j < ss.length), isStrV x vs[j] = (ss[j] == x) := by
    intro j h h2
    obtain ⟨tj, hj⟩ := StrsAre.at hi (List.getElem?_eq_getElem h2)
    rw [List.getElem?_eq_getElem h] at hj
    rw [Option.some.inj hj]; rfl
  refine ⟨call_meets F.slot_list_index ⟨_, ho, rfl⟩ F.entry_list_index (F.args_list_index_2 _ _)
    (list_indexAt l vs.toArray n none #[] (.str x t) (isStrV x) (ss.idxOf x) (by simpa [hlen] using hj) (by omega) ?_ ?_) ⟨ho, fun y hy => ?_, k _ _ (S.toks _)⟩⟩
  · show isStrV x vs[ss.idxOf x] = true
    rw [hat _ (by omega) hj]
    simp
  · intro j hjs hlt
    have h1 : j < vs.length := by simpa using hjs
    show isStrV x vs[j] = false
    rw [hat j h1 (by omega)]
    have hlt2 : j < ss.idxOf x := hlt
    have := List.not_of_lt_findIdx (p := (· == x)) (xs := ss) (i := j) hlt2
    simpa using this
  · have hy : y ∈ vs := by simpa using hy
    obtain ⟨z, tz, rfl⟩ := hi.all _ hy
    exact EqAt.str_str z tz x t
theorem r_typeint {k : Int} {t : Tok} (h : Q (.type "int") s) : Wp prog w A (call (.type "type") [.int k t]) Q s := ⟨call_type_of (typeIs_int s k t) (by decide) h⟩
theorem r_isnotT {T : String} (h : Q (.bool false) s) : Wp prog w A (compareOp .IsNot (.type T) (.type T)) Q s := ⟨wpAny_isNot_self (by rfl) h⟩
theorem r_sorted {l : Addr} {t : Nat → Tok} (S : St w s₀ g L ns loc mu s) (hl : s.heap.IsList l (signsOf opNames t).toArray)
    (k : ∀ a vs s', s.heap.get? a = none → St w s₀ g L ns loc ((a, .list vs) :: mu) s' → vs.map cpsOf = sortedCps.map some → Q (.ref a) s') : Wp prog w A (call (.builtin "sorted") [.ref l]) Q s := by
  obtain ⟨st, h1, h2, h3⟩ := signs_sort t prog w
  have hlen : (signsOf opNames t).length = 96 := by unfold signsOf; rw [List.length_map, List.length_zipIdx]; decide +kernel
  have hst : (arrOf st).size = 96 := by
    have := congrArg List.length h3
    rw [List.length_map, List.length_map, Array.length_toList] at this
    rw [this]; decide +kernel
  have hstrs : ∀ l : List (String × Nat), ∃ ss, StrsAre (l.map fun p => Value.str (Str.ofString p.1) (t p.2)) ss := by
    intro l
    induction l with
    | nil => exact ⟨[], .nil⟩
    | cons p r ih => obtain ⟨ss, h⟩ := ih; exact ⟨_, .cons _ _ h⟩
  obtain ⟨ss, hss⟩ := hstrs ((opNames.flatMap fun n => [n ++ "a", n ++ "B"]).zipIdx)
  have hss : StrsAre (signsOf opNames t) ss := hss
  have hk : keyKind' (signsOf opNames t).toArray = pure oneType' := by
    match hq : signsOf opNames t with
    | [] => rw [hq] at hlen; cases hlen
    | [_] => rw [hq] at hlen; cases hlen
    | v₁ :: v₂ :: vs => rw [hq] at hss; exact keyKind_strs hss
  refine ⟨sorted_run hl (by omega) (by omega) (by omega) hk h2 h1 ?_⟩
  obtain ⟨e, he⟩ := sortedAll_at s.heap (signsOf opNames t) ((arrOf st).map (·.2))
  have S2 : St w s₀ g L ns loc mu { s with heap := sortedAll s.heap (signsOf opNames t) ((arrOf st).map (·.2)) } := S.growH (t := s.toks) fun b o q => sortedAll_old q
  have hno : s.heap.get? (s.heap.objs.size + 1) = none := by
    cases q : s.heap.get? (s.heap.objs.size + 1) with
    | none => rfl
    | some o => exact absurd (Heap.lt_size q) (Nat.not_lt.mpr (Nat.le_succ _))
  have hL : s.heap.objs.size + 1 ≠ L := fun q => absurd S.nsp.lt (by rw [← q]; exact Nat.not_lt.mpr (Nat.le_succ _))
  refine k _ ((arrOf st).toList.map (·.2)) _ hno (S2.consL S hno hL (m := .list _) ⟨e, ?_⟩) ?_
  · rw [he, show Array.map (fun x => x.2) (arrOf st) = (List.map (fun x => x.2) (arrOf st).toList).toArray by rw [← Array.toList_map]]
  · rw [List.map_map]; exact h3
end

end Mine
namespace Mine
set_option linter.unusedVariables false

section
variable {prog : Program} {w : World} {A : Around} {s : Shared}
theorem enterKC {n : Nat} {fa : Addr} {oc : Value} {od : Option Addr} {sl : Array (Option Value)} {fd : FuncData} {body : List Stmt} {args : List Value} {R : Result → Shared → Prop} (ps rest gs cn : List Str)
    (Am : Amb n A) (G : Gd w s.heap) (ho : (hd.heap_1 w.params).lookup fa = some ⟨oc, od, .func fd, sl⟩) (hb : fd.body = .stmts body) (hbind : bindArgs fd ⟨args, []⟩ = pure (ps.zip args)) (hlen : ps.length = args.length)
    (hcd : codeIn (hd.heap_1 w.params) fd.code fd.qualname = true) (hk : fd.scope.kind = .function) (hg : fd.globals = mainGlobals) (hbi : fd.builtins = builtinsNs) (hclo : fd.closure = [])
    (hcn : cellNames fd.scope.names = cn) (hc1 : decide cn.Nodup = true) (hc2 : (cn.all fun x => fd.scope.names.lookup x == some .cell && !(x == ("__debug__" : Str))) = true) (h1 : ((ps ++ rest).all fun x => fd.scope.names.lookup x == some .local && !(x == ("__debug__" : Str))) = true)
    (h2 : (gs.all fun x => fd.scope.names.lookup x == some .globalImplicit && !(x == ("__debug__" : Str))) = true) (nd : decide (ps ++ rest).Nodup = true)
    (hco : fd.scope.isCoroutine = false) (hgen : fd.scope.isGenerator = false)
    (h : ∀ e L s', Fn e L (ps ++ rest) gs → (∀ x c, (x, c) ∈ cn.zipIdx (L + 1) → CellOf e x c) → (∀ x c, (x, c) ∈ cn.zipIdx (L + 1) → e.cells.lookup x = some c) → e.scope = fd.scope → St w s s.heap L (ps ++ rest) (args.map some ++ rest.map fun _ => none) (cellMu L cn) s' →
      Wp prog w (A.deeper e) (execs body e) (fun f s'' => R (.ok (.ret (match f with | .ret v => v | _ => .none))) s'') s') :
    codeAny (model prog w) A (.call (.ref fa) ⟨args, []⟩) R s := by
  obtain ⟨mg, mb, hmg, hmb, hlim, hbt⟩ := G.T
  have nd' := of_decide_eq_true nd
  have hcnd := of_decide_eq_true hc1
  have hz := zip_fst ps args hlen
  have ho' := G.X _ _ ho
  have hr := Am.room
  have hcd' := codeRec_of G.X hcd
  have kl : ∀ x ∈ ps ++ rest, fd.scope.names.lookup x = some .local := fun x hx => by have := List.all_eq_true.mp h1 x hx; simp only [Bool.and_eq_true, beq_iff_eq] at this; exact this.1
  have hx1 : ∀ x ∈ ps.zip args, fd.scope.names.lookup x.1 = some .local := fun x hx => kl x.1 (List.mem_append_left _ (by rw [← hz]; exact List.mem_map_of_mem hx))
  refine codeAny_call_cells (fd := fd) (body := body) (binds := ps.zip args) hr ho' rfl hlim hcd' hb hbind hclo (fun x hx => .inl (hx1 x hx)) (fun s₁ X => ?_) hco hgen hk
  have hcells : (callEnvC fd s.heap.objs.size fa).cells = (cn.zipIdx (s.heap.objs.size + 1)).reverse := by
    show cellsFrom (s.heap.objs.size + 1) fd.scope.names [] = _
    rw [cellsFrom_eq, hcn, List.append_nil]
  have hkl : ∀ p ∈ ps.zip args, (callEnvC fd s.heap.objs.size fa).kindOf p.1 = some .local := fun p hp => hx1 p hp
  rw [bindL_eq _ _ hkl, bindC_eq _ _ hkl] at X
  have hlook : ∀ x c, (x, c) ∈ cn.zipIdx (s.heap.objs.size + 1) → (callEnvC fd s.heap.objs.size fa).cells.lookup x = some c := by
    intro x c hm
    rw [hcells]
    exact lookup_of_mem (by rw [List.map_reverse, zipIdx_fst]; exact (List.reverse_perm cn).nodup_iff.mpr hcnd) (List.mem_reverse.mpr hm)
  obtain ⟨h₁, tk, hs₁⟩ := X.toInCall.same
  have hns := X.toInCall.ns
  have hl := look_binds (ps.zip args) rest (by rw [hz]; exact (List.nodup_append.mp nd').1)
  rw [hz, zip_snd ps args hlen] at hl
  have Cf : Fn (callEnvC fd s.heap.objs.size fa) s.heap.objs.size (ps ++ rest) gs := by
    refine ⟨hk, rfl, hg, hbi, kl, fun x hx => ?_, fun x hx => ?_⟩
    · have := List.all_eq_true.mp h2 x hx; simp only [Bool.and_eq_true, beq_iff_eq] at this; exact this.1
    · rcases List.mem_append.mp hx with hx | hx
      · have := List.all_eq_true.mp h1 x hx; simp only [Bool.and_eq_true, Bool.not_eq_true'] at this; exact this.2
      · have := List.all_eq_true.mp h2 x hx; simp only [Bool.and_eq_true, Bool.not_eq_true'] at this; exact this.2
  have hxm : ∀ x c, (x, c) ∈ cn.zipIdx (s.heap.objs.size + 1) → x ∈ cn := fun x c hm => by
    have := List.mem_map_of_mem (f := Prod.fst) hm
    rwa [zipIdx_fst] at this
  have hgt : ∀ x c, (x, c) ∈ cn.zipIdx (s.heap.objs.size + 1) → s.heap.objs.size < c := fun x c hm => by
    have := List.mem_zipIdx hm
    omega
  have cellOf : ∀ x c, (x, c) ∈ cn.zipIdx (s.heap.objs.size + 1) → CellOf (callEnvC fd s.heap.objs.size fa) x c := fun x c hm => by
    have := List.all_eq_true.mp hc2 x (hxm x c hm)
    simp only [Bool.and_eq_true, beq_iff_eq, Bool.not_eq_true'] at this
    exact ⟨hk, this.1, hlook x c hm, this.2⟩
  have none_of : ∀ a, s.heap.objs.size ≤ a → s.heap.get? a = none := fun a ha => by
    cases q : s.heap.get? a with
    | none => rfl
    | some o => exact absurd (Heap.lt_size q) (Nat.not_lt.mpr ha)
  have S : St w s s.heap s.heap.objs.size (ps ++ rest) (args.map some ++ rest.map fun _ => none) (cellMu s.heap.objs.size cn) s₁ := by
    refine ⟨by rw [hs₁], by rw [hs₁], by rw [hs₁], ?_, nd', X.toInCall.keep, size_none _, fun p hp => ?_, fun p hp => ?_, ?_, G⟩
    · rw [hl]
      have e : (fun y => ((ps.zip args).reverse.lookup y).or none) = fun x => (ps.zip args).reverse.lookup x := funext fun y => by simp
      rw [← e]; exact hns
    · obtain ⟨⟨x, c⟩, hm, rfl⟩ := List.mem_map.mp hp
      exact X.cell x c (hlook x c hm)
    · obtain ⟨⟨x, c⟩, hm, rfl⟩ := List.mem_map.mp hp
      have := hgt x c hm
      exact ⟨none_of _ (Nat.le_of_lt this), Nat.ne_of_gt this⟩
    · unfold cellMu
      rw [List.map_map]
      have e : (Prod.fst ∘ fun p : Str × Nat => (p.2, MO.cell none)) = Prod.snd := rfl
      rw [e]
      have : (cn.zipIdx (s.heap.objs.size + 1)).map Prod.snd = List.range' (s.heap.objs.size + 1) cn.length := by simp
      rw [this]
      exact List.nodup_range'
  exact wpAny_mono (h _ _ _ Cf cellOf hlook rfl S).run (fun f s' q => q) fun _ _ x => x.elim
end

end Mine
namespace Mine
set_option maxRecDepth 10000
set_option linter.unusedVariables false
local macro_rules | `(tactic| walk_at "atv") => `(tactic| (repeat (first | exact AtV.head | apply AtV.tail)); done)
local macro_rules | `(tactic| walk_at "put") => `(tactic| (repeat (first | exact Put.head | apply Put.tail)); done)
local macro_rules | `(tactic| walk_at "mem") => `(tactic| (repeat (first | exact List.mem_cons_self | apply List.mem_cons_of_mem)); done)
local macro_rules | `(tactic| walk_at "up") => `(tactic| (repeat (first | exact Up.head | apply Up.tail)); done)
local macro_rules | `(tactic| walk_at "lst") => `(tactic| first | with_reducible exact St.lst (by assumption) (by walk_at "mem") | with_reducible exact St.lfz (by assumption) (by assumption))
local macro_rules | `(tactic| walk_at "li") => `(tactic| first | with_reducible exact St.li1 (by assumption) (by walk_at "mem") | with_reducible exact St.li2 (by assumption) (by walk_at "mem") | with_reducible exact St.li3 (by assumption) (by assumption) | with_reducible exact St.li4 (by assumption) (by assumption))
local macro_rules | `(tactic| walk_at "lig") => `(tactic| first | with_reducible assumption | with_reducible exact LObj.isList (by assumption))
local macro_rules | `(tactic| walk_at "tup") => `(tactic| first | with_reducible exact St.tup (by assumption) (by walk_at "mem") | with_reducible exact St.tfz (by assumption) (by assumption))
local macro_rules | `(tactic| walk_at "blt") => `(tactic| first | exact blt_len | exact blt_max | exact blt_min | exact blt_range | exact blt_tuple | exact blt_sorted | exact blt_type | exact blt_int)
local macro_rules | `(tactic| walk_at "glb") => `(tactic| first | exact glb_strcoll | exact glb_ws | exact glb_tok | exact glb_names | exact glb_read | exact glb_lead | exact glb_told | exact glb_columns | exact glb_ways)
local macro_rules | `(tactic| walk_at "kp") => `(tactic| first | exact kp28 | exact kp52 | exact kp59 | exact kp66 | exact kp80 | exact kp90 | exact kp104 | exact kp111 | exact kp116 | exact kp123 | exact kp130 | exact kp135)
local macro_rules | `(tactic| walk_at "sz") => `(tactic| first | exact Nat.le_of_ble_eq_true rfl | (rw [sizeLine_eq]; omega) | (simp only [List.length_append, List.length_cons, List.length_nil, sizeLine_eq]; omega))
local macro_rules | `(tactic| walk_at "rm") => `(tactic| (repeat (first | exact Rm.head | apply Rm.tail)); done)
local macro_rules | `(tactic| walk_at "pick") => `(tactic| (repeat (first | exact Pick.nil | refine Pick.cons (by walk_at "rm") ?_)); done)
local macro_rules | `(tactic| walk_at "tk") => `(tactic| first | exact tk_raw | exact tk_n | exact tk_nt | exact tk_norm | exact tk_simple)
def Ws.longest (ws : Ws) : Int := max ((ws.cnt.length : Int) - 1) ws.b
section
variable {prog : Program} {w : World} {A : Around} {s : Shared} {n : Nat} {Q : Value → Shared → Prop} {P P' : Addr → Prop}
theorem longest_call {a : Addr} {ws : Ws} (Am : Amb (n + 1) A) (G : Gd w s.heap) (W : WsAt P s.heap a ws) (hz : ws.cnt.length < 2 ^ 40)
    (h : ∀ t s', After s s' → Q (.int ws.longest t) s') : Wp prog w A (call (.ref 52) [.ref a]) Q s := by
  refine enter [Str.ofString "self"] [Str.ofString "count", Str.ofString "trailing"] [Str.ofString "max", Str.ofString "len"] Am G rfl rfl rfl rfl (by kernel_rfl) rfl rfl rfl (by decide +kernel) (by decide +kernel) (by decide +kernel) (by decide +kernel) rfl rfl ?_
  intro e L s' C S
  dsimp only [List.map, List.cons_append, List.nil_append] at C S
  have Am' := Am.deeper e
  refine x_unpack2 Am' ?_
  (with_reducible refine r_attr ?_)
  (with_reducible refine r_name (by assumption) (by assumption) (by walk_at "atv") ?_)
  refine g_norm S W ?_
  intro t1 t2 vs k3 s1 T1 T2 hI hlen _ _ S1
  refine ⟨t1, _, _, rfl, T1.mono S1.keep, ?_⟩
  intro s2 a2
  have S2 := a2.st S1
  (with_reducible refine r_store (by assumption) (by assumption) (by walk_at "put") ?_; intro _ _)
  (with_reducible refine r_store (by assumption) (by assumption) (by walk_at "put") ?_; intro _ _)
  (with_reducible refine x_ret ?_)
  (with_reducible refine r_call ?_)
  (with_reducible refine r_blt (by assumption) (by assumption) (by walk_at "mem") (by walk_at "blt") ?_)
  (with_reducible refine c_bi ?_)
  (with_reducible refine a_cons ?_)
  (with_reducible refine r_bin ?_)
  (with_reducible refine r_call ?_)
  (with_reducible refine r_blt (by assumption) (by assumption) (by walk_at "mem") (by walk_at "blt") ?_)
  (with_reducible refine c_bi ?_)
  (with_reducible refine a_cons ?_)
  (with_reducible refine r_name (by assumption) (by assumption) (by walk_at "atv") ?_)
  (with_reducible refine a_nil ?_)
  (with_reducible refine r_lent (by assumption) (by walk_at "tup") (by omega) ?_; intro _ _ _)
  (with_reducible refine r_int (by assumption) ?_; intro _ _ _)
  (with_reducible refine r_sub (by assumption) ?_; intro _ _ _)
  (with_reducible refine a_cons ?_)
  (with_reducible refine r_name (by assumption) (by assumption) (by walk_at "atv") ?_)
  (with_reducible refine a_nil ?_)
  (with_reducible refine r_max (by assumption) (by assumption) ?_; intro _ _ _)
  have k := h (by assumption) _ (St.after (by assumption) Sub.rfl')
  rw [Ws.longest, ← hlen] at k
  exact k

def Ws.ilTo (ws : Ws) (ts : Int) : Nat → Int
  | 0 => 0
  | k + 1 => ws.ilTo ts k + (ts + k) / ts * ws.cnt.getD (ts + k).toNat 0
def Ws.indent (ws : Ws) (ts : Int) : Int := ws.b + ts * (ws.ilTo ts ((ws.cnt.length : Int) - ts).toNat + ws.nt)
theorem indent_call {a : Addr} {ws : Ws} {ts : Int} {tts : Tok} (Am : Amb (n + 1) A) (G : Gd w s.heap) (W : WsAt P s.heap a ws) (hz : ws.cnt.length < 2 ^ 40) (hts : 0 < ts) (hts' : ts < 1000000)
    (h : ∀ t s', After s s' → Q (.int (ws.indent ts) t) s') : Wp prog w A (call (.ref 59) [.ref a, .int ts tts]) Q s := by
  refine enter [Str.ofString "self", Str.ofString "tabsize"] [Str.ofString "count", Str.ofString "trailing", Str.ofString "il", Str.ofString "i"] [Str.ofString "range", Str.ofString "len"] Am G rfl rfl rfl rfl (by kernel_rfl) rfl rfl rfl (by decide +kernel) (by decide +kernel) (by decide +kernel) (by decide +kernel) rfl rfl ?_
  intro e L s' C S
  dsimp only [List.map, List.cons_append, List.nil_append] at C S
  have Am' := Am.deeper e
  refine x_unpack2 Am' ?_
  (with_reducible refine r_attr ?_)
  (with_reducible refine r_name (by assumption) (by assumption) (by walk_at "atv") ?_)
  refine g_norm S W ?_
  intro t1 t2 vs k3 s1 T1 T2 hI hlen _ _ S1
  refine ⟨t1, _, _, rfl, T1.mono S1.keep, ?_⟩
  intro s2 a2
  have S2 := a2.st S1
  (with_reducible refine r_store (by assumption) (by assumption) (by walk_at "put") ?_; intro _ _)
  (with_reducible refine r_store (by assumption) (by assumption) (by walk_at "put") ?_; intro _ _)
  (with_reducible refine x_asg ?_)
  (with_reducible refine r_int (by assumption) ?_; intro _ _ _)
  (with_reducible refine r_store (by assumption) (by assumption) (by walk_at "put") ?_; intro _ _)
  (with_reducible refine x_for ?_)
  (with_reducible refine r_call ?_)
  (with_reducible refine r_blt (by assumption) (by assumption) (by walk_at "mem") (by walk_at "blt") ?_)
  (with_reducible refine c_ty ?_)
  (with_reducible refine a_cons ?_)
  (with_reducible refine r_name (by assumption) (by assumption) (by walk_at "atv") ?_)
  (with_reducible refine a_cons ?_)
  (with_reducible refine r_call ?_)
  (with_reducible refine r_blt (by assumption) (by assumption) (by walk_at "mem") (by walk_at "blt") ?_)
  (with_reducible refine c_bi ?_)
  (with_reducible refine a_cons ?_)
  (with_reducible refine r_name (by assumption) (by assumption) (by walk_at "atv") ?_)
  (with_reducible refine a_nil ?_)
  (with_reducible refine r_lent (by assumption) (by walk_at "tup") (by omega) ?_; intro _ _ _)
  (with_reducible refine a_nil ?_)
  (with_reducible refine r_range2 (by assumption) ?_; intro _ _ _ _)
  (with_reducible refine p_range (by assumption) (by assumption) (by assumption) (by first | decide | omega) (by first | decide | omega) (by first | decide | omega) (by first | decide | omega) ?_; intro _ _ _ _ _)
  rename_i I oI s3 hIt S3
  refine loop (σ := Int × Tok) (σ₀ := (0, _)) (o₀ := none) (fun σ o => [some (.ref a), some (.int ts tts), some (.ref t2), some (.int ws.b k3), some (.int σ.1 σ.2), o]) (fun _ => []) (fun k _ σ => σ.1 = ws.ilTo ts k)
    C hIt S3 (fun σ o v => by walk_at "put") rfl ?_ ?_
  · rintro i v g' ⟨il, tk⟩ oI' s4 hi ⟨t, rfl⟩ hg hJ S4
    dsimp only at hJ S4
    have hi0 : (ts + (i : Int)).toNat < ws.cnt.length := by omega
    obtain ⟨tc, hv⟩ := IntsAre.get' hI (i := (ts + (i : Int)).toNat) (List.getElem?_eq_getElem hi0)
    have T2' := T2.mono hg
    have d0 : 0 ≤ (ts + (i : Int)) / ts := Int.ediv_nonneg (by omega) (by omega)
    have d1 : (ts + (i : Int)) / ts ≤ ts + i := Int.ediv_le_self _ (by omega)
    (with_reducible refine x_asg ?_)
    (with_reducible refine r_bin ?_)
    (with_reducible refine r_name (by assumption) (by assumption) (by walk_at "atv") ?_)
    (with_reducible refine r_bin ?_)
    (with_reducible refine r_bin ?_)
    (with_reducible refine r_name (by assumption) (by assumption) (by walk_at "atv") ?_)
    (with_reducible refine r_name (by assumption) (by assumption) (by walk_at "atv") ?_)
    (with_reducible refine r_div (by assumption) (by first | decide | omega) (by first | decide | omega) ?_; intro _ _ _)
    (with_reducible refine r_sub' ?_)
    (with_reducible refine r_name (by assumption) (by assumption) (by walk_at "atv") ?_)
    (with_reducible refine r_name (by assumption) (by assumption) (by walk_at "atv") ?_)
    refine i_tup (by walk_at "tup") (by first | exact z_nn _ | exact c_nn _ | decide | omega) (by first | decide | omega) hv ?_
    (with_reducible refine r_mul (by assumption) (by first | decide | omega) (by first | decide | omega) ?_; intro _ _ _)
    (with_reducible refine r_add (by assumption) ?_; intro _ _ _)
    (with_reducible refine r_store (by assumption) (by assumption) (by walk_at "put") ?_; intro _ _)
    (with_reducible refine x_nil ?_)
    refine turn_next ⟨g', (_, _), _, Sub.rfl', ?_, by assumption⟩
    show _ = ws.ilTo ts (i + 1)
    rw [Ws.ilTo, hJ, List.getD_eq_getElem?_getD, List.getElem?_eq_getElem hi0]
    rfl
  · rintro g' ⟨il, tk⟩ o s4 hg hJ S4
    dsimp only at hJ S4
    have W' := W.mono hg
    refine then_next ?_
    (with_reducible refine x_ret ?_)
    (with_reducible refine r_bin ?_)
    (with_reducible refine r_name (by assumption) (by assumption) (by walk_at "atv") ?_)
    (with_reducible refine r_bin ?_)
    (with_reducible refine r_name (by assumption) (by assumption) (by walk_at "atv") ?_)
    (with_reducible refine r_bin ?_)
    (with_reducible refine r_name (by assumption) (by assumption) (by walk_at "atv") ?_)
    (with_reducible refine r_attr ?_)
    (with_reducible refine r_name (by assumption) (by assumption) (by walk_at "atv") ?_)
    (with_reducible refine g_nt (by assumption) (by assumption) ?_; intro _ _ _)
    (with_reducible refine r_add (by assumption) ?_; intro _ _ _)
    (with_reducible refine r_mul (by assumption) (by first | decide | omega) (by first | decide | omega) ?_; intro _ _ _)
    (with_reducible refine r_add (by assumption) ?_; intro _ _ _)
    rw [hJ, hlen]
    exact h _ _ (St.after (by assumption) hg)

theorem equal_call {a b : Addr} {x y : Ws} (Am : Amb (n + 1) A) (G : Gd w s.heap) (W : WsAt P s.heap a x) (W' : WsAt P' s.heap b y)
    (h : ∀ s', After s s' → Q (.bool (decide (x.cnt = y.cnt) && decide (x.b = y.b))) s') : Wp prog w A (call (.ref 66) [.ref a, .ref b]) Q s := by
  refine enter [Str.ofString "self", Str.ofString "other"] [] [] Am G rfl rfl rfl rfl (by kernel_rfl) rfl rfl rfl (by decide +kernel) (by decide +kernel) (by decide +kernel) (by decide +kernel) rfl rfl ?_
  intro e L s' C S
  dsimp only [List.map, List.cons_append, List.nil_append] at C S
  have Am' := Am.deeper e
  (with_reducible refine x_ret ?_)
  (with_reducible refine r_cmp ?_)
  (with_reducible refine r_attr ?_)
  (with_reducible refine r_name (by assumption) (by assumption) (by walk_at "atv") ?_)
  refine g_norm S W ?_
  intro t1 t2 vs k3 s1 T1 T2 hI hlen _ _ S1
  (with_reducible refine r_attr ?_)
  (with_reducible refine r_name (by assumption) (by assumption) (by walk_at "atv") ?_)
  refine g_norm S1 W' ?_
  intro t1' t2' vs' k3' s2 T1' T2' hI' hlen' _ _ S2
  refine q_eq_norm Am' (S2.tfz T1) (S2.tfz T2) hI (S2.tfz T1') (S2.tfz T2') hI' ?_
  exact h _ (S2.after Sub.rfl')

def Ws.less (x y : Ws) : Bool :=
  if y.n ≤ x.n then false
  else if x.cnt.length ≤ 1 ∧ y.cnt.length ≤ 1 then decide (x.nt ≤ y.nt)
  else (List.range (max x.longest y.longest).toNat).all fun k => decide (x.indent (2 + (k : Int)) < y.indent (2 + (k : Int)))
theorem less_call {a b : Addr} {x y : Ws} (Am : Amb (n + 2) A) (G : Gd w s.heap) (W : WsAt P s.heap a x) (W' : WsAt P' s.heap b y) (hx : x.cnt.length < 100000) (hy : y.cnt.length < 100000) (hxb : x.b < 100000) (hyb : y.b < 100000)
    (h : ∀ s', After s s' → Q (.bool (Ws.less x y)) s') : Wp prog w A (call (.ref 80) [.ref a, .ref b]) Q s := by
  refine enter [Str.ofString "self", Str.ofString "other"] [Str.ofString "n", Str.ofString "ts"] [Str.ofString "max", Str.ofString "range"] Am G rfl rfl rfl rfl (by kernel_rfl) rfl rfl rfl (by decide +kernel) (by decide +kernel) (by decide +kernel) (by decide +kernel) rfl rfl ?_
  intro e L s' C S
  dsimp only [List.map, List.cons_append, List.nil_append] at C S
  have Am' := Am.deeper e
  (with_reducible refine x_if ?_)
  (with_reducible refine t_cmp ?_)
  (with_reducible refine r_attr ?_)
  (with_reducible refine r_name (by assumption) (by assumption) (by walk_at "atv") ?_)
  (with_reducible refine g_n (by assumption) (by assumption) ?_; intro _ _ _)
  (with_reducible refine r_attr ?_)
  (with_reducible refine r_name (by assumption) (by assumption) (by walk_at "atv") ?_)
  (with_reducible refine g_n (by assumption) (by assumption) ?_; intro _ _ _)
  (with_reducible refine r_ge ?_)
  refine ⟨_, rfl, fun hb => ?_, fun hb => ?_⟩
  · have hb := of_decide_eq_true hb
    (with_reducible refine x_ret ?_)
    (with_reducible refine r_bool ?_)
    (with_reducible refine then_ret ?_)
    have hl : x.less y = false := by rw [Ws.less, if_pos hb]
    exact hl ▸ h _ (St.after (by assumption) Sub.rfl')
  have hb := of_decide_eq_false hb
  (with_reducible refine x_nil ?_)
  (with_reducible refine then_next ?_)
  (with_reducible refine x_if ?_)
  refine Wp.mono (Q := fun k s1 => k = decide (x.cnt.length ≤ 1 ∧ y.cnt.length ≤ 1) ∧ St w s s.heap L [Str.ofString "self", Str.ofString "other", Str.ofString "n", Str.ofString "ts"] [some (.ref a), some (.ref b), none, none] [] s1) ?_ ?_
  · refine t_and2 ?_
    (with_reducible refine t_val ?_)
    (with_reducible refine r_attr ?_)
    (with_reducible refine r_name (by assumption) (by assumption) (by walk_at "atv") ?_)
    (with_reducible refine g_simple (by assumption) (by assumption) ?_; intro _ _)
    refine ⟨_, rfl, fun h1 => ?_, fun h1 => ?_⟩
    · have h1 := of_decide_eq_true h1
      (with_reducible refine t_val ?_)
      (with_reducible refine r_attr ?_)
      (with_reducible refine r_name (by assumption) (by assumption) (by walk_at "atv") ?_)
      (with_reducible refine g_simple (by assumption) (by assumption) ?_; intro _ _)
      refine ⟨_, rfl, ?_, by assumption⟩
      simp [h1]
    · have h1 := of_decide_eq_false h1
      refine ⟨?_, by assumption⟩
      simp [h1]
  rintro k s1 ⟨rfl, S1⟩
  refine ⟨fun hs => ?_, fun hs => ?_⟩
  · have hs := of_decide_eq_true hs
    (with_reducible refine x_ret ?_)
    (with_reducible refine r_cmp ?_)
    (with_reducible refine r_attr ?_)
    (with_reducible refine r_name (by assumption) (by assumption) (by walk_at "atv") ?_)
    (with_reducible refine g_nt (by assumption) (by assumption) ?_; intro _ _ _)
    (with_reducible refine r_attr ?_)
    (with_reducible refine r_name (by assumption) (by assumption) (by walk_at "atv") ?_)
    (with_reducible refine g_nt (by assumption) (by assumption) ?_; intro _ _ _)
    (with_reducible refine r_le ?_)
    (with_reducible refine then_ret ?_)
    have hl : x.less y = decide (x.nt ≤ y.nt) := by rw [Ws.less, if_neg hb, if_pos hs]
    exact hl ▸ h _ (St.after (by assumption) Sub.rfl')
  have hs := of_decide_eq_false hs
  (with_reducible refine x_nil ?_)
  (with_reducible refine then_next ?_)
  (with_reducible refine x_asg ?_)
  (with_reducible refine r_bin ?_)
  (with_reducible refine r_call ?_)
  (with_reducible refine r_blt (by assumption) (by assumption) (by walk_at "mem") (by walk_at "blt") ?_)
  (with_reducible refine c_bi ?_)
  (with_reducible refine a_cons ?_)
  (with_reducible refine r_meth ?_)
  (with_reducible refine r_name (by assumption) (by assumption) (by walk_at "atv") ?_)
  (intro (_ : Sem Bool))
  (with_reducible refine m_long (by assumption) (by assumption) ?_)
  (with_reducible refine c_fm0 (by walk_at "kp") (St.G (by assumption)) ?_)
  refine longest_call Am' (St.G (by assumption)) (W.mono (St.keep (by assumption))) (by omega) ?_
  intro tk2 s2 a2
  have S2 := After.st a2 (by assumption)
  (with_reducible refine a_cons ?_)
  (with_reducible refine r_meth ?_)
  (with_reducible refine r_name (by assumption) (by assumption) (by walk_at "atv") ?_)
  (intro (_ : Sem Bool))
  (with_reducible refine m_long (by assumption) (by assumption) ?_)
  (with_reducible refine c_fm0 (by walk_at "kp") (St.G (by assumption)) ?_)
  refine longest_call Am' (St.G (by assumption)) (W'.mono (St.keep (by assumption))) (by omega) ?_
  intro tk3 s3 a3
  have S3 := After.st a3 (by assumption)
  have hlx : x.longest = max ((x.cnt.length : Int) - 1) x.b := rfl
  have hly : y.longest = max ((y.cnt.length : Int) - 1) y.b := rfl
  (with_reducible refine a_nil ?_)
  (with_reducible refine r_max (by assumption) (by assumption) ?_; intro _ _ _)
  (with_reducible refine r_int (by assumption) ?_; intro _ _ _)
  (with_reducible refine r_add (by assumption) ?_; intro _ _ _)
  (with_reducible refine r_store (by assumption) (by assumption) (by walk_at "put") ?_; intro _ _)
  (with_reducible refine x_for ?_)
  (with_reducible refine r_call ?_)
  (with_reducible refine r_blt (by assumption) (by assumption) (by walk_at "mem") (by walk_at "blt") ?_)
  (with_reducible refine c_ty ?_)
  (with_reducible refine a_cons ?_)
  (with_reducible refine r_int (by assumption) ?_; intro _ _ _)
  (with_reducible refine a_cons ?_)
  (with_reducible refine r_bin ?_)
  (with_reducible refine r_name (by assumption) (by assumption) (by walk_at "atv") ?_)
  (with_reducible refine r_int (by assumption) ?_; intro _ _ _)
  (with_reducible refine r_add (by assumption) ?_; intro _ _ _)
  (with_reducible refine a_nil ?_)
  (with_reducible refine r_range2 (by assumption) ?_; intro _ _ _ _)
  (with_reducible refine p_range (by assumption) (by assumption) (by assumption) (by first | decide | omega) (by first | decide | omega) (by first | decide | omega) (by first | decide | omega) ?_; intro _ _ _ _ _)
  rename_i I oI s4 hIt S4
  refine loop (σ := Unit) (σ₀ := ()) (o₀ := none) (fun _ o => [some (.ref a), some (.ref b), some (.int (max x.longest y.longest + 1) _), o]) (fun _ => []) (fun k _ _ => ∀ j, j < k → x.indent (2 + (j : Int)) < y.indent (2 + (j : Int)))
    C hIt S4 (fun σ o v => by walk_at "put") (fun j hj => absurd hj (Nat.not_lt_zero _)) ?_ ?_
  · rintro i v g' _ oI' s5 hi ⟨t, rfl⟩ hg hJ S5
    have Wg := W.mono hg
    have Wg' := W'.mono hg
    (with_reducible refine x_if ?_)
    (with_reducible refine t_cmp ?_)
    (with_reducible refine r_meth ?_)
    (with_reducible refine r_name (by assumption) (by assumption) (by walk_at "atv") ?_)
    (intro (_ : Sem Bool))
    (with_reducible refine m_indent (by assumption) (by assumption) ?_)
    (with_reducible refine c_fm (by walk_at "kp") ?_)
    (with_reducible refine a_cons ?_)
    (with_reducible refine r_name (by assumption) (by assumption) (by walk_at "atv") ?_)
    (with_reducible refine a_nil ?_)
    ((with_reducible show Gd _ _ ∧ _); refine And.intro (St.G (by assumption)) ?_)
    refine indent_call Am' (St.G (by assumption)) (Wg.mono (St.keep (by assumption))) (by omega) (by omega) (by omega) ?_
    intro tk6 s6 a6
    have S6 := After.st a6 (by assumption)
    (with_reducible refine r_meth ?_)
    (with_reducible refine r_name (by assumption) (by assumption) (by walk_at "atv") ?_)
    (intro (_ : Sem Bool))
    (with_reducible refine m_indent (by assumption) (by assumption) ?_)
    (with_reducible refine c_fm (by walk_at "kp") ?_)
    (with_reducible refine a_cons ?_)
    (with_reducible refine r_name (by assumption) (by assumption) (by walk_at "atv") ?_)
    (with_reducible refine a_nil ?_)
    ((with_reducible show Gd _ _ ∧ _); refine And.intro (St.G (by assumption)) ?_)
    refine indent_call Am' (St.G (by assumption)) (Wg'.mono (St.keep (by assumption))) (by omega) (by omega) (by omega) ?_
    intro tk7 s7 a7
    have S7 := After.st a7 (by assumption)
    (with_reducible refine r_ge ?_)
    refine ⟨_, rfl, fun hc => ?_, fun hc => ?_⟩
    · have hc := of_decide_eq_true hc
      (with_reducible refine x_ret ?_)
      (with_reducible refine r_bool ?_)
      (with_reducible refine then_ret ?_)
      (with_reducible refine turn_ret ?_)
      (with_reducible refine then_ret ?_)
      have hl : x.less y = false := by
        rw [Ws.less, if_neg hb, if_neg hs]
        refine List.all_eq_false.mpr ⟨i, List.mem_range.mpr (by omega), ?_⟩
        simp only [decide_eq_true_eq]; omega
      exact hl ▸ h _ (St.after (by assumption) hg)
    · have hc := of_decide_eq_false hc
      (with_reducible refine x_nil ?_)
      (with_reducible refine then_next ?_)
      (with_reducible refine x_nil ?_)
      refine turn_next ⟨g', (), _, Sub.rfl', fun j hj => ?_, by assumption⟩
      by_cases hji : j = i
      · subst hji; omega
      · exact hJ j (by omega)
  · rintro g' _ o s5 hg hJ S5
    refine then_next ?_
    (with_reducible refine x_ret ?_)
    (with_reducible refine r_bool ?_)
    have hl : x.less y = true := by
      rw [Ws.less, if_neg hb, if_neg hs]
      refine List.all_eq_true.mpr fun j hj => ?_
      have := hJ j (by have := List.mem_range.mp hj; omega)
      simpa using this
    exact hl ▸ h _ (St.after (by assumption) hg)
end


/-- the column behind the signs cs at the tab size ts -/
def colAt (ts : Int) (cs : List Nat) : Int := cs.foldl (fun c ch => if ch = 32 then c + 1 else c + (ts - c % ts)) 0
theorem colAt_snoc (ts : Int) (cs : List Nat) (ch : Nat) : colAt ts (cs ++ [ch]) = if ch = 32 then colAt ts cs + 1 else colAt ts cs + (ts - colAt ts cs % ts) := by
  unfold colAt; rw [List.foldl_append]; rfl
section
variable {prog : Program} {w : World} {A : Around} {s : Shared} {n : Nat} {Q : Value → Shared → Prop} {P P' : Addr → Prop}
theorem columns_call {lead : Str} {tl : Tok} {sizes : Int} {tz : Tok} (Am : Amb (n + 1) A) (G : Gd w s.heap) (h0 : 0 ≤ sizes) (h1 : sizes < 1000000)
    (h : ∀ a vs s', After s s' → s.heap.get? a = none → LObj s'.heap a vs → IntsAre vs ((List.range sizes.toNat).map fun (k : Nat) => colAt (1 + (k : Int)) lead.cps.toList) → Q (.ref a) s') :
    Wp prog w A (call (.ref 130) [.str lead tl, .int sizes tz]) Q s := by
  refine enter [Str.ofString "lead", Str.ofString "sizes"] [Str.ofString "columns", Str.ofString "tabsize", Str.ofString "column", Str.ofString "sign"] [Str.ofString "range"] Am G rfl rfl rfl rfl (by kernel_rfl) rfl rfl rfl (by decide +kernel) (by decide +kernel) (by decide +kernel) (by decide +kernel) rfl rfl ?_
  intro e L s' C S
  dsimp only [List.map, List.cons_append, List.nil_append] at C S
  have Am' := Am.deeper e
  (with_reducible refine x_asg ?_)
  (with_reducible refine r_list ?_)
  (with_reducible refine a_nil ?_)
  refine n_list (by assumption) (by walk_at "sz") ?_
  intro cl s1 hcl hs1 S1
  have hcl0 := (S1.mf _ (List.mem_cons_self ..)).1
  (with_reducible refine r_store (by assumption) (by assumption) (by walk_at "put") ?_; intro _ _)
  (with_reducible refine x_for ?_)
  (with_reducible refine r_call ?_)
  (with_reducible refine r_blt (by assumption) (by assumption) (by walk_at "mem") (by walk_at "blt") ?_)
  (with_reducible refine c_ty ?_)
  (with_reducible refine a_cons ?_)
  (with_reducible refine r_int (by assumption) ?_; intro _ _ _)
  (with_reducible refine a_cons ?_)
  (with_reducible refine r_bin ?_)
  (with_reducible refine r_name (by assumption) (by assumption) (by walk_at "atv") ?_)
  (with_reducible refine r_int (by assumption) ?_; intro _ _ _)
  (with_reducible refine r_add (by assumption) ?_; intro _ _ _)
  (with_reducible refine a_nil ?_)
  (with_reducible refine r_range2 (by assumption) ?_; intro _ _ _ _)
  (with_reducible refine p_range (by assumption) (by assumption) (by assumption) (by first | decide | omega) (by first | decide | omega) (by first | decide | omega) (by first | decide | omega) ?_; intro _ _ _ _ _)
  rename_i I oI s4 hIt S4
  refine loop (σ := List Value × Option Value × Option Value) (σ₀ := ([], none, none)) (o₀ := none) (fun σ o => [some (.str lead tl), some (.int sizes tz), some (.ref cl), o, σ.2.1, σ.2.2]) (fun σ => [(cl, .list σ.1)])
    (fun k _ σ => IntsAre σ.1 ((List.range k).map fun (k : Nat) => colAt (1 + (k : Int)) lead.cps.toList)) C hIt S4 (fun σ o v => by walk_at "put") .nil ?_ ?_
  · rintro i v g' ⟨vs, c, o⟩ oI' s5 hi ⟨t, rfl⟩ hg hJ S5
    dsimp only at hJ S5
    have hlen := IntsAre.len' hJ
    simp only [List.length_map, List.length_range] at hlen
    (with_reducible refine x_asg ?_)
    (with_reducible refine r_int (by assumption) ?_; intro _ _ _)
    (with_reducible refine r_store (by assumption) (by assumption) (by walk_at "put") ?_; intro _ _)
    (with_reducible refine x_for ?_)
    (with_reducible refine r_name (by assumption) (by assumption) (by walk_at "atv") ?_)
    (with_reducible refine p_str (by assumption) (by assumption) ?_; intro _ _ _ _ _)
    rename_i I2 oI2 s6 hIt2 S6
    refine loop (σ := Int × Tok) (σ₀ := (0, _)) (o₀ := _) (fun σ o => [some (.str lead tl), some (.int sizes tz), some (.ref cl), some (.int (1 + (i : Int)) t), some (.int σ.1 σ.2), o]) (fun σ => [(I, .obj oI'), (cl, .list vs)])
      (fun k _ σ => σ.1 = colAt (1 + (i : Int)) (lead.cps.toList.take k)) C hIt2 S6 (fun σ o v => by walk_at "put") rfl ?_ ?_
    · rintro j v g'' ⟨col, tk⟩ oI3 s7 hj hP hg2 hJ2 S7
      dsimp only at hJ2 S7
      obtain ⟨ch, u, hc, rfl⟩ := hP
      have hj' : j < lead.cps.toList.length := by simpa using hj
      have hch : lead.cps.toList[j] = ch := by
        have := Array.getElem?_eq_some_iff.mp hc
        obtain ⟨h1, h2⟩ := this
        rw [← h2, Array.getElem_toList]
      have hstep : colAt (1 + (i : Int)) (lead.cps.toList.take (j + 1)) = if ch = 32 then col + 1 else col + (1 + (i : Int) - col % (1 + (i : Int))) := by
        rw [List.take_succ_eq_append_getElem hj', hch, colAt_snoc, hJ2]
      (with_reducible refine x_aug ?_)
      (with_reducible refine r_load (by assumption) (by assumption) (by walk_at "atv") ?_)
      refine r_ifexp ?_
      (with_reducible refine t_cmp ?_)
      (with_reducible refine r_name (by assumption) (by assumption) (by walk_at "atv") ?_)
      (with_reducible refine r_str (by assumption) ?_; intro _ _ _)
      (with_reducible refine r_eqs ?_)
      refine ⟨_, rfl, fun hb => ?_, fun hb => ?_⟩
      · have hb : ch = 32 := of_decide_eq_true ((str_one ..).symm.trans hb)
        (with_reducible refine r_int (by assumption) ?_; intro _ _ _)
        (with_reducible refine r_iadd (by assumption) ?_; intro _ _ _)
        (with_reducible refine r_store (by assumption) (by assumption) (by walk_at "put") ?_; intro _ _)
        (with_reducible refine x_nil ?_)
        refine turn_next ⟨g'', (_, _), _, Sub.rfl', ?_, by assumption⟩
        rw [hstep, if_pos hb]
      · have hb : ¬ ch = 32 := of_decide_eq_false ((str_one ..).symm.trans hb)
        (with_reducible refine r_bin ?_)
        (with_reducible refine r_name (by assumption) (by assumption) (by walk_at "atv") ?_)
        (with_reducible refine r_bin ?_)
        (with_reducible refine r_name (by assumption) (by assumption) (by walk_at "atv") ?_)
        (with_reducible refine r_name (by assumption) (by assumption) (by walk_at "atv") ?_)
        (with_reducible refine r_mod (by assumption) (by first | decide | omega) ?_; intro _ _ _)
        (with_reducible refine r_sub (by assumption) ?_; intro _ _ _)
        (with_reducible refine r_iadd (by assumption) ?_; intro _ _ _)
        (with_reducible refine r_store (by assumption) (by assumption) (by walk_at "put") ?_; intro _ _)
        (with_reducible refine x_nil ?_)
        refine turn_next ⟨g'', (_, _), _, Sub.rfl', ?_, by assumption⟩
        rw [hstep, if_neg hb]
    · rintro g'' ⟨col, tk⟩ o3 s7 hg2 hJ2 S7
      dsimp only at hJ2 S7
      refine then_next ?_
      (with_reducible refine x_expr (by assumption) ?_)
      (with_reducible refine r_meth ?_)
      (with_reducible refine r_name (by assumption) (by assumption) (by walk_at "atv") ?_)
      (intro (_ : Sem Bool))
      (with_reducible refine m_append (by walk_at "lst") ?_)
      (with_reducible refine c_bm ?_)
      (with_reducible refine a_cons ?_)
      (with_reducible refine r_name (by assumption) (by assumption) (by walk_at "atv") ?_)
      (with_reducible refine a_nil ?_)
      (with_reducible refine r_append (by assumption) (by walk_at "up") (by walk_at "sz") ?_; intro _ _)
      (with_reducible refine x_nil ?_)
      refine turn_next ⟨g'', (_, _, _), _, hg2, ?_, by assumption⟩
      dsimp only
      rw [List.range_succ, List.map_append, hJ2, List.take_of_length_le (by simp)]
      exact IntsAre.append hJ (.cons _ _ .nil)
  · rintro g' ⟨vs, c, o⟩ o3 s5 hg hJ S5
    dsimp only at hJ S5
    refine then_next ?_
    (with_reducible refine x_ret ?_)
    (with_reducible refine r_name (by assumption) (by assumption) (by walk_at "atv") ?_)
    have hz : (sizes + 1 - 1).toNat = sizes.toNat := by omega
    rw [hz] at hJ
    exact h _ _ _ (St.after S5 hg) hcl0 (S5.lst (.head _)) hJ
end

def bump (cnt : List Int) (b : Nat) : List Int := let c := cnt ++ List.replicate (b + 1 - cnt.length) 0
  c.set b (c.getD b 0 + 1)
def scan : List Nat → Ws → Ws
  | [], x => x
  | c :: r, x => if c = 32 then scan r { x with n := x.n + 1, b := x.b + 1 } else if c = 9 then scan r ⟨x.n + 1, x.nt + 1, bump x.cnt x.b.toNat, 0⟩ else x
def ws0 : Ws := ⟨0, 0, [], 0⟩
theorem IntsAre.set' : ∀ {vs : List Value} {ns : List Int}, IntsAre vs ns → ∀ (i : Nat) (k : Int) (t : Tok), IntsAre (vs.set i (.int k t)) (ns.set i k)
  | _, _, .nil, _, _, _ => .nil
  | _, _, .cons n t h, 0, k, u => .cons k u h
  | _, _, .cons n t h, i + 1, k, u => .cons n t (IntsAre.set' h i k u)
theorem ints_zeros (t : Tok) : ∀ m : Nat, IntsAre (List.replicate m [Value.int 0 t]).flatten (List.replicate m 0)
  | 0 => .nil
  | m + 1 => by rw [List.replicate_succ, List.replicate_succ]; exact .cons 0 t (ints_zeros t m)
structure IS where
  cl : Addr
  vs : List Value
  n : Int
  nt : Int
  b : Int
  tn : Tok
  tnt : Tok
  tb : Tok
structure IsInv (t : List Nat) (k : Nat) (σ : IS) (cnt : List Int) : Prop where
  hI : IntsAre σ.vs cnt
  he : scan t ws0 = scan (t.drop k) ⟨σ.n, σ.nt, cnt, σ.b⟩
  b0 : 0 ≤ σ.b
  bk : σ.b ≤ k
  ck : cnt.length ≤ k
section
variable {prog : Program} {w : World} {A : Around} {s : Shared} {n : Nat} {Q : Value → Shared → Prop} {P P' : Addr → Prop}
theorem init_call {x dx : Addr} {h0 : Heap} {t : Str} {tt : Tok} {R : Result → Shared → Prop} (Am : Amb (n + 1) A) (G : Gd w h0) (hx : s.heap.get? x = some (instObj 90 dx)) (hd : s.heap.get? dx = some (dictOf [] 0)) (hs : Sub h0 s.heap) (hx0 : h0.get? x = none) (hd0 : h0.get? dx = none) (hne : x ≠ dx)
    (hz : t.cps.size < 50000) (h : ∀ s', s'.gens = s.gens → s'.drawn = s.drawn → s'.os = s.os → Sub h0 s'.heap → WsAt (fun a => h0.get? a = none) s'.heap x (scan t.cps.toList ws0) → R (.ok (.ret .none)) s') :
    codeAny (model prog w) A (.call (.ref 45) ⟨[.ref x, .str t tt], []⟩) R s := by
  refine enterC [Str.ofString "self", Str.ofString "ws"] [Str.ofString "S", Str.ofString "T", Str.ofString "count", Str.ofString "b", Str.ofString "n", Str.ofString "nt", Str.ofString "ch"] [Str.ofString "Whitespace", Str.ofString "len", Str.ofString "tuple"] Am (G.mono hs) rfl rfl rfl rfl (by kernel_rfl) rfl rfl rfl (by decide +kernel) (by decide +kernel) (by decide +kernel) (by decide +kernel) rfl rfl ?_
  intro e L s' C S
  dsimp only [List.map, List.cons_append, List.nil_append] at C S
  have Am' := Am.deeper e
  have hgd : Sub h0 (hideAll s.heap [dx]) := fun b o q => hideAll_get _ (hs _ _ q) fun r => by rw [List.mem_singleton.mp r, hd0] at q; cases q
  have hgx : (hideAll s.heap [dx]).get? x = some (instObj 90 dx) := hideAll_get _ hx fun r => hne (List.mem_singleton.mp r)
  have S := S.thaw (m := .flds []) ⟨[], 0, hd, trivial⟩ (G.mono hgd)
  (with_reducible refine x_asgattr ?_)
  (with_reducible refine r_name (by assumption) (by assumption) (by walk_at "atv") ?_)
  (with_reducible refine r_name (by assumption) (by assumption) (by walk_at "atv") ?_)
  (with_reducible refine r_setattr (by assumption) (by assumption) (by walk_at "up") (by with_unfolding_all rfl) (by walk_at "tk") (by first | decide | simp) ?_; intro _ _)
  have kS := C.kinds (Str.ofString "S") (by decide)
  have kT := C.kinds (Str.ofString "T") (by decide)
  refine x_unpack2s Am' (by with_unfolding_all rfl) (by simp only [swappedStores, Env.blockKind, C.kind, kS, kT, List.filterMap_cons, List.filterMap_nil]; with_unfolding_all rfl) ?_
  (with_reducible refine r_tuple ?_)
  (with_reducible refine a_cons ?_)
  (with_reducible refine r_attr ?_)
  (with_reducible refine r_glob (by assumption) (by assumption) (by walk_at "mem") (by walk_at "glb") ?_)
  (with_reducible refine g_S (by assumption) ?_; intro _ _ _)
  (with_reducible refine a_cons ?_)
  (with_reducible refine r_attr ?_)
  (with_reducible refine r_glob (by assumption) (by assumption) (by walk_at "mem") (by walk_at "glb") ?_)
  (with_reducible refine g_T (by assumption) ?_; intro _ _ _)
  (with_reducible refine a_nil ?_)
  rename_i tS _ _ tT _ _
  refine n_tuple (by assumption) (by walk_at "sz") ?_
  intro tp s1 htp hs1 S1
  refine ⟨tp, _, _, rfl, S1.tup (.head _), ?_⟩
  intro s2 a2
  have S2 := (a2.st S1).pick (mu' := [(dx, .flds [(Str.ofString "raw", .str t tt)])]) (by walk_at "pick")
  (with_reducible refine r_store (by assumption) (by assumption) (by walk_at "put") ?_; intro _ _)
  (with_reducible refine r_store (by assumption) (by assumption) (by walk_at "put") ?_; intro _ _)
  (with_reducible refine x_asg ?_)
  (with_reducible refine r_list ?_)
  (with_reducible refine a_nil ?_)
  refine n_list (by assumption) (by walk_at "sz") ?_
  intro cl s3 hcl hs3 S3
  have S3 := S3.toLst .head
  (with_reducible refine r_store (by assumption) (by assumption) (by walk_at "put") ?_; intro _ _)
  (with_reducible refine x_asg3 ?_)
  (with_reducible refine r_int (by assumption) ?_; intro _ _ _)
  (with_reducible refine r_store (by assumption) (by assumption) (by walk_at "put") ?_; intro _ _)
  (with_reducible refine r_store (by assumption) (by assumption) (by walk_at "put") ?_; intro _ _)
  (with_reducible refine r_store (by assumption) (by assumption) (by walk_at "put") ?_; intro _ _)
  (with_reducible refine x_for ?_)
  (with_reducible refine r_attr ?_)
  (with_reducible refine r_name (by assumption) (by assumption) (by walk_at "atv") ?_)
  (with_reducible refine own_get' (by assumption) (by assumption) (by walk_at "mem") fn_raw rfl rfl ?_; intro _ _)
  (with_reducible refine p_str (by assumption) (by assumption) ?_; intro _ _ _ _ _)
  rename_i I oI s4 hIt S4
  refine Cp.via (fun s' => ∃ g' σ cnt o k, Sub (hideAll s.heap [dx]) g' ∧ IsInv t.cps.toList k σ cnt ∧ scan t.cps.toList ws0 = ⟨σ.n, σ.nt, cnt, σ.b⟩ ∧ k ≤ t.cps.size ∧
    St w s g' L [Str.ofString "self", Str.ofString "ws", Str.ofString "S", Str.ofString "T", Str.ofString "count", Str.ofString "b", Str.ofString "n", Str.ofString "nt", Str.ofString "ch"]
      [some (.ref x), some (.str t tt), some (.str (Str.ofString " ") tS), some (.str (Str.ofString "\t") tT), some (.ref σ.cl), some (.int σ.b σ.tb), some (.int σ.n σ.tn), some (.int σ.nt σ.tnt), o] [(σ.cl, .lst σ.vs), (dx, .flds [(Str.ofString "raw", .str t tt)])] s') ?_ ?_
  · refine loop (σ := IS) (σ₀ := ⟨cl, [], 0, 0, 0, _, _, _⟩) (o₀ := none) (fun σ o => [some (.ref x), some (.str t tt), some (.str (Str.ofString " ") tS), some (.str (Str.ofString "\t") tT), some (.ref σ.cl), some (.int σ.b σ.tb), some (.int σ.n σ.tn), some (.int σ.nt σ.tnt), o])
      (fun σ => [(σ.cl, .lst σ.vs), (dx, .flds [(Str.ofString "raw", .str t tt)])]) (fun k _ σ => ∃ cnt, IsInv t.cps.toList k σ cnt) C hIt S4 (fun σ o v => by walk_at "put") ⟨[], .nil, rfl, Int.le_refl _, Int.le_refl _, Nat.le_refl _⟩ ?_ ?_
    · rintro i v g' ⟨cl', vs, n', nt, b, tn, tnt, tb⟩ oI' s5 hi hP hg ⟨cnt, J1, J2, J3, J4, J5⟩ S5
      dsimp only at J1 J2 J3 J4 J5 S5
      obtain ⟨ch, u, hc, rfl⟩ := hP
      have hi' : i < t.cps.toList.length := by simpa using hi
      have hch : t.cps.toList[i] = ch := by
        obtain ⟨h1, h2⟩ := Array.getElem?_eq_some_iff.mp hc
        rw [← h2, Array.getElem_toList]
      have J2o := J2
      rw [List.drop_eq_getElem_cons hi', hch] at J2
      have hlen := IntsAre.len' J1
      (with_reducible refine x_if ?_)
      (with_reducible refine t_cmp ?_)
      (with_reducible refine r_name (by assumption) (by assumption) (by walk_at "atv") ?_)
      (with_reducible refine r_name (by assumption) (by assumption) (by walk_at "atv") ?_)
      (with_reducible refine r_eqs ?_)
      refine ⟨_, rfl, fun hb => ?_, fun hb => ?_⟩
      · have hb : ch = 32 := of_decide_eq_true ((str_one ..).symm.trans hb)
        (with_reducible refine x_asg ?_)
        (with_reducible refine r_bin ?_)
        (with_reducible refine r_name (by assumption) (by assumption) (by walk_at "atv") ?_)
        (with_reducible refine r_int (by assumption) ?_; intro _ _ _)
        (with_reducible refine r_add (by assumption) ?_; intro _ _ _)
        (with_reducible refine r_store (by assumption) (by assumption) (by walk_at "put") ?_; intro _ _)
        (with_reducible refine x_asg ?_)
        (with_reducible refine r_bin ?_)
        (with_reducible refine r_name (by assumption) (by assumption) (by walk_at "atv") ?_)
        (with_reducible refine r_int (by assumption) ?_; intro _ _ _)
        (with_reducible refine r_add (by assumption) ?_; intro _ _ _)
        (with_reducible refine r_store (by assumption) (by assumption) (by walk_at "put") ?_; intro _ _)
        (with_reducible refine x_nil ?_)
        (with_reducible refine then_next ?_)
        (with_reducible refine x_nil ?_)
        refine turn_next ⟨g', ⟨cl', vs, n' + 1, nt, b + 1, _, tnt, _⟩, _, Sub.rfl', ⟨cnt, J1, ?_, by dsimp only; omega, by dsimp only; omega, by omega⟩, by assumption⟩
        rw [J2, scan, if_pos hb]
      have hb : ¬ ch = 32 := of_decide_eq_false ((str_one ..).symm.trans hb)
      (with_reducible refine x_if ?_)
      (with_reducible refine t_cmp ?_)
      (with_reducible refine r_name (by assumption) (by assumption) (by walk_at "atv") ?_)
      (with_reducible refine r_name (by assumption) (by assumption) (by walk_at "atv") ?_)
      (with_reducible refine r_eqs ?_)
      refine ⟨_, rfl, fun hb' => ?_, fun hb' => ?_⟩
      · have hb' : ch = 9 := of_decide_eq_true ((str_one ..).symm.trans hb')
        (with_reducible refine x_asg ?_)
        (with_reducible refine r_bin ?_)
        (with_reducible refine r_name (by assumption) (by assumption) (by walk_at "atv") ?_)
        (with_reducible refine r_int (by assumption) ?_; intro _ _ _)
        (with_reducible refine r_add (by assumption) ?_; intro _ _ _)
        (with_reducible refine r_store (by assumption) (by assumption) (by walk_at "put") ?_; intro _ _)
        (with_reducible refine x_asg ?_)
        (with_reducible refine r_bin ?_)
        (with_reducible refine r_name (by assumption) (by assumption) (by walk_at "atv") ?_)
        (with_reducible refine r_int (by assumption) ?_; intro _ _ _)
        (with_reducible refine r_add (by assumption) ?_; intro _ _ _)
        (with_reducible refine r_store (by assumption) (by assumption) (by walk_at "put") ?_; intro _ _)
        (with_reducible refine x_if ?_)
        (with_reducible refine t_cmp ?_)
        (with_reducible refine r_name (by assumption) (by assumption) (by walk_at "atv") ?_)
        (with_reducible refine r_call ?_)
        (with_reducible refine r_blt (by assumption) (by assumption) (by walk_at "mem") (by walk_at "blt") ?_)
        (with_reducible refine c_bi ?_)
        (with_reducible refine a_cons ?_)
        (with_reducible refine r_name (by assumption) (by assumption) (by walk_at "atv") ?_)
        (with_reducible refine a_nil ?_)
        (with_reducible refine r_lenl (by assumption) (by walk_at "li") (by omega) ?_; intro _ _ _)
        (with_reducible refine r_ge ?_)
        have key : ∀ (cnt2 : List Int) (vs2 : List Value), IntsAre vs2 cnt2 → cnt2 = cnt ++ List.replicate (b.toNat + 1 - cnt.length) 0 →
            ∃ k tk, vs2[b.toNat]? = some (.int k tk) ∧ b < vs2.length ∧ ∀ u, IntsAre (vs2.set b.toNat (.int (k + 1) u)) (bump cnt b.toNat) ∧ (bump cnt b.toNat).length ≤ i + 1 := by
          rintro cnt2 vs2 hI rfl
          have hl2 := IntsAre.len' hI
          have hb2 : b.toNat < (cnt ++ List.replicate (b.toNat + 1 - cnt.length) 0).length := by simp only [List.length_append, List.length_replicate]; omega
          obtain ⟨tk, hv⟩ := IntsAre.get' hI (List.getElem?_eq_getElem hb2)
          refine ⟨_, tk, hv, by rw [hl2]; omega, fun u => ⟨?_, ?_⟩⟩
          · unfold bump
            dsimp only
            rw [List.getD_eq_getElem?_getD, List.getElem?_eq_getElem hb2, Option.getD_some]
            exact IntsAre.set' hI ..
          · unfold bump
            dsimp only
            rw [List.length_set, List.length_append, List.length_replicate]; omega
        refine ⟨_, rfl, fun hc => ?_, fun hc => ?_⟩
        · have hc := of_decide_eq_true hc
          (with_reducible refine x_asg ?_)
          (with_reducible refine r_bin ?_)
          (with_reducible refine r_name (by assumption) (by assumption) (by walk_at "atv") ?_)
          (with_reducible refine r_bin ?_)
          (with_reducible refine r_list ?_)
          (with_reducible refine a_cons ?_)
          (with_reducible refine r_int (by assumption) ?_; intro _ _ _)
          (with_reducible refine a_nil ?_)
          rename_i tz _ _
          refine n_list (by assumption) (by walk_at "sz") ?_
          intro zl s6 hzl _ S6
          (with_reducible refine r_bin ?_)
          (with_reducible refine r_bin ?_)
          (with_reducible refine r_name (by assumption) (by assumption) (by walk_at "atv") ?_)
          (with_reducible refine r_call ?_)
          (with_reducible refine r_blt (by assumption) (by assumption) (by walk_at "mem") (by walk_at "blt") ?_)
          (with_reducible refine c_bi ?_)
          (with_reducible refine a_cons ?_)
          (with_reducible refine r_name (by assumption) (by assumption) (by walk_at "atv") ?_)
          (with_reducible refine a_nil ?_)
          (with_reducible refine r_lenl (by assumption) (by walk_at "li") (by omega) ?_; intro _ _ _)
          (with_reducible refine r_sub (by assumption) ?_; intro _ _ _)
          (with_reducible refine r_int (by assumption) ?_; intro _ _ _)
          (with_reducible refine r_add (by assumption) ?_; intro _ _ _)
          refine r_mull (by assumption) (St.lst (by assumption) (.head _)) (by omega) (by omega) (by simp only [List.length_cons, List.length_nil]; omega) ?_
          intro ml s7 hml S7
          refine r_addl S7 (S7.li2 (by walk_at "mem")) (S7.li1 (.head _)) (by rw [List.length_flatten, List.map_replicate, List.sum_replicate_nat, sizeLine_eq]; simp only [List.length_cons, List.length_nil]; omega) ?_
          intro al s8 hal S8
          have S8 := (S8.pick (mu' := [(I, MO.obj oI'), (al, .list _), (dx, .flds [(Str.ofString "raw", .str t tt)])]) (by walk_at "pick")).toLst (.tail .head)
          have hI2 := IntsAre.append J1 (ints_zeros tz (b - (vs.length : Int) + 1).toNat)
          obtain ⟨k, tk, hv, hlt, hfin⟩ := key _ _ hI2 (by congr 2; omega)
          (with_reducible refine r_store (by assumption) (by assumption) (by walk_at "put") ?_; intro _ _)
          (with_reducible refine x_nil ?_)
          (with_reducible refine then_next ?_)
          (with_reducible refine x_asgsub ?_)
          (with_reducible refine r_bin ?_)
          (with_reducible refine r_sub' ?_)
          (with_reducible refine r_name (by assumption) (by assumption) (by walk_at "atv") ?_)
          (with_reducible refine r_name (by assumption) (by assumption) (by walk_at "atv") ?_)
          refine i_list (by walk_at "li") (by first | exact z_nn _ | exact c_nn _ | decide | omega) (by first | decide | omega) hv ?_
          (with_reducible refine r_int (by assumption) ?_; intro _ _ _)
          (with_reducible refine r_add (by assumption) ?_; intro _ _ _)
          (with_reducible refine r_name (by assumption) (by assumption) (by walk_at "atv") ?_)
          (with_reducible refine r_name (by assumption) (by assumption) (by walk_at "atv") ?_)
          rename_i tv _ _
          refine r_setitem (by assumption) (by walk_at "li") (by walk_at "up") (by omega) (by omega) hlt ?_
          intro _ _
          (with_reducible refine x_asg ?_)
          (with_reducible refine r_int (by assumption) ?_; intro _ _ _)
          (with_reducible refine r_store (by assumption) (by assumption) (by walk_at "put") ?_; intro _ _)
          (with_reducible refine x_nil ?_)
          (with_reducible refine then_next ?_)
          (with_reducible refine x_nil ?_)
          (with_reducible refine then_next ?_)
          (with_reducible refine x_nil ?_)
          refine turn_next ⟨g', ⟨al, _, n' + 1, nt + 1, 0, _, _, _⟩, _, Sub.rfl', ⟨bump cnt b.toNat, (hfin tv).1, ?_, Int.le_refl _, by dsimp only; omega, (hfin tv).2⟩, by assumption⟩
          rw [J2, scan, if_neg hb, if_pos hb']
        · have hc := of_decide_eq_false hc
          obtain ⟨k, tk, hv, hlt, hfin⟩ := key cnt vs J1 (by rw [show b.toNat + 1 - cnt.length = 0 by omega]; simp)
          (with_reducible refine x_nil ?_)
          (with_reducible refine then_next ?_)
          (with_reducible refine x_asgsub ?_)
          (with_reducible refine r_bin ?_)
          (with_reducible refine r_sub' ?_)
          (with_reducible refine r_name (by assumption) (by assumption) (by walk_at "atv") ?_)
          (with_reducible refine r_name (by assumption) (by assumption) (by walk_at "atv") ?_)
          refine i_list (by walk_at "li") (by first | exact z_nn _ | exact c_nn _ | decide | omega) (by first | decide | omega) hv ?_
          (with_reducible refine r_int (by assumption) ?_; intro _ _ _)
          (with_reducible refine r_add (by assumption) ?_; intro _ _ _)
          (with_reducible refine r_name (by assumption) (by assumption) (by walk_at "atv") ?_)
          (with_reducible refine r_name (by assumption) (by assumption) (by walk_at "atv") ?_)
          rename_i tv _ _
          refine r_setitem (by assumption) (by walk_at "li") (by walk_at "up") (by omega) (by omega) hlt ?_
          intro _ _
          (with_reducible refine x_asg ?_)
          (with_reducible refine r_int (by assumption) ?_; intro _ _ _)
          (with_reducible refine r_store (by assumption) (by assumption) (by walk_at "put") ?_; intro _ _)
          (with_reducible refine x_nil ?_)
          (with_reducible refine then_next ?_)
          (with_reducible refine x_nil ?_)
          (with_reducible refine then_next ?_)
          (with_reducible refine x_nil ?_)
          refine turn_next ⟨g', ⟨cl', _, n' + 1, nt + 1, 0, _, _, _⟩, _, Sub.rfl', ⟨bump cnt b.toNat, (hfin tv).1, ?_, Int.le_refl _, by dsimp only; omega, (hfin tv).2⟩, by assumption⟩
          rw [J2, scan, if_neg hb, if_pos hb']
      · have hb' : ¬ ch = 9 := of_decide_eq_false ((str_one ..).symm.trans hb')
        (with_reducible refine x_brk ?_)
        (with_reducible refine then_brk ?_)
        (with_reducible refine then_brk ?_)
        refine turn_brk (or_next ⟨g', ⟨cl', vs, n', nt, b, tn, tnt, tb⟩, cnt, _, i, hg, ⟨J1, J2o, J3, J4, J5⟩, ?_, by omega, St.less (by assumption) (List.sublist_cons_self ..)⟩)
        rw [J2, scan, if_neg hb, if_neg hb']
    · rintro g' ⟨cl', vs, n', nt, b, tn, tnt, tb⟩ o s5 hg ⟨cnt, J1, J2, J3, J4, J5⟩ S5
      refine or_next ⟨g', ⟨cl', vs, n', nt, b, tn, tnt, tb⟩, cnt, _, _, hg, ⟨J1, J2, J3, J4, J5⟩, ?_, Nat.le_refl _, S5⟩
      rw [J2, List.drop_of_length_le (by simp)]; rfl
  · rintro s5 ⟨g', ⟨cl', vs, n', nt, b, tn, tnt, tb⟩, cnt, o, k, hg, ⟨J1, J2, J3, J4, J5⟩, hsc, hk, S5⟩
    dsimp only at J1 J2 J3 J4 J5 S5 hsc
    have hlen : vs.length = cnt.length := IntsAre.len' J1
    have hgx' := hg _ _ hgx
    refine then_next ?_
    (with_reducible refine x_asgattr ?_)
    (with_reducible refine r_name (by assumption) (by assumption) (by walk_at "atv") ?_)
    (with_reducible refine r_name (by assumption) (by assumption) (by walk_at "atv") ?_)
    (with_reducible refine r_setattr (by assumption) (by assumption) (by walk_at "up") (by with_unfolding_all rfl) (by walk_at "tk") (by first | decide | simp) ?_; intro _ _)
    (with_reducible refine x_asgattr ?_)
    (with_reducible refine r_name (by assumption) (by assumption) (by walk_at "atv") ?_)
    (with_reducible refine r_name (by assumption) (by assumption) (by walk_at "atv") ?_)
    (with_reducible refine r_setattr (by assumption) (by assumption) (by walk_at "up") (by with_unfolding_all rfl) (by walk_at "tk") (by first | decide | simp) ?_; intro _ _)
    (with_reducible refine x_asgattr ?_)
    (with_reducible refine r_tuple ?_)
    (with_reducible refine a_cons ?_)
    (with_reducible refine r_call ?_)
    (with_reducible refine r_blt (by assumption) (by assumption) (by walk_at "mem") (by walk_at "blt") ?_)
    (with_reducible refine c_ty ?_)
    (with_reducible refine a_cons ?_)
    (with_reducible refine r_name (by assumption) (by assumption) (by walk_at "atv") ?_)
    (with_reducible refine a_nil ?_)
    refine r_tuplel (by assumption) (by walk_at "li") (by rw [sizeLine_eq]; omega) ?_
    intro t2 s6 ht2 S6
    (with_reducible refine a_cons ?_)
    (with_reducible refine r_name (by assumption) (by assumption) (by walk_at "atv") ?_)
    (with_reducible refine a_nil ?_)
    refine n_tuple (by assumption) (by walk_at "sz") ?_
    intro t1 s7 ht1 _ S7
    (with_reducible refine r_name (by assumption) (by assumption) (by walk_at "atv") ?_)
    (with_reducible refine r_setattr (by assumption) (by assumption) (by walk_at "up") (by with_unfolding_all rfl) (by walk_at "tk") (by first | decide | simp) ?_; intro _ _)
    (with_reducible refine x_asgattr ?_)
    (with_reducible refine r_cmp ?_)
    (with_reducible refine r_call ?_)
    (with_reducible refine r_blt (by assumption) (by assumption) (by walk_at "mem") (by walk_at "blt") ?_)
    (with_reducible refine c_bi ?_)
    (with_reducible refine a_cons ?_)
    (with_reducible refine r_name (by assumption) (by assumption) (by walk_at "atv") ?_)
    (with_reducible refine a_nil ?_)
    (with_reducible refine r_lenl (by assumption) (by walk_at "li") (by omega) ?_; intro _ _ _)
    (with_reducible refine r_int (by assumption) ?_; intro _ _ _)
    (with_reducible refine r_le ?_)
    (with_reducible refine r_name (by assumption) (by assumption) (by walk_at "atv") ?_)
    (with_reducible refine r_setattr (by assumption) (by assumption) (by walk_at "up") (by with_unfolding_all rfl) (by walk_at "tk") (by first | decide | simp) ?_; intro _ _)
    (with_reducible refine x_nil ?_)
    rename_i s8 S8
    obtain ⟨es, m, D8, hE⟩ := S8.ml _ (.tail _ (.tail _ (.tail _ (.head _))))
    have T1 := S8.tup (a := t1) (.head _)
    have T2 := S8.tup (a := t2) (.tail _ (.head _))
    have hsub : Sub h0 g' := hgd.trans hg
    have fresh : ∀ a, g'.get? a = none → h0.get? a = none := fun a q => by
      cases r : h0.get? a with
      | none => rfl
      | some o => rw [hsub _ _ r] at q; cases q
    refine h _ S8.gens S8.drawn S8.os (hsub.trans S8.keep) ?_
    rw [hsc]
    refine ⟨dx, es, m, t1, t2, vs, tn, tnt, tb, hx0, hd0, fresh _ (S8.mf _ (.head _)).1, fresh _ (S8.mf _ (.tail _ (.head _))).1, S8.keep _ _ hgx', D8, ents_get es _ hE _ _ rfl, ents_get es _ hE _ _ rfl, ents_get es _ hE _ _ rfl, ?_, ?_, T1, T2, J1⟩
    · rw [ents_get es _ hE _ _ rfl]
      congr 4
      refine propext ?_
      show ((vs.length : Nat) : Int) ≤ 1 ↔ cnt.length ≤ 1
      rw [hlen]; omega
    · intro y hy
      refine ents_none hE ?_
      simp only [methNames, List.mem_cons, List.not_mem_nil, or_false] at hy
      rcases hy with rfl | rfl | rfl | rfl <;> rfl
theorem ws_call {t : Str} {tt : Tok} (Am : Amb (n + 2) A) (G : Gd w s.heap) (hz : t.cps.size < 50000)
    (h : ∀ x s', After s s' → WsAt (fun a => s.heap.get? a = none) s'.heap x (scan t.cps.toList ws0) → Q (.ref x) s') : Wp prog w A (call (.ref 90) [.str t tt]) Q s := by
  refine ⟨wpAny_call ?_⟩
  obtain ⟨hh, gg, d, tk, os⟩ := s
  refine make_core (makes_of G.X (mk90 _)) (looks_findIn G.X (in90 _)) (fun self => bind_fn G.X self (ty45 _)) (.inl rfl) ?_
  have k1 : Sub hh (hh.push emptyDict) := fun b o q => Heap.get?_push_of_some _ q
  have k2 : Sub hh ((hh.push emptyDict).push (instObj 90 hh.objs.size)) := k1.push _
  have hsz : (hh.push emptyDict).objs.size = hh.objs.size + 1 := Heap.size_push ..
  have hx0 : hh.get? (hh.objs.size + 1) = none := by
    cases q : hh.get? (hh.objs.size + 1) with
    | none => rfl
    | some o => exact absurd (Heap.lt_size q) (Nat.not_lt.mpr (Nat.le_succ _))
  refine init_call (h0 := hh) (dx := hh.objs.size) (Am.underCall _ _) G (by heap_get) (by heap_get) k2 hx0 (size_none _) (Nat.succ_ne_self _) hz ?_
  intro s' e1 e2 e3 e4 W
  exact ⟨rfl, h _ s' ⟨e1, e2, e3, e4⟩ W⟩
end

def opStrs : List Str := opNames.map Str.ofString
section
variable {prog : Program} {w : World} {A : Around} {s : Shared} {n : Nat} {Q : Value → Shared → Prop} {P P' : Addr → Prop}
theorem names_call (Am : Amb (n + 1) A) (G : Gd w s.heap) (h : ∀ a vs s', After s s' → s.heap.get? a = none → LObj s'.heap a vs → StrsAre vs opStrs → Q (.ref a) s') : Wp prog w A (call (.ref 104) []) Q s := by
  refine enter [] [] [] Am G rfl rfl rfl rfl (by kernel_rfl) rfl rfl rfl (by decide +kernel) (by decide +kernel) (by decide +kernel) (by decide +kernel) rfl rfl ?_
  intro e L s' C S
  dsimp only [List.map, List.cons_append, List.nil_append] at C S
  have Am' := Am.deeper e
  (with_reducible refine x_ret ?_)
  (with_reducible refine r_meth ?_)
  (with_reducible refine r_str (by assumption) ?_; intro _ _ _)
  (intro (_ : Sem Bool))
  (with_reducible refine m_split ?_)
  (with_reducible refine c_bm0 ?_)
  refine r_split0 (by assumption) (by rw [sizeLine_eq]; decide +kernel) ?_
  intro a vs s1 ha hS S1
  refine h a vs s1 (S1.after Sub.rfl') (S1.mf _ (.head _)).1 (S1.lst (.head _)) ?_
  have key : ∀ x, StrsAre vs (Txt.words x) → Txt.words x = opStrs → StrsAre vs opStrs := fun x h e => e ▸ h
  exact key _ hS (by kernel_rfl)
def cut (x : Str) (k : Nat) : Str := ⟨(x.cps.toList.take k).toArray⟩
def sizeOf (x : Str) : Nat := if (tok (cut x 3)).isSome then 3 else if (tok (cut x 2)).isSome then 2 else 1
theorem slice_to (x : Str) (k : Nat) : Txt.slice x none (some (k : Int)) = cut x k := by
  have h := eq_of_beq (slice_to_min_closes (x := x) (n := (k : Int)) (m := _) (by omega) rfl)
  rw [h]
  unfold cut
  have hl : x.length = x.cps.toList.length := by simp [Str.length]
  congr 2
  simp only [Int.toNat_zero, List.drop_zero]
  split
  · rw [List.take_of_length_le (by omega), List.take_of_length_le (by omega)]
  · congr 1
theorem slice_from (x : Str) (k : Nat) : Txt.slice x (some (k : Int)) none = ⟨(x.cps.toList.drop k).toArray⟩ := by
  have hl : x.length = x.cps.toList.length := by simp [Str.length]
  by_cases h : x.length ≤ k
  · rw [slice_from_beyond (by omega), List.drop_of_length_le (by omega)]
  · have h := eq_of_beq (slice_closes_fromL (x := x) (i := (k : Int)) (b := (x.length : Int)) (by omega) (by omega) rfl)
    rw [h]
    congr 2
    rw [List.take_of_length_le]
    · rfl
    · rw [List.length_drop]; omega
theorem slice_toI (x : Str) {k : Int} (h : 0 ≤ k) : Txt.slice x none (some k) = cut x k.toNat := by
  obtain ⟨m, rfl⟩ := Int.eq_ofNat_of_zero_le h
  exact slice_to x m
def readF : Nat → Str → List Int
  | 0, _ => []
  | f + 1, x => if x.cps.toList = [] then [] else (tok (cut x (sizeOf x))).getD 0 :: readF f ⟨(x.cps.toList.drop (sizeOf x)).toArray⟩
theorem read_call {text : Str} {tt : Tok} (Am : Amb (n + 1) A) (G : Gd w s.heap) (hz : text.cps.size < 10000)
    (h : ∀ a vs s', After s s' → s.heap.get? a = none → LObj s'.heap a vs → IntsAre vs (readF (text.cps.size + 1) text) → Q (.ref a) s') : Wp prog w A (call (.ref 111) [.str text tt]) Q s := by
  refine enter [Str.ofString "text"] [Str.ofString "numbers", Str.ofString "size"] [Str.ofString "EXACT_TOKEN_TYPES"] Am G rfl rfl rfl rfl (by kernel_rfl) rfl rfl rfl (by decide +kernel) (by decide +kernel) (by decide +kernel) (by decide +kernel) rfl rfl ?_
  intro e L s' C S
  dsimp only [List.map, List.cons_append, List.nil_append] at C S
  have Am' := Am.deeper e
  (with_reducible refine x_asg ?_)
  (with_reducible refine r_list ?_)
  (with_reducible refine a_nil ?_)
  refine n_list (by assumption) (by walk_at "sz") ?_
  intro cl s1 hcl hs1 S1
  (with_reducible refine r_store (by assumption) (by assumption) (by walk_at "put") ?_; intro _ _)
  (with_reducible refine x_while ?_)
  refine wloop (σ := List Value × Str × Tok × Option Value) (σ₀ := ([], text, tt, none)) (fun σ s' => St w s s.heap L [Str.ofString "text", Str.ofString "numbers", Str.ofString "size"] [some (.str σ.2.1 σ.2.2.1), some (.ref cl), σ.2.2.2] [(cl, .list σ.1)] s' ∧
    ∃ ks f, IntsAre σ.1 ks ∧ readF (text.cps.size + 1) text = ks ++ readF f σ.2.1 ∧ σ.2.1.cps.size < f ∧ σ.2.1.cps.size + ks.length ≤ text.cps.size) (fun σ => σ.2.1.cps.size) ⟨by assumption, [], text.cps.size + 1, .nil, rfl, by dsimp only; omega, by simp⟩ ?_
  rintro ⟨vs, x, tx, o⟩ s5 ⟨S5, ks, f, hI, hr, hf, hlen⟩
  dsimp only at S5 hI hr hf hlen ⊢
  have hlv := IntsAre.len' hI
  (with_reducible refine t_cmp ?_)
  (with_reducible refine r_name (by assumption) (by assumption) (by walk_at "atv") ?_)
  (with_reducible refine r_str (by assumption) ?_; intro _ _ _)
  (with_reducible refine r_nes ?_)
  refine ⟨_, rfl, fun hb => ?_, fun hb => ?_⟩
  · have hne : x.cps.toList ≠ [] := by
      intro q
      have : x = ⟨#[]⟩ := by obtain ⟨c⟩ := x; simp at q; subst q; rfl
      subst this
      exact absurd hb (by decide)
    have hpos : 0 < x.cps.size := by
      rcases Nat.eq_zero_or_pos x.cps.size with q | q
      · exact absurd (by simpa using q) hne
      · exact q
    (with_reducible refine x_asg ?_)
    (with_reducible refine r_int (by assumption) ?_; intro _ _ _)
    (with_reducible refine r_store (by assumption) (by assumption) (by walk_at "put") ?_; intro _ _)
    (with_reducible refine x_while ?_)
    refine Cp.via (fun s' => ∃ tk, St w s s.heap L [Str.ofString "text", Str.ofString "numbers", Str.ofString "size"] [some (.str x tx), some (.ref cl), some (.int (sizeOf x) tk)] [(cl, .list vs)] s') ?_ ?_
    · refine wloop (σ := Int × Tok) (σ₀ := (3, _)) (fun σ s' => St w s s.heap L [Str.ofString "text", Str.ofString "numbers", Str.ofString "size"] [some (.str x tx), some (.ref cl), some (.int σ.1 σ.2)] [(cl, .list vs)] s' ∧ 1 ≤ σ.1 ∧ σ.1 ≤ 3 ∧
        (σ.1 < 3 → (tok (cut x 3)).isSome = false) ∧ (σ.1 < 2 → (tok (cut x 2)).isSome = false)) (fun σ => σ.1.toNat)
        ⟨by assumption, by dsimp only; omega, by dsimp only; omega, (fun q => absurd (show (3 : Int) < 3 from q) (by decide)), (fun q => absurd (show (3 : Int) < 2 from q) (by decide))⟩ ?_
      rintro ⟨m, tm⟩ s6 ⟨S6, m1, m3, q3, q2⟩
      dsimp only at S6 m1 m3 q3 q2 ⊢
      refine t_and2 ?_
      (with_reducible refine t_cmp ?_)
      (with_reducible refine r_name (by assumption) (by assumption) (by walk_at "atv") ?_)
      (with_reducible refine r_int (by assumption) ?_; intro _ _ _)
      (with_reducible refine r_gt ?_)
      refine ⟨_, rfl, fun h1 => ?_, fun h1 => ?_⟩
      · have h1 := of_decide_eq_true h1
        (with_reducible refine t_cmp ?_)
        (with_reducible refine r_sub' ?_)
        (with_reducible refine r_name (by assumption) (by assumption) (by walk_at "atv") ?_)
        (with_reducible refine r_slice ?_)
        (with_reducible refine r_part0 ?_)
        (with_reducible refine r_part1 ?_)
        (with_reducible refine r_name (by assumption) (by assumption) (by walk_at "atv") ?_)
        (with_reducible refine r_part0 ?_)
        refine newsl (by assumption) ?_
        intro sl s7 hsl S7
        refine i_strslice (l := none) (u := some (m, tm)) S7 hsl (by rw [sizeLine_eq]; show x.cps.size ≤ _; omega) ?_
        intro ts s8 S8
        rw [show ((none : Option (Int × Tok)).map (·.1)) = none from rfl, show ((some (m, tm)).map (·.1)) = some m from rfl, slice_toI x (by omega)]
        (with_reducible refine r_glob (by assumption) (by assumption) (by walk_at "mem") (by walk_at "glb") ?_)
        (with_reducible refine r_notin (by assumption) ?_; intro _ _)
        refine ⟨_, rfl, fun h2 => ?_, fun h2 => ?_⟩
        · rw [Bool.not_eq_true'] at h2
          (with_reducible refine x_aug ?_)
          (with_reducible refine r_load (by assumption) (by assumption) (by walk_at "atv") ?_)
          (with_reducible refine r_int (by assumption) ?_; intro _ _ _)
          (with_reducible refine r_isub (by assumption) ?_; intro _ _ _)
          (with_reducible refine r_store (by assumption) (by assumption) (by walk_at "put") ?_; intro _ _)
          (with_reducible refine x_nil ?_)
          refine turn_next ⟨(m - 1, _), ⟨by assumption, by dsimp only; omega, by dsimp only; omega, ?_, ?_⟩, by dsimp only; omega⟩
          · intro q
            dsimp only at q
            by_cases hm : m = 3
            · subst hm; exact h2
            · exact q3 (by omega)
          · intro q
            dsimp only at q
            have hm : m = 2 := by omega
            subst hm; exact h2
        · rw [Bool.not_eq_false'] at h2
          refine or_next ⟨tm, ?_⟩
          have : (sizeOf x : Int) = m := by
            unfold sizeOf
            by_cases hm : m = 3
            · subst hm; rw [if_pos (show (tok (cut x 3)).isSome = true from h2)]; rfl
            · have hm : m = 2 := by omega
              subst hm; rw [if_neg (by rw [q3 (by decide)]; decide), if_pos (show (tok (cut x 2)).isSome = true from h2)]; rfl
          rw [this]; assumption
      · have h1 := of_decide_eq_false h1
        have hm : m = 1 := by omega
        subst hm
        refine ⟨(fun q => nomatch q), fun _ => or_next ⟨tm, ?_⟩⟩
        have : (sizeOf x : Int) = 1 := by unfold sizeOf; rw [if_neg (by rw [q3 (by decide)]; decide), if_neg (by rw [q2 (by decide)]; decide)]; rfl
        rw [this]; assumption
    · rintro s6 ⟨tk, S6⟩
      have hs1 : 1 ≤ sizeOf x ∧ sizeOf x ≤ 3 := by
        unfold sizeOf
        split
        · exact ⟨by decide, by decide⟩
        · split <;> exact ⟨by decide, by decide⟩
      refine then_next ?_
      (with_reducible refine x_expr (by assumption) ?_)
      (with_reducible refine r_meth ?_)
      (with_reducible refine r_name (by assumption) (by assumption) (by walk_at "atv") ?_)
      (intro (_ : Sem Bool))
      (with_reducible refine m_append (by walk_at "lst") ?_)
      (with_reducible refine c_bm ?_)
      (with_reducible refine a_cons ?_)
      (with_reducible refine r_meth ?_)
      (with_reducible refine r_glob (by assumption) (by assumption) (by walk_at "mem") (by walk_at "glb") ?_)
      (intro (_ : Sem Bool))
      (with_reducible refine m_get (St.G (by assumption)) ?_)
      (with_reducible refine c_bm ?_)
      (with_reducible refine a_cons ?_)
      (with_reducible refine r_sub' ?_)
      (with_reducible refine r_name (by assumption) (by assumption) (by walk_at "atv") ?_)
      (with_reducible refine r_slice ?_)
      (with_reducible refine r_part0 ?_)
      (with_reducible refine r_part1 ?_)
      (with_reducible refine r_name (by assumption) (by assumption) (by walk_at "atv") ?_)
      (with_reducible refine r_part0 ?_)
      refine newsl (by assumption) ?_
      intro sl s7 hsl S7
      refine i_strslice (l := none) (u := some (_, _)) S7 hsl (by rw [sizeLine_eq]; show x.cps.size ≤ _; omega) ?_
      intro ts s8 S8
      rw [show ((none : Option (Int × Tok)).map (·.1)) = none from rfl, show ∀ a : Int × Tok, ((some a).map (·.1)) = some a.1 from fun _ => rfl, slice_toI x (by omega)]
      rw [Int.toNat_natCast]
      (with_reducible refine a_cons ?_)
      (with_reducible refine r_int (by assumption) ?_; intro _ _ _)
      (with_reducible refine a_nil ?_)
      (with_reducible refine r_get (by assumption) ?_; intro _ _ _)
      (with_reducible refine a_nil ?_)
      (with_reducible refine r_append (by assumption) (by walk_at "up") (by walk_at "sz") ?_; intro _ _)
      (with_reducible refine x_asg ?_)
      (with_reducible refine r_sub' ?_)
      (with_reducible refine r_name (by assumption) (by assumption) (by walk_at "atv") ?_)
      (with_reducible refine r_slice ?_)
      (with_reducible refine r_part1 ?_)
      (with_reducible refine r_name (by assumption) (by assumption) (by walk_at "atv") ?_)
      (with_reducible refine r_part0 ?_)
      (with_reducible refine r_part0 ?_)
      refine newsl (by assumption) ?_
      intro sl' s9 hsl' S9
      refine i_strslice (l := some (_, _)) (u := none) S9 hsl' (by rw [sizeLine_eq]; show x.cps.size ≤ _; omega) ?_
      intro ts' s10 S10
      rw [show ((none : Option (Int × Tok)).map (·.1)) = none from rfl, show ∀ a : Int × Tok, ((some a).map (·.1)) = some a.1 from fun _ => rfl, slice_from]
      (with_reducible refine r_store (by assumption) (by assumption) (by walk_at "put") ?_; intro _ _)
      (with_reducible refine x_nil ?_)
      have hstep : readF f x = (tok (cut x (sizeOf x))).getD 0 :: readF (f - 1) ⟨(x.cps.toList.drop (sizeOf x)).toArray⟩ := by
        obtain ⟨f', rfl⟩ : ∃ f', f = f' + 1 := ⟨f - 1, by omega⟩
        rw [readF, if_neg hne]; rfl
      have hd : (⟨(x.cps.toList.drop (sizeOf x)).toArray⟩ : Str).cps.size = x.cps.size - sizeOf x := by simp
      refine turn_next ⟨(_, _, _, _), ⟨by assumption, ks ++ [(tok (cut x (sizeOf x))).getD 0], f - 1, IntsAre.append hI (.cons _ _ .nil), ?_, ?_, ?_⟩, ?_⟩
      · rw [hr, hstep, List.append_assoc]; rfl
      · dsimp only; rw [hd]; omega
      · dsimp only; rw [hd, List.length_append]; simp only [List.length_cons, List.length_nil]; omega
      · dsimp only; rw [hd]; omega
  · have hx : x = ⟨#[]⟩ := by
      have := bne_eq_false_iff_eq.mp hb
      exact this
    subst hx
    refine then_next ?_
    (with_reducible refine x_ret ?_)
    (with_reducible refine r_name (by assumption) (by assumption) (by walk_at "atv") ?_)
    have hend : readF f ⟨#[]⟩ = [] := by
      cases f with
      | zero => rfl
      | succ f => rw [readF, if_pos rfl]
    rw [hend, List.append_nil] at hr
    rename_i s6 S6
    exact h _ _ _ (St.after S6 Sub.rfl') ((S1.mf _ (.head _)).1) (S6.lst (.head _)) (hr ▸ hI)
end

theorem scan_bounds : ∀ (l : List Nat) (x : Ws) (k : Nat), x.cnt.length ≤ k → 0 ≤ x.b → x.b ≤ k → (scan l x).cnt.length ≤ k + l.length ∧ 0 ≤ (scan l x).b ∧ (scan l x).b ≤ k + l.length
  | [], x, k, h1, h2, h3 => ⟨by simpa [scan] using h1, by simpa [scan] using h2, by simpa [scan] using h3⟩
  | c :: r, x, k, h1, h2, h3 => by
    unfold scan
    split
    · have := scan_bounds r { x with n := x.n + 1, b := x.b + 1 } (k + 1) (by dsimp only; omega) (by dsimp only; omega) (by dsimp only; omega)
      simp only [List.length_cons]; omega
    · split
      · have hb : (bump x.cnt x.b.toNat).length ≤ k + 1 := by
          unfold bump; simp only [List.length_set, List.length_append, List.length_replicate]; omega
        have := scan_bounds r ⟨x.n + 1, x.nt + 1, bump x.cnt x.b.toNat, 0⟩ (k + 1) hb (Int.le_refl _) (by dsimp only; omega)
        simp only [List.length_cons]; omega
      · simp only [List.length_cons]; omega
def textOf (lead op : Str) : Str := lead ++ op ++ Str.ofString " \t"
def wsOf (lead op : Str) : Ws := scan (textOf lead op).cps.toList ws0
def Ws.same (x y : Ws) : Bool := decide (x.cnt = y.cnt) && decide (x.b = y.b)
def lastSame (pile : List (Ws × Str)) (y : Ws) : Nat → Int
  | 0 => -1
  | k + 1 => match pile[k]? with
    | some p => if p.1.same y then (k : Int) else lastSame pile y k
    | none => lastSame pile y k
def atOf (pile : List (Ws × Str)) (y : Ws) : Int := match pile.getLast? with
  | none => 0
  | some p => if p.1.less y then pile.length else lastSame pile y pile.length
def topLess (pile : List (Ws × Str)) (y : Ws) : Bool := match pile.getLast? with
  | none => true
  | some p => p.1.less y
def lastName (pile : List (Ws × Str)) : Str := match pile.getLast? with
  | none => Str.ofString ""
  | some p => p.2
def toldStep (st : List (Ws × Str) × List Str) (lead op : Str) : List (Ws × Str) × List Str :=
  let y := wsOf lead op
  let a := atOf st.1 y
  if 0 ≤ a then
    let p := st.1.take a.toNat
    let name := lastName p ++ op
    (p ++ [(y, name)], st.2 ++ [name])
  else (st.1, st.2 ++ [Str.ofString ""])
def toldF (leads ops : List Str) : Nat → List (Ws × Str) × List Str
  | 0 => ([], [])
  | k + 1 => toldStep (toldF leads ops k) (leads.getD k Str.empty) (ops.getD k Str.empty)
structure TI where
  pl : Addr
  items : List Value
  pile : List (Ws × Str)
  told : List Value
  line : Option Value
  at' : Option Value
  place : Option Value
  name : Option Value
def PileAt (g : Heap) : List Value → List (Ws × Str) → Prop
  | [], [] => True
  | v :: vs, p :: ps => (∃ ta xa t, v = .ref ta ∧ TObj g ta [.ref xa, .str p.2 t] ∧ WsAt (fun _ => True) g xa p.1) ∧ PileAt g vs ps
  | _, _ => False
theorem PileAt.mono {g g' : Heap} (s : Sub g g') : ∀ {vs : List Value} {ps : List (Ws × Str)}, PileAt g vs ps → PileAt g' vs ps
  | [], [], _ => trivial
  | _ :: _, _ :: _, ⟨⟨ta, xa, t, h1, h2, h3⟩, r⟩ => ⟨⟨ta, xa, t, h1, h2.mono s, h3.mono s⟩, PileAt.mono s r⟩
theorem PileAt.len {g : Heap} : ∀ {vs : List Value} {ps : List (Ws × Str)}, PileAt g vs ps → vs.length = ps.length
  | [], [], _ => rfl
  | _ :: _, _ :: _, ⟨_, r⟩ => by simp [PileAt.len r]
theorem PileAt.at {g : Heap} : ∀ {vs : List Value} {ps : List (Ws × Str)}, PileAt g vs ps → ∀ {i : Nat} {p : Ws × Str}, ps[i]? = some p → ∃ ta xa t, vs[i]? = some (.ref ta) ∧ TObj g ta [.ref xa, .str p.2 t] ∧ WsAt (fun _ => True) g xa p.1
  | [], [], _, i, p, h => by simp at h
  | _ :: _, _ :: _, ⟨⟨ta, xa, t, h1, h2, h3⟩, r⟩, 0, p, h => by simp at h; subst h h1; exact ⟨ta, xa, t, rfl, h2, h3⟩
  | _ :: _, _ :: _, ⟨_, r⟩, i + 1, p, h => by simp at h; simpa using PileAt.at r h
theorem PileAt.take {g : Heap} : ∀ {vs : List Value} {ps : List (Ws × Str)}, PileAt g vs ps → ∀ k : Nat, PileAt g (vs.take k) (ps.take k)
  | [], [], _, k => by simp [PileAt]
  | _ :: _, _ :: _, _, 0 => trivial
  | _ :: _, _ :: _, ⟨h, r⟩, k + 1 => ⟨h, PileAt.take r k⟩
theorem PileAt.snoc {g : Heap} {v : Value} {p : Ws × Str} (h : ∃ ta xa t, v = .ref ta ∧ TObj g ta [.ref xa, .str p.2 t] ∧ WsAt (fun _ => True) g xa p.1) : ∀ {vs : List Value} {ps : List (Ws × Str)}, PileAt g vs ps → PileAt g (vs ++ [v]) (ps ++ [p])
  | [], [], _ => ⟨h, trivial⟩
  | _ :: _, _ :: _, ⟨h', r⟩ => ⟨h', PileAt.snoc h r⟩
theorem lastSame_lt (pile : List (Ws × Str)) (y : Ws) : ∀ k, lastSame pile y k < k ∨ lastSame pile y k = -1
  | 0 => .inr rfl
  | k + 1 => by
    unfold lastSame
    have ih := lastSame_lt pile y k
    split
    · split
      · left; omega
      · omega
    · omega
theorem atOf_le (pile : List (Ws × Str)) (y : Ws) : atOf pile y ≤ pile.length := by
  unfold atOf
  split
  · omega
  · split
    · exact Int.le_refl _
    · have := lastSame_lt pile y pile.length; omega
section
variable {prog : Program} {w : World} {A : Around} {s : Shared} {n : Nat} {Q : Value → Shared → Prop} {P P' : Addr → Prop}
theorem told_call {la oa : Addr} {lvs ovs : List Value} {leads ops : List Str} (Am : Amb (n + 4) A) (G : Gd w s.heap) (hl : LObj s.heap la lvs) (ho : LObj s.heap oa ovs) (iL : StrsAre lvs leads) (iO : StrsAre ovs ops) (hlen : leads.length = ops.length) (hn : leads.length ≤ 100)
    (bL : ∀ x ∈ leads, x.cps.size ≤ 100) (bO : ∀ x ∈ ops, x.cps.size ≤ 100)
    (h : ∀ a vs s', After s s' → s.heap.get? a = none → LObj s'.heap a vs → StrsAre vs (toldF leads ops leads.length).2 → Q (.ref a) s') : Wp prog w A (call (.ref 123) [.ref la, .ref oa]) Q s := by
  refine enter [Str.ofString "leads", Str.ofString "operators"] [Str.ofString "pile", Str.ofString "told", Str.ofString "k", Str.ofString "line", Str.ofString "at", Str.ofString "place", Str.ofString "name"] [Str.ofString "Whitespace", Str.ofString "len", Str.ofString "range"] Am G rfl rfl rfl rfl (by kernel_rfl) rfl rfl rfl (by decide +kernel) (by decide +kernel) (by decide +kernel) (by decide +kernel) rfl rfl ?_
  intro e L s' C S
  dsimp only [List.map, List.cons_append, List.nil_append] at C S
  have Am' := Am.deeper e
  have hlv := StrsAre.len_eq iL
  have hov := StrsAre.len_eq iO
  (with_reducible refine x_asg ?_)
  (with_reducible refine r_list ?_)
  (with_reducible refine a_nil ?_)
  refine n_list (by assumption) (by walk_at "sz") ?_
  intro pl s1 hpl hs1 S1
  (with_reducible refine r_store (by assumption) (by assumption) (by walk_at "put") ?_; intro _ _)
  (with_reducible refine x_asg ?_)
  (with_reducible refine r_list ?_)
  (with_reducible refine a_nil ?_)
  refine n_list (by assumption) (by walk_at "sz") ?_
  intro tl s2 htl hs2 S2
  (with_reducible refine r_store (by assumption) (by assumption) (by walk_at "put") ?_; intro _ _)
  (with_reducible refine x_for ?_)
  (with_reducible refine r_call ?_)
  (with_reducible refine r_blt (by assumption) (by assumption) (by walk_at "mem") (by walk_at "blt") ?_)
  (with_reducible refine c_ty ?_)
  (with_reducible refine a_cons ?_)
  (with_reducible refine r_call ?_)
  (with_reducible refine r_blt (by assumption) (by assumption) (by walk_at "mem") (by walk_at "blt") ?_)
  (with_reducible refine c_bi ?_)
  (with_reducible refine a_cons ?_)
  (with_reducible refine r_name (by assumption) (by assumption) (by walk_at "atv") ?_)
  (with_reducible refine a_nil ?_)
  (with_reducible refine r_lenl (by assumption) (by walk_at "li") (by omega) ?_; intro _ _ _)
  (with_reducible refine a_nil ?_)
  (with_reducible refine r_range1 (by assumption) ?_; intro _ _ _ _)
  (with_reducible refine p_range (by assumption) (by assumption) (by assumption) (by first | decide | omega) (by first | decide | omega) (by first | decide | omega) (by first | decide | omega) ?_; intro _ _ _ _ _)
  rename_i I oI s4 hIt S4
  refine loop (σ := TI) (σ₀ := ⟨pl, [], [], [], none, none, none, none⟩) (o₀ := none) (fun σ o => [some (.ref la), some (.ref oa), some (.ref σ.pl), some (.ref tl), o, σ.line, σ.at', σ.place, σ.name]) (fun σ => [(tl, .list σ.told), (σ.pl, .list σ.items)])
    (fun k g σ => PileAt g σ.items σ.pile ∧ ∃ ts, StrsAre σ.told ts ∧ toldF leads ops k = (σ.pile, ts) ∧ σ.pile.length ≤ k ∧ ts.length = k ∧ ∀ p ∈ σ.pile, p.2.cps.size ≤ 100 * k ∧ p.1.cnt.length ≤ 202 ∧ p.1.b ≤ 202) C hIt S4 (fun σ o v => by walk_at "put") ⟨trivial, [], .nil, rfl, Nat.le_refl _, rfl, (fun _ h => by cases h)⟩ ?_ ?_
  · rintro i v g' ⟨pl', items, pile, told, o1, o2, o3, o4⟩ oI' s5 hi ⟨t, rfl⟩ hg ⟨hP, ts, iT, hF, hpk, htk, hnm⟩ S5
    dsimp only at S5 hP iT hF hpk hnm
    have hil : i < leads.length := by omega
    have hio : i < ops.length := by omega
    obtain ⟨tk1, hv1⟩ := StrsAre.at iL (List.getElem?_eq_getElem hil)
    obtain ⟨tk2, hv2⟩ := StrsAre.at iO (List.getElem?_eq_getElem hio)
    have hl' := hl.mono hg
    have ho' := ho.mono hg
    have ei : (0 + (i : Int)).toNat = i := z_tn _
    have bl1 := bL _ (List.getElem_mem hil)
    have bo1 := bO _ (List.getElem_mem hio)
    have hcat : ∀ x y : Str, (x ++ y).cps.size = x.cps.size + y.cps.size := fun x y => strLen_append x y
    have hsp : (Str.ofString " \t").cps.size = 2 := by decide +kernel
    have hlen : ∀ x : Str, x.length = x.cps.size := fun _ => rfl
    (with_reducible refine x_asg ?_)
    (with_reducible refine r_call ?_)
    (with_reducible refine r_glob (by assumption) (by assumption) (by walk_at "mem") (by walk_at "glb") ?_)
    (with_reducible refine c_fn (by walk_at "kp") ?_)
    (with_reducible refine a_cons ?_)
    (with_reducible refine r_bin ?_)
    (with_reducible refine r_bin ?_)
    (with_reducible refine r_sub' ?_)
    (with_reducible refine r_name (by assumption) (by assumption) (by walk_at "atv") ?_)
    (with_reducible refine r_name (by assumption) (by assumption) (by walk_at "atv") ?_)
    refine i_list (by walk_at "li") (by first | exact z_nn _ | exact c_nn _ | decide | omega) (by first | decide | omega) (by rw [ei]; exact hv1) ?_
    (with_reducible refine r_sub' ?_)
    (with_reducible refine r_name (by assumption) (by assumption) (by walk_at "atv") ?_)
    (with_reducible refine r_name (by assumption) (by assumption) (by walk_at "atv") ?_)
    refine i_list (by walk_at "li") (by first | exact z_nn _ | exact c_nn _ | decide | omega) (by first | decide | omega) (by rw [ei]; exact hv2) ?_
    skip
    refine r_cat (by assumption) (by rw [hlen, hlen, sizeLine_eq]; omega) ?_
    intro _ _ _
    (with_reducible refine r_str (by assumption) ?_; intro _ _ _)
    refine r_cat (by assumption) (by rw [hlen, hlen, hcat, hsp, sizeLine_eq]; omega) ?_
    intro tt s6 S6
    (with_reducible refine a_nil ?_)
    ((with_reducible show Gd _ _ ∧ _); refine And.intro (St.G (by assumption)) ?_)
    have htz : (leads[i] ++ ops[i] ++ Str.ofString " \t").cps.size ≤ 202 := by rw [hcat, hcat, hsp]; omega
    refine ws_call (n := n) (Am'.le (by first | exact Nat.le_add_right _ _ | exact Nat.add_le_add_left (by decide) _ | omega)) (St.G (by assumption)) (by omega) ?_
    intro x s7 a7 W7
    have S7 := After.st a7 (by assumption)
    obtain ⟨g7, hg7, S8, W8⟩ := St.freezeWs (by assumption) S7 W7
    have P8 := hP.mono hg7
    have hpl := PileAt.len hP
    have hwy : scan (leads[i] ++ ops[i] ++ Str.ofString " \t").cps.toList ws0 = wsOf leads[i] ops[i] := rfl
    rw [hwy] at W8
    have wb := scan_bounds (textOf leads[i] ops[i]).cps.toList ws0 0 (Nat.le_refl _) (Int.le_refl _) (Int.le_refl _)
    have htl : (textOf leads[i] ops[i]).cps.toList.length ≤ 202 := by rw [Array.length_toList]; exact htz
    (with_reducible refine r_store (by assumption) (by assumption) (by walk_at "put") ?_; intro _ _)
    (with_reducible refine x_asg ?_)
    (with_reducible refine r_un ?_)
    (with_reducible refine r_int (by assumption) ?_; intro _ _ _)
    (with_reducible refine r_neg (by assumption) ?_; intro _ _ _)
    (with_reducible refine r_store (by assumption) (by assumption) (by walk_at "put") ?_; intro _ _)
    (with_reducible refine x_if ?_)
    rename_i ta _ _ s9 S9
    refine Wp.mono (Q := fun b s1 => b = topLess pile (wsOf leads[i] ops[i]) ∧ St w s g7 L [Str.ofString "leads", Str.ofString "operators", Str.ofString "pile", Str.ofString "told", Str.ofString "k", Str.ofString "line", Str.ofString "at", Str.ofString "place", Str.ofString "name"]
      [some (.ref la), some (.ref oa), some (.ref pl'), some (.ref tl), some (.int (0 + (i : Int)) t), some (.ref x), some (.int (-1) ta), o3, o4] [(I, .obj oI'), (tl, .list told), (pl', .list items)] s1) ?_ ?_
    · refine t_or2 ?_
      (with_reducible refine t_cmp ?_)
      (with_reducible refine r_name (by assumption) (by assumption) (by walk_at "atv") ?_)
      (with_reducible refine r_list ?_)
      (with_reducible refine a_nil ?_)
      refine n_list (by assumption) (by walk_at "sz") ?_
      intro el s10 _ _ S10
      (with_reducible refine q_eq_nil (by assumption) (by walk_at "lst") (by walk_at "lst") ?_)
      refine ⟨_, rfl, fun hb => ?_, fun hb => ?_⟩
      · have : items = [] := by simpa using hb
        subst this
        have : pile = [] := by simpa using hpl.symm
        subst this
        exact ⟨rfl, St.pick (by assumption) (by walk_at "pick")⟩
      · have hne : pile ≠ [] := by
          rintro rfl
          have : items = [] := by simpa using hpl
          subst this
          simp at hb
        have hlt : pile.length - 1 < pile.length := by have := List.length_pos_iff.mpr hne; omega
        obtain ⟨tp, xp, tkp, hx1, hx2, hx3⟩ := P8.at (List.getElem?_eq_getElem hlt)
        (with_reducible refine t_val ?_)
        (with_reducible refine r_meth ?_)
        (with_reducible refine r_sub' ?_)
        (with_reducible refine r_sub' ?_)
        (with_reducible refine r_name (by assumption) (by assumption) (by walk_at "atv") ?_)
        (with_reducible refine r_un ?_)
        (with_reducible refine r_int (by assumption) ?_; intro _ _ _)
        (with_reducible refine r_neg (by assumption) ?_; intro _ _ _)
        refine i_listneg (by walk_at "li") (by omega) (by omega) (by omega) (by rw [show ((-1 : Int) + items.length).toNat = pile.length - 1 by omega]; exact hx1) ?_
        (with_reducible refine r_int (by assumption) ?_; intro _ _ _)
        refine i_tup (by walk_at "tup") (by first | exact z_nn _ | exact c_nn _ | decide | omega) (by first | decide | omega) rfl ?_
        (intro (_ : Sem Bool))
        (with_reducible refine m_less (by assumption) (by assumption) ?_)
        (with_reducible refine c_fm (by walk_at "kp") ?_)
        (with_reducible refine a_cons ?_)
        (with_reducible refine r_name (by assumption) (by assumption) (by walk_at "atv") ?_)
        (with_reducible refine a_nil ?_)
        ((with_reducible show Gd _ _ ∧ _); refine And.intro (St.G (by assumption)) ?_)
        have hb1 := hnm _ (List.getElem_mem hlt)
        refine less_call (n := n) (Am'.le (by first | exact Nat.le_add_right _ _ | exact Nat.add_le_add_left (by decide) _ | omega)) (St.G (by assumption)) (hx3.mono (St.keep (by assumption))) (W8.mono (St.keep (by assumption))) (by omega) (by unfold wsOf; omega) (by omega) (by unfold wsOf; omega) ?_
        intro s11 a11
        have S11 := After.st a11 (by assumption)
        refine ⟨_, rfl, ?_, S11.pick (by walk_at "pick")⟩
        unfold topLess
        rw [List.getLast?_eq_getElem?, List.getElem?_eq_getElem hlt]
    · rintro b s10 ⟨rfl, S10⟩
      refine if_join (fun s' => ∃ g9 tk op, Sub g7 g9 ∧ St w s g9 L [Str.ofString "leads", Str.ofString "operators", Str.ofString "pile", Str.ofString "told", Str.ofString "k", Str.ofString "line", Str.ofString "at", Str.ofString "place", Str.ofString "name"]
        [some (.ref la), some (.ref oa), some (.ref pl'), some (.ref tl), some (.int (0 + (i : Int)) t), some (.ref x), some (.int (atOf pile (wsOf leads[i] ops[i])) tk), op, o4] [(I, .obj oI'), (tl, .list told), (pl', .list items)] s') ?_ ?_ ?_
      · intro hb
        (with_reducible refine x_asg ?_)
        (with_reducible refine r_call ?_)
        (with_reducible refine r_blt (by assumption) (by assumption) (by walk_at "mem") (by walk_at "blt") ?_)
        (with_reducible refine c_bi ?_)
        (with_reducible refine a_cons ?_)
        (with_reducible refine r_name (by assumption) (by assumption) (by walk_at "atv") ?_)
        (with_reducible refine a_nil ?_)
        (with_reducible refine r_lenl (by assumption) (by walk_at "li") (by omega) ?_; intro _ _ _)
        (with_reducible refine r_store (by assumption) (by assumption) (by walk_at "put") ?_; intro _ _)
        (with_reducible refine x_nil ?_)
        have : atOf pile (wsOf leads[i] ops[i]) = (items.length : Int) := by
          unfold atOf
          unfold topLess at hb
          rw [hpl]
          split
          · rename_i q; rw [List.getLast?_eq_none_iff] at q; subst q; rfl
          · rename_i p q; rw [q] at hb; rw [if_pos hb]
        rename_i tq _ _ s12 S12
        exact join_next ⟨g7, tq, o3, Sub.rfl', this ▸ S12⟩
      · intro hb
        obtain ⟨pt, hpt⟩ : ∃ pt, pile.getLast? = some pt := by
          cases q : pile.getLast? with
          | none => unfold topLess at hb; rw [q] at hb; cases hb
          | some pt => exact ⟨pt, rfl⟩
        have hat : atOf pile (wsOf leads[i] ops[i]) = lastSame pile (wsOf leads[i] ops[i]) pile.length := by
          unfold atOf
          unfold topLess at hb
          rw [hpt] at hb ⊢
          dsimp only at hb ⊢
          rw [if_neg (by rw [hb]; decide)]
        (with_reducible refine x_for ?_)
        (with_reducible refine r_call ?_)
        (with_reducible refine r_blt (by assumption) (by assumption) (by walk_at "mem") (by walk_at "blt") ?_)
        (with_reducible refine c_ty ?_)
        (with_reducible refine a_cons ?_)
        (with_reducible refine r_call ?_)
        (with_reducible refine r_blt (by assumption) (by assumption) (by walk_at "mem") (by walk_at "blt") ?_)
        (with_reducible refine c_bi ?_)
        (with_reducible refine a_cons ?_)
        (with_reducible refine r_name (by assumption) (by assumption) (by walk_at "atv") ?_)
        (with_reducible refine a_nil ?_)
        (with_reducible refine r_lenl (by assumption) (by walk_at "li") (by omega) ?_; intro _ _ _)
        (with_reducible refine a_nil ?_)
        (with_reducible refine r_range1 (by assumption) ?_; intro _ _ _ _)
        (with_reducible refine p_range (by assumption) (by assumption) (by assumption) (by first | decide | omega) (by first | decide | omega) (by first | decide | omega) (by first | decide | omega) ?_; intro _ _ _ _ _)
        rename_i I2 oI2 s11 hIt2 S11
        refine loop (σ := Int × Tok) (σ₀ := (-1, ta)) (o₀ := o3) (fun σ o => [some (.ref la), some (.ref oa), some (.ref pl'), some (.ref tl), some (.int (0 + (i : Int)) t), some (.ref x), some (.int σ.1 σ.2), o, o4])
          (fun σ => [(I, .obj oI'), (tl, .list told), (pl', .list items)]) (fun k _ σ => σ.1 = lastSame pile (wsOf leads[i] ops[i]) k) C hIt2 S11 (fun σ o v => by walk_at "put") rfl ?_ ?_
        · rintro j v g9 ⟨at1, tka⟩ oI3 s12 hj ⟨tj, rfl⟩ hg9 hJ S12
          dsimp only at hJ S12
          have hjl : j < pile.length := by omega
          obtain ⟨tp, xp, tkp, hx1, hx2, hx3⟩ := (P8.mono hg9).at (List.getElem?_eq_getElem hjl)
          have W9 := W8.mono hg9
          have ej : (0 + (j : Int)).toNat = j := z_tn _
          have hstep : lastSame pile (wsOf leads[i] ops[i]) (j + 1) = if pile[j].1.same (wsOf leads[i] ops[i]) then (j : Int) else lastSame pile (wsOf leads[i] ops[i]) j := by
            rw [lastSame, List.getElem?_eq_getElem hjl]
          (with_reducible refine x_if ?_)
          (with_reducible refine t_val ?_)
          (with_reducible refine r_meth ?_)
          (with_reducible refine r_sub' ?_)
          (with_reducible refine r_sub' ?_)
          (with_reducible refine r_name (by assumption) (by assumption) (by walk_at "atv") ?_)
          (with_reducible refine r_name (by assumption) (by assumption) (by walk_at "atv") ?_)
          refine i_list (by walk_at "li") (by first | exact z_nn _ | exact c_nn _ | decide | omega) (by first | decide | omega) (by rw [ej]; exact hx1) ?_
          (with_reducible refine r_int (by assumption) ?_; intro _ _ _)
          refine i_tup (by walk_at "tup") (by first | exact z_nn _ | exact c_nn _ | decide | omega) (by first | decide | omega) rfl ?_
          (intro (_ : Sem Bool))
          (with_reducible refine m_equal (by assumption) (by assumption) ?_)
          (with_reducible refine c_fm (by walk_at "kp") ?_)
          (with_reducible refine a_cons ?_)
          (with_reducible refine r_name (by assumption) (by assumption) (by walk_at "atv") ?_)
          (with_reducible refine a_nil ?_)
          ((with_reducible show Gd _ _ ∧ _); refine And.intro (St.G (by assumption)) ?_)
          refine equal_call (n := n) (Am'.le (by first | exact Nat.le_add_right _ _ | exact Nat.add_le_add_left (by decide) _ | omega)) (St.G (by assumption)) (hx3.mono (St.keep (by assumption))) (W9.mono (St.keep (by assumption))) ?_
          intro s13 a13
          have S13 := After.st a13 (by assumption)
          refine ⟨_, rfl, fun hc => ?_, fun hc => ?_⟩
          · (with_reducible refine x_asg ?_)
            (with_reducible refine r_name (by assumption) (by assumption) (by walk_at "atv") ?_)
            (with_reducible refine r_store (by assumption) (by assumption) (by walk_at "put") ?_; intro _ _)
            (with_reducible refine x_nil ?_)
            (with_reducible refine then_next ?_)
            (with_reducible refine x_nil ?_)
            refine turn_next ⟨g9, (_, _), _, Sub.rfl', ?_, by assumption⟩
            rw [hstep, if_pos (show pile[j].1.same (wsOf leads[i] ops[i]) = true from hc)]
            dsimp only; omega
          · (with_reducible refine x_nil ?_)
            (with_reducible refine then_next ?_)
            (with_reducible refine x_nil ?_)
            refine turn_next ⟨g9, (_, _), _, Sub.rfl', ?_, by assumption⟩
            rw [hstep, if_neg (show ¬ pile[j].1.same (wsOf leads[i] ops[i]) = true by rw [show pile[j].1.same (wsOf leads[i] ops[i]) = false from hc]; decide)]
            exact hJ
        · rintro g9 ⟨at1, tka⟩ o5 s12 hg9 hJ S12
          dsimp only at hJ S12
          refine then_next ?_
          (with_reducible refine x_nil ?_)
          rw [show ((items.length : Int) - 0).toNat = pile.length by omega, ← hat] at hJ
          subst hJ
          exact join_next ⟨g9, tka, o5, hg9, S12⟩
      · rintro s11 ⟨g9, tk, op, hg9, S11⟩
        have P9 := P8.mono hg9
        have W9 := W8.mono hg9
        have hl9 := (hl'.mono hg7).mono hg9
        have ho9 := (ho'.mono hg7).mono hg9
        have hle : atOf pile (wsOf leads[i] ops[i]) ≤ pile.length := atOf_le _ _
        have hst : toldF leads ops (i + 1) = toldStep (pile, ts) leads[i] ops[i] := by
          rw [toldF, hF, List.getD_eq_getElem?_getD, List.getD_eq_getElem?_getD, List.getElem?_eq_getElem hil, List.getElem?_eq_getElem hio]; rfl
        (with_reducible refine x_asg ?_)
        (with_reducible refine r_str (by assumption) ?_; intro _ _ _)
        (with_reducible refine r_store (by assumption) (by assumption) (by walk_at "put") ?_; intro _ _)
        (with_reducible refine x_if ?_)
        (with_reducible refine t_cmp ?_)
        (with_reducible refine r_name (by assumption) (by assumption) (by walk_at "atv") ?_)
        (with_reducible refine r_int (by assumption) ?_; intro _ _ _)
        (with_reducible refine r_ge ?_)
        rename_i t0 _ _ _ _ _ _ _
        refine ⟨_, rfl, ?_⟩
        refine if_join (fun s' => ∃ g10 pl2 items2 pile2 nm tkn, Sub g9 g10 ∧ PileAt g10 items2 pile2 ∧ toldStep (pile, ts) leads[i] ops[i] = (pile2, ts ++ [nm]) ∧ nm.cps.size ≤ 100 * (i + 1) ∧ pile2.length ≤ i + 1 ∧ (∀ p ∈ pile2, p.2.cps.size ≤ 100 * (i + 1) ∧ p.1.cnt.length ≤ 202 ∧ p.1.b ≤ 202) ∧
          St w s g10 L [Str.ofString "leads", Str.ofString "operators", Str.ofString "pile", Str.ofString "told", Str.ofString "k", Str.ofString "line", Str.ofString "at", Str.ofString "place", Str.ofString "name"]
          [some (.ref la), some (.ref oa), some (.ref pl2), some (.ref tl), some (.int (0 + (i : Int)) t), some (.ref x), some (.int (atOf pile (wsOf leads[i] ops[i])) tk), op, some (.str nm tkn)] [(I, .obj oI'), (tl, .list told), (pl2, .list items2)] s') ?_ ?_ ?_
        · intro ha
          have ha := of_decide_eq_true ha
          obtain ⟨a, hea⟩ := Int.eq_ofNat_of_zero_le ha
          (with_reducible refine x_asg ?_)
          (with_reducible refine r_sub' ?_)
          (with_reducible refine r_name (by assumption) (by assumption) (by walk_at "atv") ?_)
          (with_reducible refine r_slice ?_)
          (with_reducible refine r_part0 ?_)
          (with_reducible refine r_part1 ?_)
          (with_reducible refine r_name (by assumption) (by assumption) (by walk_at "atv") ?_)
          (with_reducible refine r_part0 ?_)
          refine newsl (by assumption) ?_
          intro sl s12 hsl S12
          refine i_lslice S12 (by walk_at "li") hsl .none (.int _ _) .none (by decide) (by rw [sizeLine_eq]; omega) ?_
          intro npl s13 hnpl S13
          rw [show slicePick items.toArray none (some (atOf pile (wsOf leads[i] ops[i]))) none = (items.take a).toArray by rw [hea, slicePick_upto']] at S13
          have S13' := S13.pick (mu' := [(I, .obj oI'), (tl, .list told), (npl, .list (items.take a))]) (by walk_at "pick")
          have PT := P9.take a
          have hlT := PileAt.len PT
          have hlT' : (pile.take a).length ≤ pile.length := by rw [List.length_take]; omega
          (with_reducible refine r_store (by assumption) (by assumption) (by walk_at "put") ?_; intro _ _)
          (with_reducible refine x_asg ?_)
          (with_reducible refine r_bin ?_)
          refine Wp.mono (Q := fun v s1 => ∃ t1, v = .str (lastName (pile.take a)) t1 ∧ St w s g9 L [Str.ofString "leads", Str.ofString "operators", Str.ofString "pile", Str.ofString "told", Str.ofString "k", Str.ofString "line", Str.ofString "at", Str.ofString "place", Str.ofString "name"]
            [some (.ref la), some (.ref oa), some (.ref npl), some (.ref tl), some (.int (0 + (i : Int)) t), some (.ref x), some (.int (atOf pile (wsOf leads[i] ops[i])) tk), op, some (.str (Str.ofString "") t0)] [(I, .obj oI'), (tl, .list told), (npl, .list (items.take a))] s1) ?_ ?_
          · refine r_ifexp ?_
            (with_reducible refine t_cmp ?_)
            (with_reducible refine r_name (by assumption) (by assumption) (by walk_at "atv") ?_)
            (with_reducible refine r_list ?_)
            (with_reducible refine a_nil ?_)
            refine n_list (by assumption) (by walk_at "sz") ?_
            intro el s15 _ _ S15
            (with_reducible refine q_ne_nil (by assumption) (by walk_at "lst") (by walk_at "lst") ?_)
            refine ⟨_, rfl, fun hb => ?_, fun hb => ?_⟩
            · have hne : pile.take a ≠ [] := by
                intro q
                rw [q] at hlT
                have : items.take a = [] := by simpa using hlT
                rw [this] at hb
                simp at hb
              have hlt : (pile.take a).length - 1 < (pile.take a).length := by have := List.length_pos_iff.mpr hne; omega
              obtain ⟨tp, xp, tkp, hx1, hx2, hx3⟩ := PT.at (List.getElem?_eq_getElem hlt)
              (with_reducible refine r_sub' ?_)
              (with_reducible refine r_sub' ?_)
              (with_reducible refine r_name (by assumption) (by assumption) (by walk_at "atv") ?_)
              (with_reducible refine r_un ?_)
              (with_reducible refine r_int (by assumption) ?_; intro _ _ _)
              (with_reducible refine r_neg (by assumption) ?_; intro _ _ _)
              refine i_listneg (by walk_at "li") (by omega) (by omega) (by omega) (by rw [show ((-1 : Int) + (items.take a).length).toNat = (pile.take a).length - 1 by omega]; exact hx1) ?_
              (with_reducible refine r_int (by assumption) ?_; intro _ _ _)
              refine i_tup (by walk_at "tup") (by first | exact z_nn _ | exact c_nn _ | decide | omega) (by first | decide | omega) rfl ?_
              refine ⟨tkp, ?_, St.pick (by assumption) (by walk_at "pick")⟩
              unfold lastName
              rw [List.getLast?_eq_getElem?, List.getElem?_eq_getElem hlt]
            · have hnil : items.take a = [] := by simpa using hb
              have hnil' : pile.take a = [] := by rw [hnil] at hlT; simpa using hlT.symm
              (with_reducible refine r_str (by assumption) ?_; intro _ _ _)
              rename_i tq _ _
              have hln : lastName (pile.take a) = Str.ofString "" := by rw [hnil']; rfl
              exact ⟨tq, by rw [hln], St.pick (by assumption) (by walk_at "pick")⟩
          · rintro v s15 ⟨t1, rfl, S15⟩
            have hnl : (lastName (pile.take a)).cps.size ≤ 100 * i := by
              unfold lastName
              split
              · exact Nat.zero_le _
              · rename_i p q
                exact (hnm p (List.mem_of_mem_take (List.mem_of_getLast? q))).1
            (with_reducible refine r_sub' ?_)
            (with_reducible refine r_name (by assumption) (by assumption) (by walk_at "atv") ?_)
            (with_reducible refine r_name (by assumption) (by assumption) (by walk_at "atv") ?_)
            refine i_list (by walk_at "li") (by first | exact z_nn _ | exact c_nn _ | decide | omega) (by first | decide | omega) (by rw [ei]; exact hv2) ?_
            skip
            refine r_cat (by assumption) (by rw [hlen, hlen, sizeLine_eq]; omega) ?_
            intro tn _ _
            (with_reducible refine r_store (by assumption) (by assumption) (by walk_at "put") ?_; intro _ _)
            (with_reducible refine x_expr (by assumption) ?_)
            (with_reducible refine r_meth ?_)
            (with_reducible refine r_name (by assumption) (by assumption) (by walk_at "atv") ?_)
            (intro (_ : Sem Bool))
            (with_reducible refine m_append (by walk_at "lst") ?_)
            (with_reducible refine c_bm ?_)
            (with_reducible refine a_cons ?_)
            (with_reducible refine r_tuple ?_)
            (with_reducible refine a_cons ?_)
            (with_reducible refine r_name (by assumption) (by assumption) (by walk_at "atv") ?_)
            (with_reducible refine a_cons ?_)
            (with_reducible refine r_name (by assumption) (by assumption) (by walk_at "atv") ?_)
            (with_reducible refine a_nil ?_)
            refine n_tuple (by assumption) (by walk_at "sz") ?_
            intro tp s17 htp _ S17
            (with_reducible refine a_nil ?_)
            (with_reducible refine r_append (by assumption) (by walk_at "up") (by walk_at "sz") ?_; intro _ _)
            (with_reducible refine x_nil ?_)
            rename_i s18 S18
            obtain ⟨g10, hg10, S19, T10⟩ := S18.freezeHead
            have hnn : (lastName (pile.take a) ++ ops[i]).cps.size ≤ 100 * (i + 1) := by rw [hcat]; omega
            refine join_next ⟨g10, npl, items.take a ++ [.ref tp], pile.take a ++ [(wsOf leads[i] ops[i], lastName (pile.take a) ++ ops[i])], lastName (pile.take a) ++ ops[i], tn, hg10, ?_, ?_, hnn, ?_, ?_, S19⟩
            · have T10' : TObj g10 tp [.ref x, .str (lastName (pile.take a) ++ ops[i]) tn] := T10
              exact PileAt.snoc (p := (wsOf leads[i] ops[i], lastName (pile.take a) ++ ops[i])) ⟨tp, x, tn, rfl, T10', W9.mono hg10⟩ (PT.mono hg10)
            · unfold toldStep
              dsimp only
              rw [if_pos ha, hea]
              rfl
            · rw [List.length_append]; simp only [List.length_cons, List.length_nil]; omega
            · intro p hp
              rcases List.mem_append.mp hp with hp | hp
              · have := hnm p (List.mem_of_mem_take hp); omega
              · rw [List.mem_singleton.mp hp]
                exact ⟨hnn, by show (scan (textOf leads[i] ops[i]).cps.toList ws0).cnt.length ≤ 202; omega, by show (scan (textOf leads[i] ops[i]).cps.toList ws0).b ≤ 202; omega⟩
        · intro ha
          have ha := of_decide_eq_false ha
          (with_reducible refine x_nil ?_)
          refine join_next ⟨g9, pl', items, pile, Str.ofString "", t0, Sub.rfl', P9, ?_, Nat.zero_le _, by omega, ?_, by assumption⟩
          · unfold toldStep
            dsimp only
            rw [if_neg ha]
          · intro p hp
            have := hnm p hp; omega
        · rintro s12 ⟨g10, pl2, items2, pile2, nm, tkn, hg10, PP, hstp, hn1, hn2, hn3, S12⟩
          have htl2 := StrsAre.len_eq iT
          (with_reducible refine x_expr (by assumption) ?_)
          (with_reducible refine r_meth ?_)
          (with_reducible refine r_name (by assumption) (by assumption) (by walk_at "atv") ?_)
          (intro (_ : Sem Bool))
          (with_reducible refine m_append (by walk_at "lst") ?_)
          (with_reducible refine c_bm ?_)
          (with_reducible refine a_cons ?_)
          (with_reducible refine r_name (by assumption) (by assumption) (by walk_at "atv") ?_)
          (with_reducible refine a_nil ?_)
          (with_reducible refine r_append (by assumption) (by walk_at "up") (by walk_at "sz") ?_; intro _ _)
          (with_reducible refine x_nil ?_)
          refine turn_next ⟨g10, ⟨pl2, items2, pile2, _, _, _, _, _⟩, _, (hg7.trans hg9).trans hg10, ⟨PP, ts ++ [nm], StrsAre.append' iT (.cons nm tkn .nil), hst.trans hstp, hn2, by rw [List.length_append]; simp only [List.length_cons, List.length_nil]; omega, hn3⟩, by assumption⟩
  · rintro g' ⟨pl', items, pile, told, o1, o2, o3, o4⟩ o s5 hg ⟨hP, ts, iT, hF, hpk, htk, hnm⟩ S5
    dsimp only at S5 iT hF
    refine then_next ?_
    (with_reducible refine x_ret ?_)
    (with_reducible refine r_name (by assumption) (by assumption) (by walk_at "atv") ?_)
    have e1 : ((lvs.length : Int) - 0).toNat = leads.length := by omega
    rw [e1] at hF
    refine h tl told _ (St.after S5 hg) (S2.mf _ (.head _)).1 (S5.lst (.head _)) ?_
    rw [hF]; exact iT
end

def Blank (x : Str) : Prop := ∀ c ∈ x.cps.toList, c = 32 ∨ c = 9
theorem Blank.app {x y : Str} (hx : Blank x) (hy : Blank y) : Blank (x ++ y) := by
  intro c hc
  have : c ∈ x.cps.toList ++ y.cps.toList := by
    have e : (x ++ y).cps.toList = x.cps.toList ++ y.cps.toList := by show (x.cps ++ y.cps).toList = _; simp
    rwa [e] at hc
  rcases List.mem_append.mp this with h | h
  · exact hx c h
  · exact hy c h
theorem app_size (x y : Str) : (x ++ y).cps.size = x.cps.size + y.cps.size := strLen_append x y
theorem Blank.rep {x : Str} {n : Nat} {c : Nat} (hc : c = 32 ∨ c = 9) (h : x.cps.toList = List.replicate n c) : Blank x := by
  intro d hd
  rw [h] at hd
  rw [List.eq_of_mem_replicate hd]; exact hc
theorem r_mulc {prog : Program} {w : World} {A : Around} {s₀ s : Shared} {g : Heap} {L : Addr} {ns : List Str} {loc : List (Option Value)} {mu : List (Addr × MO)} {Q : Value → Shared → Prop} {y : Str} {n : Int} {t u : Tok} (c : Nat) (S : St w s₀ g L ns loc mu s) (hy : y = ⟨#[c]⟩) (h0 : 0 ≤ n) (h1 : n ≤ 1000)
    (k : ∀ x t s', St w s₀ g L ns loc mu s' → x.cps.toList = List.replicate n.toNat c → x.cps.size = n.toNat → Q (.str x t) s') : Wp prog w A (binaryOp .Mult (.str y t) (.int n u)) Q s := by
  subst hy
  have hr := mul_one_list c n
  refine ⟨SB.mul ⟨by simp; omega, fun h2 _ => ?_, fun _ _ => ?_⟩ fun t' k' => k _ t' _ (S.toks _) hr (by rw [← Array.length_toList, hr, List.length_replicate])⟩
  · have : (1 : Int) ≤ (2 ^ 63 - 1) / n := (Int.le_ediv_iff_mul_le (by omega)).mpr (by omega)
    have hl : ((⟨#[c]⟩ : Str).length : Int) = 1 := rfl
    rw [hl]; omega
  · have hl : (⟨#[c]⟩ : Str).length = 1 := rfl
    rw [hl, Nat.one_mul]
    show decide (n.toNat > sizeLine) = false
    rw [sizeLine_eq]
    exact decide_eq_false (by omega)
theorem blank0 : Blank (Str.ofString "") := fun c hc => by
  have e : (Str.ofString "").cps.toList = [] := by decide +kernel
  rw [e] at hc; cases hc
theorem pick4 {h : Heap} {tp : Addr} {a b c d : Str} {ta tb tc td : Tok} (_T : TObj h tp [.str a ta, .str b tb, .str c tc, .str d td]) {k : Int} (h0 : 0 ≤ k) (h4 : k < 4) (P : Str → Prop) (pa : P a) (pb : P b) (pc : P c) (pd : P d) :
    ∃ y t', [Value.str a ta, .str b tb, .str c tc, .str d td][k.toNat]? = some (.str y t') ∧ P y := by
  have : k = 0 ∨ k = 1 ∨ k = 2 ∨ k = 3 := by omega
  rcases this with rfl | rfl | rfl | rfl
  · exact ⟨_, _, rfl, pa⟩
  · exact ⟨_, _, rfl, pb⟩
  · exact ⟨_, _, rfl, pc⟩
  · exact ⟨_, _, rfl, pd⟩
def blankB (x : Str) : Bool := x.cps.toList.all (fun c => c == 32 || c == 9) && decide (x.cps.size ≤ 2)
theorem blankB_of {x : Str} (h : blankB x = true) : Blank x ∧ x.cps.size ≤ 2 := by
  simp only [blankB, Bool.and_eq_true, List.all_eq_true, Bool.or_eq_true, beq_iff_eq, decide_eq_true_eq] at h
  exact ⟨h.1, h.2⟩
def wt (ys : List Str) : Nat := (ys.map fun y => y.cps.size + 1).sum
theorem wt_cons (y : Str) (r : List Str) : wt (y :: r) = y.cps.size + 1 + wt r := by simp [wt]
theorem wt_append (a b : List Str) : wt (a ++ b) = wt a + wt b := by simp [wt]
theorem wt_reverse (a : List Str) : wt a.reverse = wt a := by simp [wt, List.map_reverse, List.sum_reverse]
theorem sum_plus (ys : List Str) : (ys.map (·.length)).sum + ys.length = wt ys := by
  induction ys with
  | nil => rfl
  | cons y r ih => rw [wt_cons, List.map_cons, List.sum_cons, List.length_cons]; have : y.length = y.cps.size := rfl; omega
theorem wt_len : ∀ ys : List Str, ys.length ≤ wt ys
  | [] => Nat.zero_le _
  | y :: r => by have := wt_len r; rw [wt_cons, List.length_cons]; omega
theorem wt_mem {y : Str} : ∀ {ys : List Str}, y ∈ ys → y.cps.size + 1 ≤ wt ys
  | z :: r, h => by
    rw [wt_cons]
    rcases List.mem_cons.mp h with rfl | h
    · omega
    · have := wt_mem h; omega
theorem StrsAre.rev : ∀ {vs : List Value} {ys : List Str}, StrsAre vs ys → StrsAre vs.reverse ys.reverse
  | _, _, .nil => .nil
  | _, _, .cons y t h => by rw [List.reverse_cons, List.reverse_cons]; exact StrsAre.append' (StrsAre.rev h) (.cons y t .nil)
theorem StrsAre.dropl {vs : List Value} {ys : List Str} (h : StrsAre vs ys) : StrsAre vs.dropLast ys.dropLast := by
  rw [List.dropLast_eq_take, List.dropLast_eq_take, StrsAre.len_eq h]
  exact StrsAre.take' h _
theorem join_size0 : ∀ (ys : List Str), (Str.join (Str.ofString "") ys).cps.size + ys.length = wt ys
  | [] => rfl
  | [x] => by show x.cps.size + 1 = _; rw [wt_cons]; rfl
  | x :: y :: r => by
    have ih := join_size0 (y :: r)
    show (x ++ Str.ofString "" ++ Str.join (Str.ofString "") (y :: r)).cps.size + _ = _
    rw [app_size, app_size, wt_cons, show (Str.ofString "").cps.size = 0 by decide +kernel, List.length_cons]
    omega
theorem wt_map_tab : ∀ zs : List Str, wt (zs.map fun y => y ++ Str.ofString "\t") = wt zs + zs.length
  | [] => rfl
  | z :: r => by
    rw [List.map_cons, wt_cons, wt_cons, wt_map_tab r, app_size, show (Str.ofString "\t").cps.size = 1 by decide +kernel, List.length_cons]; omega
section
variable {prog : Program} {w : World} {A : Around} {s : Shared} {n : Nat} {Q : Value → Shared → Prop} {P P' : Addr → Prop}
theorem lead_call {la : Addr} {lvs : List Value} {leads : List Str} {m : Nat} {kind figure : Int} {tk tf : Tok} (Am : Amb (n + 1) A) (G : Gd w s.heap) (hl : LObj s.heap la lvs) (iL : StrsAre lvs leads) (hn : leads.length ≤ 100) (hm : m ≤ 1000)
    (hb_ : ∀ x ∈ leads, Blank x ∧ x.cps.size ≤ m) (hk : 0 ≤ kind) (hf : 0 ≤ figure) (hf' : figure < 2 ^ 40)
    (h : ∀ x t s', After s s' → Blank x → x.cps.size ≤ m + 9 → Q (.str x t) s') : Wp prog w A (call (.ref 116) [.ref la, .int kind tk, .int figure tf]) Q s := by
  refine enter [Str.ofString "leads", Str.ofString "kind", Str.ofString "figure"] [Str.ofString "before", Str.ofString "runs", Str.ofString "lead"] [Str.ofString "len"] Am G rfl rfl rfl rfl (by kernel_rfl) rfl rfl rfl (by decide +kernel) (by decide +kernel) (by decide +kernel) (by decide +kernel) rfl rfl ?_
  intro e L s' C S
  dsimp only [List.map, List.cons_append, List.nil_append] at C S
  have Am' := Am.deeper e
  have hlv := StrsAre.len_eq iL
  (with_reducible refine x_if ?_)
  (with_reducible refine t_cmp ?_)
  (with_reducible refine r_name (by assumption) (by assumption) (by walk_at "atv") ?_)
  (with_reducible refine r_int (by assumption) ?_; intro _ _ _)
  (with_reducible refine r_lt ?_)
  refine ⟨_, rfl, fun h1 => ?_, fun h1 => ?_⟩
  · have h1 := of_decide_eq_true h1
    have hlen : ∀ x : Str, x.length = x.cps.size := fun _ => rfl
    (with_reducible refine x_asg ?_)
    refine Wp.mono (Q := fun v s1 => ∃ x t, v = .str x t ∧ Blank x ∧ x.cps.size ≤ m ∧ St w s s.heap L [Str.ofString "leads", Str.ofString "kind", Str.ofString "figure", Str.ofString "before", Str.ofString "runs", Str.ofString "lead"]
      [some (.ref la), some (.int kind tk), some (.int figure tf), none, none, none] [] s1) ?_ ?_
    · refine r_ifexp ?_
      (with_reducible refine t_cmp ?_)
      (with_reducible refine r_name (by assumption) (by assumption) (by walk_at "atv") ?_)
      (with_reducible refine r_list ?_)
      (with_reducible refine a_nil ?_)
      refine n_list (by assumption) (by walk_at "sz") ?_
      intro el s5 _ _ S5
      (with_reducible refine q_ne_nil (by assumption) (by walk_at "lst") (by walk_at "lst") ?_)
      refine ⟨_, rfl, fun hb => ?_, fun hb => ?_⟩
      · have hne : leads ≠ [] := by
          rintro rfl
          have : lvs = [] := by simpa using hlv
          subst this
          simp at hb
        have hlt : leads.length - 1 < leads.length := by have := List.length_pos_iff.mpr hne; omega
        obtain ⟨t1, hv1⟩ := StrsAre.at iL (List.getElem?_eq_getElem hlt)
        have hbl := hb_ _ (List.getElem_mem hlt)
        (with_reducible refine r_sub' ?_)
        (with_reducible refine r_name (by assumption) (by assumption) (by walk_at "atv") ?_)
        (with_reducible refine r_un ?_)
        (with_reducible refine r_int (by assumption) ?_; intro _ _ _)
        (with_reducible refine r_neg (by assumption) ?_; intro _ _ _)
        refine i_listneg (by walk_at "li") (by omega) (by omega) (by omega) (by rw [show ((-1 : Int) + lvs.length).toNat = leads.length - 1 by omega]; exact hv1) ?_
        exact ⟨_, _, rfl, hbl.1, hbl.2, St.pick (by assumption) (by walk_at "pick")⟩
      · (with_reducible refine r_str (by assumption) ?_; intro _ _ _)
        refine ⟨_, _, rfl, blank0, Nat.zero_le _, St.pick (by assumption) (by walk_at "pick")⟩
    · rintro v s5 ⟨x, t1, rfl, bx, zx, S5⟩
      (with_reducible refine r_store (by assumption) (by assumption) (by walk_at "put") ?_; intro _ _)
      (with_reducible refine x_ret ?_)
      (with_reducible refine r_bin ?_)
      (with_reducible refine r_name (by assumption) (by assumption) (by walk_at "atv") ?_)
      (with_reducible refine r_sub' ?_)
      (with_reducible refine r_tuple ?_)
      (with_reducible refine a_cons ?_)
      (with_reducible refine r_str (by assumption) ?_; intro _ _ _)
      (with_reducible refine a_cons ?_)
      (with_reducible refine r_str (by assumption) ?_; intro _ _ _)
      (with_reducible refine a_cons ?_)
      (with_reducible refine r_str (by assumption) ?_; intro _ _ _)
      (with_reducible refine a_cons ?_)
      (with_reducible refine r_str (by assumption) ?_; intro _ _ _)
      (with_reducible refine a_nil ?_)
      refine n_tuple (by assumption) (by walk_at "sz") ?_
      intro tp s6 htp _ S6
      obtain ⟨y, ty, hy, hyb⟩ := pick4 (S6.tup (.head _)) (k := figure % 4) (by omega) (by omega) (fun x => Blank x ∧ x.cps.size ≤ 2) (blankB_of (by decide +kernel)) (blankB_of (by decide +kernel)) (blankB_of (by decide +kernel)) (blankB_of (by decide +kernel))
      (with_reducible refine r_bin ?_)
      (with_reducible refine r_name (by assumption) (by assumption) (by walk_at "atv") ?_)
      (with_reducible refine r_int (by assumption) ?_; intro _ _ _)
      (with_reducible refine r_mod (by assumption) (by first | decide | omega) ?_; intro _ _ _)
      refine i_tup (by walk_at "tup") (by first | exact z_nn _ | exact c_nn _ | decide | omega) (by first | decide | omega) hy ?_
      refine r_cat (by assumption) (by rw [hlen, hlen, sizeLine_eq]; omega) ?_
      intro _ s9 S9
      exact h _ _ _ (S9.after Sub.rfl') (bx.app hyb.1) (by rw [app_size]; omega)
  · have h1 := of_decide_eq_false h1
    (with_reducible refine x_nil ?_)
    (with_reducible refine then_next ?_)
    (with_reducible refine x_if ?_)
    (with_reducible refine t_cmp ?_)
    (with_reducible refine r_name (by assumption) (by assumption) (by walk_at "atv") ?_)
    (with_reducible refine r_int (by assumption) ?_; intro _ _ _)
    (with_reducible refine r_lt ?_)
    refine ⟨_, rfl, fun h2 => ?_, fun h2 => ?_⟩
    · have h2 := of_decide_eq_true h2
      have hlen : ∀ x : Str, x.length = x.cps.size := fun _ => rfl
      (with_reducible refine x_asg ?_)
      refine Wp.mono (Q := fun v s1 => ∃ a vs ys, v = .ref a ∧ StrsAre vs ys ∧ ys ≠ [] ∧ (∀ y ∈ ys, Blank y) ∧ wt ys ≤ m + 1 ∧ St w s s.heap L [Str.ofString "leads", Str.ofString "kind", Str.ofString "figure", Str.ofString "before", Str.ofString "runs", Str.ofString "lead"]
        [some (.ref la), some (.int kind tk), some (.int figure tf), none, none, none] [(a, .list vs)] s1) ?_ ?_
      · refine r_ifexp ?_
        (with_reducible refine t_cmp ?_)
        (with_reducible refine r_name (by assumption) (by assumption) (by walk_at "atv") ?_)
        (with_reducible refine r_list ?_)
        (with_reducible refine a_nil ?_)
        refine n_list (by assumption) (by walk_at "sz") ?_
        intro el s5 _ _ S5
        (with_reducible refine q_ne_nil (by assumption) (by walk_at "lst") (by walk_at "lst") ?_)
        refine ⟨_, rfl, fun hb => ?_, fun hb => ?_⟩
        · have hne : leads ≠ [] := by
            rintro rfl
            have : lvs = [] := by simpa using hlv
            subst this
            simp at hb
          have hpos := List.length_pos_iff.mpr hne
          (with_reducible refine r_meth ?_)
          (with_reducible refine r_sub' ?_)
          (with_reducible refine r_name (by assumption) (by assumption) (by walk_at "atv") ?_)
          (with_reducible refine r_bin ?_)
          (with_reducible refine r_name (by assumption) (by assumption) (by walk_at "atv") ?_)
          (with_reducible refine r_call ?_)
          (with_reducible refine r_blt (by assumption) (by assumption) (by walk_at "mem") (by walk_at "blt") ?_)
          (with_reducible refine c_bi ?_)
          (with_reducible refine a_cons ?_)
          (with_reducible refine r_name (by assumption) (by assumption) (by walk_at "atv") ?_)
          (with_reducible refine a_nil ?_)
          (with_reducible refine r_lenl (by assumption) (by walk_at "li") (by omega) ?_; intro _ _ _)
          (with_reducible refine r_mod (by assumption) (by first | decide | omega) ?_; intro _ _ _)
          have hmod : 0 ≤ figure % (lvs.length : Int) ∧ figure % (lvs.length : Int) < lvs.length := ⟨Int.emod_nonneg _ (by omega), Int.emod_lt_of_pos _ (by omega)⟩
          have hlt : (figure % (lvs.length : Int)).toNat < leads.length := by omega
          obtain ⟨t1, hv1⟩ := StrsAre.at iL (List.getElem?_eq_getElem hlt)
          have hbl := hb_ _ (List.getElem_mem hlt)
          refine i_list (by walk_at "li") (by first | exact z_nn _ | exact c_nn _ | decide | omega) (by first | decide | omega) hv1 ?_
          (intro (_ : Sem Bool))
          (with_reducible refine m_split ?_)
          (with_reducible refine c_bm ?_)
          (with_reducible refine a_cons ?_)
          (with_reducible refine r_str (by assumption) ?_; intro _ _ _)
          (with_reducible refine a_nil ?_)
          refine r_split1 (by assumption) (by decide +kernel) (by rw [hlen, sizeLine_eq]; omega) ?_
          intro a vs s9 ha iS S9
          have hw := split_weight (leads[(figure % (lvs.length : Int)).toNat]) (Str.ofString "\t") (by decide +kernel)
          rw [sum_plus, hlen] at hw
          refine ⟨a, vs, _, rfl, iS, ?_, fun y hy c hc => ?_, by omega, S9.pick (by walk_at "pick")⟩
          · intro q; have := split_pos (leads[(figure % (lvs.length : Int)).toNat]) (Str.ofString "\t"); rw [q] at this; exact absurd this (by decide)
          · have := mem_join (Str.ofString "\t") _ y hy c hc
            rw [StrLaws.join_split] at this
            exact hbl.1 c this
        · (with_reducible refine r_list ?_)
          (with_reducible refine a_cons ?_)
          (with_reducible refine r_str (by assumption) ?_; intro _ _ _)
          (with_reducible refine a_nil ?_)
          refine n_list (by assumption) (by walk_at "sz") ?_
          intro a s9 _ _ S9
          refine ⟨a, _, [Str.ofString ""], rfl, .cons _ _ .nil, by simp, fun y hy => ?_, ?_, S9.pick (by walk_at "pick")⟩
          · rw [List.mem_singleton.mp hy]; exact blank0
          · rw [wt_cons, show (Str.ofString "").cps.size = 0 by decide +kernel]; simp [wt]
      · rintro v s5 ⟨a, vs, ys, rfl, iS, hne, hbl, hw, S5⟩
        have hvl := StrsAre.len_eq iS
        have hpos := List.length_pos_iff.mpr hne
        (with_reducible refine r_store (by assumption) (by assumption) (by walk_at "put") ?_; intro _ _)
        (with_reducible refine x_ret ?_)
        (with_reducible refine r_bin ?_)
        (with_reducible refine r_meth ?_)
        (with_reducible refine r_str (by assumption) ?_; intro _ _ _)
        (intro (_ : Sem Bool))
        (with_reducible refine m_join ?_)
        (with_reducible refine c_bm ?_)
        (with_reducible refine a_cons ?_)
        refine r_one (s₀ := s) (loc := [some (.ref la), some (.int kind tk), some (.int figure tf), none, some (.ref a), none]) [] C (closureFor_none (fun y hy => ?_)) rfl ?_ ?_
        · have q : ∀ l : List (Str × NameKind), (l.all fun y => y.2 != .free) = true → y ∈ l → y.2 ≠ .free := fun l h hy => by simpa using List.all_eq_true.mp h y hy
          exact q _ (by decide +kernel) hy
        · decide +kernel
        (with_reducible refine r_sub' ?_)
        (with_reducible refine r_name (by assumption) (by assumption) (by walk_at "atv") ?_)
        (with_reducible refine r_slice ?_)
        (with_reducible refine r_part1 ?_)
        (with_reducible refine r_un ?_)
        (with_reducible refine r_int (by assumption) ?_; intro _ _ _)
        (with_reducible refine r_neg (by assumption) ?_; intro _ _ _)
        (with_reducible refine r_part0 ?_)
        (with_reducible refine r_part1 ?_)
        (with_reducible refine r_un ?_)
        (with_reducible refine r_int (by assumption) ?_; intro _ _ _)
        (with_reducible refine r_neg (by assumption) ?_; intro _ _ _)
        refine newsl (by assumption) ?_
        intro sl s6 hsl S6
        refine i_lslice S6 (by walk_at "li") hsl (.int _ _) .none (.int _ _) (by decide) (by rw [sizeLine_eq]; have := wt_len ys; omega) ?_
        intro rl s7 hrl S7
        have hvs : 1 ≤ vs.toArray.size := by rw [List.size_toArray]; omega
        rw [rev_pick _ hvs] at S7
        obtain ⟨g7, hg7, S8, R7⟩ := S7.freezeHead
        have R7' : LObj g7 rl vs.dropLast.reverse := R7
        have iR : StrsAre vs.dropLast.reverse ys.dropLast.reverse := StrsAre.rev (StrsAre.dropl iS)
        have hRl := StrsAre.len_eq iR
        (with_reducible refine p_list (by assumption) (by assumption) (by walk_at "lig") ?_; intro _ _ _ _ _)
        rename_i I oI s9 hIt S9
        refine ⟨g7, _, I, oI, _, _, rfl, hIt, S9, compF_one (fun i us _ => StrsAre us ((ys.dropLast.reverse.take i).map fun y => y ++ Str.ofString "\t")) (by rw [sizeLine_eq, List.length_reverse, List.length_dropLast]; have := wt_len ys; omega) ?_⟩
        intro D Ca gC h1 h2 Cc
        refine ⟨.nil, ?_, ?_⟩
        · intro i v us g' oI' s10 hi hv hg' hJ S10
          have hi' : i < ys.dropLast.reverse.length := by omega
          obtain ⟨ty, hty⟩ := StrsAre.at iR (List.getElem?_eq_getElem hi')
          rw [hty] at hv
          cases hv
          refine tests_nil ⟨fun _ => ?_, fun q => nomatch q⟩
          have hwi := wt_mem (List.getElem_mem hi')
          rw [wt_reverse] at hwi
          have hwd : wt ys.dropLast ≤ wt ys := by
            have e := List.dropLast_concat_getLast hne
            have := wt_append ys.dropLast [ys.getLast hne]
            rw [e] at this; omega
          (with_reducible refine r_bin ?_)
          (with_reducible refine r_name (by assumption) (by assumption) (by walk_at "atv") ?_)
          (with_reducible refine r_str (by assumption) ?_; intro _ _ _)
          refine r_cat (by assumption) (by rw [hlen, hlen, show (Str.ofString "\t").cps.size = 1 by decide +kernel, sizeLine_eq]; omega) ?_
          intro tc s11 S11
          refine ⟨g', Sub.rfl', ?_, S11⟩
          rw [List.take_succ_eq_append_getElem hi', List.map_append]
          exact StrsAre.append' hJ (.cons _ tc .nil)
        · intro g' us s11 hg' hJ hv hD hk S11
          rw [List.take_of_length_le (by omega)] at hJ
          have hjw := wt_map_tab ys.dropLast.reverse
          have hjs := sum_plus (ys.dropLast.reverse.map fun y => y ++ Str.ofString "\t")
          have hj0 := join_size0 (ys.dropLast.reverse.map fun y => y ++ Str.ofString "\t")
          rw [List.length_map] at hj0 hjs
          rw [wt_reverse] at hjw
          have hwd : wt ys.dropLast + ((ys.getLast hne).cps.size + 1) = wt ys := by
            have e := List.dropLast_concat_getLast hne
            have := wt_append ys.dropLast [ys.getLast hne]
            rw [e, wt_cons] at this; simpa [wt] using this.symm
          have hlt : ys.length - 1 < ys.length := by omega
          obtain ⟨tl, hvl1⟩ := StrsAre.at iS (List.getElem?_eq_getElem hlt)
          (with_reducible refine a_nil ?_)
          refine r_join (by assumption) (by walk_at "li") hJ (by rw [List.length_map, show (Str.ofString "").length = 0 by decide +kernel]; omega) ?_
          intro tj s12 S12
          rw [eq_of_beq (join_plain_closes _ _)]
          (with_reducible refine r_sub' ?_)
          (with_reducible refine r_name (by assumption) (by assumption) (by walk_at "atv") ?_)
          (with_reducible refine r_un ?_)
          (with_reducible refine r_int (by assumption) ?_; intro _ _ _)
          (with_reducible refine r_neg (by assumption) ?_; intro _ _ _)
          refine i_listneg (by walk_at "li") (by omega) (by omega) (by omega) (by rw [show ((-1 : Int) + vs.length).toNat = ys.length - 1 by omega]; exact hvl1) ?_
          have hgl : ys[ys.length - 1] = ys.getLast hne := (List.getLast_eq_getElem hne).symm
          rw [hgl]
          refine r_cat (by assumption) (by rw [hlen, hlen, sizeLine_eq]; omega) ?_
          intro tx s13 S13
          refine h _ _ _ (S13.after hg7) (Blank.app (fun c hc => ?_) (hbl _ (List.getLast_mem hne))) (by rw [app_size]; omega)
          rcases join_mem _ _ c hc with hc | ⟨p, hp, hc⟩
          · exact blank0 c hc
          · obtain ⟨z, hz, rfl⟩ := List.mem_map.mp hp
            exact (Blank.app (hbl z ((List.dropLast_sublist ys).subset (List.mem_reverse.mp hz))) (blankB_of (by decide +kernel)).1) c hc
    · have h2 := of_decide_eq_false h2
      have m1 : 0 ≤ figure % 4 ∧ figure % 4 ≤ 3 := by omega
      have m2 : 0 ≤ figure / 4 % 3 ∧ figure / 4 % 3 ≤ 2 := by omega
      have m3 : 0 ≤ figure / 12 % 3 ∧ figure / 12 % 3 ≤ 2 := by omega
      have m4 : 0 ≤ figure / 36 % 2 ∧ figure / 36 % 2 ≤ 1 := by omega
      have m5 : 0 ≤ figure / 72 % 2 ∧ figure / 72 % 2 ≤ 1 := by omega
      have hlen : ∀ x : Str, x.length = x.cps.size := fun _ => rfl
      (with_reducible refine x_nil ?_)
      (with_reducible refine then_next ?_)
      (with_reducible refine x_asg ?_)
      (with_reducible refine r_bin ?_)
      (with_reducible refine r_bin ?_)
      (with_reducible refine r_bin ?_)
      (with_reducible refine r_str (by assumption) ?_; intro _ _ _)
      (with_reducible refine r_bin ?_)
      (with_reducible refine r_name (by assumption) (by assumption) (by walk_at "atv") ?_)
      (with_reducible refine r_int (by assumption) ?_; intro _ _ _)
      (with_reducible refine r_mod (by assumption) (by first | decide | omega) ?_; intro _ _ _)
      refine r_mulc 32 (by assumption) (by decide) (by omega) (by omega) ?_
      intro x1 _ _ _ hx1 hz1
      (with_reducible refine r_bin ?_)
      (with_reducible refine r_str (by assumption) ?_; intro _ _ _)
      (with_reducible refine r_bin ?_)
      (with_reducible refine r_bin ?_)
      (with_reducible refine r_name (by assumption) (by assumption) (by walk_at "atv") ?_)
      (with_reducible refine r_int (by assumption) ?_; intro _ _ _)
      (with_reducible refine r_div (by assumption) (by first | decide | omega) (by first | decide | omega) ?_; intro _ _ _)
      (with_reducible refine r_int (by assumption) ?_; intro _ _ _)
      (with_reducible refine r_mod (by assumption) (by first | decide | omega) ?_; intro _ _ _)
      refine r_mulc 9 (by assumption) (by decide) (by omega) (by omega) ?_
      intro x2 _ _ _ hx2 hz2
      skip
      refine r_cat (by assumption) (by rw [hlen, hlen, sizeLine_eq]; omega) ?_
      intro _ _ _
      (with_reducible refine r_bin ?_)
      (with_reducible refine r_str (by assumption) ?_; intro _ _ _)
      (with_reducible refine r_bin ?_)
      (with_reducible refine r_bin ?_)
      (with_reducible refine r_name (by assumption) (by assumption) (by walk_at "atv") ?_)
      (with_reducible refine r_int (by assumption) ?_; intro _ _ _)
      (with_reducible refine r_div (by assumption) (by first | decide | omega) (by first | decide | omega) ?_; intro _ _ _)
      (with_reducible refine r_int (by assumption) ?_; intro _ _ _)
      (with_reducible refine r_mod (by assumption) (by first | decide | omega) ?_; intro _ _ _)
      refine r_mulc 32 (by assumption) (by decide) (by omega) (by omega) ?_
      intro x3 _ _ _ hx3 hz3
      skip
      refine r_cat (by assumption) (by rw [hlen, hlen, app_size, sizeLine_eq]; omega) ?_
      intro _ _ _
      (with_reducible refine r_store (by assumption) (by assumption) (by walk_at "put") ?_; intro _ _)
      (with_reducible refine x_ret ?_)
      (with_reducible refine r_bin ?_)
      (with_reducible refine r_bin ?_)
      (with_reducible refine r_name (by assumption) (by assumption) (by walk_at "atv") ?_)
      (with_reducible refine r_bin ?_)
      (with_reducible refine r_str (by assumption) ?_; intro _ _ _)
      (with_reducible refine r_bin ?_)
      (with_reducible refine r_bin ?_)
      (with_reducible refine r_name (by assumption) (by assumption) (by walk_at "atv") ?_)
      (with_reducible refine r_int (by assumption) ?_; intro _ _ _)
      (with_reducible refine r_div (by assumption) (by first | decide | omega) (by first | decide | omega) ?_; intro _ _ _)
      (with_reducible refine r_int (by assumption) ?_; intro _ _ _)
      (with_reducible refine r_mod (by assumption) (by first | decide | omega) ?_; intro _ _ _)
      refine r_mulc 9 (by assumption) (by decide) (by omega) (by omega) ?_
      intro x4 _ _ _ hx4 hz4
      skip
      refine r_cat (by assumption) (by rw [hlen, hlen, app_size, app_size, sizeLine_eq]; omega) ?_
      intro _ _ _
      (with_reducible refine r_bin ?_)
      (with_reducible refine r_str (by assumption) ?_; intro _ _ _)
      (with_reducible refine r_bin ?_)
      (with_reducible refine r_bin ?_)
      (with_reducible refine r_name (by assumption) (by assumption) (by walk_at "atv") ?_)
      (with_reducible refine r_int (by assumption) ?_; intro _ _ _)
      (with_reducible refine r_div (by assumption) (by first | decide | omega) (by first | decide | omega) ?_; intro _ _ _)
      (with_reducible refine r_int (by assumption) ?_; intro _ _ _)
      (with_reducible refine r_mod (by assumption) (by first | decide | omega) ?_; intro _ _ _)
      refine r_mulc 32 (by assumption) (by decide) (by omega) (by omega) ?_
      intro x5 _ _ _ hx5 hz5
      skip
      refine r_cat (by assumption) (by rw [hlen, hlen, app_size, app_size, app_size, sizeLine_eq]; omega) ?_
      intro _ s9 S9
      refine h _ _ _ (S9.after Sub.rfl') ?_ ?_
      · exact ((((Blank.rep (.inl rfl) hx1).app (.rep (.inr rfl) hx2)).app (.rep (.inl rfl) hx3)).app (.rep (.inr rfl) hx4)).app (.rep (.inl rfl) hx5)
      · rw [app_size, app_size, app_size, app_size]; omega
end

def runLens (x : Str) : List Int := (Txt.split x (Str.ofString "\t")).map fun y => (y.cps.size : Int)
def RowsAt (Pf : Addr → Prop) (g : Heap) : List Value → List (List Int) → Prop
  | [], [] => True
  | v :: vs, r :: rs => (∃ a cs, v = .ref a ∧ Pf a ∧ LObj g a cs ∧ IntsAre cs r) ∧ RowsAt Pf g vs rs
  | _, _ => False
theorem RowsAt.via {Pf Pf' : Addr → Prop} {g g' : Heap} (k : ∀ a o, Pf a → g.get? a = some o → Pf' a ∧ g'.get? a = some o) : ∀ {vs : List Value} {rs : List (List Int)}, RowsAt Pf g vs rs → RowsAt Pf' g' vs rs
  | [], [], _ => trivial
  | _ :: _, _ :: _, ⟨⟨a, cs, h1, h2, ⟨n, h3⟩, h4⟩, r⟩ => ⟨⟨a, cs, h1, (k a _ h2 h3).1, ⟨n, (k a _ h2 h3).2⟩, h4⟩, RowsAt.via k r⟩
theorem RowsAt.len {Pf : Addr → Prop} {g : Heap} : ∀ {vs : List Value} {rs : List (List Int)}, RowsAt Pf g vs rs → vs.length = rs.length
  | [], [], _ => rfl
  | _ :: _, _ :: _, ⟨_, r⟩ => by simp [RowsAt.len r]
theorem RowsAt.at {Pf : Addr → Prop} {g : Heap} : ∀ {vs : List Value} {rs : List (List Int)}, RowsAt Pf g vs rs → ∀ {i : Nat} {r : List Int}, rs[i]? = some r → ∃ a cs, vs[i]? = some (.ref a) ∧ LObj g a cs ∧ IntsAre cs r
  | [], [], _, i, p, h => by simp at h
  | _ :: _, _ :: _, ⟨⟨a, cs, h1, h2, h3, h4⟩, r⟩, 0, p, h => by simp at h; subst h h1; exact ⟨a, cs, rfl, h3, h4⟩
  | _ :: _, _ :: _, ⟨_, r⟩, i + 1, p, h => by simp at h; simpa using RowsAt.at r h
theorem RowsAt.snoc {Pf : Addr → Prop} {g : Heap} {v : Value} {p : List Int} (h : ∃ a cs, v = .ref a ∧ Pf a ∧ LObj g a cs ∧ IntsAre cs p) : ∀ {vs : List Value} {rs : List (List Int)}, RowsAt Pf g vs rs → RowsAt Pf g (vs ++ [v]) (rs ++ [p])
  | [], [], _ => ⟨h, trivial⟩
  | _ :: _, _ :: _, ⟨h', r⟩ => ⟨h', RowsAt.snoc h r⟩
def rowOf (sz : Nat) (x : Str) : List Int := (List.range sz).map fun (k : Nat) => colAt (1 + (k : Int)) x.cps.toList
def nats (l : List Nat) : List Int := l.map fun (k : Nat) => (k : Int)
def sameAt (rows : List (List Int)) (way : List Nat) (k : Nat) : List Nat := (List.range way.length).filter fun p => decide (rows.getD (way.getD p 0) [] = rows.getD k [])
def notLess (rows : List (List Int)) (sz : Nat) (i k : Nat) : List Nat := (List.range sz).filter fun t => decide ((rows.getD k []).getD t 0 ≤ (rows.getD i []).getD t 0)
def onTop (rows : List (List Int)) (sz : Nat) (way : List Nat) (k : Nat) : Bool := way.isEmpty || (notLess rows sz (way.getD (way.length - 1) 0) k).isEmpty
def wayStep (rows : List (List Int)) (sz : Nat) (st : List Nat × List (List Nat)) (k : Nat) : List Nat × List (List Nat) :=
  if onTop rows sz st.1 k then (st.1 ++ [k], st.2 ++ [st.1 ++ [k]])
  else match sameAt rows st.1 k with
    | p :: _ => (st.1.take p ++ [k], st.2 ++ [st.1.take p ++ [k]])
    | [] => (st.1, st.2 ++ [[]])
def wayF (rows : List (List Int)) (sz : Nat) : Nat → List Nat × List (List Nat)
  | 0 => ([], [])
  | k + 1 => wayStep rows sz (wayF rows sz k) k
structure YI where
  wa : Addr
  wvs : List Value
  way : List Nat
  ways : List Value
  ks : List (List Nat)
  same : Option Value
theorem nats_app (a b : List Nat) : nats (a ++ b) = nats a ++ nats b := List.map_append
theorem nats_len (a : List Nat) : (nats a).length = a.length := List.length_map ..
theorem ints_len {vs : List Value} {l : List Int} (h : IntsAre vs l) : vs.length = l.length := by
  induction h with
  | nil => rfl
  | cons _ _ _ ih => simp [ih]
theorem ints_len2 {vs : List Value} {l : List Nat} (h : IntsAre vs (nats l)) : vs.length = l.length := by rw [ints_len h, nats_len]
theorem ints_nat {vs : List Value} {l : List Nat} (h : IntsAre vs (nats l)) {i : Nat} (hi : i < l.length) : ∃ t, vs[i]? = some (.int ((l.getD i 0 : Nat) : Int) t) := by
  have hl : (nats l)[i]? = some ((l.getD i 0 : Nat) : Int) := by
    unfold nats
    rw [List.getElem?_map, List.getElem?_eq_getElem hi, List.getD_eq_getElem?_getD, List.getElem?_eq_getElem hi]; rfl
  exact IntsAre.get' h hl
theorem ints_int {vs : List Value} {l : List Int} (h : IntsAre vs l) {i : Nat} (hi : i < l.length) : ∃ t, vs[i]? = some (.int (l.getD i 0) t) := by
  have hl : l[i]? = some (l.getD i 0) := by rw [List.getD_eq_getElem?_getD, List.getElem?_eq_getElem hi]; rfl
  exact IntsAre.get' h hl
theorem rowOf_len (sz : Nat) (x : Str) : (rowOf sz x).length = sz := by unfold rowOf; simp
theorem RowsAt.atD {Pf : Addr → Prop} {g : Heap} {vs : List Value} {rs : List (List Int)} (h : RowsAt Pf g vs rs) {i : Nat} (hi : i < rs.length) : ∃ a cs, vs[i]? = some (.ref a) ∧ LObj g a cs ∧ IntsAre cs (rs.getD i []) :=
  RowsAt.at h (by rw [List.getD_eq_getElem?_getD, List.getElem?_eq_getElem hi]; rfl)
theorem St.freezeRows {w : World} {s₀ s9 s10 : Shared} {g g7 : Heap} {L D : Addr} {ns : List Str} {loc9 loc : List (Option Value)} {mu : List (Addr × MO)} {us : List Value} {rows : List (List Int)} (S9 : St w s₀ g L ns loc9 mu s9) (S10 : St w s₀ g L ns loc ((D, .list us) :: mu) s10)
    (hJ : RowsAt (fun a => s9.heap.get? a = none) g7 us rows) (hk : ∀ b o, b ≠ L → g7.get? b = some o → s10.heap.get? b = some o) : ∃ g', Sub g g' ∧ St w s₀ g' L ns loc mu s10 ∧ LObj g' D us ∧ RowsAt (fun a => s9.heap.get? a = none) g' us rows := by
  obtain ⟨g', h1, h2, h3⟩ := S10.freeze (List.sublist_cons_self ..)
  have hmn := S10.mn
  simp only [List.map_cons, List.nodup_cons] at hmn
  refine ⟨g', h1, h2, (S10.lst (.head _)).imp fun n q => h3 _ _ q (S10.mf _ (.head _)).2 hmn.1, RowsAt.via (fun a o p q => ⟨p, ?_⟩) hJ⟩
  have hL : a ≠ L := by
    rintro rfl
    obtain ⟨o2, ho2⟩ := S9.getL
    rw [p] at ho2; cases ho2
  refine h3 _ _ (hk _ _ hL q) hL fun hm => ?_
  obtain ⟨y, hy, rfl⟩ := List.mem_map.mp hm
  obtain ⟨o2, ho2⟩ := (S9.ml _ hy).ex
  rw [p] at ho2; cases ho2
section
variable {prog : Program} {w : World} {A : Around} {s : Shared} {n : Nat} {Q : Value → Shared → Prop} {P P' : Addr → Prop}
set_option maxHeartbeats 2000000 in
theorem ways_call {la : Addr} {lvs : List Value} {leads : List Str} {m : Nat} (Am : Amb (n + 4) A) (G : Gd w s.heap) (hl : LObj s.heap la lvs) (iL : StrsAre lvs leads) (hn : leads.length ≤ 100) (h0 : leads ≠ [])
    (hm : m ≤ 500) (hb : ∀ x ∈ leads, Blank x ∧ x.cps.size ≤ m)
    (h : ∀ a vs s' (sz : Nat), After s s' → s.heap.get? a = none → LObj s'.heap a vs → (∀ y ∈ leads.flatMap runLens, y < (sz : Int)) → RowsAt (fun b => s.heap.get? b = none) s'.heap vs ((wayF (leads.map (rowOf sz)) sz leads.length).2.map nats) → Q (.ref a) s') : Wp prog w A (call (.ref 135) [.ref la]) Q s := by
  refine enterK [Str.ofString "leads"] [Str.ofString "ways", Str.ofString "same"] [Str.ofString "max", Str.ofString "len", Str.ofString "range"] _ Am G rfl rfl rfl rfl (by kernel_rfl) rfl rfl rfl rfl rfl (by decide +kernel) (by decide +kernel) (by decide +kernel) (by decide +kernel) (by decide +kernel) rfl rfl ?_
  intro e L s' C cells looks hsc S
  dsimp only [List.map, List.cons_append, List.nil_append] at C S
  have Am' := Am.deeper e
  have S : St w s s.heap L [Str.ofString "leads", Str.ofString "ways", Str.ofString "same"] [some (.ref la), none, none] [(L + 1, .cell none), (L + 1 + 1, .cell none), (L + 1 + 1 + 1, .cell none), (L + 1 + 1 + 1 + 1, .cell none)] s' := S
  have c1 : CellOf e (Str.ofString "sizes") (L + 1) := cells _ _ (.head _)
  have c2 : CellOf e (Str.ofString "rows") (L + 1 + 1) := cells _ _ (.tail _ (.head _))
  have c3 : CellOf e (Str.ofString "way") (L + 1 + 1 + 1) := cells _ _ (.tail _ (.tail _ (.head _)))
  have c4 : CellOf e (Str.ofString "k") (L + 1 + 1 + 1 + 1) := cells _ _ (.tail _ (.tail _ (.tail _ (.head _))))
  clear cells looks hsc
  (with_reducible refine x_asg ?_)
  (with_reducible refine r_bin ?_)
  (with_reducible refine r_int (by assumption) ?_; intro _ _ _)
  (with_reducible refine r_call ?_)
  (with_reducible refine r_blt (by assumption) (by assumption) (by walk_at "mem") (by walk_at "blt") ?_)
  (with_reducible refine c_bi ?_)
  (with_reducible refine a_cons ?_)
  refine r_two (s₀ := s) (loc := [some (.ref la), none, none]) [Str.ofString "len"] C (cl := []) (clos_of rfl) rfl ?_ ?_ ?_
  · decide +kernel
  · decide +kernel
  (with_reducible refine r_name (by assumption) (by assumption) (by walk_at "atv") ?_)
  (with_reducible refine p_list (by assumption) (by assumption) (by walk_at "lig") ?_; intro _ _ _ _ _)
  rename_i I oI s4 hIt S4
  refine ⟨s.heap, _, I, oI, _, _, rfl, hIt, S4, compF_two (fun i vs _ => IntsAre vs ((leads.take i).flatMap runLens) ∧ vs.length ≤ i * 501) (by intro _ _; with_unfolding_all rfl) ?_⟩
  intro D Ca gC h1 h2 Cc
  refine ⟨⟨.nil, Nat.zero_le _⟩, ?_, ?_⟩
  · rintro i v vs o2 g' oI' s5 hi hv hg ⟨hJ, hJn⟩ S5
    have hlv := StrsAre.len_eq iL
    have hi' : i < leads.length := by omega
    obtain ⟨ty, hty⟩ := StrsAre.at iL (List.getElem?_eq_getElem hi')
    rw [hty] at hv
    cases hv
    have hbl := hb _ (List.getElem_mem hi')
    (with_reducible refine r_meth ?_)
    (with_reducible refine r_name (by assumption) (by assumption) (by walk_at "atv") ?_)
    (intro (_ : Sem Bool))
    (with_reducible refine m_split ?_)
    (with_reducible refine c_bm ?_)
    (with_reducible refine a_cons ?_)
    (with_reducible refine r_str (by assumption) ?_; intro _ _ _)
    (with_reducible refine a_nil ?_)
    refine r_split1 (by assumption) (by decide +kernel) (by show leads[i].cps.size + 2 ≤ _; rw [sizeLine_eq]; omega) ?_
    intro a us s6 ha iS S6
    have hw := split_weight leads[i] (Str.ofString "\t") (by decide +kernel)
    rw [sum_plus] at hw
    have hw2 := wt_len (Txt.split leads[i] (Str.ofString "\t"))
    have hll : leads[i].length = leads[i].cps.size := rfl
    have hul := StrsAre.len_eq iS
    obtain ⟨g6, hg6, S7, R7⟩ := S6.freezeHead
    have R7' : LObj g6 a us := R7
    (with_reducible refine p_list (by assumption) (by assumption) (by walk_at "lig") ?_; intro _ _ _ _ _)
    rename_i I2 oI2 s8 hIt2 S8
    refine ⟨I2, oI2, _, _, g6, fun j us3 _ => IntsAre us3 ((leads.take i).flatMap runLens ++ (runLens leads[i]).take j) ∧ us3.length ≤ i * 501 + j ∧ j ≤ 501, rfl, hg6, hIt2, S8, ⟨?_, hJn, Nat.zero_le _⟩, (fun j us3 g3 q => ?_), ?_, ?_⟩
    · rw [List.take_zero, List.append_nil]; exact hJ
    · have h5 := q.2.1
      have h6 := q.2.2
      have h7 : i * 501 ≤ 99 * 501 := Nat.mul_le_mul_right _ (by omega)
      omega
    · rintro j u us3 g3 oI2' s9 hj hu hg3 ⟨q1, q2, q3⟩ S9
      have hj' : j < (Txt.split leads[i] (Str.ofString "\t")).length := by omega
      obtain ⟨tu, htu⟩ := StrsAre.at iS (List.getElem?_eq_getElem hj')
      rw [htu] at hu
      cases hu
      have hwm := wt_mem (List.getElem_mem hj')
      (with_reducible refine r_call ?_)
      (with_reducible refine r_blt (by assumption) (by assumption) (by walk_at "mem") (by walk_at "blt") ?_)
      (with_reducible refine c_bi ?_)
      (with_reducible refine a_cons ?_)
      (with_reducible refine r_name (by assumption) (by assumption) (by walk_at "atv") ?_)
      (with_reducible refine a_nil ?_)
      refine r_lens (by assumption) (by show (Txt.split leads[i] (Str.ofString "\t"))[j].cps.size < _; omega) ?_
      intro tl s10 S10
      have hj2 : j < (runLens leads[i]).length := by unfold runLens; rw [List.length_map]; exact hj'
      refine ⟨g3, Sub.rfl', ⟨?_, by rw [List.length_append]; simp only [List.length_cons, List.length_nil]; omega, by omega⟩, S10⟩
      rw [List.take_succ_eq_append_getElem hj2, ← List.append_assoc]
      refine IntsAre.append q1 ?_
      have e1 : (runLens leads[i])[j] = ((Txt.split leads[i] (Str.ofString "\t"))[j].cps.size : Int) := by simp [runLens]
      rw [e1]
      exact .cons _ tl .nil
    · rintro us3 g3 hg3 ⟨q1, q2, q3⟩
      refine ⟨?_, by omega⟩
      have e2 : (runLens leads[i]).take us.length = runLens leads[i] := List.take_of_length_le (by unfold runLens; rw [List.length_map]; omega)
      rw [e2] at q1
      rw [List.take_succ_eq_append_getElem hi', List.flatMap_append]
      simpa using q1
  · rintro g' vs s6 hg ⟨hJ, hJn⟩ hD hk S6
    have hlv := StrsAre.len_eq iL
    rw [List.take_of_length_le (by omega)] at hJ
    have hpos : 0 < (leads.flatMap runLens).length := by
      obtain ⟨x, r, rfl⟩ := List.exists_cons_of_ne_nil h0
      have := split_pos x (Str.ofString "\t")
      rw [List.flatMap_cons, List.length_append]
      unfold runLens
      rw [List.length_map]; omega
    (with_reducible refine a_nil ?_)
    refine r_maxl Am' (by assumption) (by walk_at "li") hJ hpos ?_
    intro M tM s7 S7 hM1 hM2
    (with_reducible refine r_add (by assumption) ?_; intro _ _ _)
    rename_i tz _ _
    refine r_storec c1 (by assumption) (by walk_at "up") ?_
    intro s8 S8
    have S8 := S8.pick (mu' := [(L + 1, .cell (some (.int (1 + M) tz))), (L + 1 + 1, .cell none), (L + 1 + 1 + 1, .cell none), (L + 1 + 1 + 1 + 1, .cell none)]) (by walk_at "pick")
    refine x_asg ?_ (swaps_cell c2.kind)
    refine r_one (s₀ := s) (loc := [some (.ref la), none, none]) [Str.ofString "_law_columns"] C (cl := [(Str.ofString "sizes", L + 1)]) (clos_of ?_) rfl ?_ ?_
    · simp [closOf, c1.at']
    · decide +kernel
    (with_reducible refine r_name (by assumption) (by assumption) (by walk_at "atv") ?_)
    (with_reducible refine p_list (by assumption) (by assumption) (by walk_at "lig") ?_; intro _ _ _ _ _)
    rename_i I oI s9 hIt S9
    have hcell : (MO.cell (some (.int (1 + M) tz))).At s9.heap (L + 1) := S9.ml _ (.tail _ (.head _))
    have hne : L + 1 ≠ I := by
      have := S9.mn
      simp only [List.map_cons, List.nodup_cons, List.mem_cons, not_or] at this
      exact fun q => this.1.1 q.symm
    refine ⟨s.heap, _, I, oI, _, _, rfl, hIt, S9, compF_one (fun i us g => RowsAt (fun a => s9.heap.get? a = none) g us ((leads.take i).map (rowOf (1 + M).toNat))) (by rw [sizeLine_eq]; omega) ?_⟩
    intro D Ca gC h1 h2 Cc
    have cz := cell_of_fn Cc c1 rfl rfl
    have hcz : (MO.cell (some (.int (1 + M) tz))).At gC (L + 1) := hcell.of fun o q => h1 _ _ hne q
    have hM0 : 0 ≤ M ∧ M ≤ 500 := by
      obtain ⟨x, hx, hx2⟩ := List.mem_flatMap.mp hM1
      unfold runLens at hx2
      obtain ⟨y, hy, rfl⟩ := List.mem_map.mp hx2
      have hw := split_weight x (Str.ofString "\t") (by decide +kernel)
      rw [sum_plus] at hw
      have := wt_mem hy
      have := (hb x hx).2
      have hll : x.length = x.cps.size := rfl
      omega
    refine ⟨trivial, ?_, ?_⟩
    · intro i v us g7 oI' s10 hi hv hg7 hJ2 S10
      have hi' : i < leads.length := by omega
      obtain ⟨ty, hty⟩ := StrsAre.at iL (List.getElem?_eq_getElem hi')
      rw [hty] at hv
      cases hv
      have hcz' := hcz.of (fun o q => hg7 _ _ q)
      refine tests_nil ⟨fun _ => ?_, (fun q => nomatch q)⟩
      (with_reducible refine r_call ?_)
      (with_reducible refine r_glob (by assumption) (by assumption) (by walk_at "mem") (by walk_at "glb") ?_)
      (with_reducible refine c_fn (by walk_at "kp") ?_)
      (with_reducible refine a_cons ?_)
      (with_reducible refine r_name (by assumption) (by assumption) (by walk_at "atv") ?_)
      (with_reducible refine a_cons ?_)
      refine r_cellz cz (by assumption) hcz' ?_
      (with_reducible refine a_nil ?_)
      ((with_reducible show Gd _ _ ∧ _); refine And.intro (St.G (by assumption)) ?_)
      refine columns_call (n := n) (Am'.le (by first | exact Nat.le_add_right _ _ | exact Nat.add_le_add_left (by decide) _ | omega)) (St.G (by assumption)) (by omega) (by omega) ?_
      intro ca cs s11 a11 hca hcl hci
      have S11 := After.st a11 S10
      obtain ⟨g8, hg8, S12, hcl8⟩ := St.freezeL S10 S11 hca hcl
      refine ⟨g8, hg8, ?_, S12⟩
      rw [List.take_succ_eq_append_getElem hi', List.map_append]
      refine RowsAt.snoc ⟨ca, cs, rfl, ?_, hcl8, hci⟩ (RowsAt.via (fun a o p q => ⟨p, hg8 _ _ q⟩) hJ2)
      cases q : s9.heap.get? ca with
      | none => rfl
      | some o =>
        by_cases hcI : ca = I
        · subst hcI
          have := S10.ml _ (.tail _ (.head _))
          obtain ⟨o2, ho2⟩ := this.ex
          rw [hca] at ho2; cases ho2
        · have := S10.keep _ _ (hg7 _ _ (h1 _ _ hcI q))
          rw [hca] at this; cases this
    · intro g7 us s10 hg7 hJ2 hv7 hD7 hk7 S10
      rw [List.take_of_length_le (by have := StrsAre.len_eq iL; omega)] at hJ2
      obtain ⟨sz, hsz⟩ : ∃ sz : Nat, sz = (1 + M).toNat := ⟨_, rfl⟩
      have hszM : (sz : Int) = 1 + M := by omega
      rw [← hsz] at hJ2
      have hruns : ∀ y ∈ leads.flatMap runLens, y < (sz : Int) := fun y hy => by have := hM2 y hy; omega
      obtain ⟨rows, hrows⟩ : ∃ rows, rows = leads.map (rowOf sz) := ⟨_, rfl⟩
      rw [← hrows] at hJ2
      have hrl : rows.length = leads.length := by rw [hrows, List.length_map]
      have hrow : ∀ i, i < rows.length → (rows.getD i []).length = sz := fun i hi => by
        have hi2 : i < (leads.map (rowOf sz)).length := by rw [← hrows]; exact hi
        rw [hrows, List.getD_eq_getElem?_getD, List.getElem?_eq_getElem hi2, List.getElem_map]
        exact rowOf_len sz _
      have hlv := StrsAre.len_eq iL
      skip
      obtain ⟨g11, hg11, S11, hD, hRows⟩ := St.freezeRows (S9.less (List.sublist_cons_self ..)) S10 hJ2 hk7
      have hrows11 : RowsAt (fun _ => True) g11 us rows := RowsAt.via (fun a o _ q => ⟨trivial, q⟩) hRows
      clear hRows hJ2 hk7 S10 h1 h2 Cc
      refine r_storec c2 (by assumption) (by walk_at "up") ?_
      intro s12 S12
      (with_reducible refine x_asg ?_)
      (with_reducible refine r_list ?_)
      (with_reducible refine a_nil ?_)
      refine n_list (by assumption) (by walk_at "sz") ?_
      intro wa s13 hwa _ S13
      refine r_storec c3 (by assumption) (by walk_at "up") ?_
      intro s14 S14
      have hwa0 := S14.mf _ (.head _)
      obtain ⟨g15, hg15, S15, hwaL⟩ := St.freezeHead S14
      (with_reducible refine x_asg ?_)
      (with_reducible refine r_list ?_)
      (with_reducible refine a_nil ?_)
      refine n_list (by assumption) (by walk_at "sz") ?_
      intro wsa s16 hwsa _ S16
      have hl15 := hl.mono (hg11.trans hg15)
      have hD15 := hD.mono hg15
      have hrows15 : RowsAt (fun _ => True) g15 us rows := RowsAt.via (fun a o _ q => ⟨trivial, hg15 _ _ q⟩) hrows11
      have hwa1 : s.heap.get? wa = none := by
        cases q : s.heap.get? wa with
        | none => rfl
        | some o => rw [hg11 _ _ q] at hwa0; cases hwa0.1
      have hwaI : LObj g15 wa [] := hwaL
      have hwsa1 : s.heap.get? wsa = none := by
        have hq := (S16.mf _ (.head _)).1
        cases q : s.heap.get? wsa with
        | none => rfl
        | some o => rw [hg15 _ _ (hg11 _ _ q)] at hq; cases hq
      clear hD hrows11 hwaL hwa0 hwa hg7 hD7 hcz hcell hne hIt hM1 hM2
      (with_reducible refine r_store (by assumption) (by assumption) (by walk_at "put") ?_; intro _ _)
      (with_reducible refine x_for ?_)
      (with_reducible refine r_call ?_)
      (with_reducible refine r_blt (by assumption) (by assumption) (by walk_at "mem") (by walk_at "blt") ?_)
      (with_reducible refine c_ty ?_)
      (with_reducible refine a_cons ?_)
      (with_reducible refine r_call ?_)
      (with_reducible refine r_blt (by assumption) (by assumption) (by walk_at "mem") (by walk_at "blt") ?_)
      (with_reducible refine c_bi ?_)
      (with_reducible refine a_cons ?_)
      (with_reducible refine r_name (by assumption) (by assumption) (by walk_at "atv") ?_)
      (with_reducible refine a_nil ?_)
      (with_reducible refine r_lenl (by assumption) (by walk_at "li") (by omega) ?_; intro _ _ _)
      (with_reducible refine a_nil ?_)
      (with_reducible refine r_range1 (by assumption) ?_; intro _ _ _ _)
      (with_reducible refine p_range (by assumption) (by assumption) (by assumption) (by first | decide | omega) (by first | decide | omega) (by first | decide | omega) (by first | decide | omega) ?_; intro _ _ _ _ _)
      rename_i I2 oI2 s17 hIt2 S17
      have S17 := S17.pick (mu' := [(I2, .obj oI2), (wsa, .list []), (L + 1, .cell (some (.int (1 + M) tz))), (L + 1 + 1, .cell (some (.ref D))), (L + 1 + 1 + 1, .cell (some (.ref wa))), (L + 1 + 1 + 1 + 1, .cell none)]) (by walk_at "pick")
      refine loopK (σ := YI) (σ₀ := ⟨wa, [], [], [], [], none⟩) (o₀ := none) (fun σ => [some (.ref la), some (.ref wsa), σ.same])
        (fun σ o => [(wsa, .list σ.ways), (L + 1, .cell (some (.int (1 + M) tz))), (L + 1 + 1, .cell (some (.ref D))), (L + 1 + 1 + 1, .cell (some (.ref σ.wa))), (L + 1 + 1 + 1 + 1, .cell o)])
        (fun i g σ => LObj g σ.wa σ.wvs ∧ IntsAre σ.wvs (nats σ.way) ∧ (∀ j ∈ σ.way, j < i) ∧ σ.way.length ≤ i ∧ s.heap.get? σ.wa = none ∧ RowsAt (fun b => s.heap.get? b = none) g σ.ways (σ.ks.map nats) ∧ wayF rows sz i = (σ.way, σ.ks) ∧ σ.ks.length = i)
        c4 hIt2 S17 (fun σ o v => by walk_at "up") ⟨hwaI, .nil, (fun _ h => nomatch h), Nat.le_refl _, hwa1, trivial, rfl, rfl⟩ ?_ ?_
      · rintro i v g' ⟨wa', wvs, way, ways, ks, same⟩ oI' s18 hi ⟨ti, rfl⟩ hg ⟨hwl, hwi, hwb, hwn, hwf, hK, hF, hkl⟩ S18
        dsimp only at S18 hwl hwi hwb hwn hwf hK hF hkl
        have hir : i < rows.length := by omega
        have ei : (0 + (i : Int)).toNat = i := z_tn _
        have hwl2 := ints_len2 hwi
        have hwsl := RowsAt.len hK
        rw [List.length_map] at hwsl
        obtain ⟨ra, rc, hra, hrc, hri⟩ := hrows15.atD hir
        have hrowi := hrow i hir
        have hrci := ints_len hri
        refine x_asgone (s₀ := s) (loc := [some (.ref la), some (.ref wsa), same]) [] (fun v => [some (.ref la), some (.ref wsa), some v]) C (swaps_local C (by walk_at "mem") ?_) (cl := [(Str.ofString "way", L + 1 + 1 + 1), (Str.ofString "rows", L + 1 + 1), (Str.ofString "k", L + 1 + 1 + 1 + 1)]) (clos_of ?_) rfl ?_ (fun v => by walk_at "put") ?_
        · decide +kernel
        · simp [closOf, c2.at', c3.at', c4.at']
        · decide +kernel
        (with_reducible refine r_call ?_)
        (with_reducible refine r_blt (by assumption) (by assumption) (by walk_at "mem") (by walk_at "blt") ?_)
        (with_reducible refine c_ty ?_)
        (with_reducible refine a_cons ?_)
        (with_reducible refine r_call ?_)
        (with_reducible refine r_blt (by assumption) (by assumption) (by walk_at "mem") (by walk_at "blt") ?_)
        (with_reducible refine c_bi ?_)
        (with_reducible refine a_cons ?_)
        refine r_cell c3 (by assumption) (by walk_at "mem") ?_
        (with_reducible refine a_nil ?_)
        (with_reducible refine r_lenl (by assumption) (by walk_at "li") (by omega) ?_; intro _ _ _)
        (with_reducible refine a_nil ?_)
        (with_reducible refine r_range1 (by assumption) ?_; intro _ _ _ _)
        (with_reducible refine p_range (by assumption) (by assumption) (by assumption) (by first | decide | omega) (by first | decide | omega) (by first | decide | omega) (by first | decide | omega) ?_; intro _ _ _ _ _)
        rename_i I3 oI3 s20 hIt3 S20
        refine ⟨g', _, I3, oI3, _, _, rfl, hIt3, S20, compF_one (fun j us _ => IntsAre us (nats ((List.range j).filter fun p => decide (rows.getD (way.getD p 0) [] = rows.getD i [])))) (by rw [sizeLine_eq]; omega) ?_⟩
        intro D3 Ca3 gC3 h1 h2 Cc3
        have k2 := cell_of_fn Cc3 c2 rfl rfl
        have k3 := cell_of_fn Cc3 c3 rfl rfl
        have k4 := cell_of_fn Cc3 c4 rfl rfl
        have v2 := S20.cellC h1 (c := L + 1 + 1) (by walk_at "mem")
        have v3 := S20.cellC h1 (c := L + 1 + 1 + 1) (by walk_at "mem")
        have v4 := S20.cellC h1 (c := L + 1 + 1 + 1 + 1) (by walk_at "mem")
        have hs3 := S20.subC h1
        refine ⟨.nil, ?_, ?_⟩
        · rintro j v us g19 oI4 s21 hj ⟨tj, rfl⟩ hg19 hJ3 S21
          have hgs := hs3.trans hg19
          have v2 := v2.of (fun o q => hg19 _ _ q)
          have v3 := v3.of (fun o q => hg19 _ _ q)
          have v4 := v4.of (fun o q => hg19 _ _ q)
          have hD19 := hD15.mono (hg.trans hgs)
          have hwl19 := hwl.mono hgs
          have hjw : j < way.length := by omega
          obtain ⟨tw, hw⟩ := ints_nat hwi hjw
          have hwr : way.getD j 0 < rows.length := by
            have := hwb (way.getD j 0) (by rw [List.getD_eq_getElem?_getD, List.getElem?_eq_getElem hjw]; exact List.getElem_mem hjw)
            omega
          obtain ⟨qa, qc, hqa, hqc, hqi⟩ := hrows15.atD hwr
          have hqc19 := hqc.mono (hg.trans hgs)
          have hrc19 := hrc.mono (hg.trans hgs)
          have ej : (0 + (j : Int)).toNat = j := z_tn _
          have hfs : (List.range (j + 1)).filter (fun p => decide (rows.getD (way.getD p 0) [] = rows.getD i [])) = (List.range j).filter (fun p => decide (rows.getD (way.getD p 0) [] = rows.getD i [])) ++ if rows.getD (way.getD j 0) [] = rows.getD i [] then [j] else [] := by
            rw [List.range_succ, List.filter_append]
            congr 1
            by_cases hc : rows.getD (way.getD j 0) [] = rows.getD i []
            · rw [if_pos hc, List.filter_cons_of_pos (by simpa using hc), List.filter_nil]
            · rw [if_neg hc, List.filter_cons_of_neg (by simpa using hc), List.filter_nil]
          refine tests_one ?_
          (with_reducible refine t_cmp ?_)
          (with_reducible refine r_sub' ?_)
          refine r_cellz k2 (by assumption) v2 ?_
          (with_reducible refine r_sub' ?_)
          refine r_cellz k3 (by assumption) v3 ?_
          (with_reducible refine r_name (by assumption) (by assumption) (by walk_at "atv") ?_)
          refine i_list (by walk_at "li") (by first | exact z_nn _ | exact c_nn _ | decide | omega) (by first | decide | omega) (by rw [ej]; exact hw) ?_
          refine i_list (by walk_at "li") (by first | exact z_nn _ | exact c_nn _ | decide | omega) (by first | decide | omega) (by rw [Int.toNat_natCast]; exact hqa) ?_
          (with_reducible refine r_sub' ?_)
          refine r_cellz k2 (by assumption) v2 ?_
          skip
          refine r_cellz k4 (by assumption) v4 ?_
          refine i_list (by walk_at "li") (by first | exact z_nn _ | exact c_nn _ | decide | omega) (by first | decide | omega) (by rw [ei]; exact hra) ?_
          refine q_eq_ints (Am'.le (Nat.le_refl _)) (by walk_at "lst") hqi (by walk_at "lst") hri ?_
          refine ⟨_, rfl, fun hc => ?_, fun hc => ?_⟩
          · have hc := of_decide_eq_true hc
            (with_reducible refine r_name (by assumption) (by assumption) (by walk_at "atv") ?_)
            refine ⟨g19, Sub.rfl', ?_, by assumption⟩
            rw [hfs, if_pos hc, nats_app]
            refine IntsAre.append hJ3 ?_
            rw [show (0 : Int) + (j : Int) = (j : Int) by omega]
            exact .cons _ _ .nil
          · have hc := of_decide_eq_false hc
            refine ⟨g19, Sub.rfl', ?_, by assumption⟩
            rw [hfs, if_neg hc, List.append_nil]
            exact hJ3
        · intro g19 us s21 hg19 hJ3 hv3 hD3 hk3 S21
          rw [show ((wvs.length : Int) - 0).toNat = way.length by omega] at hJ3
          have hJ3 : IntsAre us (nats (sameAt rows way i)) := hJ3
          clear h1 h2 Cc3 k2 k3 k4 v2 v3 v4 hs3 hIt3 S20 S18
          have hus := ints_len2 hJ3
          (with_reducible refine x_if ?_)
          refine Wp.mono (Q := fun b s1 => b = onTop rows sz way i ∧ St w s g' L [Str.ofString "leads", Str.ofString "ways", Str.ofString "same"] [some (.ref la), some (.ref wsa), some (.ref D3)] [(D3, .list us), (I2, .obj oI'), (wsa, .list ways), (L + 1, .cell (some (.int (1 + M) tz))), (L + 1 + 1, .cell (some (.ref D))), (L + 1 + 1 + 1, .cell (some (.ref wa'))), (L + 1 + 1 + 1 + 1, .cell (some (.int (0 + (i : Int)) ti)))] s1) ?_ ?_
          · refine t_or2 ?_
            (with_reducible refine t_cmp ?_)
            refine r_cell c3 (by assumption) (by walk_at "mem") ?_
            (with_reducible refine r_list ?_)
            (with_reducible refine a_nil ?_)
            refine n_list (by assumption) (by walk_at "sz") ?_
            intro el s22 _ _ S22
            (with_reducible refine q_eq_nil (by assumption) (by walk_at "lst") (by walk_at "lst") ?_)
            refine ⟨_, rfl, fun hb => ?_, fun hb => ?_⟩
            · have hwe : way = [] := by
                have : wvs = [] := by simpa using hb
                rw [this] at hwl2
                exact List.eq_nil_of_length_eq_zero hwl2.symm
              refine ⟨by rw [hwe]; rfl, St.pick (by assumption) (by walk_at "pick")⟩
            · have hwe : way ≠ [] := by
                rintro rfl
                have : wvs = [] := List.eq_nil_of_length_eq_zero hwl2
                rw [this] at hb; cases hb
              have hwpos : 0 < way.length := List.length_pos_iff.mpr hwe
              have hwl1 : way.length - 1 < way.length := by omega
              obtain ⟨tw, hw⟩ := ints_nat hwi hwl1
              have hwr : way.getD (way.length - 1) 0 < rows.length := by
                have := hwb (way.getD (way.length - 1) 0) (by rw [List.getD_eq_getElem?_getD, List.getElem?_eq_getElem hwl1]; exact List.getElem_mem hwl1)
                omega
              obtain ⟨qa, qc, hqa, hqc, hqi⟩ := hrows15.atD hwr
              have hrowq := hrow _ hwr
              have honT : onTop rows sz way i = (notLess rows sz (way.getD (way.length - 1) 0) i).isEmpty := by
                unfold onTop
                rw [List.isEmpty_eq_false_iff.mpr hwe, Bool.false_or]
              (with_reducible refine t_cmp ?_)
              refine r_one (s₀ := s) (loc := [some (.ref la), some (.ref wsa), some (.ref D3)]) [] C (cl := [(Str.ofString "way", L + 1 + 1 + 1), (Str.ofString "rows", L + 1 + 1), (Str.ofString "k", L + 1 + 1 + 1 + 1)]) (clos_of ?_) rfl ?_ ?_
              · simp [closOf, c2.at', c3.at', c4.at']
              · decide +kernel
              (with_reducible refine r_call ?_)
              (with_reducible refine r_blt (by assumption) (by assumption) (by walk_at "mem") (by walk_at "blt") ?_)
              (with_reducible refine c_ty ?_)
              (with_reducible refine a_cons ?_)
              refine r_cell c1 (by assumption) (by walk_at "mem") ?_
              (with_reducible refine a_nil ?_)
              (with_reducible refine r_range1 (by assumption) ?_; intro _ _ _ _)
              (with_reducible refine p_range (by assumption) (by assumption) (by assumption) (by first | decide | omega) (by first | decide | omega) (by first | decide | omega) (by first | decide | omega) ?_; intro _ _ _ _ _)
              rename_i I4 oI4 s24 hIt4 S24
              refine ⟨g', _, I4, oI4, _, _, rfl, hIt4, S24, compF_one (fun j us _ => IntsAre us (nats (notLess rows j (way.getD (way.length - 1) 0) i))) (by rw [sizeLine_eq]; omega) ?_⟩
              intro D4 Ca4 gC4 h1 h2 Cc4
              have k2 := cell_of_fn Cc4 c2 rfl rfl
              have k3 := cell_of_fn Cc4 c3 rfl rfl
              have k4 := cell_of_fn Cc4 c4 rfl rfl
              have v2 := S24.cellC h1 (c := L + 1 + 1) (by walk_at "mem")
              have v3 := S24.cellC h1 (c := L + 1 + 1 + 1) (by walk_at "mem")
              have v4 := S24.cellC h1 (c := L + 1 + 1 + 1 + 1) (by walk_at "mem")
              have hs4 := S24.subC h1
              refine ⟨.nil, ?_, ?_⟩
              · rintro j v us4 g19 oI5 s25 hj ⟨tj, rfl⟩ hg19 hJ4 S25
                have hgs := hs4.trans hg19
                have v2 := v2.of (fun o q => hg19 _ _ q)
                have v3 := v3.of (fun o q => hg19 _ _ q)
                have v4 := v4.of (fun o q => hg19 _ _ q)
                have hD19 := hD15.mono (hg.trans hgs)
                have hwl19 := hwl.mono hgs
                have hqc19 := hqc.mono (hg.trans hgs)
                have hrc19 := hrc.mono (hg.trans hgs)
                have ej : (0 + (j : Int)).toNat = j := z_tn _
                have hjs : j < sz := by omega
                obtain ⟨ty, hty⟩ := ints_int hqi (i := j) (by omega)
                obtain ⟨tx, htx⟩ := ints_int hri (i := j) (by omega)
                have hfs : notLess rows (j + 1) (way.getD (way.length - 1) 0) i = notLess rows j (way.getD (way.length - 1) 0) i ++ if (rows.getD i []).getD j 0 ≤ (rows.getD (way.getD (way.length - 1) 0) []).getD j 0 then [j] else [] := by
                  unfold notLess
                  rw [List.range_succ, List.filter_append]
                  congr 1
                  by_cases hc : (rows.getD i []).getD j 0 ≤ (rows.getD (way.getD (way.length - 1) 0) []).getD j 0
                  · rw [if_pos hc, List.filter_cons_of_pos (by simpa using hc), List.filter_nil]
                  · rw [if_neg hc, List.filter_cons_of_neg (by simpa using hc), List.filter_nil]
                refine tests_one ?_
                (with_reducible refine t_cmp ?_)
                (with_reducible refine r_sub' ?_)
                (with_reducible refine r_sub' ?_)
                refine r_cellz k2 (by assumption) v2 ?_
                (with_reducible refine r_sub' ?_)
                refine r_cellz k3 (by assumption) v3 ?_
                (with_reducible refine r_un ?_)
                (with_reducible refine r_int (by assumption) ?_; intro _ _ _)
                (with_reducible refine r_neg (by assumption) ?_; intro _ _ _)
                refine i_listneg (by walk_at "li") (by omega) (by omega) (by omega) (by rw [show ((-1 : Int) + wvs.length).toNat = way.length - 1 by omega]; exact hw) ?_
                refine i_list (by walk_at "li") (by first | exact z_nn _ | exact c_nn _ | decide | omega) (by first | decide | omega) (by rw [Int.toNat_natCast]; exact hqa) ?_
                (with_reducible refine r_name (by assumption) (by assumption) (by walk_at "atv") ?_)
                refine i_list (by walk_at "li") (by first | exact z_nn _ | exact c_nn _ | decide | omega) (by first | decide | omega) (by rw [ej]; exact hty) ?_
                (with_reducible refine r_sub' ?_)
                (with_reducible refine r_sub' ?_)
                refine r_cellz k2 (by assumption) v2 ?_
                skip
                refine r_cellz k4 (by assumption) v4 ?_
                refine i_list (by walk_at "li") (by first | exact z_nn _ | exact c_nn _ | decide | omega) (by first | decide | omega) (by rw [ei]; exact hra) ?_
                (with_reducible refine r_name (by assumption) (by assumption) (by walk_at "atv") ?_)
                refine i_list (by walk_at "li") (by first | exact z_nn _ | exact c_nn _ | decide | omega) (by first | decide | omega) (by rw [ej]; exact htx) ?_
                (with_reducible refine r_ge ?_)
                refine ⟨_, rfl, fun hc => ?_, fun hc => ?_⟩
                · have hc := of_decide_eq_true hc
                  (with_reducible refine r_name (by assumption) (by assumption) (by walk_at "atv") ?_)
                  refine ⟨g19, Sub.rfl', ?_, by assumption⟩
                  rw [hfs, if_pos hc, nats_app]
                  refine IntsAre.append hJ4 ?_
                  rw [show (0 : Int) + (j : Int) = (j : Int) by omega]
                  exact .cons _ _ .nil
                · have hc := of_decide_eq_false hc
                  refine ⟨g19, Sub.rfl', ?_, by assumption⟩
                  rw [hfs, if_neg hc, List.append_nil]
                  exact hJ4
              · intro g19 us4 s25 hg19 hJ4 hv4 hD4 hk4 S25
                rw [show (1 + M - 0).toNat = sz by omega] at hJ4
                have hus4 := ints_len2 hJ4
                (with_reducible refine r_list ?_)
                (with_reducible refine a_nil ?_)
                refine n_list (by assumption) (by walk_at "sz") ?_
                intro el2 s26 _ _ S26
                (with_reducible refine q_eq_nil (by assumption) (by walk_at "lst") (by walk_at "lst") ?_)
                refine ⟨_, rfl, ?_, St.pick (by assumption) (by walk_at "pick")⟩
                rw [honT]
                cases us4 with
                | nil => rw [List.eq_nil_of_length_eq_zero hus4.symm]; rfl
                | cons u r =>
                  cases hq : notLess rows sz (way.getD (way.length - 1) 0) i with
                  | nil => rw [hq] at hus4; cases hus4
                  | cons => rfl
          · rintro b s22 ⟨rfl, S22⟩
            refine ⟨fun hb => ?_, fun hb => ?_⟩
            · (with_reducible refine x_asg ?_)
              (with_reducible refine r_bin ?_)
              refine r_cell c3 (by assumption) (by walk_at "mem") ?_
              (with_reducible refine r_list ?_)
              (with_reducible refine a_cons ?_)
              refine r_cell c4 (by assumption) (by walk_at "mem") ?_
              (with_reducible refine a_nil ?_)
              refine n_list (by assumption) (by walk_at "sz") ?_
              intro el s23 _ _ S23
              refine r_addl S23 (by walk_at "li") (by walk_at "li") (by rw [sizeLine_eq]; simp only [List.length_cons, List.length_nil]; omega) ?_
              intro na s24 hna S24
              have hna1 : s.heap.get? na = none := by
                cases q : s.heap.get? na with
                | none => rfl
                | some o => rw [S23.keep _ _ (hg _ _ (hg15 _ _ (hg11 _ _ q)))] at hna; cases hna
              refine r_storec c3 (by assumption) (by walk_at "up") ?_
              intro s25 S25
              (with_reducible refine x_expr (by assumption) ?_)
              (with_reducible refine r_meth ?_)
              (with_reducible refine r_name (by assumption) (by assumption) (by walk_at "atv") ?_)
              (intro (_ : Sem Bool))
              (with_reducible refine m_append (by walk_at "lst") ?_)
              (with_reducible refine c_bm ?_)
              (with_reducible refine a_cons ?_)
              refine r_cell c3 (by assumption) (by walk_at "mem") ?_
              (with_reducible refine a_nil ?_)
              (with_reducible refine r_append (by assumption) (by walk_at "up") (by walk_at "sz") ?_; intro _ _)
              (with_reducible refine x_nil ?_)
              (with_reducible refine then_next ?_)
              (with_reducible refine x_nil ?_)
              have S30 := St.pick (mu' := [(na, .list (wvs ++ [.int (0 + (i : Int)) ti])), (I2, .obj oI'), (wsa, .list (ways ++ [.ref na])), (L + 1, .cell (some (.int (1 + M) tz))), (L + 1 + 1, .cell (some (.ref D))), (L + 1 + 1 + 1, .cell (some (.ref na))), (L + 1 + 1 + 1 + 1, .cell (some (.int (0 + (i : Int)) ti)))]) (by assumption) (by walk_at "pick")
              obtain ⟨g31, hg31, S31, hna31⟩ := St.freezeHead S30
              have hnaL : LObj g31 na (wvs ++ [.int (0 + (i : Int)) ti]) := hna31
              have hni : IntsAre (wvs ++ [.int (0 + (i : Int)) ti]) (nats (way ++ [i])) := by
                rw [nats_app]
                refine IntsAre.append hwi ?_
                rw [show (0 : Int) + (i : Int) = (i : Int) by omega]
                exact .cons _ _ .nil
              refine turn_next ⟨g31, ⟨na, wvs ++ [.int (0 + (i : Int)) ti], way ++ [i], ways ++ [.ref na], ks ++ [way ++ [i]], some (.ref D3)⟩, _, hg31, ⟨hnaL, hni, ?_, ?_, hna1, ?_, ?_, ?_⟩, S31⟩
              · intro q hq
                rcases List.mem_append.mp hq with hq | hq
                · have := hwb q hq; omega
                · rw [List.mem_singleton.mp hq]; omega
              · dsimp only; rw [List.length_append]; simp only [List.length_cons, List.length_nil, List.length_take]; omega
              · dsimp only
                rw [List.map_append]
                exact RowsAt.snoc ⟨na, _, rfl, hna1, hnaL, hni⟩ (RowsAt.via (fun a o p q => ⟨p, hg31 _ _ q⟩) hK)
              · rw [wayF, hF]
                unfold wayStep
                dsimp only
                rw [if_pos hb]
              · dsimp only; rw [List.length_append]; simp only [List.length_cons, List.length_nil]; omega
            · (with_reducible refine x_if ?_)
              (with_reducible refine t_cmp ?_)
              (with_reducible refine r_name (by assumption) (by assumption) (by walk_at "atv") ?_)
              (with_reducible refine r_list ?_)
              (with_reducible refine a_nil ?_)
              refine n_list (by assumption) (by walk_at "sz") ?_
              intro el s23 _ _ S23
              (with_reducible refine q_ne_nil (by assumption) (by walk_at "lst") (by walk_at "lst") ?_)
              refine ⟨_, rfl, fun hc => ?_, fun hc => ?_⟩
              · obtain ⟨p, pr, hpr⟩ : ∃ p pr, sameAt rows way i = p :: pr := by
                  cases hq : sameAt rows way i with
                  | nil =>
                    rw [hq] at hus
                    have : us = [] := List.eq_nil_of_length_eq_zero hus
                    rw [this] at hc; cases hc
                  | cons p pr => exact ⟨p, pr, rfl⟩
                have hpw : p < way.length := by
                  have : p ∈ sameAt rows way i := by rw [hpr]; exact .head _
                  unfold sameAt at this
                  exact List.mem_range.mp (List.mem_filter.mp this).1
                obtain ⟨tp, hp⟩ := ints_nat hJ3 (i := 0) (by rw [hpr]; simp)
                rw [hpr] at hp
                have hp : us[0]? = some (.int (p : Int) tp) := hp
                (with_reducible refine x_asg ?_)
                (with_reducible refine r_bin ?_)
                (with_reducible refine r_sub' ?_)
                refine r_cell c3 (by assumption) (by walk_at "mem") ?_
                (with_reducible refine r_slice ?_)
                (with_reducible refine r_part0 ?_)
                (with_reducible refine r_part1 ?_)
                (with_reducible refine r_sub' ?_)
                (with_reducible refine r_name (by assumption) (by assumption) (by walk_at "atv") ?_)
                (with_reducible refine r_int (by assumption) ?_; intro _ _ _)
                refine i_list (by walk_at "li") (by first | exact z_nn _ | exact c_nn _ | decide | omega) (by first | decide | omega) hp ?_
                (with_reducible refine r_part0 ?_)
                refine newsl (by assumption) ?_
                intro sl s24 hsl S24
                refine i_lslice S24 (by walk_at "li") hsl .none (.int _ _) .none (by decide) (by rw [sizeLine_eq]; omega) ?_
                intro npl s25 hnpl S25
                rw [show slicePick wvs.toArray none (some (p : Int)) none = (wvs.take p).toArray from slicePick_upto' ..] at S25
                (with_reducible refine r_list ?_)
                (with_reducible refine a_cons ?_)
                refine r_cell c4 (by assumption) (by walk_at "mem") ?_
                (with_reducible refine a_nil ?_)
                refine n_list (by assumption) (by walk_at "sz") ?_
                intro el2 s26 _ _ S26
                refine r_addl S26 (by walk_at "li") (by walk_at "li") (by rw [sizeLine_eq]; simp only [List.length_cons, List.length_nil, List.length_take]; omega) ?_
                intro na s27 hna S27
                have hna1 : s.heap.get? na = none := by
                  cases q : s.heap.get? na with
                  | none => rfl
                  | some o => rw [S26.keep _ _ (hg _ _ (hg15 _ _ (hg11 _ _ q)))] at hna; cases hna
                refine r_storec c3 (by assumption) (by walk_at "up") ?_
                intro s28 S28
                (with_reducible refine x_expr (by assumption) ?_)
                (with_reducible refine r_meth ?_)
                (with_reducible refine r_name (by assumption) (by assumption) (by walk_at "atv") ?_)
                (intro (_ : Sem Bool))
                (with_reducible refine m_append (by walk_at "lst") ?_)
                (with_reducible refine c_bm ?_)
                (with_reducible refine a_cons ?_)
                refine r_cell c3 (by assumption) (by walk_at "mem") ?_
                (with_reducible refine a_nil ?_)
                (with_reducible refine r_append (by assumption) (by walk_at "up") (by walk_at "sz") ?_; intro _ _)
                (with_reducible refine x_nil ?_)
                (with_reducible refine then_next ?_)
                (with_reducible refine x_nil ?_)
                (with_reducible refine then_next ?_)
                (with_reducible refine x_nil ?_)
                have htk : IntsAre (wvs.take p) (nats (way.take p)) := by
                  have := IntsAre.take hwi p
                  unfold nats at this ⊢
                  rwa [← List.map_take] at this
                have S30 := St.pick (mu' := [(na, .list (wvs.take p ++ [.int (0 + (i : Int)) ti])), (I2, .obj oI'), (wsa, .list (ways ++ [.ref na])), (L + 1, .cell (some (.int (1 + M) tz))), (L + 1 + 1, .cell (some (.ref D))), (L + 1 + 1 + 1, .cell (some (.ref na))), (L + 1 + 1 + 1 + 1, .cell (some (.int (0 + (i : Int)) ti)))]) (by assumption) (by walk_at "pick")
                obtain ⟨g31, hg31, S31, hna31⟩ := St.freezeHead S30
                have hnaL : LObj g31 na (wvs.take p ++ [.int (0 + (i : Int)) ti]) := hna31
                have hni : IntsAre (wvs.take p ++ [.int (0 + (i : Int)) ti]) (nats (way.take p ++ [i])) := by
                  rw [nats_app]
                  refine IntsAre.append htk ?_
                  rw [show (0 : Int) + (i : Int) = (i : Int) by omega]
                  exact .cons _ _ .nil
                refine turn_next ⟨g31, ⟨na, wvs.take p ++ [.int (0 + (i : Int)) ti], way.take p ++ [i], ways ++ [.ref na], ks ++ [way.take p ++ [i]], some (.ref D3)⟩, _, hg31, ⟨hnaL, hni, ?_, ?_, hna1, ?_, ?_, ?_⟩, S31⟩
                · intro q hq
                  rcases List.mem_append.mp hq with hq | hq
                  · have := hwb q (List.mem_of_mem_take hq); omega
                  · rw [List.mem_singleton.mp hq]; omega
                · dsimp only; rw [List.length_append]; simp only [List.length_cons, List.length_nil, List.length_take]; omega
                · dsimp only
                  rw [List.map_append]
                  exact RowsAt.snoc ⟨na, _, rfl, hna1, hnaL, hni⟩ (RowsAt.via (fun a o p q => ⟨p, hg31 _ _ q⟩) hK)
                · rw [wayF, hF]
                  unfold wayStep
                  dsimp only
                  rw [if_neg (by rw [hb]; decide), hpr]
                · dsimp only; rw [List.length_append]; simp only [List.length_cons, List.length_nil]; omega
              · have hse : sameAt rows way i = [] := by
                  have : us = [] := by
                    cases us with
                    | nil => rfl
                    | cons => cases hc
                  rw [this] at hus
                  exact List.eq_nil_of_length_eq_zero hus.symm
                (with_reducible refine x_expr (by assumption) ?_)
                (with_reducible refine r_meth ?_)
                (with_reducible refine r_name (by assumption) (by assumption) (by walk_at "atv") ?_)
                (intro (_ : Sem Bool))
                (with_reducible refine m_append (by walk_at "lst") ?_)
                (with_reducible refine c_bm ?_)
                (with_reducible refine a_cons ?_)
                (with_reducible refine r_list ?_)
                (with_reducible refine a_nil ?_)
                refine n_list (by assumption) (by walk_at "sz") ?_
                intro na s26 hna _ S26
                (with_reducible refine a_nil ?_)
                (with_reducible refine r_append (by assumption) (by walk_at "up") (by walk_at "sz") ?_; intro _ _)
                (with_reducible refine x_nil ?_)
                (with_reducible refine then_next ?_)
                (with_reducible refine x_nil ?_)
                (with_reducible refine then_next ?_)
                (with_reducible refine x_nil ?_)
                rename_i s27 S27
                have hna1 : s.heap.get? na = none := by
                  have hz := (S26.mf _ (.head _)).1
                  cases q : s.heap.get? na with
                  | none => rfl
                  | some o => rw [hg _ _ (hg15 _ _ (hg11 _ _ q))] at hz; cases hz
                have S30 := St.pick (mu' := [(na, .list []), (I2, .obj oI'), (wsa, .list (ways ++ [.ref na])), (L + 1, .cell (some (.int (1 + M) tz))), (L + 1 + 1, .cell (some (.ref D))), (L + 1 + 1 + 1, .cell (some (.ref wa'))), (L + 1 + 1 + 1 + 1, .cell (some (.int (0 + (i : Int)) ti)))]) (by assumption) (by walk_at "pick")
                obtain ⟨g31, hg31, S31, hna31⟩ := St.freezeHead S30
                have hnaL : LObj g31 na [] := hna31
                refine turn_next ⟨g31, ⟨wa', wvs, way, ways ++ [.ref na], ks ++ [[]], some (.ref D3)⟩, _, hg31, ⟨hwl.mono hg31, hwi, (fun q hq => Nat.lt_succ_of_lt (hwb q hq)), Nat.le_succ_of_le hwn, hwf, ?_, ?_, ?_⟩, S31⟩
                · dsimp only
                  rw [List.map_append]
                  exact RowsAt.snoc ⟨na, _, rfl, hna1, hnaL, .nil⟩ (RowsAt.via (fun a o p q => ⟨p, hg31 _ _ q⟩) hK)
                · rw [wayF, hF]
                  unfold wayStep
                  dsimp only
                  rw [if_neg (by rw [hb]; decide), hse]
                · dsimp only; rw [List.length_append]; simp only [List.length_cons, List.length_nil]; omega
      · rintro g' ⟨wa', wvs, way, ways, ks, same⟩ o s18 hg ⟨hwl, hwi, hwb, hwn, hwf, hK, hF, hkl⟩ S18
        dsimp only at S18 hwl hwi hwb hwn hwf hK hF hkl
        refine then_next ?_
        (with_reducible refine x_ret ?_)
        (with_reducible refine r_name (by assumption) (by assumption) (by walk_at "atv") ?_)
        refine h wsa ways _ sz (St.after S18 ((hg11.trans hg15).trans hg)) hwsa1 (S18.lst (.head _)) hruns ?_
        have e1 : ((lvs.length : Int) - 0).toNat = leads.length := by omega
        rw [e1, hrows] at hF
        rw [hF]
        exact RowsAt.via (fun a o p q => ⟨p, S18.keep _ _ q⟩) hK
end

def letterOf (t : Int) : Str := if t / 240 % 2 = 0 then ⟨#[97]⟩ else ⟨#[66]⟩
def signOf (t : Int) : Str := opStrs.getD (t % 48).toNat Str.empty ++ letterOf t
def orderStrs : List Str := sortedCps.map fun c => ⟨c.toArray⟩
def toldOf (ts : List Int) (leads : List Str) : List Str := (toldF leads (ts.map signOf) 5).2
def waysOf (leads : List Str) (sz : Nat) : List (List Nat) := (wayF (leads.map (rowOf sz)) sz 5).2
def ranksOf (ts : List Int) : List Int := ts.map fun t => ((orderStrs.idxOf (signOf t) : Nat) : Int)
def rksOf (ts : List Int) (way : List Nat) : List Int := way.map fun p => (ranksOf ts).getD p 0
def wantedOf (ts : List Int) (way : List Nat) : List Int := way.flatMap fun p => [ts.getD p 0 % 48 + 7, 0]
structure Law (ts : List Int) (leads : List Str) (sz : Nat) : Prop where
  toldLen : (toldOf ts leads).length = 5
  wayLen : (waysOf leads sz).length = 5
  mem : ∀ k, ∀ p ∈ (waysOf leads sz).getD k [], p < 5
  len : ∀ k, ((waysOf leads sz).getD k []).length ≤ 5
  size : ∀ k, ((toldOf ts leads).getD k Str.empty).cps.size ≤ 1000
  read : ∀ k, k < 5 → readF (((toldOf ts leads).getD k Str.empty).cps.size + 1) ((toldOf ts leads).getD k Str.empty) = wantedOf ts ((waysOf leads sz).getD k [])
  order : ∀ k j, k < 5 → j < 5 → decide (((toldOf ts leads).getD k Str.empty).cps.toList < ((toldOf ts leads).getD j Str.empty).cps.toList) = ltI (rksOf ts ((waysOf leads sz).getD k [])) (rksOf ts ((waysOf leads sz).getD j []))
/-- what is to be shown of the program's answers -/
def LawAll : Prop := ∀ (ts : List Int) (leads : List Str) (sz : Nat), ts.length = 5 → (∀ t ∈ ts, 0 ≤ t) → leads.length = 5 → (∀ x ∈ leads, Blank x ∧ x.cps.size ≤ 100) → (∀ y ∈ leads.flatMap runLens, y < (sz : Int)) → Law ts leads sz
theorem strs_cps : ∀ {vs : List Value} {l : List (List Nat)}, vs.map cpsOf = l.map some → StrsAre vs (l.map fun c => (⟨c.toArray⟩ : Str))
  | [], [], _ => .nil
  | v :: vs, c :: l, h => by
    simp only [List.map_cons, List.cons.injEq] at h
    cases v with
    | str x t =>
      have h1 : x.cps.toList = c := Option.some.inj h.1
      have : x = ⟨c.toArray⟩ := by rw [← h1]
      rw [List.map_cons, ← this]
      exact .cons x t (strs_cps h.2)
    | _ => cases h.1
  | [], _ :: _, h => by cases h
  | _ :: _, [], h => by cases h
theorem strs_toks : ∀ {vs : List Value} {ss : List Str} (k : Nat), StrsAre vs ss → ∃ t : Nat → Tok, vs = (ss.zipIdx k).map fun p => Value.str p.1 (t p.2)
  | _, _, k, .nil => ⟨fun _ => default, rfl⟩
  | _, _, k, .cons x t h => by
    obtain ⟨f, hf⟩ := strs_toks (k + 1) h
    refine ⟨fun i => if i = k then t else f i, ?_⟩
    rw [List.zipIdx_cons, List.map_cons, hf]
    dsimp only
    rw [if_pos rfl]
    congr 1
    apply List.map_congr_left
    intro p hp
    have := List.le_snd_of_mem_zipIdx hp
    rw [if_neg (by omega)]
theorem zipIdx_mapStr (t : Nat → Tok) : ∀ (l : List String) (k : Nat), ((l.map Str.ofString).zipIdx k).map (fun p => Value.str p.1 (t p.2)) = (l.zipIdx k).map fun p => Value.str (Str.ofString p.1) (t p.2)
  | [], _ => rfl
  | a :: r, k => by rw [List.map_cons, List.zipIdx_cons, List.zipIdx_cons, List.map_cons, List.map_cons, zipIdx_mapStr t r]
theorem signs_eq : (opStrs.flatMap fun n => [n ++ (⟨#[97]⟩ : Str), n ++ (⟨#[66]⟩ : Str)]) = (opNames.flatMap fun n => [n ++ "a", n ++ "B"]).map Str.ofString := by decide +kernel
theorem strs_signs {vs : List Value} (h : StrsAre vs (opStrs.flatMap fun n => [n ++ (⟨#[97]⟩ : Str), n ++ (⟨#[66]⟩ : Str)])) : ∃ t, vs = signsOf opNames t := by
  rw [signs_eq] at h
  obtain ⟨t, ht⟩ := strs_toks 0 h
  exact ⟨t, by rw [ht, zipIdx_mapStr]; rfl⟩
theorem sign_mem_all : (opStrs.all fun o => orderStrs.contains (o ++ (⟨#[97]⟩ : Str)) && orderStrs.contains (o ++ (⟨#[66]⟩ : Str))) = true := by decide +kernel
theorem ops_len : opStrs.length = 48 := by decide +kernel
theorem op_mem (t : Int) : opStrs.getD (t % 48).toNat Str.empty ∈ opStrs := by
  have h : (t % 48).toNat < opStrs.length := by rw [ops_len]; omega
  rw [List.getD_eq_getElem?_getD, List.getElem?_eq_getElem h]; exact List.getElem_mem h
theorem sign_mem (t : Int) : signOf t ∈ orderStrs := by
  have := List.all_eq_true.mp sign_mem_all _ (op_mem t)
  simp only [Bool.and_eq_true, List.contains_iff_mem] at this
  unfold signOf letterOf
  split
  · exact this.1
  · exact this.2
theorem ops_small : (opStrs.all fun o => decide (o.cps.size ≤ 3)) = true := by decide +kernel
theorem sign_size (t : Int) : (signOf t).cps.size ≤ 4 := by
  have := of_decide_eq_true (List.all_eq_true.mp ops_small _ (op_mem t))
  unfold signOf letterOf
  rw [app_size]
  split <;> (show _ + 1 ≤ 4; omega)
theorem order_len : orderStrs.length = 96 := by decide +kernel

theorem letter_at {t : Int} (h : 0 ≤ t) : ∃ c, (Str.ofString "aB").cps[(t / 240 % 2).toNat]? = some c ∧ (⟨#[c]⟩ : Str) = letterOf t := by
  unfold letterOf
  rcases (show t / 240 % 2 = 0 ∨ t / 240 % 2 = 1 by omega) with q | q
  · rw [if_pos q, q]; exact ⟨97, by decide +kernel, rfl⟩
  · rw [if_neg (by omega), q]; exact ⟨66, by decide +kernel, rfl⟩
theorem St.freezeRows2 {w : World} {s₀ s s1 : Shared} {g : Heap} {L a : Addr} {ns : List Str} {loc : List (Option Value)} {mu : List (Addr × MO)} {vs : List Value} {rows : List (List Int)} (S : St w s₀ g L ns loc mu s) (S1 : St w s₀ g L ns loc mu s1) (ha : s.heap.get? a = none) (hl : LObj s1.heap a vs)
    (hr : RowsAt (fun b => s.heap.get? b = none) s1.heap vs rows) : ∃ g', Sub g g' ∧ St w s₀ g' L ns loc mu s1 ∧ LObj g' a vs ∧ RowsAt (fun _ => True) g' vs rows := by
  obtain ⟨g', h1, h2, h3⟩ := S1.freeze (List.Sublist.refl _)
  have keep : ∀ b o, s.heap.get? b = none → s1.heap.get? b = some o → g'.get? b = some o := fun b o hb q => by
    refine h3 _ _ q ?_ fun hm => ?_
    · rintro rfl
      obtain ⟨o2, ho2⟩ := S.getL
      rw [hb] at ho2; cases ho2
    · obtain ⟨p, hp, rfl⟩ := List.mem_map.mp hm
      obtain ⟨o2, ho2⟩ := (S.ml p hp).ex
      rw [hb] at ho2; cases ho2
  exact ⟨g', h1, h2, hl.imp fun n q => keep _ _ ha q, RowsAt.via (fun b o p q => ⟨trivial, keep _ _ p q⟩) hr⟩
theorem strs_getD {vs : List Value} {ss : List Str} (h : StrsAre vs ss) {i : Nat} (hi : i < ss.length) : ∃ t, vs[i]? = some (.str (ss.getD i Str.empty) t) :=
  StrsAre.at h (by rw [List.getD_eq_getElem?_getD, List.getElem?_eq_getElem hi]; rfl)
structure LI where
  place : Option Value
  wanted : Option Value
  mine : Option Value
  j : Option Value
  other : Option Value
  answer : Option Value
section
variable {prog : Program} {w : World} {A : Around} {s : Shared} {n : Nat} {P P' : Addr → Prop}
set_option maxHeartbeats 4000000 in
theorem law_code {la : Addr} {items : List Value} {script : List Int} {R : Result → Shared → Prop} (hLaw : LawAll) (Am : Amb (n + 6) A) (G : Gd w s.heap) (hl : s.heap.IsList la items.toArray) (hI : IntsAre items script) (hn : script.length ≤ 63)
    (h : ∀ s', After s s' → R (.ok (.ret (.bool true))) s') : codeAny (model prog w) A (.call (.ref 140) ⟨[.ref la], []⟩) R s := by
  refine enterKC [Str.ofString "script"] [Str.ofString "totals", Str.ofString "place", Str.ofString "leads", Str.ofString "total", Str.ofString "signs", Str.ofString "told", Str.ofString "ways", Str.ofString "k", Str.ofString "wanted", Str.ofString "mine", Str.ofString "j", Str.ofString "other", Str.ofString "answer"]
    [Str.ofString "range", Str.ofString "min", Str.ofString "len", Str.ofString "_law_names", Str.ofString "_law_lead", Str.ofString "_law_told", Str.ofString "sorted", Str.ofString "_law_ways", Str.ofString "_law_read", Str.ofString "_strcoll", Str.ofString "type", Str.ofString "int"] _ Am G rfl rfl rfl rfl (by kernel_rfl) rfl rfl rfl rfl rfl (by decide +kernel) (by decide +kernel) (by decide +kernel) (by decide +kernel) (by decide +kernel) rfl rfl ?_
  intro e L s' C cells looks hsc S
  dsimp only [List.map, List.cons_append, List.nil_append] at C S
  have Am' := Am.deeper e
  have S : St w s s.heap L [Str.ofString "script", Str.ofString "totals", Str.ofString "place", Str.ofString "leads", Str.ofString "total", Str.ofString "signs", Str.ofString "told", Str.ofString "ways", Str.ofString "k", Str.ofString "wanted", Str.ofString "mine", Str.ofString "j", Str.ofString "other", Str.ofString "answer"]
    [some (.ref la), none, none, none, none, none, none, none, none, none, none, none, none, none] [(L + 1, .cell none), (L + 1 + 1, .cell none), (L + 1 + 1 + 1, .cell none)] s' := S
  have c1 : CellOf e (Str.ofString "names") (L + 1) := cells _ _ (.head _)
  have c2 : CellOf e (Str.ofString "order") (L + 1 + 1) := cells _ _ (.tail _ (.head _))
  have c3 : CellOf e (Str.ofString "ranks") (L + 1 + 1 + 1) := cells _ _ (.tail _ (.tail _ (.head _)))
  clear cells looks hsc
  have hll := hI.length
  (with_reducible refine x_asg ?_)
  (with_reducible refine r_list ?_)
  (with_reducible refine a_cons ?_)
  (with_reducible refine r_int (by assumption) ?_; intro _ _ _)
  (with_reducible refine a_cons ?_)
  (with_reducible refine r_int (by assumption) ?_; intro _ _ _)
  (with_reducible refine a_cons ?_)
  (with_reducible refine r_int (by assumption) ?_; intro _ _ _)
  (with_reducible refine a_cons ?_)
  (with_reducible refine r_int (by assumption) ?_; intro _ _ _)
  (with_reducible refine a_cons ?_)
  (with_reducible refine r_int (by assumption) ?_; intro _ _ _)
  (with_reducible refine a_nil ?_)
  refine n_list (by assumption) (by walk_at "sz") ?_
  intro tl s1 htl hs1 S1
  (with_reducible refine r_store (by assumption) (by assumption) (by walk_at "put") ?_; intro _ _)
  (with_reducible refine x_for ?_)
  (with_reducible refine r_call ?_)
  (with_reducible refine r_blt (by assumption) (by assumption) (by walk_at "mem") (by walk_at "blt") ?_)
  (with_reducible refine c_ty ?_)
  (with_reducible refine a_cons ?_)
  (with_reducible refine r_call ?_)
  (with_reducible refine r_blt (by assumption) (by assumption) (by walk_at "mem") (by walk_at "blt") ?_)
  (with_reducible refine c_bi ?_)
  (with_reducible refine a_cons ?_)
  (with_reducible refine r_call ?_)
  (with_reducible refine r_blt (by assumption) (by assumption) (by walk_at "mem") (by walk_at "blt") ?_)
  (with_reducible refine c_bi ?_)
  (with_reducible refine a_cons ?_)
  (with_reducible refine r_name (by assumption) (by assumption) (by walk_at "atv") ?_)
  (with_reducible refine a_nil ?_)
  (with_reducible refine r_lenl (by assumption) (by walk_at "li") (by omega) ?_; intro _ _ _)
  (with_reducible refine a_cons ?_)
  (with_reducible refine r_int (by assumption) ?_; intro _ _ _)
  (with_reducible refine a_nil ?_)
  (with_reducible refine r_min (by assumption) (by assumption) ?_; intro _ _ _)
  (with_reducible refine a_nil ?_)
  (with_reducible refine r_range1 (by assumption) ?_; intro _ _ _ _)
  (with_reducible refine p_range (by assumption) (by assumption) (by assumption) (by first | decide | omega) (by first | decide | omega) (by first | decide | omega) (by first | decide | omega) ?_; intro _ _ _ _ _)
  rename_i I oI s4 hIt S4
  refine loop (σ := List Value) (σ₀ := _) (o₀ := none) (fun σ o => [some (.ref la), some (.ref tl), o, none, none, none, none, none, none, none, none, none, none, none]) (fun σ => [(tl, .lst σ), (L + 1, .cell none), (L + 1 + 1, .cell none), (L + 1 + 1 + 1, .cell none)])
    (fun k g σ => ∃ ts, IntsAre σ ts ∧ ts.length = 5 ∧ ∀ t ∈ ts, 0 ≤ t ∧ t ≤ 15792 + (k : Int) * 1000000) C hIt (S4.toLst (.tail .head)) (fun σ o v => by walk_at "put") ?_ ?_ ?_
  · refine ⟨[15792, 249, 76, 1065, 149], .cons _ _ (.cons _ _ (.cons _ _ (.cons _ _ (.cons _ _ .nil)))), rfl, ?_⟩
    decide
  · rintro i v g' σ oI' s5 hi ⟨t, rfl⟩ hg ⟨ts, iT, hT5, hTb⟩ S5
    have ei : (0 + (i : Int)).toNat = i := z_tn _
    have h5 := ints_len iT
    have hl' : g'.IsList la items.toArray := by obtain ⟨o, q, r⟩ := hl; exact ⟨o, hg _ _ q, r⟩
    have hr5 : ((0 + (i : Int)) % 5).toNat < ts.length := by omega
    have his : i < script.length := by omega
    obtain ⟨t1, ht1⟩ := ints_int iT hr5
    obtain ⟨t2, ht2⟩ := ints_int hI his
    (with_reducible refine x_augsub ?_)
    (with_reducible refine r_name (by assumption) (by assumption) (by walk_at "atv") ?_)
    (with_reducible refine r_bin ?_)
    (with_reducible refine r_name (by assumption) (by assumption) (by walk_at "atv") ?_)
    (with_reducible refine r_int (by assumption) ?_; intro _ _ _)
    (with_reducible refine r_mod (by assumption) (by first | decide | omega) ?_; intro _ _ _)
    refine r_getitem (by walk_at "li") (by first | exact z_nn _ | exact c_nn _ | decide | omega) (by first | decide | omega) ht1 ?_
    (with_reducible refine r_bin ?_)
    (with_reducible refine r_sub' ?_)
    (with_reducible refine r_name (by assumption) (by assumption) (by walk_at "atv") ?_)
    (with_reducible refine r_name (by assumption) (by assumption) (by walk_at "atv") ?_)
    refine i_list (by walk_at "li") (by first | exact z_nn _ | exact c_nn _ | decide | omega) (by first | decide | omega) (by rw [ei]; exact ht2) ?_
    (with_reducible refine r_bin ?_)
    (with_reducible refine r_int (by assumption) ?_; intro _ _ _)
    (with_reducible refine r_int (by assumption) ?_; intro _ _ _)
    refine r_pow6 (by assumption) ?_
    intro _ _ _
    (with_reducible refine r_mod (by assumption) (by first | decide | omega) ?_; intro _ _ _)
    (with_reducible refine r_iadd (by assumption) ?_; intro _ _ _)
    rename_i tq _ _
    refine r_setitem (by assumption) (by walk_at "li") (by walk_at "up") (by omega) (by omega) (by omega) ?_
    intro s9 S9
    (with_reducible refine x_nil ?_)
    refine turn_next ⟨g', _, _, Sub.rfl', ⟨_, Mine.IntsAre.set' iT ((0 + (i : Int)) % 5).toNat (ts.getD ((0 + (i : Int)) % 5).toNat 0 + script.getD i 0 % 1000000) tq, by rw [List.length_set]; exact hT5, ?_⟩, by assumption⟩
    intro t ht
    rcases List.mem_or_eq_of_mem_set ht with ht | rfl
    · have := hTb t ht
      refine ⟨this.1, ?_⟩
      omega
    · have hm : ts.getD ((0 + (i : Int)) % 5).toNat 0 ∈ ts := by rw [List.getD_eq_getElem?_getD, List.getElem?_eq_getElem hr5]; exact List.getElem_mem hr5
      have := hTb _ hm
      have h1 := Int.emod_nonneg (script.getD i 0) (show (1000000 : Int) ≠ 0 by decide)
      have h2 := Int.emod_lt_of_pos (script.getD i 0) (show (0 : Int) < 1000000 by decide)
      generalize script.getD i 0 % 1000000 = z at *
      generalize ts.getD ((0 + (i : Int)) % 5).toNat 0 = y at *
      omega
  · rintro g' σ o s5 hg ⟨ts, iT, hT5, hTb⟩ S5
    refine then_next ?_
    have hTb : ∀ t ∈ ts, 0 ≤ t ∧ t < 2 ^ 40 := fun t ht => by have := hTb t ht; refine ⟨this.1, ?_⟩; omega
    have S5 : St w s g' L _ _ [(tl, .lst σ), (L + 1, .cell none), (L + 1 + 1, .cell none), (L + 1 + 1 + 1, .cell none)] s5 := S5
    obtain ⟨g6, hg6, S6, hT6⟩ := S5.freezeHead
    have hT6 : g6.IsList tl σ.toArray := hT6
    have hsub6 := hg.trans hg6
    clear S5 hIt S4 hg6 hg
    (with_reducible refine x_asg ?_)
    (with_reducible refine r_call ?_)
    (with_reducible refine r_glob (by assumption) (by assumption) (by walk_at "mem") (by walk_at "glb") ?_)
    (with_reducible refine c_fn0 (by walk_at "kp") (St.G (by assumption)) ?_)
    refine names_call (n := n) (Am'.le (by first | exact Nat.le_add_right _ _ | exact Nat.add_le_add_left (by decide) _ | omega)) (St.G (by assumption)) ?_
    intro na nvs s7 a7 hna hnl hns
    have S7 := After.st a7 S6
    obtain ⟨g7, hg7, S8, hnl⟩ := St.freezeL S6 S7 hna hnl
    refine r_storec c1 (by assumption) (by walk_at "up") ?_
    intro s9 S9
    (with_reducible refine x_asg ?_)
    (with_reducible refine r_list ?_)
    (with_reducible refine a_nil ?_)
    refine n_list (by assumption) (by walk_at "sz") ?_
    intro lea s10 hlea _ S10
    have hT7 : g7.IsList tl σ.toArray := by obtain ⟨o, q, r⟩ := hT6; exact ⟨o, hg7 _ _ q, r⟩
    have hsub7 := hsub6.trans hg7
    have h5 := ints_len iT
    clear hT6 S6 S7 a7 hg7 hsub6
    (with_reducible refine r_store (by assumption) (by assumption) (by walk_at "put") ?_; intro _ _)
    (with_reducible refine x_for ?_)
    (with_reducible refine r_name (by assumption) (by assumption) (by walk_at "atv") ?_)
    (with_reducible refine p_list (by assumption) (by assumption) (by walk_at "lig") ?_; intro _ _ _ _ _)
    rename_i I oI s11 hIt S11
    have S11 := S11.pick (mu' := [(I, .obj oI), (lea, .list []), (L + 1, .cell (some (.ref na))), (L + 1 + 1, .cell none), (L + 1 + 1 + 1, .cell none)]) (by walk_at "pick")
    refine loop (σ := List Value) (σ₀ := []) (o₀ := none) (fun σ ov => [some (.ref la), some (.ref tl), o, some (.ref lea), ov, none, none, none, none, none, none, none, none, none]) (fun σ => [(lea, .list σ), (L + 1, .cell (some (.ref na))), (L + 1 + 1, .cell none), (L + 1 + 1 + 1, .cell none)])
      (fun k g σ => ∃ ls, StrsAre σ ls ∧ ls.length = k ∧ ∀ x ∈ ls, Blank x ∧ x.cps.size ≤ 9 * k) C hIt S11 (fun σ o v => by walk_at "put") ⟨[], .nil, rfl, fun _ h => nomatch h⟩ ?_ ?_
    · rintro i v g' σl oI' s12 hi hv hg ⟨ls, iL, hL5, hLb⟩ S12
      have hit : i < ts.length := by omega
      obtain ⟨tt, htt⟩ := ints_int iT hit
      rw [htt] at hv
      cases hv
      have hmem : ts.getD i 0 ∈ ts := by rw [List.getD_eq_getElem?_getD, List.getElem?_eq_getElem hit]; exact List.getElem_mem hit
      have hb := hTb _ hmem
      have hsl := StrsAre.len_eq iL
      (with_reducible refine x_expr (by assumption) ?_)
      (with_reducible refine r_meth ?_)
      (with_reducible refine r_name (by assumption) (by assumption) (by walk_at "atv") ?_)
      (intro (_ : Sem Bool))
      (with_reducible refine m_append (by walk_at "lst") ?_)
      (with_reducible refine c_bm ?_)
      (with_reducible refine a_cons ?_)
      (with_reducible refine r_call ?_)
      (with_reducible refine r_glob (by assumption) (by assumption) (by walk_at "mem") (by walk_at "glb") ?_)
      (with_reducible refine c_fn (by walk_at "kp") ?_)
      (with_reducible refine a_cons ?_)
      (with_reducible refine r_name (by assumption) (by assumption) (by walk_at "atv") ?_)
      (with_reducible refine a_cons ?_)
      (with_reducible refine r_bin ?_)
      (with_reducible refine r_bin ?_)
      (with_reducible refine r_name (by assumption) (by assumption) (by walk_at "atv") ?_)
      (with_reducible refine r_int (by assumption) ?_; intro _ _ _)
      (with_reducible refine r_div (by assumption) (by first | decide | omega) (by first | decide | omega) ?_; intro _ _ _)
      (with_reducible refine r_int (by assumption) ?_; intro _ _ _)
      (with_reducible refine r_mod (by assumption) (by first | decide | omega) ?_; intro _ _ _)
      (with_reducible refine a_cons ?_)
      (with_reducible refine r_bin ?_)
      (with_reducible refine r_name (by assumption) (by assumption) (by walk_at "atv") ?_)
      (with_reducible refine r_int (by assumption) ?_; intro _ _ _)
      (with_reducible refine r_div (by assumption) (by first | decide | omega) (by first | decide | omega) ?_; intro _ _ _)
      (with_reducible refine a_nil ?_)
      ((with_reducible show Gd _ _ ∧ _); refine And.intro (St.G (by assumption)) ?_)
      refine lead_call (n := n) (m := 9 * i) (Am'.le (by first | exact Nat.le_add_right _ _ | exact Nat.add_le_add_left (by decide) _ | omega)) (St.G (by assumption)) (by walk_at "lst") iL (by omega) (by omega) hLb (by omega) (by omega) (by omega) ?_
      intro x tx s13 a13 hx1 hx2
      have S13 := After.st a13 (by assumption)
      (with_reducible refine a_nil ?_)
      (with_reducible refine r_append (by assumption) (by walk_at "up") (by walk_at "sz") ?_; intro _ _)
      (with_reducible refine x_nil ?_)
      refine turn_next ⟨g', _, _, Sub.rfl', ⟨ls ++ [x], StrsAre.append' iL (.cons x tx .nil), by rw [List.length_append]; simp only [List.length_cons, List.length_nil]; omega, ?_⟩, by assumption⟩
      intro y hy
      rcases List.mem_append.mp hy with hy | hy
      · have := hLb y hy; exact ⟨this.1, by omega⟩
      · rw [List.mem_singleton.mp hy]; exact ⟨hx1, by omega⟩
    · rintro g8 σl ov s12 hg8 ⟨ls, iL, hL5, hLb⟩ S12
      rw [h5, hT5] at hL5
      have hLb : ∀ x ∈ ls, Blank x ∧ x.cps.size ≤ 100 := fun x hx => ⟨(hLb x hx).1, by have := (hLb x hx).2; omega⟩
      refine then_next ?_
      have S12 : St w s g8 L _ _ [(lea, .list σl), (L + 1, .cell (some (.ref na))), (L + 1 + 1, .cell none), (L + 1 + 1 + 1, .cell none)] s12 := S12
      obtain ⟨g9, hg9, S13, hle⟩ := S12.freezeHead
      have hle : LObj g9 lea σl := hle
      have hT9 : g9.IsList tl σ.toArray := by obtain ⟨o, q, r⟩ := hT7; exact ⟨o, hg9 _ _ (hg8 _ _ q), r⟩
      have hnl9 := (hnl.mono hg8).mono hg9
      have hsub9 := (hsub7.trans hg8).trans hg9
      clear S12 S11 hIt S10 S9 S8 hg8 hg9 hT7 hnl hsub7
      refine x_asgone (s₀ := s) (loc := [some (.ref la), some (.ref tl), o, some (.ref lea), ov, none, none, none, none, none, none, none, none, none]) [] (fun v => [some (.ref la), some (.ref tl), o, some (.ref lea), ov, some v, none, none, none, none, none, none, none, none]) C (swaps_local C (by walk_at "mem") ?_) (cl := [(Str.ofString "names", L + 1)]) (clos_of ?_) rfl ?_ (fun v => by walk_at "put") ?_
      · decide +kernel
      · simp [closOf, c1.at']
      · decide +kernel
      (with_reducible refine r_name (by assumption) (by assumption) (by walk_at "atv") ?_)
      (with_reducible refine p_list (by assumption) (by assumption) (by walk_at "lig") ?_; intro _ _ _ _ _)
      rename_i I2 oI2 s14 hIt2 S14
      refine ⟨g9, _, I2, oI2, _, _, rfl, hIt2, S14, compF_one (fun j us _ => StrsAre us ((ts.take j).map signOf)) (by rw [sizeLine_eq]; omega) ?_⟩
      intro D Ca gC h1 h2 Cc
      have k1 := cell_of_fn Cc c1 rfl rfl
      have v1 := S14.cellC h1 (c := L + 1) (by walk_at "mem")
      have hs9 := S14.subC h1
      refine ⟨.nil, ?_, ?_⟩
      · rintro j v us g10 oI3 s15 hj hv hg10 hJ S15
        have hjt : j < ts.length := by omega
        have v1 := v1.of (fun o q => hg10 _ _ q)
        have hn10 := (hnl9.mono hs9).mono hg10
        obtain ⟨tt, htt⟩ := ints_int iT hjt
        rw [htt] at hv
        cases hv
        have hmem : ts.getD j 0 ∈ ts := by rw [List.getD_eq_getElem?_getD, List.getElem?_eq_getElem hjt]; exact List.getElem_mem hjt
        have hb := hTb _ hmem
        have hon : (ts.getD j 0 % 48).toNat < opStrs.length := by rw [ops_len]; omega
        obtain ⟨tn, htn⟩ := StrsAre.at hns (List.getElem?_eq_getElem hon)
        obtain ⟨c, hc1, hc2⟩ := letter_at hb.1
        have hos := of_decide_eq_true (List.all_eq_true.mp ops_small _ (List.getElem_mem hon))
        refine tests_nil ⟨fun _ => ?_, (fun q => nomatch q)⟩
        (with_reducible refine r_bin ?_)
        (with_reducible refine r_sub' ?_)
        refine r_cellz k1 (by assumption) v1 ?_
        (with_reducible refine r_bin ?_)
        (with_reducible refine r_name (by assumption) (by assumption) (by walk_at "atv") ?_)
        (with_reducible refine r_int (by assumption) ?_; intro _ _ _)
        (with_reducible refine r_mod (by assumption) (by first | decide | omega) ?_; intro _ _ _)
        refine i_list (by walk_at "li") (by first | exact z_nn _ | exact c_nn _ | decide | omega) (by first | decide | omega) htn ?_
        (with_reducible refine r_sub' ?_)
        (with_reducible refine r_str (by assumption) ?_; intro _ _ _)
        (with_reducible refine r_bin ?_)
        (with_reducible refine r_bin ?_)
        (with_reducible refine r_name (by assumption) (by assumption) (by walk_at "atv") ?_)
        (with_reducible refine r_int (by assumption) ?_; intro _ _ _)
        (with_reducible refine r_div (by assumption) (by first | decide | omega) (by first | decide | omega) ?_; intro _ _ _)
        (with_reducible refine r_int (by assumption) ?_; intro _ _ _)
        (with_reducible refine r_mod (by assumption) (by first | decide | omega) ?_; intro _ _ _)
        refine i_stridx (by assumption) (by omega) (by omega) hc1 ?_
        intro _ _ _
        refine r_cat (by assumption) (by show opStrs[(ts.getD j 0 % 48).toNat].cps.size + 1 ≤ _; rw [sizeLine_eq]; omega) ?_
        intro tk s16 S16
        refine ⟨g10, Sub.rfl', ?_, S16⟩
        rw [List.take_succ_eq_append_getElem hjt, List.map_append]
        refine StrsAre.append' hJ ?_
        have hg : ts[j] = ts.getD j 0 := by rw [List.getD_eq_getElem?_getD, List.getElem?_eq_getElem hjt]; rfl
        have he : opStrs[(ts.getD j 0 % 48).toNat] ++ (⟨#[c]⟩ : Str) = signOf (ts.getD j 0) := by
          rw [hc2]
          unfold signOf
          rw [List.getD_eq_getElem?_getD (l := opStrs), List.getElem?_eq_getElem hon]; rfl
        rw [hg, he]
        exact .cons _ tk .nil
      · intro g10 us s15 hg10 hJ hv10 hD10 hk10 S15
        rw [List.take_of_length_le (by omega)] at hJ
        obtain ⟨g11, hg11, S16, hD⟩ := St.freezeHead S15
        have hD : LObj g11 D us := hD
        have hle11 := hle.mono hg11
        have hT11 : g11.IsList tl σ.toArray := by obtain ⟨o, q, r⟩ := hT9; exact ⟨o, hg11 _ _ q, r⟩
        have hnl11 := hnl9.mono hg11
        have hsub11 := hsub9.trans hg11
        clear S15 hk10 hD10 hv10 hg10 hs9 v1 k1 Cc h1 h2 S14 hIt2 S13 hle hT9 hnl9 hsub9 hg11
        (with_reducible refine x_asg ?_)
        (with_reducible refine r_call ?_)
        (with_reducible refine r_glob (by assumption) (by assumption) (by walk_at "mem") (by walk_at "glb") ?_)
        (with_reducible refine c_fn (by walk_at "kp") ?_)
        (with_reducible refine a_cons ?_)
        (with_reducible refine r_name (by assumption) (by assumption) (by walk_at "atv") ?_)
        (with_reducible refine a_cons ?_)
        (with_reducible refine r_name (by assumption) (by assumption) (by walk_at "atv") ?_)
        (with_reducible refine a_nil ?_)
        ((with_reducible show Gd _ _ ∧ _); refine And.intro (St.G (by assumption)) ?_)
        refine told_call (n := n) (Am'.le (by first | exact Nat.le_add_right _ _ | exact Nat.add_le_add_left (by decide) _ | omega)) (St.G (by assumption)) (by walk_at "lst") (by walk_at "lst") iL hJ (by rw [List.length_map]; omega) (by omega) (fun x hx => (hLb x hx).2) (fun x hx => ?_) ?_
        · obtain ⟨t, _, rfl⟩ := List.mem_map.mp hx
          have := sign_size t
          omega
        intro tol tvs s17 a17 hto htl2 htI
        have S17 := After.st a17 S16
        obtain ⟨g12, hg12, S18, htl2⟩ := St.freezeL S16 S17 hto htl2
        rw [hL5] at htI
        have htI : StrsAre tvs (toldOf ts ls) := htI
        have hle12 := hle11.mono hg12
        have hD12 := hD.mono hg12
        have hT12 : g12.IsList tl σ.toArray := by obtain ⟨o, q, r⟩ := hT11; exact ⟨o, hg12 _ _ q, r⟩
        have hnl12 := hnl11.mono hg12
        have hsub12 := hsub11.trans hg12
        clear S16 S17 a17 hle11 hD hT11 hnl11 hsub11 hg12
        (with_reducible refine r_store (by assumption) (by assumption) (by walk_at "put") ?_; intro _ _)
        (with_reducible refine x_asg ?_)
        (with_reducible refine r_call ?_)
        (with_reducible refine r_blt (by assumption) (by assumption) (by walk_at "mem") (by walk_at "blt") ?_)
        (with_reducible refine c_bi ?_)
        (with_reducible refine a_cons ?_)
        refine r_two (s₀ := s) (loc := [some (.ref la), some (.ref tl), o, some (.ref lea), ov, some (.ref D), some (.ref tol), none, none, none, none, none, none, none]) [] C (cl := []) (clos_of rfl) rfl ?_ ?_ ?_
        · decide +kernel
        · decide +kernel
        skip
        refine r_cell c1 (by assumption) (by walk_at "mem") ?_
        (with_reducible refine p_list (by assumption) (by assumption) (by walk_at "lig") ?_; intro _ _ _ _ _)
        rename_i I3 oI3 s20 hIt3 S20
        have hnlen := StrsAre.len_eq hns
        refine ⟨g12, _, I3, oI3, _, _, rfl, hIt3, S20, compF_two (fun i vs _ => StrsAre vs ((opStrs.take i).flatMap fun n => [n ++ (⟨#[97]⟩ : Str), n ++ (⟨#[66]⟩ : Str)]) ∧ vs.length ≤ 2 * i) (by intro _ _; with_unfolding_all rfl) ?_⟩
        intro D2 Ca2 gC2 h1 h2 Cc2
        refine ⟨⟨.nil, Nat.zero_le _⟩, ?_, ?_⟩
        · rintro i v vs o2 g13 oI' s21 hi hv hg13 ⟨hJ1, hJ2⟩ S21
          have hio : i < opStrs.length := by omega
          have hi48 : i < 48 := by rw [ops_len] at hio; exact hio
          obtain ⟨tn, htn⟩ := StrsAre.at hns (List.getElem?_eq_getElem hio)
          rw [htn] at hv
          cases hv
          have hos := of_decide_eq_true (List.all_eq_true.mp ops_small _ (List.getElem_mem hio))
          have e2 : (Str.ofString "aB").cps.size = 2 := by decide +kernel
          (with_reducible refine r_str (by assumption) ?_; intro _ _ _)
          (with_reducible refine p_str (by assumption) (by assumption) ?_; intro _ _ _ _ _)
          rename_i I4 oI4 s22 hIt4 S22
          refine ⟨I4, oI4, _, _, g13, fun j us3 _ => StrsAre us3 ((opStrs.take i).flatMap (fun n => [n ++ (⟨#[97]⟩ : Str), n ++ (⟨#[66]⟩ : Str)]) ++ [opStrs[i] ++ (⟨#[97]⟩ : Str), opStrs[i] ++ (⟨#[66]⟩ : Str)].take j) ∧ us3.length ≤ 2 * i + j ∧ j ≤ 2, rfl, Sub.rfl', hIt4, S22, ⟨?_, hJ2, Nat.zero_le _⟩, (fun j us g3 q => ?_), ?_, ?_⟩
          · rw [List.take_zero, List.append_nil]; exact hJ1
          · have h5 := q.2.1
            have h6 := q.2.2
            omega
          · rintro j u us3 g3 oI5 s23 hj hu hg3 ⟨q1, q2, q3⟩ S23
            obtain ⟨c, tc, hc, rfl⟩ := hu
            (with_reducible refine r_bin ?_)
            (with_reducible refine r_name (by assumption) (by assumption) (by walk_at "atv") ?_)
            (with_reducible refine r_name (by assumption) (by assumption) (by walk_at "atv") ?_)
            refine r_cat (by assumption) (by show opStrs[i].cps.size + 1 ≤ _; rw [sizeLine_eq]; omega) ?_
            intro tk s24 S24
            refine ⟨g3, Sub.rfl', ⟨?_, by rw [List.length_append]; simp only [List.length_cons, List.length_nil]; omega, by omega⟩, S24⟩
            have hj2 : j < [opStrs[i] ++ (⟨#[97]⟩ : Str), opStrs[i] ++ (⟨#[66]⟩ : Str)].length := by simp only [List.length_cons, List.length_nil]; omega
            rw [List.take_succ_eq_append_getElem hj2, ← List.append_assoc]
            refine StrsAre.append' q1 ?_
            have he : opStrs[i] ++ (⟨#[c]⟩ : Str) = [opStrs[i] ++ (⟨#[97]⟩ : Str), opStrs[i] ++ (⟨#[66]⟩ : Str)][j] := by
              rcases (show j = 0 ∨ j = 1 by omega) with rfl | rfl
              · rw [show (Str.ofString "aB").cps[0]? = some 97 by decide +kernel] at hc; cases hc; rfl
              · rw [show (Str.ofString "aB").cps[1]? = some 66 by decide +kernel] at hc; cases hc; rfl
            rw [← he]
            exact .cons _ tk .nil
          · rintro us3 g3 hg3 ⟨q1, q2, q3⟩
            rw [e2] at q1 q2
            refine ⟨?_, q2⟩
            rw [List.take_succ_eq_append_getElem hio, List.flatMap_append]
            exact q1
        · rintro g13 us2 s21 hg13 ⟨hJ1, hJ2⟩ hD2 hk2 S21
          rw [List.take_of_length_le (by omega)] at hJ1
          (with_reducible refine a_nil ?_)
          obtain ⟨tq, rfl⟩ := strs_signs hJ1
          refine r_sorted (by assumption) (by walk_at "li") ?_
          intro oa ovs s22 hoa S22 hov
          have hovs : StrsAre ovs orderStrs := strs_cps hov
          refine r_storec c2 (by assumption) (by walk_at "up") ?_
          intro s23 S23
          have S23 := S23.pick (mu' := [(oa, .list ovs), (L + 1, .cell (some (.ref na))), (L + 1 + 1, .cell (some (.ref oa))), (L + 1 + 1 + 1, .cell none)]) (by walk_at "pick")
          obtain ⟨g14, hg14, S24, hoal⟩ := S23.freezeHead
          have hoal : LObj g14 oa ovs := hoal
          have hle14 := hle12.mono hg14
          have hD14 := hD12.mono hg14
          have htl14 := htl2.mono hg14
          have hT14 : g14.IsList tl σ.toArray := by obtain ⟨o, q, r⟩ := hT12; exact ⟨o, hg14 _ _ q, r⟩
          have hsub14 := hsub12.trans hg14
          clear S23 S22 S21 hk2 hD2 hg13 h1 h2 Cc2 S20 hIt3 S18 hle12 hD12 htl2 hT12 hnl12 hsub12 hg14 hov hJ1
          refine x_asg ?_ (swaps_cell c3.kind)
          refine r_one (s₀ := s) (loc := [some (.ref la), some (.ref tl), o, some (.ref lea), ov, some (.ref D), some (.ref tol), none, none, none, none, none, none, none]) [] C (cl := [(Str.ofString "order", L + 1 + 1)]) (clos_of ?_) rfl ?_ ?_
          · simp [closOf, c2.at']
          · decide +kernel
          (with_reducible refine r_name (by assumption) (by assumption) (by walk_at "atv") ?_)
          (with_reducible refine p_list (by assumption) (by assumption) (by walk_at "lig") ?_; intro _ _ _ _ _)
          rename_i I5 oI5 s25 hIt5 S25
          have hul := StrsAre.len_eq hJ
          rw [List.length_map] at hul
          refine ⟨g14, _, I5, oI5, _, _, rfl, hIt5, S25, compF_one (fun j us _ => IntsAre us ((ranksOf ts).take j)) (by rw [sizeLine_eq]; omega) ?_⟩
          intro D3 Ca3 gC3 h1 h2 Cc3
          have k2 := cell_of_fn Cc3 c2 rfl rfl
          have v2 := S25.cellC h1 (c := L + 1 + 1) (by walk_at "mem")
          have hs14 := S25.subC h1
          have hrl : (ranksOf ts).length = 5 := by unfold ranksOf; rw [List.length_map]; exact hT5
          refine ⟨.nil, ?_, ?_⟩
          · rintro j v us3 g15 oI6 s26 hj hv hg15 hJ5 S26
            have hjt : j < ts.length := by omega
            have v2 := v2.of (fun o q => hg15 _ _ q)
            have ho15 := (hoal.mono hs14).mono hg15
            have hjm : j < (ts.map signOf).length := by rw [List.length_map]; exact hjt
            obtain ⟨tt, htt⟩ := StrsAre.at hJ (List.getElem?_eq_getElem hjm)
            rw [htt] at hv
            cases hv
            rw [List.getElem_map] at htt
            refine tests_nil ⟨fun _ => ?_, (fun q => nomatch q)⟩
            (with_reducible refine r_meth ?_)
            refine r_cellz k2 (by assumption) v2 ?_
            (intro (_ : Sem Bool))
            refine m_index (by walk_at "lst") ?_
            (with_reducible refine c_bm ?_)
            (with_reducible refine a_cons ?_)
            (with_reducible refine r_name (by assumption) (by assumption) (by walk_at "atv") ?_)
            (with_reducible refine a_nil ?_)
            refine r_lindex (by assumption) (by walk_at "lst") hovs (by rw [List.getElem_map]; exact sign_mem _) (by rw [order_len]; decide) ?_
            intro tk s27 S27
            refine ⟨g15, Sub.rfl', ?_, S27⟩
            have hjr : j < (ranksOf ts).length := by omega
            rw [List.take_succ_eq_append_getElem hjr]
            refine IntsAre.append hJ5 ?_
            have he : (ranksOf ts)[j] = ((orderStrs.idxOf (ts.map signOf)[j] : Nat) : Int) := by simp [ranksOf]
            rw [he]
            exact .cons _ tk .nil
          · intro g15 us3 s26 hg15 hJ5 hv15 hD15 hk15 S26
            rw [List.take_of_length_le (by omega)] at hJ5
            refine r_storec c3 (by assumption) (by walk_at "up") ?_
            intro s27 S27
            have S27 := S27.pick (mu' := [(D3, .list us3), (L + 1, .cell (some (.ref na))), (L + 1 + 1, .cell (some (.ref oa))), (L + 1 + 1 + 1, .cell (some (.ref D3)))]) (by walk_at "pick")
            obtain ⟨g16, hg16, S28, hrk⟩ := S27.freezeHead
            have hrk : LObj g16 D3 us3 := hrk
            have hle16 := hle14.mono hg16
            have htl16 := htl14.mono hg16
            have hT16 : g16.IsList tl σ.toArray := by obtain ⟨o, q, r⟩ := hT14; exact ⟨o, hg16 _ _ q, r⟩
            have hsub16 := hsub14.trans hg16
            clear S27 S26 hk15 hD15 hv15 hg15 hs14 v2 k2 h1 h2 Cc3 S25 hIt5 S24 hle14 htl14 hT14 hsub14 hg16 hD14 hoal
            (with_reducible refine x_asg ?_)
            (with_reducible refine r_call ?_)
            (with_reducible refine r_glob (by assumption) (by assumption) (by walk_at "mem") (by walk_at "glb") ?_)
            (with_reducible refine c_fn (by walk_at "kp") ?_)
            (with_reducible refine a_cons ?_)
            (with_reducible refine r_name (by assumption) (by assumption) (by walk_at "atv") ?_)
            (with_reducible refine a_nil ?_)
            ((with_reducible show Gd _ _ ∧ _); refine And.intro (St.G (by assumption)) ?_)
            refine ways_call (n := n) (m := 100) (Am'.le (by first | exact Nat.le_add_right _ _ | exact Nat.add_le_add_left (by decide) _ | omega)) (St.G (by assumption)) (by walk_at "lst") iL (by omega) (by rintro rfl; cases hL5) (by omega) hLb ?_
            intro wya wvs s30 sz a30 hwya hwl hruns hRows
            have S30 := After.st a30 S28
            obtain ⟨g18, hg18, S31, hwl, hRows⟩ := St.freezeRows2 S28 S30 hwya hwl hRows
            rw [hL5] at hRows
            have hRows : RowsAt (fun _ => True) g18 wvs ((waysOf ls sz).map nats) := hRows
            have LW : Law ts ls sz := hLaw ts ls sz hT5 (fun t ht => (hTb t ht).1) hL5 hLb hruns
            have htl18 := htl16.mono hg18
            have hrk := hrk.mono hg18
            have hT18 : g18.IsList tl σ.toArray := by obtain ⟨o, q, r⟩ := hT16; exact ⟨o, hg18 _ _ q, r⟩
            have hsub18 := hsub16.trans hg18
            have hwlen := RowsAt.len hRows
            rw [List.length_map, LW.wayLen] at hwlen
            have htlen := StrsAre.len_eq htI
            rw [LW.toldLen] at htlen
            have hr5l := ints_len hJ5
            have hway : ∀ i, i < 5 → ∃ ra rc, wvs[i]? = some (.ref ra) ∧ LObj g18 ra rc ∧ IntsAre rc (nats ((waysOf ls sz).getD i [])) := by
              intro i hi5
              obtain ⟨rai, rci, hrai, hrci, hrii⟩ := hRows.atD (i := i) (by rw [List.length_map, LW.wayLen]; exact hi5)
              refine ⟨rai, rci, hrai, hrci, ?_⟩
              rw [List.getD_eq_getElem?_getD, List.getElem?_map] at hrii
              rw [List.getD_eq_getElem?_getD]
              have hq : i < (waysOf ls sz).length := by rw [LW.wayLen]; exact hi5
              rw [List.getElem?_eq_getElem hq] at hrii ⊢
              exact hrii
            clear S28 S30 a30 htl16 hT16 hsub16 hg18 hle16
            (with_reducible refine r_store (by assumption) (by assumption) (by walk_at "put") ?_; intro _ _)
            (with_reducible refine x_for ?_)
            (with_reducible refine r_call ?_)
            (with_reducible refine r_blt (by assumption) (by assumption) (by walk_at "mem") (by walk_at "blt") ?_)
            (with_reducible refine c_ty ?_)
            (with_reducible refine a_cons ?_)
            (with_reducible refine r_int (by assumption) ?_; intro _ _ _)
            (with_reducible refine a_nil ?_)
            (with_reducible refine r_range1 (by assumption) ?_; intro _ _ _ _)
            (with_reducible refine p_range (by assumption) (by assumption) (by assumption) (by first | decide | omega) (by first | decide | omega) (by first | decide | omega) (by first | decide | omega) ?_; intro _ _ _ _ _)
            rename_i I6 oI6 s32 hIt6 S32
            refine loop (σ := LI) (σ₀ := ⟨o, none, none, none, none, none⟩) (o₀ := none) (fun σ o => [some (.ref la), some (.ref tl), σ.place, some (.ref lea), ov, some (.ref D), some (.ref tol), some (.ref wya), o, σ.wanted, σ.mine, σ.j, σ.other, σ.answer]) (fun σ => [(L + 1, .cell (some (.ref na))), (L + 1 + 1, .cell (some (.ref oa))), (L + 1 + 1 + 1, .cell (some (.ref D3)))]) (fun _ _ _ => True) C hIt6 S32 (fun σ o v => by walk_at "put") trivial ?_ ?_
            · rintro i v g19 ⟨o1, o2, o3, o4, o5, o6⟩ oI7 s33 hi ⟨ti, rfl⟩ hg19 _ S33
              dsimp only at S33
              have ei : (0 + (i : Int)).toNat = i := z_tn _
              have hi5 : i < 5 := by omega
              have hwlg := hwl.mono hg19
              have htlg := htl18.mono hg19
              have hTg : g19.IsList tl σ.toArray := by obtain ⟨o, q, r⟩ := hT18; exact ⟨o, hg19 _ _ q, r⟩
              obtain ⟨rai, rci, hrai, hrci, hrii⟩ := hway i hi5
              have hrcil := ints_len2 hrii
              have hwi5 := LW.len i
              have hrcg := hrci.mono hg19
              obtain ⟨tti, htti⟩ := strs_getD htI (i := i) (by rw [LW.toldLen]; exact hi5)
              (with_reducible refine x_asg ?_)
              (with_reducible refine r_list ?_)
              (with_reducible refine a_nil ?_)
              refine n_list (by assumption) (by walk_at "sz") ?_
              intro wl s34 hwl34 _ S34
              (with_reducible refine r_store (by assumption) (by assumption) (by walk_at "put") ?_; intro _ _)
              (with_reducible refine x_for ?_)
              (with_reducible refine r_sub' ?_)
              (with_reducible refine r_name (by assumption) (by assumption) (by walk_at "atv") ?_)
              (with_reducible refine r_name (by assumption) (by assumption) (by walk_at "atv") ?_)
              refine i_list (by walk_at "li") (by first | exact z_nn _ | exact c_nn _ | decide | omega) (by first | decide | omega) (by rw [ei]; exact hrai) ?_
              (with_reducible refine p_list (by assumption) (by assumption) (by walk_at "lig") ?_; intro _ _ _ _ _)
              rename_i I8 oI8 s35 hIt8 S35
              have S35 := S35.pick (mu' := [(I8, .obj oI8), (wl, .list []), (I6, .obj oI7), (L + 1, .cell (some (.ref na))), (L + 1 + 1, .cell (some (.ref oa))), (L + 1 + 1 + 1, .cell (some (.ref D3)))]) (by walk_at "pick")
              refine loop (σ := List Value) (σ₀ := []) (o₀ := o1) (fun σ o => [some (.ref la), some (.ref tl), o, some (.ref lea), ov, some (.ref D), some (.ref tol), some (.ref wya), some (.int (0 + (i : Int)) ti), some (.ref wl), o3, o4, o5, o6]) (fun σ => [(wl, .list σ), (I6, .obj oI7), (L + 1, .cell (some (.ref na))), (L + 1 + 1, .cell (some (.ref oa))), (L + 1 + 1 + 1, .cell (some (.ref D3)))])
                (fun m _ σ => IntsAre σ (wantedOf ts (((waysOf ls sz).getD i []).take m))) C hIt8 S35 (fun σ o v => by walk_at "put") .nil ?_ ?_
              · rintro m v g20 σw oI9 s36 hm hv hg20 hJw S36
                have hTg2 : g20.IsList tl σ.toArray := by obtain ⟨o, q, r⟩ := hTg; exact ⟨o, hg20 _ _ q, r⟩
                have hmw : m < ((waysOf ls sz).getD i []).length := by omega
                obtain ⟨tt, htt⟩ := ints_nat hrii hmw
                rw [htt] at hv
                cases hv
                have hp5 : ((waysOf ls sz).getD i []).getD m 0 < 5 := LW.mem i _ (by rw [List.getD_eq_getElem?_getD (l := (waysOf ls sz).getD i []), List.getElem?_eq_getElem hmw]; exact List.getElem_mem hmw)
                obtain ⟨tr, htr⟩ := ints_int iT (i := ((waysOf ls sz).getD i []).getD m 0) (by omega)
                have hwll := ints_len hJw
                have hwl2 : (wantedOf ts (((waysOf ls sz).getD i []).take m)).length ≤ 100 := by
                  unfold wantedOf
                  rw [List.length_flatMap]
                  have : (List.map (fun a => [ts.getD a 0 % 48 + 7, (0 : Int)].length) (((waysOf ls sz).getD i []).take m)).sum = 2 * (((waysOf ls sz).getD i []).take m).length := by
                    induction (((waysOf ls sz).getD i []).take m) with
                    | nil => rfl
                    | cons a r ih => rw [List.map_cons, List.sum_cons, ih]; simp only [List.length_cons, List.length_nil]; omega
                  rw [this, List.length_take]; omega
                (with_reducible refine x_aug ?_)
                (with_reducible refine r_load (by assumption) (by assumption) (by walk_at "atv") ?_)
                (with_reducible refine r_list ?_)
                (with_reducible refine a_cons ?_)
                (with_reducible refine r_bin ?_)
                (with_reducible refine r_bin ?_)
                (with_reducible refine r_sub' ?_)
                (with_reducible refine r_name (by assumption) (by assumption) (by walk_at "atv") ?_)
                (with_reducible refine r_name (by assumption) (by assumption) (by walk_at "atv") ?_)
                refine i_list (by walk_at "li") (by first | exact z_nn _ | exact c_nn _ | decide | omega) (by first | decide | omega) (by rw [Int.toNat_natCast]; exact htr) ?_
                (with_reducible refine r_int (by assumption) ?_; intro _ _ _)
                (with_reducible refine r_mod (by assumption) (by first | decide | omega) ?_; intro _ _ _)
                (with_reducible refine r_int (by assumption) ?_; intro _ _ _)
                (with_reducible refine r_add (by assumption) ?_; intro _ _ _)
                (with_reducible refine a_cons ?_)
                (with_reducible refine r_int (by assumption) ?_; intro _ _ _)
                (with_reducible refine a_nil ?_)
                rename_i tz _ _ tz0 _ _
                refine n_list (by assumption) (by walk_at "sz") ?_
                intro el s37 _ _ S37
                refine r_iaddl (by assumption) (by walk_at "up") (by walk_at "lst") (by rw [sizeLine_eq]; simp only [List.length_cons, List.length_nil]; omega) ?_
                intro s38 S38
                (with_reducible refine r_store (by assumption) (by assumption) (by walk_at "put") ?_; intro _ _)
                (with_reducible refine x_nil ?_)
                have S39 := St.pick (mu' := [(I8, .obj oI9), (wl, .list (σw ++ [.int (ts.getD (((waysOf ls sz).getD i []).getD m 0) 0 % 48 + 7) tz, .int 0 tz0])), (I6, .obj oI7), (L + 1, .cell (some (.ref na))), (L + 1 + 1, .cell (some (.ref oa))), (L + 1 + 1 + 1, .cell (some (.ref D3)))]) (by assumption) (by walk_at "pick")
                refine turn_next ⟨g20, σw ++ [.int (ts.getD (((waysOf ls sz).getD i []).getD m 0) 0 % 48 + 7) tz, .int 0 tz0], _, Sub.rfl', ?_, S39⟩
                rw [List.take_succ_eq_append_getElem hmw]
                unfold wantedOf
                rw [List.flatMap_append]
                refine IntsAre.append hJw ?_
                have he : ((waysOf ls sz).getD i [])[m] = ((waysOf ls sz).getD i []).getD m 0 := by rw [List.getD_eq_getElem?_getD (l := (waysOf ls sz).getD i []), List.getElem?_eq_getElem hmw]; rfl
                rw [he]
                exact .cons _ tz (.cons _ tz0 .nil)
              · rintro g20 σw ow s36 hg20 hJw S36
                rw [List.take_of_length_le (by omega)] at hJw
                have hgsi := hg19.trans hg20
                have htl20 := htlg.mono hg20
                have hwl20 := hwl.mono hgsi
                refine then_next ?_
                (with_reducible refine x_if ?_)
                (with_reducible refine t_cmp ?_)
                (with_reducible refine r_call ?_)
                (with_reducible refine r_glob (by assumption) (by assumption) (by walk_at "mem") (by walk_at "glb") ?_)
                (with_reducible refine c_fn (by walk_at "kp") ?_)
                (with_reducible refine a_cons ?_)
                (with_reducible refine r_sub' ?_)
                (with_reducible refine r_name (by assumption) (by assumption) (by walk_at "atv") ?_)
                (with_reducible refine r_name (by assumption) (by assumption) (by walk_at "atv") ?_)
                refine i_list (by walk_at "li") (by first | exact z_nn _ | exact c_nn _ | decide | omega) (by first | decide | omega) (by rw [ei]; exact htti) ?_
                (with_reducible refine a_nil ?_)
                ((with_reducible show Gd _ _ ∧ _); refine And.intro (St.G (by assumption)) ?_)
                refine read_call (n := n) (Am'.le (by first | exact Nat.le_add_right _ _ | exact Nat.add_le_add_left (by decide) _ | omega)) (St.G (by assumption)) (by have := LW.size i; omega) ?_
                intro rl rvs s39 a39 hrl hrll hri2
                have S39 := After.st a39 (by assumption)
                (with_reducible refine r_name (by assumption) (by assumption) (by walk_at "atv") ?_)
                refine q_ne_ints (Am'.le (Nat.le_refl _)) hrll hri2 (by walk_at "lst") hJw ?_
                rw [LW.read i hi5]
                refine ⟨_, rfl, (fun hc => by simp at hc), fun _ => ?_⟩
                (with_reducible refine x_nil ?_)
                (with_reducible refine then_next ?_)
                refine x_asgone (s₀ := s) (loc := [some (.ref la), some (.ref tl), ow, some (.ref lea), ov, some (.ref D), some (.ref tol), some (.ref wya), some (.int (0 + (i : Int)) ti), some (.ref wl), o3, o4, o5, o6]) [] (fun v => [some (.ref la), some (.ref tl), ow, some (.ref lea), ov, some (.ref D), some (.ref tol), some (.ref wya), some (.int (0 + (i : Int)) ti), some (.ref wl), some v, o4, o5, o6]) C (swaps_local C (by walk_at "mem") ?_) (cl := [(Str.ofString "ranks", L + 1 + 1 + 1)]) (clos_of ?_) rfl ?_ (fun v => by walk_at "put") ?_
                · decide +kernel
                · simp [closOf, c3.at']
                · decide +kernel
                (with_reducible refine r_sub' ?_)
                (with_reducible refine r_name (by assumption) (by assumption) (by walk_at "atv") ?_)
                (with_reducible refine r_name (by assumption) (by assumption) (by walk_at "atv") ?_)
                refine i_list (by walk_at "li") (by first | exact z_nn _ | exact c_nn _ | decide | omega) (by first | decide | omega) (by rw [ei]; exact hrai) ?_
                have hrcig := hrci.mono hgsi
                (with_reducible refine p_list (by assumption) (by assumption) (by walk_at "lig") ?_; intro _ _ _ _ _)
                rename_i I27 oI27 s40 hIt7 S40
                refine ⟨g20, _, I27, oI27, _, _, rfl, hIt7, S40, compF_one (fun m us _ => IntsAre us ((rksOf ts ((waysOf ls sz).getD i [])).take m)) (by rw [sizeLine_eq]; omega) ?_⟩
                intro D6 Ca7 gC7 h1 h2 Cc7
                have k3 := cell_of_fn Cc7 c3 rfl rfl
                have v3 := S40.cellC h1 (c := L + 1 + 1 + 1) (by walk_at "mem")
                have hs7 := S40.subC h1
                refine ⟨.nil, ?_, ?_⟩
                · rintro m v us7 g17 oI8 s41 hm hv hg17 hJ7 S41
                  have hmw : m < ((waysOf ls sz).getD i []).length := by omega
                  have v3 := v3.of (fun o q => hg17 _ _ q)
                  have hrk17 := ((hrk.mono hgsi).mono hs7).mono hg17
                  obtain ⟨tt, htt⟩ := ints_nat hrii hmw
                  rw [htt] at hv
                  cases hv
                  have hp5 : ((waysOf ls sz).getD i []).getD m 0 < 5 := LW.mem i _ (by rw [List.getD_eq_getElem?_getD (l := (waysOf ls sz).getD i []), List.getElem?_eq_getElem hmw]; exact List.getElem_mem hmw)
                  obtain ⟨tr, htr⟩ := ints_int hJ5 (i := ((waysOf ls sz).getD i []).getD m 0) (by omega)
                  refine tests_nil ⟨fun _ => ?_, (fun q => nomatch q)⟩
                  (with_reducible refine r_sub' ?_)
                  refine r_cellz k3 (by assumption) v3 ?_
                  (with_reducible refine r_name (by assumption) (by assumption) (by walk_at "atv") ?_)
                  refine i_list (by walk_at "li") (by first | exact z_nn _ | exact c_nn _ | decide | omega) (by first | decide | omega) (by rw [Int.toNat_natCast]; exact htr) ?_
                  refine ⟨g17, Sub.rfl', ?_, by assumption⟩
                  have hmr : m < (rksOf ts ((waysOf ls sz).getD i [])).length := by unfold rksOf; rw [List.length_map]; exact hmw
                  rw [List.take_succ_eq_append_getElem hmr]
                  refine IntsAre.append hJ7 ?_
                  have he : (rksOf ts ((waysOf ls sz).getD i []))[m] = (ranksOf ts).getD (((waysOf ls sz).getD i []).getD m 0) 0 := by
                    simp only [rksOf, List.getElem_map]
                    rw [List.getD_eq_getElem?_getD (l := (waysOf ls sz).getD i []), List.getElem?_eq_getElem hmw]; rfl
                  rw [he]
                  exact .cons _ tr .nil
                intro g17 us6 s41 hg17 hJ6 hv17 hD17 hk17 S41
                rw [List.take_of_length_le (by unfold rksOf; rw [List.length_map]; omega)] at hJ6
                clear k3 v3 hs7 h1 h2 Cc7 hIt7 S40 hk17 hD17 hv17 hg17
                (with_reducible refine x_for ?_)
                (with_reducible refine r_call ?_)
                (with_reducible refine r_blt (by assumption) (by assumption) (by walk_at "mem") (by walk_at "blt") ?_)
                (with_reducible refine c_ty ?_)
                (with_reducible refine a_cons ?_)
                (with_reducible refine r_int (by assumption) ?_; intro _ _ _)
                (with_reducible refine a_nil ?_)
                (with_reducible refine r_range1 (by assumption) ?_; intro _ _ _ _)
                (with_reducible refine p_range (by assumption) (by assumption) (by assumption) (by first | decide | omega) (by first | decide | omega) (by first | decide | omega) (by first | decide | omega) ?_; intro _ _ _ _ _)
                rename_i I10 oI10 s50 hIt10 S50
                have S50 := S50.pick (mu' := [(I10, .obj oI10), (D6, .list us6), (I6, .obj oI7), (L + 1, .cell (some (.ref na))), (L + 1 + 1, .cell (some (.ref oa))), (L + 1 + 1 + 1, .cell (some (.ref D3)))]) (by walk_at "pick")
                refine loop (σ := Option Value × Option Value) (σ₀ := (o5, o6)) (o₀ := o4) (fun σ o => [some (.ref la), some (.ref tl), ow, some (.ref lea), ov, some (.ref D), some (.ref tol), some (.ref wya), some (.int (0 + (i : Int)) ti), some (.ref wl), some (.ref D6), o, σ.1, σ.2]) (fun σ => [(D6, .list us6), (I6, .obj oI7), (L + 1, .cell (some (.ref na))), (L + 1 + 1, .cell (some (.ref oa))), (L + 1 + 1 + 1, .cell (some (.ref D3)))]) (fun _ _ _ => True) C hIt10 S50 (fun σ o v => by walk_at "put") trivial ?_ ?_
                · rintro j v g21 ⟨p1, p2⟩ oI11 s51 hj ⟨tj, rfl⟩ hg21 _ S51
                  dsimp only at S51
                  have ej : (0 + (j : Int)).toNat = j := z_tn _
                  have hj5 : j < 5 := by omega
                  have hgsj := hgsi.trans hg21
                  have htl21 := htl20.mono hg21
                  have hwl21 := hwl20.mono hg21
                  obtain ⟨raj, rcj, hraj, hrcj, hrij⟩ := hway j hj5
                  have hrcjl := ints_len2 hrij
                  have hwj5 := LW.len j
                  obtain ⟨ttj, httj⟩ := strs_getD htI (i := j) (by rw [LW.toldLen]; exact hj5)
                  refine x_asgone (s₀ := s) (loc := [some (.ref la), some (.ref tl), ow, some (.ref lea), ov, some (.ref D), some (.ref tol), some (.ref wya), some (.int (0 + (i : Int)) ti), some (.ref wl), some (.ref D6), some (.int (0 + (j : Int)) tj), p1, p2]) [] (fun v => [some (.ref la), some (.ref tl), ow, some (.ref lea), ov, some (.ref D), some (.ref tol), some (.ref wya), some (.int (0 + (i : Int)) ti), some (.ref wl), some (.ref D6), some (.int (0 + (j : Int)) tj), some v, p2]) C (swaps_local C (by walk_at "mem") ?_) (cl := [(Str.ofString "ranks", L + 1 + 1 + 1)]) (clos_of ?_) rfl ?_ (fun v => by walk_at "put") ?_
                  · decide +kernel
                  · simp [closOf, c3.at']
                  · decide +kernel
                  (with_reducible refine r_sub' ?_)
                  (with_reducible refine r_name (by assumption) (by assumption) (by walk_at "atv") ?_)
                  (with_reducible refine r_name (by assumption) (by assumption) (by walk_at "atv") ?_)
                  refine i_list (by walk_at "li") (by first | exact z_nn _ | exact c_nn _ | decide | omega) (by first | decide | omega) (by rw [ej]; exact hraj) ?_
                  have hrcjg := hrcj.mono hgsj
                  (with_reducible refine p_list (by assumption) (by assumption) (by walk_at "lig") ?_; intro _ _ _ _ _)
                  rename_i I27 oI27 s40 hIt7 S40
                  refine ⟨g21, _, I27, oI27, _, _, rfl, hIt7, S40, compF_one (fun m us _ => IntsAre us ((rksOf ts ((waysOf ls sz).getD j [])).take m)) (by rw [sizeLine_eq]; omega) ?_⟩
                  intro D7 Ca7 gC7 h1 h2 Cc7
                  have k3 := cell_of_fn Cc7 c3 rfl rfl
                  have v3 := S40.cellC h1 (c := L + 1 + 1 + 1) (by walk_at "mem")
                  have hs7 := S40.subC h1
                  refine ⟨.nil, ?_, ?_⟩
                  · rintro m v us7 g17 oI8 s41 hm hv hg17 hJ7 S41
                    have hmw : m < ((waysOf ls sz).getD j []).length := by omega
                    have v3 := v3.of (fun o q => hg17 _ _ q)
                    have hrk17 := ((hrk.mono hgsj).mono hs7).mono hg17
                    obtain ⟨tt, htt⟩ := ints_nat hrij hmw
                    rw [htt] at hv
                    cases hv
                    have hp5 : ((waysOf ls sz).getD j []).getD m 0 < 5 := LW.mem j _ (by rw [List.getD_eq_getElem?_getD (l := (waysOf ls sz).getD j []), List.getElem?_eq_getElem hmw]; exact List.getElem_mem hmw)
                    obtain ⟨tr, htr⟩ := ints_int hJ5 (i := ((waysOf ls sz).getD j []).getD m 0) (by omega)
                    refine tests_nil ⟨fun _ => ?_, (fun q => nomatch q)⟩
                    (with_reducible refine r_sub' ?_)
                    refine r_cellz k3 (by assumption) v3 ?_
                    (with_reducible refine r_name (by assumption) (by assumption) (by walk_at "atv") ?_)
                    refine i_list (by walk_at "li") (by first | exact z_nn _ | exact c_nn _ | decide | omega) (by first | decide | omega) (by rw [Int.toNat_natCast]; exact htr) ?_
                    refine ⟨g17, Sub.rfl', ?_, by assumption⟩
                    have hmr : m < (rksOf ts ((waysOf ls sz).getD j [])).length := by unfold rksOf; rw [List.length_map]; exact hmw
                    rw [List.take_succ_eq_append_getElem hmr]
                    refine IntsAre.append hJ7 ?_
                    have he : (rksOf ts ((waysOf ls sz).getD j []))[m] = (ranksOf ts).getD (((waysOf ls sz).getD j []).getD m 0) 0 := by
                      simp only [rksOf, List.getElem_map]
                      rw [List.getD_eq_getElem?_getD (l := (waysOf ls sz).getD j []), List.getElem?_eq_getElem hmw]; rfl
                    rw [he]
                    exact .cons _ tr .nil
                  intro g17 us7 s41 hg17 hJ7 hv17 hD17 hk17 S41
                  rw [List.take_of_length_le (by unfold rksOf; rw [List.length_map]; omega)] at hJ7
                  clear k3 v3 hs7 h1 h2 Cc7 hIt7 S40 hk17 hD17 hv17 hg17
                  (with_reducible refine x_asg ?_)
                  (with_reducible refine r_call ?_)
                  (with_reducible refine r_glob (by assumption) (by assumption) (by walk_at "mem") (by walk_at "glb") ?_)
                  (with_reducible refine c_fn (by walk_at "kp") ?_)
                  (with_reducible refine a_cons ?_)
                  (with_reducible refine r_sub' ?_)
                  (with_reducible refine r_name (by assumption) (by assumption) (by walk_at "atv") ?_)
                  (with_reducible refine r_name (by assumption) (by assumption) (by walk_at "atv") ?_)
                  refine i_list (by walk_at "li") (by first | exact z_nn _ | exact c_nn _ | decide | omega) (by first | decide | omega) (by rw [ei]; exact htti) ?_
                  (with_reducible refine a_cons ?_)
                  (with_reducible refine r_sub' ?_)
                  (with_reducible refine r_name (by assumption) (by assumption) (by walk_at "atv") ?_)
                  (with_reducible refine r_name (by assumption) (by assumption) (by walk_at "atv") ?_)
                  refine i_list (by walk_at "li") (by first | exact z_nn _ | exact c_nn _ | decide | omega) (by first | decide | omega) (by rw [ej]; exact httj) ?_
                  (with_reducible refine a_nil ?_)
                  ((with_reducible show Gd _ _ ∧ _); refine And.intro (St.G (by assumption)) ?_)
                  refine strcoll_call (n := n) (Am'.le (by first | exact Nat.le_add_right _ _ | exact Nat.add_le_add_left (by decide) _ | omega)) (St.G (by assumption)) ?_
                  intro ta s60 a60
                  have S60 := After.st a60 (by assumption)
                  rw [LW.order j i hj5 hi5, LW.order i j hi5 hj5]
                  (with_reducible refine r_store (by assumption) (by assumption) (by walk_at "put") ?_; intro _ _)
                  (with_reducible refine x_if ?_)
                  refine t_or2 ?_
                  (with_reducible refine t_cmp ?_)
                  (with_reducible refine r_call ?_)
                  (with_reducible refine r_blt (by assumption) (by assumption) (by walk_at "mem") (by walk_at "blt") ?_)
                  (with_reducible refine c_ty ?_)
                  (with_reducible refine a_cons ?_)
                  (with_reducible refine r_name (by assumption) (by assumption) (by walk_at "atv") ?_)
                  (with_reducible refine a_nil ?_)
                  refine r_typeint ?_
                  (with_reducible refine r_blt (by assumption) (by assumption) (by walk_at "mem") (by walk_at "blt") ?_)
                  refine r_isnotT ?_
                  refine ⟨_, rfl, (fun hc => by cases hc), fun _ => ?_⟩
                  (with_reducible refine t_cmp ?_)
                  (with_reducible refine r_name (by assumption) (by assumption) (by walk_at "atv") ?_)
                  (with_reducible refine r_bin ?_)
                  (with_reducible refine r_cmp ?_)
                  (with_reducible refine r_name (by assumption) (by assumption) (by walk_at "atv") ?_)
                  (with_reducible refine r_name (by assumption) (by assumption) (by walk_at "atv") ?_)
                  refine q_gt_ints (Am'.le (Nat.le_refl _)) (by walk_at "lst") hJ6 (by walk_at "lst") hJ7 ?_
                  (with_reducible refine r_cmp ?_)
                  (with_reducible refine r_name (by assumption) (by assumption) (by walk_at "atv") ?_)
                  (with_reducible refine r_name (by assumption) (by assumption) (by walk_at "atv") ?_)
                  refine q_lt_ints (Am'.le (Nat.le_refl _)) (by walk_at "lst") hJ6 (by walk_at "lst") hJ7 ?_
                  (with_reducible refine r_subb (by assumption) ?_; intro _ _ _)
                  (with_reducible refine r_nei ?_)
                  refine ⟨_, rfl, (fun hc => by simp at hc), fun _ => ?_⟩
                  (with_reducible refine x_nil ?_)
                  (with_reducible refine then_next ?_)
                  (with_reducible refine x_nil ?_)
                  refine turn_next ⟨g21, (_, _), _, Sub.rfl', trivial, St.pick (by assumption) (by walk_at "pick")⟩
                · rintro g21 ⟨p1, p2⟩ oj s51 hg21 _ S51
                  dsimp only at S51
                  refine then_next ?_
                  (with_reducible refine x_nil ?_)
                  refine turn_next ⟨g21, ⟨_, _, _, _, _, _⟩, _, hg20.trans hg21, trivial, S51.pick (by walk_at "pick")⟩
            · rintro g19 ⟨o1, o2, o3, o4, o5, o6⟩ oo s33 hg19 _ S33
              refine then_next ?_
              (with_reducible refine x_ret ?_)
              (with_reducible refine r_bool ?_)
              exact h _ (St.after S33 (hsub18.trans hg19))
end

def gsum (f c : Nat → Int) : Nat → Int
  | 0 => 0
  | n + 1 => gsum f c n + f n * c n
theorem gsum_congr {f c c' : Nat → Int} : ∀ n, (∀ i, i < n → c i = c' i) → gsum f c n = gsum f c' n
  | 0, _ => rfl
  | n + 1, h => by rw [gsum, gsum, gsum_congr n fun i hi => h i (by omega), h n (by omega)]
theorem gsum_add1 (f c : Nat → Int) (b : Nat) : ∀ n, gsum f (fun i => c i + if i = b then 1 else 0) n = gsum f c n + if b < n then f b else 0
  | 0 => by simp [gsum]
  | n + 1 => by
    rw [gsum, gsum, gsum_add1 f c b n]
    by_cases h : n = b
    · subst h
      rw [if_pos rfl, if_neg (Nat.lt_irrefl _), if_pos (by omega), Int.mul_add, Int.mul_one]; omega
    · rw [if_neg h, Int.add_zero]
      by_cases h2 : b < n
      · rw [if_pos h2, if_pos (by omega)]; omega
      · rw [if_neg h2, if_neg (by omega)]; omega
theorem gsum_ge {f c : Nat → Int} {m : Nat} (h : ∀ i, m ≤ i → c i = 0) : ∀ k, gsum f c (m + k) = gsum f c m
  | 0 => rfl
  | k + 1 => by rw [← Nat.add_assoc, gsum, gsum_ge h k, h (m + k) (by omega), Int.mul_zero, Int.add_zero]
theorem gsum_zero {f c : Nat → Int} : ∀ n, (∀ i, i < n → f i = 0) → gsum f c n = 0
  | 0, _ => rfl
  | n + 1, h => by rw [gsum, gsum_zero n fun i hi => h i (by omega), h n (by omega), Int.zero_mul]; rfl
abbrev at0 (cnt : List Int) (i : Nat) : Int := cnt.getD i 0
theorem at0_ge {cnt : List Int} {i : Nat} (h : cnt.length ≤ i) : at0 cnt i = 0 := by
  unfold at0; rw [List.getD_eq_getElem?_getD, List.getElem?_eq_none h]; rfl
theorem at0_app (cnt : List Int) (k i : Nat) : at0 (cnt ++ List.replicate k 0) i = at0 cnt i := by
  unfold at0
  rw [List.getD_eq_getElem?_getD, List.getD_eq_getElem?_getD]
  by_cases h : i < cnt.length
  · rw [List.getElem?_append_left h]
  · rw [List.getElem?_append_right (by omega), List.getElem?_eq_none (l := cnt) (by omega), List.getElem?_replicate]
    split <;> rfl
theorem bump_len (cnt : List Int) (b : Nat) : (bump cnt b).length = max cnt.length (b + 1) := by
  unfold bump; simp only [List.length_set, List.length_append, List.length_replicate]; omega
theorem bump_at (cnt : List Int) (b i : Nat) : at0 (bump cnt b) i = at0 cnt i + if i = b then 1 else 0 := by
  have hb := bump_len cnt b
  unfold bump
  dsimp only
  have hl : b < (cnt ++ List.replicate (b + 1 - cnt.length) 0).length := by simp only [List.length_append, List.length_replicate]; omega
  have hc : ∀ i, (cnt ++ List.replicate (b + 1 - cnt.length) 0).getD i 0 = at0 cnt i := fun i => at0_app cnt _ i
  rw [hc]
  by_cases h : i = b
  · subst h
    unfold at0
    rw [if_pos rfl, List.getD_eq_getElem?_getD, List.getElem?_set_self hl]; rfl
  · rw [if_neg h, Int.add_zero, ← hc i]
    unfold at0
    rw [List.getD_eq_getElem?_getD, List.getElem?_set_ne (fun q => h q.symm), ← List.getD_eq_getElem?_getD]
def dv (k : Nat) (i : Nat) : Int := (i : Int) / (k : Int)
/-- the column of a state, at the tab size k -/
def colS (x : Ws) (k N : Nat) : Int := x.b + (k : Int) * (gsum (dv k) (at0 x.cnt) N + x.nt)
def stepC (k : Nat) (c : Int) (ch : Nat) : Int := if ch = 32 then c + 1 else c + ((k : Int) - c % (k : Int))
theorem scan_col {k N : Nat} (hk : 0 < k) : ∀ (l : List Nat) (x : Ws), (∀ c ∈ l, c = 32 ∨ c = 9) → 0 ≤ x.b → x.b + l.length < N → l.foldl (stepC k) (colS x k N) = colS (scan l x) k N
  | [], x, _, _, _ => rfl
  | c :: r, x, h, h0, hN => by
    simp only [List.length_cons] at hN
    have hr : ∀ c ∈ r, c = 32 ∨ c = 9 := fun c hc => h c (.tail _ hc)
    rw [List.foldl_cons]
    rcases h c (.head _) with rfl | rfl
    · rw [scan, if_pos rfl, ← scan_col hk r { x with n := x.n + 1, b := x.b + 1 } hr (by dsimp only; omega) (by dsimp only; omega)]
      congr 1
      unfold stepC colS
      rw [if_pos rfl]
      dsimp only
      omega
    · rw [scan, if_neg (by decide), if_pos rfl, ← scan_col hk r ⟨x.n + 1, x.nt + 1, bump x.cnt x.b.toNat, 0⟩ hr (by dsimp only; omega) (by dsimp only; omega)]
      congr 1
      unfold stepC colS
      rw [if_neg (by decide)]
      dsimp only
      rw [gsum_congr N (c' := fun i => at0 x.cnt i + if i = x.b.toNat then 1 else 0) fun i _ => bump_at _ _ _, gsum_add1, if_pos (by omega)]
      have hd : dv k x.b.toNat = x.b / (k : Int) := by unfold dv; rw [Int.toNat_of_nonneg h0]
      rw [hd]
      generalize gsum (dv k) (at0 x.cnt) N = K
      have e1 : (x.b + (k : Int) * (K + x.nt)) % (k : Int) = x.b % (k : Int) := Int.add_mul_emod_self_left ..
      rw [e1]
      have e2 := Int.emod_add_mul_ediv x.b (k : Int)
      have e3 : (k : Int) * (K + x.b / (k : Int) + (x.nt + 1)) = (k : Int) * (K + x.nt) + (k : Int) * (x.b / (k : Int)) + (k : Int) := by
        rw [← Int.mul_add]
        conv => rhs; rw [show (k : Int) * (K + x.nt + x.b / (k : Int)) + (k : Int) = (k : Int) * (K + x.nt + x.b / (k : Int)) + (k : Int) * 1 by rw [Int.mul_one], ← Int.mul_add]
        congr 1; omega
      rw [e3]
      omega
theorem colAt_fold (k : Nat) (l : List Nat) : colAt (k : Int) l = l.foldl (stepC k) 0 := rfl
theorem colAt_scan {k : Nat} (hk : 0 < k) {l : List Nat} (h : ∀ c ∈ l, c = 32 ∨ c = 9) {N : Nat} (hN : l.length < N) : colAt (k : Int) l = colS (scan l ws0) k N := by
  rw [colAt_fold, ← scan_col hk l ws0 h (Int.le_refl _) (by show (0 : Int) + _ < _; omega)]
  congr 1
  unfold colS
  have : gsum (dv k) (at0 ws0.cnt) N = 0 := by
    rw [gsum_congr N (c' := fun _ => 0) fun i _ => at0_ge (Nat.zero_le _)]
    clear hN
    induction N with
    | zero => rfl
    | succ n ih => rw [gsum, ih]; omega
  rw [this]
  show (0 : Int) = 0 + (k : Int) * (0 + 0)
  rw [Int.add_zero, Int.mul_zero]; rfl
theorem ilTo_gsum (x : Ws) {k : Nat} (hk : 0 < k) : ∀ m, x.ilTo (k : Int) m = gsum (dv k) (at0 x.cnt) (k + m)
  | 0 => by
    rw [Ws.ilTo, Nat.add_zero, gsum_zero k fun i hi => ?_]
    unfold dv
    exact Int.ediv_eq_zero_of_lt (by omega) (by omega)
  | m + 1 => by
    rw [Ws.ilTo, ilTo_gsum x hk m, ← Nat.add_assoc, gsum]
    have : ((k : Int) + (m : Int)).toNat = k + m := by omega
    rw [this]
    unfold dv
    rw [Int.natCast_add]
theorem gsum_big {f : Nat → Int} {cnt : List Int} {N : Nat} (h : cnt.length ≤ N) : gsum f (at0 cnt) N = gsum f (at0 cnt) cnt.length := by
  have := gsum_ge (f := f) (c := at0 cnt) (m := cnt.length) (fun i hi => at0_ge hi) (N - cnt.length)
  rwa [show cnt.length + (N - cnt.length) = N by omega] at this
theorem indent_colS (x : Ws) {k N : Nat} (hk : 0 < k) (hN : x.cnt.length ≤ N) : x.indent (k : Int) = colS x k N := by
  unfold Ws.indent colS
  rw [ilTo_gsum x hk, gsum_big hN, gsum_big (N := k + ((x.cnt.length : Int) - (k : Int)).toNat) (by omega)]

structure Nf (x : Ws) : Prop where
  b0 : 0 ≤ x.b
  nn : ∀ i, 0 ≤ at0 x.cnt i
  nt : x.nt = gsum (fun _ => 1) (at0 x.cnt) x.cnt.length
  last : ∀ n, x.cnt.length = n + 1 → 0 < at0 x.cnt n
theorem nf0 : Nf ws0 := ⟨Int.le_refl _, fun i => by rw [at0_ge (Nat.zero_le _)]; exact Int.le_refl _, rfl, fun n h => by cases h⟩
theorem scan_nf : ∀ (l : List Nat) (x : Ws), Nf x → Nf (scan l x)
  | [], x, h => h
  | c :: r, x, h => by
    rw [scan]
    split
    · exact scan_nf r _ ⟨by show 0 ≤ x.b + 1; have := h.b0; omega, h.nn, h.nt, h.last⟩
    · split
      · refine scan_nf r _ ⟨Int.le_refl _, fun i => ?_, ?_, fun n hn => ?_⟩
        · show 0 ≤ at0 (bump x.cnt x.b.toNat) i
          rw [bump_at]
          have := h.nn i
          split <;> omega
        · show x.nt + 1 = gsum (fun _ => 1) (at0 (bump x.cnt x.b.toNat)) (bump x.cnt x.b.toNat).length
          have hl := bump_len x.cnt x.b.toNat
          rw [gsum_congr _ (c' := fun i => at0 x.cnt i + if i = x.b.toNat then 1 else 0) fun i _ => bump_at _ _ _, gsum_add1, if_pos (by omega), gsum_big (by omega), ← h.nt]
        · have hn : (bump x.cnt x.b.toNat).length = n + 1 := hn
          show 0 < at0 (bump x.cnt x.b.toNat) n
          rw [bump_len] at hn
          rw [bump_at]
          have h1 := h.nn n
          split
          · omega
          · have := h.last n (by omega)
            omega
      · exact h
theorem scan_n : ∀ (l : List Nat) (x : Ws), (∀ c ∈ l, c = 32 ∨ c = 9) → (scan l x).n = x.n + l.length
  | [], x, _ => by rw [scan]; simp
  | c :: r, x, h => by
    have hr : ∀ c ∈ r, c = 32 ∨ c = 9 := fun c hc => h c (.tail _ hc)
    rcases h c (.head _) with rfl | rfl
    · rw [scan, if_pos rfl, scan_n r _ hr]; simp only [List.length_cons]; omega
    · rw [scan, if_neg (by decide), if_pos rfl, scan_n r _ hr]; simp only [List.length_cons]; omega
theorem scan_app : ∀ (l r : List Nat) (x : Ws), (∀ c ∈ l, c = 32 ∨ c = 9) → scan (l ++ r) x = scan r (scan l x)
  | [], r, x, _ => rfl
  | c :: l, r, x, h => by
    have hr : ∀ c ∈ l, c = 32 ∨ c = 9 := fun c hc => h c (.tail _ hc)
    rw [List.cons_append]
    rcases h c (.head _) with rfl | rfl
    · rw [scan, if_pos rfl, scan, if_pos rfl, scan_app l r _ hr]
    · rw [scan, if_neg (by decide), if_pos rfl, scan, if_neg (by decide), if_pos rfl, scan_app l r _ hr]
theorem scan_lim {sz : Int} : ∀ (l : List Nat) (x : Ws), (∀ c ∈ l, c = 32 ∨ c = 9) → 0 ≤ x.b → (x.cnt.length : Int) ≤ sz → x.b + l.length < sz → ((scan l x).cnt.length : Int) ≤ sz ∧ 0 ≤ (scan l x).b ∧ (scan l x).b < sz
  | [], x, _, h0, h1, h2 => by rw [scan]; simp only [List.length_nil] at h2; omega
  | c :: r, x, h, h0, h1, h2 => by
    have hr : ∀ c ∈ r, c = 32 ∨ c = 9 := fun c hc => h c (.tail _ hc)
    simp only [List.length_cons] at h2
    rcases h c (.head _) with rfl | rfl
    · rw [scan, if_pos rfl]
      exact scan_lim r _ hr (by dsimp only; omega) h1 (by dsimp only; omega)
    · rw [scan, if_neg (by decide), if_pos rfl]
      refine scan_lim r _ hr (Int.le_refl _) ?_ (by dsimp only; omega)
      dsimp only
      rw [bump_len]; omega
theorem join_cons2 (sep x y : Str) (r : List Str) : (Str.join sep (x :: y :: r)).cps.toList = x.cps.toList ++ (sep.cps.toList ++ (Str.join sep (y :: r)).cps.toList) := by
  show ((x.cps ++ sep.cps) ++ (Str.join sep (y :: r)).cps).toList = _
  simp
theorem scan_join {sz : Int} (hz : 0 < sz) : ∀ (ps : List Str) (x : Ws), (∀ p ∈ ps, (p.cps.size : Int) < sz) → (∀ c ∈ (Str.join (Str.ofString "\t") ps).cps.toList, c = 32 ∨ c = 9) → x.b = 0 → (x.cnt.length : Int) ≤ sz →
    ((scan (Str.join (Str.ofString "\t") ps).cps.toList x).cnt.length : Int) ≤ sz ∧ 0 ≤ (scan (Str.join (Str.ofString "\t") ps).cps.toList x).b ∧ (scan (Str.join (Str.ofString "\t") ps).cps.toList x).b < sz
  | [], x, _, _, h0, h1 => ⟨h1, by show 0 ≤ x.b; omega, by show x.b < sz; omega⟩
  | [p], x, hp, hc, h0, h1 => by
    have := hp p (.head _)
    exact scan_lim p.cps.toList x hc (by omega) h1 (by rw [Array.length_toList]; omega)
  | p :: q :: r, x, hp, hc, h0, h1 => by
    have h2 := hp p (.head _)
    rw [join_cons2] at hc ⊢
    have hc1 : ∀ c ∈ p.cps.toList, c = 32 ∨ c = 9 := fun c h => hc c (List.mem_append_left _ h)
    have hc2 : ∀ c ∈ (Str.join (Str.ofString "\t") (q :: r)).cps.toList, c = 32 ∨ c = 9 := fun c h => hc c (List.mem_append_right _ (List.mem_append_right _ h))
    obtain ⟨l1, l2, l3⟩ := scan_lim (sz := sz) p.cps.toList x hc1 (by omega) h1 (by rw [Array.length_toList]; omega)
    rw [scan_app _ _ _ hc1, show (Str.ofString "\t").cps.toList = [9] by decide +kernel, List.cons_append, List.nil_append, scan, if_neg (by decide), if_pos rfl]
    refine scan_join hz (q :: r) _ (fun p hp' => hp p (.tail _ hp')) hc2 rfl ?_
    dsimp only
    rw [bump_len]; omega
theorem runs_lim {x : Str} {sz : Nat} (hb : Blank x) (h : ∀ y ∈ runLens x, y < (sz : Int)) : (scan x.cps.toList ws0).cnt.length ≤ sz ∧ 0 ≤ (scan x.cps.toList ws0).b ∧ (scan x.cps.toList ws0).b < sz := by
  have hj := PySem.StrLaws.join_split x (Str.ofString "\t")
  have hp : ∀ p ∈ Txt.split x (Str.ofString "\t"), (p.cps.size : Int) < sz := fun p hp => h _ (List.mem_map_of_mem (f := fun y : Str => (y.cps.size : Int)) hp)
  have h1 : 0 < (sz : Int) := by
    have hl := split_pos x (Str.ofString "\t")
    obtain ⟨p, hp2⟩ : ∃ p, p ∈ Txt.split x (Str.ofString "\t") := ⟨_, List.getElem_mem (show 0 < (Txt.split x (Str.ofString "\t")).length by omega)⟩
    have := hp p hp2
    omega
  have := scan_join h1 (Txt.split x (Str.ofString "\t")) ws0 hp (by rw [hj]; exact hb) rfl (by show ((0 : Nat) : Int) ≤ _; omega)
  rw [hj] at this
  omega
theorem indent_lin {x : Ws} {k : Nat} (hk : 0 < k) (h : x.cnt.length ≤ k) : x.indent (k : Int) = x.b + (k : Int) * x.nt := by
  rw [indent_colS x hk (Nat.le_refl _)]
  unfold colS
  rw [gsum_zero _ fun i hi => ?_, Int.zero_add]
  unfold dv
  exact Int.ediv_eq_zero_of_lt (by omega) (by omega)
theorem lin {a b m n : Int} {K : Int} (hK : 0 ≤ K) (ha : 0 ≤ a) (hb : b < K) (h : a + K * m < b + K * n) : m ≤ n ∧ ∀ k : Int, K ≤ k → a + k * m < b + k * n := by
  have h1 : m ≤ n := by
    rcases (show n < m ∨ m ≤ n by omega) with q | q
    · exfalso
      have := Int.mul_le_mul_of_nonneg_left (show n + 1 ≤ m by omega) hK
      rw [Int.mul_add, Int.mul_one] at this
      omega
    · exact q
  refine ⟨h1, fun k hk => ?_⟩
  have h2 := Int.mul_le_mul_of_nonneg_left h1 (show 0 ≤ k - K by omega)
  rw [Int.sub_mul, Int.sub_mul] at h2
  omega
theorem less_iff {X Y : Ws} {sz : Nat} (hX : X.n = X.indent 1) (hY : Y.n = Y.indent 1) (lX : X.cnt.length ≤ sz) (lY : Y.cnt.length ≤ sz) (bX : 0 ≤ X.b) (bY : 0 ≤ Y.b) (cX : X.b < sz) (cY : Y.b < sz) :
    X.less Y = true ↔ ∀ t, t < sz → X.indent (1 + (t : Int)) < Y.indent (1 + (t : Int)) := by
  have ent : ∀ t : Nat, (1 : Int) + (t : Int) = ((t + 1 : Nat) : Int) := fun t => by omega
  have lX' : ∀ k : Nat, 0 < k → X.cnt.length ≤ k → X.indent (k : Int) = X.b + (k : Int) * X.nt := fun k hk h => indent_lin hk h
  have lY' : ∀ k : Nat, 0 < k → Y.cnt.length ≤ k → Y.indent (k : Int) = Y.b + (k : Int) * Y.nt := fun k hk h => indent_lin hk h
  unfold Ws.less
  by_cases h1 : Y.n ≤ X.n
  · rw [if_pos h1]
    constructor
    · intro h; cases h
    · intro h
      have := h 0 (by omega)
      rw [show (1 : Int) + ((0 : Nat) : Int) = 1 from rfl, ← hX, ← hY] at this
      omega
  · rw [if_neg h1]
    by_cases h2 : X.cnt.length ≤ 1 ∧ Y.cnt.length ≤ 1
    · rw [if_pos h2]
      constructor
      · intro h t ht
        have h := of_decide_eq_true h
        have e1 := lX' (t + 1) (by omega) (by omega)
        have e2 := lY' (t + 1) (by omega) (by omega)
        have e3 := lX' 1 (by omega) h2.1
        have e4 := lY' 1 (by omega) h2.2
        rw [ent, e1, e2]
        have e3 : X.n = X.b + 1 * X.nt := hX.trans e3
        have e4 : Y.n = Y.b + 1 * Y.nt := hY.trans e4
        have h3 := Int.mul_le_mul_of_nonneg_left h (show (0 : Int) ≤ (t : Int) by omega)
        have e5 : ((t + 1 : Nat) : Int) * X.nt = (t : Int) * X.nt + X.nt := by rw [Int.natCast_add, Int.add_mul]; simp
        have e6 : ((t + 1 : Nat) : Int) * Y.nt = (t : Int) * Y.nt + Y.nt := by rw [Int.natCast_add, Int.add_mul]; simp
        rw [e5, e6]
        omega
      · intro h
        have h3 := h (sz - 1) (by omega)
        have e0 : (1 : Int) + ((sz - 1 : Nat) : Int) = (sz : Int) := by omega
        rw [e0, lX' sz (by omega) lX, lY' sz (by omega) lY] at h3
        exact decide_eq_true (lin (by omega) bX cY h3).1
    · rw [if_neg h2]
      have hlX : X.longest < sz ∧ (X.cnt.length : Int) - 1 ≤ X.longest ∧ X.b ≤ X.longest := by unfold Ws.longest; omega
      have hlY : Y.longest < sz ∧ (Y.cnt.length : Int) - 1 ≤ Y.longest ∧ Y.b ≤ Y.longest := by unfold Ws.longest; omega
      obtain ⟨N, hN⟩ : ∃ N : Nat, (N : Int) = max X.longest Y.longest := ⟨(max X.longest Y.longest).toNat, by omega⟩
      rw [← hN, Int.toNat_natCast, List.all_eq_true]
      constructor
      · intro h t ht
        have h0 : ∀ j : Nat, j ≤ N → X.indent (1 + (j : Int)) < Y.indent (1 + (j : Int)) := by
          intro j hj
          cases j with
          | zero => show X.indent 1 < Y.indent 1; rw [← hX, ← hY]; omega
          | succ j =>
            have := of_decide_eq_true (h j (List.mem_range.mpr (by omega)))
            rw [show (1 : Int) + ((j + 1 : Nat) : Int) = 2 + (j : Int) by omega]
            exact this
        rcases Nat.lt_or_ge N t with q | q
        · have h3 := h0 N (Nat.le_refl _)
          rw [ent, lX' (N + 1) (by omega) (by omega), lY' (N + 1) (by omega) (by omega)] at h3
          rw [ent, lX' (t + 1) (by omega) (by omega), lY' (t + 1) (by omega) (by omega)]
          exact (lin (by omega) bX (by omega) h3).2 _ (by omega)
        · exact h0 t q
      · intro h k hk
        have hk := List.mem_range.mp hk
        have := h (k + 1) (by omega)
        rw [show (1 : Int) + ((k + 1 : Nat) : Int) = 2 + (k : Int) by omega] at this
        exact decide_eq_true this
theorem gsum_one (f c : Nat → Int) (k : Nat) : ∀ n, k < n → (∀ i, i < k → f i = 0) → f k = 1 → gsum f c n = c k + (gsum f c n - gsum f c (k + 1)) := by
  intro n _ h0 h1
  rw [gsum, gsum_zero k h0, h1]; omega
theorem gsum_tail {f c c' : Nat → Int} {k : Nat} : ∀ n, (∀ i, k ≤ i → i < k + n → c i = c' i) → gsum f c (k + n) - gsum f c k = gsum f c' (k + n) - gsum f c' k
  | 0, _ => by rw [Nat.add_zero]; omega
  | n + 1, h => by
    have := gsum_tail (f := f) n fun i h1 h2 => h i h1 (by omega)
    rw [← Nat.add_assoc, gsum, gsum, h (k + n) (by omega) (by omega)]
    omega
theorem same_iff {X Y : Ws} {sz : Nat} (nX : Nf X) (nY : Nf Y) (lX : X.cnt.length ≤ sz) (lY : Y.cnt.length ≤ sz) (cX : X.b < sz) (cY : Y.b < sz) :
    X.same Y = true ↔ ∀ t, t < sz → X.indent (1 + (t : Int)) = Y.indent (1 + (t : Int)) := by
  have ent : ∀ t : Nat, (1 : Int) + (t : Int) = ((t + 1 : Nat) : Int) := fun t => by omega
  have bX := nX.b0
  have bY := nY.b0
  unfold Ws.same
  rw [Bool.and_eq_true, decide_eq_true_iff, decide_eq_true_iff]
  constructor
  · rintro ⟨h1, h2⟩ t ht
    have h3 : X.nt = Y.nt := by rw [nX.nt, nY.nt, h1]
    unfold Ws.indent
    rw [h2, h3, h1]
    congr 2
    congr 1
    have : ∀ m, X.ilTo (1 + (t : Int)) m = Y.ilTo (1 + (t : Int)) m := by
      intro m
      rw [ent, ilTo_gsum X (by omega), ilTo_gsum Y (by omega), h1]
    exact this _
  · intro h
    have hs : 0 < sz := by omega
    have h1 := h (sz - 1) (by omega)
    rw [show (1 : Int) + ((sz - 1 : Nat) : Int) = (sz : Int) by omega, indent_lin hs lX, indent_lin hs lY] at h1
    have hb : X.b = Y.b := by
      have e1 : (X.b + (sz : Int) * X.nt) % (sz : Int) = X.b := by rw [Int.add_mul_emod_self_left]; exact Int.emod_eq_of_lt bX cX
      have e2 : (Y.b + (sz : Int) * Y.nt) % (sz : Int) = Y.b := by rw [Int.add_mul_emod_self_left]; exact Int.emod_eq_of_lt bY cY
      rw [← e1, ← e2, h1]
    have hnt : X.nt = Y.nt := by
      rw [hb] at h1
      exact Int.eq_of_mul_eq_mul_left (show (sz : Int) ≠ 0 by omega) (by omega)
    have hg : ∀ k : Nat, 0 < k → k ≤ sz → gsum (dv k) (at0 X.cnt) sz = gsum (dv k) (at0 Y.cnt) sz := by
      intro k hk hks
      have h2 := h (k - 1) (by omega)
      rw [show (1 : Int) + ((k - 1 : Nat) : Int) = (k : Int) by omega, indent_colS X hk lX, indent_colS Y hk lY] at h2
      unfold colS at h2
      rw [hb, hnt] at h2
      have h3 := Int.eq_of_mul_eq_mul_left (show (k : Int) ≠ 0 by omega) (Int.add_left_cancel h2)
      omega
    have hc : ∀ m k : Nat, k + m = sz → 0 < k → ∀ i, k ≤ i → at0 X.cnt i = at0 Y.cnt i := by
      intro m
      induction m with
      | zero =>
        intro k hk _ i hi
        rw [at0_ge (by omega), at0_ge (by omega)]
      | succ m ih =>
        intro k hk h0 i hi
        rcases Nat.lt_or_ge k i with q | q
        · exact ih (k + 1) (by omega) (by omega) i q
        · have hik : i = k := by omega
          subst hik
          have hd : ∀ j, j < i → dv i j = 0 := fun j hj => Int.ediv_eq_zero_of_lt (by omega) (by omega)
          have h1d : dv i i = 1 := Int.ediv_self (by omega)
          have hz := hg i h0 (by omega)
          rw [gsum_one (dv i) (at0 X.cnt) i sz (by omega) hd h1d, gsum_one (dv i) (at0 Y.cnt) i sz (by omega) hd h1d] at hz
          have ht := gsum_tail (f := dv i) (c := at0 X.cnt) (c' := at0 Y.cnt) (k := i + 1) m fun j h1 h2 => ih (i + 1) (by omega) (by omega) j h1
          rw [show i + 1 + m = sz by omega] at ht
          omega
    have hall : ∀ i, at0 X.cnt i = at0 Y.cnt i := by
      intro i
      cases i with
      | succ i =>
        rcases Nat.lt_or_ge (i + 1) sz with q | q
        · exact hc (sz - (i + 1)) (i + 1) (by omega) (by omega) _ (Nat.le_refl _)
        · rw [at0_ge (by omega), at0_ge (by omega)]
      | zero =>
        have e1 := nX.nt
        have e2 := nY.nt
        rw [← gsum_big (N := sz) lX] at e1
        rw [← gsum_big (N := sz) lY] at e2
        have ht := gsum_tail (f := fun _ => 1) (c := at0 X.cnt) (c' := at0 Y.cnt) (k := 1) (sz - 1) fun j h1 h2 => hc (sz - j) j (by omega) (by omega) _ (Nat.le_refl _)
        rw [show 1 + (sz - 1) = sz by omega] at ht
        simp only [gsum] at ht
        omega
    refine ⟨?_, hb⟩
    have hlen : X.cnt.length = Y.cnt.length := by
      rcases (show X.cnt.length = Y.cnt.length ∨ X.cnt.length < Y.cnt.length ∨ Y.cnt.length < X.cnt.length by omega) with q | q | q
      · exact q
      · exfalso
        have h1 := nY.last (Y.cnt.length - 1) (by omega)
        rw [← hall, at0_ge (by omega)] at h1
        omega
      · exfalso
        have h1 := nX.last (X.cnt.length - 1) (by omega)
        rw [hall, at0_ge (by omega)] at h1
        omega
    refine List.ext_getElem hlen fun i h1 h2 => ?_
    have := hall i
    unfold at0 at this
    rw [List.getD_eq_getElem?_getD, List.getD_eq_getElem?_getD, List.getElem?_eq_getElem h1, List.getElem?_eq_getElem h2] at this
    exact this

theorem colAt_indent {x : Str} (hb : Blank x) (k : Nat) : colAt (1 + (k : Int)) x.cps.toList = (scan x.cps.toList ws0).indent (1 + (k : Int)) := by
  rw [show (1 : Int) + (k : Int) = ((k + 1 : Nat) : Int) by omega]
  have hN := colAt_scan (k := k + 1) (by omega) hb (N := max (x.cps.toList.length + 1) (scan x.cps.toList ws0).cnt.length) (by omega)
  rw [hN, indent_colS (scan x.cps.toList ws0) (k := k + 1) (N := max (x.cps.toList.length + 1) (scan x.cps.toList ws0).cnt.length) (by omega) (by omega)]
theorem colAt_one (l : List Nat) : colAt 1 l = l.length := by
  unfold colAt
  have : ∀ (l : List Nat) (c : Int), l.foldl (fun c ch => if ch = 32 then c + 1 else c + (1 - c % 1)) c = c + l.length := by
    intro l
    induction l with
    | nil => intro c; simp
    | cons a r ih =>
      intro c
      rw [List.foldl_cons, ih]
      simp only [List.length_cons]
      split <;> omega
  rw [this]; omega
theorem n_indent {x : Str} (hb : Blank x) : (scan x.cps.toList ws0).n = (scan x.cps.toList ws0).indent 1 := by
  have h := colAt_indent hb 0
  rw [show (1 : Int) + ((0 : Nat) : Int) = 1 from rfl, colAt_one] at h
  rw [← h, scan_n _ _ hb]
  show (0 : Int) + _ = _
  omega
theorem ops_first : (opStrs.all fun o => match o.cps.toList with | c :: _ => c != 32 && c != 9 | [] => false) = true := by decide +kernel
theorem sign_first (t : Int) : ∃ c r, (signOf t).cps.toList = c :: r ∧ c ≠ 32 ∧ c ≠ 9 := by
  have h := List.all_eq_true.mp ops_first _ (op_mem t)
  have e : (signOf t).cps.toList = (opStrs.getD (t % 48).toNat Str.empty).cps.toList ++ (letterOf t).cps.toList := by
    unfold signOf
    show (_ ++ _ : Array Nat).toList = _
    simp
  rw [e]
  cases q : (opStrs.getD (t % 48).toNat Str.empty).cps.toList with
  | nil => rw [q] at h; cases h
  | cons c r =>
    rw [q] at h
    simp only [Bool.and_eq_true, bne_iff_ne] at h
    exact ⟨c, _, rfl, h.1, h.2⟩
theorem wsOf_eq {lead op : Str} (hb : Blank lead) {c : Nat} {r : List Nat} (h : op.cps.toList = c :: r) (h1 : c ≠ 32) (h2 : c ≠ 9) : wsOf lead op = scan lead.cps.toList ws0 := by
  unfold wsOf
  have e : (textOf lead op).cps.toList = lead.cps.toList ++ (c :: (r ++ (Str.ofString " \t").cps.toList)) := by
    unfold textOf
    show ((lead.cps ++ op.cps) ++ (Str.ofString " \t").cps).toList = _
    simp [h]
  rw [e, scan_app _ _ _ hb, scan, if_neg h1, if_neg h2]
section
variable {ts : List Int} {leads : List Str} {sz : Nat}
/-- the place of a line -/
def lineW (ts : List Int) (leads : List Str) (p : Nat) : Ws := wsOf (leads.getD p Str.empty) ((ts.map signOf).getD p Str.empty)
def opAt (ts : List Int) (p : Nat) : Str := (ts.map signOf).getD p Str.empty
theorem opAt_eq {p : Nat} (hp : p < ts.length) : opAt ts p = signOf (ts.getD p 0) := by
  unfold opAt
  rw [List.getD_eq_getElem?_getD, List.getElem?_map, List.getD_eq_getElem?_getD, List.getElem?_eq_getElem hp]; rfl
theorem lineW_eq (hl : leads.length = ts.length) (hb : ∀ x ∈ leads, Blank x) {p : Nat} (hp : p < ts.length) : lineW ts leads p = scan (leads.getD p Str.empty).cps.toList ws0 := by
  have hpl : p < leads.length := by omega
  have hm : leads.getD p Str.empty ∈ leads := by rw [List.getD_eq_getElem?_getD, List.getElem?_eq_getElem hpl]; exact List.getElem_mem hpl
  obtain ⟨c, r, h1, h2, h3⟩ := sign_first (ts.getD p 0)
  rw [← opAt_eq hp] at h1
  exact wsOf_eq (hb _ hm) h1 h2 h3
theorem rows_at (hl : leads.length = ts.length) {p : Nat} (hp : p < ts.length) : (leads.map (rowOf sz)).getD p [] = rowOf sz (leads.getD p Str.empty) := by
  have hpl : p < leads.length := by omega
  rw [List.getD_eq_getElem?_getD, List.getElem?_map, List.getD_eq_getElem?_getD, List.getElem?_eq_getElem hpl]; rfl
theorem row_at (x : Str) {t : Nat} (ht : t < sz) : (rowOf sz x).getD t 0 = colAt (1 + (t : Int)) x.cps.toList := by
  unfold rowOf
  rw [List.getD_eq_getElem?_getD, List.getElem?_map, List.getElem?_range ht]; rfl
structure Pg (ts : List Int) (leads : List Str) (sz : Nat) : Prop where
  hl : leads.length = ts.length
  hb : ∀ x ∈ leads, Blank x
  hr : ∀ x ∈ leads, ∀ y ∈ runLens x, y < (sz : Int)
theorem Pg.mem (G : Pg ts leads sz) {p : Nat} (hp : p < ts.length) : leads.getD p Str.empty ∈ leads := by
  have hpl : p < leads.length := by have := G.hl; omega
  rw [List.getD_eq_getElem?_getD, List.getElem?_eq_getElem hpl]; exact List.getElem_mem hpl
theorem Pg.less (G : Pg ts leads sz) {i k : Nat} (hi : i < ts.length) (hk : k < ts.length) : (lineW ts leads i).less (lineW ts leads k) = (notLess (leads.map (rowOf sz)) sz i k).isEmpty := by
  have m1 := G.mem hi
  have m2 := G.mem hk
  have r1 := runs_lim (G.hb _ m1) (G.hr _ m1)
  have r2 := runs_lim (G.hb _ m2) (G.hr _ m2)
  rw [lineW_eq G.hl G.hb hi, lineW_eq G.hl G.hb hk]
  have h := less_iff (n_indent (G.hb _ m1)) (n_indent (G.hb _ m2)) r1.1 r2.1 r1.2.1 r2.2.1 r1.2.2 r2.2.2
  rw [Bool.eq_iff_iff, h, List.isEmpty_iff]
  unfold notLess
  rw [List.filter_eq_nil_iff, rows_at G.hl hi, rows_at G.hl hk]
  constructor
  · intro q t ht
    have ht := List.mem_range.mp ht
    have := q t ht
    rw [row_at _ ht, row_at _ ht, colAt_indent (G.hb _ m1), colAt_indent (G.hb _ m2)]
    simp only [decide_eq_true_iff]
    omega
  · intro q t ht
    have := q t (List.mem_range.mpr ht)
    rw [row_at _ ht, row_at _ ht, colAt_indent (G.hb _ m1), colAt_indent (G.hb _ m2)] at this
    simp only [decide_eq_true_iff] at this
    omega
theorem Pg.same (G : Pg ts leads sz) {i k : Nat} (hi : i < ts.length) (hk : k < ts.length) : (lineW ts leads i).same (lineW ts leads k) = decide ((leads.map (rowOf sz)).getD i [] = (leads.map (rowOf sz)).getD k []) := by
  have m1 := G.mem hi
  have m2 := G.mem hk
  have r1 := runs_lim (G.hb _ m1) (G.hr _ m1)
  have r2 := runs_lim (G.hb _ m2) (G.hr _ m2)
  rw [lineW_eq G.hl G.hb hi, lineW_eq G.hl G.hb hk]
  have h := same_iff (scan_nf _ _ nf0) (scan_nf _ _ nf0) r1.1 r2.1 r1.2.2 r2.2.2
  rw [Bool.eq_iff_iff, h, decide_eq_true_iff, rows_at G.hl hi, rows_at G.hl hk]
  constructor
  · intro q
    unfold rowOf
    refine List.map_congr_left fun t ht => ?_
    have ht := List.mem_range.mp ht
    rw [colAt_indent (G.hb _ m1), colAt_indent (G.hb _ m2)]
    exact q t ht
  · intro q t ht
    have := congrArg (fun l : List Int => l.getD t 0) q
    rwa [row_at _ ht, row_at _ ht, colAt_indent (G.hb _ m1), colAt_indent (G.hb _ m2)] at this
theorem Pg.pos (G : Pg ts leads sz) {i : Nat} (hi : i < ts.length) : 0 < sz := by
  have m1 := G.mem hi
  have r1 := runs_lim (G.hb _ m1) (G.hr _ m1)
  omega
end

section
variable {ts : List Int} {leads : List Str} {sz : Nat}
def catS (ts : List Int) (way : List Nat) : Str := way.foldl (fun a p => a ++ opAt ts p) (Str.ofString "")
theorem catS_snoc (way : List Nat) (k : Nat) : catS ts (way ++ [k]) = catS ts way ++ opAt ts k := by unfold catS; rw [List.foldl_append]; rfl
def pileOf (ts : List Int) (leads : List Str) (way : List Nat) : List (Ws × Str) := (List.range way.length).map fun j => (lineW ts leads (way.getD j 0), catS ts (way.take (j + 1)))
theorem pileOf_len (way : List Nat) : (pileOf ts leads way).length = way.length := by unfold pileOf; simp
theorem pileOf_at (way : List Nat) {j : Nat} (hj : j < way.length) : (pileOf ts leads way)[j]? = some (lineW ts leads (way.getD j 0), catS ts (way.take (j + 1))) := by
  unfold pileOf
  rw [List.getElem?_map, List.getElem?_range hj]; rfl
theorem getD_app_left {a b : List Nat} {j : Nat} (h : j < a.length) : (a ++ b).getD j 0 = a.getD j 0 := by
  rw [List.getD_eq_getElem?_getD, List.getD_eq_getElem?_getD, List.getElem?_append_left h]
theorem pileOf_snoc (way : List Nat) (k : Nat) : pileOf ts leads (way ++ [k]) = pileOf ts leads way ++ [(lineW ts leads k, catS ts (way ++ [k]))] := by
  refine List.ext_getElem? fun j => ?_
  have hl := pileOf_len (ts := ts) (leads := leads) way
  rcases Nat.lt_trichotomy j way.length with h | h | h
  · rw [List.getElem?_append_left (by omega), pileOf_at way h, pileOf_at _ (by rw [List.length_append]; omega), getD_app_left h, List.take_append_of_le_length (by omega)]
  · subst h
    rw [List.getElem?_append_right (by omega), hl, Nat.sub_self, pileOf_at _ (by rw [List.length_append]; simp)]
    have e1 : (way ++ [k]).getD way.length 0 = k := by rw [List.getD_eq_getElem?_getD, List.getElem?_append_right (Nat.le_refl _), Nat.sub_self]; rfl
    rw [e1, List.take_of_length_le (by rw [List.length_append]; simp)]
    rfl
  · rw [List.getElem?_eq_none (by rw [pileOf_len, List.length_append]; simp only [List.length_cons, List.length_nil]; omega), List.getElem?_eq_none (by rw [List.length_append, hl]; simp only [List.length_cons, List.length_nil]; omega)]
theorem pileOf_take (way : List Nat) (p : Nat) : (pileOf ts leads way).take p = pileOf ts leads (way.take p) := by
  refine List.ext_getElem? fun j => ?_
  have hl := pileOf_len (ts := ts) (leads := leads) way
  rw [List.getElem?_take]
  by_cases h : j < (way.take p).length
  · have h2 := h
    rw [List.length_take] at h2
    rw [if_pos (by omega), pileOf_at way (by omega), pileOf_at _ h]
    congr 2
    · congr 1
      rw [List.getD_eq_getElem?_getD, List.getD_eq_getElem?_getD, List.getElem?_take, if_pos (by omega)]
    · rw [List.take_take, Nat.min_eq_left (by omega)]
  · have h2 := h
    rw [List.length_take] at h2
    rw [List.getElem?_eq_none (l := pileOf ts leads (way.take p)) (by rw [pileOf_len]; omega)]
    split
    · exact List.getElem?_eq_none (by omega)
    · rfl
theorem snoc_cases (way : List Nat) : way = [] ∨ ∃ r k, way = r ++ [k] := by
  rcases List.eq_nil_or_concat way with h | ⟨r, k, h⟩
  · exact .inl h
  · exact .inr ⟨r, k, by simpa using h⟩
theorem pileOf_last (way : List Nat) : (pileOf ts leads way).getLast? = if way = [] then none else some (lineW ts leads (way.getD (way.length - 1) 0), catS ts way) := by
  rcases snoc_cases way with rfl | ⟨r, k, rfl⟩
  · rfl
  · rw [pileOf_snoc, List.getLast?_concat, if_neg (by simp)]
    congr 3
    rw [List.length_append, List.getD_eq_getElem?_getD, List.getElem?_append_right (by simp)]
    simp
theorem lastName_pile (way : List Nat) : lastName (pileOf ts leads way) = catS ts way := by
  unfold lastName
  rw [pileOf_last]
  by_cases h : way = []
  · rw [if_pos h, h]; rfl
  · rw [if_neg h]
def row0 (leads : List Str) (sz p : Nat) : Int := ((leads.map (rowOf sz)).getD p []).getD 0 0
structure Inc (leads : List Str) (sz : Nat) (way : List Nat) (k : Nat) : Prop where
  lt : ∀ p ∈ way, p < k
  inc : ∀ i j, i < j → j < way.length → row0 leads sz (way.getD i 0) < row0 leads sz (way.getD j 0)
theorem mem_getD {way : List Nat} {j : Nat} (h : j < way.length) : way.getD j 0 ∈ way := by
  rw [List.getD_eq_getElem?_getD, List.getElem?_eq_getElem h]; exact List.getElem_mem h
theorem Inc.snoc {way : List Nat} {k : Nat} (I : Inc leads sz way k) (h : ∀ j, j < way.length → row0 leads sz (way.getD j 0) < row0 leads sz k) : Inc leads sz (way ++ [k]) (k + 1) where
  lt := fun p hp => by
    rcases List.mem_append.mp hp with hp | hp
    · have := I.lt p hp; omega
    · rw [List.mem_singleton.mp hp]; omega
  inc := fun i j hij hj => by
    rw [List.length_append] at hj
    simp only [List.length_cons, List.length_nil] at hj
    rw [getD_app_left (show i < way.length by omega)]
    by_cases h2 : j < way.length
    · rw [getD_app_left h2]; exact I.inc i j hij h2
    · have e : j = way.length := by omega
      subst e
      have e1 : (way ++ [k]).getD way.length 0 = k := by rw [List.getD_eq_getElem?_getD, List.getElem?_append_right (Nat.le_refl _), Nat.sub_self]; rfl
      rw [e1]; exact h i hij
theorem getD_take {way : List Nat} {p j : Nat} (h : j < p) : (way.take p).getD j 0 = way.getD j 0 := by
  rw [List.getD_eq_getElem?_getD, List.getD_eq_getElem?_getD, List.getElem?_take, if_pos h]
theorem Inc.take {way : List Nat} {k : Nat} (I : Inc leads sz way k) (p : Nat) : Inc leads sz (way.take p) k where
  lt := fun q hq => I.lt q (List.mem_of_mem_take hq)
  inc := fun i j hij hj => by
    rw [List.length_take] at hj
    rw [getD_take (by omega), getD_take (by omega)]
    exact I.inc i j hij (by omega)
/-- the last equal place in the pile is the first equal place in the way -/
theorem last_same (G : Pg ts leads sz) {way : List Nat} {k : Nat} (I : Inc leads sz way k) (hk : k < ts.length) : ∀ n, n ≤ way.length →
    lastSame (pileOf ts leads way) (lineW ts leads k) n = match (List.range n).filter fun p => decide ((leads.map (rowOf sz)).getD (way.getD p 0) [] = (leads.map (rowOf sz)).getD k []) with
      | [] => -1
      | p :: _ => (p : Int)
  | 0, _ => rfl
  | n + 1, hn => by
    have ih := last_same G I hk n (by omega)
    have hm : way.getD n 0 < ts.length := by have := I.lt _ (mem_getD (show n < way.length by omega)); omega
    rw [lastSame, pileOf_at way (by omega)]
    dsimp only
    rw [G.same hm hk, List.range_succ, List.filter_append]
    by_cases hc : (leads.map (rowOf sz)).getD (way.getD n 0) [] = (leads.map (rowOf sz)).getD k []
    · rw [if_pos (decide_eq_true hc), List.filter_cons_of_pos (by simpa using hc), List.filter_nil]
      have : (List.range n).filter (fun p => decide ((leads.map (rowOf sz)).getD (way.getD p 0) [] = (leads.map (rowOf sz)).getD k [])) = [] := by
        rw [List.filter_eq_nil_iff]
        intro p hp hq
        have hp := List.mem_range.mp hp
        have hq := of_decide_eq_true hq
        have := I.inc p n hp (by omega)
        unfold row0 at this
        rw [hq, hc] at this
        exact absurd this (Int.lt_irrefl _)
      rw [this]
      rfl
    · rw [if_neg (by simpa using hc), List.filter_cons_of_neg (by simpa using hc), List.filter_nil, List.append_nil]
      exact ih
theorem top_less (G : Pg ts leads sz) {way : List Nat} {k : Nat} (I : Inc leads sz way k) (hk : k < ts.length) : topLess (pileOf ts leads way) (lineW ts leads k) = onTop (leads.map (rowOf sz)) sz way k := by
  unfold topLess onTop
  rw [pileOf_last]
  by_cases h : way = []
  · rw [if_pos h, h]; rfl
  · rw [if_neg h, List.isEmpty_eq_false_iff.mpr h, Bool.false_or]
    have hp : 0 < way.length := List.length_pos_iff.mpr h
    have hm : way.getD (way.length - 1) 0 < ts.length := by have := I.lt _ (mem_getD (show way.length - 1 < way.length by omega)); omega
    exact G.less hm hk
theorem at_of (G : Pg ts leads sz) {way : List Nat} {k : Nat} (I : Inc leads sz way k) (hk : k < ts.length) : atOf (pileOf ts leads way) (lineW ts leads k) = if onTop (leads.map (rowOf sz)) sz way k then (way.length : Int) else match sameAt (leads.map (rowOf sz)) way k with
      | [] => -1
      | p :: _ => (p : Int) := by
  rw [← top_less G I hk]
  have h1 := last_same G I hk way.length (Nat.le_refl _)
  have hl := pileOf_len (ts := ts) (leads := leads) way
  unfold atOf topLess
  cases q : (pileOf ts leads way).getLast? with
  | none =>
    rw [List.getLast?_eq_none_iff] at q
    rw [q] at hl
    dsimp only
    rw [if_pos rfl, ← hl]; rfl
  | some p =>
    dsimp only
    rw [hl]
    split
    · rfl
    · exact h1
theorem step_eq (G : Pg ts leads sz) {way : List Nat} {ways : List (List Nat)} {k : Nat} (I : Inc leads sz way k) (hk : k < ts.length) :
    ∃ way' w, wayStep (leads.map (rowOf sz)) sz (way, ways) k = (way', ways ++ [w]) ∧ toldStep (pileOf ts leads way, ways.map (catS ts)) (leads.getD k Str.empty) (opAt ts k) = (pileOf ts leads way', (ways ++ [w]).map (catS ts)) ∧
      Inc leads sz way' (k + 1) ∧ (∀ p ∈ w, p < k + 1) ∧ w.length ≤ way.length + 1 ∧ way'.length ≤ way.length + 1 := by
  have hw : wsOf (leads.getD k Str.empty) (opAt ts k) = lineW ts leads k := rfl
  have hsz := G.pos hk
  have hat := at_of G I hk
  have weak : Inc leads sz way (k + 1) := ⟨fun p hp => Nat.lt_succ_of_lt (I.lt p hp), I.inc⟩
  unfold wayStep toldStep
  dsimp only
  rw [hw, hat]
  by_cases h : onTop (leads.map (rowOf sz)) sz way k = true
  · rw [if_pos h, if_pos h, if_pos (by omega)]
    have e1 : (pileOf ts leads way).take ((way.length : Int)).toNat = pileOf ts leads way := by rw [Int.toNat_natCast]; exact List.take_of_length_le (by rw [pileOf_len]; omega)
    rw [e1, lastName_pile, ← catS_snoc, ← pileOf_snoc]
    have hI : Inc leads sz (way ++ [k]) (k + 1) := by
      refine I.snoc fun j hj => ?_
      unfold onTop at h
      have hne : way ≠ [] := by rintro rfl; cases hj
      rw [List.isEmpty_eq_false_iff.mpr hne, Bool.false_or, List.isEmpty_iff] at h
      unfold notLess at h
      rw [List.filter_eq_nil_iff] at h
      have h0 := h 0 (List.mem_range.mpr hsz)
      simp only [decide_eq_true_iff] at h0
      have h1 : row0 leads sz (way.getD (way.length - 1) 0) < row0 leads sz k := by unfold row0; omega
      rcases Nat.lt_or_ge j (way.length - 1) with q | q
      · have := I.inc j (way.length - 1) q (by omega); omega
      · rw [show j = way.length - 1 by omega]; exact h1
    refine ⟨way ++ [k], way ++ [k], rfl, by rw [List.map_append]; rfl, hI, hI.lt, by rw [List.length_append]; simp, by rw [List.length_append]; simp⟩
  · rw [if_neg h, if_neg h]
    cases hs : sameAt (leads.map (rowOf sz)) way k with
    | nil =>
      dsimp only
      rw [if_neg (by omega)]
      exact ⟨way, [], rfl, by rw [List.map_append]; rfl, weak, (fun p hp => by cases hp), Nat.zero_le _, by omega⟩
    | cons p r =>
      dsimp only
      rw [if_pos (by omega), Int.toNat_natCast, pileOf_take, lastName_pile, ← catS_snoc, ← pileOf_snoc]
      have hpm : p ∈ sameAt (leads.map (rowOf sz)) way k := by rw [hs]; exact .head _
      unfold sameAt at hpm
      obtain ⟨hp1, hp2⟩ := List.mem_filter.mp hpm
      have hp1 := List.mem_range.mp hp1
      have hp2 := of_decide_eq_true hp2
      have hI : Inc leads sz (way.take p ++ [k]) (k + 1) := by
        refine (I.take p).snoc fun j hj => ?_
        rw [List.length_take] at hj
        rw [getD_take (by omega)]
        have := I.inc j p (by omega) hp1
        have e : row0 leads sz k = row0 leads sz (way.getD p 0) := by unfold row0; rw [hp2]
        rw [e]; exact this
      refine ⟨way.take p ++ [k], way.take p ++ [k], rfl, by rw [List.map_append]; rfl, hI, hI.lt, by rw [List.length_append, List.length_take]; simp only [List.length_cons, List.length_nil]; omega, by rw [List.length_append, List.length_take]; simp only [List.length_cons, List.length_nil]; omega⟩
theorem run_eq (G : Pg ts leads sz) : ∀ k, k ≤ ts.length → ∃ way ways, wayF (leads.map (rowOf sz)) sz k = (way, ways) ∧ toldF leads (ts.map signOf) k = (pileOf ts leads way, ways.map (catS ts)) ∧ Inc leads sz way k ∧ (∀ w ∈ ways, (∀ p ∈ w, p < k) ∧ w.length ≤ k) ∧ ways.length = k ∧ way.length ≤ k
  | 0, _ => ⟨[], [], rfl, rfl, ⟨(fun _ h => by cases h), (fun _ _ _ h => by cases h)⟩, (fun _ h => by cases h), rfl, Nat.le_refl _⟩
  | k + 1, hk => by
    obtain ⟨way, ways, h1, h2, I, h3, h4, h5⟩ := run_eq G k (by omega)
    obtain ⟨way', w, s1, s2, I', s3, s4, s5⟩ := step_eq G (ways := ways) I (by omega)
    refine ⟨way', ways ++ [w], by rw [wayF, h1, s1], by rw [toldF, h2]; exact s2, I', ?_, by rw [List.length_append]; simp only [List.length_cons, List.length_nil]; omega, by omega⟩
    intro v hv
    rcases List.mem_append.mp hv with hv | hv
    · have := h3 v hv
      exact ⟨fun p hp => Nat.lt_succ_of_lt (this.1 p hp), by omega⟩
    · rw [List.mem_singleton.mp hv]
      exact ⟨s3, by omega⟩
end

theorem tab_letters : (opTab.all fun e => !e.1.cps.toList.contains 97 && !e.1.cps.toList.contains 66) = true := by decide +kernel
theorem lookup_mem' {x : Str} {n : Int} : ∀ {T : List (Str × Int)}, T.lookup x = some n → (x, n) ∈ T
  | [], h => by cases h
  | (y, m) :: r, h => by
    rw [List.lookup_cons] at h
    cases q : x == y with
    | true =>
      rw [q] at h
      have : x = y := by simpa using q
      subst this
      cases h
      exact .head _
    | false => rw [q] at h; exact .tail _ (lookup_mem' h)
theorem tok_letter {x : Str} {c : Nat} (hc : c = 97 ∨ c = 66) (h : c ∈ x.cps.toList) : tok x = none := by
  cases q : tok x with
  | none => rfl
  | some n =>
    have hm := lookup_mem' (T := opTab) (by exact q)
    have := List.all_eq_true.mp tab_letters _ hm
    simp only [Bool.and_eq_true, Bool.not_eq_true', List.contains_eq_mem, decide_eq_false_iff_not] at this
    rcases hc with rfl | rfl
    · exact absurd h this.1
    · exact absurd h this.2
theorem tok_ops : ((List.range 48).all fun i => tok (opStrs.getD i Str.empty) == some ((i : Int) + 7)) = true := by decide +kernel
theorem tok_op {i : Nat} (h : i < 48) : tok (opStrs.getD i Str.empty) = some ((i : Int) + 7) := by
  have := List.all_eq_true.mp tok_ops i (List.mem_range.mpr h)
  simpa using this
theorem ops_pos : (opStrs.all fun o => decide (1 ≤ o.cps.size)) = true := by decide +kernel
theorem cut_eq {x o : Str} {r : List Nat} (h : x.cps.toList = o.cps.toList ++ r) : cut x o.cps.size = o := by
  unfold cut
  rw [h, List.take_append_of_le_length (by simp), List.take_of_length_le (by simp)]
theorem cut_letter {x : Str} {l r : List Nat} {c k : Nat} (hc : c = 97 ∨ c = 66) (h : x.cps.toList = l ++ c :: r) (hk : l.length < k) : tok (cut x k) = none := by
  refine tok_letter hc ?_
  unfold cut
  rw [h, List.take_append]
  obtain ⟨m, hm⟩ : ∃ m, k - l.length = m + 1 := ⟨k - l.length - 1, by omega⟩
  rw [hm, List.take_succ_cons]
  simp
theorem readF_cons {f : Nat} {x : Str} (h : x.cps.toList ≠ []) : readF (f + 1) x = (tok (cut x (sizeOf x))).getD 0 :: readF f ⟨(x.cps.toList.drop (sizeOf x)).toArray⟩ := by
  rw [readF, if_neg h]
theorem read_op {f : Nat} {x o : Str} {i c : Nat} {R : List Nat} (hi : i < 48) (ho : o = opStrs.getD i Str.empty) (hc : c = 97 ∨ c = 66) (hx : x.cps.toList = o.cps.toList ++ c :: R) : readF (f + 2) x = ((i : Int) + 7) :: 0 :: readF f ⟨R.toArray⟩ := by
  have hm : o ∈ opStrs := by
    have h : i < opStrs.length := by rw [ops_len]; exact hi
    rw [ho, List.getD_eq_getElem?_getD, List.getElem?_eq_getElem h]; exact List.getElem_mem h
  have h1 := of_decide_eq_true (List.all_eq_true.mp ops_pos _ hm)
  have h3 := of_decide_eq_true (List.all_eq_true.mp ops_small _ hm)
  have ht : tok o = some ((i : Int) + 7) := by rw [ho]; exact tok_op hi
  have hcut := cut_eq (x := x) (o := o) hx
  have hsz : sizeOf x = o.cps.size := by
    unfold sizeOf
    rcases (show o.cps.size = 1 ∨ o.cps.size = 2 ∨ o.cps.size = 3 by omega) with q | q | q
    · have n3 := cut_letter (k := 3) hc hx (by rw [Array.length_toList]; omega)
      have n2 := cut_letter (k := 2) hc hx (by rw [Array.length_toList]; omega)
      rw [n3, n2, q]; rfl
    · have n3 := cut_letter (k := 3) hc hx (by rw [Array.length_toList]; omega)
      rw [q] at hcut
      rw [n3, hcut, ht, q]; rfl
    · rw [q] at hcut
      rw [hcut, ht, q]; rfl
  have hne : x.cps.toList ≠ [] := by rw [hx]; simp
  rw [readF_cons hne, hsz, hcut, ht, hx, List.drop_append_of_le_length (by simp), List.drop_of_length_le (by simp), List.nil_append]
  have hne2 : (⟨(c :: R).toArray⟩ : Str).cps.toList ≠ [] := by simp
  have hy : (⟨(c :: R).toArray⟩ : Str).cps.toList = [] ++ c :: R := rfl
  have s1 : sizeOf (⟨(c :: R).toArray⟩ : Str) = 1 := by
    unfold sizeOf
    rw [cut_letter (k := 3) hc hy (by decide), cut_letter (k := 2) hc hy (by decide)]; rfl
  rw [readF_cons hne2, s1, cut_letter (k := 1) hc hy (by decide)]
  rfl
section
variable {ts : List Int}
def catL (ts : List Int) (way : List Nat) : List Nat := way.flatMap fun p => (opAt ts p).cps.toList
theorem str_app (x y : Str) : (x ++ y).cps.toList = x.cps.toList ++ y.cps.toList := by
  show (x.cps ++ y.cps).toList = _
  simp
theorem catS_list (way : List Nat) : (catS ts way).cps.toList = catL ts way := by
  have : ∀ (way : List Nat) (a : Str), (way.foldl (fun a p => a ++ opAt ts p) a).cps.toList = a.cps.toList ++ catL ts way := by
    intro way
    induction way with
    | nil => intro a; simp [catL]
    | cons p r ih => intro a; rw [List.foldl_cons, ih, str_app]; simp [catL]
  unfold catS
  rw [this]; rfl
theorem letter_is (t : Int) : ∃ c, (c = 97 ∨ c = 66) ∧ (letterOf t).cps.toList = [c] := by
  unfold letterOf
  split
  · exact ⟨97, .inl rfl, rfl⟩
  · exact ⟨66, .inr rfl, rfl⟩
theorem opAt_list {p : Nat} (hp : p < ts.length) : ∃ c, (c = 97 ∨ c = 66) ∧ (opAt ts p).cps.toList = (opStrs.getD (ts.getD p 0 % 48).toNat Str.empty).cps.toList ++ [c] := by
  obtain ⟨c, h1, h2⟩ := letter_is (ts.getD p 0)
  refine ⟨c, h1, ?_⟩
  rw [opAt_eq hp]
  unfold signOf
  rw [str_app, h2]
theorem read_cat : ∀ (way : List Nat) (f : Nat), (∀ p ∈ way, p < ts.length) → (catL ts way).length < f → readF f ⟨(catL ts way).toArray⟩ = wantedOf ts way
  | [], f + 1, _, _ => by rw [readF, if_pos (show (⟨(catL ts []).toArray⟩ : Str).cps.toList = [] from rfl)]; rfl
  | p :: r, f, hp, hf => by
    obtain ⟨c, h1, h2⟩ := opAt_list (hp p (.head _))
    have e : catL ts (p :: r) = (opStrs.getD (ts.getD p 0 % 48).toNat Str.empty).cps.toList ++ c :: catL ts r := by
      show (opAt ts p).cps.toList ++ catL ts r = _
      rw [h2, List.append_assoc]; rfl
    have h3 := of_decide_eq_true (List.all_eq_true.mp ops_pos _ (op_mem (ts.getD p 0)))
    rw [e, List.length_append, List.length_cons, Array.length_toList] at hf
    obtain ⟨f', rfl⟩ : ∃ f', f = f' + 2 := ⟨f - 2, by omega⟩
    rw [read_op (i := (ts.getD p 0 % 48).toNat) (by omega) rfl h1 (R := catL ts r) (by rw [← e]), read_cat r f' (fun q hq => hp q (.tail _ hq)) (by omega)]
    show _ = [ts.getD p 0 % 48 + 7, 0] ++ wantedOf ts r
    rw [Int.toNat_of_nonneg (by omega)]; rfl
theorem catL_len : ∀ way : List Nat, (∀ p ∈ way, p < ts.length) → (catL ts way).length ≤ 4 * way.length
  | [], _ => Nat.le_refl _
  | p :: r, h => by
    have h1 := catL_len r fun q hq => h q (.tail _ hq)
    have h2 := sign_size (ts.getD p 0)
    rw [← opAt_eq (h p (.head _))] at h2
    have e : catL ts (p :: r) = (opAt ts p).cps.toList ++ catL ts r := rfl
    rw [e, List.length_append, Array.length_toList, List.length_cons]
    omega
end

def pre : List Nat → List Nat → Option Bool
  | a :: x, b :: y => if a = b then pre x y else some (decide (a < b))
  | _, _ => none
theorem pre_lt : ∀ {a b : List Nat} {v : Bool}, pre a b = some v → ∀ x y, decide (a ++ x < b ++ y) = v
  | a :: x, b :: y, v, h, u, w => by
    rw [pre] at h
    rw [List.cons_append, List.cons_append]
    by_cases hab : a = b
    · subst hab
      rw [if_pos rfl] at h
      rw [← pre_lt h u w]
      rw [decide_eq_decide, List.cons_lt_cons_iff]
      constructor
      · rintro (q | q)
        · exact absurd q (Nat.lt_irrefl _)
        · exact q.2
      · exact fun q => .inr ⟨rfl, q⟩
    · rw [if_neg hab] at h
      cases h
      rw [decide_eq_decide, List.cons_lt_cons_iff]
      constructor
      · rintro (q | q)
        · exact q
        · exact absurd q.1 hab
      · exact fun q => .inl q
  | [], _, _, h, _, _ => by cases h
  | _ :: _, [], _, h, _, _ => by cases h
theorem app_lt (a : List Nat) (x y : List Nat) : decide (a ++ x < a ++ y) = decide (x < y) := by
  induction a with
  | nil => rfl
  | cons c r ih =>
    rw [← ih, decide_eq_decide, List.cons_append, List.cons_append, List.cons_lt_cons_iff]
    constructor
    · rintro (q | q)
      · exact absurd q (Nat.lt_irrefl _)
      · exact q.2
    · exact fun q => .inr ⟨rfl, q⟩
theorem pre_all : (sortedCps.zipIdx.all fun a => sortedCps.zipIdx.all fun b => a.2 == b.2 || pre a.1 b.1 == some (decide (a.2 < b.2))) = true := by decide +kernel
section
variable {ts : List Int}
theorem order_mem {x : Str} (h : x ∈ orderStrs) : (x.cps.toList, orderStrs.idxOf x) ∈ sortedCps.zipIdx := by
  have hi : orderStrs.idxOf x < orderStrs.length := List.idxOf_lt_length_iff.mpr h
  have hi2 : orderStrs.idxOf x < sortedCps.length := by unfold orderStrs at hi ⊢; rwa [List.length_map] at hi
  have h1 : orderStrs[orderStrs.idxOf x] = x := List.getElem_idxOf hi
  have h0 : ∀ i (h : i < orderStrs.length) (h' : i < sortedCps.length), orderStrs[i] = (⟨(sortedCps[i]).toArray⟩ : Str) := fun i h h' => by simp [orderStrs]
  have h2 := h0 _ hi hi2
  rw [List.mem_zipIdx_iff_getElem?, List.getElem?_eq_getElem hi2]
  congr 1
  rw [h1] at h2
  have h3 := congrArg (fun s : Str => s.cps.toList) h2
  exact h3.symm
theorem rank_at {p : Nat} (hp : p < ts.length) : (ranksOf ts).getD p 0 = ((orderStrs.idxOf (opAt ts p) : Nat) : Int) := by
  rw [opAt_eq hp]
  unfold ranksOf
  rw [List.getD_eq_getElem?_getD, List.getElem?_map, List.getD_eq_getElem?_getD, List.getElem?_eq_getElem hp]; rfl
theorem order_cat : ∀ (w v : List Nat), (∀ p ∈ w, p < ts.length) → (∀ p ∈ v, p < ts.length) → decide (catL ts w < catL ts v) = ltI (rksOf ts w) (rksOf ts v)
  | w, [], _, _ => by
    show decide (catL ts w < []) = ltI (rksOf ts w) []
    rw [ltI_nil_right]
    exact decide_eq_false (List.not_lt_nil _)
  | [], p :: v, _, hv => by
    obtain ⟨c, h1, h2⟩ := opAt_list (hv p (.head _))
    have e : catL ts (p :: v) = (opAt ts p).cps.toList ++ catL ts v := rfl
    have hne : catL ts (p :: v) ≠ [] := by rw [e, h2]; simp
    cases q : catL ts (p :: v) with
    | nil => exact absurd q hne
    | cons a r => exact decide_eq_true (List.nil_lt_cons a r)
  | p :: w, q :: v, hw, hv => by
    have hp := hw p (.head _)
    have hq := hv q (.head _)
    have ih := order_cat w v (fun r hr => hw r (.tail _ hr)) fun r hr => hv r (.tail _ hr)
    have mp : opAt ts p ∈ orderStrs := by rw [opAt_eq hp]; exact sign_mem _
    have mq : opAt ts q ∈ orderStrs := by rw [opAt_eq hq]; exact sign_mem _
    have e1 : catL ts (p :: w) = (opAt ts p).cps.toList ++ catL ts w := rfl
    have e2 : catL ts (q :: v) = (opAt ts q).cps.toList ++ catL ts v := rfl
    have e3 : rksOf ts (p :: w) = ((orderStrs.idxOf (opAt ts p) : Nat) : Int) :: rksOf ts w := by show (ranksOf ts).getD p 0 :: _ = _; rw [rank_at hp]; rfl
    have e4 : rksOf ts (q :: v) = ((orderStrs.idxOf (opAt ts q) : Nat) : Int) :: rksOf ts v := by show (ranksOf ts).getD q 0 :: _ = _; rw [rank_at hq]; rfl
    rw [e1, e2, e3, e4, ltI]
    by_cases hr : orderStrs.idxOf (opAt ts p) = orderStrs.idxOf (opAt ts q)
    · rw [if_pos (by rw [hr])]
      have hpq : opAt ts p = opAt ts q := by
        have h1 := List.getElem_idxOf (List.idxOf_lt_length_iff.mpr mp)
        have h2 := List.getElem_idxOf (List.idxOf_lt_length_iff.mpr mq)
        rw [← h1, ← h2]
        congr 1
      rw [hpq, app_lt]
      exact ih
    · rw [if_neg (by omega)]
      have := List.all_eq_true.mp (List.all_eq_true.mp pre_all _ (order_mem mp)) _ (order_mem mq)
      simp only [Bool.or_eq_true, beq_iff_eq] at this
      rcases this with h | h
      · exact absurd h hr
      · rw [pre_lt h]
        rw [decide_eq_decide]
        omega
end
theorem law_all : LawAll := by
  intro ts leads sz h5 h0 hl hb hr
  have G : Pg ts leads sz := ⟨by omega, fun x hx => (hb x hx).1, fun x hx y hy => hr y (List.mem_flatMap.mpr ⟨x, hx, hy⟩)⟩
  obtain ⟨way, ways, r1, r2, I, r3, r4, r5⟩ := run_eq G 5 (by omega)
  have eW : waysOf leads sz = ways := by unfold waysOf; rw [r1]
  have eT : toldOf ts leads = ways.map (catS ts) := by unfold toldOf; rw [r2]
  have hm : ∀ k, (∀ p ∈ ways.getD k [], p < 5) ∧ (ways.getD k []).length ≤ 5 := by
    intro k
    rw [List.getD_eq_getElem?_getD]
    cases q : ways[k]? with
    | none => exact ⟨(fun p hp => by cases hp), Nat.zero_le _⟩
    | some w => exact r3 w (List.mem_of_getElem? q)
  have hm' : ∀ k, ∀ p ∈ ways.getD k [], p < ts.length := fun k p hp => by rw [h5]; exact (hm k).1 p hp
  have hk : ∀ k, k < 5 → (ways.map (catS ts)).getD k Str.empty = catS ts (ways.getD k []) := by
    intro k hk
    rw [List.getD_eq_getElem?_getD, List.getElem?_map, List.getD_eq_getElem?_getD, List.getElem?_eq_getElem (by omega)]; rfl
  have hs : ∀ k, (catS ts (ways.getD k [])).cps.size ≤ 20 := by
    intro k
    have h1 := catL_len (ts := ts) (ways.getD k []) (hm' k)
    rw [← catS_list, Array.length_toList] at h1
    have := (hm k).2
    omega
  refine ⟨by rw [eT, List.length_map, r4], by rw [eW, r4], fun k => by rw [eW]; exact (hm k).1, fun k => by rw [eW]; exact (hm k).2, fun k => ?_, fun k hk5 => ?_, fun k j hk5 hj5 => ?_⟩
  · rw [eT]
    rcases Nat.lt_or_ge k 5 with q | q
    · rw [hk k q]; have := hs k; omega
    · rw [List.getD_eq_getElem?_getD, List.getElem?_eq_none (by rw [List.length_map]; omega)]; exact Nat.zero_le _
  · rw [eT, eW, hk k hk5]
    have e := catS_list (ts := ts) (ways.getD k [])
    have e2 : catS ts (ways.getD k []) = ⟨(catL ts (ways.getD k [])).toArray⟩ := by rw [← e]
    have h1 := read_cat (ts := ts) (ways.getD k []) ((catS ts (ways.getD k [])).cps.size + 1) (hm' k) (by rw [← e, Array.length_toList]; omega)
    rw [← e2] at h1
    exact h1
  · rw [eT, eW, hk k hk5, hk j hj5, catS_list, catS_list]
    exact order_cat _ _ (hm' k) (hm' j)

end Mine
namespace Mine
theorem glb_law : Glb (Str.ofString "law") (.ref 140) := fun _ => by kernel_rfl
theorem fa_eq {mg : Str → Option Value} {x : Str} {fa : Addr} (h1 : mg x = some (.ref 140)) (h2 : mg x = some (.ref fa)) : fa = 140 := (Value.ref.inj (Option.some.inj (h1.symm.trans h2))).symm
end Mine
set_option maxRecDepth 100000 in
set_option maxHeartbeats 8000000 in
theorem PySem.Challenge.cw_st0025_01_holds : PySem.Challenge.rw_st0025_01.Holds := by
  w_on
  refine holds_law Mine.law_said fun said => ?_
  refine holds_open (q := Mine.vw) (loose := Mine.loose) (Xt := Mine.xt) (XP := XL Mine.vw []) (Yf := Hook.obs Mine.hk) (Ya := Hook.val Mine.hk) (YP := Hook.says Mine.hk) (N := 4518) ?hl (Hook.of Mine.hk) (Hook.keeps Mine.hk) (fun s e => xl_of s (Bool.and_eq_true_iff.mp e).1) XL.keeps (by rfl) (by rfl) (by rfl) (fun s e => recFacts_of (Bool.and_eq_true_iff.mp e).2) (by rfl) said Mine.head_ok ⟨rfl, rfl, rfl, rfl, rfl, Mine.tables_ok⟩ ?hw ?hc
  case hl => exact Mine.left_all
  case hw => w_witness2
  intro w s₀ s₁ mg mb G Y fa o pm cd doc dV kV ho hd hcd hD hmg hg args vals as hpre hlay hrd hwl hlo
  have KX : (Mine.hd.heap_1 w.params).In s₁.heap := Y
  refine Ground.open G ?_
  intro T B D TE TW
  try (refine guard_noD D (by decide +kernel) ?_; clear D)
  wrow_args hpre hlay hrd hwl hlo
  refine enter_call ?_
  refine codeAny_mono ?_ (fun _ _ g => GoodW.toG g)
  have hfa : fa = 140 := Mine.fa_eq (mg_of KX T.g (Mine.glb_law w.params)) hmg
  clear hmg
  subst hfa
  have G' : Mine.Gd w s₁.heap := ⟨KX, mg, mb, T.g, T.b, T.nolimit, T.builtins⟩
  have Am : Mine.Amb (0 + 6) callerA := ⟨rfl, by decide +kernel, by decide +kernel⟩
  refine Mine.law_code Mine.law_all Am G' (by assumption) (by assumption) (by omega) ?_
  intro s' a
  exact ⟨.inl ⟨_, .bool true, [], rfl, (fun cls => by with_unfolding_all rfl), .bool true, (by with_unfolding_all rfl), unshared_nil⟩, a.keep, a.os, a.gens.trans hg⟩
