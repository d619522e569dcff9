import PyProof.Rows.All
import Wide.All
import OpenK.AllK
import Wide.FinOn
import PySem.Challenge.RW_ti0050_01
open PySem PySem.W PyProof.Rows
set_option Elab.async false
set_option linter.all false
section
set_option maxRecDepth 100000
namespace Mine
set_option maxHeartbeats 0
abbrev PE : Program := Challenge.rw_ti0050_01.row.toRowW.prog
noncomputable def PB : List Stmt := PE.main.body
noncomputable def clsB (i : Nat) : List Stmt := match PB[i]? with | some (.ClassDef _ _ _ b _ _ _ _ _ _ _) => b | _ => []
noncomputable def mkFn {l : List Stmt} {i : Nat} {n : Str} {p : Arguments} {b : List Stmt} {d : List PySem.Expr} {r : Option PySem.Expr} {tp : List TypeParam} {s : Scope} {ts : Option Scope} {bd : Str} {pos : Pos} (_ : l[i]? = some (.FunctionDef n p b d r tp s ts bd pos)) (k : Arguments → List Stmt → Scope → Obj) : Obj := k p b s
noncomputable def o3 (P : Params) : Obj := { cls := Value.type "dict", data := Data.dict (List.toArray ({ hash := PyData.keyHash P (Str.ofString "__name__"), key := Value.str (Str.ofString "__name__") 165, val := Value.str (Str.ofString "law_ti0050_01") 567 } :: { hash := PyData.keyHash P (Str.ofString "__doc__"), key := Value.str (Str.ofString "__doc__") 166, val := Value.none } :: { hash := PyData.keyHash P (Str.ofString "__package__"), key := Value.str (Str.ofString "__package__") 167, val := Value.none } :: { hash := PyData.keyHash P (Str.ofString "__loader__"), key := Value.str (Str.ofString "__loader__") 168, val := Value.builtin "__main__.__loader__#opaque" } :: { hash := PyData.keyHash P (Str.ofString "__spec__"), key := Value.str (Str.ofString "__spec__") 169, val := Value.none } :: { hash := PyData.keyHash P (Str.ofString "__annotations__"), key := Value.str (Str.ofString "__annotations__") 170, val := Value.ref 6 } :: { hash := PyData.keyHash P (Str.ofString "__builtins__"), key := Value.str (Str.ofString "__builtins__") 171, val := Value.ref 4 } :: { hash := PyData.keyHash P (Str.ofString "__file__"), key := Value.str (Str.ofString "__file__") 173, val := Value.str (Str.ofString "/claim/cut.py") 172 } :: { hash := PyData.keyHash P (Str.ofString "__cached__"), key := Value.str (Str.ofString "__cached__") 174, val := Value.none } :: { hash := PyData.keyHash P (Str.ofString "_wall"), key := Value.str (Str.ofString "_wall") 193, val := Value.ref 21 } :: { hash := PyData.keyHash P (Str.ofString "Whitespace"), key := Value.str (Str.ofString "Whitespace") 291, val := Value.ref 83 } :: { hash := PyData.keyHash P (Str.ofString "CHAR_MAX"), key := Value.str (Str.ofString "CHAR_MAX") 295, val := Value.int 127 294 } :: { hash := PyData.keyHash P (Str.ofString "_grouping_intervals"), key := Value.str (Str.ofString "_grouping_intervals") 304, val := Value.ref 94 } :: { hash := PyData.keyHash P (Str.ofString "add"), key := Value.str (Str.ofString "add") 314, val := Value.ref 101 } :: { hash := PyData.keyHash P (Str.ofString "floordiv"), key := Value.str (Str.ofString "floordiv") 322, val := Value.ref 108 } :: { hash := PyData.keyHash P (Str.ofString "mod"), key := Value.str (Str.ofString "mod") 330, val := Value.ref 115 } :: { hash := PyData.keyHash P (Str.ofString "mul"), key := Value.str (Str.ofString "mul") 338, val := Value.ref 122 } :: { hash := PyData.keyHash P (Str.ofString "sub"), key := Value.str (Str.ofString "sub") 346, val := Value.ref 129 } :: { hash := PyData.keyHash P (Str.ofString "contains"), key := Value.str (Str.ofString "contains") 354, val := Value.ref 136 } :: { hash := PyData.keyHash P (Str.ofString "getitem"), key := Value.str (Str.ofString "getitem") 362, val := Value.ref 143 } :: { hash := PyData.keyHash P (Str.ofString "LPAR"), key := Value.str (Str.ofString "LPAR") 366, val := Value.int 7 365 } :: { hash := PyData.keyHash P (Str.ofString "RPAR"), key := Value.str (Str.ofString "RPAR") 368, val := Value.int 8 367 } :: { hash := PyData.keyHash P (Str.ofString "LSQB"), key := Value.str (Str.ofString "LSQB") 370, val := Value.int 9 369 } :: { hash := PyData.keyHash P (Str.ofString "RSQB"), key := Value.str (Str.ofString "RSQB") 372, val := Value.int 10 371 } :: { hash := PyData.keyHash P (Str.ofString "COLON"), key := Value.str (Str.ofString "COLON") 374, val := Value.int 11 373 } :: { hash := PyData.keyHash P (Str.ofString "COMMA"), key := Value.str (Str.ofString "COMMA") 376, val := Value.int 12 375 } :: { hash := PyData.keyHash P (Str.ofString "SEMI"), key := Value.str (Str.ofString "SEMI") 378, val := Value.int 13 377 } :: { hash := PyData.keyHash P (Str.ofString "PLUS"), key := Value.str (Str.ofString "PLUS") 380, val := Value.int 14 379 } :: { hash := PyData.keyHash P (Str.ofString "MINUS"), key := Value.str (Str.ofString "MINUS") 382, val := Value.int 15 381 } :: { hash := PyData.keyHash P (Str.ofString "STAR"), key := Value.str (Str.ofString "STAR") 384, val := Value.int 16 383 } :: { hash := PyData.keyHash P (Str.ofString "SLASH"), key := Value.str (Str.ofString "SLASH") 386, val := Value.int 17 385 } :: { hash := PyData.keyHash P (Str.ofString "VBAR"), key := Value.str (Str.ofString "VBAR") 388, val := Value.int 18 387 } :: { hash := PyData.keyHash P (Str.ofString "AMPER"), key := Value.str (Str.ofString "AMPER") 390, val := Value.int 19 389 } :: { hash := PyData.keyHash P (Str.ofString "LESS"), key := Value.str (Str.ofString "LESS") 392, val := Value.int 20 391 } :: { hash := PyData.keyHash P (Str.ofString "GREATER"), key := Value.str (Str.ofString "GREATER") 394, val := Value.int 21 393 } :: { hash := PyData.keyHash P (Str.ofString "EQUAL"), key := Value.str (Str.ofString "EQUAL") 396, val := Value.int 22 395 } :: { hash := PyData.keyHash P (Str.ofString "DOT"), key := Value.str (Str.ofString "DOT") 398, val := Value.int 23 397 } :: { hash := PyData.keyHash P (Str.ofString "PERCENT"), key := Value.str (Str.ofString "PERCENT") 400, val := Value.int 24 399 } :: { hash := PyData.keyHash P (Str.ofString "LBRACE"), key := Value.str (Str.ofString "LBRACE") 402, val := Value.int 25 401 } :: { hash := PyData.keyHash P (Str.ofString "RBRACE"), key := Value.str (Str.ofString "RBRACE") 404, val := Value.int 26 403 } :: { hash := PyData.keyHash P (Str.ofString "EQEQUAL"), key := Value.str (Str.ofString "EQEQUAL") 406, val := Value.int 27 405 } :: { hash := PyData.keyHash P (Str.ofString "NOTEQUAL"), key := Value.str (Str.ofString "NOTEQUAL") 408, val := Value.int 28 407 } :: { hash := PyData.keyHash P (Str.ofString "LESSEQUAL"), key := Value.str (Str.ofString "LESSEQUAL") 410, val := Value.int 29 409 } :: { hash := PyData.keyHash P (Str.ofString "GREATEREQUAL"), key := Value.str (Str.ofString "GREATEREQUAL") 412, val := Value.int 30 411 } :: { hash := PyData.keyHash P (Str.ofString "TILDE"), key := Value.str (Str.ofString "TILDE") 414, val := Value.int 31 413 } :: { hash := PyData.keyHash P (Str.ofString "CIRCUMFLEX"), key := Value.str (Str.ofString "CIRCUMFLEX") 416, val := Value.int 32 415 } :: { hash := PyData.keyHash P (Str.ofString "LEFTSHIFT"), key := Value.str (Str.ofString "LEFTSHIFT") 418, val := Value.int 33 417 } :: { hash := PyData.keyHash P (Str.ofString "RIGHTSHIFT"), key := Value.str (Str.ofString "RIGHTSHIFT") 420, val := Value.int 34 419 } :: { hash := PyData.keyHash P (Str.ofString "DOUBLESTAR"), key := Value.str (Str.ofString "DOUBLESTAR") 422, val := Value.int 35 421 } :: { hash := PyData.keyHash P (Str.ofString "PLUSEQUAL"), key := Value.str (Str.ofString "PLUSEQUAL") 424, val := Value.int 36 423 } :: { hash := PyData.keyHash P (Str.ofString "MINEQUAL"), key := Value.str (Str.ofString "MINEQUAL") 426, val := Value.int 37 425 } :: { hash := PyData.keyHash P (Str.ofString "STAREQUAL"), key := Value.str (Str.ofString "STAREQUAL") 428, val := Value.int 38 427 } :: { hash := PyData.keyHash P (Str.ofString "SLASHEQUAL"), key := Value.str (Str.ofString "SLASHEQUAL") 430, val := Value.int 39 429 } :: { hash := PyData.keyHash P (Str.ofString "PERCENTEQUAL"), key := Value.str (Str.ofString "PERCENTEQUAL") 432, val := Value.int 40 431 } :: { hash := PyData.keyHash P (Str.ofString "AMPEREQUAL"), key := Value.str (Str.ofString "AMPEREQUAL") 434, val := Value.int 41 433 } :: { hash := PyData.keyHash P (Str.ofString "VBAREQUAL"), key := Value.str (Str.ofString "VBAREQUAL") 436, val := Value.int 42 435 } :: { hash := PyData.keyHash P (Str.ofString "CIRCUMFLEXEQUAL"), key := Value.str (Str.ofString "CIRCUMFLEXEQUAL") 438, val := Value.int 43 437 } :: { hash := PyData.keyHash P (Str.ofString "LEFTSHIFTEQUAL"), key := Value.str (Str.ofString "LEFTSHIFTEQUAL") 440, val := Value.int 44 439 } :: { hash := PyData.keyHash P (Str.ofString "RIGHTSHIFTEQUAL"), key := Value.str (Str.ofString "RIGHTSHIFTEQUAL") 442, val := Value.int 45 441 } :: { hash := PyData.keyHash P (Str.ofString "DOUBLESTAREQUAL"), key := Value.str (Str.ofString "DOUBLESTAREQUAL") 444, val := Value.int 46 443 } :: { hash := PyData.keyHash P (Str.ofString "DOUBLESLASH"), key := Value.str (Str.ofString "DOUBLESLASH") 446, val := Value.int 47 445 } :: { hash := PyData.keyHash P (Str.ofString "DOUBLESLASHEQUAL"), key := Value.str (Str.ofString "DOUBLESLASHEQUAL") 448, val := Value.int 48 447 } :: { hash := PyData.keyHash P (Str.ofString "AT"), key := Value.str (Str.ofString "AT") 450, val := Value.int 49 449 } :: { hash := PyData.keyHash P (Str.ofString "ATEQUAL"), key := Value.str (Str.ofString "ATEQUAL") 452, val := Value.int 50 451 } :: { hash := PyData.keyHash P (Str.ofString "RARROW"), key := Value.str (Str.ofString "RARROW") 454, val := Value.int 51 453 } :: { hash := PyData.keyHash P (Str.ofString "ELLIPSIS"), key := Value.str (Str.ofString "ELLIPSIS") 456, val := Value.int 52 455 } :: { hash := PyData.keyHash P (Str.ofString "COLONEQUAL"), key := Value.str (Str.ofString "COLONEQUAL") 458, val := Value.int 53 457 } :: { hash := PyData.keyHash P (Str.ofString "EXCLAMATION"), key := Value.str (Str.ofString "EXCLAMATION") 460, val := Value.int 54 459 } :: { hash := PyData.keyHash P (Str.ofString "NT_OFFSET"), key := Value.str (Str.ofString "NT_OFFSET") 462, val := Value.int 256 461 } :: { hash := PyData.keyHash P (Str.ofString "EXACT_TOKEN_TYPES"), key := Value.str (Str.ofString "EXACT_TOKEN_TYPES") 559, val := Value.ref 144 } :: { hash := PyData.keyHash P (Str.ofString "ISNONTERMINAL"), key := Value.str (Str.ofString "ISNONTERMINAL") 566, val := Value.ref 153 } :: { hash := PyData.keyHash P (Str.ofString "_law_told"), key := Value.str (Str.ofString "_law_told") 577, val := Value.ref 160 } :: { hash := PyData.keyHash P (Str.ofString "_law_leads"), key := Value.str (Str.ofString "_law_leads") 588, val := Value.ref 167 } :: { hash := PyData.keyHash P (Str.ofString "_law_sign"), key := Value.str (Str.ofString "_law_sign") 596, val := Value.ref 174 } :: { hash := PyData.keyHash P (Str.ofString "_law_classes"), key := Value.str (Str.ofString "_law_classes") 607, val := Value.ref 181 } :: { hash := PyData.keyHash P (Str.ofString "_law_agree"), key := Value.str (Str.ofString "_law_agree") 613, val := Value.ref 186 } :: { hash := PyData.keyHash P (Str.ofString "_law_ruler"), key := Value.str (Str.ofString "_law_ruler") 623, val := Value.ref 193 } :: { hash := PyData.keyHash P (Str.ofString "law"), key := Value.str (Str.ofString "law") 629, val := Value.ref 198 } :: [])) 78 }
noncomputable def o11 (P : Params) : Obj := { cls := Value.type "tuple", data := Data.seq #[] }
noncomputable def o12 (P : Params) : Obj := { cls := Value.none, data := Data.fields #[Value.int 1 0, Value.int 0 0, Value.ref 20, Value.int 5 0, Value.int 0 0, Value.ref 27, Value.int 54 0, Value.int 0 0, Value.ref 93, Value.int 67 0, Value.int 0 0, Value.ref 100, Value.int 69 0, Value.int 0 0, Value.ref 107, Value.int 71 0, Value.int 0 0, Value.ref 114, Value.int 73 0, Value.int 0 0, Value.ref 121, Value.int 75 0, Value.int 0 0, Value.ref 128, Value.int 77 0, Value.int 0 0, Value.ref 135, Value.int 79 0, Value.int 0 0, Value.ref 142, Value.int 132 0, Value.int 0 0, Value.ref 152, Value.int 135 0, Value.int 0 0, Value.ref 159, Value.int 142 0, Value.int 0 0, Value.ref 166, Value.int 150 0, Value.int 0 0, Value.ref 173, Value.int 154 0, Value.int 0 0, Value.ref 180, Value.int 163 0, Value.int 0 0, Value.ref 185, Value.int 182 0, Value.int 0 0, Value.ref 192, Value.int 188 0, Value.int 0 0, Value.ref 197] }
noncomputable def o13 (P : Params) : Obj := { cls := Value.type "code", data := Data.fields #[Value.str (Str.ofString "<module>") 182, Value.str (Str.ofString "<module>") 183, Value.str (Str.ofString "/claim/cut.py") 184, Value.int 1 0, Value.int 0 0, Value.int 0 0, Value.int 0 0, Value.int 0 0, Value.ref 11, Value.bool false, Value.int 181 0, Value.ref 12, Value.none, Value.none, Value.none, Value.none, Value.int 185 0, Value.int 1 0, Value.str (Str.ofString "/claim/cut.py") 186] }
noncomputable def o14 (P : Params) : Obj := { cls := Value.type "frame", slots := #[some (Value.ref 13), some (Value.ref 3), some (Value.ref 3), none, some (Value.str (Str.ofString "__main__") 164), none, some (Value.ref 0)] }
noncomputable def o15 (P : Params) : Obj := { cls := Value.type "tuple", data := Data.seq #[] }
noncomputable def o16 (P : Params) : Obj := { cls := Value.none, data := Data.fields #[] }
noncomputable def o17 (P : Params) : Obj := { cls := Value.type "tuple", data := Data.seq #[Value.str (Str.ofString "k") 190] }
noncomputable def o18 (P : Params) : Obj := { cls := Value.type "tuple", data := Data.seq #[] }
noncomputable def o19 (_P : Params) : Obj := mkFn (l := PB) (i := 0) rfl fun p b s => { cls := Value.none, data := Data.func { name := Str.ofString "_wall", qualname := Str.ofString "_wall", params := p, body := FuncBody.stmts b, scope := s, globals := 0, closure := [], defaults := Value.none, kwdefaults := Value.none } } 
noncomputable def o20 (P : Params) : Obj := { cls := Value.type "code", data := Data.fields #[Value.str (Str.ofString "_wall") 187, Value.str (Str.ofString "_wall") 188, Value.str (Str.ofString "/claim/cut.py") 189, Value.int 1 0, Value.int 1 0, Value.int 0 0, Value.int 0 0, Value.int 3 0, Value.ref 15, Value.bool true, Value.int 181 0, Value.ref 16, Value.none, Value.ref 17, Value.ref 18, Value.ref 19, Value.int 191 0, Value.int 1 0, Value.str (Str.ofString "/claim/cut.py") 192] }
noncomputable def o21 (_P : Params) : Obj := mkFn (l := PB) (i := 0) rfl fun p b s => { cls := Value.type "function", data := Data.func { name := Str.ofString "_wall", qualname := Str.ofString "_wall", params := p, body := FuncBody.stmts b, scope := s, globals := 3, closure := [], defaults := Value.none, kwdefaults := Value.none, pyModule := Value.str (Str.ofString "__main__") 164, code := Value.ref 20 } } 
noncomputable def o22 (P : Params) : Obj := { cls := Value.type "tuple", data := Data.seq #[] }
noncomputable def o23 (P : Params) : Obj := { cls := Value.type "builtin_function_or_method", data := Data.fields #[Value.builtin "type.__prepare__", Value.type "type"] }
noncomputable def o24 (P : Params) : Obj := { cls := Value.type "dict", data := Data.dict #[{ hash := PyData.keyHash P (Str.ofString "__module__"), key := Value.str (Str.ofString "__module__") 203, val := Value.str (Str.ofString "cpy313.tabnanny") 194 }, { hash := PyData.keyHash P (Str.ofString "__qualname__"), key := Value.str (Str.ofString "__qualname__") 205, val := Value.str (Str.ofString "Whitespace") 204 }, { hash := PyData.keyHash P (Str.ofString "__firstlineno__"), key := Value.str (Str.ofString "__firstlineno__") 207, val := Value.int 5 206 }, { hash := PyData.keyHash P (Str.ofString "S"), key := Value.str (Str.ofString "S") 211, val := Value.str (Str.ofString " ") 209 }, { hash := PyData.keyHash P (Str.ofString "T"), key := Value.str (Str.ofString "T") 212, val := Value.str (Str.ofString "\t") 210 }, { hash := PyData.keyHash P (Str.ofString "__init__"), key := Value.str (Str.ofString "__init__") 227, val := Value.ref 38 }, { hash := PyData.keyHash P (Str.ofString "longest_run_of_spaces"), key := Value.str (Str.ofString "longest_run_of_spaces") 234, val := Value.ref 45 }, { hash := PyData.keyHash P (Str.ofString "indent_level"), key := Value.str (Str.ofString "indent_level") 246, val := Value.ref 52 }, { hash := PyData.keyHash P (Str.ofString "equal"), key := Value.str (Str.ofString "equal") 254, val := Value.ref 59 }, { hash := PyData.keyHash P (Str.ofString "not_equal_witness"), key := Value.str (Str.ofString "not_equal_witness") 262, val := Value.ref 66 }, { hash := PyData.keyHash P (Str.ofString "less"), key := Value.str (Str.ofString "less") 270, val := Value.ref 73 }, { hash := PyData.keyHash P (Str.ofString "not_less_witness"), key := Value.str (Str.ofString "not_less_witness") 278, val := Value.ref 80 }, { hash := PyData.keyHash P (Str.ofString "__static_attributes__"), key := Value.str (Str.ofString "__static_attributes__") 284, val := Value.ref 81 }] 13 }
noncomputable def o25 (P : Params) : Obj := { cls := Value.type "tuple", data := Data.seq #[] }
noncomputable def o26 (P : Params) : Obj := { cls := Value.none, data := Data.fields #[Value.int 8 0, Value.int 4 0, Value.ref 37, Value.int 31 0, Value.int 4 0, Value.ref 44, Value.int 34 0, Value.int 4 0, Value.ref 51, Value.int 41 0, Value.int 4 0, Value.ref 58, Value.int 44 0, Value.int 4 0, Value.ref 65, Value.int 47 0, Value.int 4 0, Value.ref 72, Value.int 50 0, Value.int 4 0, Value.ref 79] }
noncomputable def o27 (P : Params) : Obj := { cls := Value.type "code", data := Data.fields #[Value.str (Str.ofString "Whitespace") 198, Value.str (Str.ofString "Whitespace") 199, Value.str (Str.ofString "/claim/cut.py") 200, Value.int 5 0, Value.int 0 0, Value.int 0 0, Value.int 0 0, Value.int 0 0, Value.ref 25, Value.bool false, Value.int 181 0, Value.ref 26, Value.none, Value.none, Value.none, Value.none, Value.int 201 0, Value.int 5 0, Value.str (Str.ofString "/claim/cut.py") 202] }
noncomputable def o28 (P : Params) : Obj := { cls := Value.type "frame", slots := #[some (Value.ref 27), some (Value.ref 3), some (Value.ref 24), none, some (Value.str (Str.ofString "cpy313.tabnanny") 194), none, some (Value.ref 0)] }
noncomputable def o29 (P : Params) : Obj := { cls := Value.type "str_ascii_iterator", data := Data.fields #[Value.none, Value.int 2 0] }
noncomputable def o30 (P : Params) : Obj := { cls := Value.type "tuple", data := Data.seq #[] }
noncomputable def o31 (P : Params) : Obj := { cls := Value.type "StopIteration", data := Data.fields #[Value.ref 30, Value.none, Value.none, Value.none, Value.bool false, Value.none] }
noncomputable def o32 (P : Params) : Obj := { cls := Value.type "tuple", data := Data.seq #[] }
noncomputable def o33 (P : Params) : Obj := { cls := Value.none, data := Data.fields #[] }
noncomputable def o34 (P : Params) : Obj := { cls := Value.type "tuple", data := Data.seq #[Value.str (Str.ofString "self") 216, Value.str (Str.ofString "ws") 217, Value.str (Str.ofString "S") 218, Value.str (Str.ofString "T") 219, Value.str (Str.ofString "count") 220, Value.str (Str.ofString "b") 221, Value.str (Str.ofString "n") 222, Value.str (Str.ofString "nt") 223, Value.str (Str.ofString "ch") 224] }
noncomputable def o35 (P : Params) : Obj := { cls := Value.type "tuple", data := Data.seq #[] }
noncomputable def o36 (_P : Params) : Obj := mkFn (l := (clsB 2)) (i := 1) rfl fun p b s => { cls := Value.none, data := Data.func { name := Str.ofString "__init__", qualname := Str.ofString "Whitespace.__init__", params := p, body := FuncBody.stmts b, scope := s, globals := 0, closure := [], defaults := Value.none, kwdefaults := Value.none } } 
noncomputable def o37 (P : Params) : Obj := { cls := Value.type "code", data := Data.fields #[Value.str (Str.ofString "__init__") 213, Value.str (Str.ofString "Whitespace.__init__") 214, Value.str (Str.ofString "/claim/cut.py") 215, Value.int 8 0, Value.int 2 0, Value.int 0 0, Value.int 0 0, Value.int 3 0, Value.ref 32, Value.bool true, Value.int 181 0, Value.ref 33, Value.none, Value.ref 34, Value.ref 35, Value.ref 36, Value.int 225 0, Value.int 8 0, Value.str (Str.ofString "/claim/cut.py") 226] }
noncomputable def o38 (_P : Params) : Obj := mkFn (l := (clsB 2)) (i := 1) rfl fun p b s => { cls := Value.type "function", data := Data.func { name := Str.ofString "__init__", qualname := Str.ofString "Whitespace.__init__", params := p, body := FuncBody.stmts b, scope := s, globals := 3, closure := [], defaults := Value.none, kwdefaults := Value.none, pyModule := Value.str (Str.ofString "cpy313.tabnanny") 194, code := Value.ref 37 } } 
noncomputable def o39 (P : Params) : Obj := { cls := Value.type "tuple", data := Data.seq #[] }
noncomputable def o40 (P : Params) : Obj := { cls := Value.none, data := Data.fields #[] }
noncomputable def o41 (P : Params) : Obj := { cls := Value.type "tuple", data := Data.seq #[Value.str (Str.ofString "self") 231] }
noncomputable def o42 (P : Params) : Obj := { cls := Value.type "tuple", data := Data.seq #[] }
noncomputable def o43 (_P : Params) : Obj := mkFn (l := (clsB 2)) (i := 2) rfl fun p b s => { cls := Value.none, data := Data.func { name := Str.ofString "longest_run_of_spaces", qualname := Str.ofString "Whitespace.longest_run_of_spaces", params := p, body := FuncBody.stmts b, scope := s, globals := 0, closure := [], defaults := Value.none, kwdefaults := Value.none } } 
noncomputable def o44 (P : Params) : Obj := { cls := Value.type "code", data := Data.fields #[Value.str (Str.ofString "longest_run_of_spaces") 228, Value.str (Str.ofString "Whitespace.longest_run_of_spaces") 229, Value.str (Str.ofString "/claim/cut.py") 230, Value.int 31 0, Value.int 1 0, Value.int 0 0, Value.int 0 0, Value.int 3 0, Value.ref 39, Value.bool true, Value.int 181 0, Value.ref 40, Value.none, Value.ref 41, Value.ref 42, Value.ref 43, Value.int 232 0, Value.int 31 0, Value.str (Str.ofString "/claim/cut.py") 233] }
noncomputable def o45 (_P : Params) : Obj := mkFn (l := (clsB 2)) (i := 2) rfl fun p b s => { cls := Value.type "function", data := Data.func { name := Str.ofString "longest_run_of_spaces", qualname := Str.ofString "Whitespace.longest_run_of_spaces", params := p, body := FuncBody.stmts b, scope := s, globals := 3, closure := [], defaults := Value.none, kwdefaults := Value.none, pyModule := Value.str (Str.ofString "cpy313.tabnanny") 194, code := Value.ref 44 } } 
noncomputable def o46 (P : Params) : Obj := { cls := Value.type "tuple", data := Data.seq #[] }
noncomputable def o47 (P : Params) : Obj := { cls := Value.none, data := Data.fields #[] }
noncomputable def o48 (P : Params) : Obj := { cls := Value.type "tuple", data := Data.seq #[Value.str (Str.ofString "self") 238, Value.str (Str.ofString "tabsize") 239, Value.str (Str.ofString "count") 240, Value.str (Str.ofString "trailing") 241, Value.str (Str.ofString "il") 242, Value.str (Str.ofString "i") 243] }
noncomputable def o49 (P : Params) : Obj := { cls := Value.type "tuple", data := Data.seq #[] }
noncomputable def o50 (_P : Params) : Obj := mkFn (l := (clsB 2)) (i := 3) rfl fun p b s => { cls := Value.none, data := Data.func { name := Str.ofString "indent_level", qualname := Str.ofString "Whitespace.indent_level", params := p, body := FuncBody.stmts b, scope := s, globals := 0, closure := [], defaults := Value.none, kwdefaults := Value.none } } 
noncomputable def o51 (P : Params) : Obj := { cls := Value.type "code", data := Data.fields #[Value.str (Str.ofString "indent_level") 235, Value.str (Str.ofString "Whitespace.indent_level") 236, Value.str (Str.ofString "/claim/cut.py") 237, Value.int 34 0, Value.int 2 0, Value.int 0 0, Value.int 0 0, Value.int 3 0, Value.ref 46, Value.bool true, Value.int 181 0, Value.ref 47, Value.none, Value.ref 48, Value.ref 49, Value.ref 50, Value.int 244 0, Value.int 34 0, Value.str (Str.ofString "/claim/cut.py") 245] }
noncomputable def o52 (_P : Params) : Obj := mkFn (l := (clsB 2)) (i := 3) rfl fun p b s => { cls := Value.type "function", data := Data.func { name := Str.ofString "indent_level", qualname := Str.ofString "Whitespace.indent_level", params := p, body := FuncBody.stmts b, scope := s, globals := 3, closure := [], defaults := Value.none, kwdefaults := Value.none, pyModule := Value.str (Str.ofString "cpy313.tabnanny") 194, code := Value.ref 51 } } 
noncomputable def o53 (P : Params) : Obj := { cls := Value.type "tuple", data := Data.seq #[] }
noncomputable def o54 (P : Params) : Obj := { cls := Value.none, data := Data.fields #[] }
noncomputable def o55 (P : Params) : Obj := { cls := Value.type "tuple", data := Data.seq #[Value.str (Str.ofString "self") 250, Value.str (Str.ofString "other") 251] }
noncomputable def o56 (P : Params) : Obj := { cls := Value.type "tuple", data := Data.seq #[] }
noncomputable def o57 (_P : Params) : Obj := mkFn (l := (clsB 2)) (i := 4) rfl fun p b s => { cls := Value.none, data := Data.func { name := Str.ofString "equal", qualname := Str.ofString "Whitespace.equal", params := p, body := FuncBody.stmts b, scope := s, globals := 0, closure := [], defaults := Value.none, kwdefaults := Value.none } } 
noncomputable def o58 (P : Params) : Obj := { cls := Value.type "code", data := Data.fields #[Value.str (Str.ofString "equal") 247, Value.str (Str.ofString "Whitespace.equal") 248, Value.str (Str.ofString "/claim/cut.py") 249, Value.int 41 0, Value.int 2 0, Value.int 0 0, Value.int 0 0, Value.int 3 0, Value.ref 53, Value.bool true, Value.int 181 0, Value.ref 54, Value.none, Value.ref 55, Value.ref 56, Value.ref 57, Value.int 252 0, Value.int 41 0, Value.str (Str.ofString "/claim/cut.py") 253] }
noncomputable def o59 (_P : Params) : Obj := mkFn (l := (clsB 2)) (i := 4) rfl fun p b s => { cls := Value.type "function", data := Data.func { name := Str.ofString "equal", qualname := Str.ofString "Whitespace.equal", params := p, body := FuncBody.stmts b, scope := s, globals := 3, closure := [], defaults := Value.none, kwdefaults := Value.none, pyModule := Value.str (Str.ofString "cpy313.tabnanny") 194, code := Value.ref 58 } } 
noncomputable def o60 (P : Params) : Obj := { cls := Value.type "tuple", data := Data.seq #[] }
noncomputable def o61 (P : Params) : Obj := { cls := Value.none, data := Data.fields #[] }
noncomputable def o62 (P : Params) : Obj := { cls := Value.type "tuple", data := Data.seq #[Value.str (Str.ofString "self") 258, Value.str (Str.ofString "other") 259] }
noncomputable def o63 (P : Params) : Obj := { cls := Value.type "tuple", data := Data.seq #[] }
noncomputable def o64 (_P : Params) : Obj := mkFn (l := (clsB 2)) (i := 5) rfl fun p b s => { cls := Value.none, data := Data.func { name := Str.ofString "not_equal_witness", qualname := Str.ofString "Whitespace.not_equal_witness", params := p, body := FuncBody.stmts b, scope := s, globals := 0, closure := [], defaults := Value.none, kwdefaults := Value.none } } 
noncomputable def o65 (P : Params) : Obj := { cls := Value.type "code", data := Data.fields #[Value.str (Str.ofString "not_equal_witness") 255, Value.str (Str.ofString "Whitespace.not_equal_witness") 256, Value.str (Str.ofString "/claim/cut.py") 257, Value.int 44 0, Value.int 2 0, Value.int 0 0, Value.int 0 0, Value.int 3 0, Value.ref 60, Value.bool true, Value.int 181 0, Value.ref 61, Value.none, Value.ref 62, Value.ref 63, Value.ref 64, Value.int 260 0, Value.int 44 0, Value.str (Str.ofString "/claim/cut.py") 261] }
noncomputable def o66 (_P : Params) : Obj := mkFn (l := (clsB 2)) (i := 5) rfl fun p b s => { cls := Value.type "function", data := Data.func { name := Str.ofString "not_equal_witness", qualname := Str.ofString "Whitespace.not_equal_witness", params := p, body := FuncBody.stmts b, scope := s, globals := 3, closure := [], defaults := Value.none, kwdefaults := Value.none, pyModule := Value.str (Str.ofString "cpy313.tabnanny") 194, code := Value.ref 65 } } 
noncomputable def o67 (P : Params) : Obj := { cls := Value.type "tuple", data := Data.seq #[] }
noncomputable def o68 (P : Params) : Obj := { cls := Value.none, data := Data.fields #[] }
noncomputable def o69 (P : Params) : Obj := { cls := Value.type "tuple", data := Data.seq #[Value.str (Str.ofString "self") 266, Value.str (Str.ofString "other") 267] }
noncomputable def o70 (P : Params) : Obj := { cls := Value.type "tuple", data := Data.seq #[] }
noncomputable def o71 (_P : Params) : Obj := mkFn (l := (clsB 2)) (i := 6) rfl fun p b s => { cls := Value.none, data := Data.func { name := Str.ofString "less", qualname := Str.ofString "Whitespace.less", params := p, body := FuncBody.stmts b, scope := s, globals := 0, closure := [], defaults := Value.none, kwdefaults := Value.none } } 
noncomputable def o72 (P : Params) : Obj := { cls := Value.type "code", data := Data.fields #[Value.str (Str.ofString "less") 263, Value.str (Str.ofString "Whitespace.less") 264, Value.str (Str.ofString "/claim/cut.py") 265, Value.int 47 0, Value.int 2 0, Value.int 0 0, Value.int 0 0, Value.int 3 0, Value.ref 67, Value.bool true, Value.int 181 0, Value.ref 68, Value.none, Value.ref 69, Value.ref 70, Value.ref 71, Value.int 268 0, Value.int 47 0, Value.str (Str.ofString "/claim/cut.py") 269] }
noncomputable def o73 (_P : Params) : Obj := mkFn (l := (clsB 2)) (i := 6) rfl fun p b s => { cls := Value.type "function", data := Data.func { name := Str.ofString "less", qualname := Str.ofString "Whitespace.less", params := p, body := FuncBody.stmts b, scope := s, globals := 3, closure := [], defaults := Value.none, kwdefaults := Value.none, pyModule := Value.str (Str.ofString "cpy313.tabnanny") 194, code := Value.ref 72 } } 
noncomputable def o74 (P : Params) : Obj := { cls := Value.type "tuple", data := Data.seq #[] }
noncomputable def o75 (P : Params) : Obj := { cls := Value.none, data := Data.fields #[] }
noncomputable def o76 (P : Params) : Obj := { cls := Value.type "tuple", data := Data.seq #[Value.str (Str.ofString "self") 274, Value.str (Str.ofString "other") 275] }
noncomputable def o77 (P : Params) : Obj := { cls := Value.type "tuple", data := Data.seq #[] }
noncomputable def o78 (_P : Params) : Obj := mkFn (l := (clsB 2)) (i := 7) rfl fun p b s => { cls := Value.none, data := Data.func { name := Str.ofString "not_less_witness", qualname := Str.ofString "Whitespace.not_less_witness", params := p, body := FuncBody.stmts b, scope := s, globals := 0, closure := [], defaults := Value.none, kwdefaults := Value.none } } 
noncomputable def o79 (P : Params) : Obj := { cls := Value.type "code", data := Data.fields #[Value.str (Str.ofString "not_less_witness") 271, Value.str (Str.ofString "Whitespace.not_less_witness") 272, Value.str (Str.ofString "/claim/cut.py") 273, Value.int 50 0, Value.int 2 0, Value.int 0 0, Value.int 0 0, Value.int 3 0, Value.ref 74, Value.bool true, Value.int 181 0, Value.ref 75, Value.none, Value.ref 76, Value.ref 77, Value.ref 78, Value.int 276 0, Value.int 50 0, Value.str (Str.ofString "/claim/cut.py") 277] }
noncomputable def o80 (_P : Params) : Obj := mkFn (l := (clsB 2)) (i := 7) rfl fun p b s => { cls := Value.type "function", data := Data.func { name := Str.ofString "not_less_witness", qualname := Str.ofString "Whitespace.not_less_witness", params := p, body := FuncBody.stmts b, scope := s, globals := 3, closure := [], defaults := Value.none, kwdefaults := Value.none, pyModule := Value.str (Str.ofString "cpy313.tabnanny") 194, code := Value.ref 79 } } 
noncomputable def o81 (P : Params) : Obj := { cls := Value.type "tuple", data := Data.seq #[Value.str (Str.ofString "is_simple") 279, Value.str (Str.ofString "n") 280, Value.str (Str.ofString "norm") 281, Value.str (Str.ofString "nt") 282, Value.str (Str.ofString "raw") 283] }
noncomputable def o82 (P : Params) : Obj := { cls := Value.type "dict", data := Data.dict #[{ hash := PyData.keyHash P (Str.ofString "__module__"), key := Value.str (Str.ofString "__module__") 203, val := Value.str (Str.ofString "cpy313.tabnanny") 194 }, { hash := PyData.keyHash P (Str.ofString "__firstlineno__"), key := Value.str (Str.ofString "__firstlineno__") 207, val := Value.int 5 206 }, { hash := PyData.keyHash P (Str.ofString "S"), key := Value.str (Str.ofString "S") 211, val := Value.str (Str.ofString " ") 209 }, { hash := PyData.keyHash P (Str.ofString "T"), key := Value.str (Str.ofString "T") 212, val := Value.str (Str.ofString "\t") 210 }, { hash := PyData.keyHash P (Str.ofString "__init__"), key := Value.str (Str.ofString "__init__") 227, val := Value.ref 38 }, { hash := PyData.keyHash P (Str.ofString "longest_run_of_spaces"), key := Value.str (Str.ofString "longest_run_of_spaces") 234, val := Value.ref 45 }, { hash := PyData.keyHash P (Str.ofString "indent_level"), key := Value.str (Str.ofString "indent_level") 246, val := Value.ref 52 }, { hash := PyData.keyHash P (Str.ofString "equal"), key := Value.str (Str.ofString "equal") 254, val := Value.ref 59 }, { hash := PyData.keyHash P (Str.ofString "not_equal_witness"), key := Value.str (Str.ofString "not_equal_witness") 262, val := Value.ref 66 }, { hash := PyData.keyHash P (Str.ofString "less"), key := Value.str (Str.ofString "less") 270, val := Value.ref 73 }, { hash := PyData.keyHash P (Str.ofString "not_less_witness"), key := Value.str (Str.ofString "not_less_witness") 278, val := Value.ref 80 }, { hash := PyData.keyHash P (Str.ofString "__static_attributes__"), key := Value.str (Str.ofString "__static_attributes__") 284, val := Value.ref 81 }, { hash := PyData.keyHash P (Str.ofString "__dict__"), key := Value.str (Str.ofString "__dict__") 286, val := Value.ref 84 }, { hash := PyData.keyHash P (Str.ofString "__weakref__"), key := Value.str (Str.ofString "__weakref__") 288, val := Value.ref 85 }, { hash := PyData.keyHash P (Str.ofString "__doc__"), key := Value.str (Str.ofString "__doc__") 289, val := Value.none }] 4 }
noncomputable def o83 (P : Params) : Obj := { cls := Value.type "type", data := Data.cls { name := Str.ofString "Whitespace", bases := [Value.type "object"], mro := [Value.ref 83, Value.type "object"], ns := 82, qualname := Str.ofString "Whitespace" }, slots := #[none, none, some (Value.str (Str.ofString "Whitespace") 196), some (Value.str (Str.ofString "Whitespace") 204), some (Value.builtin "object.__new__"), some (Value.bool true)] }
noncomputable def o84 (P : Params) : Obj := { cls := Value.type "getset_descriptor", data := Data.fields #[Value.str (Str.ofString "__dict__") 285, Value.ref 83, Value.builtin "function.__dict__", Value.builtin "function.__dict__#set"] }
noncomputable def o85 (P : Params) : Obj := { cls := Value.type "getset_descriptor", data := Data.fields #[Value.str (Str.ofString "__weakref__") 287, Value.ref 83, Value.builtin "ExceptionGroup.__weakref__", Value.none] }
noncomputable def o86 (P : Params) : Obj := { cls := Value.type "super", data := Data.fields #[Value.ref 83, Value.ref 83, Value.ref 83] }
noncomputable def o87 (P : Params) : Obj := { cls := Value.type "builtin_function_or_method", data := Data.fields #[Value.builtin "object.__init_subclass__", Value.ref 83] }
noncomputable def o88 (P : Params) : Obj := { cls := Value.type "tuple", data := Data.seq #[] }
noncomputable def o89 (P : Params) : Obj := { cls := Value.none, data := Data.fields #[] }
noncomputable def o90 (P : Params) : Obj := { cls := Value.type "tuple", data := Data.seq #[Value.str (Str.ofString "grouping") 299, Value.str (Str.ofString "last_interval") 300, Value.str (Str.ofString "interval") 301] }
noncomputable def o91 (P : Params) : Obj := { cls := Value.type "tuple", data := Data.seq #[] }
noncomputable def o92 (_P : Params) : Obj := mkFn (l := PB) (i := 5) rfl fun p b s => { cls := Value.none, data := Data.func { name := Str.ofString "_grouping_intervals", qualname := Str.ofString "_grouping_intervals", params := p, body := FuncBody.stmts b, scope := s, globals := 0, closure := [], defaults := Value.none, kwdefaults := Value.none } } 
noncomputable def o93 (P : Params) : Obj := { cls := Value.type "code", data := Data.fields #[Value.str (Str.ofString "_grouping_intervals") 296, Value.str (Str.ofString "_grouping_intervals") 297, Value.str (Str.ofString "/claim/cut.py") 298, Value.int 54 0, Value.int 1 0, Value.int 0 0, Value.int 0 0, Value.int 35 0, Value.ref 88, Value.bool true, Value.int 181 0, Value.ref 89, Value.none, Value.ref 90, Value.ref 91, Value.ref 92, Value.int 302 0, Value.int 54 0, Value.str (Str.ofString "/claim/cut.py") 303] }
noncomputable def o94 (_P : Params) : Obj := mkFn (l := PB) (i := 5) rfl fun p b s => { cls := Value.type "function", data := Data.func { name := Str.ofString "_grouping_intervals", qualname := Str.ofString "_grouping_intervals", params := p, body := FuncBody.stmts b, scope := s, globals := 3, closure := [], defaults := Value.none, kwdefaults := Value.none, pyModule := Value.str (Str.ofString "cpy313.locale") 292, code := Value.ref 93 } } 
noncomputable def o95 (P : Params) : Obj := { cls := Value.type "tuple", data := Data.seq #[] }
noncomputable def o96 (P : Params) : Obj := { cls := Value.none, data := Data.fields #[] }
noncomputable def o97 (P : Params) : Obj := { cls := Value.type "tuple", data := Data.seq #[Value.str (Str.ofString "a") 310, Value.str (Str.ofString "b") 311] }
noncomputable def o98 (P : Params) : Obj := { cls := Value.type "tuple", data := Data.seq #[] }
noncomputable def o99 (_P : Params) : Obj := mkFn (l := PB) (i := 7) rfl fun p b s => { cls := Value.none, data := Data.func { name := Str.ofString "add", qualname := Str.ofString "add", params := p, body := FuncBody.stmts b, scope := s, globals := 0, closure := [], defaults := Value.none, kwdefaults := Value.none } } 
noncomputable def o100 (P : Params) : Obj := { cls := Value.type "code", data := Data.fields #[Value.str (Str.ofString "add") 307, Value.str (Str.ofString "add") 308, Value.str (Str.ofString "/claim/cut.py") 309, Value.int 67 0, Value.int 2 0, Value.int 0 0, Value.int 0 0, Value.int 3 0, Value.ref 95, Value.bool true, Value.int 181 0, Value.ref 96, Value.none, Value.ref 97, Value.ref 98, Value.ref 99, Value.int 312 0, Value.int 67 0, Value.str (Str.ofString "/claim/cut.py") 313] }
noncomputable def o101 (_P : Params) : Obj := mkFn (l := PB) (i := 7) rfl fun p b s => { cls := Value.type "function", data := Data.func { name := Str.ofString "add", qualname := Str.ofString "add", params := p, body := FuncBody.stmts b, scope := s, globals := 3, closure := [], defaults := Value.none, kwdefaults := Value.none, pyModule := Value.str (Str.ofString "cpy313.operator") 305, code := Value.ref 100 } } 
noncomputable def o102 (P : Params) : Obj := { cls := Value.type "tuple", data := Data.seq #[] }
noncomputable def o103 (P : Params) : Obj := { cls := Value.none, data := Data.fields #[] }
noncomputable def o104 (P : Params) : Obj := { cls := Value.type "tuple", data := Data.seq #[Value.str (Str.ofString "a") 318, Value.str (Str.ofString "b") 319] }
noncomputable def o105 (P : Params) : Obj := { cls := Value.type "tuple", data := Data.seq #[] }
noncomputable def o106 (_P : Params) : Obj := mkFn (l := PB) (i := 8) rfl fun p b s => { cls := Value.none, data := Data.func { name := Str.ofString "floordiv", qualname := Str.ofString "floordiv", params := p, body := FuncBody.stmts b, scope := s, globals := 0, closure := [], defaults := Value.none, kwdefaults := Value.none } } 
noncomputable def o107 (P : Params) : Obj := { cls := Value.type "code", data := Data.fields #[Value.str (Str.ofString "floordiv") 315, Value.str (Str.ofString "floordiv") 316, Value.str (Str.ofString "/claim/cut.py") 317, Value.int 69 0, Value.int 2 0, Value.int 0 0, Value.int 0 0, Value.int 3 0, Value.ref 102, Value.bool true, Value.int 181 0, Value.ref 103, Value.none, Value.ref 104, Value.ref 105, Value.ref 106, Value.int 320 0, Value.int 69 0, Value.str (Str.ofString "/claim/cut.py") 321] }
noncomputable def o108 (_P : Params) : Obj := mkFn (l := PB) (i := 8) rfl fun p b s => { cls := Value.type "function", data := Data.func { name := Str.ofString "floordiv", qualname := Str.ofString "floordiv", params := p, body := FuncBody.stmts b, scope := s, globals := 3, closure := [], defaults := Value.none, kwdefaults := Value.none, pyModule := Value.str (Str.ofString "cpy313.operator") 305, code := Value.ref 107 } } 
noncomputable def o109 (P : Params) : Obj := { cls := Value.type "tuple", data := Data.seq #[] }
noncomputable def o110 (P : Params) : Obj := { cls := Value.none, data := Data.fields #[] }
noncomputable def o111 (P : Params) : Obj := { cls := Value.type "tuple", data := Data.seq #[Value.str (Str.ofString "a") 326, Value.str (Str.ofString "b") 327] }
noncomputable def o112 (P : Params) : Obj := { cls := Value.type "tuple", data := Data.seq #[] }
noncomputable def o113 (_P : Params) : Obj := mkFn (l := PB) (i := 9) rfl fun p b s => { cls := Value.none, data := Data.func { name := Str.ofString "mod", qualname := Str.ofString "mod", params := p, body := FuncBody.stmts b, scope := s, globals := 0, closure := [], defaults := Value.none, kwdefaults := Value.none } } 
noncomputable def o114 (P : Params) : Obj := { cls := Value.type "code", data := Data.fields #[Value.str (Str.ofString "mod") 323, Value.str (Str.ofString "mod") 324, Value.str (Str.ofString "/claim/cut.py") 325, Value.int 71 0, Value.int 2 0, Value.int 0 0, Value.int 0 0, Value.int 3 0, Value.ref 109, Value.bool true, Value.int 181 0, Value.ref 110, Value.none, Value.ref 111, Value.ref 112, Value.ref 113, Value.int 328 0, Value.int 71 0, Value.str (Str.ofString "/claim/cut.py") 329] }
noncomputable def o115 (_P : Params) : Obj := mkFn (l := PB) (i := 9) rfl fun p b s => { cls := Value.type "function", data := Data.func { name := Str.ofString "mod", qualname := Str.ofString "mod", params := p, body := FuncBody.stmts b, scope := s, globals := 3, closure := [], defaults := Value.none, kwdefaults := Value.none, pyModule := Value.str (Str.ofString "cpy313.operator") 305, code := Value.ref 114 } } 
noncomputable def o116 (P : Params) : Obj := { cls := Value.type "tuple", data := Data.seq #[] }
noncomputable def o117 (P : Params) : Obj := { cls := Value.none, data := Data.fields #[] }
noncomputable def o118 (P : Params) : Obj := { cls := Value.type "tuple", data := Data.seq #[Value.str (Str.ofString "a") 334, Value.str (Str.ofString "b") 335] }
noncomputable def o119 (P : Params) : Obj := { cls := Value.type "tuple", data := Data.seq #[] }
noncomputable def o120 (_P : Params) : Obj := mkFn (l := PB) (i := 10) rfl fun p b s => { cls := Value.none, data := Data.func { name := Str.ofString "mul", qualname := Str.ofString "mul", params := p, body := FuncBody.stmts b, scope := s, globals := 0, closure := [], defaults := Value.none, kwdefaults := Value.none } } 
noncomputable def o121 (P : Params) : Obj := { cls := Value.type "code", data := Data.fields #[Value.str (Str.ofString "mul") 331, Value.str (Str.ofString "mul") 332, Value.str (Str.ofString "/claim/cut.py") 333, Value.int 73 0, Value.int 2 0, Value.int 0 0, Value.int 0 0, Value.int 3 0, Value.ref 116, Value.bool true, Value.int 181 0, Value.ref 117, Value.none, Value.ref 118, Value.ref 119, Value.ref 120, Value.int 336 0, Value.int 73 0, Value.str (Str.ofString "/claim/cut.py") 337] }
noncomputable def o122 (_P : Params) : Obj := mkFn (l := PB) (i := 10) rfl fun p b s => { cls := Value.type "function", data := Data.func { name := Str.ofString "mul", qualname := Str.ofString "mul", params := p, body := FuncBody.stmts b, scope := s, globals := 3, closure := [], defaults := Value.none, kwdefaults := Value.none, pyModule := Value.str (Str.ofString "cpy313.operator") 305, code := Value.ref 121 } } 
noncomputable def o123 (P : Params) : Obj := { cls := Value.type "tuple", data := Data.seq #[] }
noncomputable def o124 (P : Params) : Obj := { cls := Value.none, data := Data.fields #[] }
noncomputable def o125 (P : Params) : Obj := { cls := Value.type "tuple", data := Data.seq #[Value.str (Str.ofString "a") 342, Value.str (Str.ofString "b") 343] }
noncomputable def o126 (P : Params) : Obj := { cls := Value.type "tuple", data := Data.seq #[] }
noncomputable def o127 (_P : Params) : Obj := mkFn (l := PB) (i := 11) rfl fun p b s => { cls := Value.none, data := Data.func { name := Str.ofString "sub", qualname := Str.ofString "sub", params := p, body := FuncBody.stmts b, scope := s, globals := 0, closure := [], defaults := Value.none, kwdefaults := Value.none } } 
noncomputable def o128 (P : Params) : Obj := { cls := Value.type "code", data := Data.fields #[Value.str (Str.ofString "sub") 339, Value.str (Str.ofString "sub") 340, Value.str (Str.ofString "/claim/cut.py") 341, Value.int 75 0, Value.int 2 0, Value.int 0 0, Value.int 0 0, Value.int 3 0, Value.ref 123, Value.bool true, Value.int 181 0, Value.ref 124, Value.none, Value.ref 125, Value.ref 126, Value.ref 127, Value.int 344 0, Value.int 75 0, Value.str (Str.ofString "/claim/cut.py") 345] }
noncomputable def o129 (_P : Params) : Obj := mkFn (l := PB) (i := 11) rfl fun p b s => { cls := Value.type "function", data := Data.func { name := Str.ofString "sub", qualname := Str.ofString "sub", params := p, body := FuncBody.stmts b, scope := s, globals := 3, closure := [], defaults := Value.none, kwdefaults := Value.none, pyModule := Value.str (Str.ofString "cpy313.operator") 305, code := Value.ref 128 } } 
noncomputable def o130 (P : Params) : Obj := { cls := Value.type "tuple", data := Data.seq #[] }
noncomputable def o131 (P : Params) : Obj := { cls := Value.none, data := Data.fields #[] }
noncomputable def o132 (P : Params) : Obj := { cls := Value.type "tuple", data := Data.seq #[Value.str (Str.ofString "a") 350, Value.str (Str.ofString "b") 351] }
noncomputable def o133 (P : Params) : Obj := { cls := Value.type "tuple", data := Data.seq #[] }
noncomputable def o134 (_P : Params) : Obj := mkFn (l := PB) (i := 12) rfl fun p b s => { cls := Value.none, data := Data.func { name := Str.ofString "contains", qualname := Str.ofString "contains", params := p, body := FuncBody.stmts b, scope := s, globals := 0, closure := [], defaults := Value.none, kwdefaults := Value.none } } 
noncomputable def o135 (P : Params) : Obj := { cls := Value.type "code", data := Data.fields #[Value.str (Str.ofString "contains") 347, Value.str (Str.ofString "contains") 348, Value.str (Str.ofString "/claim/cut.py") 349, Value.int 77 0, Value.int 2 0, Value.int 0 0, Value.int 0 0, Value.int 3 0, Value.ref 130, Value.bool true, Value.int 181 0, Value.ref 131, Value.none, Value.ref 132, Value.ref 133, Value.ref 134, Value.int 352 0, Value.int 77 0, Value.str (Str.ofString "/claim/cut.py") 353] }
noncomputable def o136 (_P : Params) : Obj := mkFn (l := PB) (i := 12) rfl fun p b s => { cls := Value.type "function", data := Data.func { name := Str.ofString "contains", qualname := Str.ofString "contains", params := p, body := FuncBody.stmts b, scope := s, globals := 3, closure := [], defaults := Value.none, kwdefaults := Value.none, pyModule := Value.str (Str.ofString "cpy313.operator") 305, code := Value.ref 135 } } 
noncomputable def o137 (P : Params) : Obj := { cls := Value.type "tuple", data := Data.seq #[] }
noncomputable def o138 (P : Params) : Obj := { cls := Value.none, data := Data.fields #[] }
noncomputable def o139 (P : Params) : Obj := { cls := Value.type "tuple", data := Data.seq #[Value.str (Str.ofString "a") 358, Value.str (Str.ofString "b") 359] }
noncomputable def o140 (P : Params) : Obj := { cls := Value.type "tuple", data := Data.seq #[] }
noncomputable def o141 (_P : Params) : Obj := mkFn (l := PB) (i := 13) rfl fun p b s => { cls := Value.none, data := Data.func { name := Str.ofString "getitem", qualname := Str.ofString "getitem", params := p, body := FuncBody.stmts b, scope := s, globals := 0, closure := [], defaults := Value.none, kwdefaults := Value.none } } 
noncomputable def o142 (P : Params) : Obj := { cls := Value.type "code", data := Data.fields #[Value.str (Str.ofString "getitem") 355, Value.str (Str.ofString "getitem") 356, Value.str (Str.ofString "/claim/cut.py") 357, Value.int 79 0, Value.int 2 0, Value.int 0 0, Value.int 0 0, Value.int 3 0, Value.ref 137, Value.bool true, Value.int 181 0, Value.ref 138, Value.none, Value.ref 139, Value.ref 140, Value.ref 141, Value.int 360 0, Value.int 79 0, Value.str (Str.ofString "/claim/cut.py") 361] }
noncomputable def o143 (_P : Params) : Obj := mkFn (l := PB) (i := 13) rfl fun p b s => { cls := Value.type "function", data := Data.func { name := Str.ofString "getitem", qualname := Str.ofString "getitem", params := p, body := FuncBody.stmts b, scope := s, globals := 3, closure := [], defaults := Value.none, kwdefaults := Value.none, pyModule := Value.str (Str.ofString "cpy313.operator") 305, code := Value.ref 142 } } 
noncomputable def o144 (P : Params) : Obj := { cls := Value.type "dict", data := Data.dict #[{ hash := PyData.keyHash P (Str.ofString "!"), key := Value.str (Str.ofString "!") 463, val := Value.int 54 459 }, { hash := PyData.keyHash P (Str.ofString "!="), key := Value.str (Str.ofString "!=") 465, val := Value.int 28 407 }, { hash := PyData.keyHash P (Str.ofString "%"), key := Value.str (Str.ofString "%") 467, val := Value.int 24 399 }, { hash := PyData.keyHash P (Str.ofString "%="), key := Value.str (Str.ofString "%=") 469, val := Value.int 40 431 }, { hash := PyData.keyHash P (Str.ofString "&"), key := Value.str (Str.ofString "&") 471, val := Value.int 19 389 }, { hash := PyData.keyHash P (Str.ofString "&="), key := Value.str (Str.ofString "&=") 473, val := Value.int 41 433 }, { hash := PyData.keyHash P (Str.ofString "("), key := Value.str (Str.ofString "(") 475, val := Value.int 7 365 }, { hash := PyData.keyHash P (Str.ofString ")"), key := Value.str (Str.ofString ")") 477, val := Value.int 8 367 }, { hash := PyData.keyHash P (Str.ofString "*"), key := Value.str (Str.ofString "*") 479, val := Value.int 16 383 }, { hash := PyData.keyHash P (Str.ofString "**"), key := Value.str (Str.ofString "**") 481, val := Value.int 35 421 }, { hash := PyData.keyHash P (Str.ofString "**="), key := Value.str (Str.ofString "**=") 483, val := Value.int 46 443 }, { hash := PyData.keyHash P (Str.ofString "*="), key := Value.str (Str.ofString "*=") 485, val := Value.int 38 427 }, { hash := PyData.keyHash P (Str.ofString "+"), key := Value.str (Str.ofString "+") 487, val := Value.int 14 379 }, { hash := PyData.keyHash P (Str.ofString "+="), key := Value.str (Str.ofString "+=") 489, val := Value.int 36 423 }, { hash := PyData.keyHash P (Str.ofString ","), key := Value.str (Str.ofString ",") 491, val := Value.int 12 375 }, { hash := PyData.keyHash P (Str.ofString "-"), key := Value.str (Str.ofString "-") 493, val := Value.int 15 381 }, { hash := PyData.keyHash P (Str.ofString "-="), key := Value.str (Str.ofString "-=") 495, val := Value.int 37 425 }, { hash := PyData.keyHash P (Str.ofString "->"), key := Value.str (Str.ofString "->") 497, val := Value.int 51 453 }, { hash := PyData.keyHash P (Str.ofString "."), key := Value.str (Str.ofString ".") 499, val := Value.int 23 397 }, { hash := PyData.keyHash P (Str.ofString "..."), key := Value.str (Str.ofString "...") 501, val := Value.int 52 455 }, { hash := PyData.keyHash P (Str.ofString "/"), key := Value.str (Str.ofString "/") 503, val := Value.int 17 385 }, { hash := PyData.keyHash P (Str.ofString "//"), key := Value.str (Str.ofString "//") 505, val := Value.int 47 445 }, { hash := PyData.keyHash P (Str.ofString "//="), key := Value.str (Str.ofString "//=") 507, val := Value.int 48 447 }, { hash := PyData.keyHash P (Str.ofString "/="), key := Value.str (Str.ofString "/=") 509, val := Value.int 39 429 }, { hash := PyData.keyHash P (Str.ofString ":"), key := Value.str (Str.ofString ":") 511, val := Value.int 11 373 }, { hash := PyData.keyHash P (Str.ofString ":="), key := Value.str (Str.ofString ":=") 513, val := Value.int 53 457 }, { hash := PyData.keyHash P (Str.ofString ";"), key := Value.str (Str.ofString ";") 515, val := Value.int 13 377 }, { hash := PyData.keyHash P (Str.ofString "<"), key := Value.str (Str.ofString "<") 517, val := Value.int 20 391 }, { hash := PyData.keyHash P (Str.ofString "<<"), key := Value.str (Str.ofString "<<") 519, val := Value.int 33 417 }, { hash := PyData.keyHash P (Str.ofString "<<="), key := Value.str (Str.ofString "<<=") 521, val := Value.int 44 439 }, { hash := PyData.keyHash P (Str.ofString "<="), key := Value.str (Str.ofString "<=") 523, val := Value.int 29 409 }, { hash := PyData.keyHash P (Str.ofString "="), key := Value.str (Str.ofString "=") 525, val := Value.int 22 395 }, { hash := PyData.keyHash P (Str.ofString "=="), key := Value.str (Str.ofString "==") 527, val := Value.int 27 405 }, { hash := PyData.keyHash P (Str.ofString ">"), key := Value.str (Str.ofString ">") 529, val := Value.int 21 393 }, { hash := PyData.keyHash P (Str.ofString ">="), key := Value.str (Str.ofString ">=") 531, val := Value.int 30 411 }, { hash := PyData.keyHash P (Str.ofString ">>"), key := Value.str (Str.ofString ">>") 532, val := Value.int 34 419 }, { hash := PyData.keyHash P (Str.ofString ">>="), key := Value.str (Str.ofString ">>=") 533, val := Value.int 45 441 }, { hash := PyData.keyHash P (Str.ofString "@"), key := Value.str (Str.ofString "@") 534, val := Value.int 49 449 }, { hash := PyData.keyHash P (Str.ofString "@="), key := Value.str (Str.ofString "@=") 535, val := Value.int 50 451 }, { hash := PyData.keyHash P (Str.ofString "["), key := Value.str (Str.ofString "[") 536, val := Value.int 9 369 }, { hash := PyData.keyHash P (Str.ofString "]"), key := Value.str (Str.ofString "]") 537, val := Value.int 10 371 }, { hash := PyData.keyHash P (Str.ofString "^"), key := Value.str (Str.ofString "^") 538, val := Value.int 32 415 }, { hash := PyData.keyHash P (Str.ofString "^="), key := Value.str (Str.ofString "^=") 539, val := Value.int 43 437 }, { hash := PyData.keyHash P (Str.ofString "{"), key := Value.str (Str.ofString "{") 540, val := Value.int 25 401 }, { hash := PyData.keyHash P (Str.ofString "|"), key := Value.str (Str.ofString "|") 541, val := Value.int 18 387 }, { hash := PyData.keyHash P (Str.ofString "|="), key := Value.str (Str.ofString "|=") 542, val := Value.int 42 435 }, { hash := PyData.keyHash P (Str.ofString "}"), key := Value.str (Str.ofString "}") 543, val := Value.int 26 403 }, { hash := PyData.keyHash P (Str.ofString "~"), key := Value.str (Str.ofString "~") 544, val := Value.int 31 413 }] 48 }
noncomputable def o145 (P : Params) : Obj := { cls := Value.type "dict", data := Data.dict #[{ hash := PyData.keyHash P (Str.ofString "->"), key := Value.str (Str.ofString "->") 497, val := Value.int 51 453 }, { hash := PyData.keyHash P (Str.ofString "."), key := Value.str (Str.ofString ".") 499, val := Value.int 23 397 }, { hash := PyData.keyHash P (Str.ofString "..."), key := Value.str (Str.ofString "...") 501, val := Value.int 52 455 }, { hash := PyData.keyHash P (Str.ofString "/"), key := Value.str (Str.ofString "/") 503, val := Value.int 17 385 }, { hash := PyData.keyHash P (Str.ofString "//"), key := Value.str (Str.ofString "//") 505, val := Value.int 47 445 }, { hash := PyData.keyHash P (Str.ofString "//="), key := Value.str (Str.ofString "//=") 507, val := Value.int 48 447 }, { hash := PyData.keyHash P (Str.ofString "/="), key := Value.str (Str.ofString "/=") 509, val := Value.int 39 429 }, { hash := PyData.keyHash P (Str.ofString ":"), key := Value.str (Str.ofString ":") 511, val := Value.int 11 373 }, { hash := PyData.keyHash P (Str.ofString ":="), key := Value.str (Str.ofString ":=") 513, val := Value.int 53 457 }, { hash := PyData.keyHash P (Str.ofString ";"), key := Value.str (Str.ofString ";") 515, val := Value.int 13 377 }, { hash := PyData.keyHash P (Str.ofString "<"), key := Value.str (Str.ofString "<") 517, val := Value.int 20 391 }, { hash := PyData.keyHash P (Str.ofString "<<"), key := Value.str (Str.ofString "<<") 519, val := Value.int 33 417 }, { hash := PyData.keyHash P (Str.ofString "<<="), key := Value.str (Str.ofString "<<=") 521, val := Value.int 44 439 }, { hash := PyData.keyHash P (Str.ofString "<="), key := Value.str (Str.ofString "<=") 523, val := Value.int 29 409 }, { hash := PyData.keyHash P (Str.ofString "="), key := Value.str (Str.ofString "=") 525, val := Value.int 22 395 }, { hash := PyData.keyHash P (Str.ofString "=="), key := Value.str (Str.ofString "==") 527, val := Value.int 27 405 }, { hash := PyData.keyHash P (Str.ofString ">"), key := Value.str (Str.ofString ">") 529, val := Value.int 21 393 }] 17 }
noncomputable def o146 (P : Params) : Obj := { cls := Value.type "dict", data := Data.dict #[{ hash := PyData.keyHash P (Str.ofString ">="), key := Value.str (Str.ofString ">=") 531, val := Value.int 30 411 }, { hash := PyData.keyHash P (Str.ofString ">>"), key := Value.str (Str.ofString ">>") 532, val := Value.int 34 419 }, { hash := PyData.keyHash P (Str.ofString ">>="), key := Value.str (Str.ofString ">>=") 533, val := Value.int 45 441 }, { hash := PyData.keyHash P (Str.ofString "@"), key := Value.str (Str.ofString "@") 534, val := Value.int 49 449 }, { hash := PyData.keyHash P (Str.ofString "@="), key := Value.str (Str.ofString "@=") 535, val := Value.int 50 451 }, { hash := PyData.keyHash P (Str.ofString "["), key := Value.str (Str.ofString "[") 536, val := Value.int 9 369 }, { hash := PyData.keyHash P (Str.ofString "]"), key := Value.str (Str.ofString "]") 537, val := Value.int 10 371 }, { hash := PyData.keyHash P (Str.ofString "^"), key := Value.str (Str.ofString "^") 538, val := Value.int 32 415 }, { hash := PyData.keyHash P (Str.ofString "^="), key := Value.str (Str.ofString "^=") 539, val := Value.int 43 437 }, { hash := PyData.keyHash P (Str.ofString "{"), key := Value.str (Str.ofString "{") 540, val := Value.int 25 401 }, { hash := PyData.keyHash P (Str.ofString "|"), key := Value.str (Str.ofString "|") 541, val := Value.int 18 387 }, { hash := PyData.keyHash P (Str.ofString "|="), key := Value.str (Str.ofString "|=") 542, val := Value.int 42 435 }, { hash := PyData.keyHash P (Str.ofString "}"), key := Value.str (Str.ofString "}") 543, val := Value.int 26 403 }, { hash := PyData.keyHash P (Str.ofString "~"), key := Value.str (Str.ofString "~") 544, val := Value.int 31 413 }] 14 }
noncomputable def o147 (P : Params) : Obj := { cls := Value.type "tuple", data := Data.seq #[] }
noncomputable def o148 (P : Params) : Obj := { cls := Value.none, data := Data.fields #[] }
noncomputable def o149 (P : Params) : Obj := { cls := Value.type "tuple", data := Data.seq #[Value.str (Str.ofString "x") 563] }
noncomputable def o150 (P : Params) : Obj := { cls := Value.type "tuple", data := Data.seq #[] }
noncomputable def o151 (_P : Params) : Obj := mkFn (l := PB) (i := 65) rfl fun p b s => { cls := Value.none, data := Data.func { name := Str.ofString "ISNONTERMINAL", qualname := Str.ofString "ISNONTERMINAL", params := p, body := FuncBody.stmts b, scope := s, globals := 0, closure := [], defaults := Value.none, kwdefaults := Value.none } } 
noncomputable def o152 (P : Params) : Obj := { cls := Value.type "code", data := Data.fields #[Value.str (Str.ofString "ISNONTERMINAL") 560, Value.str (Str.ofString "ISNONTERMINAL") 561, Value.str (Str.ofString "/claim/cut.py") 562, Value.int 132 0, Value.int 1 0, Value.int 0 0, Value.int 0 0, Value.int 3 0, Value.ref 147, Value.bool true, Value.int 181 0, Value.ref 148, Value.none, Value.ref 149, Value.ref 150, Value.ref 151, Value.int 564 0, Value.int 132 0, Value.str (Str.ofString "/claim/cut.py") 565] }
noncomputable def o153 (_P : Params) : Obj := mkFn (l := PB) (i := 65) rfl fun p b s => { cls := Value.type "function", data := Data.func { name := Str.ofString "ISNONTERMINAL", qualname := Str.ofString "ISNONTERMINAL", params := p, body := FuncBody.stmts b, scope := s, globals := 3, closure := [], defaults := Value.none, kwdefaults := Value.none, pyModule := Value.str (Str.ofString "cpy313.token") 363, code := Value.ref 152 } } 
noncomputable def o154 (P : Params) : Obj := { cls := Value.type "tuple", data := Data.seq #[] }
noncomputable def o155 (P : Params) : Obj := { cls := Value.none, data := Data.fields #[] }
noncomputable def o156 (P : Params) : Obj := { cls := Value.type "tuple", data := Data.seq #[Value.str (Str.ofString "ruler") 572, Value.str (Str.ofString "bases") 573, Value.str (Str.ofString "size") 574] }
noncomputable def o157 (P : Params) : Obj := { cls := Value.type "tuple", data := Data.seq #[] }
noncomputable def o158 (_P : Params) : Obj := mkFn (l := PB) (i := 67) rfl fun p b s => { cls := Value.none, data := Data.func { name := Str.ofString "_law_told", qualname := Str.ofString "_law_told", params := p, body := FuncBody.stmts b, scope := s, globals := 0, closure := [], defaults := Value.none, kwdefaults := Value.none } } 
noncomputable def o159 (P : Params) : Obj := { cls := Value.type "code", data := Data.fields #[Value.str (Str.ofString "_law_told") 569, Value.str (Str.ofString "_law_told") 570, Value.str (Str.ofString "/claim/cut.py") 571, Value.int 135 0, Value.int 1 0, Value.int 0 0, Value.int 0 0, Value.int 3 0, Value.ref 154, Value.bool true, Value.int 181 0, Value.ref 155, Value.none, Value.ref 156, Value.ref 157, Value.ref 158, Value.int 575 0, Value.int 135 0, Value.str (Str.ofString "/claim/cut.py") 576] }
noncomputable def o160 (_P : Params) : Obj := mkFn (l := PB) (i := 67) rfl fun p b s => { cls := Value.type "function", data := Data.func { name := Str.ofString "_law_told", qualname := Str.ofString "_law_told", params := p, body := FuncBody.stmts b, scope := s, globals := 3, closure := [], defaults := Value.none, kwdefaults := Value.none, pyModule := Value.str (Str.ofString "law_ti0050_01") 567, code := Value.ref 159 } } 
noncomputable def o161 (P : Params) : Obj := { cls := Value.type "tuple", data := Data.seq #[] }
noncomputable def o162 (P : Params) : Obj := { cls := Value.none, data := Data.fields #[] }
noncomputable def o163 (P : Params) : Obj := { cls := Value.type "tuple", data := Data.seq #[Value.str (Str.ofString "symbols") 581, Value.str (Str.ofString "tail") 582, Value.str (Str.ofString "squares") 583, Value.str (Str.ofString "others") 584, Value.str (Str.ofString "symbol") 585] }
noncomputable def o164 (P : Params) : Obj := { cls := Value.type "tuple", data := Data.seq #[] }
noncomputable def o165 (_P : Params) : Obj := mkFn (l := PB) (i := 68) rfl fun p b s => { cls := Value.none, data := Data.func { name := Str.ofString "_law_leads", qualname := Str.ofString "_law_leads", params := p, body := FuncBody.stmts b, scope := s, globals := 0, closure := [], defaults := Value.none, kwdefaults := Value.none } } 
noncomputable def o166 (P : Params) : Obj := { cls := Value.type "code", data := Data.fields #[Value.str (Str.ofString "_law_leads") 578, Value.str (Str.ofString "_law_leads") 579, Value.str (Str.ofString "/claim/cut.py") 580, Value.int 142 0, Value.int 2 0, Value.int 0 0, Value.int 0 0, Value.int 3 0, Value.ref 161, Value.bool true, Value.int 181 0, Value.ref 162, Value.none, Value.ref 163, Value.ref 164, Value.ref 165, Value.int 586 0, Value.int 142 0, Value.str (Str.ofString "/claim/cut.py") 587] }
noncomputable def o167 (_P : Params) : Obj := mkFn (l := PB) (i := 68) rfl fun p b s => { cls := Value.type "function", data := Data.func { name := Str.ofString "_law_leads", qualname := Str.ofString "_law_leads", params := p, body := FuncBody.stmts b, scope := s, globals := 3, closure := [], defaults := Value.none, kwdefaults := Value.none, pyModule := Value.str (Str.ofString "law_ti0050_01") 567, code := Value.ref 166 } } 
noncomputable def o168 (P : Params) : Obj := { cls := Value.type "tuple", data := Data.seq #[] }
noncomputable def o169 (P : Params) : Obj := { cls := Value.none, data := Data.fields #[] }
noncomputable def o170 (P : Params) : Obj := { cls := Value.type "tuple", data := Data.seq #[Value.str (Str.ofString "prime") 592, Value.str (Str.ofString "number") 593] }
noncomputable def o171 (P : Params) : Obj := { cls := Value.type "tuple", data := Data.seq #[] }
noncomputable def o172 (_P : Params) : Obj := mkFn (l := PB) (i := 69) rfl fun p b s => { cls := Value.none, data := Data.func { name := Str.ofString "_law_sign", qualname := Str.ofString "_law_sign", params := p, body := FuncBody.stmts b, scope := s, globals := 0, closure := [], defaults := Value.none, kwdefaults := Value.none } } 
noncomputable def o173 (P : Params) : Obj := { cls := Value.type "code", data := Data.fields #[Value.str (Str.ofString "_law_sign") 589, Value.str (Str.ofString "_law_sign") 590, Value.str (Str.ofString "/claim/cut.py") 591, Value.int 150 0, Value.int 2 0, Value.int 0 0, Value.int 0 0, Value.int 3 0, Value.ref 168, Value.bool true, Value.int 181 0, Value.ref 169, Value.none, Value.ref 170, Value.ref 171, Value.ref 172, Value.int 594 0, Value.int 150 0, Value.str (Str.ofString "/claim/cut.py") 595] }
noncomputable def o174 (_P : Params) : Obj := mkFn (l := PB) (i := 69) rfl fun p b s => { cls := Value.type "function", data := Data.func { name := Str.ofString "_law_sign", qualname := Str.ofString "_law_sign", params := p, body := FuncBody.stmts b, scope := s, globals := 3, closure := [], defaults := Value.none, kwdefaults := Value.none, pyModule := Value.str (Str.ofString "law_ti0050_01") 567, code := Value.ref 173 } } 
noncomputable def o175 (P : Params) : Obj := { cls := Value.type "tuple", data := Data.seq #[] }
noncomputable def o176 (P : Params) : Obj := { cls := Value.none, data := Data.fields #[] }
noncomputable def o177 (P : Params) : Obj := { cls := Value.type "tuple", data := Data.seq #[Value.str (Str.ofString "prime") 600, Value.str (Str.ofString "classes") 601, Value.str (Str.ofString "middle") 602, Value.str (Str.ofString "outer") 603, Value.str (Str.ofString "first") 604] }
noncomputable def o178 (P : Params) : Obj := { cls := Value.type "tuple", data := Data.seq #[] }
noncomputable def o179 (_P : Params) : Obj := mkFn (l := PB) (i := 70) rfl fun p b s => { cls := Value.none, data := Data.func { name := Str.ofString "_law_classes", qualname := Str.ofString "_law_classes", params := p, body := FuncBody.stmts b, scope := s, globals := 0, closure := [], defaults := Value.none, kwdefaults := Value.none } } 
noncomputable def o180 (P : Params) : Obj := { cls := Value.type "code", data := Data.fields #[Value.str (Str.ofString "_law_classes") 597, Value.str (Str.ofString "_law_classes") 598, Value.str (Str.ofString "/claim/cut.py") 599, Value.int 154 0, Value.int 1 0, Value.int 0 0, Value.int 0 0, Value.int 3 0, Value.ref 175, Value.bool true, Value.int 181 0, Value.ref 176, Value.none, Value.ref 177, Value.ref 178, Value.ref 179, Value.int 605 0, Value.int 154 0, Value.str (Str.ofString "/claim/cut.py") 606] }
noncomputable def o181 (_P : Params) : Obj := mkFn (l := PB) (i := 70) rfl fun p b s => { cls := Value.type "function", data := Data.func { name := Str.ofString "_law_classes", qualname := Str.ofString "_law_classes", params := p, body := FuncBody.stmts b, scope := s, globals := 3, closure := [], defaults := Value.none, kwdefaults := Value.none, pyModule := Value.str (Str.ofString "law_ti0050_01") 567, code := Value.ref 180 } } 
noncomputable def o182 (P : Params) : Obj := { cls := Value.type "tuple", data := Data.seq #[] }
noncomputable def o183 (P : Params) : Obj := { cls := Value.none, data := Data.fields #[] }
noncomputable def o184 (_P : Params) : Obj := mkFn (l := PB) (i := 71) rfl fun p b s => { cls := Value.none, data := Data.func { name := Str.ofString "_law_agree", qualname := Str.ofString "_law_agree", params := p, body := FuncBody.stmts b, scope := s, globals := 0, closure := [], defaults := Value.none, kwdefaults := Value.none } } 
noncomputable def o185 (P : Params) : Obj := { cls := Value.type "code", data := Data.fields #[Value.str (Str.ofString "_law_agree") 608, Value.str (Str.ofString "_law_agree") 609, Value.str (Str.ofString "/claim/cut.py") 610, Value.int 163 0, Value.int 2 0, Value.int 0 0, Value.int 0 0, Value.int 3 0, Value.ref 182, Value.bool true, Value.int 181 0, Value.ref 183, Value.none, Value.none, Value.none, Value.ref 184, Value.int 611 0, Value.int 163 0, Value.str (Str.ofString "/claim/cut.py") 612] }
noncomputable def o186 (_P : Params) : Obj := mkFn (l := PB) (i := 71) rfl fun p b s => { cls := Value.type "function", data := Data.func { name := Str.ofString "_law_agree", qualname := Str.ofString "_law_agree", params := p, body := FuncBody.stmts b, scope := s, globals := 3, closure := [], defaults := Value.none, kwdefaults := Value.none, pyModule := Value.str (Str.ofString "law_ti0050_01") 567, code := Value.ref 185 } } 
noncomputable def o187 (P : Params) : Obj := { cls := Value.type "tuple", data := Data.seq #[] }
noncomputable def o188 (P : Params) : Obj := { cls := Value.none, data := Data.fields #[] }
noncomputable def o189 (P : Params) : Obj := { cls := Value.type "tuple", data := Data.seq #[Value.str (Str.ofString "form") 617, Value.str (Str.ofString "first") 618, Value.str (Str.ofString "second") 619, Value.str (Str.ofString "third") 620] }
noncomputable def o190 (P : Params) : Obj := { cls := Value.type "tuple", data := Data.seq #[] }
noncomputable def o191 (_P : Params) : Obj := mkFn (l := PB) (i := 72) rfl fun p b s => { cls := Value.none, data := Data.func { name := Str.ofString "_law_ruler", qualname := Str.ofString "_law_ruler", params := p, body := FuncBody.stmts b, scope := s, globals := 0, closure := [], defaults := Value.none, kwdefaults := Value.none } } 
noncomputable def o192 (P : Params) : Obj := { cls := Value.type "code", data := Data.fields #[Value.str (Str.ofString "_law_ruler") 614, Value.str (Str.ofString "_law_ruler") 615, Value.str (Str.ofString "/claim/cut.py") 616, Value.int 182 0, Value.int 4 0, Value.int 0 0, Value.int 0 0, Value.int 3 0, Value.ref 187, Value.bool true, Value.int 181 0, Value.ref 188, Value.none, Value.ref 189, Value.ref 190, Value.ref 191, Value.int 621 0, Value.int 182 0, Value.str (Str.ofString "/claim/cut.py") 622] }
noncomputable def o193 (_P : Params) : Obj := mkFn (l := PB) (i := 72) rfl fun p b s => { cls := Value.type "function", data := Data.func { name := Str.ofString "_law_ruler", qualname := Str.ofString "_law_ruler", params := p, body := FuncBody.stmts b, scope := s, globals := 3, closure := [], defaults := Value.none, kwdefaults := Value.none, pyModule := Value.str (Str.ofString "law_ti0050_01") 567, code := Value.ref 192 } } 
noncomputable def o194 (P : Params) : Obj := { cls := Value.type "tuple", data := Data.seq #[] }
noncomputable def o195 (P : Params) : Obj := { cls := Value.none, data := Data.fields #[] }
noncomputable def o196 (_P : Params) : Obj := mkFn (l := PB) (i := 73) rfl fun p b s => { cls := Value.none, data := Data.func { name := Str.ofString "law", qualname := Str.ofString "law", params := p, body := FuncBody.stmts b, scope := s, globals := 0, closure := [], defaults := Value.none, kwdefaults := Value.none } } 
noncomputable def o197 (P : Params) : Obj := { cls := Value.type "code", data := Data.fields #[Value.str (Str.ofString "law") 624, Value.str (Str.ofString "law") 625, Value.str (Str.ofString "/claim/cut.py") 626, Value.int 188 0, Value.int 1 0, Value.int 0 0, Value.int 0 0, Value.int 3 0, Value.ref 194, Value.bool true, Value.int 181 0, Value.ref 195, Value.none, Value.none, Value.none, Value.ref 196, Value.int 627 0, Value.int 188 0, Value.str (Str.ofString "/claim/cut.py") 628] }
noncomputable def o198 (_P : Params) : Obj := mkFn (l := PB) (i := 73) rfl fun p b s => { cls := Value.type "function", data := Data.func { name := Str.ofString "law", qualname := Str.ofString "law", params := p, body := FuncBody.stmts b, scope := s, globals := 3, closure := [], defaults := Value.none, kwdefaults := Value.none, pyModule := Value.str (Str.ofString "law_ti0050_01") 567, code := Value.ref 197 } } 
noncomputable def o3a (P : Params) : Obj := { cls := Value.type "dict", data := Data.dict #[{ hash := PyData.keyHash P (Str.ofString "__name__"), key := Value.str (Str.ofString "__name__") 165, val := Value.str (Str.ofString "cpy313.tabnanny") 194 }, { hash := PyData.keyHash P (Str.ofString "__doc__"), key := Value.str (Str.ofString "__doc__") 166, val := Value.none }, { hash := PyData.keyHash P (Str.ofString "__package__"), key := Value.str (Str.ofString "__package__") 167, val := Value.none }, { hash := PyData.keyHash P (Str.ofString "__loader__"), key := Value.str (Str.ofString "__loader__") 168, val := Value.builtin "__main__.__loader__#opaque" }, { hash := PyData.keyHash P (Str.ofString "__spec__"), key := Value.str (Str.ofString "__spec__") 169, val := Value.none }, { hash := PyData.keyHash P (Str.ofString "__annotations__"), key := Value.str (Str.ofString "__annotations__") 170, val := Value.ref 6 }, { hash := PyData.keyHash P (Str.ofString "__builtins__"), key := Value.str (Str.ofString "__builtins__") 171, val := Value.ref 4 }, { hash := PyData.keyHash P (Str.ofString "__file__"), key := Value.str (Str.ofString "__file__") 173, val := Value.str (Str.ofString "/claim/cut.py") 172 }, { hash := PyData.keyHash P (Str.ofString "__cached__"), key := Value.str (Str.ofString "__cached__") 174, val := Value.none }, { hash := PyData.keyHash P (Str.ofString "_wall"), key := Value.str (Str.ofString "_wall") 193, val := Value.ref 21 }, { hash := PyData.keyHash P (Str.ofString "Whitespace"), key := Value.str (Str.ofString "Whitespace") 291, val := Value.ref 83 }] 11 }
noncomputable def o3b (P : Params) : Obj := { cls := Value.type "dict", data := Data.dict (List.toArray ({ hash := PyData.keyHash P (Str.ofString "__name__"), key := Value.str (Str.ofString "__name__") 165, val := Value.str (Str.ofString "cpy313.token") 363 } :: { hash := PyData.keyHash P (Str.ofString "__doc__"), key := Value.str (Str.ofString "__doc__") 166, val := Value.none } :: { hash := PyData.keyHash P (Str.ofString "__package__"), key := Value.str (Str.ofString "__package__") 167, val := Value.none } :: { hash := PyData.keyHash P (Str.ofString "__loader__"), key := Value.str (Str.ofString "__loader__") 168, val := Value.builtin "__main__.__loader__#opaque" } :: { hash := PyData.keyHash P (Str.ofString "__spec__"), key := Value.str (Str.ofString "__spec__") 169, val := Value.none } :: { hash := PyData.keyHash P (Str.ofString "__annotations__"), key := Value.str (Str.ofString "__annotations__") 170, val := Value.ref 6 } :: { hash := PyData.keyHash P (Str.ofString "__builtins__"), key := Value.str (Str.ofString "__builtins__") 171, val := Value.ref 4 } :: { hash := PyData.keyHash P (Str.ofString "__file__"), key := Value.str (Str.ofString "__file__") 173, val := Value.str (Str.ofString "/claim/cut.py") 172 } :: { hash := PyData.keyHash P (Str.ofString "__cached__"), key := Value.str (Str.ofString "__cached__") 174, val := Value.none } :: { hash := PyData.keyHash P (Str.ofString "_wall"), key := Value.str (Str.ofString "_wall") 193, val := Value.ref 21 } :: { hash := PyData.keyHash P (Str.ofString "Whitespace"), key := Value.str (Str.ofString "Whitespace") 291, val := Value.ref 83 } :: { hash := PyData.keyHash P (Str.ofString "CHAR_MAX"), key := Value.str (Str.ofString "CHAR_MAX") 295, val := Value.int 127 294 } :: { hash := PyData.keyHash P (Str.ofString "_grouping_intervals"), key := Value.str (Str.ofString "_grouping_intervals") 304, val := Value.ref 94 } :: { hash := PyData.keyHash P (Str.ofString "add"), key := Value.str (Str.ofString "add") 314, val := Value.ref 101 } :: { hash := PyData.keyHash P (Str.ofString "floordiv"), key := Value.str (Str.ofString "floordiv") 322, val := Value.ref 108 } :: { hash := PyData.keyHash P (Str.ofString "mod"), key := Value.str (Str.ofString "mod") 330, val := Value.ref 115 } :: { hash := PyData.keyHash P (Str.ofString "mul"), key := Value.str (Str.ofString "mul") 338, val := Value.ref 122 } :: { hash := PyData.keyHash P (Str.ofString "sub"), key := Value.str (Str.ofString "sub") 346, val := Value.ref 129 } :: { hash := PyData.keyHash P (Str.ofString "contains"), key := Value.str (Str.ofString "contains") 354, val := Value.ref 136 } :: { hash := PyData.keyHash P (Str.ofString "getitem"), key := Value.str (Str.ofString "getitem") 362, val := Value.ref 143 } :: { hash := PyData.keyHash P (Str.ofString "LPAR"), key := Value.str (Str.ofString "LPAR") 366, val := Value.int 7 365 } :: { hash := PyData.keyHash P (Str.ofString "RPAR"), key := Value.str (Str.ofString "RPAR") 368, val := Value.int 8 367 } :: { hash := PyData.keyHash P (Str.ofString "LSQB"), key := Value.str (Str.ofString "LSQB") 370, val := Value.int 9 369 } :: { hash := PyData.keyHash P (Str.ofString "RSQB"), key := Value.str (Str.ofString "RSQB") 372, val := Value.int 10 371 } :: { hash := PyData.keyHash P (Str.ofString "COLON"), key := Value.str (Str.ofString "COLON") 374, val := Value.int 11 373 } :: { hash := PyData.keyHash P (Str.ofString "COMMA"), key := Value.str (Str.ofString "COMMA") 376, val := Value.int 12 375 } :: { hash := PyData.keyHash P (Str.ofString "SEMI"), key := Value.str (Str.ofString "SEMI") 378, val := Value.int 13 377 } :: { hash := PyData.keyHash P (Str.ofString "PLUS"), key := Value.str (Str.ofString "PLUS") 380, val := Value.int 14 379 } :: { hash := PyData.keyHash P (Str.ofString "MINUS"), key := Value.str (Str.ofString "MINUS") 382, val := Value.int 15 381 } :: { hash := PyData.keyHash P (Str.ofString "STAR"), key := Value.str (Str.ofString "STAR") 384, val := Value.int 16 383 } :: { hash := PyData.keyHash P (Str.ofString "SLASH"), key := Value.str (Str.ofString "SLASH") 386, val := Value.int 17 385 } :: { hash := PyData.keyHash P (Str.ofString "VBAR"), key := Value.str (Str.ofString "VBAR") 388, val := Value.int 18 387 } :: { hash := PyData.keyHash P (Str.ofString "AMPER"), key := Value.str (Str.ofString "AMPER") 390, val := Value.int 19 389 } :: { hash := PyData.keyHash P (Str.ofString "LESS"), key := Value.str (Str.ofString "LESS") 392, val := Value.int 20 391 } :: { hash := PyData.keyHash P (Str.ofString "GREATER"), key := Value.str (Str.ofString "GREATER") 394, val := Value.int 21 393 } :: { hash := PyData.keyHash P (Str.ofString "EQUAL"), key := Value.str (Str.ofString "EQUAL") 396, val := Value.int 22 395 } :: { hash := PyData.keyHash P (Str.ofString "DOT"), key := Value.str (Str.ofString "DOT") 398, val := Value.int 23 397 } :: { hash := PyData.keyHash P (Str.ofString "PERCENT"), key := Value.str (Str.ofString "PERCENT") 400, val := Value.int 24 399 } :: { hash := PyData.keyHash P (Str.ofString "LBRACE"), key := Value.str (Str.ofString "LBRACE") 402, val := Value.int 25 401 } :: { hash := PyData.keyHash P (Str.ofString "RBRACE"), key := Value.str (Str.ofString "RBRACE") 404, val := Value.int 26 403 } :: { hash := PyData.keyHash P (Str.ofString "EQEQUAL"), key := Value.str (Str.ofString "EQEQUAL") 406, val := Value.int 27 405 } :: { hash := PyData.keyHash P (Str.ofString "NOTEQUAL"), key := Value.str (Str.ofString "NOTEQUAL") 408, val := Value.int 28 407 } :: { hash := PyData.keyHash P (Str.ofString "LESSEQUAL"), key := Value.str (Str.ofString "LESSEQUAL") 410, val := Value.int 29 409 } :: { hash := PyData.keyHash P (Str.ofString "GREATEREQUAL"), key := Value.str (Str.ofString "GREATEREQUAL") 412, val := Value.int 30 411 } :: { hash := PyData.keyHash P (Str.ofString "TILDE"), key := Value.str (Str.ofString "TILDE") 414, val := Value.int 31 413 } :: { hash := PyData.keyHash P (Str.ofString "CIRCUMFLEX"), key := Value.str (Str.ofString "CIRCUMFLEX") 416, val := Value.int 32 415 } :: { hash := PyData.keyHash P (Str.ofString "LEFTSHIFT"), key := Value.str (Str.ofString "LEFTSHIFT") 418, val := Value.int 33 417 } :: { hash := PyData.keyHash P (Str.ofString "RIGHTSHIFT"), key := Value.str (Str.ofString "RIGHTSHIFT") 420, val := Value.int 34 419 } :: { hash := PyData.keyHash P (Str.ofString "DOUBLESTAR"), key := Value.str (Str.ofString "DOUBLESTAR") 422, val := Value.int 35 421 } :: { hash := PyData.keyHash P (Str.ofString "PLUSEQUAL"), key := Value.str (Str.ofString "PLUSEQUAL") 424, val := Value.int 36 423 } :: { hash := PyData.keyHash P (Str.ofString "MINEQUAL"), key := Value.str (Str.ofString "MINEQUAL") 426, val := Value.int 37 425 } :: { hash := PyData.keyHash P (Str.ofString "STAREQUAL"), key := Value.str (Str.ofString "STAREQUAL") 428, val := Value.int 38 427 } :: { hash := PyData.keyHash P (Str.ofString "SLASHEQUAL"), key := Value.str (Str.ofString "SLASHEQUAL") 430, val := Value.int 39 429 } :: { hash := PyData.keyHash P (Str.ofString "PERCENTEQUAL"), key := Value.str (Str.ofString "PERCENTEQUAL") 432, val := Value.int 40 431 } :: { hash := PyData.keyHash P (Str.ofString "AMPEREQUAL"), key := Value.str (Str.ofString "AMPEREQUAL") 434, val := Value.int 41 433 } :: { hash := PyData.keyHash P (Str.ofString "VBAREQUAL"), key := Value.str (Str.ofString "VBAREQUAL") 436, val := Value.int 42 435 } :: { hash := PyData.keyHash P (Str.ofString "CIRCUMFLEXEQUAL"), key := Value.str (Str.ofString "CIRCUMFLEXEQUAL") 438, val := Value.int 43 437 } :: { hash := PyData.keyHash P (Str.ofString "LEFTSHIFTEQUAL"), key := Value.str (Str.ofString "LEFTSHIFTEQUAL") 440, val := Value.int 44 439 } :: { hash := PyData.keyHash P (Str.ofString "RIGHTSHIFTEQUAL"), key := Value.str (Str.ofString "RIGHTSHIFTEQUAL") 442, val := Value.int 45 441 } :: { hash := PyData.keyHash P (Str.ofString "DOUBLESTAREQUAL"), key := Value.str (Str.ofString "DOUBLESTAREQUAL") 444, val := Value.int 46 443 } :: { hash := PyData.keyHash P (Str.ofString "DOUBLESLASH"), key := Value.str (Str.ofString "DOUBLESLASH") 446, val := Value.int 47 445 } :: { hash := PyData.keyHash P (Str.ofString "DOUBLESLASHEQUAL"), key := Value.str (Str.ofString "DOUBLESLASHEQUAL") 448, val := Value.int 48 447 } :: { hash := PyData.keyHash P (Str.ofString "AT"), key := Value.str (Str.ofString "AT") 450, val := Value.int 49 449 } :: { hash := PyData.keyHash P (Str.ofString "ATEQUAL"), key := Value.str (Str.ofString "ATEQUAL") 452, val := Value.int 50 451 } :: { hash := PyData.keyHash P (Str.ofString "RARROW"), key := Value.str (Str.ofString "RARROW") 454, val := Value.int 51 453 } :: { hash := PyData.keyHash P (Str.ofString "ELLIPSIS"), key := Value.str (Str.ofString "ELLIPSIS") 456, val := Value.int 52 455 } :: { hash := PyData.keyHash P (Str.ofString "COLONEQUAL"), key := Value.str (Str.ofString "COLONEQUAL") 458, val := Value.int 53 457 } :: { hash := PyData.keyHash P (Str.ofString "EXCLAMATION"), key := Value.str (Str.ofString "EXCLAMATION") 460, val := Value.int 54 459 } :: { hash := PyData.keyHash P (Str.ofString "NT_OFFSET"), key := Value.str (Str.ofString "NT_OFFSET") 462, val := Value.int 256 461 } :: [])) 69 }
noncomputable def o3c (P : Params) : Obj := { cls := Value.type "dict", data := Data.dict (List.toArray ({ hash := PyData.keyHash P (Str.ofString "__name__"), key := Value.str (Str.ofString "__name__") 165, val := Value.str (Str.ofString "cpy313.token") 363 } :: { hash := PyData.keyHash P (Str.ofString "__doc__"), key := Value.str (Str.ofString "__doc__") 166, val := Value.none } :: { hash := PyData.keyHash P (Str.ofString "__package__"), key := Value.str (Str.ofString "__package__") 167, val := Value.none } :: { hash := PyData.keyHash P (Str.ofString "__loader__"), key := Value.str (Str.ofString "__loader__") 168, val := Value.builtin "__main__.__loader__#opaque" } :: { hash := PyData.keyHash P (Str.ofString "__spec__"), key := Value.str (Str.ofString "__spec__") 169, val := Value.none } :: { hash := PyData.keyHash P (Str.ofString "__annotations__"), key := Value.str (Str.ofString "__annotations__") 170, val := Value.ref 6 } :: { hash := PyData.keyHash P (Str.ofString "__builtins__"), key := Value.str (Str.ofString "__builtins__") 171, val := Value.ref 4 } :: { hash := PyData.keyHash P (Str.ofString "__file__"), key := Value.str (Str.ofString "__file__") 173, val := Value.str (Str.ofString "/claim/cut.py") 172 } :: { hash := PyData.keyHash P (Str.ofString "__cached__"), key := Value.str (Str.ofString "__cached__") 174, val := Value.none } :: { hash := PyData.keyHash P (Str.ofString "_wall"), key := Value.str (Str.ofString "_wall") 193, val := Value.ref 21 } :: { hash := PyData.keyHash P (Str.ofString "Whitespace"), key := Value.str (Str.ofString "Whitespace") 291, val := Value.ref 83 } :: { hash := PyData.keyHash P (Str.ofString "CHAR_MAX"), key := Value.str (Str.ofString "CHAR_MAX") 295, val := Value.int 127 294 } :: { hash := PyData.keyHash P (Str.ofString "_grouping_intervals"), key := Value.str (Str.ofString "_grouping_intervals") 304, val := Value.ref 94 } :: { hash := PyData.keyHash P (Str.ofString "add"), key := Value.str (Str.ofString "add") 314, val := Value.ref 101 } :: { hash := PyData.keyHash P (Str.ofString "floordiv"), key := Value.str (Str.ofString "floordiv") 322, val := Value.ref 108 } :: { hash := PyData.keyHash P (Str.ofString "mod"), key := Value.str (Str.ofString "mod") 330, val := Value.ref 115 } :: { hash := PyData.keyHash P (Str.ofString "mul"), key := Value.str (Str.ofString "mul") 338, val := Value.ref 122 } :: { hash := PyData.keyHash P (Str.ofString "sub"), key := Value.str (Str.ofString "sub") 346, val := Value.ref 129 } :: { hash := PyData.keyHash P (Str.ofString "contains"), key := Value.str (Str.ofString "contains") 354, val := Value.ref 136 } :: { hash := PyData.keyHash P (Str.ofString "getitem"), key := Value.str (Str.ofString "getitem") 362, val := Value.ref 143 } :: { hash := PyData.keyHash P (Str.ofString "LPAR"), key := Value.str (Str.ofString "LPAR") 366, val := Value.int 7 365 } :: { hash := PyData.keyHash P (Str.ofString "RPAR"), key := Value.str (Str.ofString "RPAR") 368, val := Value.int 8 367 } :: { hash := PyData.keyHash P (Str.ofString "LSQB"), key := Value.str (Str.ofString "LSQB") 370, val := Value.int 9 369 } :: { hash := PyData.keyHash P (Str.ofString "RSQB"), key := Value.str (Str.ofString "RSQB") 372, val := Value.int 10 371 } :: { hash := PyData.keyHash P (Str.ofString "COLON"), key := Value.str (Str.ofString "COLON") 374, val := Value.int 11 373 } :: { hash := PyData.keyHash P (Str.ofString "COMMA"), key := Value.str (Str.ofString "COMMA") 376, val := Value.int 12 375 } :: { hash := PyData.keyHash P (Str.ofString "SEMI"), key := Value.str (Str.ofString "SEMI") 378, val := Value.int 13 377 } :: { hash := PyData.keyHash P (Str.ofString "PLUS"), key := Value.str (Str.ofString "PLUS") 380, val := Value.int 14 379 } :: { hash := PyData.keyHash P (Str.ofString "MINUS"), key := Value.str (Str.ofString "MINUS") 382, val := Value.int 15 381 } :: { hash := PyData.keyHash P (Str.ofString "STAR"), key := Value.str (Str.ofString "STAR") 384, val := Value.int 16 383 } :: { hash := PyData.keyHash P (Str.ofString "SLASH"), key := Value.str (Str.ofString "SLASH") 386, val := Value.int 17 385 } :: { hash := PyData.keyHash P (Str.ofString "VBAR"), key := Value.str (Str.ofString "VBAR") 388, val := Value.int 18 387 } :: { hash := PyData.keyHash P (Str.ofString "AMPER"), key := Value.str (Str.ofString "AMPER") 390, val := Value.int 19 389 } :: { hash := PyData.keyHash P (Str.ofString "LESS"), key := Value.str (Str.ofString "LESS") 392, val := Value.int 20 391 } :: { hash := PyData.keyHash P (Str.ofString "GREATER"), key := Value.str (Str.ofString "GREATER") 394, val := Value.int 21 393 } :: { hash := PyData.keyHash P (Str.ofString "EQUAL"), key := Value.str (Str.ofString "EQUAL") 396, val := Value.int 22 395 } :: { hash := PyData.keyHash P (Str.ofString "DOT"), key := Value.str (Str.ofString "DOT") 398, val := Value.int 23 397 } :: { hash := PyData.keyHash P (Str.ofString "PERCENT"), key := Value.str (Str.ofString "PERCENT") 400, val := Value.int 24 399 } :: { hash := PyData.keyHash P (Str.ofString "LBRACE"), key := Value.str (Str.ofString "LBRACE") 402, val := Value.int 25 401 } :: { hash := PyData.keyHash P (Str.ofString "RBRACE"), key := Value.str (Str.ofString "RBRACE") 404, val := Value.int 26 403 } :: { hash := PyData.keyHash P (Str.ofString "EQEQUAL"), key := Value.str (Str.ofString "EQEQUAL") 406, val := Value.int 27 405 } :: { hash := PyData.keyHash P (Str.ofString "NOTEQUAL"), key := Value.str (Str.ofString "NOTEQUAL") 408, val := Value.int 28 407 } :: { hash := PyData.keyHash P (Str.ofString "LESSEQUAL"), key := Value.str (Str.ofString "LESSEQUAL") 410, val := Value.int 29 409 } :: { hash := PyData.keyHash P (Str.ofString "GREATEREQUAL"), key := Value.str (Str.ofString "GREATEREQUAL") 412, val := Value.int 30 411 } :: { hash := PyData.keyHash P (Str.ofString "TILDE"), key := Value.str (Str.ofString "TILDE") 414, val := Value.int 31 413 } :: { hash := PyData.keyHash P (Str.ofString "CIRCUMFLEX"), key := Value.str (Str.ofString "CIRCUMFLEX") 416, val := Value.int 32 415 } :: { hash := PyData.keyHash P (Str.ofString "LEFTSHIFT"), key := Value.str (Str.ofString "LEFTSHIFT") 418, val := Value.int 33 417 } :: { hash := PyData.keyHash P (Str.ofString "RIGHTSHIFT"), key := Value.str (Str.ofString "RIGHTSHIFT") 420, val := Value.int 34 419 } :: { hash := PyData.keyHash P (Str.ofString "DOUBLESTAR"), key := Value.str (Str.ofString "DOUBLESTAR") 422, val := Value.int 35 421 } :: { hash := PyData.keyHash P (Str.ofString "PLUSEQUAL"), key := Value.str (Str.ofString "PLUSEQUAL") 424, val := Value.int 36 423 } :: { hash := PyData.keyHash P (Str.ofString "MINEQUAL"), key := Value.str (Str.ofString "MINEQUAL") 426, val := Value.int 37 425 } :: { hash := PyData.keyHash P (Str.ofString "STAREQUAL"), key := Value.str (Str.ofString "STAREQUAL") 428, val := Value.int 38 427 } :: { hash := PyData.keyHash P (Str.ofString "SLASHEQUAL"), key := Value.str (Str.ofString "SLASHEQUAL") 430, val := Value.int 39 429 } :: { hash := PyData.keyHash P (Str.ofString "PERCENTEQUAL"), key := Value.str (Str.ofString "PERCENTEQUAL") 432, val := Value.int 40 431 } :: { hash := PyData.keyHash P (Str.ofString "AMPEREQUAL"), key := Value.str (Str.ofString "AMPEREQUAL") 434, val := Value.int 41 433 } :: { hash := PyData.keyHash P (Str.ofString "VBAREQUAL"), key := Value.str (Str.ofString "VBAREQUAL") 436, val := Value.int 42 435 } :: { hash := PyData.keyHash P (Str.ofString "CIRCUMFLEXEQUAL"), key := Value.str (Str.ofString "CIRCUMFLEXEQUAL") 438, val := Value.int 43 437 } :: { hash := PyData.keyHash P (Str.ofString "LEFTSHIFTEQUAL"), key := Value.str (Str.ofString "LEFTSHIFTEQUAL") 440, val := Value.int 44 439 } :: { hash := PyData.keyHash P (Str.ofString "RIGHTSHIFTEQUAL"), key := Value.str (Str.ofString "RIGHTSHIFTEQUAL") 442, val := Value.int 45 441 } :: { hash := PyData.keyHash P (Str.ofString "DOUBLESTAREQUAL"), key := Value.str (Str.ofString "DOUBLESTAREQUAL") 444, val := Value.int 46 443 } :: { hash := PyData.keyHash P (Str.ofString "DOUBLESLASH"), key := Value.str (Str.ofString "DOUBLESLASH") 446, val := Value.int 47 445 } :: { hash := PyData.keyHash P (Str.ofString "DOUBLESLASHEQUAL"), key := Value.str (Str.ofString "DOUBLESLASHEQUAL") 448, val := Value.int 48 447 } :: { hash := PyData.keyHash P (Str.ofString "AT"), key := Value.str (Str.ofString "AT") 450, val := Value.int 49 449 } :: { hash := PyData.keyHash P (Str.ofString "ATEQUAL"), key := Value.str (Str.ofString "ATEQUAL") 452, val := Value.int 50 451 } :: { hash := PyData.keyHash P (Str.ofString "RARROW"), key := Value.str (Str.ofString "RARROW") 454, val := Value.int 51 453 } :: { hash := PyData.keyHash P (Str.ofString "ELLIPSIS"), key := Value.str (Str.ofString "ELLIPSIS") 456, val := Value.int 52 455 } :: { hash := PyData.keyHash P (Str.ofString "COLONEQUAL"), key := Value.str (Str.ofString "COLONEQUAL") 458, val := Value.int 53 457 } :: { hash := PyData.keyHash P (Str.ofString "EXCLAMATION"), key := Value.str (Str.ofString "EXCLAMATION") 460, val := Value.int 54 459 } :: { hash := PyData.keyHash P (Str.ofString "NT_OFFSET"), key := Value.str (Str.ofString "NT_OFFSET") 462, val := Value.int 256 461 } :: { hash := PyData.keyHash P (Str.ofString "EXACT_TOKEN_TYPES"), key := Value.str (Str.ofString "EXACT_TOKEN_TYPES") 559, val := Value.ref 144 } :: [])) 70 }
noncomputable def o12z (P : Params) : Obj := { cls := Value.none, data := Data.fields #[] }
noncomputable def o12a (P : Params) : Obj := { cls := Value.none, data := Data.fields #[Value.int 1 0, Value.int 0 0, Value.ref 20, Value.int 5 0, Value.int 0 0, Value.ref 27] }
noncomputable def o12b (P : Params) : Obj := { cls := Value.none, data := Data.fields #[Value.int 1 0, Value.int 0 0, Value.ref 20, Value.int 5 0, Value.int 0 0, Value.ref 27, Value.int 54 0, Value.int 0 0, Value.ref 93, Value.int 67 0, Value.int 0 0, Value.ref 100, Value.int 69 0, Value.int 0 0, Value.ref 107, Value.int 71 0, Value.int 0 0, Value.ref 114, Value.int 73 0, Value.int 0 0, Value.ref 121, Value.int 75 0, Value.int 0 0, Value.ref 128, Value.int 77 0, Value.int 0 0, Value.ref 135, Value.int 79 0, Value.int 0 0, Value.ref 142] }
noncomputable def tZ (P : Params) : BT := (.node (boot_o_0 P) (.node (boot_o_1 P) (.node (boot_o_3 P) (.node (boot_o_7 P) .nil .nil) (.node (o11 P) .nil .nil)) (.node (boot_o_5 P) (.node (boot_o_9 P) .nil .nil) (.node (o13 P) .nil .nil))) (.node (boot_o_2 P) (.node (boot_o_4 P) (.node (boot_o_8 P) .nil .nil) (.node (o12z P) .nil .nil)) (.node (boot_o_6 P) (.node (boot_o_10 P) .nil .nil) (.node (o14 P) .nil .nil))))
noncomputable def tA (P : Params) : BT := (.node (boot_o_0 P) (.node (boot_o_1 P) (.node (o3a P) (.node (boot_o_7 P) (.node (o15 P) (.node (o31 P) (.node (o63 P) .nil .nil) .nil) (.node (o47 P) (.node (o79 P) .nil .nil) .nil)) (.node (o23 P) (.node (o39 P) (.node (o71 P) .nil .nil) .nil) (.node (o55 P) (.node (o87 P) .nil .nil) .nil))) (.node (o11 P) (.node (o19 P) (.node (o35 P) (.node (o67 P) .nil .nil) .nil) (.node (o51 P) (.node (o83 P) .nil .nil) .nil)) (.node (o27 P) (.node (o43 P) (.node (o75 P) .nil .nil) .nil) (.node (o59 P) .nil .nil)))) (.node (boot_o_5 P) (.node (boot_o_9 P) (.node (o17 P) (.node (o33 P) (.node (o65 P) .nil .nil) .nil) (.node (o49 P) (.node (o81 P) .nil .nil) .nil)) (.node (o25 P) (.node (o41 P) (.node (o73 P) .nil .nil) .nil) (.node (o57 P) .nil .nil))) (.node (o13 P) (.node (o21 P) (.node (o37 P) (.node (o69 P) .nil .nil) .nil) (.node (o53 P) (.node (o85 P) .nil .nil) .nil)) (.node (o29 P) (.node (o45 P) (.node (o77 P) .nil .nil) .nil) (.node (o61 P) .nil .nil))))) (.node (boot_o_2 P) (.node (boot_o_4 P) (.node (boot_o_8 P) (.node (o16 P) (.node (o32 P) (.node (o64 P) .nil .nil) .nil) (.node (o48 P) (.node (o80 P) .nil .nil) .nil)) (.node (o24 P) (.node (o40 P) (.node (o72 P) .nil .nil) .nil) (.node (o56 P) .nil .nil))) (.node (o12a P) (.node (o20 P) (.node (o36 P) (.node (o68 P) .nil .nil) .nil) (.node (o52 P) (.node (o84 P) .nil .nil) .nil)) (.node (o28 P) (.node (o44 P) (.node (o76 P) .nil .nil) .nil) (.node (o60 P) .nil .nil)))) (.node (boot_o_6 P) (.node (boot_o_10 P) (.node (o18 P) (.node (o34 P) (.node (o66 P) .nil .nil) .nil) (.node (o50 P) (.node (o82 P) .nil .nil) .nil)) (.node (o26 P) (.node (o42 P) (.node (o74 P) .nil .nil) .nil) (.node (o58 P) .nil .nil))) (.node (o14 P) (.node (o22 P) (.node (o38 P) (.node (o70 P) .nil .nil) .nil) (.node (o54 P) (.node (o86 P) .nil .nil) .nil)) (.node (o30 P) (.node (o46 P) (.node (o78 P) .nil .nil) .nil) (.node (o62 P) .nil .nil))))))
noncomputable def tB (P : Params) : BT := (.node (boot_o_0 P) (.node (boot_o_1 P) (.node (o3b P) (.node (boot_o_7 P) (.node (o15 P) (.node (o31 P) (.node (o63 P) (.node (o127 P) .nil .nil) .nil) (.node (o95 P) .nil .nil)) (.node (o47 P) (.node (o79 P) (.node (o143 P) .nil .nil) .nil) (.node (o111 P) .nil .nil))) (.node (o23 P) (.node (o39 P) (.node (o71 P) (.node (o135 P) .nil .nil) .nil) (.node (o103 P) .nil .nil)) (.node (o55 P) (.node (o87 P) .nil .nil) (.node (o119 P) .nil .nil)))) (.node (o11 P) (.node (o19 P) (.node (o35 P) (.node (o67 P) (.node (o131 P) .nil .nil) .nil) (.node (o99 P) .nil .nil)) (.node (o51 P) (.node (o83 P) .nil .nil) (.node (o115 P) .nil .nil))) (.node (o27 P) (.node (o43 P) (.node (o75 P) (.node (o139 P) .nil .nil) .nil) (.node (o107 P) .nil .nil)) (.node (o59 P) (.node (o91 P) .nil .nil) (.node (o123 P) .nil .nil))))) (.node (boot_o_5 P) (.node (boot_o_9 P) (.node (o17 P) (.node (o33 P) (.node (o65 P) (.node (o129 P) .nil .nil) .nil) (.node (o97 P) .nil .nil)) (.node (o49 P) (.node (o81 P) .nil .nil) (.node (o113 P) .nil .nil))) (.node (o25 P) (.node (o41 P) (.node (o73 P) (.node (o137 P) .nil .nil) .nil) (.node (o105 P) .nil .nil)) (.node (o57 P) (.node (o89 P) .nil .nil) (.node (o121 P) .nil .nil)))) (.node (o13 P) (.node (o21 P) (.node (o37 P) (.node (o69 P) (.node (o133 P) .nil .nil) .nil) (.node (o101 P) .nil .nil)) (.node (o53 P) (.node (o85 P) .nil .nil) (.node (o117 P) .nil .nil))) (.node (o29 P) (.node (o45 P) (.node (o77 P) (.node (o141 P) .nil .nil) .nil) (.node (o109 P) .nil .nil)) (.node (o61 P) (.node (o93 P) .nil .nil) (.node (o125 P) .nil .nil)))))) (.node (boot_o_2 P) (.node (boot_o_4 P) (.node (boot_o_8 P) (.node (o16 P) (.node (o32 P) (.node (o64 P) (.node (o128 P) .nil .nil) .nil) (.node (o96 P) .nil .nil)) (.node (o48 P) (.node (o80 P) .nil .nil) (.node (o112 P) .nil .nil))) (.node (o24 P) (.node (o40 P) (.node (o72 P) (.node (o136 P) .nil .nil) .nil) (.node (o104 P) .nil .nil)) (.node (o56 P) (.node (o88 P) .nil .nil) (.node (o120 P) .nil .nil)))) (.node (o12b P) (.node (o20 P) (.node (o36 P) (.node (o68 P) (.node (o132 P) .nil .nil) .nil) (.node (o100 P) .nil .nil)) (.node (o52 P) (.node (o84 P) .nil .nil) (.node (o116 P) .nil .nil))) (.node (o28 P) (.node (o44 P) (.node (o76 P) (.node (o140 P) .nil .nil) .nil) (.node (o108 P) .nil .nil)) (.node (o60 P) (.node (o92 P) .nil .nil) (.node (o124 P) .nil .nil))))) (.node (boot_o_6 P) (.node (boot_o_10 P) (.node (o18 P) (.node (o34 P) (.node (o66 P) (.node (o130 P) .nil .nil) .nil) (.node (o98 P) .nil .nil)) (.node (o50 P) (.node (o82 P) .nil .nil) (.node (o114 P) .nil .nil))) (.node (o26 P) (.node (o42 P) (.node (o74 P) (.node (o138 P) .nil .nil) .nil) (.node (o106 P) .nil .nil)) (.node (o58 P) (.node (o90 P) .nil .nil) (.node (o122 P) .nil .nil)))) (.node (o14 P) (.node (o22 P) (.node (o38 P) (.node (o70 P) (.node (o134 P) .nil .nil) .nil) (.node (o102 P) .nil .nil)) (.node (o54 P) (.node (o86 P) .nil .nil) (.node (o118 P) .nil .nil))) (.node (o30 P) (.node (o46 P) (.node (o78 P) (.node (o142 P) .nil .nil) .nil) (.node (o110 P) .nil .nil)) (.node (o62 P) (.node (o94 P) .nil .nil) (.node (o126 P) .nil .nil)))))))
noncomputable def tC (P : Params) : BT := (.node (boot_o_0 P) (.node (boot_o_1 P) (.node (o3c P) (.node (boot_o_7 P) (.node (o15 P) (.node (o31 P) (.node (o63 P) (.node (o127 P) .nil .nil) .nil) (.node (o95 P) .nil .nil)) (.node (o47 P) (.node (o79 P) (.node (o143 P) .nil .nil) .nil) (.node (o111 P) .nil .nil))) (.node (o23 P) (.node (o39 P) (.node (o71 P) (.node (o135 P) .nil .nil) .nil) (.node (o103 P) .nil .nil)) (.node (o55 P) (.node (o87 P) .nil .nil) (.node (o119 P) .nil .nil)))) (.node (o11 P) (.node (o19 P) (.node (o35 P) (.node (o67 P) (.node (o131 P) .nil .nil) .nil) (.node (o99 P) .nil .nil)) (.node (o51 P) (.node (o83 P) .nil .nil) (.node (o115 P) .nil .nil))) (.node (o27 P) (.node (o43 P) (.node (o75 P) (.node (o139 P) .nil .nil) .nil) (.node (o107 P) .nil .nil)) (.node (o59 P) (.node (o91 P) .nil .nil) (.node (o123 P) .nil .nil))))) (.node (boot_o_5 P) (.node (boot_o_9 P) (.node (o17 P) (.node (o33 P) (.node (o65 P) (.node (o129 P) .nil .nil) .nil) (.node (o97 P) .nil .nil)) (.node (o49 P) (.node (o81 P) (.node (o145 P) .nil .nil) .nil) (.node (o113 P) .nil .nil))) (.node (o25 P) (.node (o41 P) (.node (o73 P) (.node (o137 P) .nil .nil) .nil) (.node (o105 P) .nil .nil)) (.node (o57 P) (.node (o89 P) .nil .nil) (.node (o121 P) .nil .nil)))) (.node (o13 P) (.node (o21 P) (.node (o37 P) (.node (o69 P) (.node (o133 P) .nil .nil) .nil) (.node (o101 P) .nil .nil)) (.node (o53 P) (.node (o85 P) .nil .nil) (.node (o117 P) .nil .nil))) (.node (o29 P) (.node (o45 P) (.node (o77 P) (.node (o141 P) .nil .nil) .nil) (.node (o109 P) .nil .nil)) (.node (o61 P) (.node (o93 P) .nil .nil) (.node (o125 P) .nil .nil)))))) (.node (boot_o_2 P) (.node (boot_o_4 P) (.node (boot_o_8 P) (.node (o16 P) (.node (o32 P) (.node (o64 P) (.node (o128 P) .nil .nil) .nil) (.node (o96 P) .nil .nil)) (.node (o48 P) (.node (o80 P) (.node (o144 P) .nil .nil) .nil) (.node (o112 P) .nil .nil))) (.node (o24 P) (.node (o40 P) (.node (o72 P) (.node (o136 P) .nil .nil) .nil) (.node (o104 P) .nil .nil)) (.node (o56 P) (.node (o88 P) .nil .nil) (.node (o120 P) .nil .nil)))) (.node (o12b P) (.node (o20 P) (.node (o36 P) (.node (o68 P) (.node (o132 P) .nil .nil) .nil) (.node (o100 P) .nil .nil)) (.node (o52 P) (.node (o84 P) .nil .nil) (.node (o116 P) .nil .nil))) (.node (o28 P) (.node (o44 P) (.node (o76 P) (.node (o140 P) .nil .nil) .nil) (.node (o108 P) .nil .nil)) (.node (o60 P) (.node (o92 P) .nil .nil) (.node (o124 P) .nil .nil))))) (.node (boot_o_6 P) (.node (boot_o_10 P) (.node (o18 P) (.node (o34 P) (.node (o66 P) (.node (o130 P) .nil .nil) .nil) (.node (o98 P) .nil .nil)) (.node (o50 P) (.node (o82 P) (.node (o146 P) .nil .nil) .nil) (.node (o114 P) .nil .nil))) (.node (o26 P) (.node (o42 P) (.node (o74 P) (.node (o138 P) .nil .nil) .nil) (.node (o106 P) .nil .nil)) (.node (o58 P) (.node (o90 P) .nil .nil) (.node (o122 P) .nil .nil)))) (.node (o14 P) (.node (o22 P) (.node (o38 P) (.node (o70 P) (.node (o134 P) .nil .nil) .nil) (.node (o102 P) .nil .nil)) (.node (o54 P) (.node (o86 P) .nil .nil) (.node (o118 P) .nil .nil))) (.node (o30 P) (.node (o46 P) (.node (o78 P) (.node (o142 P) .nil .nil) .nil) (.node (o110 P) .nil .nil)) (.node (o62 P) (.node (o94 P) .nil .nil) (.node (o126 P) .nil .nil)))))))
noncomputable def tD (P : Params) : BT := (.node (boot_o_0 P) (.node (boot_o_1 P) (.node (o3 P) (.node (boot_o_7 P) (.node (o15 P) (.node (o31 P) (.node (o63 P) (.node (o127 P) .nil .nil) (.node (o191 P) .nil .nil)) (.node (o95 P) (.node (o159 P) .nil .nil) .nil)) (.node (o47 P) (.node (o79 P) (.node (o143 P) .nil .nil) .nil) (.node (o111 P) (.node (o175 P) .nil .nil) .nil))) (.node (o23 P) (.node (o39 P) (.node (o71 P) (.node (o135 P) .nil .nil) .nil) (.node (o103 P) (.node (o167 P) .nil .nil) .nil)) (.node (o55 P) (.node (o87 P) (.node (o151 P) .nil .nil) .nil) (.node (o119 P) (.node (o183 P) .nil .nil) .nil)))) (.node (o11 P) (.node (o19 P) (.node (o35 P) (.node (o67 P) (.node (o131 P) .nil .nil) (.node (o195 P) .nil .nil)) (.node (o99 P) (.node (o163 P) .nil .nil) .nil)) (.node (o51 P) (.node (o83 P) (.node (o147 P) .nil .nil) .nil) (.node (o115 P) (.node (o179 P) .nil .nil) .nil))) (.node (o27 P) (.node (o43 P) (.node (o75 P) (.node (o139 P) .nil .nil) .nil) (.node (o107 P) (.node (o171 P) .nil .nil) .nil)) (.node (o59 P) (.node (o91 P) (.node (o155 P) .nil .nil) .nil) (.node (o123 P) (.node (o187 P) .nil .nil) .nil))))) (.node (boot_o_5 P) (.node (boot_o_9 P) (.node (o17 P) (.node (o33 P) (.node (o65 P) (.node (o129 P) .nil .nil) (.node (o193 P) .nil .nil)) (.node (o97 P) (.node (o161 P) .nil .nil) .nil)) (.node (o49 P) (.node (o81 P) (.node (o145 P) .nil .nil) .nil) (.node (o113 P) (.node (o177 P) .nil .nil) .nil))) (.node (o25 P) (.node (o41 P) (.node (o73 P) (.node (o137 P) .nil .nil) .nil) (.node (o105 P) (.node (o169 P) .nil .nil) .nil)) (.node (o57 P) (.node (o89 P) (.node (o153 P) .nil .nil) .nil) (.node (o121 P) (.node (o185 P) .nil .nil) .nil)))) (.node (o13 P) (.node (o21 P) (.node (o37 P) (.node (o69 P) (.node (o133 P) .nil .nil) (.node (o197 P) .nil .nil)) (.node (o101 P) (.node (o165 P) .nil .nil) .nil)) (.node (o53 P) (.node (o85 P) (.node (o149 P) .nil .nil) .nil) (.node (o117 P) (.node (o181 P) .nil .nil) .nil))) (.node (o29 P) (.node (o45 P) (.node (o77 P) (.node (o141 P) .nil .nil) .nil) (.node (o109 P) (.node (o173 P) .nil .nil) .nil)) (.node (o61 P) (.node (o93 P) (.node (o157 P) .nil .nil) .nil) (.node (o125 P) (.node (o189 P) .nil .nil) .nil)))))) (.node (boot_o_2 P) (.node (boot_o_4 P) (.node (boot_o_8 P) (.node (o16 P) (.node (o32 P) (.node (o64 P) (.node (o128 P) .nil .nil) (.node (o192 P) .nil .nil)) (.node (o96 P) (.node (o160 P) .nil .nil) .nil)) (.node (o48 P) (.node (o80 P) (.node (o144 P) .nil .nil) .nil) (.node (o112 P) (.node (o176 P) .nil .nil) .nil))) (.node (o24 P) (.node (o40 P) (.node (o72 P) (.node (o136 P) .nil .nil) .nil) (.node (o104 P) (.node (o168 P) .nil .nil) .nil)) (.node (o56 P) (.node (o88 P) (.node (o152 P) .nil .nil) .nil) (.node (o120 P) (.node (o184 P) .nil .nil) .nil)))) (.node (o12 P) (.node (o20 P) (.node (o36 P) (.node (o68 P) (.node (o132 P) .nil .nil) (.node (o196 P) .nil .nil)) (.node (o100 P) (.node (o164 P) .nil .nil) .nil)) (.node (o52 P) (.node (o84 P) (.node (o148 P) .nil .nil) .nil) (.node (o116 P) (.node (o180 P) .nil .nil) .nil))) (.node (o28 P) (.node (o44 P) (.node (o76 P) (.node (o140 P) .nil .nil) .nil) (.node (o108 P) (.node (o172 P) .nil .nil) .nil)) (.node (o60 P) (.node (o92 P) (.node (o156 P) .nil .nil) .nil) (.node (o124 P) (.node (o188 P) .nil .nil) .nil))))) (.node (boot_o_6 P) (.node (boot_o_10 P) (.node (o18 P) (.node (o34 P) (.node (o66 P) (.node (o130 P) .nil .nil) (.node (o194 P) .nil .nil)) (.node (o98 P) (.node (o162 P) .nil .nil) .nil)) (.node (o50 P) (.node (o82 P) (.node (o146 P) .nil .nil) .nil) (.node (o114 P) (.node (o178 P) .nil .nil) .nil))) (.node (o26 P) (.node (o42 P) (.node (o74 P) (.node (o138 P) .nil .nil) .nil) (.node (o106 P) (.node (o170 P) .nil .nil) .nil)) (.node (o58 P) (.node (o90 P) (.node (o154 P) .nil .nil) .nil) (.node (o122 P) (.node (o186 P) .nil .nil) .nil)))) (.node (o14 P) (.node (o22 P) (.node (o38 P) (.node (o70 P) (.node (o134 P) .nil .nil) (.node (o198 P) .nil .nil)) (.node (o102 P) (.node (o166 P) .nil .nil) .nil)) (.node (o54 P) (.node (o86 P) (.node (o150 P) .nil .nil) .nil) (.node (o118 P) (.node (o182 P) .nil .nil) .nil))) (.node (o30 P) (.node (o46 P) (.node (o78 P) (.node (o142 P) .nil .nil) .nil) (.node (o110 P) (.node (o174 P) .nil .nil) .nil)) (.node (o62 P) (.node (o94 P) (.node (o158 P) .nil .nil) .nil) (.node (o126 P) (.node (o190 P) .nil .nil) .nil)))))))
noncomputable def hZ (P : Params) : Heap := ⟨#[boot_o_0 P, boot_o_1 P, boot_o_2 P, boot_o_3 P, boot_o_4 P, boot_o_5 P, boot_o_6 P, boot_o_7 P, boot_o_8 P, boot_o_9 P, boot_o_10 P, o11 P, o12z P, o13 P, o14 P], {}⟩
noncomputable def hD (P : Params) : Heap := ⟨#[boot_o_0 P, boot_o_1 P, boot_o_2 P, o3 P, boot_o_4 P, boot_o_5 P, boot_o_6 P, boot_o_7 P, boot_o_8 P, boot_o_9 P, boot_o_10 P, o11 P, o12 P, o13 P, o14 P, o15 P, o16 P, o17 P, o18 P, o19 P, o20 P, o21 P, o22 P, o23 P, o24 P, o25 P, o26 P, o27 P, o28 P, o29 P, o30 P, o31 P, o32 P, o33 P, o34 P, o35 P, o36 P, o37 P, o38 P, o39 P, o40 P, o41 P, o42 P, o43 P, o44 P, o45 P, o46 P, o47 P, o48 P, o49 P, o50 P, o51 P, o52 P, o53 P, o54 P, o55 P, o56 P, o57 P, o58 P, o59 P, o60 P, o61 P, o62 P, o63 P, o64 P, o65 P, o66 P, o67 P, o68 P, o69 P, o70 P, o71 P, o72 P, o73 P, o74 P, o75 P, o76 P, o77 P, o78 P, o79 P, o80 P, o81 P, o82 P, o83 P, o84 P, o85 P, o86 P, o87 P, o88 P, o89 P, o90 P, o91 P, o92 P, o93 P, o94 P, o95 P, o96 P, o97 P, o98 P, o99 P, o100 P, o101 P, o102 P, o103 P, o104 P, o105 P, o106 P, o107 P, o108 P, o109 P, o110 P, o111 P, o112 P, o113 P, o114 P, o115 P, o116 P, o117 P, o118 P, o119 P, o120 P, o121 P, o122 P, o123 P, o124 P, o125 P, o126 P, o127 P, o128 P, o129 P, o130 P, o131 P, o132 P, o133 P, o134 P, o135 P, o136 P, o137 P, o138 P, o139 P, o140 P, o141 P, o142 P, o143 P, o144 P, o145 P, o146 P, o147 P, o148 P, o149 P, o150 P, o151 P, o152 P, o153 P, o154 P, o155 P, o156 P, o157 P, o158 P, o159 P, o160 P, o161 P, o162 P, o163 P, o164 P, o165 P, o166 P, o167 P, o168 P, o169 P, o170 P, o171 P, o172 P, o173 P, o174 P, o175 P, o176 P, o177 P, o178 P, o179 P, o180 P, o181 P, o182 P, o183 P, o184 P, o185 P, o186 P, o187 P, o188 P, o189 P, o190 P, o191 P, o192 P, o193 P, o194 P, o195 P, o196 P, o197 P, o198 P], {}⟩
noncomputable def KF : Params → Frag := fun P => (nat_lit 2, boot_o_2 P) :: (nat_lit 3, o3 P) :: (nat_lit 15, o15 P) :: (nat_lit 17, o17 P) :: (nat_lit 18, o18 P) :: (nat_lit 20, o20 P) :: (nat_lit 21, o21 P) :: (nat_lit 32, o32 P) :: (nat_lit 34, o34 P) :: (nat_lit 35, o35 P) :: (nat_lit 37, o37 P) :: (nat_lit 38, o38 P) :: (nat_lit 39, o39 P) :: (nat_lit 41, o41 P) :: (nat_lit 42, o42 P) :: (nat_lit 44, o44 P) :: (nat_lit 45, o45 P) :: (nat_lit 46, o46 P) :: (nat_lit 48, o48 P) :: (nat_lit 49, o49 P) :: (nat_lit 51, o51 P) :: (nat_lit 52, o52 P) :: (nat_lit 53, o53 P) :: (nat_lit 55, o55 P) :: (nat_lit 56, o56 P) :: (nat_lit 58, o58 P) :: (nat_lit 59, o59 P) :: (nat_lit 60, o60 P) :: (nat_lit 62, o62 P) :: (nat_lit 63, o63 P) :: (nat_lit 65, o65 P) :: (nat_lit 66, o66 P) :: (nat_lit 67, o67 P) :: (nat_lit 69, o69 P) :: (nat_lit 70, o70 P) :: (nat_lit 72, o72 P) :: (nat_lit 73, o73 P) :: (nat_lit 74, o74 P) :: (nat_lit 76, o76 P) :: (nat_lit 77, o77 P) :: (nat_lit 79, o79 P) :: (nat_lit 80, o80 P) :: (nat_lit 81, o81 P) :: (nat_lit 82, o82 P) :: (nat_lit 83, o83 P) :: (nat_lit 84, o84 P) :: (nat_lit 85, o85 P) :: (nat_lit 88, o88 P) :: (nat_lit 90, o90 P) :: (nat_lit 91, o91 P) :: (nat_lit 93, o93 P) :: (nat_lit 94, o94 P) :: (nat_lit 95, o95 P) :: (nat_lit 97, o97 P) :: (nat_lit 98, o98 P) :: (nat_lit 100, o100 P) :: (nat_lit 101, o101 P) :: (nat_lit 102, o102 P) :: (nat_lit 104, o104 P) :: (nat_lit 105, o105 P) :: (nat_lit 107, o107 P) :: (nat_lit 108, o108 P) :: (nat_lit 109, o109 P) :: (nat_lit 111, o111 P) :: (nat_lit 112, o112 P) :: (nat_lit 114, o114 P) :: (nat_lit 115, o115 P) :: (nat_lit 116, o116 P) :: (nat_lit 118, o118 P) :: (nat_lit 119, o119 P) :: (nat_lit 121, o121 P) :: (nat_lit 122, o122 P) :: (nat_lit 123, o123 P) :: (nat_lit 125, o125 P) :: (nat_lit 126, o126 P) :: (nat_lit 128, o128 P) :: (nat_lit 129, o129 P) :: (nat_lit 130, o130 P) :: (nat_lit 132, o132 P) :: (nat_lit 133, o133 P) :: (nat_lit 135, o135 P) :: (nat_lit 136, o136 P) :: (nat_lit 137, o137 P) :: (nat_lit 139, o139 P) :: (nat_lit 140, o140 P) :: (nat_lit 142, o142 P) :: (nat_lit 143, o143 P) :: (nat_lit 144, o144 P) :: (nat_lit 147, o147 P) :: (nat_lit 149, o149 P) :: (nat_lit 150, o150 P) :: (nat_lit 152, o152 P) :: (nat_lit 153, o153 P) :: (nat_lit 154, o154 P) :: (nat_lit 156, o156 P) :: (nat_lit 157, o157 P) :: (nat_lit 159, o159 P) :: (nat_lit 160, o160 P) :: (nat_lit 161, o161 P) :: (nat_lit 163, o163 P) :: (nat_lit 164, o164 P) :: (nat_lit 166, o166 P) :: (nat_lit 167, o167 P) :: (nat_lit 168, o168 P) :: (nat_lit 170, o170 P) :: (nat_lit 171, o171 P) :: (nat_lit 173, o173 P) :: (nat_lit 174, o174 P) :: (nat_lit 175, o175 P) :: (nat_lit 177, o177 P) :: (nat_lit 178, o178 P) :: (nat_lit 180, o180 P) :: (nat_lit 181, o181 P) :: (nat_lit 182, o182 P) :: (nat_lit 185, o185 P) :: (nat_lit 186, o186 P) :: (nat_lit 187, o187 P) :: (nat_lit 189, o189 P) :: (nat_lit 190, o190 P) :: (nat_lit 192, o192 P) :: (nat_lit 193, o193 P) :: (nat_lit 194, o194 P) :: (nat_lit 197, o197 P) :: (nat_lit 198, o198 P) :: []
noncomputable def KA : List Addr := [2, 3, 15, 17, 18, 20, 21, 32, 34, 35, 37, 38, 39, 41, 42, 44, 45, 46, 48, 49, 51, 52, 53, 55, 56, 58, 59, 60, 62, 63, 65, 66, 67, 69, 70, 72, 73, 74, 76, 77, 79, 80, 81, 82, 83, 84, 85, 88, 90, 91, 93, 94, 95, 97, 98, 100, 101, 102, 104, 105, 107, 108, 109, 111, 112, 114, 115, 116, 118, 119, 121, 122, 123, 125, 126, 128, 129, 130, 132, 133, 135, 136, 137, 139, 140, 142, 143, 144, 147, 149, 150, 152, 153, 154, 156, 157, 159, 160, 161, 163, 164, 166, 167, 168, 170, 171, 173, 174, 175, 177, 178, 180, 181, 182, 185, 186, 187, 189, 190, 192, 193, 194, 197, 198]
noncomputable def view : Program := { PE with main := { PE.main with body := PB.take 1 ++ ((PB.drop 2).take 1 ++ ((PB.drop 4).take 2 ++ ((PB.drop 7).take 7 ++ ((PB.drop 15).take 51 ++ PB.drop 67)))) } }
noncomputable def loose : List Str := [Str.ofString "Whitespace", Str.ofString "EXACT_TOKEN_TYPES"]
noncomputable def envT : Env := { scope := PE.main.scope, locals := mainNs, globals := mainNs, cells := [], code := .ref 13, frame := some 14 }
abbrev bT : List Stmt := behindTheImports PE
noncomputable abbrev cT : Code := .body bT envT
abbrev p0 : Pos := ⟨0, 0, 0, 0⟩
noncomputable def stA : List Stmt := PB.take 3
noncomputable def stB : List Stmt := (PB.drop 3).take 61
noncomputable def stC : List Stmt := (PB.drop 64).take 1
noncomputable def stD : List Stmt := PB.drop 65
noncomputable def sA (w : World) (t : Params → BT) (k tk : Nat) (os : OsState) : SharedT := ⟨t w.params, k, {}, #[], {}, tk, os⟩
noncomputable def pcs (w : World) (n : Nat) (l : List Stmt) (q : Pos) (t : Params → BT) (k tk : Nat) (os : OsState) : Option (Flow × SharedT × Code × Pos) := segRunT treeTable PE w 11 (some (.ref 6)) 1 n (sA w t k tk os) (piecesOf l envT cT q [topFrame p0])
noncomputable def pcd (w : World) (t : Params → BT) (k tk : Nat) (q : Pos) (os : OsState) : Option (Flow × SharedT × Code × Pos) := some (.next, sA w t k tk os, cT, q)
theorem pre0 (w : World) : (fun os => topGo treeTable PE w 11 (some (.ref 6)) 12 ⟨boot_heap w.params, #[], boot_drawn, boot_toks, os⟩ (topStub PE)) = fun os => some (⟨hZ w.params, #[], {}, 187, os⟩, ⟨denote treeTable cT, cT, p0, [topFrame p0]⟩) := by kernel_rfl
theorem blk0 (w : World) : (fun os => segRun treeTable PE w 11 (some (.ref 6)) 1 1 ⟨hZ w.params, #[], {}, 187, os⟩ (blockOf bT envT cT p0 [topFrame p0])) = fun os => some (.next, (sA w tZ 15 187 os).abs, cT, p0) := by kernel_rfl
theorem pA1 (w : World) : pcs (w.withFollow "special-get-raises" false) 527 stA p0 tZ 15 187 = pcd (w.withFollow "special-get-raises" false) tA 88 292 ⟨5, 0, 51, 16⟩ := by kernel_rfl
theorem pA2 (w : World) : pcs (w.withFollow "special-get-raises" true) 527 stA p0 tZ 15 187 = pcd (w.withFollow "special-get-raises" true) tA 88 292 ⟨5, 0, 51, 16⟩ := by kernel_rfl
theorem pA (w : World) : pcs w 527 stA p0 tZ 15 187 = pcd w tA 88 292 ⟨5, 0, 51, 16⟩ := byRow2 "special-get-raises" (P := fun w => pcs w 527 stA p0 tZ 15 187 = pcd w tA 88 292 ⟨5, 0, 51, 16⟩) pA1 pA2 w
theorem pB (w : World) : pcs w 719 stB ⟨5, 0, 51, 16⟩ tA 88 292 = pcd w tB 144 463 ⟨130, 0, 130, 9⟩ := by kernel_rfl
theorem pC1 (w : World) : pcs (w.withFollow "special-get-raises" false) 979 stC ⟨130, 0, 130, 9⟩ tB 144 463 = pcd (w.withFollow "special-get-raises" false) tC 147 560 ⟨131, 0, 131, 17⟩ := by kernel_rfl
theorem pC2 (w : World) : pcs (w.withFollow "special-get-raises" true) 979 stC ⟨130, 0, 130, 9⟩ tB 144 463 = pcd (w.withFollow "special-get-raises" true) tC 147 560 ⟨131, 0, 131, 17⟩ := by kernel_rfl
theorem pC (w : World) : pcs w 979 stC ⟨130, 0, 130, 9⟩ tB 144 463 = pcd w tC 147 560 ⟨131, 0, 131, 17⟩ := byRow2 "special-get-raises" (P := fun w => pcs w 979 stC ⟨130, 0, 130, 9⟩ tB 144 463 = pcd w tC 147 560 ⟨131, 0, 131, 17⟩) pC1 pC2 w
theorem pD (w : World) : pcs w 250 stD ⟨131, 0, 131, 17⟩ tC 147 560 = pcd w tD 199 630 ⟨188, 0, 194, 52⟩ := by kernel_rfl
theorem fin0 (w : World) : (fun os => topRun treeTable PE w 11 (some (.ref 6)) 2 (sA w tD 199 630 os).abs ⟨doneF .next, cT, ⟨188, 0, 194, 52⟩, [topFrame p0]⟩) = fun os => some ⟨hD w.params, #[], {}, 630, os⟩ := by kernel_rfl
theorem bodyIs : bT = stA ++ (stB ++ (stC ++ (stD ++ []))) := by kernel_rfl
theorem run0 (w : World) (os : OsState) : topRun treeTable PE w 11 (some (.ref 6)) (12 + (1 + (527 + (719 + (979 + (250 + 2)))))) ⟨boot_heap w.params, #[], boot_drawn, boot_toks, os⟩ (topStub PE) = some ⟨hD w.params, #[], {}, 630, os⟩ := by
  refine go_top (congrFun (pre0 w) os) ?_
  refine piece_block (congrFun (blk0 w) os) ?_
  have e : restOf bT envT cT p0 [topFrame p0] = restOf (stA ++ (stB ++ (stC ++ (stD ++ [])))) envT cT p0 [topFrame p0] := congrArg (fun b => restOf b envT cT p0 [topFrame p0]) bodyIs
  rw [e]
  refine piece_app (segRun_of (congrFun (pA w) os)) ?_
  refine piece_app (segRun_of (congrFun (pB w) os)) ?_
  refine piece_app (segRun_of (congrFun (pC w) os)) ?_
  refine piece_app (segRun_of (congrFun (pD w) os)) ?_
  exact piece_nil (congrFun (fin0 w) os)


theorem size0 (w : World) : ((boot_heap w.params).isNs mainGlobals && (#[] : Array GenState).size == 0, (boot_heap w.params).objs.size, (boot_heap w.params).nsMap mainGlobals "__annotations__") = (true, 11, some (.ref 6)) := by kernel_rfl
theorem open0 : ∀ w : World, (fencedOpening treeTable PE w 5068).map (fun s => (s.heap, s.gens, s.drawn, s.toks)) = some (boot_heap w.params, #[], boot_drawn, boot_toks) :=
  boot_open (by kernel_rfl) (by decide) (fun s => by kernel_rfl)
theorem keys0 (P : Params) : KA = (KF P).map (·.1) := by kernel_rfl
noncomputable def hkK : Hook := kHook KF KA keys0
theorem looks0 (w : World) : (fun os => ((staticsOk (importedModules PE.main.body) (boot_heap w.params) (hD w.params) && namesBound PE (hD w.params) && gensDone ⟨hD w.params, #[], {}, 630, os⟩ && laidKept (boot_heap w.params) (hD w.params)),
    openSeen view loose (importedModules PE.main.body) (fun s => xlAt view [] s && recOk (RowW.records Challenge.rw_ti0050_01.row.toRowW) s) true ⟨hD w.params, #[], {}, 630, os⟩, KA.map (hD w.params).get?)) = fun _ => (true, openGood view loose, (KF w.params).map fun p => some p.2) := by kernel_rfl
theorem left0 : LeftO PE view loose (fun s => xlAt view [] s && recOk (RowW.records Challenge.rw_ti0050_01.row.toRowW) s) (Hook.obs hkK) (Hook.val hkK) 5068 :=
  LeftO.of_pieces (H₀ := boot_heap) (H₁ := hD) (gs₀ := #[]) (gs₁ := #[]) (d₀ := boot_drawn) (d₁ := {}) (k₀ := boot_toks) (k₁ := 630) (m₀ := 11) (ann := some (.ref 6)) open0 size0 run0 (by decide) looks0
theorem hd {d : DefRec} {kwd : List (Str × PySem.Expr)} (hdef : defOf view Challenge.rw_ti0050_01.row.name = some (d, kwd)) (hp : PE.theDef Challenge.rw_ti0050_01.row.name = some (d.params, d.body, d.scope)) (hk : kwWritten? d.params.kwonlyargs d.params.kw_defaults = some kwd)
    (call : WalkO view loose (XL view []) (InK KF) Challenge.rw_ti0050_01.row.toRowW d kwd fun f vs => PySem.call f vs) : Challenge.rw_ti0050_01.Holds := by
  refine holds_law (by decide +kernel) fun said => ?_
  refine holds_open left0 (Hook.of hkK) (Hook.keeps hkK) (fun s e => xl_of s (Bool.and_eq_true_iff.mp e).1) XL.keeps hdef hp hk (fun s e => recFacts_of (Bool.and_eq_true_iff.mp e).2) (by rfl) said (by decide +kernel) ⟨rfl, rfl, rfl, rfl, rfl, by decide +kernel⟩ ?hw call
  case hw => w_witness2
end Mine
end
section
set_option maxRecDepth 100000
namespace Mine
open PySem.Calls PySem.Spec

abbrev Ar (dp un : Nat) (gd : Option (List Code)) (envs : List Env) : Around := { handled := none, depth := dp, frames := some envs, guards := gd, units := un }

structure Gnd (K : Frag) (p : Program) (loose : List Str) (mean : ExcName → Option Value) (mg mb : Str → Option Value) (base : Heap) (envs : List Env) (h : Heap) : Prop where
  B : Below (Ar 0 0 none envs) base envs h
  X : K.In h
  T : Top p loose mean mg mb h

section
variable {prog : Program} {w : World} {A₀ A : Around} {s : Shared} {base h₀ hb : Heap} {outer envs : List Env} {L : Addr} {m : Str → Option Value} {env : Env} {news : List (Addr × Obj)} {K : Frag}
  {p : Program} {loose : List Str} {mean : ExcName → Option Value} {mg mb : Str → Option Value}
  {R : Result → Shared → Prop} {name qual : Str} {params : Arguments} {body : List Stmt} {scope : Scope} {dV kV doc pm cdv ct oc : Value} {an od : Option Addr} {osl : Array (Option Value)} {f : Addr} {args : Args} {binds : List (Str × Value)}

theorem gnd_of (B : Below A₀ base outer h₀) (F : Fr h₀ L s.heap m) (X : K.In h₀) (T : Top p loose mean mg mb h₀) (hf : env.frame = some L) (hke : env.scope.kind = .function) :
    Gnd K p loose mean mg mb base (env :: outer) s.heap := by
  have z := groundX (A := Ar 0 0 none (env :: outer)) (R := fun _ _ => True) B F (News.nil) rfl hf hke
  exact ⟨z.2.1, X.keeps F.keep, T.keeps F.keep⟩

theorem fr_stay {h h' : Heap} (F : Fr h₀ L h m) (st : h.StaysIn h') : Fr h₀ L h' m :=
  ⟨F.ns.at' fun o e => st _ o e, fun b o e => st b o (F.keep b o e), F.above⟩
theorem news_stay {h h' : Heap} (N : News h₀ L h news) (st : h.StaysIn h') : News h₀ L h' news :=
  fun q hq => ⟨st _ _ (N q hq).1, (N q hq).2⟩
theorem news_add {h h' : Heap} {x : Addr} {o : Obj} (F : Fr h₀ L h m) (N : News h₀ L h' news) (hx : h.get? x = none) (ho : h'.get? x = some o) : News h₀ L h' ((x, o) :: news) := by
  intro q hq
  rcases List.mem_cons.mp hq with rfl | hq
  · refine ⟨ho, fun e => ?_, ?_⟩
    · obtain ⟨oL, _, _, hL, _⟩ := F.ns
      rw [← e, hx] at hL; cases hL
    · cases q : h₀.get? x with
      | none => rfl
      | some o => have := F.keep _ _ q; rw [hx] at this; cases this
  · exact N q hq

theorem enter_here (B : Below A₀ base envs hb) (hA : A.frames = some envs) (st : hb.StaysIn s.heap) (hsz : hb.objs.size ≤ s.heap.objs.size) (X : K.In hb) (T : Top p loose mean mg mb hb)
    (ho : K.lookup f = some ⟨oc, od, .func (fnOf name qual params body scope dV kV doc pm an cdv ct), osl⟩) (hcd : codeIn K cdv qual = true) (hroom : A.depth < recursionLimit)
    (hbind : BindsTo s (fnOf name qual params body scope dV kV doc pm an cdv ct) args binds) (hloc : ∀ y ∈ binds, scope.names.lookup y.1 = some .local)
    (hnew : ∀ q ∈ news, s.heap.get? q.1 = some q.2 ∧ hb.get? q.1 = none)
    (h : ∀ L' h₁, Fr hb L' h₁ (fun y => binds.reverse.lookup y) → News hb L' h₁ news → (∀ q ∈ news, q.1 < L') → Below A base envs hb → K.In hb → Top p loose mean mg mb hb →
      wpAny (model prog w) (A.deeper (envOf qual scope L' f cdv)) (execs body (envOf qual scope L' f cdv))
        (fun fl s' => R (.ok (.ret (match fl with | .ret v => v | _ => .none))) s')
        (fun e s' => wpAny (model prog w) (A.deeper (envOf qual scope L' f cdv)) (leaving (envOf qual scope L' f cdv) e) (fun _ s'' => R (.error e) s'') (fun e' s'' => R (.error e') s'') s')
        { s with heap := h₁, toks := s.toks + binds.length })
    (hcell : ∀ x ∈ scope.names, x.2 ≠ .cell) (hco : scope.isCoroutine = false) (hgen : scope.isGenerator = false) (hk : scope.kind = .function) : codeAny (model prog w) A (.call (.ref f) args) R s := by
  have X' := X.keeps st
  refine codeAny_call_def (fd := fnOf name qual params body scope dV kV doc pm an cdv ct) (body := body) (binds := binds) hroom (X' _ _ ho) rfl (T.nolimit.keeps st) (codeRec_of X' hcd) rfl hbind hcell hloc (fun h₁ hns hk₁ => ?_) hco hgen hk
  refine h s.heap.objs.size h₁ ⟨hns, fun b o e => hk₁ b o (st b o e), hsz⟩ (fun q hq => ⟨hk₁ _ _ (hnew q hq).1, Nat.ne_of_lt (Heap.lt_size (hnew q hq).1), (hnew q hq).2⟩) (fun q hq => Heap.lt_size (hnew q hq).1) ⟨hA, B.stays, B.frames⟩ X T
end
end Mine

namespace Mine
open PySem.Calls PySem.Spec
section
variable {prog : Program} {w : World} {A : Around} {E : Value → Shared → Prop} {s : Shared} {env : Env} {h₀ : Heap} {x : Str} {body : List Stmt} {Q : Flow → Shared → Prop}

def TurnEnd (h₀ : Heap) (L I : Addr) (o : Obj) (J : (Str → Option Value) → List (Addr × Obj) → Prop) (s : Shared) (Q : Flow → Shared → Prop) (f : Flow) (s₂ : Shared) : Prop :=
  match f with
  | .ret v => Q (.ret v) s₂
  | .brk => Q .next s₂
  | _ => ∃ h' tk m' news', s₂ = { s with heap := h', toks := tk } ∧ Fr h₀ L h' m' ∧ News h₀ L h' ((I, o) :: news') ∧ (∀ q ∈ news', q.1 ≠ I) ∧ J m' news'

theorem loop_my {I : Addr} {fp : List Addr} {n : Nat} {P : Nat → Value → Prop} {St : Nat → Heap → Prop} {m₀ : Str → Option Value} {news : List (Addr × Obj)} (J : Nat → (Str → Option Value) → List (Addr × Obj) → Prop)
    (W : Walks prog w A I fp [I] n P St) (hlive : ∀ i h, St i h → ∃ o, h.get? I = some o) (hfp : ∀ b ∈ fp, b = I ∨ ∃ o, h₀.get? b = some o) (hI : h₀.get? I = none) (hLI : env.locals ≠ I)
    (hst : St 0 s.heap) (F : Fr h₀ env.locals s.heap m₀) (N : News h₀ env.locals s.heap news) (hnw : ∀ q ∈ news, q.1 ≠ I) (hj : J 0 m₀ news)
    (turn : ∀ i v m₁ news₁ h tk o, i < n → P i v → J i m₁ news₁ → (∀ q ∈ news₁, q.1 ≠ I) → Fr h₀ env.locals h (fun y => if y = x then some v else m₁ y) → News h₀ env.locals h ((I, o) :: news₁) →
      wpAny (model prog w) A (execs body env) (TurnEnd h₀ env.locals I o (J (i + 1)) s Q) E { s with heap := h, toks := tk })
    (done : ∀ m₁ news₁ h tk, J n m₁ news₁ → Fr h₀ env.locals h m₁ → News h₀ env.locals h news₁ → Q .next { s with heap := h, toks := tk }) :
    LoopAtV prog w A h₀ env x body Q E (.ref I) s := by
  refine ⟨I, fp, [I], n, P, St, m₀, news, J, rfl, W, fun hm => ?_, fun b hb => by rw [List.mem_singleton.mp hb]; exact hI, fun q hq hm => hnw q hq (List.mem_singleton.mp hm), hst, F, N, hj, ?_, ?_⟩
  · rcases hfp _ hm with e | ⟨o, e⟩
    · exact hLI e
    · exact absurd (Nat.lt_of_lt_of_le (Heap.lt_size e) F.above) (Nat.lt_irrefl _)
  · rintro i v m₁ news₁ s₁ own ⟨hh', tk', rfl⟩ hin hP hJ hoff hown hget hall hst' F₁ N₁
    obtain ⟨o, ho⟩ := hlive _ _ hst'
    have hoI : (I, o) ∈ own := hall I (W.sub _ (List.mem_singleton.mpr rfl)) hI o ho
    have hne : ∀ q ∈ news₁, q.1 ≠ I := fun q hq e => hoff q hq (by rw [e]; exact List.mem_singleton.mpr rfl)
    have N₂ : News h₀ env.locals hh' ((I, o) :: news₁) := by
      intro q hq
      rcases List.mem_cons.mp hq with rfl | hq
      · exact N₁ _ (List.mem_append_left _ hoI)
      · exact N₁ _ (List.mem_append_right _ hq)
    refine wpAny_mono (turn i v m₁ news₁ hh' tk' o hin hP hJ hne F₁ N₂) (fun f s₂ pz => ?_) fun _ _ e => e
    have only : ∀ q ∈ own, q = (I, o) := by
      intro q hq
      have hq1 : q.1 = I := by
        rcases hfp _ (hown q hq) with e | ⟨o', e⟩
        · exact e
        · have := (N₁ q (List.mem_append_left _ hq)).2.2
          rw [e] at this; cases this
      have hq2 := hget q hq
      rw [hq1] at hq2
      obtain ⟨a, b⟩ := q
      simp only at hq1 hq2
      subst hq1
      have hh := hq2.symm.trans ho
      rw [Option.some.inj hh]
    have fin : (∃ h' tk m' news', s₂ = { s with heap := h', toks := tk } ∧ Fr h₀ env.locals h' m' ∧ News h₀ env.locals h' ((I, o) :: news') ∧ (∀ q ∈ news', q.1 ≠ I) ∧ J (i + 1) m' news') → LoopStepU h₀ env.locals [I] own (J (i + 1)) { s with heap := hh', toks := tk' } .next s₂ := by
      rintro ⟨h', tk, m', news', e, F', N', hn, hm⟩
      refine ⟨rfl, h', tk, m', news', e, F', fun q hq => ?_, fun q hq hq' => hn q hq (List.mem_singleton.mp hq'), hm⟩
      rcases List.mem_append.mp hq with hq | hq
      · rw [only q hq]; exact N' _ (List.mem_cons_self ..)
      · exact N' _ (List.mem_cons_of_mem _ hq)
    cases f with
    | ret v => exact .ret pz
    | brk => exact .brk pz
    | next => exact .next (fin pz)
    | cont => exact .cont (fin pz)
  · rintro h' tk m' news' F' N' _ hJ
    exact done m' news' h' tk hJ F' N'

theorem loop_str {xt : Str} {tx : Tok} {m₀ : Str → Option Value} {news : List (Addr × Obj)} (J : Nat → (Str → Option Value) → List (Addr × Obj) → Prop)
    (hh : A.handled = none) (F : Fr h₀ env.locals s.heap m₀) (N : News h₀ env.locals s.heap news) (hj : J 0 m₀ news)
    (turn : ∀ i c t m₁ news₁ h tk I o, xt.cps[i]? = some c → J i m₁ news₁ → (∀ q ∈ news₁, q.1 ≠ I) → Fr h₀ env.locals h (fun y => if y = x then some (.str ⟨#[c]⟩ t) else m₁ y) → News h₀ env.locals h ((I, o) :: news₁) →
      wpAny (model prog w) A (execs body env) (TurnEnd h₀ env.locals I o (J (i + 1)) s Q) E { s with heap := h, toks := tk })
    (done : ∀ m₁ news₁ h tk, J xt.cps.size m₁ news₁ → Fr h₀ env.locals h m₁ → News h₀ env.locals h news₁ → Q .next { s with heap := h, toks := tk }) :
    wpAny (model prog w) A (pyIter (.str xt tx)) (fun it s₂ => LoopAtV prog w A h₀ env x body Q E it s₂) E s := by
  have hI : h₀.get? s.heap.objs.size = none := next_is_new F
  have hLI : env.locals ≠ s.heap.objs.size := Nat.ne_of_lt F.ns.lt
  have hnw : ∀ q ∈ news, q.1 ≠ s.heap.objs.size := fun q hq => Nat.ne_of_lt (Heap.lt_size (N q hq).1)
  have go : ∀ (cls : String) (o : Obj), (∀ A' : Around, A'.handled = none → Walks prog w A' s.heap.objs.size [s.heap.objs.size] [s.heap.objs.size] xt.cps.size (SignAt xt) (fun i h => h.IsStrIter s.heap.objs.size cls xt tx i)) →
      (s.heap.push o).IsStrIter s.heap.objs.size cls xt tx 0 → LoopAtV prog w A h₀ env x body Q E (.ref s.heap.objs.size) { s with heap := s.heap.push o } := by
    intro cls o hW hst
    refine loop_my J (hW A hh) ?_ ?_ hI hLI hst (F.push _) (fun q hq => ⟨Heap.get?_push_of_some _ (N q hq).1, (N q hq).2⟩) hnw hj ?_ ?_
    · rintro i h ⟨o, ho, _⟩
      exact ⟨o, ho⟩
    · intro b hb
      exact .inl (List.mem_singleton.mp hb)
    · rintro i v m₁ news₁ h tk o hi ⟨c, u, hc, rfl⟩ hJ hne F₁ N₁
      exact turn i c u m₁ news₁ h tk _ o hc hJ hne F₁ N₁
    · intro m₁ news₁ h tk hJ F₁ N₁
      exact done m₁ news₁ h tk hJ F₁ N₁
  cases ha : xt.cps.all (· < 128)
  · exact wpAny_pyIter_wide ha (go _ _ (fun A' hA => Walks.strWide hA _ xt tx) ⟨_, Heap.get?_push_size _ rfl, rfl, rfl⟩)
  · exact wpAny_pyIter_ascii ha (go _ _ (fun A' hA => Walks.strAscii hA _ xt tx) ⟨_, Heap.get?_push_size _ rfl, rfl, rfl⟩)

theorem loop_range {r : Addr} {a₀ b₀ : Int} {t₀ u₀ v₀ : Tok} {n : Nat} {m₀ : Str → Option Value} {news : List (Addr × Obj)} (J : Nat → (Str → Option Value) → List (Addr × Obj) → Prop)
    (hh : A.handled = none) (hr : IsRange s.heap r a₀ b₀ 1 t₀ u₀ v₀) (hsmall : Builtin.Range.small a₀ b₀ 1 = true) (hn : Builtin.Range.rangeSize a₀ b₀ 1 = (n : Int))
    (F : Fr h₀ env.locals s.heap m₀) (N : News h₀ env.locals s.heap news) (hj : J 0 m₀ news)
    (turn : ∀ (i : Nat) t m₁ news₁ h tk I o, i < n → J i m₁ news₁ → (∀ q ∈ news₁, q.1 ≠ I) → Fr h₀ env.locals h (fun y => if y = x then some (.int (a₀ + (i : Int)) t) else m₁ y) → News h₀ env.locals h ((I, o) :: news₁) →
      wpAny (model prog w) A (execs body env) (TurnEnd h₀ env.locals I o (J (i + 1)) s Q) E { s with heap := h, toks := tk })
    (done : ∀ m₁ news₁ h tk, J n m₁ news₁ → Fr h₀ env.locals h m₁ → News h₀ env.locals h news₁ → Q .next { s with heap := h, toks := tk }) :
    wpAny (model prog w) A (pyIter (.ref r)) (fun it s₂ => LoopAtV prog w A h₀ env x body Q E it s₂) E s := by
  have hI : h₀.get? s.heap.objs.size = none := next_is_new F
  have hLI : env.locals ≠ s.heap.objs.size := Nat.ne_of_lt F.ns.lt
  have hnw : ∀ q ∈ news, q.1 ≠ s.heap.objs.size := fun q hq => Nat.ne_of_lt (Heap.lt_size (N q hq).1)
  refine wpAny_pyIter_range hr hsmall ?_
  refine loop_my J (Walks.range hh s.heap.objs.size a₀ 1 n) ?_ ?_ hI hLI (by show IsRangeIter _ _ _ _ _; rw [hn]; simpa using Heap.get?_push_size _ rfl) (F.push _) (fun q hq => ⟨Heap.get?_push_of_some _ (N q hq).1, (N q hq).2⟩) hnw hj ?_ ?_
  · intro i h hi
    exact ⟨_, hi⟩
  · intro b hb
    exact .inl (List.mem_singleton.mp hb)
  · rintro i v m₁ news₁ h tk o hi ⟨t, rfl⟩ hJ hne F₁ N₁
    have e1 : a₀ + (i : Int) * 1 = a₀ + (i : Int) := by omega
    rw [e1] at F₁
    exact turn i t m₁ news₁ h tk _ o hi hJ hne F₁ N₁
  · intro m₁ news₁ h tk hJ F₁ N₁
    exact done m₁ news₁ h tk hJ F₁ N₁

theorem loop_list {l : Addr} {vs : List Value} {ns : List Int} {m₀ : Str → Option Value} {news : List (Addr × Obj)} (J : Nat → (Str → Option Value) → List (Addr × Obj) → Prop)
    (hh : A.handled = none) (hl : h₀.IsList l vs.toArray) (hi : IntsAre vs ns) (F : Fr h₀ env.locals s.heap m₀) (N : News h₀ env.locals s.heap news) (hj : J 0 m₀ news)
    (turn : ∀ i n t m₁ news₁ h tk I o, ns[i]? = some n → J i m₁ news₁ → (∀ q ∈ news₁, q.1 ≠ I) → Fr h₀ env.locals h (fun y => if y = x then some (.int n t) else m₁ y) → News h₀ env.locals h ((I, o) :: news₁) →
      wpAny (model prog w) A (execs body env) (TurnEnd h₀ env.locals I o (J (i + 1)) s Q) E { s with heap := h, toks := tk })
    (done : ∀ m₁ news₁ h tk, J ns.length m₁ news₁ → Fr h₀ env.locals h m₁ → News h₀ env.locals h news₁ → Q .next { s with heap := h, toks := tk }) :
    wpAny (model prog w) A (pyIter (.ref l)) (fun it s₂ => LoopAtV prog w A h₀ env x body Q E it s₂) E s := by
  have hI : h₀.get? s.heap.objs.size = none := next_is_new F
  have hLI : env.locals ≠ s.heap.objs.size := Nat.ne_of_lt F.ns.lt
  have hnw : ∀ q ∈ news, q.1 ≠ s.heap.objs.size := fun q hq => Nat.ne_of_lt (Heap.lt_size (N q hq).1)
  have hls : s.heap.IsList l vs.toArray := hl.at fun o e => F.keep l o e
  obtain ⟨ol, hol, _⟩ := id hl
  have hlt : l < h₀.objs.size := Heap.lt_size hol
  have hne : l ≠ s.heap.objs.size := Nat.ne_of_lt (Nat.lt_trans (Nat.lt_of_lt_of_le hlt F.above) F.ns.lt)
  refine wpAny_pyIter_list hls ?_
  have W := Walks.list (prog := prog) (w := w) hh s.heap.objs.size l hne vs.toArray
  have hlen : vs.toArray.size = ns.length := by simp [hi.length]
  rw [hlen] at W
  refine loop_my J W ?_ ?_ hI hLI ⟨⟨_, Heap.get?_push_size _ rfl, rfl, rfl⟩, hls.at fun o e => Heap.get?_push_of_some _ e⟩ (F.push _) (fun q hq => ⟨Heap.get?_push_of_some _ (N q hq).1, (N q hq).2⟩) hnw hj ?_ ?_
  · rintro i h ⟨⟨o, ho, _⟩, _⟩
    exact ⟨o, ho⟩
  · intro b hb
    rcases List.mem_cons.mp hb with e | hb
    · exact .inl e
    · exact .inr ⟨ol, by rw [List.mem_singleton.mp hb]; exact hol⟩
  · rintro i v m₁ news₁ h tk o hin hP hJ hne' F₁ N₁
    obtain ⟨t, hx⟩ := hi.get i ns[i] (by simp [hin])
    have hv : v = .int ns[i] t := by
      have hP' : vs[i]? = some v := by simpa using hP
      rw [hx] at hP'; exact (Option.some.inj hP').symm
    subst hv
    exact turn i ns[i] t m₁ news₁ h tk _ o (by simp [hin]) hJ hne' F₁ N₁
  · intro m₁ news₁ h tk hJ F₁ N₁
    exact done m₁ news₁ h tk hJ F₁ N₁
end
end Mine

namespace Mine
open PySem.Calls PySem.Spec
section
variable {prog : Program} {w : World} {A₀ A : Around} {s : Shared} {base : Heap} {envs : List Env} {K : Frag} {C fI : Addr}
  {p : Program} {loose : List Str} {mean : ExcName → Option Value} {mg mb : Str → Option Value}
  {R : Result → Shared → Prop} {name qual : Str} {params : Arguments} {body : List Stmt} {scope : Scope} {dV kV doc pm cdv ct oc : Value} {an od : Option Addr} {osl : Array (Option Value)} {rest : List Value} {kw : List (Str × Value)} {binds : Addr → List (Str × Value)}

theorem make_enter (B : Below A₀ base envs s.heap) (X : K.In s.heap) (T : Top p loose mean mg mb s.heap)
    (hA : (A.under (.builtin "type.__call__" ⟨.ref C :: rest, kw⟩)).frames = some envs) (hm : makesIn K C = true) (hi : findIn K (.ref C) "__init__" = some (some (.ref fI))) (hf : typeIn K (.ref fI) = some (.type "function"))
    (ho : K.lookup fI = some ⟨oc, od, .func (fnOf name qual params body scope dV kV doc pm an cdv ct), osl⟩) (hcd : codeIn K cdv qual = true) (hroom : (A.under (.builtin "type.__call__" ⟨.ref C :: rest, kw⟩)).depth < recursionLimit)
    (hbind : ∀ x s', BindsTo s' (fnOf name qual params body scope dV kV doc pm an cdv ct) ⟨.ref x :: rest, kw⟩ (binds x)) (hloc : ∀ x, ∀ y ∈ binds x, scope.names.lookup y.1 = some .local)
    (h : ∀ x dx L' h₁, Fr s.heap L' h₁ (fun y => (binds x).reverse.lookup y) → News s.heap L' h₁ [(x, instObj C dx), (dx, dictOf [] 0)] → dx < x → x < L' → (∀ b o, s.heap.get? b = some o → b < dx) →
      Below (A.under (.builtin "type.__call__" ⟨.ref C :: rest, kw⟩)) base envs s.heap → K.In s.heap → Top p loose mean mg mb s.heap →
      wpAny (model prog w) ((A.under (.builtin "type.__call__" ⟨.ref C :: rest, kw⟩)).deeper (envOf qual scope L' fI cdv)) (execs body (envOf qual scope L' fI cdv))
        (fun fl s' => InitBack x R (.ok (.ret (match fl with | .ret v => v | _ => .none))) s')
        (fun e s' => wpAny (model prog w) ((A.under (.builtin "type.__call__" ⟨.ref C :: rest, kw⟩)).deeper (envOf qual scope L' fI cdv)) (leaving (envOf qual scope L' fI cdv) e) (fun _ s'' => InitBack x R (.error e) s'') (fun e' s'' => InitBack x R (.error e') s'') s')
        { s with heap := h₁, toks := s.toks + (binds x).length })
    (hcell : ∀ x ∈ scope.names, x.2 ≠ .cell) (hco : scope.isCoroutine = false) (hgen : scope.isGenerator = false) (hk : scope.kind = .function) : codeAny (model prog w) A (.call (.ref C) ⟨rest, kw⟩) R s := by
  obtain ⟨hh, g, d, t, os⟩ := s
  refine make_core (makes_of X hm) (looks_findIn X hi) (fun self => bind_fn X self hf) (.inl rfl) ?_
  have st : hh.StaysIn ((hh.push emptyDict).push (instObj C hh.objs.size)) := fun b o e => Heap.get?_push_of_some _ (Heap.get?_push_of_some _ e)
  have e1 : (hh.push emptyDict).objs.size = hh.objs.size + 1 := Heap.size_push ..
  have e2 : ((hh.push emptyDict).push (instObj C hh.objs.size)).objs.size = hh.objs.size + 1 + 1 := by rw [Heap.size_push, e1]
  have n1 : hh.get? hh.objs.size = none := by
    cases q : hh.get? hh.objs.size with
    | none => rfl
    | some o => exact absurd (Heap.lt_size q) (Nat.lt_irrefl _)
  have n2 : hh.get? (hh.objs.size + 1) = none := by
    cases q : hh.get? (hh.objs.size + 1) with
    | none => rfl
    | some o => exact absurd (Nat.lt_of_succ_lt (Heap.lt_size q)) (Nat.lt_irrefl _)
  refine enter_here (A := A.under (.builtin "type.__call__" ⟨.ref C :: rest, kw⟩)) (hb := hh) (s := ⟨(hh.push emptyDict).push (instObj C hh.objs.size), g, d, t, os⟩) (news := [(hh.objs.size + 1, instObj C hh.objs.size), (hh.objs.size, dictOf [] 0)]) B hA st (Nat.le_trans (Nat.le_add_right hh.objs.size 2) (Nat.le_of_eq e2.symm)) X T ho hcd hroom (hbind _ _) (hloc _) ?_ ?_ hcell hco hgen hk
  · intro q hq
    rcases List.mem_cons.mp hq with rfl | hq
    · refine ⟨?_, n2⟩
      have := Heap.get?_push_size (hh.push emptyDict) (o := instObj C hh.objs.size) rfl
      rwa [e1] at this
    · rcases List.mem_cons.mp hq with rfl | hq
      · exact ⟨Heap.get?_push_of_some _ (Heap.get?_push_size _ rfl), n1⟩
      · cases hq
  · intro L' h₁ F' N' hl B' X' T'
    exact h _ _ L' h₁ F' N' (Nat.lt_succ_self _) (hl _ (List.mem_cons_self ..)) (fun b o e => Heap.lt_size e) B' X' T'
end
end Mine

namespace Mine
section
variable {h₀ h : Heap} {L : Addr} {x : Str} {v : Value} {m₁ : Str → Option Value} {ps : List (Str × Value)}
theorem fr_kst (h1 : ∀ q ∈ ps, m₁ q.1 = some q.2) (F : Fr h₀ L h (fun y => if y = x then some v else m₁ y)) : Fr h₀ L h (fun y => if y = x then some v else kstB m₁ ps y) := by
  have e : (fun y => if y = x then some v else kstB m₁ ps y) = fun y => if y = x then some v else m₁ y := by
    funext y
    by_cases hy : y = x
    · rw [if_pos hy, if_pos hy]
    · rw [if_neg hy, if_neg hy]
      exact kstB_eq h1 fun _ => rfl
  rw [e]; exact F
theorem fr_kst0 (h1 : ∀ q ∈ ps, m₁ q.1 = some q.2) (F : Fr h₀ L h m₁) : Fr h₀ L h (kstB m₁ ps) := by
  have e : kstB m₁ ps = m₁ := by
    funext y
    exact kstB_eq h1 fun _ => rfl
  rw [e]; exact F
theorem news_sub {l l' : List (Addr × Obj)} (N : News h₀ L h l) (hs : ∀ q ∈ l', q ∈ l) : News h₀ L h l' := fun q hq => N q (hs q hq)
theorem all_nil {α : Type} {P : α → Prop} : ∀ q ∈ ([] : List α), P q := fun _ h => nomatch h
theorem all_cons {α : Type} {P : α → Prop} {a : α} {l : List α} (h : P a) (t : ∀ q ∈ l, P q) : ∀ q ∈ a :: l, P q := fun q hq => by
  rcases List.mem_cons.mp hq with rfl | hq
  · exact h
  · exact t q hq
end
end Mine

namespace Mine
theorem turn_next {h₀ h' : Heap} {L I : Addr} {o : Obj} {J : (Str → Option Value) → List (Addr × Obj) → Prop} {s : Shared} {Q : Flow → Shared → Prop} {tk : Nat} {m' : Str → Option Value} {news' full : List (Addr × Obj)}
    (F : Fr h₀ L h' m') (N : News h₀ L h' full) (hs : ∀ q ∈ (I, o) :: news', q ∈ full) (hn : ∀ q ∈ news', q.1 ≠ I) (hj : J m' news') : TurnEnd h₀ L I o J s Q .next { s with heap := h', toks := tk } :=
  ⟨h', tk, m', news', rfl, F, news_sub N hs, hn, hj⟩
end Mine

namespace Mine
theorem news_join {h₀ h h' : Heap} {L L' : Addr} {m m' : Str → Option Value} {news objs : List (Addr × Obj)} (F : Fr h₀ L h m) (N : News h₀ L h news) (F1 : Fr h L' h' m') (N1 : News h L' h' objs) : Fr h₀ L h' m ∧ News h₀ L h' (objs ++ news) := by
  refine ⟨fr_stay F F1.keep, fun q hq => ?_⟩
  rcases List.mem_append.mp hq with hq | hq
  · have z := N1 q hq
    refine ⟨z.1, fun e => ?_, ?_⟩
    · obtain ⟨oL, _, _, hL, _⟩ := F.ns
      have := z.2.2
      rw [e, hL] at this; cases this
    · cases e : h₀.get? q.1 with
      | none => rfl
      | some o => have := z.2.2; rw [F.keep _ _ e] at this; cases this
  · exact ⟨F1.keep _ _ (N q hq).1, (N q hq).2⟩
end Mine

namespace Mine
def Hold (P : Prop) : Prop := P
theorem hold_in {P : Prop} (h : Hold P) : P := h
theorem hold_out {P : Prop} (h : P) : Hold P := h
end Mine

namespace Mine
theorem rs_one (a b : Int) : Builtin.Range.rangeSize a b 1 = ((b - a).toNat : Int) := by
  unfold Builtin.Range.rangeSize
  simp only [show ((1 : Int) > 0) by decide, if_true, Int.ediv_one]
  split <;> omega
end Mine

namespace Mine
open PySem.Calls PySem.Spec
section
variable {prog : Program} {w : World} {A₀ A : Around} {s : Shared} {base hb : Heap} {envs : List Env} {news : List (Addr × Obj)} {K : Frag}
  {p : Program} {loose : List Str} {mean : ExcName → Option Value} {mg mb : Str → Option Value}
  {R : Result → Shared → Prop} {name qual : Str} {params : Arguments} {body : List Stmt} {scope : Scope} {dV kV doc pm cdv ct oc : Value} {an od : Option Addr} {osl : Array (Option Value)} {f : Addr} {args : Args} {binds : List (Str × Value)}

theorem enter_hereC (B : Below A₀ base envs s.heap) (hA : A.frames = some envs) (X : K.In s.heap) (T : Top p loose mean mg mb s.heap)
    (ho : K.lookup f = some ⟨oc, od, .func (fnOf name qual params body scope dV kV doc pm an cdv ct), osl⟩) (hcd : codeIn K cdv qual = true) (hroom : A.depth < recursionLimit)
    (hbind : BindsTo s (fnOf name qual params body scope dV kV doc pm an cdv ct) args binds)
    (hkind : (binds.all fun y => scope.names.lookup y.1 == some .local || scope.names.lookup y.1 == some .cell) = true)
    (hnd : ((cellsFrom 0 scope.names []).map (·.1)).Nodup)
    (h : ∀ L' h₁ tk cells, Fr s.heap L' h₁ (bindL (envOfC qual scope L' f cdv).kindOf binds fun _ => none) → News s.heap L' h₁ cells →
      CellsAre (bindC (envOfC qual scope L' f cdv).kindOf binds fun _ => none) (cellsFrom (L' + 1) scope.names []) cells → Below A base envs s.heap → K.In s.heap → Top p loose mean mg mb s.heap →
      wpAny (model prog w) (A.deeper (envOfC qual scope L' f cdv)) (execs body (envOfC qual scope L' f cdv))
        (fun fl s' => R (.ok (.ret (match fl with | .ret v => v | _ => .none))) s')
        (fun e s' => wpAny (model prog w) (A.deeper (envOfC qual scope L' f cdv)) (leaving (envOfC qual scope L' f cdv) e) (fun _ s'' => R (.error e) s'') (fun e' s'' => R (.error e') s'') s')
        { s with heap := h₁, toks := tk })
    (hco : scope.isCoroutine = false) (hgen : scope.isGenerator = false) (hk : scope.kind = .function) : codeAny (model prog w) A (.call (.ref f) args) R s := by
  refine codeAny_call_function (fd := fnOf name qual params body scope dV kV doc pm an cdv ct) hroom (X _ _ ho) rfl hco hgen rfl (codeRec_of X hcd) (hbind _ _ _ _ ?_)
  refine wpAny_newFunctionEnv_cells hk (kindsX hkind _) fun env' he s' x => ?_
  subst he
  refine ⟨T.nolimit.keeps x.toInCall.keep, codeAny_func ?_⟩
  obtain ⟨h₁, tk, rfl, _⟩ := x.done
  have hk₁ := x.toInCall.keep
  obtain ⟨cells, NC, Y⟩ := Cl.news (h₀ := s.heap) (Nat.le_refl _) fun n c hm => ⟨x.cell n c (lookup_of_mem_nodup (cellsFrom_names scope.names 0 (s.heap.objs.size + 1) [] [] rfl ▸ hnd) hm), x.above n c hm⟩
  exact h s.heap.objs.size h₁ tk cells ⟨x.toInCall.ns, fun b o e => hk₁ b o e, Nat.le_refl _⟩ NC Y ⟨hA, B.stays, B.frames⟩ X T
end
end Mine

namespace Mine
open PySem.Calls PySem.Spec
section
variable {prog : Program} {w : World} {A : Around} {E : Value → Shared → Prop} {s : Shared} {env : Env} {h₀ : Heap} {target : Expr} {body : List Stmt} {Q : Flow → Shared → Prop}

def LoopG (prog : Program) (w : World) (A : Around) (h₀ : Heap) (env : Env) (target : Expr) (body : List Stmt) (Q : Flow → Shared → Prop) (E : Value → Shared → Prop) (it : Value) (s₂ : Shared) : Prop :=
  ∃ (I : Addr) (fp : List Addr) (n : Nat) (P : Nat → Value → Prop) (St : Nat → Heap → Prop) (m₀ : Str → Option Value) (news : List (Addr × Obj)) (J : Nat → (Str → Option Value) → List (Addr × Obj) → Prop),
    it = .ref I ∧ Walks prog w A I fp [I] n P St ∧ (∀ i h, St i h → ∃ o, h.get? I = some o) ∧ (∀ b ∈ fp, b = I ∨ ∃ o, h₀.get? b = some o) ∧ h₀.get? I = none ∧ env.locals ≠ I ∧ St 0 s₂.heap ∧ Fr h₀ env.locals s₂.heap m₀ ∧ News h₀ env.locals s₂.heap news ∧ (∀ q ∈ news, q.1 ≠ I) ∧ J 0 m₀ news ∧
    (∀ i v m₁ news₁ h tk o, i < n → P i v → J i m₁ news₁ → (∀ q ∈ news₁, q.1 ≠ I) → Fr h₀ env.locals h m₁ → News h₀ env.locals h ((I, o) :: news₁) →
      wpAny (model prog w) A (assign target env v) (fun _ s₃ => wpAny (model prog w) A (execs body env) (TurnEnd h₀ env.locals I o (J (i + 1)) s₂ Q) E s₃) E { s₂ with heap := h, toks := tk }) ∧
    ∀ m₁ news₁ h tk, J n m₁ news₁ → Fr h₀ env.locals h m₁ → News h₀ env.locals h news₁ → Q .next { s₂ with heap := h, toks := tk }

theorem For_gen {pos : Pos} {iter : Expr}
    (h : wpAny (model prog w) A (eval iter env) (fun xv s₁ => wpAny (model prog w) A (pyIter xv) (fun it s₂ => LoopG prog w A h₀ env target body Q E it s₂) E s₁) E s)
    (hs : ∀ x, foldedSetIterable iter env x = pure x) (ht : ∀ it v, letOwnedTupleGo target it v = pure ()) (hE : PassesOwn (model prog w) A env E) :
    wpAny (model prog w) A (exec (.For target iter body [] pos) env) Q E s := by
  refine wpAny_For (wpAny_mono h (fun xv s₁ h₁ => wpAny_mono h₁ (fun it s₂ h₂ => ?_) fun _ _ e => e) fun _ _ e => e) hs
  obtain ⟨I, fp, n, P, St, m₀, news, J, rfl, W, hlive, hfp, hI, hLI, hst, F, N, hnw, hj, turn, done⟩ := h₂
  have hLf : env.locals ∉ fp := fun hm => by
    rcases hfp _ hm with e | ⟨o, e⟩
    · exact hLI e
    · exact absurd (Nat.lt_of_lt_of_le (Heap.lt_size e) F.above) (Nat.lt_irrefl _)
  have old : ∀ b o, h₀.get? b = some o → b ∉ [I] := fun b o e hb => by rw [List.mem_singleton.mp hb, hI] at e; cases e
  refine codeAny_forLoop
    (fun k s' => ∃ h' tk m' news' i, s' = { s₂ with heap := h', toks := tk } ∧ St i h' ∧ Fr h₀ env.locals h' m' ∧ News h₀ env.locals h' news' ∧ (∀ q ∈ news', q.1 ≠ I) ∧ J i m' news' ∧ i ≤ n ∧ k = n + 1 - i) ?_ (n + 1)
    ⟨s₂.heap, s₂.toks, m₀, news, 0, rfl, hst, F, N, hnw, hj, Nat.zero_le _, rfl⟩ (ht _)
  rintro k s' ⟨h', tk, m', news', i, rfl, hst', F', N', hnw', hJ, hi, rfl⟩
  have next : ∀ h₁ : Heap, (∀ b o, b ∉ [I] → h'.get? b = some o → h₁.get? b = some o) → Fr h₀ env.locals h₁ m' ∧ News h₀ env.locals h₁ news' := fun h₁ hk₁ =>
    ⟨⟨F'.ns.at' fun o e => hk₁ _ o (fun hm => hLI (List.mem_singleton.mp hm)) e, fun b o e => hk₁ b o (old b o e) (F'.keep b o e), F'.above⟩, fun q hq => ⟨hk₁ _ _ (fun hm => hnw' q hq (List.mem_singleton.mp hm)) (N' q hq).1, (N' q hq).2⟩⟩
  by_cases hlt : i < n
  · refine W.item i _ _ _ hlt hst' fun v h₁ tk₁ hP hst₁ hk₁ => ?_
    obtain ⟨F₁, N₁⟩ := next h₁ hk₁
    obtain ⟨o, ho⟩ := hlive _ _ hst₁
    have N₂ : News h₀ env.locals h₁ ((I, o) :: news') := by
      intro q hq
      rcases List.mem_cons.mp hq with rfl | hq
      · exact ⟨ho, Ne.symm hLI, hI⟩
      · exact N₁ q hq
    refine wpAny_passesOwn hE (wpAny_mono (turn i v m' news' h₁ tk₁ o hlt hP hJ hnw' F₁ N₂) (fun _ s₃ h₃ => ?_) fun _ _ e => e)
    refine wpAny_passesOwn hE (wpAny_mono h₃ (fun f s₄ h₄ => ?_) fun _ _ e => e)
    have fin : (∃ h' tk m' news', s₄ = { s₂ with heap := h', toks := tk } ∧ Fr h₀ env.locals h' m' ∧ News h₀ env.locals h' ((I, o) :: news') ∧ (∀ q ∈ news', q.1 ≠ I) ∧ J (i + 1) m' news') →
        ∃ m, m < n + 1 - i ∧ ∃ h' tk m' news' i, s₄ = { s₂ with heap := h', toks := tk } ∧ St i h' ∧ Fr h₀ env.locals h' m' ∧ News h₀ env.locals h' news' ∧ (∀ q ∈ news', q.1 ≠ I) ∧ J i m' news' ∧ i ≤ n ∧ m = n + 1 - i := by
      rintro ⟨h₄', tk₄, m₄, news₄, e, F₄, N₄, hn₄, hJ₄⟩
      refine ⟨n + 1 - (i + 1), by omega, h₄', tk₄, m₄, news₄, i + 1, e, ?_, F₄, fun q hq => N₄ q (List.mem_cons_of_mem _ hq), hn₄, hJ₄, hlt, rfl⟩
      refine W.frame _ _ _ hst₁ fun b hb o' e' => ?_
      rcases hfp b hb with eb | ⟨o₀, eb⟩
      · subst eb
        have : o' = o := by rw [ho] at e'; exact (Option.some.inj e').symm
        rw [this]
        exact (N₄ _ (List.mem_cons_self ..)).1
      · have h1 := F₁.keep b o₀ eb
        have : o' = o₀ := by rw [h1] at e'; exact (Option.some.inj e').symm
        rw [this]
        exact F₄.keep b o₀ eb
    cases f with
    | ret v => exact h₄
    | brk => exact h₄
    | next => exact fin h₄
    | cont => exact fin h₄
  · have hin : i = n := by omega
    subst hin
    refine W.done _ _ _ hst' fun h₁ tk₁ hk₁ => wpAny_execs_nil ?_
    obtain ⟨F₁, N₁⟩ := next h₁ hk₁
    exact done m' news' h₁ tk₁ hJ F₁ N₁

theorem loopG_range {r : Addr} {a₀ b₀ : Int} {t₀ u₀ v₀ : Tok} {n : Nat} {m₀ : Str → Option Value} {news : List (Addr × Obj)} (J : Nat → (Str → Option Value) → List (Addr × Obj) → Prop)
    (hh : A.handled = none) (hr : IsRange s.heap r a₀ b₀ 1 t₀ u₀ v₀) (hsmall : Builtin.Range.small a₀ b₀ 1 = true) (hn : Builtin.Range.rangeSize a₀ b₀ 1 = (n : Int))
    (F : Fr h₀ env.locals s.heap m₀) (N : News h₀ env.locals s.heap news) (hj : J 0 m₀ news)
    (turn : ∀ (i : Nat) t m₁ news₁ h tk I o, i < n → J i m₁ news₁ → (∀ q ∈ news₁, q.1 ≠ I) → Fr h₀ env.locals h m₁ → News h₀ env.locals h ((I, o) :: news₁) →
      wpAny (model prog w) A (assign target env (.int (a₀ + (i : Int)) t)) (fun _ s₃ => wpAny (model prog w) A (execs body env) (TurnEnd h₀ env.locals I o (J (i + 1)) s Q) E s₃) E { s with heap := h, toks := tk })
    (done : ∀ m₁ news₁ h tk, J n m₁ news₁ → Fr h₀ env.locals h m₁ → News h₀ env.locals h news₁ → Q .next { s with heap := h, toks := tk }) :
    wpAny (model prog w) A (pyIter (.ref r)) (fun it s₂ => LoopG prog w A h₀ env target body Q E it s₂) E s := by
  have hI : h₀.get? s.heap.objs.size = none := next_is_new F
  have hLI : env.locals ≠ s.heap.objs.size := Nat.ne_of_lt F.ns.lt
  have hnw : ∀ q ∈ news, q.1 ≠ s.heap.objs.size := fun q hq => Nat.ne_of_lt (Heap.lt_size (N q hq).1)
  refine wpAny_pyIter_range hr hsmall ?_
  refine ⟨s.heap.objs.size, _, n, _, _, m₀, news, J, rfl, Walks.range hh s.heap.objs.size a₀ 1 n, fun i h hi => ⟨_, hi⟩, fun b hb => .inl (List.mem_singleton.mp hb), hI, hLI, (by show IsRangeIter _ _ _ _ _; rw [hn]; simpa using Heap.get?_push_size _ rfl), F.push _, (fun q hq => ⟨Heap.get?_push_of_some _ (N q hq).1, (N q hq).2⟩), hnw, hj, ?_, ?_⟩
  · rintro i v m₁ news₁ h tk o hi ⟨t, rfl⟩ hJ hne F₁ N₁
    have e1 : a₀ + (i : Int) * 1 = a₀ + (i : Int) := by omega
    rw [e1]
    exact turn i t m₁ news₁ h tk _ o hi hJ hne F₁ N₁
  · intro m₁ news₁ h tk hJ F₁ N₁
    exact done m₁ news₁ h tk hJ F₁ N₁

theorem loopG_list {l : Addr} {vs : List Value} {ns : List Int} {m₀ : Str → Option Value} {news : List (Addr × Obj)} (J : Nat → (Str → Option Value) → List (Addr × Obj) → Prop)
    (hh : A.handled = none) (hl : h₀.IsList l vs.toArray) (hi : IntsAre vs ns) (F : Fr h₀ env.locals s.heap m₀) (N : News h₀ env.locals s.heap news) (hj : J 0 m₀ news)
    (turn : ∀ i n t m₁ news₁ h tk I o, ns[i]? = some n → J i m₁ news₁ → (∀ q ∈ news₁, q.1 ≠ I) → Fr h₀ env.locals h m₁ → News h₀ env.locals h ((I, o) :: news₁) →
      wpAny (model prog w) A (assign target env (.int n t)) (fun _ s₃ => wpAny (model prog w) A (execs body env) (TurnEnd h₀ env.locals I o (J (i + 1)) s Q) E s₃) E { s with heap := h, toks := tk })
    (done : ∀ m₁ news₁ h tk, J ns.length m₁ news₁ → Fr h₀ env.locals h m₁ → News h₀ env.locals h news₁ → Q .next { s with heap := h, toks := tk }) :
    wpAny (model prog w) A (pyIter (.ref l)) (fun it s₂ => LoopG prog w A h₀ env target body Q E it s₂) E s := by
  have hI : h₀.get? s.heap.objs.size = none := next_is_new F
  have hLI : env.locals ≠ s.heap.objs.size := Nat.ne_of_lt F.ns.lt
  have hnw : ∀ q ∈ news, q.1 ≠ s.heap.objs.size := fun q hq => Nat.ne_of_lt (Heap.lt_size (N q hq).1)
  have hls : s.heap.IsList l vs.toArray := hl.at fun o e => F.keep l o e
  obtain ⟨ol, hol, _⟩ := id hl
  have hlt : l < h₀.objs.size := Heap.lt_size hol
  have hne : l ≠ s.heap.objs.size := Nat.ne_of_lt (Nat.lt_trans (Nat.lt_of_lt_of_le hlt F.above) F.ns.lt)
  refine wpAny_pyIter_list hls ?_
  have W := Walks.list (prog := prog) (w := w) hh s.heap.objs.size l hne vs.toArray
  have hlen : vs.toArray.size = ns.length := by simp [hi.length]
  rw [hlen] at W
  refine ⟨s.heap.objs.size, _, ns.length, _, _, m₀, news, J, rfl, W, ?_, ?_, hI, hLI, ⟨⟨_, Heap.get?_push_size _ rfl, rfl, rfl⟩, hls.at fun o e => Heap.get?_push_of_some _ e⟩, F.push _, (fun q hq => ⟨Heap.get?_push_of_some _ (N q hq).1, (N q hq).2⟩), hnw, hj, ?_, ?_⟩
  · rintro i h ⟨⟨o, ho, _⟩, _⟩
    exact ⟨o, ho⟩
  · intro b hb
    rcases List.mem_cons.mp hb with e | hb
    · exact .inl e
    · exact .inr ⟨ol, by rw [List.mem_singleton.mp hb]; exact hol⟩
  · rintro i v m₁ news₁ h tk o hin hP hJ hne' F₁ N₁
    obtain ⟨t, hx⟩ := hi.get i ns[i] (by simp [hin])
    have hv : v = .int ns[i] t := by
      have hP' : vs[i]? = some v := by simpa using hP
      rw [hx] at hP'; exact (Option.some.inj hP').symm
    subst hv
    exact turn i ns[i] t m₁ news₁ h tk _ o (by simp [hin]) hJ hne' F₁ N₁
  · intro m₁ news₁ h tk hJ F₁ N₁
    exact done m₁ news₁ h tk hJ F₁ N₁
end
end Mine
end
theorem Mine.reset_C2 : True := by
  k_with_none
  trivial
section
set_option maxRecDepth 100000
namespace Mine
open PySem.Calls PySem.Spec

theorem fill_it : (fun (_ : OpenLaw) (_ : Params → Frag) => True) PySem.Challenge.rw_ti0050_01 Mine.KF := by
  k_fill
  trivial

local macro_rules | `(tactic| k_room) => `(tactic| ((try simp only [depth_under_make, depth_under_kw, depth_in1, depth_deeper, depth_caller] at *); (try dsimp only [Ar] at *); omega))

local macro_rules | `(tactic| walk_at "call type:tuple") => `(tactic| (k_here; (with_reducible show wpAny _ _ (call (Value.type _) [Value.ref _]) _ _ _); k_dflt (refine' kde_tupleOf ?k1 ?k2 ?k3 ?k4 (Eq.refl _) ?_; (case k1 => k_asm); (case k2 => k_asm); (case k3 => exact News.isList (by k_asm) (by k_mem)); (case k4 => ((simp only [List.size_toArray]); omega)); k_whole); intro D' h' F' N' l1; (try k_lt l1); (try k_sweep)))

def bump (cnt : List Int) (b : Nat) : List Int :=
  let c' := if cnt.length ≤ b then cnt ++ List.replicate (b - cnt.length + 1) 0 else cnt
  c'.set b (c'.getD b 0 + 1)

structure WsS where
  n : Nat
  nt : Nat
  b : Nat
  cnt : List Int
def wsStep (st : WsS) (c : Nat) : WsS := if c = 32 then { st with n := st.n + 1, b := st.b + 1 } else { n := st.n + 1, nt := st.nt + 1, b := 0, cnt := bump st.cnt st.b }
def wsRun (l : List Nat) : WsS := l.foldl wsStep ⟨0, 0, 0, []⟩

theorem wsRun_snoc (l : List Nat) (c : Nat) : wsRun (l ++ [c]) = wsStep (wsRun l) c := by simp [wsRun, List.foldl_append]
theorem bump_length (l : List Int) (b : Nat) : (bump l b).length = max l.length (b + 1) := by
  unfold bump
  by_cases h : l.length ≤ b
  · simp only [if_pos h, List.length_set, List.length_append, List.length_replicate]; omega
  · simp only [if_neg h, List.length_set]; omega
theorem wsStep_bounds (st : WsS) (c k : Nat) (h : st.b ≤ k ∧ st.cnt.length ≤ k ∧ st.n = k ∧ st.nt ≤ k) : (wsStep st c).b ≤ k + 1 ∧ (wsStep st c).cnt.length ≤ k + 1 ∧ (wsStep st c).n = k + 1 ∧ (wsStep st c).nt ≤ k + 1 := by
  unfold wsStep
  by_cases e : c = 32
  · simp only [if_pos e]; omega
  · simp only [if_neg e, bump_length]; omega
theorem ws_bounds (l : List Nat) : (wsRun l).b ≤ l.length ∧ (wsRun l).cnt.length ≤ l.length ∧ (wsRun l).n = l.length ∧ (wsRun l).nt ≤ l.length := by
  have key : ∀ (l : List Nat) (st : WsS) (k : Nat), (st.b ≤ k ∧ st.cnt.length ≤ k ∧ st.n = k ∧ st.nt ≤ k) → ((l.foldl wsStep st).b ≤ k + l.length ∧ (l.foldl wsStep st).cnt.length ≤ k + l.length ∧ (l.foldl wsStep st).n = k + l.length ∧ (l.foldl wsStep st).nt ≤ k + l.length) := by
    intro l
    induction l with
    | nil => intro st k h; simpa using h
    | cons c r ih =>
      intro st k h
      have z := ih _ (k + 1) (wsStep_bounds st c k h)
      simp only [List.foldl_cons, List.length_cons]
      omega
  have z := key l ⟨0, 0, 0, []⟩ 0 ⟨Nat.le_refl _, Nat.le_refl _, rfl, Nat.le_refl _⟩
  simpa [wsRun] using z

theorem flat_one (n : Nat) : (List.replicate n [(0 : Int)]).flatten = List.replicate n 0 := by
  induction n with
  | zero => rfl
  | succ n ih => rw [List.replicate_succ, List.flatten_cons, ih]; rfl
theorem bump_new {cnt : List Int} {b : Nat} (h : (cnt.length : Int) ≤ (b : Int)) : (cnt ++ (List.replicate ((b : Int) - (cnt.length : Int) + 1).toNat [0]).flatten).set (b : Int).toNat ((cnt ++ (List.replicate ((b : Int) - (cnt.length : Int) + 1).toNat [0]).flatten).getD (b : Int).toNat 0 + 1) = bump cnt b := by
  have e : ((b : Int) - (cnt.length : Int) + 1).toNat = b - cnt.length + 1 := by omega
  have h' : cnt.length ≤ b := by omega
  unfold bump
  rw [e, flat_one, Int.toNat_natCast]
  simp only [if_pos h']
theorem bump_old {cnt : List Int} {b : Nat} (h : ¬ (cnt.length : Int) ≤ (b : Int)) : cnt.set (b : Int).toNat (cnt.getD (b : Int).toNat 0 + 1) = bump cnt b := by
  have h' : ¬ cnt.length ≤ b := by omega
  unfold bump
  rw [Int.toNat_natCast]
  simp only [if_neg h']

section
variable {prog : Program} {w : World} {s : Shared} {base : Heap} {envs : List Env} {p : Program} {loose : List Str} {mean : ExcName → Option Value} {mg mb : Str → Option Value} {dp un : Nat} {gd : Option (List Code)} {Q E : Value → Shared → Prop}

def WsJ (xt : Str) (e : DictEntry) (x dx : Addr) (i : Nat) (m : Str → Option Value) (nx : List (Addr × Obj)) : Prop :=
  ∃ (D : Addr) (vs : List Value) (k : Nat) (t1 t2 t3 t4 t5 : Tok), 
    let st := wsRun (xt.cps.toList.take i)
    nx = [(D, listOf vs.toArray k), (x, instObj 83 dx), (dx, dictOf [e] 1)] ∧ IntsAre vs st.cnt ∧ dx < x ∧ x < D ∧
    m "self" = some (.ref x) ∧ m "S" = some (.str " " t1) ∧ m "T" = some (.str "\t" t2) ∧ m "n" = some (.int st.n t3) ∧ m "nt" = some (.int st.nt t4) ∧ m "b" = some (.int st.b t5) ∧ m "count" = some (.ref D)

abbrev wsDict (w : World) (xt : Str) (tx : Tok) (st : WsS) (T1 : Addr) (k0 k1 k2 k3 k4 u1 u2 : Tok) : Obj :=
  dictOf [⟨PyData.keyHash w.params (Str.ofString "raw"), .str (Str.ofString "raw") k0, .str xt tx⟩, ⟨PyData.keyHash w.params (Str.ofString "n"), .str (Str.ofString "n") k1, .int st.n u1⟩,
    ⟨PyData.keyHash w.params (Str.ofString "nt"), .str (Str.ofString "nt") k2, .int st.nt u2⟩, ⟨PyData.keyHash w.params (Str.ofString "norm"), .str (Str.ofString "norm") k3, .ref T1⟩,
    ⟨PyData.keyHash w.params (Str.ofString "is_simple"), .str (Str.ofString "is_simple") k4, .bool (decide ((st.cnt.length : Int) ≤ 1))⟩] 5

set_option maxHeartbeats 8000000 in
theorem con_ws0 (G : Gnd (Mine.KF w.params) p loose mean mg mb base envs s.heap) (hd : dp + 4 < recursionLimit) (hu : un + 30 < cLine) {xt : Str} {tx : Tok}
    (hok : ∀ c ∈ xt.cps.toList, c = 32 ∨ c = 9) (hsz : xt.cps.size ≤ 4096)
    (ret : ∀ (L' x dx T1 T2 : Addr) (m' : Str → Option Value) (vs : List Value) (k0 k1 k2 k3 k4 u1 u2 u3 : Tok) (h' : Heap) (tk' : Nat), IntsAre vs (wsRun xt.cps.toList).cnt → Fr s.heap L' h' m' →
      News s.heap L' h' [(T1, { cls := .type "tuple", data := .seq #[.ref T2, .int (wsRun xt.cps.toList).b u3] }), (T2, { cls := .type "tuple", data := .seq vs.toArray }), (x, instObj 83 dx), (dx, wsDict w xt tx (wsRun xt.cps.toList) T1 k0 k1 k2 k3 k4 u1 u2)] →
      (∀ b o, s.heap.get? b = some o → b < dx) → dx < x → x < T2 → T2 < T1 → Q (.ref x) { s with heap := h', toks := tk' }) :
    wpAny (model prog w) (Ar dp un gd envs) (call (.ref 83) [.str xt tx]) Q E s := by
  obtain ⟨B, X, T⟩ := G
  refine wpAny_call ?_
  refine' make_enter (binds := fun x => [(Str.ofString "self", .ref x), (Str.ofString "ws", .str xt tx)]) B X T ?kA ?km ?ki ?kf ?ko ?kc ?kr ?kb ?kl ?_ ?c5 ?c2 ?c3 ?c4
  case kA => exact rfl
  case km => k_is
  case ki => k_is
  case kf => k_is
  case ko => k_is
  case kc => k_is
  case kr => k_room
  case kb => exact fun _ _ => BindsTo.of_eq rfl
  case kl => exact fun _ => locs rfl
  case c5 => decide
  case c2 => exact rfl
  case c3 => exact rfl
  case c4 => exact rfl
  intro x dx L' h₁ F' N' l1 l2 l3 B' X' T'
  (try dsimp only); k_lt2 l1; k_lt2 l2
  k_steps
  rename Fr _ _ _ _ => F1
  rename News _ _ _ _ => N1
  refine' loop_str (WsJ xt ?e x dx) rfl F1 (news_sub N1 ?sub) ?h0 ?turn ?done
  case h0 => exact ⟨_, [], 0, _, _, _, _, _, rfl, .nil, l1, (by refine ltN ?_; omega), rfl, rfl, rfl, rfl, rfl, rfl, rfl⟩
  case sub => exact all_cons (by k_mem) (all_cons (by k_mem) (all_cons (by k_mem) all_nil))
  case turn =>
    clear N1 F1
    rintro i c t m₁ news₁ h tk I o hc ⟨D, vs, k, t1, t2, t3, t4, t5, rfl, hi, _, lD, e1, e2, e3, e4, e5, e6, e7⟩ hne F1 N1
    have F2 := fr_kst (ps := [(Str.ofString "self", _), (Str.ofString "S", _), (Str.ofString "T", _), (Str.ofString "n", _), (Str.ofString "nt", _), (Str.ofString "b", _), (Str.ofString "count", _)]) (all_cons e1 (all_cons e2 (all_cons e3 (all_cons e4 (all_cons e5 (all_cons e6 (all_cons e7 all_nil))))))) F1
    clear F1
    dsimp only [kstB] at F2
    have hDI := neN (hne (D, _) (List.mem_cons_self ..))
    have hxI := neN (hne (x, _) (List.mem_cons_of_mem _ (List.mem_cons_self ..)))
    have hdI := neN (hne (dx, _) (List.mem_cons_of_mem _ (List.mem_cons_of_mem _ (List.mem_cons_self ..))))
    (try dsimp only at hDI hxI hdI)
    k_lt2 lD
    have hci : xt.cps.toList[i]? = some c := by simpa using hc
    have hlt : i < xt.cps.size := by
      have := (List.getElem?_eq_some_iff.mp hci).1
      simpa using this
    have hb := ws_bounds (xt.cps.toList.take i)
    have hsnoc : wsRun (xt.cps.toList.take (i + 1)) = wsStep (wsRun (xt.cps.toList.take i)) c := by
      rw [List.take_add_one, hci]; exact wsRun_snoc _ _
    have hcc := hok c (List.mem_of_getElem? hci)
    simp only [List.length_take, Array.length_toList] at hb
    unfold WsJ
    rw [hsnoc]
    generalize wsRun (xt.cps.toList.take i) = st at *
    obtain ⟨hb1, hb2, hb3, hb4⟩ := hb
    have hbb : st.b ≤ 4096 := by omega
    have hbl : st.cnt.length ≤ 4096 := by omega
    clear hb1 hb2 hc hci hsnoc e1 e2 e3 e4 e5 e6 e7
    rcases hcc with rfl | rfl
    · k_steps
      rename Fr _ _ _ _ => F1
      rename News _ _ _ _ => N1
      refine ⟨_, _, _, _, rfl, F1, N1, hne, ?_⟩
      exact ⟨D, vs, k, _, _, _, _, _, rfl, hi, l1, lD, rfl, rfl, rfl, rfl, rfl, rfl, rfl⟩
    · k_steps
      · rename Fr _ _ _ _ => F1
        rename News _ _ _ _ => N1
        rename IntsAre _ (List.set _ _ _) => hI2
        rw [bump_new (cnt := st.cnt) (b := st.b) (by assumption)] at hI2
        refine' turn_next F1 N1 ?sub ?ne ?J
        case J => exact ⟨_, _, 0, _, _, _, _, _, rfl, hI2, l1, (by refine ltN ?_; omega), rfl, rfl, rfl, rfl, rfl, rfl, rfl⟩
        case sub => exact all_cons (by k_mem) (all_cons (by k_mem) (all_cons (by k_mem) (all_cons (by k_mem) all_nil)))
        case ne => exact all_cons (by k_ne) (all_cons (by k_ne) (all_cons (by k_ne) all_nil))
      · rename Fr _ _ _ _ => F1
        rename News _ _ _ _ => N1
        rename IntsAre _ (List.set _ _ _) => hI2
        rw [bump_old (cnt := st.cnt) (b := st.b) (by assumption)] at hI2
        refine' turn_next F1 N1 ?sub ?ne ?J
        case J => exact ⟨_, _, k, _, _, _, _, _, rfl, hI2, l1, (by refine ltN ?_; omega), rfl, rfl, rfl, rfl, rfl, rfl, rfl⟩
        case sub => exact all_cons (by k_mem) (all_cons (by k_mem) (all_cons (by k_mem) (all_cons (by k_mem) all_nil)))
        case ne => exact all_cons (by k_ne) (all_cons (by k_ne) (all_cons (by k_ne) all_nil))
  case done =>
    clear N1 F1
    intro m₁ news₁ h tk hJ F1 N1
    have hb := ws_bounds xt.cps.toList
    have hall : xt.cps.toList.take xt.cps.size = xt.cps.toList := by rw [← Array.length_toList, List.take_length]
    unfold WsJ at hJ
    rw [hall] at hJ
    simp only [Array.length_toList] at hb
    generalize wsRun xt.cps.toList = st at *
    obtain ⟨D, vs, k, t1, t2, t3, t4, t5, rfl, hi, _, lD, e1, e2, e3, e4, e5, e6, e7⟩ := hJ
    have F2 := fr_kst0 (ps := [(Str.ofString "self", _), (Str.ofString "S", _), (Str.ofString "T", _), (Str.ofString "n", _), (Str.ofString "nt", _), (Str.ofString "b", _), (Str.ofString "count", _)]) (all_cons e1 (all_cons e2 (all_cons e3 (all_cons e4 (all_cons e5 (all_cons e6 (all_cons e7 all_nil))))))) F1
    clear F1
    dsimp only [kstB] at F2
    k_lt2 lD
    obtain ⟨hb1, hb2, hb3, hb4⟩ := hb
    have hbb : st.b ≤ 4096 := by omega
    have hbl : st.cnt.length ≤ 4096 := by omega
    have hvl : vs.length ≤ 4096 := by rw [hi.length]; exact hbl
    clear hb1 hb2 hall e1 e2 e3 e4 e5 e6 e7
    k_steps
    rename Fr _ _ _ _ => F1
    rename News _ _ _ _ => N1
    refine' ⟨rfl, ret _ x dx _ _ _ vs _ _ _ _ _ _ _ _ _ _ hi F1 (news_sub N1 ?sub) l3 l1 ?o1 ?o2⟩
    case sub => exact all_cons (by k_mem) (all_cons (by k_mem) (all_cons (by k_mem) (all_cons (by k_mem) all_nil)))
    case o1 => refine ltN ?_; omega
    case o2 => refine ltN ?_; omega
end
end Mine
end
theorem Mine.reset_C3 : True := by
  k_with_none
  trivial
section
set_option maxRecDepth 100000
namespace Mine
open PySem.Calls PySem.Spec


local macro_rules | `(tactic| k_room) => `(tactic| ((try simp only [depth_under_make, depth_under_kw, depth_in1, depth_deeper, depth_caller] at *); (try dsimp only [Ar] at *); omega))

local macro_rules | `(tactic| k_mem) => `(tactic| assumption)

section
variable {prog : Program} {w : World} {s : Shared} {base h₀ : Heap} {outer : List Env} {A₀ : Around} {L : Addr} {m : Str → Option Value} {env : Env} {news : List (Addr × Obj)} {p : Program} {loose : List Str} {mean : ExcName → Option Value} {mg mb : Str → Option Value} {dp un : Nat} {gd : Option (List Code)} {Q E : Value → Shared → Prop}

theorem con_ws (B : Below A₀ base outer h₀) (F : Fr h₀ L s.heap m) (X : (Mine.KF w.params).In h₀) (N : News h₀ L s.heap news) (T : Top p loose mean mg mb h₀) (hf : env.frame = some L) (hke : env.scope.kind = .function)
    (hd : dp + 4 < recursionLimit) (hu : un + 30 < cLine) {xt : Str} {tx : Tok} (hok : ∀ c ∈ xt.cps.toList, c = 32 ∨ c = 9) (hsz : xt.cps.size ≤ 4096)
    (ret : ∀ (x dx T1 T2 : Addr) (vs : List Value) (k0 k1 k2 k3 k4 u1 u2 u3 : Tok) (h' : Heap) (tk' : Nat), IntsAre vs (wsRun xt.cps.toList).cnt → Fr h₀ L h' m →
      News h₀ L h' ((T1, { cls := .type "tuple", data := .seq #[.ref T2, .int (wsRun xt.cps.toList).b u3] }) :: (T2, { cls := .type "tuple", data := .seq vs.toArray }) :: (x, instObj 83 dx) :: (dx, wsDict w xt tx (wsRun xt.cps.toList) T1 k0 k1 k2 k3 k4 u1 u2) :: news) →
      (∀ q ∈ news, q.1 < dx) → (∀ b o, s.heap.get? b = some o → b < dx) → dx < x → x < T2 → T2 < T1 → Q (.ref x) { s with heap := h', toks := tk' }) :
    wpAny (model prog w) (Ar dp un gd (env :: outer)) (call (.ref 83) [.str xt tx]) Q E s := by
  refine con_ws0 (gnd_of B F X T hf hke) hd hu hok hsz ?_
  intro L' x dx T1 T2 m' vs k0 k1 k2 k3 k4 u1 u2 u3 h' tk' hi F1 N1 l1 l2 l3 l4
  have z := news_join F N F1 N1
  exact ret x dx T1 T2 vs k0 k1 k2 k3 k4 u1 u2 u3 h' tk' hi z.1 z.2 (fun q hq => l1 _ _ (N q hq).1) l1 l2 l3 l4

theorem my_len_tuple {A : Around} {t : Addr} {vs : List Value} {ns : List Int} (N : News h₀ L s.heap news) (hm : (t, ({ cls := .type "tuple", data := .seq vs.toArray } : Obj)) ∈ news) (hi : IntsAre vs ns) (hfit : ns.length ≤ 100000)
    (h : Q (.int (ns.length : Nat) (s.toks + 1)) { s with toks := s.toks + 1 + 1 }) : wpAny (model prog w) A (call (.builtin "len") [.ref t]) Q E s := by
  have e : vs.toArray.size = ns.length := by simp [hi.length]
  refine PyProof.Rows.len_tuple (News.isTup N hm) (by omega) ?_
  rw [e]; exact h
theorem my_item_tuple {A : Around} {value slice : Expr} {t : Addr} {vs : List Value} {ns : List Int} {k : Int} {u : Tok} (N : News h₀ L s.heap news) (hm : (t, ({ cls := .type "tuple", data := .seq vs.toArray } : Obj)) ∈ news) (hi : IntsAre vs ns) (h0 : 0 ≤ k) (hlt : k < ns.length) (hfit : ns.length ≤ 100000)
    (h : ∀ t', Q (.int (ns.getD k.toNat 0) t') s)
    (hs : subscripted slice false (.ref t) (.int k u) = operate [.ref t, .int k u] (getItem (.ref t) (.int k u))) :
    wpAny (model prog w) A (subscriptTail value slice (.ref t) (.int k u)) Q E s := by
  have hlt' : k.toNat < ns.length := by omega
  obtain ⟨t', hx⟩ := hi.get k.toNat ns[k.toNat] (by simp [hlt'])
  have hl := hi.length
  refine item_tupleT (j := k.toNat) (News.isTup N hm) (by omega) (by omega) ?_ hx ?_ hs
  · simp [seqIndex?, show ¬ k < 0 by omega, h0, hl, hlt]
  · have e : ns.getD k.toNat 0 = ns[k.toNat] := by simp [List.getD, hlt']
    have z := h t'
    rw [e] at z; exact z

local macro_rules | `(tactic| walk_at "call builtin:len") => `(tactic| (k_here; (with_reducible show wpAny _ _ (call (Value.builtin _) [Value.ref _]) _ _ _); k_dflt (refine' my_len_tuple ?k1 ?k2 ?k3 ?k4 ?_; (case k1 => k_asm); (case k2 => k_mem); (case k3 => assumption); (case k4 => omega); k_whole)))
local macro_rules | `(tactic| walk_at "subscriptTail Name Name ref int") => `(tactic| (k_here; (with_reducible show wpAny _ _ (subscriptTail _ _ (Value.ref _) (Value.int _ _)) _ _ _); k_dflt (refine' my_item_tuple ?k1 ?k2 ?k3 ?k4 ?k5 ?k6 ?_ ?k7; (case k1 => k_asm); (case k2 => k_mem); (case k3 => assumption); (case k4 => omega); (case k5 => omega); (case k6 => omega); (case k7 => with_unfolding_all rfl); k_whole); intro _))

def ilF (size : Int) (cnt : List Int) : Nat → Int
  | 0 => 0
  | k + 1 => ilF size cnt k + Int.fdiv (size + (k : Int)) size * cnt.getD (size + (k : Int)).toNat 0

set_option maxHeartbeats 8000000 in
theorem con_indent (B : Below A₀ base outer h₀) (F : Fr h₀ L s.heap m) (X : (Mine.KF w.params).In h₀) (N : News h₀ L s.heap news) (T : Top p loose mean mg mb h₀) (hf : env.frame = some L) (hke : env.scope.kind = .function)
    (hd : dp + 4 < recursionLimit) (hu : un + 30 < cLine) {xt : Str} {tx : Tok} {st : WsS} {x dx T1 T2 : Addr} {vs : List Value} {k0 k1 k2 k3 k4 u1 u2 u3 : Tok} {size : Int} {tz : Tok}
    (hi : IntsAre vs st.cnt) (hsz : st.cnt.length ≤ 4096) (h1 : 1 ≤ size) (h8 : size ≤ 8)
    (m1 : (T1, ({ cls := .type "tuple", data := .seq #[.ref T2, .int st.b u3] } : Obj)) ∈ news) (m2 : (T2, ({ cls := .type "tuple", data := .seq vs.toArray } : Obj)) ∈ news) (m3 : (x, instObj 83 dx) ∈ news) (m4 : (dx, wsDict w xt tx st T1 k0 k1 k2 k3 k4 u1 u2) ∈ news)
    (ret : ∀ t h' tk', Fr h₀ L h' m → News h₀ L h' news → Q (.int (st.b + size * (ilF size st.cnt (st.cnt.length - size).toNat + st.nt)) t) { s with heap := h', toks := tk' }) :
    wpAny (model prog w) (Ar dp un gd (env :: outer)) (call (.ref 52) [.ref x, .int size tz]) Q E s := by
  refine wpAny_call ?_
  refine' code_def (binds := [(Str.ofString "self", .ref x), (Str.ofString "tabsize", .int size tz)]) B F X N T rfl hf hke ?k6 ?k7 ?k8 ?k9 ?kB ?_ ?c2 ?c3 ?c4 ?c5
  case k6 => k_is
  case k7 => k_is
  case k8 => k_room
  case k9 => exact BindsTo.of_eq rfl
  case kB => exact locs rfl
  case c2 => exact rfl
  case c3 => exact rfl
  case c4 => exact rfl
  case c5 => decide
  clear B F X N T
  intro g L' h₁ FG F' N' B' X' T'
  try dsimp only
  k_with "pyIter ref" => (refine hold_in ?_)
  k_steps
  refine hold_out ?_
  rename IsRange _ _ _ _ _ _ _ _ => hR
  rename Fr _ _ _ _ => F1
  rename News _ _ _ _ => N1
  refine' loop_range (n := ((st.cnt.length : Int) - size).toNat) (fun i m nx => nx = news ∧ m (Str.ofString "self") = some (.ref x) ∧ m (Str.ofString "tabsize") = some (.int size tz) ∧ m (Str.ofString "count") = some (.ref T2) ∧ m (Str.ofString "trailing") = some (.int st.b u3) ∧ ∃ t, m (Str.ofString "il") = some (.int (ilF size st.cnt i) t)) rfl hR ?small (rs_one _ _) F1 N1 ?h0 ?turn ?done
  case small => exact small_one (by omega) (by omega) (by omega) (by omega)
  case h0 => exact ⟨rfl, rfl, rfl, rfl, rfl, _, rfl⟩
  case turn =>
    clear F1 N1 hR
    rintro i t m₁ news₁ h tk I o hlt ⟨rfl, e1, e2, e3, e4, t5, e5⟩ hne F1 N1
    have F2 := fr_kst (ps := [(Str.ofString "self", _), (Str.ofString "tabsize", _), (Str.ofString "count", _), (Str.ofString "trailing", _), (Str.ofString "il", _)]) (all_cons e1 (all_cons e2 (all_cons e3 (all_cons e4 (all_cons e5 all_nil))))) F1
    clear F1 e1 e2 e3 e4 e5
    dsimp only [kstB] at F2
    have hk1 : 1 ≤ size + (i : Int) := by omega
    have hk2 : size + (i : Int) < (st.cnt.length : Int) := by omega
    have hq0 : 0 ≤ Int.fdiv (size + (i : Int)) size := by rw [Int.fdiv_eq_ediv_of_nonneg _ (by omega)]; exact Int.ediv_nonneg (by omega) (by omega)
    have hq1 : Int.fdiv (size + (i : Int)) size ≤ 5000 := by rw [Int.fdiv_eq_ediv_of_nonneg _ (by omega)]; exact Int.le_trans (Int.ediv_le_self _ (by omega)) (by omega)
    k_steps
    rename Fr _ _ _ _ => F1
    rename News _ _ _ _ => N1
    refine' turn_next F1 N1 ?sub ?ne ?J
    case J => exact ⟨rfl, rfl, rfl, rfl, rfl, _, rfl⟩
    case sub => exact fun _ hq => hq
    case ne => exact hne
  case done =>
    clear F1 N1 hR
    rintro m₁ news₁ h tk ⟨rfl, e1, e2, e3, e4, t5, e5⟩ F1 N1
    have F2 := fr_kst0 (ps := [(Str.ofString "self", _), (Str.ofString "tabsize", _), (Str.ofString "count", _), (Str.ofString "trailing", _), (Str.ofString "il", _)]) (all_cons e1 (all_cons e2 (all_cons e3 (all_cons e4 (all_cons e5 all_nil))))) F1
    clear F1 e1 e2 e3 e4 e5
    dsimp only [kstB] at F2
    k_steps
    rename Fr _ _ _ _ => F1
    rename News _ _ _ _ => N1
    exact leaveK_ F1 N1 fun F N => ret _ _ _ F N
end
end Mine
end
theorem Mine.reset_C4 : True := by
  k_with_none
  trivial
section
set_option maxRecDepth 100000
namespace Mine
open PySem.Calls PySem.Spec


local macro_rules | `(tactic| k_room) => `(tactic| ((try simp only [depth_under_make, depth_under_kw, depth_in1, depth_deeper, depth_caller] at *); (try dsimp only [Ar] at *); omega))
local macro_rules | `(tactic| k_mem) => `(tactic| assumption)

def leadCodes (ks : List Nat) : List Nat := ks.flatMap fun k => List.replicate k 32 ++ [9]
def sqs (ns : List Int) : List Nat := (ns.filter fun n => decide (256 ≤ n)).map fun n => (n - 256).toNat
def ots (ns : List Int) : List Nat := (ns.filter fun n => decide (n < 256)).map fun n => n.toNat

def LdJ (l : Addr) (tail : Int) (tt : Tok) (ns : List Int) (i : Nat) (m : Str → Option Value) (nx : List (Addr × Obj)) : Prop :=
  nx = [] ∧ m (Str.ofString "symbols") = some (.ref l) ∧ m (Str.ofString "tail") = some (.int tail tt) ∧ ∃ (X Y : Str) (t1 t2 : Tok), m (Str.ofString "squares") = some (.str X t1) ∧ X.cps.toList = leadCodes (sqs (ns.take i)) ∧ m (Str.ofString "others") = some (.str Y t2) ∧ Y.cps.toList = leadCodes (ots (ns.take i))

local macro_rules | `(tactic| walk_at "inplaceOp Add str str") => `(tactic| (k_here; (with_reducible show wpAny _ _ (inplaceOp Operator.Add (Value.str _ _) (Value.str _ _)) _ _ _); (refine PyProof.Rows.iadd_str ?_ ?hsz; rotate_left; (case hsz => (rw [sizeLine_eq]; omega))); intro _ _))

theorem leadCodes_snoc (ks : List Nat) (k : Nat) : leadCodes (ks ++ [k]) = leadCodes ks ++ (List.replicate k 32 ++ [9]) := by simp [leadCodes]
theorem leads_big {l : List Int} {n : Int} (h : 256 ≤ n) : leadCodes (sqs (l ++ [n])) = leadCodes (sqs l) ++ (List.replicate (n - 256).toNat 32 ++ [9]) ∧ leadCodes (ots (l ++ [n])) = leadCodes (ots l) := by
  have h' : ¬ n < 256 := by omega
  constructor
  · rw [← leadCodes_snoc]; simp [sqs, List.filter_append, h]
  · simp [ots, List.filter_append, h']
theorem leads_small {l : List Int} {n : Int} (h : n < 256) : leadCodes (ots (l ++ [n])) = leadCodes (ots l) ++ (List.replicate n.toNat 32 ++ [9]) ∧ leadCodes (sqs (l ++ [n])) = leadCodes (sqs l) := by
  have h' : ¬ 256 ≤ n := by omega
  constructor
  · rw [← leadCodes_snoc]; simp [ots, List.filter_append, h]
  · simp [sqs, List.filter_append, h']
theorem leadCodes_len : ∀ (ks : List Nat), (∀ k ∈ ks, k ≤ 7) → (leadCodes ks).length ≤ 8 * ks.length
  | [], _ => Nat.le_refl _
  | k :: r, h => by
    have z := leadCodes_len r fun q hq => h q (List.mem_cons_of_mem _ hq)
    have h0 := h k (List.mem_cons_self ..)
    have e : (leadCodes (k :: r)).length = k + 1 + (leadCodes r).length := by simp [leadCodes]; omega
    rw [e, List.length_cons]; omega
theorem leadCodes_ok (ks : List Nat) : ∀ c ∈ leadCodes ks, c = 32 ∨ c = 9 := by
  intro c hc
  obtain ⟨k, _, h⟩ := List.mem_flatMap.mp hc
  rcases List.mem_append.mp h with h | h
  · exact .inl (List.eq_of_mem_replicate h)
  · exact .inr (List.mem_singleton.mp h)
theorem sqs_le {l : List Int} (h : ∀ n ∈ l, (0 ≤ n ∧ n < 8) ∨ (256 ≤ n ∧ n < 264)) : (∀ k ∈ sqs l, k ≤ 7) ∧ (sqs l).length ≤ l.length := by
  refine ⟨fun k hk => ?_, ?_⟩
  · obtain ⟨n, hn, rfl⟩ := List.mem_map.mp hk
    have h1 := (List.mem_filter.mp hn)
    have h2 := h n h1.1
    have h3 : 256 ≤ n := by simpa using h1.2
    omega
  · simp only [sqs, List.length_map]; exact List.length_filter_le ..
theorem ots_le {l : List Int} (h : ∀ n ∈ l, (0 ≤ n ∧ n < 8) ∨ (256 ≤ n ∧ n < 264)) : (∀ k ∈ ots l, k ≤ 7) ∧ (ots l).length ≤ l.length := by
  refine ⟨fun k hk => ?_, ?_⟩
  · obtain ⟨n, hn, rfl⟩ := List.mem_map.mp hk
    have h1 := (List.mem_filter.mp hn)
    have h2 := h n h1.1
    have h3 : n < 256 := by simpa using h1.2
    omega
  · simp only [ots, List.length_map]; exact List.length_filter_le ..
theorem lead_ok (ks : List Nat) (n : Nat) : ∀ c ∈ leadCodes ks ++ List.replicate n 32, c = 32 ∨ c = 9 := by
  intro c hc
  rcases List.mem_append.mp hc with h | h
  · exact leadCodes_ok ks c h
  · exact .inl (List.eq_of_mem_replicate h)
theorem txt_snoc {X : Str} {n : Int} {l : List Nat} (h : X.cps.toList = l) : (X ++ (Txt.mul (Str.ofString " ") n ++ Str.ofString "\t")).cps.toList = l ++ (List.replicate n.toNat 32 ++ [9]) := by
  rw [PySem.Str.cps_append, PySem.Str.cps_append, Array.toList_append, Array.toList_append, h, show (Str.ofString " ") = ⟨#[32]⟩ from by decide +kernel, show (Str.ofString "\t").cps.toList = [9] from by decide +kernel, mul_one_list]
theorem txt_tail {X : Str} {n : Int} {l : List Nat} (h : X.cps.toList = l) : (X ++ Txt.mul (Str.ofString " ") n).cps.toList = l ++ List.replicate n.toNat 32 := by
  rw [PySem.Str.cps_append, Array.toList_append, h, show (Str.ofString " ") = ⟨#[32]⟩ from by decide +kernel, mul_one_list]
theorem txt_len {X : Str} {l : List Nat} (h : X.cps.toList = l) : X.length = l.length := by
  show X.cps.size = _
  rw [← h, Array.length_toList]

section
variable {prog : Program} {w : World} {s : Shared} {base : Heap} {envs : List Env} {p : Program} {loose : List Str} {mean : ExcName → Option Value} {mg mb : Str → Option Value} {dp un : Nat} {gd : Option (List Code)} {Q E : Value → Shared → Prop}

set_option maxHeartbeats 8000000 in
theorem con_leads0 (G : Gnd (Mine.KF w.params) p loose mean mg mb base envs s.heap) (hd : dp + 10 < recursionLimit) (hu : un + 100 < cLine) {l : Addr} {vs : List Value} {ns : List Int} {tail : Int} {tt : Tok}
    (hl : s.heap.IsList l vs.toArray) (hi : IntsAre vs ns) (hn : ns.length ≤ 50) (hk : ∀ n ∈ ns, (0 ≤ n ∧ n < 8) ∨ (256 ≤ n ∧ n < 264)) (h1 : 1 ≤ tail) (h8 : tail ≤ 8)
    (ret : ∀ (L' D x1 d1 T11 T12 x2 d2 T21 T22 : Addr) (m' : Str → Option Value) (vs1 vs2 : List Value) (xt1 xt2 : Str) (y1 y2 p0 p1 p2 p3 p4 q1 q2 q3 r0 r1 r2 r3 r4 o1 o2 o3 : Tok) (h' : Heap) (tk' : Nat),
      IntsAre vs1 (wsRun (leadCodes (sqs ns) ++ List.replicate tail.toNat 32)).cnt → IntsAre vs2 (wsRun (leadCodes (ots ns) ++ List.replicate tail.toNat 32)).cnt → Fr s.heap L' h' m' →
      News s.heap L' h' [(D, { cls := .type "tuple", data := .seq #[.ref x1, .ref x2] }),
        (T21, { cls := .type "tuple", data := .seq #[.ref T22, .int (wsRun (leadCodes (ots ns) ++ List.replicate tail.toNat 32)).b o3] }), (T22, { cls := .type "tuple", data := .seq vs2.toArray }), (x2, instObj 83 d2),
        (d2, wsDict w xt2 y2 (wsRun (leadCodes (ots ns) ++ List.replicate tail.toNat 32)) T21 r0 r1 r2 r3 r4 o1 o2),
        (T11, { cls := .type "tuple", data := .seq #[.ref T12, .int (wsRun (leadCodes (sqs ns) ++ List.replicate tail.toNat 32)).b q3] }), (T12, { cls := .type "tuple", data := .seq vs1.toArray }), (x1, instObj 83 d1),
        (d1, wsDict w xt1 y1 (wsRun (leadCodes (sqs ns) ++ List.replicate tail.toNat 32)) T11 p0 p1 p2 p3 p4 q1 q2)] →
      (∀ b o, s.heap.get? b = some o → b < d1) → d1 < x1 → x1 < T12 → T12 < T11 → T11 < d2 → d2 < x2 → x2 < T22 → T22 < T21 → T21 < D → Q (.ref D) { s with heap := h', toks := tk' }) :
    wpAny (model prog w) (Ar dp un gd envs) (call (.ref 167) [.ref l, .int tail tt]) Q E s := by
  obtain ⟨B, X, T⟩ := G
  refine wpAny_call ?_
  refine' enter_here (binds := [(Str.ofString "symbols", .ref l), (Str.ofString "tail", .int tail tt)]) (news := []) B rfl (fun _ _ e => e) (Nat.le_refl _) X T ?k6 ?k7 ?k8 ?k9 ?kB (List.forall_mem_nil _) ?_ ?c5 ?c2 ?c3 ?c4
  case k6 => k_is
  case k7 => k_is
  case k8 => k_room
  case k9 => exact BindsTo.of_eq rfl
  case kB => exact locs rfl
  case c2 => exact rfl
  case c3 => exact rfl
  case c4 => exact rfl
  case c5 => decide
  intro L' h₁ F' N' _ B' X' T'
  clear B X T
  (try dsimp only)
  k_with "pyIter ref" => (refine hold_in ?_)
  k_steps
  refine hold_out ?_
  rename Fr _ _ _ _ => F1
  rename News _ _ _ _ => N1
  refine' loop_list (LdJ l tail tt ns) rfl hl hi F1 (news_sub (l' := []) N1 all_nil) ?h0 ?turn ?done
  case h0 => exact ⟨rfl, rfl, rfl, _, _, _, _, rfl, rfl, rfl, rfl⟩
  case turn =>
    clear F1 N1
    rintro i n t m₁ news₁ h tk I o hget ⟨rfl, e1, e2, X, Y, t3, t4, e3, hX, e4, hY⟩ hne F1 N1
    have F2 := fr_kst (ps := [(Str.ofString "symbols", _), (Str.ofString "tail", _), (Str.ofString "squares", _), (Str.ofString "others", _)]) (all_cons e1 (all_cons e2 (all_cons e3 (all_cons e4 all_nil)))) F1
    clear F1 e1 e2 e3 e4
    dsimp only [kstB] at F2
    have hkn := hk n (List.mem_of_getElem? hget)
    have htab : (Str.ofString "\t").length = 1 := by decide +kernel
    have hsub : ∀ q ∈ ns.take i, (0 ≤ q ∧ q < 8) ∨ (256 ≤ q ∧ q < 264) := fun q hq => hk q (List.mem_of_mem_take hq)
    have hti : (ns.take i).length ≤ 50 := by rw [List.length_take]; omega
    have hXl : X.length ≤ 400 := by
      have z := sqs_le hsub
      have y := leadCodes_len _ z.1
      rw [txt_len hX]; omega
    have hYl : Y.length ≤ 400 := by
      have z := ots_le hsub
      have y := leadCodes_len _ z.1
      rw [txt_len hY]; omega
    have hsnoc : ns.take (i + 1) = ns.take i ++ [n] := by rw [List.take_add_one, hget]; rfl
    rcases hkn with ⟨g1, g2⟩ | ⟨g1, g2⟩
    · have hL := leads_small (l := ns.take i) (n := n) (by omega)
      rw [← hsnoc] at hL
      k_steps
      rename Fr _ _ _ _ => F1
      rename News _ _ _ _ => N1
      refine' turn_next F1 N1 ?sub ?ne ?J
      case J => exact ⟨rfl, rfl, rfl, _, _, _, _, rfl, by rw [hL.2]; exact hX, rfl, by rw [hL.1]; exact txt_snoc hY⟩
      case sub => exact fun _ hq => hq
      case ne => exact hne
    · have hL := leads_big (l := ns.take i) (n := n) (by omega)
      rw [← hsnoc] at hL
      k_steps
      rename Fr _ _ _ _ => F1
      rename News _ _ _ _ => N1
      refine' turn_next F1 N1 ?sub ?ne ?J
      case J => exact ⟨rfl, rfl, rfl, _, _, _, _, rfl, by rw [hL.1]; exact txt_snoc hX, rfl, by rw [hL.2]; exact hY⟩
      case sub => exact fun _ hq => hq
      case ne => exact hne
  case done =>
    clear F1 N1
    rintro m₁ news₁ h tk ⟨rfl, e1, e2, X, Y, t3, t4, e3, hX, e4, hY⟩ F1 N1
    rw [List.take_length] at hX hY
    have F2 := fr_kst0 (ps := [(Str.ofString "symbols", _), (Str.ofString "tail", _), (Str.ofString "squares", _), (Str.ofString "others", _)]) (all_cons e1 (all_cons e2 (all_cons e3 (all_cons e4 all_nil)))) F1
    clear F1 e1 e2 e3 e4
    dsimp only [kstB] at F2
    have hXl : X.length ≤ 400 := by
      have z := sqs_le hk
      have y := leadCodes_len _ z.1
      rw [txt_len hX]; omega
    have hYl : Y.length ≤ 400 := by
      have z := ots_le hk
      have y := leadCodes_len _ z.1
      rw [txt_len hY]; omega
    have hT1 := txt_tail (n := tail) hX
    have hT2 := txt_tail (n := tail) hY
    have hs1 : (leadCodes (sqs ns) ++ List.replicate tail.toNat 32).length ≤ 4096 := by rw [List.length_append, List.length_replicate, ← txt_len hX]; omega
    have hs2 : (leadCodes (ots ns) ++ List.replicate tail.toNat 32).length ≤ 4096 := by rw [List.length_append, List.length_replicate, ← txt_len hY]; omega
    k_with "call ref" => (refine hold_in ?_)
    k_steps
    refine hold_out ?_
    rename Fr _ _ _ _ => Fa
    rename News _ _ _ _ => Na
    refine' con_ws B' Fa X' Na T' rfl rfl ?kd ?ku (by rw [hT1]; exact lead_ok _ _) (Nat.le_trans (Nat.le_of_eq (txt_len hT1)) hs1) ?_
    case kd => k_room
    case ku => dsimp only [Ar, Around.deeper]; omega
    have lb : ∀ b o, s.heap.get? b = some o → h.get? b = some o := fun b o e => Fa.keep b o e
    clear Fa Na
    rw [hT1]
    intro x1 d1 T11 T12 vs1 p0 p1 p2 p3 p4 q1 q2 q3 h1' tk1' hi1 Fb Nb l1 l1b l2 l3 l4
    clear l1; k_lt2 l2; k_lt2 l3; k_lt2 l4
    k_steps
    refine hold_out ?_
    rename Fr _ _ _ _ => Fa
    rename News _ _ _ _ => Na
    refine' con_ws B' Fa X' Na T' rfl rfl ?kd ?ku (by rw [hT2]; exact lead_ok _ _) (Nat.le_trans (Nat.le_of_eq (txt_len hT2)) hs2) ?_
    case kd => k_room
    case ku => dsimp only [Ar, Around.deeper]; omega
    clear Fa Na
    rw [hT2]
    intro x2 d2 T21 T22 vs2 r0 r1 r2 r3 r4 o1 o2 o3 h2' tk2' hi2 Fc Nc l5 _ l6 l7 l8
    k_lt l5; k_lt2 l6; k_lt2 l7; k_lt2 l8
    k_steps
    rename Fr _ _ _ _ => Fa
    rename News _ _ _ _ => Na
    rename _ ∧ _ => lD
    exact ret _ _ _ _ _ _ _ _ _ _ _ _ _ _ _ _ _ _ _ _ _ _ _ _ _ _ _ _ _ _ _ _ _ _ _ hi1 hi2 Fa Na (fun b o e => l1b b o (lb b o e)) l2 l3 l4 l5.1 l6 l7 l8 lD.1
end
end Mine
end
theorem Mine.reset_C5 : True := by
  k_with_none
  trivial
section
set_option maxRecDepth 100000
namespace Mine
open PySem.Calls PySem.Spec


local macro_rules | `(tactic| k_room) => `(tactic| ((try simp only [depth_under_make, depth_under_kw, depth_in1, depth_deeper, depth_caller] at *); (try dsimp only [Ar] at *); omega))
local macro_rules | `(tactic| k_mem) => `(tactic| assumption)

def signF (p n : Int) : Int := if Int.fmod n p = 0 then 0 else if Int.fmod ((Int.fmod n p) ^ (Int.fdiv p 2).toNat) p = 1 then 1 else -1

section
variable {prog : Program} {w : World} {s : Shared} {base h₀ : Heap} {outer : List Env} {A₀ : Around} {L : Addr} {m : Str → Option Value} {env : Env} {news : List (Addr × Obj)} {p : Program} {loose : List Str} {mean : ExcName → Option Value} {mg mb : Str → Option Value} {dp un : Nat} {gd : Option (List Code)} {Q E : Value → Shared → Prop}

set_option maxHeartbeats 8000000 in
theorem con_sign (B : Below A₀ base outer h₀) (F : Fr h₀ L s.heap m) (X : (Mine.KF w.params).In h₀) (N : News h₀ L s.heap news) (T : Top p loose mean mg mb h₀) (hf : env.frame = some L) (hke : env.scope.kind = .function)
    (hd : dp + 4 < recursionLimit) (hu : un + 30 < cLine) {pr n : Int} {tp tn : Tok} (h7 : 7 ≤ pr) (h47 : pr ≤ 47)
    (ret : ∀ t h' tk', Fr h₀ L h' m → News h₀ L h' news → Q (.int (signF pr n) t) { s with heap := h', toks := tk' }) :
    wpAny (model prog w) (Ar dp un gd (env :: outer)) (call (.ref 174) [.int pr tp, .int n tn]) Q E s := by
  refine wpAny_call ?_
  refine' code_def (binds := [(Str.ofString "prime", .int pr tp), (Str.ofString "number", .int n tn)]) B F X N T rfl hf hke ?k6 ?k7 ?k8 ?k9 ?kB ?_ ?c2 ?c3 ?c4 ?c5
  case k6 => k_is
  case k7 => k_is
  case k8 => k_room
  case k9 => exact BindsTo.of_eq rfl
  case kB => exact locs rfl
  case c2 => exact rfl
  case c3 => exact rfl
  case c4 => exact rfl
  case c5 => decide
  clear B F X N T
  intro g L' h₁ FG F' N' B' X' T'
  try dsimp only
  have hq0 : 0 ≤ Int.fmod n pr := fmod_lo n (by omega)
  have hq1 : Int.fmod n pr < pr := fmod_hi n (by omega)
  have hq2 : 0 ≤ Int.fdiv pr 2 := by rw [Int.fdiv_eq_ediv_of_nonneg _ (by omega)]; omega
  have hq3 : Int.fdiv pr 2 ≤ 23 := by rw [Int.fdiv_eq_ediv_of_nonneg _ (by omega)]; omega
  k_steps
  · rename Int.fmod _ _ = 0 => g1
    have e : signF pr n = 0 := by unfold signF; rw [if_pos g1]
    rename Fr _ _ _ _ => F1
    rename News _ _ _ _ => N1
    exact leaveK_ F1 N1 fun F N => e ▸ ret _ _ _ F N
  · rename Int.fmod _ _ ≠ 0 => g1
    rename Int.fmod _ _ = 1 => g2
    have e : signF pr n = 1 := by unfold signF; rw [if_neg g1, if_pos g2]
    rename Fr _ _ _ _ => F1
    rename News _ _ _ _ => N1
    exact leaveK_ F1 N1 fun F N => e ▸ ret _ _ _ F N
  · rename Int.fmod _ _ ≠ 0 => g1
    rename Int.fmod _ _ ≠ 1 => g2
    have e : signF pr n = -1 := by unfold signF; rw [if_neg g1, if_neg g2]
    rename Fr _ _ _ _ => F1
    rename News _ _ _ _ => N1
    exact leaveK_ F1 N1 fun F N => e ▸ ret _ _ _ F N

def clIn (mid out c : Int) : Nat → Int
  | 0 => c
  | i + 1 => if (mid + (i : Int)) * (mid + (i : Int)) ≤ out ∧ Int.fmod out (mid + (i : Int)) = 0 then clIn mid out c i + (if mid + (i : Int) = mid ∨ (mid + (i : Int)) * (mid + (i : Int)) = out then 1 else 2) else clIn mid out c i
def clOut (pr mid : Int) : Int := Int.fdiv (pr + mid * mid) 4
def clRun (pr : Int) : Nat → Int → Int → Int
  | 0, c, _ => c
  | k + 1, c, mid => if 3 * mid * mid ≤ pr then clRun pr k (clIn mid (clOut pr mid) c (clOut pr mid + 1 - mid).toNat) (mid + 2) else c
theorem clRun_succ (pr : Int) (k : Nat) (c mid : Int) : clRun pr (k + 1) c mid = if 3 * mid * mid ≤ pr then clRun pr k (clIn mid (clOut pr mid) c (clOut pr mid + 1 - mid).toNat) (mid + 2) else c := rfl
theorem clIn_succ (mid out c : Int) (i : Nat) : clIn mid out c (i + 1) = if (mid + (i : Int)) * (mid + (i : Int)) ≤ out ∧ Int.fmod out (mid + (i : Int)) = 0 then clIn mid out c i + (if mid + (i : Int) = mid ∨ (mid + (i : Int)) * (mid + (i : Int)) = out then 1 else 2) else clIn mid out c i := rfl
def classF (pr : Int) : Int := clRun pr 10 0 1

set_option maxHeartbeats 8000000 in
theorem con_classes (B : Below A₀ base outer h₀) (F : Fr h₀ L s.heap m) (X : (Mine.KF w.params).In h₀) (N : News h₀ L s.heap news) (T : Top p loose mean mg mb h₀) (hf : env.frame = some L) (hke : env.scope.kind = .function)
    (hd : dp + 4 < recursionLimit) (hu : un + 30 < cLine) {pr : Int} {tp : Tok} (h7 : 7 ≤ pr) (h47 : pr ≤ 47)
    (ret : ∀ t h' tk', Fr h₀ L h' m → News h₀ L h' news → Q (.int (classF pr) t) { s with heap := h', toks := tk' }) :
    wpAny (model prog w) (Ar dp un gd (env :: outer)) (call (.ref 181) [.int pr tp]) Q E s := by
  refine wpAny_call ?_
  refine' code_def (binds := [(Str.ofString "prime", .int pr tp)]) B F X N T rfl hf hke ?k6 ?k7 ?k8 ?k9 ?kB ?_ ?c2 ?c3 ?c4 ?c5
  case k6 => k_is
  case k7 => k_is
  case k8 => k_room
  case k9 => exact BindsTo.of_eq rfl
  case kB => exact locs rfl
  case c2 => exact rfl
  case c3 => exact rfl
  case c4 => exact rfl
  case c5 => decide
  clear B F X N T
  intro g L' h₁ FG F' N' B' X' T'
  try dsimp only
  k_with "exec While Compare cons nil" => (refine hold_in ?_)
  k_with "pyIter ref" => (refine hold_in ?_)
  k_steps
  refine hold_out ?_
  rename Fr _ _ _ _ => F1
  rename News _ _ _ _ => N1
  refine' While_inv (n₀ := 10) (fun n m nx => nx = news ∧ m (Str.ofString "prime") = some (.int pr tp) ∧ ∃ (c mid : Int) (t1 t2 : Tok), m (Str.ofString "classes") = some (.int c t1) ∧ m (Str.ofString "middle") = some (.int mid t2) ∧ clRun pr n c mid = classF pr ∧ mid = 2 * (10 - (n : Int)) + 1 ∧ n ≤ 10) F1 (news_sub (l' := news) N1 fun _ hq => List.mem_cons_of_mem _ hq) ?h0 ?turn
  case h0 => exact ⟨rfl, rfl, _, _, _, _, rfl, rfl, rfl, rfl, Nat.le_refl _⟩
  case turn =>
    clear F1 N1
    rintro n m₁ news₁ h tk F1 N1 ⟨rfl, e1, c, mid, t1, t2, e2, e3, hrun, hmid, hn⟩
    have F2 := fr_kst0 (ps := [(Str.ofString "prime", _), (Str.ofString "classes", _), (Str.ofString "middle", _)]) (all_cons e1 (all_cons e2 (all_cons e3 all_nil))) F1
    clear F1 e1 e2 e3
    dsimp only [kstB] at F2
    have hm1 : 1 ≤ mid := by omega
    have hm2 : mid ≤ 21 := by omega
    k_steps
    · refine hold_out ?_
      rename 3 * mid * mid ≤ pr => hle
      have hmm : 3 * (mid * mid) ≤ pr := by rw [← Int.mul_assoc]; exact hle
      have hmp : 1 ≤ mid * mid := Int.mul_pos (by omega) (by omega)
      have ho0 : 0 ≤ clOut pr mid := by unfold clOut; rw [Int.fdiv_eq_ediv_of_nonneg _ (by omega)]; omega
      have ho1 : clOut pr mid ≤ 15 := by unfold clOut; rw [Int.fdiv_eq_ediv_of_nonneg _ (by omega)]; omega
      have hn1 : ∃ n', n = n' + 1 := by
        cases n with
        | zero =>
          have h21 : mid = 21 := by omega
          rw [h21] at hle
          omega
        | succ n' => exact ⟨n', rfl⟩
      obtain ⟨n', rfl⟩ := hn1
      rename IsRange _ _ _ _ _ _ _ _ => hR
      rename Fr _ _ _ _ => F1
      rename News _ _ _ _ => N1
      refine' loop_range (n := (clOut pr mid + 1 - mid).toNat) (fun i m nx => nx = news₁ ∧ m (Str.ofString "prime") = some (.int pr tp) ∧ m (Str.ofString "middle") = some (.int mid t2) ∧ (∃ t, m (Str.ofString "outer") = some (.int (clOut pr mid) t)) ∧ ∃ t, m (Str.ofString "classes") = some (.int (clIn mid (clOut pr mid) c i) t)) rfl hR ?small (rs_one _ _) F1 N1 ?h0 ?turn ?done
      case small => exact small_one (by omega) (by omega) (by show -(2 ^ 62) ≤ clOut pr mid + 1; omega) (by show clOut pr mid + 1 < 2 ^ 62; omega)
      case h0 => exact ⟨rfl, rfl, rfl, ⟨_, rfl⟩, _, rfl⟩
      case turn =>
        clear F1 N1 hR
        rintro i t m₂ news₂ h2 tk2 I o hlt ⟨rfl, e1, e2, ⟨t3, e3⟩, t4, e4⟩ hne F1 N1
        have F2 := fr_kst (ps := [(Str.ofString "prime", _), (Str.ofString "middle", _), (Str.ofString "outer", _), (Str.ofString "classes", _)]) (all_cons e1 (all_cons e2 (all_cons e3 (all_cons e4 all_nil)))) F1
        clear F1 e1 e2 e3 e4
        dsimp only [kstB] at F2
        have hi1 : 1 ≤ mid + (i : Int) := by omega
        have hi2 : mid + (i : Int) ≤ 15 := by omega
        generalize hO : clOut pr mid = out at *
        k_steps
        all_goals (
          rename Fr _ _ _ _ => F1
          rename News _ _ _ _ => N1
          refine' turn_next F1 N1 ?sub ?ne ?J
          (case J =>
            refine ⟨rfl, rfl, rfl, ⟨_, rfl⟩, _, congrArg (fun z => some (Value.int z _)) (Eq.symm ?_)⟩
            rw [clIn_succ]
            (repeat' split) <;> first | rfl | omega)
          (case sub => exact fun _ hq => hq)
          (case ne => exact hne))
      case done =>
        clear F1 N1 hR
        rintro m₂ news₂ h2 tk2 ⟨rfl, e1, e2, ⟨t3, e3⟩, t4, e4⟩ F1 N1
        have F2 := fr_kst0 (ps := [(Str.ofString "prime", _), (Str.ofString "middle", _), (Str.ofString "outer", _), (Str.ofString "classes", _)]) (all_cons e1 (all_cons e2 (all_cons e3 (all_cons e4 all_nil)))) F1
        clear F1 e1 e2 e3 e4
        dsimp only [kstB] at F2
        k_steps
        rename Fr _ _ _ _ => F1
        rename News _ _ _ _ => N1
        refine' WhileStep.intro (n' := n') F1 N1 (Nat.lt_succ_self _) ?J
        case J =>
          refine ⟨rfl, rfl, _, _, _, _, rfl, rfl, ?_, by omega, by omega⟩
          rw [← hrun]
          rw [clRun_succ, if_pos hle]
    · rename ¬ (3 * mid * mid ≤ pr) => hle
      have e : classF pr = c := by
        rw [← hrun]
        cases n with
        | zero => rfl
        | succ n' => rw [clRun_succ, if_neg hle]
      rename Fr _ _ _ _ => F1
      rename News _ _ _ _ => N1
      exact leaveK_ F1 N1 fun F N => e ▸ ret _ _ _ F N
end
end Mine
end
section
set_option maxRecDepth 100000
namespace Mine
open PySem.Calls PySem.Spec
section
variable {prog : Program} {w : World} {A : Around} {E : Value → Shared → Prop} {s : Shared} {h₀ : Heap} {L : Addr} {m : Str → Option Value} {env : Env} {news : List (Addr × Obj)}

def ZEnd (h₀ : Heap) (L : Addr) (m : Str → Option Value) (s : Shared) (full : List (Addr × Obj)) (r : Int) (y : Value) (s₂ : Shared) : Prop :=
  ∃ h' tk t, s₂ = { s with heap := h', toks := tk } ∧ Fr h₀ L h' m ∧ News h₀ L h' full ∧ y = .int r t
theorem zend {h' : Heap} {tk : Nat} {full full' : List (Addr × Obj)} {r r' : Int} {t : Tok} (F : Fr h₀ L h' m) (N : News h₀ L h' full') (hs : ∀ q ∈ full, q ∈ full') (e : r = r') : ZEnd h₀ L m s full r (.int r' t) { s with heap := h', toks := tk } :=
  ⟨h', tk, t, rfl, F, news_sub N hs, by rw [e]⟩

theorem fp_ne {n l1 l2 b : Nat} (a1 : l1 < n) (a2 : l2 < n) (hb : b ∈ [n + 4, n + 2, n + 3, n, n + 1, l1, l2]) : b ≠ n + 6 ∧ b ≠ n + 5 := by
  simp only [List.mem_cons, List.not_mem_nil, or_false] at hb
  omega

theorem zip_comp {elt iter : PySem.Expr} {xa xb : Str} {pa pb tp : Pos} {kk : Nat} {scope : Scope} {cl : List (Str × Addr)} {pos : Pos} {Q : Value → Shared → Prop} {l1 l2 : Addr} {vs1 vs2 : List Value} {ns1 ns2 : List Int} {k1 k2 : Nat} (g : Int → Int → Int)
    (hh : A.handled = none) (hcell : ∀ y ∈ scope.names, y.2 ≠ .cell) (hkind : scope.kind = .function) (hxa : scope.names.lookup xa = some .local) (hxb : scope.names.lookup xb = some .local) (hab : ¬ xa = xb)
    (F : Fr h₀ L s.heap m) (N : News h₀ L s.heap news) (hm1 : (l1, listOf vs1.toArray k1) ∈ news) (hm2 : (l2, listOf vs2.toArray k2) ∈ news) (hi1 : IntsAre vs1 ns1) (hi2 : IntsAre vs2 ns2) (hlen : ns1.length = ns2.length) (hsz : ns1.length ≤ 4096)
    (turn : ∀ (i : Nat) (a b : Int) ta tb z oz TI oTI TO oTO i1 o1 i2 o2 C oC D ys (m₂ : Str → Option Value) h tk (E' : Value → Shared → Prop), ns1[i]? = some a → ns2[i]? = some b → LCg.NsObj oC m₂ → m₂ xa = some (.int a ta) → m₂ xb = some (.int b tb) → Fr h₀ L h m →
      News h₀ L h ((C, oC) :: (z, oz) :: (TI, oTI) :: (TO, oTO) :: (i1, o1) :: (i2, o2) :: (D, LCg.lst ys) :: news) →
      wpAny (model prog w) A (eval elt (compEnvC scope cl C env)) (ZEnd h₀ L m { s with heap := h, toks := tk } ((C, oC) :: (z, oz) :: (TI, oTI) :: (TO, oTO) :: (i1, o1) :: (i2, o2) :: (D, LCg.lst ys) :: news) (g a b)) E' { s with heap := h, toks := tk })
    (done : ∀ D ys h' tk, Fr h₀ L h' m → News h₀ L h' ((D, LCg.lst ys) :: news) → (∀ q ∈ news, q.1 < D) → IntsAre ys (List.zipWith g ns1 ns2) → Q (.ref D) { s with heap := h', toks := tk }) :
    wpAny (model prog w) A (call (.type "zip") [.ref l1, .ref l2]) (fun xv s₁ => wpAny (model prog w) A (pyIter xv) (fun it s₂ => wpAny (model prog w) A (newList []) (fun acc s₃ =>
      wpAny (model prog w) A (newFunctionEnv scope env.globals cl [] env.qual none .none (some env)) (fun cenv s₄ =>
        codeAny (model prog w) A (.compStart (.ListComp elt [⟨.Tuple [.Name xa pa, .Name xb pb] kk tp, iter, [], 0⟩] scope pos) 0 it acc { cenv with scope := relabel scope env }) (compPost (model prog w) A E none Q acc cenv.locals) s₄) E s₃) E s₂) E s₁) E s := by
  have hl1 : s.heap.IsList l1 vs1.toArray := ⟨_, (N _ hm1).1, rfl, _, rfl⟩
  have hl2 : s.heap.IsList l2 vs2.toArray := ⟨_, (N _ hm2).1, rfl, _, rfl⟩
  have a1 : l1 < s.heap.objs.size := Heap.lt_size (N _ hm1).1
  have a2 : l2 < s.heap.objs.size := Heap.lt_size (N _ hm2).1
  have e1 := hi1.length
  have e2 := hi2.length
  have aL : L < s.heap.objs.size := F.ns.lt
  have fresh : ∀ a, s.heap.objs.size ≤ a → h₀.get? a = none := fun a ha => by
    cases e : h₀.get? a with
    | none => rfl
    | some o => exact absurd (Heap.lt_size (F.keep a o e)) (Nat.not_lt.mpr ha)
  have nlt : ∀ q ∈ news, q.1 < s.heap.objs.size := fun q hq => Heap.lt_size (N q hq).1
  refine call_zip_2 hl1 hl2 fun hz z0 z1 z2 z3 z4 hzs zk => ?_
  refine wpAny_pyIter_zip z0 ?_
  have Z := zipApart_new a1 a2
  revert z0 z1 z2 z3 z4 hzs Z fresh nlt a1 a2 aL
  generalize s.heap.objs.size = n
  intro a1 a2 aL fresh nlt z0 z1 z2 z3 z4 hzs Z
  refine wpAny_newObj_type (wpAny_newFunctionEnv hcell (by intro y hy; simp at hy) (fun h₁ hns₁ hsb₁ => ?_) hkind)
  dsimp only at hns₁ hsb₁ ⊢
  generalize hH2 : hz.push { cls := .type "list", dict := none, data := .seq ([] : List Value).toArray } = H2 at hns₁ hsb₁ ⊢
  have hC : H2.objs.size = n + 6 := by rw [← hH2, Heap.size_push, hzs]
  rw [hzs]
  revert hns₁ hsb₁
  rw [hC]
  intro hns₁ hsb₁
  have up₁ : ∀ b o, hz.get? b = some o → h₁.get? b = some o := fun b o e => hsb₁.extBut b o (by have := Heap.lt_size e; rw [hzs] at this; exact Nat.ne_of_lt (Nat.lt_succ_of_lt this)) (Heap.get?_push_of_some _ (hH2 ▸ Heap.get?_push_of_some _ e))
  have hacc : h₁.get? (n + 5) = some (LCg.lst []) := hsb₁.extBut _ _ (Nat.ne_of_lt (Nat.lt_succ_self _)) (Heap.get?_push_of_some _ (hH2 ▸ (by rw [← hzs]; exact Heap.get?_push_size _ rfl)))
  have up0 : ∀ b o, s.heap.get? b = some o → h₁.get? b = some o := fun b o e => up₁ b o (zk b o e)
  have W := WalksT.zip2 (prog := prog) (w := w) hh (n + 4) (n + 2) (n + 3) n (n + 1) l1 l2 Z vs1.toArray vs2.toArray
  have hmin : min vs1.toArray.size vs2.toArray.size = ns1.length := by simp [e1, e2, hlen]
  rw [hmin] at W
  have ne : ∀ {a b : Nat}, a < n → n ≤ b → a ≠ b := fun h1 h2 => Nat.ne_of_lt (Nat.lt_of_lt_of_le h1 h2)
  have loop : ∀ s₃ : Shared, s₃ = { s with heap := h₁, toks := s.toks + ([] : List (Str × Value)).length } →
      codeAny (model prog w) A (.compLoop (.ListComp elt [⟨.Tuple [.Name xa pa, .Name xb pb] kk tp, iter, [], 0⟩] scope pos) 0 (.ref (n + 4)) (.ref (n + 5)) (compEnvC scope cl (n + 6) env))
        (compPost (model prog w) A E none Q (.ref (n + 5)) (n + 6)) s₃ := by
    rintro s₃ rfl
    refine kcp_loop
      (fun k s' => ∃ h' tk i ys m', s' = { s with heap := h', toks := tk } ∧ i ≤ ns1.length ∧ k = ns1.length + 1 - i ∧ ys.length = i ∧ IntsAre ys ((List.zipWith g ns1 ns2).take i) ∧
        (IsZip h' (n + 4) (n + 2) (n + 3) .none ∧ IsPair h' (n + 2) (.ref n) (.ref (n + 1)) ∧ (∃ a b, IsPair h' (n + 3) a b) ∧ h'.IsListIter n l1 i ∧ h'.IsListIter (n + 1) l2 i ∧ h'.IsList l1 vs1.toArray ∧ h'.IsList l2 vs2.toArray) ∧
        Fr h₀ L h' m ∧ h'.Ns (n + 6) m' ∧ News h₀ L h' ((n + 5, LCg.lst ys) :: news)) ?_ (ns1.length + 1)
      ⟨h₁, _, 0, [], _, rfl, Nat.zero_le _, rfl, rfl, .nil, ⟨up₁ _ _ z0, up₁ _ _ z1, ⟨_, _, up₁ _ _ z2⟩, z3.at fun o e => up₁ _ o e, z4.at fun o e => up₁ _ o e, hl1.at fun o e => up0 _ o e, hl2.at fun o e => up0 _ o e⟩, F.keeps up0, hns₁, fun q hq => ?_⟩
    · rintro k s' ⟨h', tk, i, ys, m', rfl, hi, rfl, hyl, hy, hst, F', hn', N'⟩
      by_cases hlt : i < ns1.length
      · refine W.item i _ _ _ hlt hst fun T vals h₂ tk₂ hP hTn hT hMid hk₂ => ?_
        obtain ⟨x, y, hx, hy', rfl⟩ := hP
        have hlt2 : i < ns2.length := hlen ▸ hlt
        obtain ⟨ta, qa⟩ := hi1.get i ns1[i] (by simp [hlt])
        obtain ⟨tb, qb⟩ := hi2.get i ns2[i] (by simp [hlt2])
        have hxe : x = .int ns1[i] ta := by
          have : vs1[i]? = some x := by simpa using hx
          rw [qa] at this; exact (Option.some.inj this).symm
        have hye : y = .int ns2[i] tb := by
          have : vs2[i]? = some y := by simpa using hy'
          rw [qb] at this; exact (Option.some.inj this).symm
        subst hxe hye
        refine W.go _ kk tp i T _ _ _ hMid fun h₃ hst₃ hk₃ => ?_
        have hT₃ : h₃.IsTuple T #[.int ns1[i] ta, .int ns2[i] tb] := by
          obtain ⟨o, ho, r⟩ := hT
          exact ⟨o, hk₃ _ _ (W.apart i T _ hMid) ho, r⟩
        have up₃ : ∀ c o, c ∉ [n + 4, n + 3, n, n + 1] → h'.get? c = some o → h₃.get? c = some o := fun c o hc e => hk₃ c o hc (hk₂ c o hc e)
        have hnw : ∀ c, c < n ∨ n + 5 ≤ c → c ∉ [n + 4, n + 3, n, n + 1] := fun c hc hm => by
          simp only [List.mem_cons, List.not_mem_nil, or_false] at hm
          omega
        refine kcp_assign (env := compEnvC scope cl (n + 6) env) hh hT₃ (lookup_relabel_local hxa) (lookup_relabel_local hxb) (by simp [compEnvC, relabel, hkind]) (hn'.at' fun o e => up₃ _ o (hnw _ (.inr (Nat.le_succ _))) e) fun h₄ tk₄ hn₄ hs₄ => ?_
        have up : ∀ c o, (c < n ∨ c = n + 5) → h'.get? c = some o → h₄.get? c = some o := fun c o hc e =>
          hs₄ c o (by show c ≠ n + 6; omega) (up₃ c o (hnw c (by omega)) e)
        obtain ⟨oC, heC, hoC⟩ := LCg.ns_obj hn₄
        have hst₄ := W.frame (i + 1) h₃ h₄ hst₃ fun b hb o e => hs₄ b o (fp_ne a1 a2 hb).1 e
        have F₄ : Fr h₀ L h₄ m := ⟨F'.ns.at' fun o e => up _ o (.inl aL) e, fun c o e => up c o (.inl (by
          have := fresh c
          by_cases hc : n ≤ c
          · rw [this hc] at e; cases e
          · omega)) (F'.keep c o e), F'.above⟩
        obtain ⟨oz, hoz⟩ : ∃ o, h₄.get? (n + 4) = some o := ⟨_, hst₄.1⟩
        obtain ⟨oTI, hoTI⟩ : ∃ o, h₄.get? (n + 2) = some o := ⟨_, hst₄.2.1⟩
        obtain ⟨oTO, hoTO⟩ : ∃ o, h₄.get? (n + 3) = some o := by obtain ⟨a, b, q⟩ := hst₄.2.2.1; exact ⟨_, q⟩
        obtain ⟨o1, ho1⟩ : ∃ o, h₄.get? n = some o := by obtain ⟨o, q, _⟩ := hst₄.2.2.2.1; exact ⟨o, q⟩
        obtain ⟨o2, ho2⟩ : ∃ o, h₄.get? (n + 1) = some o := by obtain ⟨o, q, _⟩ := hst₄.2.2.2.2.1; exact ⟨o, q⟩
        have nn : ∀ b, n ≤ b → b ≠ L ∧ h₀.get? b = none := fun b hb => ⟨fun e => ne aL hb e.symm, fresh b hb⟩
        have N₄ : News h₀ L h₄ ((n + 6, oC) :: (n + 4, oz) :: (n + 2, oTI) :: (n + 3, oTO) :: (n, o1) :: (n + 1, o2) :: (n + 5, LCg.lst ys) :: news) :=
          all_cons ⟨heC, nn _ (by omega)⟩ (all_cons ⟨hoz, nn _ (by omega)⟩ (all_cons ⟨hoTI, nn _ (by omega)⟩ (all_cons ⟨hoTO, nn _ (by omega)⟩ (all_cons ⟨ho1, nn _ (Nat.le_refl _)⟩ (all_cons ⟨ho2, nn _ (by omega)⟩ fun q hq => by
            have zq := N' q hq
            refine ⟨up _ _ ?_ zq.1, zq.2⟩
            rcases List.mem_cons.mp hq with rfl | hq
            · exact .inr rfl
            · exact .inl (nlt q hq))))))
        refine wpAny_mono (turn i ns1[i] ns2[i] ta tb _ oz _ oTI _ oTO _ o1 _ o2 _ oC _ ys _ h₄ _ _ (by simp [hlt]) (by simp [hlt2]) hoC (by simp [hab]) (by simp) F₄ N₄) (fun y s₅ h₅ => ?_) fun _ _ e => e
        obtain ⟨h₅, tk₅, t₅, rfl, F₅, N₅, rfl⟩ := h₅
        have zD := (N₅ (n + 5, LCg.lst ys) (by simp)).1
        have zC := (N₅ (n + 6, oC) (by simp)).1
        have Nw : News h₀ L h₅ news := fun q hq => N₅ q (by simp [hq])
        have hst₅ := W.frame (i + 1) h₄ h₅ hst₄ fun b hb o e => by
          have one : ∀ {c : Addr} {oc : Obj}, (c, oc) ∈ ((n + 6, oC) :: (n + 4, oz) :: (n + 2, oTI) :: (n + 3, oTO) :: (n, o1) :: (n + 1, o2) :: (n + 5, LCg.lst ys) :: news) → h₄.get? c = some oc → b = c → h₅.get? b = some o := fun hm h4 hb => by
            subst hb
            rw [h4] at e; cases e
            exact (N₅ _ hm).1
          simp only [List.mem_cons, List.not_mem_nil, or_false] at hb
          rcases hb with hb | hb | hb | hb | hb | hb | hb
          · exact one (by simp) hoz hb
          · exact one (by simp) hoTI hb
          · exact one (by simp) hoTO hb
          · exact one (by simp) ho1 hb
          · exact one (by simp) ho2 hb
          · exact one (List.mem_append_right [_, _, _, _, _, _, _] hm1) (N₄ _ (List.mem_append_right [_, _, _, _, _, _, _] hm1)).1 hb
          · exact one (List.mem_append_right [_, _, _, _, _, _, _] hm2) (N₄ _ (List.mem_append_right [_, _, _, _, _, _, _] hm2)).1 hb
        refine append_at (hsz := by show ys.toArray.size ≤ sizeLine; rw [List.size_toArray, hyl, sizeLine_eq]; omega) zD fun h₆ hs₆ hD₆ => ?_
        refine ⟨ns1.length + 1 - (i + 1), by omega, h₆, tk₅, i + 1, ys ++ [.int (g ns1[i] ns2[i]) t₅], _, rfl, hlt, rfl, by rw [List.length_append, List.length_singleton, hyl], ?_,
          W.frame _ _ _ hst₅ fun b hb o e => hs₆.extBut b o (fp_ne a1 a2 hb).2 e,
          F₅.change hs₆ (nn _ (by omega)).1 (nn _ (by omega)).2, (hoC.ns zC).sameBut hs₆ (Nat.ne_of_gt (Nat.lt_succ_self _)), all_cons ⟨hD₆.trans (congrArg some (LCg.lst_snoc ys _)), nn _ (by omega)⟩ fun q hq => ?_⟩
        · have ez : (List.zipWith g ns1 ns2)[i]? = some (g ns1[i] ns2[i]) := by simp [List.getElem?_zipWith, hlt, hlt2]
          rw [List.take_add_one, ez]
          exact IntsAre.append hy (.cons _ _ .nil)
        · have zq := Nw q hq
          exact ⟨hs₆.extBut _ _ (Nat.ne_of_lt (Nat.lt_of_lt_of_le (nlt q hq) (Nat.le_add_right _ _))) zq.1, zq.2⟩
      · have hin : i = ns1.length := Nat.le_antisymm hi (Nat.not_lt.mp hlt)
        subst hin
        refine W.done _ _ _ hst fun h₂ tk₂ hk₂ => ?_
        have hnw : ∀ c, c < n ∨ n + 5 ≤ c → c ∉ [n + 4, n + 3, n, n + 1] := fun c hc hm => by
          simp only [List.mem_cons, List.not_mem_nil, or_false] at hm
          omega
        have nn : ∀ b, n ≤ b → b ≠ L ∧ h₀.get? b = none := fun b hb => ⟨fun e => ne aL hb e.symm, fresh b hb⟩
        have hzl : (List.zipWith g ns1 ns2).length = ns1.length := by simp [hlen]
        rw [← hzl, List.take_length] at hy
        refine ⟨m', hn'.at' fun o e => hk₂ _ o (hnw _ (.inr (Nat.le_succ _))) e, fun h₃ hs₃ => ?_⟩
        have up : ∀ c o, (c < n ∨ c = n + 5) → h'.get? c = some o → h₃.get? c = some o := fun c o hc e =>
          hs₃.extBut c o (by show c ≠ n + 6; omega) (hk₂ c o (hnw c (by omega)) e)
        refine done (n + 5) ys h₃ tk₂ ⟨F'.ns.at' fun o e => up _ o (.inl aL) e, fun c o e => up c o (.inl (by
          have := fresh c
          by_cases hc : n ≤ c
          · rw [this hc] at e; cases e
          · omega)) (F'.keep c o e), F'.above⟩ (fun q hq => ?_) (fun q hq => Nat.lt_of_lt_of_le (nlt q hq) (Nat.le_add_right _ _)) hy
        have zq := N' q hq
        refine ⟨up _ _ ?_ zq.1, zq.2⟩
        rcases List.mem_cons.mp hq with rfl | hq
        · exact .inr rfl
        · exact .inl (nlt q hq)
    · rcases List.mem_cons.mp hq with rfl | hq
      · exact ⟨hacc, fun e => ne aL (Nat.le_add_right n 5) e.symm, fresh _ (Nat.le_add_right n 5)⟩
      · exact ⟨up0 _ _ (N q hq).1, (N q hq).2⟩
  exact codeAny_compStart_list (loop _ rfl) (wpAny_pyIter_zip (up₁ _ _ z0) (loop _ rfl))

theorem ListComp_zip {elt iter : PySem.Expr} {xa xb : Str} {pa pb tp : Pos} {kk : Nat} {scope : Scope} {cl : List (Str × Addr)} {pos : Pos} {Q : Value → Shared → Prop}
    (hclos : closureFor scope env = pure cl) (hkind : scope.kind = .function) (hnames : ∀ y ∈ scope.names, y.2 = .local → scope.names.lookup y.1 = some .local) (hs : ∀ x, foldedSetIterable iter env x = pure x)
    (h : wpAny (model prog w) A (eval iter env) (fun xv s₁ => wpAny (model prog w) A (pyIter xv) (fun it s₂ => wpAny (model prog w) A (newList []) (fun acc s₃ =>
      wpAny (model prog w) A (newFunctionEnv scope env.globals cl [] env.qual none .none (some env)) (fun cenv s₄ =>
        codeAny (model prog w) A (.compStart (.ListComp elt [⟨.Tuple [.Name xa pa, .Name xb pb] kk tp, iter, [], 0⟩] scope pos) 0 it acc { cenv with scope := relabel scope env }) (compPost (model prog w) A E none Q acc cenv.locals) s₄) E s₃) E s₂) E s₁) E s) :
    wpAny (model prog w) A (eval (.ListComp elt [⟨.Tuple [.Name xa pa, .Name xb pb] kk tp, iter, [], 0⟩] scope pos) env) Q E s := by
  rw [eval_ListComp]
  exact wpAny_comprehension_free (use := none) rfl hs hclos hkind hnames h
end
end Mine
end
theorem Mine.reset_C6 : True := by
  k_with_none
  trivial
section
set_option maxRecDepth 100000
namespace Mine
open PySem.Calls PySem.Spec


local macro_rules | `(tactic| k_room) => `(tactic| ((try simp only [depth_under_make, depth_under_kw, depth_in1, depth_deeper, depth_caller] at *); (try dsimp only [Ar] at *); omega))
local macro_rules | `(tactic| k_mem) => `(tactic| assumption)
local macro_rules | `(tactic| walk_at "execs cons") => `(tactic| (k_here; k_fold; walk1))
local macro_rules | `(tactic| k_ne) => `(tactic| (refine neN ?_; (try dsimp only); first
  | assumption
  | exact Ne.symm (by assumption)
  | exact And.left (by assumption)
  | exact Ne.symm (And.left (by assumption))
  | exact And.right (by assumption)
  | exact Ne.symm (And.right (by assumption))
  | exact And.left (And.right (by assumption))
  | exact Ne.symm (And.left (And.right (by assumption)))
  | exact And.right (And.right (by assumption))
  | exact Ne.symm (And.right (And.right (by assumption)))
  | exact And.left (And.right (And.right (by assumption)))
  | exact Ne.symm (And.left (And.right (And.right (by assumption))))
  | exact And.right (And.right (And.right (by assumption)))
  | exact Ne.symm (And.right (And.right (And.right (by assumption))))
  | exact And.left (And.right (And.right (And.right (by assumption))))
  | exact Ne.symm (And.left (And.right (And.right (And.right (by assumption)))))
  | exact And.right (And.right (And.right (And.right (by assumption))))
  | exact Ne.symm (And.right (And.right (And.right (And.right (by assumption)))))
  | exact And.left (And.right (And.right (And.right (And.right (by assumption)))))
  | exact Ne.symm (And.left (And.right (And.right (And.right (And.right (by assumption))))))
  | exact And.right (And.right (And.right (And.right (And.right (by assumption)))))
  | exact Ne.symm (And.right (And.right (And.right (And.right (And.right (by assumption))))))
  | exact Nat.ne_of_lt (by assumption)
  | exact Nat.ne_of_gt (by assumption)
  | omega))

local macro_rules | `(tactic| walk_at "call ref") => `(tactic| (k_here; k_dflt (with_reducible show wpAny _ _ (call (Value.ref 181) _) _ _ _); k_dflt (refine' con_classes ?k1 ?k2 ?k3 ?k4 ?k5 ?kf ?kk ?kd ?ku ?m1 ?m2 ?_; (case k1 => k_asm); (case k2 => k_asm); (case k3 => k_asm); (case k4 => k_asm); (case k5 => k_asm); (case kf => exact rfl); (case kk => exact rfl); (case kd => k_room); (case ku => (dsimp only [Ar, Around.deeper]; omega)); (case m1 => omega); (case m2 => omega); k_whole); intro t' h' tk' F' N'))
local macro_rules | `(tactic| walk_at "call ref") => `(tactic| (k_here; k_dflt (with_reducible show wpAny _ _ (call (Value.ref 167) _) _ _ _); refine hold_in ?_))
local macro_rules | `(tactic| walk_at "call ref") => `(tactic| (k_here; k_dflt (with_reducible show wpAny _ _ (call (Value.ref 174) _) _ _ _); k_dflt (refine' con_sign ?k1 ?k2 ?k3 ?k4 ?k5 ?kf ?kk ?kd ?ku ?m1 ?m2 ?_; (case k1 => k_asm); (case k2 => k_asm); (case k3 => k_asm); (case k4 => k_asm); (case k5 => k_asm); (case kf => exact rfl); (case kk => exact rfl); (case kd => k_room); (case ku => (dsimp only [Ar, Around.deeper]; omega)); (case m1 => omega); (case m2 => omega); k_whole); intro t' h' tk' F' N'))
local macro_rules | `(tactic| walk_at "call ref") => `(tactic| (k_here; k_dflt (with_reducible show wpAny _ _ (call (Value.ref 52) _) _ _ _); k_dflt (refine' con_indent ?k1 ?k2 ?k3 ?k4 ?k5 ?kf ?kk ?kd ?ku ?hi ?hs ?m5 ?m6 ?m1 ?m2 ?m3 ?m4 ?_; (case k1 => k_asm); (case k2 => k_asm); (case k3 => k_asm); (case k4 => k_asm); (case k5 => k_asm); (case kf => exact rfl); (case kk => exact rfl); (case kd => k_room); (case ku => (dsimp only [Ar, Around.deeper]; omega)); (case m3 => k_mem); (case m4 => k_mem); (case m1 => k_mem); (case m2 => k_mem); (case hi => assumption); (case hs => assumption); (case m5 => omega); (case m6 => omega); k_whole); intro t' h' tk' F' N'))
local macro_rules | `(tactic| walk_at "CompSrc") => `(tactic| (k_here; refine hold_in ?_))

local macro_rules | `(tactic| walk_at "eval ListComp") => `(tactic| (k_here; (with_reducible show wpAny _ _ (eval (Expr.ListComp _ [⟨Expr.Tuple _ _ _, _, [], 0⟩] _ _) _) _ _ _); refine hold_in ?_))
local macro_rules | `(tactic| walk_at "call type:zip") => `(tactic| (k_here; refine hold_in ?_))

theorem ne_map {l l' : List (Addr × Obj)} {I : Addr} (h : ∀ q ∈ l, q.1 ≠ I) (e : l'.map Prod.fst = l.map Prod.fst) : ∀ q ∈ l', q.1 ≠ I := fun q hq => by
  have := List.mem_map_of_mem (f := Prod.fst) hq
  rw [e] at this
  obtain ⟨r, hr, er⟩ := List.mem_map.mp this
  rw [← er]
  exact h r hr
def neR {a b : Addr} (_ : @Ne Nat a b) : Addr := b
def listOfI {vs : List Value} {ns : List Int} (_ : IntsAre vs ns) : List Value := vs
def sqL (pr : Int) : List Int := (rangeKs 1 (pr - 1).toNat).map fun k => (k * k).fmod pr
def mkOf (pr k : Int) : Int := if (sqL pr).any (fun x => x == k) = true then 256 else 0
def mkL (pr : Int) : List Int := (rangeKs 1 (pr - 1).toNat).map (mkOf pr)

def prodL (b : Int) (R : List Int) : List Int := R.map fun r => b * r
def nextL (pr : Int) (R : List Int) : List Int := R.map fun q => q.fmod pr
def restL (pr : Int) (l : List Int) : List Int := l.foldl (fun R b => nextL pr (prodL b R)) (rangeKs 1 (pr - 1).toNat)
def roadF (l : List Int) : Int := l.foldl (fun r b => r * b) 1
theorem restL_snoc (pr : Int) (l : List Int) (b : Int) : restL pr (l ++ [b]) = nextL pr (prodL b (restL pr l)) := by simp [restL, List.foldl_append]
theorem roadF_snoc (l : List Int) (b : Int) : roadF (l ++ [b]) = roadF l * b := by simp [roadF, List.foldl_append]

theorem rangeKs_pos {a : Int} {n : Nat} {k : Int} (h : k ∈ rangeKs a n) : a ≤ k ∧ k < a + n := mem_rangeKs h
theorem restL_bound (pr : Int) (l : List Int) (h7 : 1 ≤ pr) (hb : ∀ q ∈ l, 1 ≤ q ∧ q ≤ 8) : (restL pr l).length = (pr - 1).toNat ∧ ∀ r ∈ restL pr l, 0 ≤ r ∧ r < pr := by
  have key : ∀ (l : List Int) (R : List Int), R.length = (pr - 1).toNat → (∀ r ∈ R, 0 ≤ r ∧ r < pr) → (l.foldl (fun R b => nextL pr (prodL b R)) R).length = (pr - 1).toNat ∧ ∀ r ∈ l.foldl (fun R b => nextL pr (prodL b R)) R, 0 ≤ r ∧ r < pr := by
    intro l
    induction l with
    | nil => intro R h1 h2; exact ⟨h1, h2⟩
    | cons b l ih =>
      intro R h1 h2
      refine ih _ (by simp [nextL, prodL, h1]) ?_
      intro r hr
      obtain ⟨q, hq, rfl⟩ := List.mem_map.mp hr
      exact ⟨fmod_lo q (by omega), fmod_hi q (by omega)⟩
  refine key l _ (rangeKs_length _ _) ?_
  intro r hr
  have z := rangeKs_pos hr
  omega

def symF (pr : Int) (P : List Int) : List Int := List.zipWith (fun mk q => mk + Int.fdiv q pr) (mkL pr) P
theorem fdiv_bd {q pr : Int} (h0 : 0 ≤ q) (hp : 1 ≤ pr) (hq : q < 8 * pr) : 0 ≤ Int.fdiv q pr ∧ Int.fdiv q pr < 8 := by
  rw [Int.fdiv_eq_ediv_of_nonneg _ (by omega)]
  exact ⟨Int.ediv_nonneg h0 (by omega), Int.ediv_lt_of_lt_mul (by omega) hq⟩
theorem symF_ok {pr b : Int} {R : List Int} (h7 : 7 ≤ pr) (h47 : pr ≤ 47) (hb1 : 1 ≤ b) (hb8 : b ≤ 8) (hR : R.length = (pr - 1).toNat ∧ ∀ r ∈ R, 0 ≤ r ∧ r < pr) :
    (symF pr (prodL b R)).length ≤ 50 ∧ ∀ n ∈ symF pr (prodL b R), (0 ≤ n ∧ n < 8) ∨ (256 ≤ n ∧ n < 264) := by
  refine ⟨?_, fun n hn => ?_⟩
  · simp [symF, mkL, rangeKs_length]; omega
  · obtain ⟨i, hi, e⟩ := List.getElem_of_mem hn
    simp only [symF, List.getElem_zipWith, mkL, prodL, List.getElem_map] at e
    have hlen : i < R.length := by
      have := hi
      simp only [symF, List.length_zipWith, prodL, List.length_map] at this
      omega
    have hr := hR.2 _ (List.getElem_mem hlen)
    have hm : ∀ k, mkOf pr k = 0 ∨ mkOf pr k = 256 := fun k => by
      unfold mkOf; split <;> simp
    have p0 : 0 ≤ b * R[i] := Int.mul_nonneg (by omega) hr.1
    have p1 : b * R[i] < 8 * pr := Int.lt_of_le_of_lt (Int.mul_le_mul_of_nonneg_right hb8 hr.1) (by omega)
    have hd := fdiv_bd p0 (by omega) p1
    rcases hm ((rangeKs 1 (pr - 1).toNat)[i]'(by rw [rangeKs_length]; omega)) with h | h <;> rw [h] at e <;> omega

def lvl (st : WsS) (size : Int) : Int := st.b + size * (ilF size st.cnt ((st.cnt.length : Int) - size).toNat + st.nt)
def stSq (pr b : Int) (R : List Int) : WsS := wsRun (leadCodes (sqs (symF pr (prodL b R))) ++ List.replicate b.toNat 32)
def stOt (pr b : Int) (R : List Int) : WsS := wsRun (leadCodes (ots (symF pr (prodL b R))) ++ List.replicate b.toNat 32)
def duF (pr rd b size : Int) : Int := (b - size * signF pr (Int.fdiv b size)) * signF pr rd * classF pr
def boF (pr b size : Int) (P : List Int) : Int := size * (pr - 1 + (P.map fun q => Int.fdiv q (size * pr)).sum) + 2 * b
def TurnOK (pr rd b : Int) (R : List Int) : Prop :=
  ((stSq pr b R).nt : Int) = Int.fdiv pr 2 ∧ ((stOt pr b R).nt : Int) = Int.fdiv pr 2 ∧ (stSq pr b R).cnt.length ≤ 4096 ∧ (stOt pr b R).cnt.length ≤ 4096 ∧
    ∀ size, 1 ≤ size → size ≤ b → Int.fmod b size = 0 → lvl (stOt pr b R) size - lvl (stSq pr b R) size = duF pr rd b size ∧ lvl (stSq pr b R) size + lvl (stOt pr b R) size = boF pr b size (prodL b R)
theorem signF_bd (pr n : Int) : -1 ≤ signF pr n ∧ signF pr n ≤ 1 := by
  unfold signF
  split
  · omega
  · split <;> omega

def AgJ2 (w : World) (L' : Addr) (I Dm x1 y1 T11 T12 x2 y2 T21 T22 : Addr) (o op : Obj) (w1 w2 vm : List Value) (km : Nat) (xt1 xt2 : Str) (g1 g2 p0 p1 p2 p3 p4 q1 q2 q3 r0 r1 r2 r3 r4 u1 u2 u3 t1 t2 tb : Tok) (st1 st2 : WsS) (rd cl b : Int) (P : List Int) (_i : Nat) (m : Str → Option Value) (nx : List (Addr × Obj)) : Prop :=
  ∃ (c ob : Obj) (Dp : Addr) (vp : List Value) (kp : Nat), nx = [(T21, { cls := .type "tuple", data := .seq #[.ref T22, .int st2.b u3] }), (T22, { cls := .type "tuple", data := .seq w2.toArray }), (x2, instObj 83 y2), (y2, wsDict w xt2 g2 st2 T21 r0 r1 r2 r3 r4 u1 u2),
      (T11, { cls := .type "tuple", data := .seq #[.ref T12, .int st1.b q3] }), (T12, { cls := .type "tuple", data := .seq w1.toArray }), (x1, instObj 83 y1), (y1, wsDict w xt1 g1 st1 T11 p0 p1 p2 p3 p4 q1 q2),
      (Dp, listOf vp.toArray kp), (I, o), (Dm, listOf vm.toArray km), (L' + 1 + 1 + 1 + 1, c), (L' + 1 + 1 + 1, ob), (L' + 1, op)] ∧ (∃ v, c.data = .cell v) ∧ ob.data = .cell (some (.int b tb)) ∧ IntsAre vp P ∧ @Ne Nat (L' + 1 + 1 + 1 + 1) Dp ∧
    m (Str.ofString "one") = some (.ref x1) ∧ m (Str.ofString "two") = some (.ref x2) ∧ m (Str.ofString "products") = some (.ref Dp) ∧ m (Str.ofString "road") = some (.int rd t1) ∧ m (Str.ofString "classes") = some (.int cl t2) ∧ m (Str.ofString "marks") = some (.ref Dm)

def AgJ (pr : Int) (tp : Tok) (bs : List Int) (L' : Addr) (i : Nat) (m : Str → Option Value) (nx : List (Addr × Obj)) : Prop :=
  ∃ (Dm Dr : Addr) (vm vr : List Value) (km kr : Nat) (o1 o2 o4 : Obj) (t1 t2 : Tok),
    nx = [(Dr, listOf vr.toArray kr), (Dm, listOf vm.toArray km), (L' + 1 + 1 + 1 + 1, o1), (L' + 1 + 1 + 1, o2), (L' + 1, o4)] ∧ IntsAre vm (mkL pr) ∧ IntsAre vr (restL pr (bs.take i)) ∧
    m (Str.ofString "rests") = some (.ref Dr) ∧ m (Str.ofString "road") = some (.int (roadF (bs.take i)) t1) ∧ m (Str.ofString "classes") = some (.int (classF pr) t2) ∧ m (Str.ofString "marks") = some (.ref Dm) ∧
    o4.data = .cell (some (.int pr tp)) ∧ (∃ v, o1.data = .cell v) ∧ (∃ v, o2.data = .cell v) ∧ @Ne Nat (L' + 1 + 1 + 1 + 1) Dm ∧ @Ne Nat (L' + 1 + 1 + 1) Dm ∧ @Ne Nat (L' + 1 + 1 + 1 + 1) Dr ∧ @Ne Nat (L' + 1 + 1 + 1) Dr

theorem news_low {h₀ h : Heap} {L d : Addr} {news : List (Addr × Obj)} (N : News h₀ L h news) (lo : ∀ b o, h.get? b = some o → b < d) : ∀ q ∈ news, q.1 < d := fun q hq => lo _ _ (N q hq).1
theorem pick_ag2 {h₀ h : Heap} {L : Addr} {a0 a1 a2 a3 a4 a5 a6 a7 a8 a9 a10 a11 a12 a13 a14 a15 a16 : Addr × Obj} (N : News h₀ L h [a0, a1, a2, a3, a4, a5, a6, a7, a8, a9, a10, a11, a12, a13, a14, a15, a16]) : News h₀ L h [a1, a2, a3, a4, a5, a6, a7, a8, a10, a11, a13, a14, a15, a16] :=
  news_sub N (all_cons (by simp) (all_cons (by simp) (all_cons (by simp) (all_cons (by simp) (all_cons (by simp) (all_cons (by simp) (all_cons (by simp) (all_cons (by simp) (all_cons (by simp) (all_cons (by simp) (all_cons (by simp) (all_cons (by simp) (all_cons (by simp) (all_cons (by simp) (all_nil)))))))))))))))
theorem pick_agree {h₀ h : Heap} {L : Addr} {a b c d e f g i : Addr × Obj} (N : News h₀ L h [a, b, c, d, e, f, g, i]) : News h₀ L h [b, c, e, f, i] :=
  news_sub N (all_cons (by simp) (all_cons (by simp) (all_cons (by simp) (all_cons (by simp) (all_cons (by simp) all_nil)))))

section
variable {prog : Program} {w : World} {s : Shared} {base : Heap} {envs : List Env} {p : Program} {loose : List Str} {mean : ExcName → Option Value} {mg mb : Str → Option Value} {dp un : Nat} {gd : Option (List Code)} {Q E : Value → Shared → Prop}

set_option maxHeartbeats 2000000 in
theorem con_agree (G : Gnd (Mine.KF w.params) p loose mean mg mb base envs s.heap) (hd : dp + 20 < recursionLimit) (hu : un + 200 < cLine) {lb : Addr} {vb : List Value} {bs : List Int} {pr : Int} {tp : Tok}
    (hl : s.heap.IsList lb vb.toArray) (hi : IntsAre vb bs) (hn : bs.length ≤ 3) (hb : ∀ b ∈ bs, 1 ≤ b ∧ b ≤ 8) (h7 : 7 ≤ pr) (h47 : pr ≤ 47) (hc0 : 0 ≤ classF pr) (hc9 : classF pr ≤ 100) (hOK : ∀ (i : Nat) (b : Int), bs[i]? = some b → TurnOK pr (roadF (bs.take i)) b (restL pr (bs.take i)))
    (ret : ∀ h' tk', s.heap.StaysIn h' → Q (.bool true) { s with heap := h', toks := tk' }) :
    wpAny (model prog w) (Ar dp un gd envs) (call (.ref 186) [.int pr tp, .ref lb]) Q E s := by
  obtain ⟨B, X, T⟩ := G
  have hsz0 : (pr - 1).toNat ≤ 16777216 := by omega
  refine wpAny_call ?_
  refine' enter_hereC (binds := [(Str.ofString "prime", .int pr tp), (Str.ofString "bases", .ref lb)]) B rfl X T ?k6 ?k7 ?k8 ?k9 ?kB ?kD ?_ ?c2 ?c3 ?c4
  case k6 => k_is
  case k7 => k_is
  case k8 => k_room
  case k9 => exact BindsTo.of_eq rfl
  case kB => exact rfl
  case kD => decide +kernel
  case c2 => exact rfl
  case c3 => exact rfl
  case c4 => exact rfl
  intro L' h₁ tk0 cells' F' N' Y' B' X' T'
  clear B X T
  obtain ⟨o1, o2, o3, o4, rfl, d1, d2, d3, d4⟩ := CellsAre.four Y'
  (try dsimp only)
  k_with "exec For Name Name cons nil" => (refine hold_in ?_)
  k_steps
  · refine hold_out ?_
    refine LCg.CompSrc.range (by rfl) (by k_asm) (by k_asm) (by assumption) (small_one (by omega) (by omega) (by omega) (by omega)) (rangeSize_nat _ _) (by rw [PySem.sizeLine_eq]; omega) ?_
    intro g'
    refine' kcf_range (fun k => (k * k).fmod pr) (fun k' t' I' oI' C' oC' D' m' ys' h' tk' E' hlo' hhi' hC' hx' F' N' off' ne' hMark' => ?_) ?_
    all_goals (try (simp only [LCg.Off3, and_true] at off'))
    · have hk64 : k' < 2 ^ 64 := by clear off' ne'; omega
      k_steps
    · k_steps
      refine hold_out ?_
      refine LCg.CompSrc.range (by rfl) (by k_asm) (by k_asm) (by assumption) (small_one (by omega) (by omega) (by omega) (by omega)) (rangeSize_nat _ _) (by rw [PySem.sizeLine_eq]; omega) ?_
      intro g'
      refine' kcf_range (mkOf pr) (fun k' t' I' oI' C' oC' D' m' ys' h' tk' E' hlo' hhi' hC' hx' F' N' off' ne' hMark' => ?_) ?_
      all_goals (try (simp only [LCg.Off3, and_true] at off'))
      · have hk64 : k' < 2 ^ 64 := by clear off' ne'; omega
        k_steps
        all_goals first
          | (rename List.any _ _ = true => hm; exact kcf_el (by unfold mkOf sqL; rw [if_pos hm]) rfl rfl)
          | (rename List.any _ _ = false => hm; exact kcf_el (by unfold mkOf sqL; rw [hm]; rfl) rfl rfl)
      · k_steps
        refine hold_out ?_
        refine' For_gen (h₀ := s.heap) ?h (fun _ => rfl) (fun _ _ => rfl) (by passes_own)
        k_with "pyIter ref" => (refine hold_in ?_)
        k_steps
        refine hold_out ?_
        rename Fr _ _ _ _ => F1
        rename News _ _ _ _ => N1
        rename IntsAre _ (List.map (mkOf pr) _) => hvm
        rename IntsAre _ (rangeKs 1 _) => hvr
        have N2 := pick_agree N1
        clear N1
        refine' loopG_list (AgJ pr tp bs L') rfl hl hi F1 N2 ?h0 ?turn ?done
        case h0 =>
          refine ⟨_, _, _, _, _, _, _, _, _, _, _, rfl, hvm, hvr, rfl, rfl, rfl, rfl, d4, ⟨_, d1⟩, ⟨_, d2⟩, ?_, ?_, ?_, ?_⟩ <;> omega
        case turn =>
          clear N2 F1 hvm hvr d1 d2 d3 d4
          rintro i b tb m₁ news₁ h tk I o hget ⟨Dm, Dr, vm, vr, km, kr, c1, c2, c4, t1, t2, rfl, hvm, hvr, e1, e2, e3, e4, q4, ⟨v1, q1⟩, ⟨v2, q2⟩, lD1, lD2, lD3, lD4⟩ hne F1 N1
          have F2 := fr_kst0 (ps := [(Str.ofString "rests", _), (Str.ofString "road", _), (Str.ofString "classes", _), (Str.ofString "marks", _)]) (all_cons e1 (all_cons e2 (all_cons e3 (all_cons e4 all_nil)))) F1
          clear F1 e1 e2 e3 e4
          dsimp only [kstB] at F2
          have n1 := neN (hne (Dr, _) (List.mem_cons_self ..))
          have n2 := neN (hne (Dm, _) (List.mem_cons_of_mem _ (List.mem_cons_self ..)))
          have n3 := neN (hne (L' + 1 + 1 + 1 + 1, _) (List.mem_cons_of_mem _ (List.mem_cons_of_mem _ (List.mem_cons_self ..))))
          have n4 := neN (hne (L' + 1 + 1 + 1, _) (List.mem_cons_of_mem _ (List.mem_cons_of_mem _ (List.mem_cons_of_mem _ (List.mem_cons_self ..)))))
          have n5 := neN (hne (L' + 1, _) (List.mem_cons_of_mem _ (List.mem_cons_of_mem _ (List.mem_cons_of_mem _ (List.mem_cons_of_mem _ (List.mem_cons_self ..))))))
          (try dsimp only at n1 n2 n3 n4 n5)
          obtain ⟨hb1, hb8⟩ := hb b (List.mem_of_getElem? hget)
          have hsnoc : bs.take (i + 1) = bs.take i ++ [b] := by rw [List.take_add_one, hget]; rfl
          have hR := restL_bound pr (bs.take i) (by omega) fun q hq => hb q (List.mem_of_mem_take hq)
          unfold AgJ
          rw [hsnoc, restL_snoc, roadF_snoc]
          have hok := hOK i b hget
          generalize restL pr (bs.take i) = R at *
          generalize roadF (bs.take i) = rd at *
          k_steps
          refine hold_out ?_
          refine LCg.CompSrc.ledger (by rfl) (by k_asm) (by k_asm) (by k_mem) (by rw [PySem.sizeLine_eq, List.size_toArray, hvr.length, hR.1]; omega) ?_
          intro g'
          refine' kcf_list (fun r => b * r) hvr (fun k' t' I' oI' C' oC' D' m' ys' h' tk' E' hk' hC' hx' F' N' off' ne' hMark' => ?_) ?_
          all_goals (try (simp only [LCg.Off3, and_true] at off'))
          · k_steps
          k_steps
          refine hold_out ?_
          refine' ListComp_zip ?z1 ?z2 ?z3 ?z4 ?z5
          case z1 => with_unfolding_all rfl
          case z2 => rfl
          case z3 => decide
          case z4 => exact fun _ => rfl
          k_steps
          refine hold_out ?_
          rename Fr _ _ _ _ => Fa
          rename News _ _ _ _ => Na
          rename IntsAre _ (List.map (fun r => b * r) R) => hvp
          refine' zip_comp (fun mk q => mk + Int.fdiv q pr) rfl ?zc ?zk ?za ?zb ?zab Fa Na ?m1 ?m2 hvm hvp ?zl ?zs ?zturn ?zdone
          case zc => decide
          case zk => rfl
          case za => rfl
          case zb => rfl
          case zab => decide
          case m1 => k_mem
          case m2 => exact List.Mem.head _
          case zl => simp [mkL, rangeKs_length, hR.1]
          case zs => simp [mkL, rangeKs_length]; omega
          case zturn =>
            intro i mk q ta tb z oz TI oTI TO oTO i1 o1 i2 o2 C oC D ys m₂ h tk E' hg1 hg2 hC hxa hxb Fb Nb
            clear Fa Na
            k_steps
            rename Fr _ _ _ _ => Fb
            rename News _ _ _ _ => Nb
            exact zend Fb Nb (fun _ hq => hq) rfl
          case zdone =>
            intro Dz yz hz tkz Fb Nb lz hvz
            clear Fa Na
            k_lt lz
            k_steps
            refine hold_out ?_
            rename Fr _ _ _ _ => Fa
            rename News _ _ _ _ => Na
            have hvz' : IntsAre yz (symF pr (prodL b R)) := hvz
            have hS := symF_ok (b := b) h7 h47 hb1 hb8 hR
            refine' con_leads0 (gnd_of B' Fa X' T' rfl rfl) ?kd ?ku (News.isList Na (by k_mem)) hvz' hS.1 hS.2 hb1 hb8 ?_
            case kd => k_room
            case ku => dsimp only [Ar, Around.deeper]; omega
            intro L2 D2 x1 y1 T11 T12 x2 y2 T21 T22 m2 w1 w2 xt1 xt2 g1 g2 p0 p1 p2 p3 p4 q1' q2' q3' r0 r1 r2 r3 r4 u1 u2 u3 h2 tk2 hw1 hw2 Fc Nc lo l1 l2 l3 l4 l5 l6 l7 l8
            have zj := news_join Fa Na Fc Nc
            have lall := news_low Na lo
            have Fd := zj.1
            have Nd := zj.2
            clear zj Fa Na Fc Nc lo
            simp only [List.cons_append, List.nil_append] at Nd
            k_lt lall; k_lt2 l1; k_lt2 l2; k_lt2 l3; k_lt2 l4; k_lt2 l5; k_lt2 l6; k_lt2 l7; k_lt2 l8
            obtain ⟨ok1, ok2, ok3, ok4, ok5⟩ := hok
            unfold stSq at ok1 ok3 ok5
            unfold stOt at ok2 ok4 ok5
            generalize wsRun (leadCodes (sqs (symF pr (prodL b R))) ++ List.replicate b.toNat 32) = st1 at *
            generalize wsRun (leadCodes (ots (symF pr (prodL b R))) ++ List.replicate b.toNat 32) = st2 at *
            k_with "exec For Name Call cons nil" => (refine hold_in ?_)
            k_steps
            all_goals (try contradiction)
            refine hold_out ?_
            clear hS hvz hvz' lz Y'
            refine' For_gen (h₀ := s.heap) ?hB (fun _ => rfl) (fun _ _ => rfl) (by passes_own)
            k_with "pyIter ref" => (refine hold_in ?_)
            k_steps
            refine hold_out ?_
            rename Fr _ _ _ _ => F1
            rename News _ _ _ _ => N1
            rename IsRange _ _ _ (b + 1) _ _ _ _ => hrg
            have N2 := pick_ag2 N1
            clear N1
            refine' loopG_range (n := b.toNat) (AgJ2 w L' I Dm x1 y1 T11 T12 x2 y2 T21 T22 o c4 w1 w2 vm km xt1 xt2 g1 g2 p0 p1 p2 p3 p4 q1' q2' q3' r0 r1 r2 r3 r4 u1 u2 u3 t1 t2 tb st1 st2 rd (classF pr) b (prodL b R)) rfl hrg ?jsm ?jrs F1 N2 ?j0 ?jturn ?jdone
            case jsm => exact small_one (by omega) (by omega) (by omega) (by omega)
            case jrs => rw [rs_one]; congr 2; omega
            case j0 => exact ⟨_, _, _, _, _, rfl, ⟨_, q1⟩, by assumption, hvp, by omega, rfl, rfl, rfl, rfl, rfl, rfl⟩
            case jturn =>
              clear N2 F1 hrg hvp
              rintro i2 t m2 news2 h tk I2 oI2 hi2 ⟨c, ob, Dp, vp, kp, rfl, ⟨vc, hc⟩, hob, hvp, lDp, f1, f2, f3, f4, f5, f6⟩ hne2 F1 N1
              have F2 := fr_kst0 (ps := [(Str.ofString "one", _), (Str.ofString "two", _), (Str.ofString "products", _), (Str.ofString "road", _), (Str.ofString "classes", _), (Str.ofString "marks", _)]) (all_cons f1 (all_cons f2 (all_cons f3 (all_cons f4 (all_cons f5 (all_cons f6 all_nil)))))) F1
              clear F1 f1 f2 f3 f4 f5 f6
              dsimp only [kstB] at F2
              have n11 : @Ne Nat (L' + 1 + 1 + 1 + 1) I2 := neN (hne2 (L' + 1 + 1 + 1 + 1, c) (by simp))
              obtain ⟨size, hsz⟩ : ∃ size, size = 1 + (i2 : Int) := ⟨_, rfl⟩
              rw [← hsz]
              have hs1 : 1 ≤ size := by omega
              have hs8 : size ≤ b := by omega
              have hs9 : size ≤ 8 := by omega
              have hsp1 : 0 < size * pr := Int.mul_pos (by omega) (by omega)
              have hsp2 : size * pr ≤ 8 * 47 := Int.mul_le_mul hs9 h47 (by omega) (by omega)
              clear hsz hi2
              obtain ⟨sg1, sg2⟩ := signF_bd pr (b.fdiv size)
              obtain ⟨sg3, sg4⟩ := signF_bd pr rd
              k_steps
              refine hold_out ?_
              refine LCg.CompSrc.ledger (by rfl) (by k_asm) (by k_asm) (by k_mem) (by rw [PySem.sizeLine_eq, List.size_toArray, hvp.length]; simp only [prodL, List.length_map, hR.1]; omega) ?_
              intro g'
              refine' kcf_list (fun q => q.fdiv (size * pr)) hvp (fun k' t' I' oI' C' oC' D' m' ys' h' tk' E' hk' hC' hx' F' N' off' ne' hMark' => ?_) ?_
              all_goals (try (simp only [LCg.Off3, and_true] at off'))
              · k_steps
              k_steps
              all_goals (first
                | (have ok6 := ok5 size hs1 hs8 (by assumption)
                   simp only [lvl, duF, boF, prodL] at ok6
                   obtain ⟨ok7, ok8⟩ := ok6
                   contradiction)
                | (rename Fr _ _ _ _ => F1
                   rename News _ _ _ _ => N1
                   rename _ = Data.cell (some (Value.int size _)) => hcs
                   refine' turn_next F1 N1 ?sub2 ?ne2 ?J2
                   case J2 => exact ⟨_, ob, Dp, vp, kp, rfl, ⟨_, hcs⟩, hob, hvp, lDp, rfl, rfl, rfl, rfl, rfl, rfl⟩
                   case ne2 => exact ne_map hne2 rfl
                   case sub2 => first | exact fun _ h => h | exact fun _ h => .tail _ h | exact fun _ h => .tail _ (.tail _ h)))
            case jdone =>
              clear N2 F1 hrg hvp
              rintro m2 news2 h tk ⟨c, ob, Dp, vp, kp, rfl, ⟨vc, hc⟩, hob, hvp, lDp, f1, f2, f3, f4, f5, f6⟩ F1 N1
              have F2 := fr_kst0 (ps := [(Str.ofString "products", _), (Str.ofString "road", _), (Str.ofString "classes", _), (Str.ofString "marks", _)]) (all_cons f3 (all_cons f4 (all_cons f5 (all_cons f6 all_nil)))) F1
              clear F1 f1 f2 f3 f4 f5 f6
              dsimp only [kstB] at F2
              k_steps
              refine hold_out ?_
              refine LCg.CompSrc.ledger (by rfl) (by k_asm) (by k_asm) (by k_mem) (by rw [PySem.sizeLine_eq, List.size_toArray, hvp.length]; simp only [prodL, List.length_map, hR.1]; omega) ?_
              intro g'
              refine' kcf_list (fun q => q.fmod pr) hvp (fun k' t' I' oI' C' oC' D' m' ys' h' tk' E' hk' hC' hx' F' N' off' ne' hMark' => ?_) ?_
              all_goals (try (simp only [LCg.Off3, and_true] at off'))
              · k_steps
              k_steps
              rename Fr _ _ _ _ => F1
              rename News _ _ _ _ => N1
              rename IntsAre _ (List.map (fun q : Int => Int.fmod q pr) _) => hvq
              rename T21 ≠ _ ∧ _ => hDq
              have hDI : @Ne Nat I _ := hDq.2.2.2.2.2.2.2.2.2.1
              refine' turn_next F1 N1 ?sub3 ?ne3 ?J3
              case J3 => exact ⟨Dm, neR hDI, vm, listOfI hvq, km, (listOfI hvq).length, c, ob, c4, _, t2, rfl, hvm, hvq, rfl, rfl, rfl, rfl, q4, ⟨_, hc⟩, ⟨_, hob⟩, lD1, lD2, hDq.2.2.2.2.2.2.2.2.2.2.2.1, hDq.2.2.2.2.2.2.2.2.2.2.2.2.1⟩
              case ne3 => exact all_cons (Ne.symm hDI) (all_cons n2 (all_cons n3 (all_cons n4 (all_cons n5 all_nil))))
              case sub3 => exact all_cons (by k_mem) (all_cons (by k_mem) (all_cons (by k_mem) (all_cons (by k_mem) (all_cons (by k_mem) (all_cons (by k_mem) all_nil)))))
        case done =>
          clear N2 F1 hvm hvr d1 d2 d3 d4
          rintro m₁ news₁ h tk ⟨Dm, Dr, vm, vr, km, kr, c1, c2, c4, t1, t2, rfl, hvm, hvr, e1, e2, e3, e4, q4, ⟨v1, q1⟩, ⟨v2, q2⟩, lD1, lD2, lD3, lD4⟩ F1 N1
          have F2 := fr_kst0 (ps := [(Str.ofString "rests", _), (Str.ofString "road", _), (Str.ofString "classes", _), (Str.ofString "marks", _)]) (all_cons e1 (all_cons e2 (all_cons e3 (all_cons e4 all_nil)))) F1
          clear F1 e1 e2 e3 e4
          dsimp only [kstB] at F2
          k_steps
          rename Fr _ _ _ _ => F1
          exact ret _ _ F1.keep
end

end Mine
end
section
set_option maxRecDepth 100000
namespace Mine
open PySem.Calls PySem.Spec

section
variable {M : Model} {A : Around} {R : GenEnd} {Y : Protocol} {n : Nat} {s₀ : Shared} {c : Code} {fs : List Frame} {s : Shared} {env : Env} {K : Flow → Sem Fin} {H : Value → Sem Fin} {gd : Bool → Bool} {lv : List Value → List Value}

def ownFrame (env : Env) (K : Flow → Sem Fin) (H : Value → Sem Fin) (gd : Bool → Bool) (lv : List Value → List Value) (c : Code) (p : Pos) : Frame :=
  .ret (fun r => ((match r with | .ok f => (.pure f : Sem Flow) | .error e => .raise e).onRaise fun (x : Value) => do
    if (← field x 1) == Value.none then unsupported "frame.own-activation:exception-without-traceback"
    setFlight x env.frame).wrap K H gd lv) none (gd false) (lv []) c p []

theorem seg_For {target iter : PySem.Expr} {body orelse : List Stmt} {pos : Pos} (hs : ∀ x, foldedSetIterable iter env x = pure x)
    (h : wpAny M (A.over c fs) (eval iter env) (fun x s₁ => wpAny M (A.over c fs) (pyIter x) (fun it s₂ => ∀ p, Seg M A R Y n s₀ (.forLoop target it body orelse env) (M.den (.forLoop target it body orelse env)) (ownFrame env K H gd lv c p :: fs) s₂) (fun x s' => Seg M A R Y n s₀ c (H x) fs s') s₁) (fun x s' => Seg M A R Y n s₀ c (H x) fs s') s) :
    Seg M A R Y n s₀ c ((exec (.For target iter body orelse pos) env).wrap K H gd lv) fs s := by
  rw [exec_For]
  refine seg_bind_wrap (wpAny_standAt ?_)
  refine seg_bind_wrap (wpAny_mono h (fun x s₁ h₁ => ?_) fun _ _ e => e)
  refine seg_bind_wrap (wpAny_of_eq (hs x) ?_)
  refine seg_bind_wrap (wpAny_standAt ?_)
  refine seg_bind_wrap (wpAny_holding (wpAny_mono h₁ (fun it s₂ h₂ => ?_) fun _ _ e => e))
  exact seg_call h₂

theorem seg_If {test : PySem.Expr} {body orelse : List Stmt} {pos : Pos} (h : wpAny M (A.over c fs) (isTrue test env (eval test env)) (fun b s' => Seg M A R Y n s₀ c ((execs (if b = true then body else orelse) env).wrap K H gd lv) fs s') (fun x s' => Seg M A R Y n s₀ c (H x) fs s') s) :
    Seg M A R Y n s₀ c ((exec (.If test body orelse pos) env).wrap K H gd lv) fs s := by
  rw [show exec (.If test body orelse pos) env = (do standAt pos; if ← isTrue test env (eval test env) then execs body env else execs orelse env) from rfl]
  refine seg_bind_wrap (wpAny_standAt ?_)
  refine seg_bind_wrap (wpAny_mono h (fun b s' h' => ?_) fun _ _ e => e)
  cases b <;> simpa using h'

def forK (C : Code) (f : Flow) : Sem Fin := match f with
  | .next | .cont => .pure (.again C)
  | .brk => .pure (.done .next)
  | .ret v => .pure (.done (.ret v))
end
section
variable {prog : Program} {w : World} {A : Around} {R : GenEnd} {Y : Protocol} {n : Nat} {s₀ : Shared} {fs : List Frame} {s : Shared} {env : Env}

theorem seg_forLoop {target : PySem.Expr} {it : Value} {body orelse : List Stmt} (ht : ∀ v, letOwnedTupleGo target it v = pure ())
    (h : wpAny (model prog w) (A.over (.forLoop target it body orelse env) fs) (pyNext it) (fun r s' => match r with
      | none => False
      | some v => wpAny (model prog w) (A.over (.forLoop target it body orelse env) fs) (assign target env v) (fun _ s₂ => ∀ HF, Seg (model prog w) A R Y n s₀ (.forLoop target it body orelse env) ((execs body env).wrap (forK (.forLoop target it body orelse env)) HF id id) fs s₂) (fun _ _ => False) s') (fun _ _ => False) s) :
    Seg (model prog w) A R Y n s₀ (.forLoop target it body orelse env) ((model prog w).den (.forLoop target it body orelse env)) fs s := by
  show Seg _ A R Y n s₀ _ ((forTurn target it body orelse env).onRaise (fun x => do noteFrame x env; theTreesLotGoes x)) fs s
  unfold forTurn
  rw [Sem.onRaise_eq_wrap]
  refine seg_bind_wrap (wpAny_standAt ?_)
  refine seg_bind_wrap (wpAny_onRaise (wpAny_mono h (fun r s₁ h₁ => ?_) fun _ _ e => e.elim))
  cases r with
  | none => exact h₁.elim
  | some v =>
    refine seg_bind_wrap (wpAny_of_eq (ht v) ?_)
    refine seg_bind_wrap (wpAny_mono h₁ (fun _ s₂ h₂ => ?_) fun _ _ e => e.elim)
    rw [Sem.bind_eq_wrap', Sem.wrap_wrap]
    rw [Sem.wrap_congr (execs body env) _ _ (K' := forK (.forLoop target it body orelse env)) (fun f => by cases f <;> rfl) (fun e => rfl)]
    exact h₂ _
end

def mkGet {l : List Stmt} {i : Nat} {n : Str} {p : Arguments} {a : Stmt} {t e : PySem.Expr} {b : List Stmt} {q : Pos} {d : List PySem.Expr} {r : Option PySem.Expr} {tp : List TypeParam} {s : Scope} {ts : Option Scope} {bd : Str} {pos : Pos} {α : Type} (_ : l[i]? = some (.FunctionDef n p [a, .For t e b [] q] d r tp s ts bd pos)) (k : PySem.Expr → List Stmt → Scope → α) : α := k t b s
noncomputable def gT : PySem.Expr := mkGet (l := PB) (i := 5) rfl fun t _ _ => t
noncomputable def gB : List Stmt := mkGet (l := PB) (i := 5) rfl fun _ b _ => b
noncomputable def gS : Scope := mkGet (l := PB) (i := 5) rfl fun _ _ s => s
end Mine
end
theorem Mine.reset_G1 : True := by
  k_with_none
  trivial
section
set_option maxRecDepth 100000
namespace Mine
open PySem.Calls PySem.Spec

def GExt (h₀ : Heap) (Lt D a : Addr) (s₀ s : Shared) : Prop := ∃ h' tk, s = { s₀ with heap := h', toks := tk } ∧ (∀ b o, h₀.get? b = some o → h'.get? b = some o) ∧ ∀ b, (b = Lt ∨ b = D ∨ b = a) → ∀ o, s₀.heap.get? b = some o → h'.get? b = some o
theorem GExt.at' {h₀ : Heap} {Lt D a : Addr} {s₀ s s' : Shared} (x : GExt h₀ Lt D a s₀ s) (e1 : s'.heap = s.heap) (e2 : s'.gens = s.gens) (e3 : s'.drawn = s.drawn) (e4 : s'.os = s.os) : GExt h₀ Lt D a s₀ s' := by
  obtain ⟨h', tk, rfl, u⟩ := x
  cases s'
  dsimp only at e1 e2 e3 e4
  subst e1 e2 e3 e4
  exact ⟨_, _, rfl, u⟩
def GOld (Lt D a : Addr) (h : Heap) : Prop := (∃ o, h.get? Lt = some o) ∧ (∃ o, h.get? D = some o) ∧ (∃ o, h.get? a = some o)
def GKept (h₀ : Heap) (Lg I Lt D a : Addr) (s s'' : Shared) : Prop := (∀ b o, h₀.get? b = some o → s''.heap.get? b = some o) ∧ (∀ b, (b = Lg ∨ b = I) → ∀ o, s.heap.get? b = some o → s''.heap.get? b = some o) ∧ GOld Lt D a s''.heap
def gY (h₀ : Heap) (Lg Lt D a : Addr) (ys : List Int) (more : Bool) : Protocol := fun m s₀ v s kap =>
  (∃ x t, ys[ys.length - 1 - m]? = some x ∧ v = .int x t) ∧ GExt h₀ Lt D a s₀ s ∧ ∃ I, (h₀.get? I = none ∧ @Ne Nat I Lt ∧ @Ne Nat I D ∧ (∃ o, s.heap.get? I = some o) ∧ (∃ o, s.heap.get? Lg = some o)) ∧ ((m ≠ 0 ∨ more = true) → ∀ s'', GKept h₀ Lg I Lt D a s s'' → kap (.send .none) s'')
def gP (h₀ : Heap) (Lt D a : Addr) (n : Nat) (s₀ s : Shared) : Prop := n = 0 ∧ GExt h₀ Lt D a s₀ s
abbrev gR (h₀ : Heap) (Lt D a : Addr) : GenEnd := fun n s₀ r s₁ => r = .ok (.ret .none) ∧ gP h₀ Lt D a n s₀ s₁
def GF (h₀ : Heap) (Lg I l Lt D a : Addr) (i : Nat) (last : Value) (h : Heap) : Prop :=
  ∃ m, Fr h₀ Lg h m ∧ m (Str.ofString "last_interval") = some last ∧ h.IsListIter I l i ∧ h₀.get? I = none ∧ @Ne Nat I Lg ∧ @Ne Nat I Lt ∧ @Ne Nat I D ∧ @Ne Nat I a ∧ @Ne Nat Lg Lt ∧ @Ne Nat Lg D ∧ @Ne Nat Lg a ∧ h₀.get? Lt = none ∧ h₀.get? D = none ∧ h₀.get? a = none
noncomputable abbrev gE (L : Addr) : Env := envOf (Str.ofString "_grouping_intervals") gS L 94 (.ref 93)

section
variable {prog : Program} {w : World} {A : Around} {p : Program} {loose : List Str} {mean : ExcName → Option Value} {mg mb : Str → Option Value}
set_option maxHeartbeats 1000000 in
theorem seg_F {h₀ : Heap} {Lg I l Lt D a : Addr} {vs : List Value} {items ys : List Int} {more : Bool} {fs : List Frame} (X : (Mine.KF w.params).In h₀) (T : Top p loose mean mg mb h₀)
    (hl : h₀.IsList l vs.toArray) (hi : IntsAre vs items) (hA : (A.over (.forLoop gT (.ref I) gB [] (gE Lg)) fs).handled = none) (hfs : splitAtGen fs = none) (hfg : fs.any Frame.guarded = false)
    (hret : ∀ n s₀ s, gP h₀ Lt D a n s₀ s → Seg (model prog w) A (gR h₀ Lt D a) (gY h₀ Lg Lt D a ys more) n s₀ (.forLoop gT (.ref I) gB [] (gE Lg)) (.pure (.done (.ret .none))) fs s)
    (np : Nat) (hnp : ∀ i x, i < np → items[i]? = some x → x ≠ 127 ∧ x ≠ 0 ∧ ys[i]? = some x) (hlen : ys.length ≤ items.length) (hle : ys.length ≤ np + 1) (hmore : more = true → ys.length = np ∧ items[np]? = some 127)
    (hzero : ys.length = np + 1 → more = false ∧ items[np]? = some 0 ∧ 0 < np ∧ ys[np]? = ys[np - 1]?) :
    ∀ n, n ≤ ys.length → (n ≠ 0 ∨ more = true) → ∀ s₀ s last, GF h₀ Lg I l Lt D a (ys.length - n) last s.heap → ((ys.length - n = 0 ∧ last = .none) ∨ ∃ t x, last = .int x t ∧ ys.length - n ≠ 0 ∧ ys[ys.length - n - 1]? = some x) → GOld Lt D a s₀.heap → GExt h₀ Lt D a s₀ s →
      Seg (model prog w) A (gR h₀ Lt D a) (gY h₀ Lg Lt D a ys more) n s₀ (.forLoop gT (.ref I) gB [] (gE Lg)) ((model prog w).den (.forLoop gT (.ref I) gB [] (gE Lg))) fs s := by
  have ext : ∀ {s : Shared} {h' : Heap} {tk : Nat} {m' : Str → Option Value} {oI oLt oD oa : Obj}, Fr h₀ Lg h' m' → News h₀ Lg h' [(I, oI), (Lt, oLt), (D, oD), (a, oa)] → s.heap.get? Lt = some oLt → s.heap.get? D = some oD → s.heap.get? a = some oa → GExt h₀ Lt D a s { s with heap := h', toks := tk } := by
    intro s h' tk m' oI oLt oD oa F N e1 e2 e3
    refine ⟨h', tk, rfl, F.keep, fun b hb o e => ?_⟩
    rcases hb with rfl | rfl | rfl
    · rw [e1] at e; cases e; exact (N _ (.tail _ (.head _))).1
    · rw [e2] at e; cases e; exact (N _ (.tail _ (.tail _ (.head _)))).1
    · rw [e3] at e; cases e; exact (N _ (.tail _ (.tail _ (.tail _ (.head _))))).1
  have fetch : ∀ n, n ≤ ys.length → ys.length - n < items.length → ∀ (s₀ s : Shared) last, GF h₀ Lg I l Lt D a (ys.length - n) last s.heap → GOld Lt D a s₀.heap → GExt h₀ Lt D a s₀ s →
      (∀ x t h' tk m' oI oLt oD oa, items[ys.length - n]? = some x → Fr h₀ Lg h' (fun y => if y = Str.ofString "interval" then some (.int x t) else kstB m' [(Str.ofString "last_interval", last)] y) → News h₀ Lg h' [(I, oI), (Lt, oLt), (D, oD), (a, oa)] → h'.IsListIter I l (ys.length - n + 1) → s₀.heap.get? Lt = some oLt → s₀.heap.get? D = some oD → s₀.heap.get? a = some oa → GExt h₀ Lt D a s₀ { s with heap := h', toks := tk } →
        GF h₀ Lg I l Lt D a (ys.length - n) last s.heap → ∀ HF, Seg (model prog w) A (gR h₀ Lt D a) (gY h₀ Lg Lt D a ys more) n s₀ (.forLoop gT (.ref I) gB [] (gE Lg)) ((execs gB (gE Lg)).wrap (forK (.forLoop gT (.ref I) gB [] (gE Lg))) HF id id) fs { s with heap := h', toks := tk }) →
      Seg (model prog w) A (gR h₀ Lt D a) (gY h₀ Lg Lt D a ys more) n s₀ (.forLoop gT (.ref I) gB [] (gE Lg)) ((model prog w).den (.forLoop gT (.ref I) gB [] (gE Lg))) fs s := by
    intro n hn hlt0 s₀ s last G ⟨⟨oLt, dLt⟩, ⟨oD, dD⟩, ⟨oa, da⟩⟩ ex next
    obtain ⟨hh, tk0, rfl, hx0, hx1⟩ := ex
    have eLt := hx1 _ (.inl rfl) _ dLt
    have eD := hx1 _ (.inr (.inl rfl)) _ dD
    have ea := hx1 _ (.inr (.inr rfl)) _ da
    have G0 := G
    obtain ⟨m, F, hm, hit, hI0, nI1, nI2, nI3, nI4, nL1, nL2, nL3, z1, z2, z3⟩ := G
    have hls : hh.IsList l vs.toArray := hl.at fun o e => F.keep l o e
    obtain ⟨ol, hol, _⟩ := id hl
    have hne : l ≠ I := fun e => by rw [e, hI0] at hol; cases hol
    have W := Walks.list (prog := prog) (w := w) hA I l hne vs.toArray
    have hlt : ys.length - n < vs.toArray.size := by rw [List.size_toArray, hi.length]; omega
    refine seg_forLoop (fun _ => rfl) ?_
    refine W.item _ _ _ _ hlt ⟨hit, hls⟩ fun v h' tk hP hst hk => ?_
    have hgi : items[ys.length - n]? = some (items[ys.length - n]'(by omega)) := by simp
    obtain ⟨t, hx⟩ := hi.get (ys.length - n) (items[ys.length - n]'(by omega)) (by simp)
    have hv : v = .int (items[ys.length - n]'(by omega)) t := by
      have hP' : vs[ys.length - n]? = some v := by simpa using hP
      rw [hx] at hP'; exact (Option.some.inj hP').symm
    subst hv
    generalize items[ys.length - n]'(by omega) = x at *
    obtain ⟨oI, eI, hoI⟩ := id hst.1
    have F1 : Fr h₀ Lg h' m := ⟨F.ns.at' fun o e => hk _ _ (by simp [Ne.symm nI1]) e, fun b o e => hk b o (fun hm => by rw [List.mem_singleton.mp hm, hI0] at e; cases e) (F.keep b o e), F.above⟩
    have N1 : News h₀ Lg h' [(I, oI), (Lt, oLt), (D, oD), (a, oa)] :=
      all_cons ⟨eI, nI1, hI0⟩ (all_cons ⟨hk _ _ (by simp [Ne.symm nI2]) eLt, Ne.symm nL1, z1⟩ (all_cons ⟨hk _ _ (by simp [Ne.symm nI3]) eD, Ne.symm nL2, z2⟩ (all_cons ⟨hk _ _ (by simp [Ne.symm nI4]) ea, Ne.symm nL3, z3⟩ all_nil)))
    have F2 := fr_kst0 (ps := [(Str.ofString "last_interval", _)]) (all_cons hm all_nil) F1
    have hit' := hst.1
    specialize next x t
    clear F F1 hst hk hx hP W hls hit
    dsimp only [gT, gE, gS, mkGet]
    k_steps
    rename Fr _ _ _ _ => F3
    rename News _ _ _ _ => N3
    exact next _ _ _ _ _ _ _ hgi F3 N3 (hit'.at fun o e => by rw [eI] at e; cases e; exact (N3 _ (List.mem_cons_self ..)).1) dLt dD da (ext F3 N3 dLt dD da) G0 _
  intro n
  induction n with
  | zero =>
    intro hn hm s₀ s last G hlast old ex
    obtain ⟨hy, h127⟩ := hmore (by simpa using hm)
    have hnpl : np < items.length := (List.getElem?_eq_some_iff.mp h127).1
    refine fetch 0 hn (by omega) s₀ s last G old ex ?_
    clear fetch
    intro x t h' tk m' oI oLt oD oa hgi F N hit e1 e2 e3 ex1 _ HF
    rw [Nat.sub_zero, hy, h127] at hgi
    cases hgi
    dsimp only [kstB] at F
    generalize hC : Code.forLoop gT (.ref I) gB [] (gE Lg) = C at *
    dsimp only [gE, gB, gS, mkGet]
    refine seg_execs_cons (seg_If ?_)
    k_steps
    rw [if_pos (by rfl)]
    refine seg_execs_cons (seg_wrap ?_)
    k_steps
    subst hC
    exact hret 0 _ _ ⟨rfl, ex1⟩
  | succ n ih =>
    intro hn _ s₀ s last G hlast old ex
    refine fetch (n + 1) hn (by omega) s₀ s last G old ex ?_
    clear fetch
    intro x t h' tk m' oI oLt oD oa hgi F N hit e1 e2 e3 ex1 G0 HF
    dsimp only [kstB] at F
    generalize hC : Code.forLoop gT (.ref I) gB [] (gE Lg) = C at *
    dsimp only [gE, gB, gS, mkGet]
    refine seg_execs_cons (seg_If ?_)
    by_cases hlt : ys.length - (n + 1) < np
    · obtain ⟨x1, x2, x3⟩ := hnp _ _ hlt hgi
      k_steps
      rw [if_neg (by simpa using x1)]
      refine seg_execs_nil (seg_execs_cons (seg_If ?_))
      k_steps
      rw [if_neg (by simpa using x2)]
      refine seg_execs_nil (seg_execs_cons (seg_Expr_Yield hfs rfl hfg ?_))
      k_steps
      rename_i kap hkap
      obtain ⟨_, _, _, _, hI0, nI1, nI2, nI3, nI4, nL1, nL2, nL3, z1, z2, z3⟩ := G0
      refine ⟨⟨x, t, by rw [show ys.length - 1 - n = ys.length - (n + 1) by omega]; exact x3, rfl⟩, ex1.at' rfl rfl rfl rfl, I, ⟨hI0, nI2, nI3, ⟨_, (N _ (.head _)).1⟩, (by obtain ⟨o, _, _, e, _⟩ := F.ns; exact ⟨o, e⟩)⟩, fun hm s'' hkp => hkap .none s'' ?_⟩
      refine seg_execs_cons (seg_wrap ?_)
      obtain ⟨hk0, hk1, old2⟩ := id hkp
      dsimp only at hk1
      have hold := old2
      obtain ⟨⟨oLt2, f1⟩, ⟨oD2, f2⟩, ⟨oa2, f3⟩⟩ := old2
      have F1 : Fr h₀ Lg s''.heap _ := ⟨F.ns.at' fun o e => hk1 _ (.inl rfl) o e, hk0, F.above⟩
      have N1 : News h₀ Lg s''.heap [(I, oI), (Lt, oLt2), (D, oD2), (a, oa2)] :=
        all_cons ⟨hk1 _ (.inr rfl) _ (N _ (.head _)).1, nI1, hI0⟩ (all_cons ⟨f1, Ne.symm nL1, z1⟩ (all_cons ⟨f2, Ne.symm nL2, z2⟩ (all_cons ⟨f3, Ne.symm nL3, z3⟩ all_nil)))
      clear hkap F
      have NI := (N _ (.head _)).1
      clear N
      k_steps
      rename Fr _ _ _ _ => F3
      rename News _ _ _ _ => N3
      subst hC
      refine seg_again rfl ?_
      refine ih (by omega) hm s'' _ _ ⟨_, F3, by simp, ?_, hI0, nI1, nI2, nI3, nI4, nL1, nL2, nL3, z1, z2, z3⟩ (.inr ⟨t, x, rfl, by omega, ?_⟩) hold (ext F3 N3 f1 f2 f3)
      · rw [show ys.length - n = ys.length - (n + 1) + 1 by omega]
        exact hit.at fun o e => by rw [NI] at e; cases e; exact (N3 _ (.head _)).1
      · rw [show ys.length - n - 1 = ys.length - (n + 1) by omega]; exact x3
    · obtain ⟨hz1, hz2, hz3, hz4⟩ := hzero (by omega)
      have hn0 : n = 0 := by omega
      subst hn0
      have hidx : ys.length - (0 + 1) = np := by omega
      rw [hidx, hz2] at hgi
      cases hgi
      k_steps
      rw [if_neg (by decide)]
      refine seg_execs_nil (seg_execs_cons (seg_If ?_))
      k_steps
      rw [if_pos (by rfl)]
      refine seg_execs_cons (seg_If ?_)
      rcases hlast with ⟨q, _⟩ | ⟨tl, xl, rfl, _, hyl⟩
      · omega
      k_steps
      refine seg_execs_nil (seg_execs_cons (seg_While fun pq => seg_whileLoop ?_))
      k_steps
      (try rw [if_pos (by rfl)])
      refine seg_execs_cons (seg_Expr_Yield (by simp [splitAtGen, hfs]) rfl (by simp [Frame.guarded, hfg]) ?_)
      k_steps
      rename_i kap hkap
      refine ⟨⟨xl, tl, by rw [show ys.length - 1 - 0 = np by omega, hz4, ← hyl]; congr 1; omega, rfl⟩, ex1.at' rfl rfl rfl rfl, I, (by obtain ⟨_, _, _, _, hI0, nI1, nI2, nI3, nI4, _⟩ := G0; exact ⟨hI0, nI2, nI3, ⟨_, (N _ (.head _)).1⟩, (by obtain ⟨o, _, _, e, _⟩ := F.ns; exact ⟨o, e⟩)⟩), fun hm => ?_⟩
      rw [hz1] at hm
      simp at hm
end
end Mine
end
section
set_option maxRecDepth 100000
namespace Mine
open PySem.Calls PySem.Spec

def mkAll {l : List Stmt} {i : Nat} {n : Str} {p : Arguments} {b : List Stmt} {d : List PySem.Expr} {r : Option PySem.Expr} {tp : List TypeParam} {s : Scope} {ts : Option Scope} {bd : Str} {pos : Pos} (_ : l[i]? = some (.FunctionDef n p b d r tp s ts bd pos)) : List Stmt := b
noncomputable def gAll : List Stmt := mkAll (l := PB) (i := 5) rfl

section
variable {prog : Program} {w : World} {A : Around} {p : Program} {loose : List Str} {mean : ExcName → Option Value} {mg mb : Str → Option Value} {s : Shared} {E : Value → Shared → Prop}

theorem next_gen {a : Addr} {g n : Nat} {gs : GenState} {P : Nat → Shared → Shared → Prop} {Y : Protocol} {Q : Option Value → Shared → Prop} (hh : A.handled = none) (hl : s.heap.NoLimit) (hroom : A.depth < recursionLimit)
    (hg : s.heap.IsGen a g) (hgs : s.gens[g]? = some gs) (hgo : gs.Goes (model prog w) A.in1 (fun n s₀ r s₁ => r = .ok (.ret .none) ∧ P n s₀ s₁) Y n (.send .none) (s.setGen g .running))
    (hY : ∀ v s₁ gs', gs'.bare = true → Y (n - 1) (s.setGen g .running) v s₁ (fun r' s'' => match n with | 0 => False | m + 1 => gs'.Goes (model prog w) A.in1 (fun n s₀ r s₁ => r = .ok (.ret .none) ∧ P n s₀ s₁) Y m r' s'') → Q (some v) (s₁.setGen g gs'))
    (hP : ∀ s₁, P n (s.setGen g .running) s₁ → ∀ h', (∀ b o, s₁.heap.get? b = some o → h'.get? b = some o) → Q none { s₁.setGen g .finished with heap := h' }) :
    wpAny (model prog w) A (pyNext (.ref a)) Q E s := by
  have stop : ∀ s₁ : Shared, P n (s.setGen g .running) s₁ → wpAny (model prog w) A.in1 (newExc (.type "StopIteration") []) (fun x s₂ => ∀ (Q' : PUnit → Shared → Prop), wpAny (model prog w) A.in1 (raiseNew x) Q' (fun e s' => wpAny (model prog w) A (isInstance e (.type "StopIteration")) (fun b s'' => b = true ∧ Q none s'') (fun _ _ => False) s') s₂) (fun _ _ => False) (s₁.setGen g .finished) := by
    intro s₁ hp
    simp only [newExc, newTuple]
    refine wpAny_bind (wpAny_newObj_type (wpAny_bind (m := firstArgMember _ _) (wpAny_of_eq (a := Value.none) (by first | rfl | (simp only [firstArgMember]; rfl)) (wpAny_newObj_type ?_ (by size_fits)))) (by size_fits))
    intro Q'
    unfold raiseNew
    refine wpAny_bind (wpAny_handled ?_)
    rw [show A.in1.handled = none from hh]
    refine wpAny_throw ?_
    refine wpAny_isInstance (T := "StopIteration") (b := true) ⟨_, Heap.get?_push_size _ rfl, rfl⟩ isSubtype_stop ?_
    exact ⟨rfl, hP s₁ hp _ fun b o hb => Heap.get?_push_of_some _ (Heap.get?_push_of_some _ hb)⟩
  have hst : (∃ c, gs = .fresh c) ∨ ∃ k l c q fs b, gs = .suspended k l c q fs b := by
    cases gs with
    | fresh c => exact .inl ⟨c, rfl⟩
    | suspended k l c q fs b => exact .inr ⟨k, l, c, q, fs, b, rfl⟩
    | running => exact hgo.elim
    | finished => exact hgo.elim
  unfold pyNext
  refine wpAny_bind (wpAny_attempt (wpAny_callSpecial?_slot (name := Str.ofString "__next__") hg.typeIs slot_gen_next (wpAny_call_entry slot_gen_next hg.typeIs entry_gen_next ?_ (args_gen_next _))))
  show wpAny _ _ (Builtin.Generator.genWake (.ref a) (.send .none)) _ _ s
  unfold Builtin.Generator.genWake
  refine wpAny_bind (wpAny_holding (wpAny_genNumber hg (wpAny_bind (wpAny_genState hgs ?_))))
  rcases hst with ⟨c, rfl⟩ | ⟨k, l, c, q, fs, b, rfl⟩
  all_goals
    refine wpAny_bind (wpAny_roomToWake hl hroom ?_)
    show wpAny _ _ (.resume g (.send .none) [] _) _ _ s
    refine wpAny_resumeQ hgs hgo (fun x s₁ hx => ?_) fun v s₁ gs' hb hv => wpAny_pure ⟨v, rfl, wpAny_pure (hY v s₁ gs' hb hv)⟩
    obtain ⟨rfl, hp⟩ := hx
    show wpAny _ _ (newExc (.type "StopIteration") [] >>= _) _ _ _
    refine wpAny_bind (wpAny_mono (stop s₁ hp) (fun x s₂ h => wpAny_bind (wpAny_mono (h (fun _ _ => False)) (fun _ _ h => h.elim) fun e s' h => wpAny_bind (wpAny_mono h (fun b s'' hb => ?_) fun _ _ h => h.elim))) fun _ _ h => h.elim)
    obtain ⟨rfl, hq⟩ := hb
    exact wpAny_pure hq
end
end Mine
end
theorem Mine.reset_G3 : True := by
  k_with_none
  trivial
section
set_option maxRecDepth 100000
namespace Mine
open PySem.Calls PySem.Spec

structure Plan (items ys : List Int) (np : Nat) (more : Bool) : Prop where
  hnp : ∀ i x, i < np → items[i]? = some x → x ≠ 127 ∧ x ≠ 0 ∧ ys[i]? = some x
  hlen : ys.length ≤ items.length
  hle : ys.length ≤ np + 1
  hmore : more = true → ys.length = np ∧ items[np]? = some 127
  hzero : ys.length = np + 1 → more = false ∧ items[np]? = some 0 ∧ 0 < np ∧ ys[np]? = ys[np - 1]?

section
variable {prog : Program} {w : World} {A : Around} {p : Program} {loose : List Str} {mean : ExcName → Option Value} {mg mb : Str → Option Value}
set_option maxHeartbeats 1000000 in
theorem gen_start {h₀ : Heap} {Lg l Lt D a : Addr} {vs : List Value} {items ys : List Int} {more : Bool} (X : (Mine.KF w.params).In h₀) (T : Top p loose mean mg mb h₀) (hA : A.handled = none)
    (hl : h₀.IsList l vs.toArray) (hi : IntsAre vs items) {np : Nat} (pl : Plan items ys np more) (h0 : 0 < ys.length) (n1 : @Ne Nat Lg Lt) (n2 : @Ne Nat Lg D) (n3 : @Ne Nat Lg a) (z1 : h₀.get? Lt = none) (z2 : h₀.get? D = none) (z3 : h₀.get? a = none)
    {s : Shared} {m : Str → Option Value} (F : Fr h₀ Lg s.heap m) (hm : m (Str.ofString "grouping") = some (.ref l)) (old : GOld Lt D a s.heap) :
    (GenState.fresh (.func gAll (gE Lg))).Goes (model prog w) A (gR h₀ Lt D a) (gY h₀ Lg Lt D a ys more) ys.length (.send .none) s := by
  refine ⟨rfl, seg_func ?_⟩
  have hold := old
  obtain ⟨⟨oLt, f1⟩, ⟨oD, f2⟩, ⟨oa, f3⟩⟩ := old
  have N : News h₀ Lg s.heap [(Lt, oLt), (D, oD), (a, oa)] := all_cons ⟨f1, Ne.symm n1, z1⟩ (all_cons ⟨f2, Ne.symm n2, z2⟩ (all_cons ⟨f3, Ne.symm n3, z3⟩ all_nil))
  have F2 := fr_kst0 (ps := [(Str.ofString "grouping", _)]) (all_cons hm all_nil) F
  dsimp only [kstB] at F2
  clear F
  dsimp only [gAll, gE, gS, mkGet, mkAll]
  refine seg_execs_cons (seg_wrap ?_)
  k_steps
  refine seg_execs_cons (seg_For (fun _ => rfl) ?_)
  k_with "pyIter ref" => (refine hold_in ?_)
  k_steps
  refine hold_out ?_
  rename Fr _ _ _ _ => F3
  rename News _ _ _ _ => N3
  refine wpAny_pyIter_list (hl.at fun o e => F3.keep l o e) ?_
  intro pq
  have hI0 := next_is_new F3
  have lt1 := Heap.lt_size (N3 _ (.head _)).1
  have lt2 := Heap.lt_size (N3 _ (.tail _ (.head _))).1
  have lt3 := Heap.lt_size (N3 _ (.tail _ (.tail _ (.head _)))).1
  have lt4 := F3.ns.lt
  have F4 := F3.push { cls := .type "list_iterator", data := .fields #[.ref l, .int 0 0] }
  refine seg_F (I := _) (D := D) (a := a) (Lt := Lt) X T hl hi ?hA rfl rfl ?hret np pl.hnp pl.hlen pl.hle pl.hmore pl.hzero ys.length (Nat.le_refl _) (.inl (by omega)) s _ .none ⟨_, F4, by simp, ?hit, hI0, Ne.symm (Nat.ne_of_lt lt4), Ne.symm (Nat.ne_of_lt lt1), Ne.symm (Nat.ne_of_lt lt2), Ne.symm (Nat.ne_of_lt lt3), n1, n2, n3, z1, z2, z3⟩ (.inl ⟨by omega, rfl⟩) hold ⟨_, _, rfl, ?k1, ?k2⟩
  case hA => simp [Around.over, marksOver, ownFrame, Frame.marks, markOver, hA]
  case hret =>
    intro n s₁ s₂ hp
    refine seg_leaf (.ok (.ret .none)) ?_
    exact seg_end (.ok (.ret .none)) ⟨rfl, hp⟩
  case hit => exact ⟨_, Heap.get?_push_size _ rfl, rfl, by rw [Nat.sub_self]; rfl⟩
  case k1 => exact F4.keep
  case k2 =>
    intro b hb o e
    refine Heap.get?_push_of_some _ ?_
    rcases hb with rfl | rfl | rfl
    · rw [f1] at e; cases e; exact (N3 _ (.head _)).1
    · rw [f2] at e; cases e; exact (N3 _ (.tail _ (.head _))).1
    · rw [f3] at e; cases e; exact (N3 _ (.tail _ (.tail _ (.head _)))).1
end
end Mine
end
theorem Mine.reset_G4 : True := by
  k_with_none
  trivial
section
set_option maxRecDepth 100000
namespace Mine
open PySem.Calls PySem.Spec
local macro_rules | `(tactic| k_room) => `(tactic| ((try simp only [depth_under_make, depth_under_kw, depth_in1, depth_deeper, depth_caller] at *); (try dsimp only [Ar] at *); omega))
local macro_rules | `(tactic| k_mem) => `(tactic| assumption)
local macro_rules | `(tactic| walk_at "call ref") => `(tactic| (k_here; k_dflt (with_reducible show wpAny _ _ (call (Value.ref 94) _) _ _ _); refine hold_in ?_))

local macro_rules | `(tactic| walk_at "call builtin:len") => `(tactic| (k_here; refine hold_in ?_))
def mkScope {l : List Stmt} {i : Nat} {n : Str} {p : Arguments} {b : List Stmt} {d : List PySem.Expr} {r : Option PySem.Expr} {tp : List TypeParam} {s : Scope} {ts : Option Scope} {bd : Str} {pos : Pos} (_ : l[i]? = some (.FunctionDef n p b d r tp s ts bd pos)) : Scope := s
noncomputable def tS : Scope := mkScope (l := PB) (i := 67) rfl
def ToldI (prog : Program) (w : World) (s : Shared) (L' D a Lg : Addr) (ys : List Int) (more : Bool) (At : Around) (k : Nat) (s' : Shared) : Prop :=
  ∃ h' tk' gens' gs m its kd oa oLg I oI, s' = { s with heap := h', gens := gens', toks := tk' } ∧ Fr s.heap L' h' m ∧ m (Str.ofString "bases") = some (.ref D) ∧ News s.heap L' h' [(D, W.listOf its kd), (a, oa), (Lg, oLg), (I, oI)] ∧ @Ne Nat I D ∧ h'.IsGen a s.gens.size ∧ gens'[s.gens.size]? = some gs ∧ AllBare gens' ∧ k ≤ ys.length ∧ ys.length - k < 3 ∧ IntsAre its.toList (ys.take (ys.length - k)) ∧
    ∀ s'' : Shared, (∀ b o, s.heap.get? b = some o → s''.heap.get? b = some o) → s''.heap.get? Lg = some oLg → s''.heap.get? I = some oI → GOld L' D a s''.heap → gs.Goes (model prog w) At (gR s.heap L' D a) (gY s.heap Lg L' D a ys more) k (.send .none) s''
theorem ints_snoc {its : Array Value} {ys : List Int} {j : Nat} {x : Int} {t : Tok} (h : IntsAre its.toList (ys.take (ys.length - (j + 1)))) (hj : j + 1 ≤ ys.length) (hx : ys[ys.length - 1 - j]? = some x) :
    IntsAre (its.push (.int x t)).toList (ys.take (ys.length - j)) := by
  rw [show ys.length - j = ys.length - (j + 1) + 1 by omega, List.take_add_one, show ys.length - (j + 1) = ys.length - 1 - j by omega, hx, Array.toList_push]
  rw [show ys.length - (j + 1) = ys.length - 1 - j by omega] at h
  exact h.append (.cons _ _ .nil)
theorem bare_set {x : Array GenState} {g : Nat} {z : GenState} (h : AllBare x) (hz : z.bare = true) : AllBare (x.setIfInBounds g z) := by
  intro y hy
  rcases Array.mem_or_eq_of_mem_setIfInBounds hy with q | q
  · exact h y q
  · rw [q]; exact hz

section
variable {prog : Program} {w : World} {s : Shared} {base : Heap} {envs : List Env} {p : Program} {loose : List Str} {mean : ExcName → Option Value} {mg mb : Str → Option Value} {dp un : Nat} {gd : Option (List Code)} {Q E : Value → Shared → Prop}
set_option maxHeartbeats 1000000 in
theorem con_told (G : Gnd (Mine.KF w.params) p loose mean mg mb base envs s.heap) (hd : dp + 10 < recursionLimit) (hu : un + 60 < cLine) {l : Addr} {vs : List Value} {items ys : List Int} {more : Bool} {np : Nat}
    (hl : s.heap.IsList l vs.toArray) (hi : IntsAre vs items) (pl : Plan items ys np more) (h0 : 0 < ys.length) (h3 : ys.length ≤ 3) (hm3 : ys.length = 3 ∨ more = true) (hg : AllBare s.gens)
    (ret : ∀ D its k h' g' tk', IntsAre its.toList ys → s.heap.StaysIn h' → h'.get? D = some (W.listOf its k) → s.heap.get? D = none → AllBare g' → Q (.ref D) { s with heap := h', gens := g', toks := tk' }) :
    wpAny (model prog w) (Ar dp un gd envs) (call (.ref 160) [.ref l]) Q E s := by
  obtain ⟨B, X, T⟩ := G
  refine wpAny_call ?_
  refine' enter_here (news := []) (binds := [(Str.ofString "ruler", .ref l)]) B rfl (fun _ _ e => e) (Nat.le_refl _) X T ?k6 ?k7 ?k8 ?k9 ?kB ?kN ?_ ?c1 ?c2 ?c3 ?c4
  case k6 => k_is
  case k7 => k_is
  case k8 => k_room
  case k9 => exact BindsTo.of_eq rfl
  case kB => exact locs rfl
  case kN => exact fun _ h => nomatch h
  case c1 => decide
  case c2 => exact rfl
  case c3 => exact rfl
  case c4 => exact rfl
  intro L' h₁ F' N' _ B' X' T'
  clear B X T
  (try dsimp only)
  k_with "exec For Name Call cons nil" => (refine hold_in ?_)
  k_steps
  refine hold_out ?_
  refine wpAny_For ?_ (fun _ => rfl)
  k_steps
  refine hold_out ?_
  rename Fr _ _ _ _ => F1
  rename News _ _ _ _ => N1
  refine wpAny_call ?_
  rename_i D hx l1x h1
  have X2 := X'.keeps F1.keep
  refine codeAny_call_generator (by k_room) (X2 94 (o94 w.params) (by k_is)) rfl rfl rfl rfl (codeRec_of X2 (by k_is)) ?_
  refine (BindsTo.of_eq rfl : BindsTo _ _ _ [(Str.ofString "grouping", .ref l)]) _ _ _ _ ?_
  refine wpAny_newFunctionEnv (by decide) (fun x hx => by rw [List.mem_singleton.mp hx]; rfl) (fun h₂ hns hsb => ?_) rfl
  dsimp only at hns hsb
  have hk2 : ∀ b o, h1.get? b = some o → h₂.get? b = some o := fun b o e => hsb.extBut b o (Nat.ne_of_lt (Heap.lt_size e)) (Heap.get?_push_of_some _ e)
  refine ⟨T'.nolimit.keeps fun b o e => hk2 b o (F1.keep b o e), ?_⟩
  have lt1 := F1.ns.lt
  have lt2 := Heap.lt_size (N1 _ (.head _)).1
  have lt3 := hns.lt
  have le1 := F1.above
  (try dsimp only at lt1 lt2 lt3 le1)
  have hk3 : ∀ (o : Obj) b o', h1.get? b = some o' → (h₂.push o).get? b = some o' := fun o b o' e => Heap.get?_push_of_some _ (hk2 b o' e)
  dsimp only
  refine wpAny_pyIter_gen (g := s.gens.size) ⟨_, _, _, Heap.get?_push_size _ rfl, rfl, rfl, rfl⟩ ?_
  have new1 : ∀ b, s.heap.objs.size ≤ b → s.heap.get? b = none := fun b hb => by
    cases e : s.heap.get? b with
    | none => rfl
    | some o => exact absurd (Heap.lt_size e) (Nat.not_lt.mpr hb)
  have zL : s.heap.get? L' = none := new1 _ le1
  have za : s.heap.get? h₂.objs.size = none := new1 _ (Nat.le_trans le1 (Nat.le_of_lt (Nat.lt_trans lt1 lt3)))
  have zD : s.heap.get? D = none := (N1 _ (.head _)).2.2
  have hLg : s.heap.objs.size ≤ h1.objs.size := Nat.le_trans le1 (Nat.le_of_lt lt1)
  obtain ⟨oLg, eesLg, eepLg, eLg, ens⟩ := id hns
  have hgo := fun (s'' : Shared) (hk0 : ∀ b o, s.heap.get? b = some o → s''.heap.get? b = some o) (hL : s''.heap.get? h1.objs.size = some oLg) (old : GOld L' D h₂.objs.size s''.heap) =>
    gen_start (prog := prog) (A := ((Ar dp un gd envs).deeper (envOf (Str.ofString "_law_told") tS L' 160 (.ref 159))).in1) (h₀ := s.heap) (Lg := h1.objs.size) (l := l) (Lt := L') (D := D) (a := h₂.objs.size) (s := s'') X' T' rfl hl hi pl h0 (Ne.symm (Nat.ne_of_lt lt1)) (Ne.symm (Nat.ne_of_lt lt2)) (Nat.ne_of_lt lt3) zL zD za (m := fun x => List.lookup x [(Str.ofString "grouping", Value.ref l)].reverse) ⟨hns.at' fun o e => by rw [eLg] at e; cases e; exact hL, hk0, hLg⟩ rfl old
  have nda : @Ne Nat h₂.objs.size D := Ne.symm (Nat.ne_of_lt (Nat.lt_trans lt2 lt3))
  have ndg : @Ne Nat h1.objs.size D := Ne.symm (Nat.ne_of_lt lt2)
  refine codeAny_forLoop (ToldI prog w s L' D h₂.objs.size h1.objs.size ys more ((Ar dp un gd envs).deeper (envOf (Str.ofString "_law_told") tS L' 160 (.ref 159))).in1) ?turn ys.length ?init (fun _ => rfl)
  case init =>
    refine ⟨_, _, _, _, _, #[], 0, _, _, h₂.objs.size, _, rfl, fr_stay F1 (hk3 _), rfl, all_cons ⟨hk3 _ _ _ (N1 _ (.head _)).1, (N1 _ (.head _)).2⟩ (all_cons ⟨Heap.get?_push_size _ rfl, Ne.symm (Nat.ne_of_lt (Nat.lt_trans lt1 lt3)), za⟩ (all_cons ⟨Heap.get?_push_of_some _ eLg, Ne.symm (Nat.ne_of_lt lt1), new1 _ hLg⟩ (all_cons ⟨Heap.get?_push_size _ rfl, Ne.symm (Nat.ne_of_lt (Nat.lt_trans lt1 lt3)), za⟩ all_nil))), nda, ⟨_, _, _, Heap.get?_push_size _ rfl, rfl, rfl, rfl⟩, Array.getElem?_push_size, hg.push rfl, Nat.le_refl _, by omega, by rw [Nat.sub_self]; exact .nil, fun s'' k1 k2 _ old => hgo s'' k1 k2 old⟩
  case turn =>
    have zg := new1 _ hLg
    clear hgo F1 N1 hsb hns hk2 hk3 X2 eLg ens
    generalize h₂.objs.size = a at *
    generalize h1.objs.size = Lg at *
    rintro k s' ⟨h', tk', gens', gs, m, its, kd, oa, oLg, I, oI, rfl, F, hm, N, nID, hgen, hgs, hbare, hk, hj, hvd, hgo2⟩
    have nD := N _ (.head _)
    have na := N _ (.tail _ (.head _))
    have nLg := N _ (.tail _ (.tail _ (.head _)))
    have nI := N _ (.tail _ (.tail _ (.tail _ (.head _))))
    obtain ⟨oL, _, _, eL, _⟩ := id F.ns
    obtain ⟨og, nm, qn, eg, hgd⟩ := hgen
    have : og = oa := by rw [na.1] at eg; exact (Option.some.inj eg).symm
    subst this
    have old : GOld L' D a h' := ⟨⟨_, eL⟩, ⟨_, nD.1⟩, ⟨_, na.1⟩⟩
    have hszI : its.size = ys.length - k := by
      have := hvd.length
      rw [Array.length_toList, List.length_take] at this
      omega
    have hszL : its.size ≤ sizeLine := by rw [hszI, PySem.sizeLine_eq]; omega
    refine next_gen (gs := gs) (P := gP s.heap L' D a) (Y := gY s.heap Lg L' D a ys more) (n := k) rfl (T'.nolimit.keeps F.keep) (by k_room) ⟨_, _, _, eg, hgd⟩ hgs (hgo2 _ F.keep nLg.1 nI.1 old) ?hY ?hP
    case hY =>
      rintro v s₁ gs' hb ⟨⟨x, t, hx, rfl⟩, ⟨hh, tkk, rfl, k1, k2⟩, I2, ⟨i1, i2, i3, ⟨oI2, i4⟩, ⟨oLg2, i5⟩⟩, hnext⟩
      have eL' := k2 L' (.inl rfl) oL eL
      have eD' := k2 D (.inr (.inl rfl)) _ nD.1
      have ea' := k2 a (.inr (.inr rfl)) _ na.1
      have F' : Fr s.heap L' hh m := ⟨F.ns.at' fun o e => by rw [eL] at e; cases e; exact eL', k1, F.above⟩
      have N' : News s.heap L' hh [(D, W.listOf its kd), (a, og), (Lg, oLg2), (I2, oI2)] := all_cons ⟨eD', nD.2⟩ (all_cons ⟨ea', na.2⟩ (all_cons ⟨i5, nLg.2⟩ (all_cons ⟨i4, i2, i1⟩ all_nil)))
      have F2 := fr_kst0 (ps := [(Str.ofString "bases", .ref D)]) (all_cons hm all_nil) F'
      dsimp only [kstB] at F2
      dsimp only [Shared.setGen] at hnext ⊢
      have hk0 : k ≠ 0 := by
        rintro rfl
        refine hnext (.inr (hm3.resolve_left (by omega))) _ ⟨k1, fun _ _ _ e => e, ⟨⟨_, eL'⟩, ⟨_, eD'⟩, ⟨_, ea'⟩⟩⟩
      obtain ⟨j, rfl⟩ : ∃ j, k = j + 1 := ⟨k - 1, by omega⟩
      rw [Nat.add_sub_cancel] at hnext hx
      have hbare' := bare_set (g := s.gens.size) (bare_set (g := s.gens.size) hbare (z := .running) rfl) hb
      have hsz : s.gens.size < gens'.size := by
        rcases Nat.lt_or_ge s.gens.size gens'.size with q | q
        · exact q
        · rw [Array.getElem?_eq_none q] at hgs; cases hgs
      have hgs' : ((gens'.setIfInBounds s.gens.size .running).setIfInBounds s.gens.size gs')[s.gens.size]? = some gs' := by simp [hsz]
      generalize (gens'.setIfInBounds s.gens.size .running).setIfInBounds s.gens.size gs' = G2 at *
      have hgo3 : (j ≠ 0 ∨ more = true) → ∀ s'' : Shared, (∀ b o, s.heap.get? b = some o → s''.heap.get? b = some o) → s''.heap.get? Lg = some oLg2 → s''.heap.get? I2 = some oI2 → GOld L' D a s''.heap → gs'.Goes (model prog w) ((Ar dp un gd envs).deeper (envOf (Str.ofString "_law_told") tS L' 160 (.ref 159))).in1 (gR s.heap L' D a) (gY s.heap Lg L' D a ys more) j (.send .none) s'' := by
        intro hj2 s'' c1 c2 c3 c4
        refine hnext hj2 s'' ⟨c1, fun b hb o e => ?_, c4⟩
        rcases hb with rfl | rfl
        · dsimp only at i5 e; rw [i5] at e; cases e; exact c2
        · dsimp only at i4 e; rw [i4] at e; cases e; exact c3
      clear F F' hm hgo2 hgs hbare nD na eL eL' eD' ea' N old hnext i4 i5 k1 k2
      k_steps
      refine hold_out ?_
      rename Fr _ _ _ _ => F3
      rename News _ _ _ _ => N3
      refine KM.len_K (n := ys.length - (j + 1) + 1) N3 (.head _) (by rw [Array.size_push, hszI]) (by omega) ?_
      k_steps
      · have hk1 : ys.length - (j + 1) = 2 := by omega
        have hI := ints_snoc (t := t) hvd (by omega) hx
        rw [List.take_of_length_le (by omega)] at hI
        exact ret D _ _ _ _ _ hI F3.keep (N3 _ (.head _)).1 zD hbare'
      rotate_left 2
      · exact j
      · exact Nat.lt_succ_self j
      · refine ⟨_, _, G2, gs', _, _, _, og, oLg2, I2, oI2, rfl, F3, (by simp; decide), N3, i3, ⟨_, nm, qn, (N3 _ (.tail _ (.head _))).1, hgd⟩, hgs', hbare', by omega, by omega, ints_snoc hvd (by omega) hx, hgo3 ?_⟩
        rcases hm3 with q | q
        · exact .inl (by omega)
        · exact .inr q
    case hP =>
      rintro s₁ ⟨rfl, hh, tkk, rfl, k1, k2⟩ h3 hk3
      have F' : Fr s.heap L' h3 m := ⟨F.ns.at' fun o e => by rw [eL] at e; cases e; exact hk3 _ _ (k2 L' (.inl rfl) oL eL), fun b o e => hk3 _ _ (k1 b o e), F.above⟩
      have N' : News s.heap L' h3 [(D, W.listOf its kd)] := all_cons ⟨hk3 _ _ (k2 D (.inr (.inl rfl)) _ nD.1), nD.2⟩ all_nil
      have F2 := fr_kst0 (ps := [(Str.ofString "bases", .ref D)]) (all_cons hm all_nil) F'
      dsimp only [kstB] at F2
      dsimp only [Shared.setGen]
      have hbare' := bare_set (g := s.gens.size) (bare_set (g := s.gens.size) hbare (z := .running) rfl) (z := .finished) rfl
      generalize (gens'.setIfInBounds s.gens.size .running).setIfInBounds s.gens.size .finished = G2 at *
      rw [Nat.sub_zero, List.take_length] at hvd
      clear F F' hm hgo2 hgs hbare nD na eL N old k1 k2
      k_steps
      rename Fr _ _ _ _ => F3
      rename News _ _ _ _ => N3
      exact ret D _ _ _ _ _ hvd F3.keep (N3 _ (.head _)).1 zD hbare'
end
end Mine
end
theorem Mine.reset_L4 : True := by
  k_with_none
  trivial
section
set_option maxRecDepth 100000
namespace Mine
open PySem.Calls PySem.Spec
local macro_rules | `(tactic| k_room) => `(tactic| ((try simp only [depth_under_make, depth_under_kw, depth_in1, depth_deeper, depth_caller] at *); (try dsimp only [Ar] at *); omega))
local macro_rules | `(tactic| k_mem) => `(tactic| assumption)
local macro_rules | `(tactic| walk_at "CompSrc") => `(tactic| (k_here; refine hold_in ?_))

def mkLaw {l : List Stmt} {i : Nat} {n : Str} {p : Arguments} {a0 a1 a2 a3 a4 a5 : Stmt} {d : List PySem.Expr} {r : Option PySem.Expr} {tp : List TypeParam} {s : Scope} {ts : Option Scope} {bd : Str} {pos : Pos} {α : Type} (_ : l[i]? = some (.FunctionDef n p [a0, a1, a2, a3, a4, a5] d r tp s ts bd pos)) (k : Stmt → Stmt → Stmt → Stmt → Stmt → Stmt → Scope → α) : α := k a0 a1 a2 a3 a4 a5 s
noncomputable def lawS : Scope := mkLaw (l := PB) (i := 73) rfl fun _ _ _ _ _ _ s => s
noncomputable def law0 : Stmt := mkLaw (l := PB) (i := 73) rfl fun a _ _ _ _ _ _ => a
noncomputable def law1 : Stmt := mkLaw (l := PB) (i := 73) rfl fun _ a _ _ _ _ _ => a
noncomputable def law2 : Stmt := mkLaw (l := PB) (i := 73) rfl fun _ _ a _ _ _ _ => a
noncomputable abbrev lawE (L : Addr) : Env := envOf (Str.ofString "law") lawS L 198 (.ref 197)

theorem draw_bd (a : Int) : 0 ≤ Int.fmod a (10 ^ Int.toNat 6) ∧ Int.fmod a (10 ^ Int.toNat 6) < 1000000 := by
  have e6 : (10 : Int) ^ Int.toNat 6 = 1000000 := by decide
  rw [e6]
  exact ⟨fmod_lo a (by omega), fmod_hi a (by omega)⟩
theorem pick_hd {h₀ h : Heap} {L : Addr} {q : Addr × Obj} {r : List (Addr × Obj)} (N : News h₀ L h (q :: r)) : News h₀ L h [q] := news_sub N (all_cons (.head _) all_nil)
def DrawsP (h₀ : Heap) (L' : Addr) (s : Shared) (fl : Flow) (s' : Shared) : Prop :=
  fl = .next ∧ ∃ D d0 d1 d2 d3 t0 t1 t2 t3 kd m h' tk', s' = { s with heap := h', toks := tk' } ∧ Fr h₀ L' h' m ∧ m (Str.ofString "draws") = some (.ref D) ∧ News h₀ L' h' [(D, W.listOf #[.int d0 t0, .int d1 t1, .int d2 t2, .int d3 t3] kd)] ∧
    (0 ≤ d0 ∧ d0 < 1000000) ∧ (0 ≤ d1 ∧ d1 < 1000000) ∧ (0 ≤ d2 ∧ d2 < 1000000) ∧ (0 ≤ d3 ∧ d3 < 1000000)

section
variable {prog : Program} {w : World} {s : Shared} {base : Heap} {envs : List Env} {p : Program} {loose : List Str} {mean : ExcName → Option Value} {mg mb : Str → Option Value} {dp un : Nat} {gd : Option (List Code)} {E : Value → Shared → Prop}
set_option maxHeartbeats 1000000 in
theorem con_draws0 {h₀ : Heap} {L' : Addr} (B : Below (Ar dp un gd envs) base envs h₀) (X : (Mine.KF w.params).In h₀) (T : Top p loose mean mg mb h₀) (hd : dp + 30 < recursionLimit) (hu : un + 300 < cLine) {l : Addr}
    (hl : h₀.IsList l ([] : List Value).toArray) (hi : IntsAre [] []) (F : Fr h₀ L' s.heap (fun y => List.lookup y [(Str.ofString "script", Value.ref l)].reverse)) (N : News h₀ L' s.heap []) :
    wpAny (model prog w) ((Ar dp un gd envs).deeper (lawE L')) (exec law0 (lawE L')) (DrawsP h₀ L' s) E s := by
  dsimp only [law0, lawS, mkLaw, lawE]
  k_steps
  refine hold_out ?_
  refine LCg.CompSrc.ledger (by rfl) (by k_asm) (by k_asm) (by k_mem) (by rw [PySem.sizeLine_eq]; simp) ?_
  intro g'
  refine' kcf_list (fun q => q.fmod (10 ^ Int.toNat 6)) hi (fun k' t' I' oI' C' oC' D' m' ys' h' tk' E' hk' hC' hx' F' N' off' ne' hMark' => ?_) ?_
  all_goals (try (simp only [LCg.Off3, and_true] at off'))
  · k_steps
  unfold KPfDone
  intro ys hy
  simp only [List.map_cons, List.map_nil] at hy
  cases hy
  k_steps
  rename Fr _ _ _ _ => F3
  rename News _ _ _ _ => N3
  exact ⟨rfl, _, _, _, _, _, _, _, _, _, _, _, _, _, rfl, F3, rfl, pick_hd N3, by omega, by omega, by omega, by omega⟩
set_option maxHeartbeats 1000000 in
theorem con_draws1 {h₀ : Heap} {L' : Addr} (B : Below (Ar dp un gd envs) base envs h₀) (X : (Mine.KF w.params).In h₀) (T : Top p loose mean mg mb h₀) (hd : dp + 30 < recursionLimit) (hu : un + 300 < cLine) {l : Addr} {a : Int} {ta : Tok}
    (hl : h₀.IsList l [Value.int a ta].toArray) (hi : IntsAre [Value.int a ta] [a]) (F : Fr h₀ L' s.heap (fun y => List.lookup y [(Str.ofString "script", Value.ref l)].reverse)) (N : News h₀ L' s.heap []) :
    wpAny (model prog w) ((Ar dp un gd envs).deeper (lawE L')) (exec law0 (lawE L')) (DrawsP h₀ L' s) E s := by
  dsimp only [law0, lawS, mkLaw, lawE]
  k_steps
  refine hold_out ?_
  refine LCg.CompSrc.ledger (by rfl) (by k_asm) (by k_asm) (by k_mem) (by rw [PySem.sizeLine_eq]; simp) ?_
  intro g'
  refine' kcf_list (fun q => q.fmod (10 ^ Int.toNat 6)) hi (fun k' t' I' oI' C' oC' D' m' ys' h' tk' E' hk' hC' hx' F' N' off' ne' hMark' => ?_) ?_
  all_goals (try (simp only [LCg.Off3, and_true] at off'))
  · k_steps
  unfold KPfDone
  intro ys hy
  simp only [List.map_cons, List.map_nil] at hy
  rcases hy with _ | ⟨_, v0, hy⟩
  cases hy
  k_steps
  rename Fr _ _ _ _ => F3
  rename News _ _ _ _ => N3
  exact ⟨rfl, _, _, _, _, _, _, _, _, _, _, _, _, _, rfl, F3, rfl, pick_hd N3, draw_bd a, by omega, by omega, by omega⟩
set_option maxHeartbeats 1000000 in
theorem con_draws2 {h₀ : Heap} {L' : Addr} (B : Below (Ar dp un gd envs) base envs h₀) (X : (Mine.KF w.params).In h₀) (T : Top p loose mean mg mb h₀) (hd : dp + 30 < recursionLimit) (hu : un + 300 < cLine) {l : Addr} {a : Int} {ta : Tok} {b : Int} {tb : Tok}
    (hl : h₀.IsList l [Value.int a ta, Value.int b tb].toArray) (hi : IntsAre [Value.int a ta, Value.int b tb] [a, b]) (F : Fr h₀ L' s.heap (fun y => List.lookup y [(Str.ofString "script", Value.ref l)].reverse)) (N : News h₀ L' s.heap []) :
    wpAny (model prog w) ((Ar dp un gd envs).deeper (lawE L')) (exec law0 (lawE L')) (DrawsP h₀ L' s) E s := by
  dsimp only [law0, lawS, mkLaw, lawE]
  k_steps
  refine hold_out ?_
  refine LCg.CompSrc.ledger (by rfl) (by k_asm) (by k_asm) (by k_mem) (by rw [PySem.sizeLine_eq]; simp) ?_
  intro g'
  refine' kcf_list (fun q => q.fmod (10 ^ Int.toNat 6)) hi (fun k' t' I' oI' C' oC' D' m' ys' h' tk' E' hk' hC' hx' F' N' off' ne' hMark' => ?_) ?_
  all_goals (try (simp only [LCg.Off3, and_true] at off'))
  · k_steps
  unfold KPfDone
  intro ys hy
  simp only [List.map_cons, List.map_nil] at hy
  rcases hy with _ | ⟨_, v0, hy⟩
  rcases hy with _ | ⟨_, v1, hy⟩
  cases hy
  k_steps
  rename Fr _ _ _ _ => F3
  rename News _ _ _ _ => N3
  exact ⟨rfl, _, _, _, _, _, _, _, _, _, _, _, _, _, rfl, F3, rfl, pick_hd N3, draw_bd a, draw_bd b, by omega, by omega⟩
set_option maxHeartbeats 1000000 in
theorem con_draws3 {h₀ : Heap} {L' : Addr} (B : Below (Ar dp un gd envs) base envs h₀) (X : (Mine.KF w.params).In h₀) (T : Top p loose mean mg mb h₀) (hd : dp + 30 < recursionLimit) (hu : un + 300 < cLine) {l : Addr} {a : Int} {ta : Tok} {b : Int} {tb : Tok} {c : Int} {tc : Tok}
    (hl : h₀.IsList l [Value.int a ta, Value.int b tb, Value.int c tc].toArray) (hi : IntsAre [Value.int a ta, Value.int b tb, Value.int c tc] [a, b, c]) (F : Fr h₀ L' s.heap (fun y => List.lookup y [(Str.ofString "script", Value.ref l)].reverse)) (N : News h₀ L' s.heap []) :
    wpAny (model prog w) ((Ar dp un gd envs).deeper (lawE L')) (exec law0 (lawE L')) (DrawsP h₀ L' s) E s := by
  dsimp only [law0, lawS, mkLaw, lawE]
  k_steps
  refine hold_out ?_
  refine LCg.CompSrc.ledger (by rfl) (by k_asm) (by k_asm) (by k_mem) (by rw [PySem.sizeLine_eq]; simp) ?_
  intro g'
  refine' kcf_list (fun q => q.fmod (10 ^ Int.toNat 6)) hi (fun k' t' I' oI' C' oC' D' m' ys' h' tk' E' hk' hC' hx' F' N' off' ne' hMark' => ?_) ?_
  all_goals (try (simp only [LCg.Off3, and_true] at off'))
  · k_steps
  unfold KPfDone
  intro ys hy
  simp only [List.map_cons, List.map_nil] at hy
  rcases hy with _ | ⟨_, v0, hy⟩
  rcases hy with _ | ⟨_, v1, hy⟩
  rcases hy with _ | ⟨_, v2, hy⟩
  cases hy
  k_steps
  rename Fr _ _ _ _ => F3
  rename News _ _ _ _ => N3
  exact ⟨rfl, _, _, _, _, _, _, _, _, _, _, _, _, _, rfl, F3, rfl, pick_hd N3, draw_bd a, draw_bd b, draw_bd c, by omega⟩
set_option maxHeartbeats 1000000 in
theorem con_draws4 {h₀ : Heap} {L' : Addr} (B : Below (Ar dp un gd envs) base envs h₀) (X : (Mine.KF w.params).In h₀) (T : Top p loose mean mg mb h₀) (hd : dp + 30 < recursionLimit) (hu : un + 300 < cLine) {l : Addr} {a : Int} {ta : Tok} {b : Int} {tb : Tok} {c : Int} {tc : Tok} {d : Int} {td : Tok} {vr : List Value} {nr : List Int}
    (hl : h₀.IsList l (Value.int a ta :: Value.int b tb :: Value.int c tc :: Value.int d td :: vr).toArray) (hi : IntsAre (Value.int a ta :: Value.int b tb :: Value.int c tc :: Value.int d td :: vr) (a :: b :: c :: d :: nr)) (h63 : (a :: b :: c :: d :: nr).length ≤ 63) (F : Fr h₀ L' s.heap (fun y => List.lookup y [(Str.ofString "script", Value.ref l)].reverse)) (N : News h₀ L' s.heap []) :
    wpAny (model prog w) ((Ar dp un gd envs).deeper (lawE L')) (exec law0 (lawE L')) (DrawsP h₀ L' s) E s := by
  dsimp only [law0, lawS, mkLaw, lawE]
  k_steps
  refine hold_out ?_
  have hws : IntsAre [Value.int a ta, Value.int b tb, Value.int c tc, Value.int d td] [a, b, c, d] := .cons _ _ (.cons _ _ (.cons _ _ (.cons _ _ .nil)))
  refine LCg.CompSrc.ledger (by rfl) (by k_asm) (by k_asm) (by k_mem) (by rw [PySem.sizeLine_eq]; simp) ?_
  intro g'
  refine' kcf_list (fun q => q.fmod (10 ^ Int.toNat 6)) hws (fun k' t' I' oI' C' oC' D' m' ys' h' tk' E' hk' hC' hx' F' N' off' ne' hMark' => ?_) ?_
  all_goals (try (simp only [LCg.Off3, and_true] at off'))
  · k_steps
  unfold KPfDone
  intro ys hy
  simp only [List.map_cons, List.map_nil] at hy
  rcases hy with _ | ⟨_, v0, hy⟩
  rcases hy with _ | ⟨_, v1, hy⟩
  rcases hy with _ | ⟨_, v2, hy⟩
  rcases hy with _ | ⟨_, v3, hy⟩
  cases hy
  k_steps
  rename Fr _ _ _ _ => F3
  rename News _ _ _ _ => N3
  exact ⟨rfl, _, _, _, _, _, _, _, _, _, _, _, _, _, rfl, F3, rfl, pick_hd N3, draw_bd a, draw_bd b, draw_bd c, draw_bd d⟩
end
end Mine
end
theorem Mine.reset_L5 : True := by
  k_with_none
  trivial
section
set_option maxRecDepth 100000
namespace Mine
open PySem.Calls PySem.Spec
local macro_rules | `(tactic| k_room) => `(tactic| ((try simp only [depth_under_make, depth_under_kw, depth_in1, depth_deeper, depth_caller] at *); (try dsimp only [Ar] at *); omega))
local macro_rules | `(tactic| k_mem) => `(tactic| assumption)

def PrimeP (h₀ : Heap) (L' D : Addr) (oD : Obj) (s : Shared) (fl : Flow) (s' : Shared) : Prop :=
  fl = .next ∧ ∃ pr tp m h' tk', s' = { s with heap := h', toks := tk' } ∧ Fr h₀ L' h' m ∧ m (Str.ofString "draws") = some (.ref D) ∧ m (Str.ofString "prime") = some (.int pr tp) ∧ News h₀ L' h' [(D, oD)] ∧ pr ∈ [7, 11, 19, 23, 31, 43, (47 : Int)]

section
variable {prog : Program} {w : World} {s : Shared} {base : Heap} {envs : List Env} {p : Program} {loose : List Str} {mean : ExcName → Option Value} {mg mb : Str → Option Value} {dp un : Nat} {gd : Option (List Code)} {E : Value → Shared → Prop}
set_option maxHeartbeats 4000000 in
theorem con_prime {h₀ : Heap} {L' D : Addr} (B : Below (Ar dp un gd envs) base envs h₀) (X : (Mine.KF w.params).In h₀) (T : Top p loose mean mg mb h₀) (hd : dp + 30 < recursionLimit) (hu : un + 300 < cLine) {d0 d1 d2 d3 : Int} {t0 t1 t2 t3 : Tok} {kd : Nat} {m : Str → Option Value}
    (F : Fr h₀ L' s.heap m) (hm : m (Str.ofString "draws") = some (.ref D)) (N : News h₀ L' s.heap [(D, W.listOf #[.int d0 t0, .int d1 t1, .int d2 t2, .int d3 t3] kd)]) (b0 : 0 ≤ d0 ∧ d0 < 1000000) :
    wpAny (model prog w) ((Ar dp un gd envs).deeper (lawE L')) (exec law1 (lawE L')) (PrimeP h₀ L' D (W.listOf #[.int d0 t0, .int d1 t1, .int d2 t2, .int d3 t3] kd) s) E s := by
  have F2 := fr_kst0 (ps := [(Str.ofString "draws", _)]) (all_cons hm all_nil) F
  dsimp only [kstB] at F2
  clear F
  dsimp only [law1, lawS, mkLaw, lawE]
  k_steps
  all_goals
    rename Fr _ _ _ _ => F3
    rename News _ _ _ _ => N3
    exact ⟨rfl, _, _, _, _, _, rfl, F3, (by simp; decide), rfl, news_sub N3 (all_cons (.tail _ (.head _)) all_nil), by decide⟩

def ThreeP (h₀ : Heap) (L' D : Addr) (oD : Obj) (d1 d2 d3 : Int) (pv : Value) (s : Shared) (fl : Flow) (s' : Shared) : Prop :=
  fl = .next ∧ ∃ ta tb tc m h' tk', s' = { s with heap := h', toks := tk' } ∧ Fr h₀ L' h' m ∧ m (Str.ofString "draws") = some (.ref D) ∧ m (Str.ofString "prime") = some pv ∧ News h₀ L' h' [(D, oD)] ∧
    m (Str.ofString "first") = some (.int (Int.fmod d1 8 + 1) ta) ∧ m (Str.ofString "second") = some (.int (Int.fmod d2 8 + 1) tb) ∧ m (Str.ofString "third") = some (.int (Int.fmod d3 8 + 1) tc)
local macro_rules | `(tactic| walk_at "CompSrc") => `(tactic| (k_here; refine hold_in ?_))
set_option maxHeartbeats 4000000 in
theorem con_three {h₀ : Heap} {L' D : Addr} (B : Below (Ar dp un gd envs) base envs h₀) (X : (Mine.KF w.params).In h₀) (T : Top p loose mean mg mb h₀) (hd : dp + 30 < recursionLimit) (hu : un + 300 < cLine) {d0 d1 d2 d3 : Int} {t0 t1 t2 t3 : Tok} {kd : Nat} {m : Str → Option Value} {pv : Value}
    (F : Fr h₀ L' s.heap m) (hm : m (Str.ofString "draws") = some (.ref D)) (hp : m (Str.ofString "prime") = some pv) (N : News h₀ L' s.heap [(D, W.listOf #[.int d0 t0, .int d1 t1, .int d2 t2, .int d3 t3] kd)]) :
    wpAny (model prog w) ((Ar dp un gd envs).deeper (lawE L')) (exec law2 (lawE L')) (ThreeP h₀ L' D (W.listOf #[.int d0 t0, .int d1 t1, .int d2 t2, .int d3 t3] kd) d1 d2 d3 pv s) E s := by
  have F2 := fr_kst0 (ps := [(Str.ofString "draws", _), (Str.ofString "prime", _)]) (all_cons hm (all_cons hp all_nil)) F
  dsimp only [kstB] at F2
  clear F
  dsimp only [law2, lawS, mkLaw, lawE]
  have hws : IntsAre [Value.int d1 t1, Value.int d2 t2, Value.int d3 t3] [d1, d2, d3] := .cons _ _ (.cons _ _ (.cons _ _ .nil))
  k_steps
  refine hold_out ?_
  refine LCg.CompSrc.ledger (by rfl) (by k_asm) (by k_asm) (by k_mem) (by rw [PySem.sizeLine_eq]; simp) ?_
  intro g'
  refine' kcf_list (fun q => q.fmod 8 + 1) hws (fun k' t' I' oI' C' oC' D' m' ys' h' tk' E' hk' hC' hx' F' N' off' ne' hMark' => ?_) ?_
  all_goals (try (simp only [LCg.Off3, and_true] at off'))
  · k_steps
  unfold KPfDone
  intro ys hy
  simp only [List.map_cons, List.map_nil] at hy
  rcases hy with _ | ⟨_, v0, hy⟩
  rcases hy with _ | ⟨_, v1, hy⟩
  rcases hy with _ | ⟨_, v2, hy⟩
  cases hy
  k_steps
  rename Fr _ _ _ _ => F3
  rename News _ _ _ _ => N3
  exact ⟨rfl, v0, v1, v2, _, _, _, rfl, F3, (by (try dsimp only); repeat (first | rw [if_neg (by decide)] | rw [if_pos rfl])), (by (try dsimp only); repeat (first | rw [if_neg (by decide)] | rw [if_pos rfl])), news_sub N3 (all_cons (.tail _ (.tail _ (.head _))) all_nil), (by (try dsimp only); repeat (first | rw [if_neg (by decide)] | rw [if_pos rfl])), (by (try dsimp only); repeat (first | rw [if_neg (by decide)] | rw [if_pos rfl])), (by (try dsimp only); repeat (first | rw [if_neg (by decide)] | rw [if_pos rfl]))⟩
end
end Mine
end
theorem Mine.reset_L7 : True := by
  k_with_none
  trivial
section
set_option maxRecDepth 100000
namespace Mine
open PySem.Calls PySem.Spec
local macro_rules | `(tactic| k_room) => `(tactic| ((try simp only [depth_under_make, depth_under_kw, depth_in1, depth_deeper, depth_caller] at *); (try dsimp only [Ar] at *); omega))
local macro_rules | `(tactic| k_mem) => `(tactic| assumption)
local macro_rules | `(tactic| walk_at "call ref") => `(tactic| (k_here; k_dflt (with_reducible show wpAny _ _ (call (Value.ref 160) _) _ _ _); refine hold_in ?_))
local macro_rules | `(tactic| walk_at "call ref") => `(tactic| (k_here; k_dflt (with_reducible show wpAny _ _ (call (Value.ref 186) _) _ _ _); refine hold_in ?_))
local macro_rules | `(tactic| walk_at "exec Assign") => `(tactic| (k_here; (with_reducible show wpAny _ _ (exec (Stmt.Assign [PySem.Expr.Name (Str.ofString "draws") _] _ _) _) _ _ _); refine hold_in ?_))
local macro_rules | `(tactic| walk_at "exec Assign") => `(tactic| (k_here; (with_reducible show wpAny _ _ (exec (Stmt.Assign [PySem.Expr.Name (Str.ofString "prime") _] _ _) _) _ _ _); refine hold_in ?_))
local macro_rules | `(tactic| walk_at "exec Assign") => `(tactic| (k_here; (with_reducible show wpAny _ _ (exec (Stmt.Assign [PySem.Expr.Tuple [PySem.Expr.Name (Str.ofString "first") _, _, _] _ _] _ _) _) _ _ _); refine hold_in ?_))

def PlainOK : Prop := ∀ pr ∈ [7, 11, 19, 23, 31, 43, (47 : Int)], (0 ≤ classF pr ∧ classF pr ≤ 100) ∧ ∀ bs : List Int, bs.length ≤ 3 → (∀ b ∈ bs, 1 ≤ b ∧ b ≤ 8) → ∀ (i : Nat) (b : Int), bs[i]? = some b → TurnOK pr (roadF (bs.take i)) b (restL pr (bs.take i))
noncomputable def lawT : List Stmt := mkLaw (l := PB) (i := 73) rfl fun _ _ _ _ a b _ => [a, b]
noncomputable def lawR : Scope := lawS

section
variable {prog : Program} {w : World} {s : Shared} {base : Heap} {envs : List Env} {p : Program} {loose : List Str} {mean : ExcName → Option Value} {mg mb : Str → Option Value} {dp un : Nat} {gd : Option (List Code)} {E : Value → Shared → Prop} {Q : Flow → Shared → Prop}
set_option maxHeartbeats 2000000 in
theorem con_tail (plain : PlainOK) {h₀ : Heap} {L' : Addr} (B : Below (Ar dp un gd envs) base envs h₀) (X : (Mine.KF w.params).In h₀) (T : Top p loose mean mg mb h₀) (hd : dp + 40 < recursionLimit) (hu : un + 400 < cLine) {lr lb : Addr} {vr vb : List Value} {items ys : List Int} {pr : Int} {tp : Tok} {kr kb np : Nat} {more : Bool} {m : Str → Option Value}
    (hr : IntsAre vr items) (hb : IntsAre vb ys) (pl : Plan items ys np more) (h0 : 0 < ys.length) (h3 : ys.length ≤ 3) (hm3 : ys.length = 3 ∨ more = true) (hys : ∀ b ∈ ys, 1 ≤ b ∧ b ≤ 8) (hpr : pr ∈ [7, 11, 19, 23, 31, 43, (47 : Int)])
    (F : Fr h₀ L' s.heap m) (e1 : m (Str.ofString "ruler") = some (.ref lr)) (e2 : m (Str.ofString "bases") = some (.ref lb)) (e3 : m (Str.ofString "prime") = some (.int pr tp)) (N : News h₀ L' s.heap [(lb, W.listOf vb.toArray kb), (lr, W.listOf vr.toArray kr)]) (hg : AllBare s.gens)
    (ret : ∀ h' g' tk', h₀.StaysIn h' → AllBare g' → Q (.ret (.bool true)) { s with heap := h', gens := g', toks := tk' }) :
    wpAny (model prog w) ((Ar dp un gd envs).deeper (lawE L')) (execs lawT (lawE L')) Q E s := by
  have F4 := fr_kst0 (ps := [(Str.ofString "ruler", _), (Str.ofString "bases", _), (Str.ofString "prime", _)]) (all_cons e1 (all_cons e2 (all_cons e3 all_nil))) F
  dsimp only [kstB] at F4
  clear F e1 e2 e3
  dsimp only [lawT, lawS, mkLaw, lawE]
  k_steps
  refine hold_out ?_
  rename Fr _ _ _ _ => F5
  rename News _ _ _ _ => N5
  refine con_told (gnd_of B F5 X T rfl rfl) (by k_room) (by dsimp only [Ar, Around.deeper]; omega) (News.isList N5 (.tail _ (.head _))) hr pl h0 h3 hm3 hg ?_
  intro Dt its kt h' g' tk' hI stay hD hnew hbare
  have F6 := fr_stay F5 stay
  have N6 := news_add F5 (news_stay N5 stay) hnew hD
  have oldLb := (N5 _ (.head _)).1
  (try dsimp only at oldLb hnew)
  clear F5 N5 stay hg
  have nD1 : @Ne Nat Dt lb := fun q => by rw [q, oldLb] at hnew; cases hnew
  k_steps
  refine hold_out ?_
  rename Fr _ _ _ _ => F7
  rename News _ _ _ _ => N7
  obtain ⟨⟨c0, c9⟩, hok⟩ := plain pr hpr
  have hb7 : 7 ≤ pr ∧ pr ≤ 47 := by
    simp only [List.mem_cons, List.not_mem_nil, or_false] at hpr
    omega
  refine con_agree (bs := ys) (vb := its.toList) (gnd_of B F7 X T rfl rfl) (by k_room) (by dsimp only [Ar, Around.deeper]; omega) (by rw [Array.toArray_toList]; exact News.isList N7 (.head _)) hI h3 hys hb7.1 hb7.2 c0 c9 (hok ys h3 hys) ?_
  intro h8 tk8 stay8
  have F8 := fr_stay F7 stay8
  clear F7 N7
  k_steps
  exact ret _ _ _ F8.keep hbare
end
end Mine
end
theorem Mine.reset_L6 : True := by
  k_with_none
  trivial
section
set_option maxRecDepth 100000
namespace Mine
open PySem.Calls PySem.Spec
local macro_rules | `(tactic| k_room) => `(tactic| ((try simp only [depth_under_make, depth_under_kw, depth_in1, depth_deeper, depth_caller] at *); (try dsimp only [Ar] at *); omega))
local macro_rules | `(tactic| k_mem) => `(tactic| assumption)
local macro_rules | `(tactic| walk_at "call ref") => `(tactic| (k_here; k_dflt (with_reducible show wpAny _ _ (call (Value.ref 160) _) _ _ _); refine hold_in ?_))
local macro_rules | `(tactic| walk_at "call ref") => `(tactic| (k_here; k_dflt (with_reducible show wpAny _ _ (call (Value.ref 186) _) _ _ _); refine hold_in ?_))
local macro_rules | `(tactic| walk_at "exec Assign") => `(tactic| (k_here; (with_reducible show wpAny _ _ (exec (Stmt.Assign [PySem.Expr.Name (Str.ofString "draws") _] _ _) _) _ _ _); refine hold_in ?_))
local macro_rules | `(tactic| walk_at "exec Assign") => `(tactic| (k_here; (with_reducible show wpAny _ _ (exec (Stmt.Assign [PySem.Expr.Name (Str.ofString "prime") _] _ _) _) _ _ _); refine hold_in ?_))
local macro_rules | `(tactic| walk_at "exec Assign") => `(tactic| (k_here; (with_reducible show wpAny _ _ (exec (Stmt.Assign [PySem.Expr.Tuple [PySem.Expr.Name (Str.ofString "first") _, _, _] _ _] _ _) _) _ _ _); refine hold_in ?_))

local macro_rules | `(tactic| walk_at "execs cons") => `(tactic| (k_here; (with_reducible show wpAny _ _ (execs [Stmt.Assign [PySem.Expr.Name (Str.ofString "told") _] _ _, _] _) _ _ _); refine hold_in ?_))
theorem plan0 {x1 x2 x3 : Int} (r1 : 1 ≤ x1 ∧ x1 ≤ 8) (r2 : 1 ≤ x2 ∧ x2 ≤ 8) (r3 : 1 ≤ x3 ∧ x3 ≤ 8) : Plan [x1, x2, x3] [x1, x2, x3] 3 false where
  hnp := by
    rintro (_ | _ | _ | i) x hi hx
    · cases hx; exact ⟨by omega, by omega, rfl⟩
    · cases hx; exact ⟨by omega, by omega, rfl⟩
    · cases hx; exact ⟨by omega, by omega, rfl⟩
    · omega
  hlen := by simp
  hle := by simp
  hmore := by intro h; cases h
  hzero := by simp
theorem plan1 {x1 x2 x3 : Int} (r1 : 1 ≤ x1 ∧ x1 ≤ 8) (r2 : 1 ≤ x2 ∧ x2 ≤ 8) : Plan [x1, x2, 0, x3] [x1, x2, x2] 2 false where
  hnp := by
    rintro (_ | _ | i) x hi hx
    · cases hx; exact ⟨by omega, by omega, rfl⟩
    · cases hx; exact ⟨by omega, by omega, rfl⟩
    · omega
  hlen := by simp
  hle := by simp
  hmore := by intro h; cases h
  hzero := fun _ => ⟨rfl, rfl, by omega, rfl⟩
theorem plan2 {x1 x2 x3 : Int} (r1 : 1 ≤ x1 ∧ x1 ≤ 8) (r2 : 1 ≤ x2 ∧ x2 ≤ 8) : Plan [x1, x2, 127, x3] [x1, x2] 2 true where
  hnp := by
    rintro (_ | _ | i) x hi hx
    · cases hx; exact ⟨by omega, by omega, rfl⟩
    · cases hx; exact ⟨by omega, by omega, rfl⟩
    · omega
  hlen := by simp
  hle := by simp
  hmore := fun _ => ⟨rfl, rfl⟩
  hzero := by simp
theorem ints3 {a b c : Int} {ta tb tc : Tok} : IntsAre [.int a ta, .int b tb, .int c tc] [a, b, c] := .cons _ _ (.cons _ _ (.cons _ _ .nil))
theorem ints4 {a b c d : Int} {ta tb tc td : Tok} : IntsAre [.int a ta, .int b tb, .int c tc, .int d td] [a, b, c, d] := .cons _ _ ints3
theorem ints2 {a b : Int} {ta tb : Tok} : IntsAre [.int a ta, .int b tb] [a, b] := .cons _ _ (.cons _ _ .nil)
theorem pick_23 {h₀ h : Heap} {L : Addr} {a b c d : Addr × Obj} (N : News h₀ L h [a, b, c, d]) : News h₀ L h [b, c] := news_sub N (all_cons (by simp) (all_cons (by simp) all_nil))

section
variable {prog : Program} {w : World} {s : Shared} {base : Heap} {envs : List Env} {p : Program} {loose : List Str} {mean : ExcName → Option Value} {mg mb : Str → Option Value} {dp un : Nat} {gd : Option (List Code)} {Q E : Value → Shared → Prop}
theorem con_draws {E : Value → Shared → Prop} {h₀ : Heap} {L' : Addr} (B : Below (Ar dp un gd envs) base envs h₀) (X : (Mine.KF w.params).In h₀) (T : Top p loose mean mg mb h₀) (hd : dp + 30 < recursionLimit) (hu : un + 300 < cLine) {l : Addr} {vs : List Value} {ns : List Int}
    (hl : h₀.IsList l vs.toArray) (hi : IntsAre vs ns) (h63 : ns.length ≤ 63) (F : Fr h₀ L' s.heap (fun y => List.lookup y [(Str.ofString "script", Value.ref l)].reverse)) (N : News h₀ L' s.heap []) :
    wpAny (model prog w) ((Ar dp un gd envs).deeper (lawE L')) (exec law0 (lawE L')) (DrawsP h₀ L' s) E s := by
  rcases hi with _ | ⟨a, ta, hi⟩
  · exact con_draws0 B X T hd hu hl .nil F N
  rcases hi with _ | ⟨b, tb, hi⟩
  · exact con_draws1 B X T hd hu hl (.cons _ _ .nil) F N
  rcases hi with _ | ⟨c, tc, hi⟩
  · exact con_draws2 B X T hd hu hl (.cons _ _ (.cons _ _ .nil)) F N
  rcases hi with _ | ⟨d, td, hi⟩
  · exact con_draws3 B X T hd hu hl (.cons _ _ (.cons _ _ (.cons _ _ .nil))) F N
  · exact con_draws4 B X T hd hu hl (.cons _ _ (.cons _ _ (.cons _ _ (.cons _ _ hi)))) h63 F N

set_option maxHeartbeats 2000000 in
theorem con_law (plain : PlainOK) (G : Gnd (Mine.KF w.params) p loose mean mg mb base envs s.heap) (hd : dp + 40 < recursionLimit) (hu : un + 400 < cLine) {l : Addr} {vs : List Value} {ns : List Int}
    (hl : s.heap.IsList l vs.toArray) (hi : IntsAre vs ns) (h63 : ns.length ≤ 63) (hg : AllBare s.gens)
    (ret : ∀ h' g' tk', s.heap.StaysIn h' → AllBare g' → Q (.bool true) { s with heap := h', gens := g', toks := tk' }) :
    wpAny (model prog w) (Ar dp un gd envs) (call (.ref 198) [.ref l]) Q E s := by
  obtain ⟨B, X, T⟩ := G
  refine wpAny_call ?_
  refine' enter_here (news := []) (binds := [(Str.ofString "script", .ref l)]) B rfl (fun _ _ e => e) (Nat.le_refl _) X T ?k6 ?k7 ?k8 ?k9 ?kB ?kN ?_ ?c1 ?c2 ?c3 ?c4
  case k6 => k_is
  case k7 => k_is
  case k8 => k_room
  case k9 => exact BindsTo.of_eq rfl
  case kB => exact locs rfl
  case kN => exact fun _ h => nomatch h
  case c1 => decide
  case c2 => exact rfl
  case c3 => exact rfl
  case c4 => exact rfl
  intro L' h₁ F' N' _ B' X' T'
  clear B X T
  (try dsimp only)
  k_steps
  refine hold_out ?_
  refine wpAny_mono (con_draws B' X' T' (by omega) (by omega) hl hi h63 (s := { s with heap := h₁, toks := _ }) F' N') (fun fl s' hp => ?_) fun _ _ e => e
  obtain ⟨rfl, D, d0, d1, d2, d3, t0, t1, t2, t3, kd, m1, h1, tk1, rfl, F1, e1, N1, b0, b1, b2, b3⟩ := hp
  clear F' N'
  dsimp only
  k_steps
  refine hold_out ?_
  refine wpAny_mono (con_prime B' X' T' (by omega) (by omega) (s := { s with heap := h1, toks := _ }) F1 e1 N1 b0) (fun fl s' hp => ?_) fun _ _ e => e
  obtain ⟨rfl, pr, tp, m2, h2, tk2, rfl, F2, e2, e3, N2, hpr⟩ := hp
  clear F1 N1 e1
  dsimp only
  k_steps
  refine hold_out ?_
  refine wpAny_mono (con_three B' X' T' (by omega) (by omega) (s := { s with heap := h2, toks := _ }) F2 e2 e3 N2) (fun fl s' hp => ?_) fun _ _ e => e
  obtain ⟨rfl, ta, tb, tc, m3, h3, tk3, rfl, F3, e4, e5, N3, e6, e7, e8⟩ := hp
  clear F2 N2 e2 e3
  dsimp only
  have r1 : 1 ≤ Int.fmod d1 8 + 1 ∧ Int.fmod d1 8 + 1 ≤ 8 := by have q1 := fmod_lo (n := 8) d1 (by omega); have q2 := fmod_hi (n := 8) d1 (by omega); omega
  have r2 : 1 ≤ Int.fmod d2 8 + 1 ∧ Int.fmod d2 8 + 1 ≤ 8 := by have q1 := fmod_lo (n := 8) d2 (by omega); have q2 := fmod_hi (n := 8) d2 (by omega); omega
  have r3 : 1 ≤ Int.fmod d3 8 + 1 ∧ Int.fmod d3 8 + 1 ≤ 8 := by have q1 := fmod_lo (n := 8) d3 (by omega); have q2 := fmod_hi (n := 8) d3 (by omega); omega
  generalize Int.fmod d1 8 + 1 = x1 at *
  generalize Int.fmod d2 8 + 1 = x2 at *
  generalize Int.fmod d3 8 + 1 = x3 at *
  have F4 := fr_kst0 (ps := [(Str.ofString "draws", _), (Str.ofString "prime", _), (Str.ofString "first", _), (Str.ofString "second", _), (Str.ofString "third", _)]) (all_cons e4 (all_cons e5 (all_cons e6 (all_cons e7 (all_cons e8 all_nil))))) F3
  dsimp only [kstB] at F4
  clear F3 e4 e5 e6 e7 e8
  k_steps
  · refine hold_out ?_
    rename Fr _ _ _ _ => F5
    rename News _ _ _ _ => N5
    have N6 := pick_23 N5
    clear N5
    refine con_tail (pr := pr) (tp := tp) plain B' X' T' hd hu ints4 ints3 (plan1 r1 r2) ?g1_1 ?g2_1 ?g3_1 ?g4_1 hpr F5 ?g5_1 ?g6_1 ?g7_1 N6 hg fun h' g' tk' st hb => ?_
    case g1_1 => simp
    case g2_1 => simp
    case g3_1 => simp
    case g4_1 => simp only [List.mem_cons, List.not_mem_nil, or_false]; omega
    case g5_1 => (try dsimp only); repeat (first | rw [if_neg (by decide)] | rw [if_pos rfl])
    case g6_1 => (try dsimp only); repeat (first | rw [if_neg (by decide)] | rw [if_pos rfl])
    case g7_1 => (try dsimp only); repeat (first | rw [if_neg (by decide)] | rw [if_pos rfl])
    exact ret _ _ _ st hb
  · refine hold_out ?_
    rename Fr _ _ _ _ => F5
    rename News _ _ _ _ => N5
    have N6 := pick_23 N5
    clear N5
    refine con_tail (pr := pr) (tp := tp) plain B' X' T' hd hu ints4 ints2 (plan2 r1 r2) ?g1_2 ?g2_2 ?g3_2 ?g4_2 hpr F5 ?g5_2 ?g6_2 ?g7_2 N6 hg fun h' g' tk' st hb => ?_
    case g1_2 => simp
    case g2_2 => simp
    case g3_2 => simp
    case g4_2 => simp only [List.mem_cons, List.not_mem_nil, or_false]; omega
    case g5_2 => (try dsimp only); repeat (first | rw [if_neg (by decide)] | rw [if_pos rfl])
    case g6_2 => (try dsimp only); repeat (first | rw [if_neg (by decide)] | rw [if_pos rfl])
    case g7_2 => (try dsimp only); repeat (first | rw [if_neg (by decide)] | rw [if_pos rfl])
    exact ret _ _ _ st hb
  · refine hold_out ?_
    rename Fr _ _ _ _ => F5
    rename News _ _ _ _ => N5
    have N6 := pick_23 N5
    clear N5
    refine con_tail (pr := pr) (tp := tp) plain B' X' T' hd hu ints3 ints3 (plan0 r1 r2 r3) ?g1_3 ?g2_3 ?g3_3 ?g4_3 hpr F5 ?g5_3 ?g6_3 ?g7_3 N6 hg fun h' g' tk' st hb => ?_
    case g1_3 => simp
    case g2_3 => simp
    case g3_3 => simp
    case g4_3 => simp only [List.mem_cons, List.not_mem_nil, or_false]; omega
    case g5_3 => (try dsimp only); repeat (first | rw [if_neg (by decide)] | rw [if_pos rfl])
    case g6_3 => (try dsimp only); repeat (first | rw [if_neg (by decide)] | rw [if_pos rfl])
    case g7_3 => (try dsimp only); repeat (first | rw [if_neg (by decide)] | rw [if_pos rfl])
    exact ret _ _ _ st hb
end
end Mine
end
section
namespace Mine

-- the counts of a lead, weighed
def wT (f : Nat → Int) (cnt : List Int) : Nat → Int
  | 0 => 0
  | n + 1 => wT f cnt n + f n * cnt.getD n 0
theorem bump_getD (cnt : List Int) (b j : Nat) : (bump cnt b).getD j 0 = cnt.getD j 0 + if j = b then 1 else 0 := by
  unfold bump
  have hc : ∀ i, (if cnt.length ≤ b then cnt ++ List.replicate (b - cnt.length + 1) 0 else cnt).getD i 0 = cnt.getD i 0 := by
    intro i
    split
    · by_cases h : i < cnt.length
      · simp [List.getD_eq_getElem?_getD, List.getElem?_append_left h]
      · simp only [List.getD_eq_getElem?_getD, List.getElem?_append_right (Nat.le_of_not_lt h), List.getElem?_replicate, List.getElem?_eq_none (Nat.le_of_not_lt h)]
        split <;> rfl
    · rfl
  have hl : b < (if cnt.length ≤ b then cnt ++ List.replicate (b - cnt.length + 1) 0 else cnt).length := by
    split
    · simp; omega
    · omega
  dsimp only
  generalize (if cnt.length ≤ b then cnt ++ List.replicate (b - cnt.length + 1) 0 else cnt) = c' at *
  by_cases h : j = b
  · subst h
    have := hc j
    simp only [List.getD_eq_getElem?_getD, List.getElem?_eq_getElem hl, Option.getD_some] at this
    simp [List.getD_eq_getElem?_getD, hl, this]
  · have := hc j
    simp only [List.getD_eq_getElem?_getD] at this ⊢
    rw [List.getElem?_set_ne (Ne.symm h), this, if_neg h]; simp
theorem wT_bump (f : Nat → Int) (cnt : List Int) (b : Nat) : ∀ n, wT f (bump cnt b) n = wT f cnt n + if b < n then f b else 0
  | 0 => by simp [wT]
  | n + 1 => by
    rw [wT, wT, wT_bump f cnt b n, bump_getD]
    by_cases h : n = b
    · subst h
      rw [if_neg (Nat.lt_irrefl _), if_pos rfl, if_pos (Nat.lt_succ_self _), Int.mul_add]; omega
    · rw [if_neg h]
      by_cases h2 : b < n
      · rw [if_pos h2, if_pos (by omega)]; simp only [Int.add_zero]; omega
      · rw [if_neg h2, if_neg (by omega)]; simp only [Int.add_zero]
theorem wT_big (f : Nat → Int) (cnt : List Int) : ∀ k, wT f cnt (cnt.length + k) = wT f cnt cnt.length
  | 0 => rfl
  | k + 1 => by
    rw [← Nat.add_assoc, wT, wT_big f cnt k]
    simp [List.getD_eq_getElem?_getD, List.getElem?_eq_none (Nat.le_add_right cnt.length k)]
def sdF (size : Int) (ks : List Nat) : Int := (ks.map fun k : Nat => Int.fdiv (k : Int) size).sum
theorem wT_small {size : Int} (hs : 1 ≤ size) (cnt : List Int) : ∀ n : Nat, (n : Int) ≤ size → wT (fun j => Int.fdiv (j : Int) size) cnt n = 0
  | 0, _ => rfl
  | n + 1, h => by
    rw [wT, wT_small hs cnt n (by omega)]
    rw [Int.fdiv_eq_ediv_of_nonneg _ (by omega), Int.ediv_eq_zero_of_lt (by omega) (by omega)]; simp
theorem ilF_wT {size : Int} (hs : 1 ≤ size) (cnt : List Int) : ∀ k, ilF size cnt k = wT (fun j => Int.fdiv (j : Int) size) cnt (size.toNat + k)
  | 0 => by rw [ilF, Nat.add_zero, wT_small hs cnt _ (by omega)]
  | k + 1 => by
    rw [ilF, ilF_wT hs cnt k, ← Nat.add_assoc, wT]
    have e : ((size.toNat + k : Nat) : Int) = size + (k : Int) := by omega
    rw [e, show (size + (k : Int)).toNat = size.toNat + k by omega]
theorem ilF_all {size : Int} (hs : 1 ≤ size) (cnt : List Int) (N : Nat) (hN : cnt.length ≤ N) : ilF size cnt ((cnt.length : Int) - size).toNat = wT (fun j => Int.fdiv (j : Int) size) cnt N := by
  rw [ilF_wT hs]
  by_cases h : size ≤ (cnt.length : Int)
  · rw [show size.toNat + ((cnt.length : Int) - size).toNat = cnt.length by omega]
    obtain ⟨k, rfl⟩ : ∃ k, N = cnt.length + k := ⟨N - cnt.length, by omega⟩
    rw [wT_big]
  · rw [show size.toNat + ((cnt.length : Int) - size).toNat = size.toNat by omega, wT_small hs cnt _ (by omega)]
    obtain ⟨k, rfl⟩ : ∃ k, N = cnt.length + k := ⟨N - cnt.length, by omega⟩
    rw [wT_big, wT_small hs cnt _ (by omega)]

theorem steps_blank (k : Nat) : ∀ st : WsS, (List.replicate k 32).foldl wsStep st = { st with n := st.n + k, b := st.b + k } := by
  induction k with
  | zero => intro st; rfl
  | succ k ih =>
    intro st
    rw [List.replicate_succ, List.foldl_cons, ih]
    simp only [wsStep, if_pos]
    congr 1 <;> omega
theorem steps_lead : ∀ (ks : List Nat) (st : WsS), st.b = 0 → ((leadCodes ks).foldl wsStep st).b = 0 ∧ ((leadCodes ks).foldl wsStep st).nt = st.nt + ks.length ∧ ((leadCodes ks).foldl wsStep st).cnt = ks.foldl bump st.cnt
  | [], st, h => ⟨h, rfl, rfl⟩
  | k :: ks, st, h => by
    have e : leadCodes (k :: ks) = List.replicate k 32 ++ ([9] ++ leadCodes ks) := by simp [leadCodes]
    rw [e, List.foldl_append, List.foldl_append, steps_blank]
    have e2 : [9].foldl wsStep { st with n := st.n + k, b := st.b + k } = { n := st.n + k + 1, nt := st.nt + 1, b := 0, cnt := bump st.cnt k } := by
      simp [wsStep, h]
    rw [e2]
    obtain ⟨a, b, c⟩ := steps_lead ks { n := st.n + k + 1, nt := st.nt + 1, b := 0, cnt := bump st.cnt k } rfl
    exact ⟨a, by rw [b]; simp only [List.length_cons]; omega, c⟩
theorem run_lead (ks : List Nat) (t : Nat) : (wsRun (leadCodes ks ++ List.replicate t 32)).b = t ∧ (wsRun (leadCodes ks ++ List.replicate t 32)).nt = ks.length ∧ (wsRun (leadCodes ks ++ List.replicate t 32)).cnt = ks.foldl bump [] := by
  unfold wsRun
  rw [List.foldl_append, steps_blank]
  obtain ⟨a, b, c⟩ := steps_lead ks ⟨0, 0, 0, []⟩ rfl
  refine ⟨?_, ?_, c⟩
  · dsimp only; rw [a]; omega
  · dsimp only; rw [b]; simp
theorem bumps_len (ks : List Nat) : ∀ cnt : List Int, (∀ k ∈ ks, k < 256) → cnt.length ≤ 256 → (ks.foldl bump cnt).length ≤ 256 := by
  induction ks with
  | nil => intro cnt _ h; exact h
  | cons k ks ih =>
    intro cnt h1 h2
    have := h1 k (List.mem_cons_self ..)
    exact ih _ (fun q hq => h1 q (List.mem_cons_of_mem _ hq)) (by rw [bump_length]; omega)
theorem bumps_wT (f : Nat → Int) (ks : List Nat) : ∀ cnt : List Int, (∀ k ∈ ks, k < 256) → wT f (ks.foldl bump cnt) 256 = wT f cnt 256 + (ks.map f).sum := by
  induction ks with
  | nil => intro cnt _; simp
  | cons k ks ih =>
    intro cnt h1
    rw [List.foldl_cons, ih _ (fun q hq => h1 q (List.mem_cons_of_mem _ hq)), wT_bump, if_pos (h1 k (List.mem_cons_self ..)), List.map_cons, List.sum_cons]; omega
theorem wT_nil (f : Nat → Int) : ∀ n, wT f [] n = 0
  | 0 => rfl
  | n + 1 => by rw [wT, wT_nil f n]; simp
theorem lvl_lead {size : Int} (hs : 1 ≤ size) (ks : List Nat) (t : Nat) (hk : ∀ k ∈ ks, k < 256) : lvl (wsRun (leadCodes ks ++ List.replicate t 32)) size = t + size * (sdF size ks + ks.length) := by
  obtain ⟨a, b, c⟩ := run_lead ks t
  unfold lvl
  rw [a, b, ilF_all hs _ 256 (by rw [c]; exact bumps_len ks [] hk (by simp)), c, bumps_wT _ _ _ hk, wT_nil, Int.zero_add]
  rfl

-- the symbols of a row, chosen by the mask
def selT : List Bool → List Nat → List Nat
  | t :: M, d :: D => if t then d :: selT M D else selT M D
  | _, _ => []
def selF : List Bool → List Nat → List Nat
  | t :: M, d :: D => if t then selF M D else d :: selF M D
  | _, _ => []
def zipS (M : List Bool) (D : List Nat) : List Int := List.zipWith (fun (t : Bool) (d : Nat) => (if t then 256 else 0) + (d : Int)) M D
theorem sqs_zip : ∀ (M : List Bool) (D : List Nat), (∀ d ∈ D, d < 256) → sqs (zipS M D) = selT M D ∧ ots (zipS M D) = selF M D
  | [], _, _ => ⟨rfl, rfl⟩
  | _ :: _, [], _ => ⟨rfl, rfl⟩
  | t :: M, d :: D, h => by
    obtain ⟨a, b⟩ := sqs_zip M D fun q hq => h q (List.mem_cons_of_mem _ hq)
    have hd := h d (List.mem_cons_self ..)
    unfold sqs ots zipS at *
    cases t
    · simp only [List.zipWith_cons_cons, List.filter_cons, selT, selF, Bool.false_eq_true, if_false]
      rw [if_neg (by simp; omega), if_pos (by simp; omega), a, List.map_cons, b]
      exact ⟨rfl, by congr 1; omega⟩
    · simp only [List.zipWith_cons_cons, List.filter_cons, selT, selF, if_true]
      rw [if_pos (by simp; omega), if_neg (by simp; omega), b, List.map_cons, a]
      exact ⟨by congr 1; omega, rfl⟩
theorem sel_mem : ∀ (M : List Bool) (D : List Nat) (d : Nat), (d ∈ selT M D ∨ d ∈ selF M D) → d ∈ D
  | [], _, _, h => by rcases h with h | h <;> cases h
  | _ :: _, [], _, h => by rcases h with h | h <;> cases h
  | t :: M, e :: D, d, h => by
    cases t
    · simp only [selT, selF, Bool.false_eq_true, if_false] at h
      rcases h with h | h
      · exact List.mem_cons_of_mem _ (sel_mem M D d (.inl h))
      · rcases List.mem_cons.mp h with rfl | h
        · exact List.mem_cons_self ..
        · exact List.mem_cons_of_mem _ (sel_mem M D d (.inr h))
    · simp only [selT, selF, if_true] at h
      rcases h with h | h
      · rcases List.mem_cons.mp h with rfl | h
        · exact List.mem_cons_self ..
        · exact List.mem_cons_of_mem _ (sel_mem M D d (.inl h))
      · exact List.mem_cons_of_mem _ (sel_mem M D d (.inr h))
theorem sel_len : ∀ (M : List Bool) (D : List Nat), M.length = D.length → (selT M D).length = M.countP (· == true) ∧ (selF M D).length = M.countP (· == false)
  | [], _, _ => ⟨rfl, rfl⟩
  | _ :: _, [], h => by simp at h
  | t :: M, e :: D, h => by
    obtain ⟨a, b⟩ := sel_len M D (by simpa using h)
    cases t <;> simp [selT, selF, a, b]
theorem sel_sum (f : Nat → Int) : ∀ (M : List Bool) (D : List Nat), M.length = D.length → ((selT M D).map f).sum + ((selF M D).map f).sum = (D.map f).sum
  | [], [], _ => rfl
  | [], _ :: _, h => by simp at h
  | _ :: _, [], h => by simp at h
  | t :: M, e :: D, h => by
    have a := sel_sum f M D (by simpa using h)
    cases t <;> simp [selT, selF] <;> omega
end Mine
end
section
namespace Mine

theorem fmod_nat (a n : Nat) : Int.fmod (a : Int) (n : Int) = ((a % n : Nat) : Int) := by
  rw [Int.fmod_eq_emod_of_nonneg _ (by omega)]; rfl
theorem fdiv_nat (a n : Nat) : Int.fdiv (a : Int) (n : Int) = ((a / n : Nat) : Int) := by
  rw [Int.fdiv_eq_ediv_of_nonneg _ (by omega)]; rfl

def digN (p c b : Nat) : List Nat := (List.range (p - 1)).map fun i => (b * ((c * (i + 1)) % p)) / p
noncomputable def dotN (z : Nat) (M : List Bool) : List Nat → Nat :=
  @List.rec Bool (fun _ => List Nat → Nat) (fun _ => 0) (fun t _ ih D => @List.rec Nat (fun _ => Nat) 0 (fun d D' _ => @Bool.rec (fun _ => Nat) (ih D') (Nat.add (Nat.div d z) (ih D')) t) D) M
noncomputable def dotF (z : Nat) (M : List Bool) : List Nat → Nat :=
  @List.rec Bool (fun _ => List Nat → Nat) (fun _ => 0) (fun t _ ih D => @List.rec Nat (fun _ => Nat) 0 (fun d D' _ => @Bool.rec (fun _ => Nat) (Nat.add (Nat.div d z) (ih D')) (ih D') t) D) M
theorem dotN_eq (z : Nat) : ∀ (M : List Bool) (D : List Nat), dotN z M D = ((selT M D).map (· / z)).sum
  | [], [] => rfl
  | [], _ :: _ => rfl
  | _ :: _, [] => rfl
  | t :: M, d :: D => by
    have ih := dotN_eq z M D
    cases t
    · exact ih
    · show Nat.add (Nat.div d z) (dotN z M D) = _
      rw [ih]; rfl
theorem dotF_eq (z : Nat) : ∀ (M : List Bool) (D : List Nat), dotF z M D = ((selF M D).map (· / z)).sum
  | [], [] => rfl
  | [], _ :: _ => rfl
  | _ :: _, [] => rfl
  | t :: M, d :: D => by
    have ih := dotF_eq z M D
    cases t
    · show Nat.add (Nat.div d z) (dotF z M D) = _
      rw [ih]; rfl
    · exact ih
noncomputable def chk (p : Nat) (M : List Bool) (h : Int) (c b : Nat) : Bool :=
  let D := digN p c b
  (List.range b).all fun s => b % (s + 1) != 0 || (((((s + 1) * dotF (s + 1) M D : Nat) : Int) - (((s + 1) * dotN (s + 1) M D : Nat) : Int)) == ((b : Int) - ((s + 1 : Nat) : Int) * signF p ((b / (s + 1) : Nat) : Int)) * signF p c * h)
structure PrOK (p : Nat) (M : List Bool) (h : Int) : Prop where
  p1 : 2 ≤ p
  mks : mkL (p : Int) = M.map fun t => if t then 256 else 0
  len : M.length = p - 1
  ct : M.countP (· == true) = p / 2
  cf : M.countP (· == false) = p / 2
  cl : classF (p : Int) = h
  ok : ((List.range p).all fun c => (List.range 8).all fun b => chk p M h c (b + 1)) = true

theorem rests_are {p : Nat} (hp : 2 ≤ p) (l : List Int) (hb : ∀ q ∈ l, 1 ≤ q ∧ q ≤ 8) : ∃ c, c < p ∧ Int.fmod (roadF l) p = (c : Int) ∧ restL (p : Int) l = (List.range (p - 1)).map fun i => (((c * (i + 1)) % p : Nat) : Int) := by
  rw [← List.reverse_reverse l] at *
  generalize l.reverse = r at *
  induction r with
  | nil =>
    refine ⟨1, by omega, ?_, ?_⟩
    · show Int.fmod ((1 : Nat) : Int) p = _
      rw [fmod_nat, Nat.mod_eq_of_lt (by omega)]
    · show rangeKs 1 ((p : Int) - 1).toNat = _
      unfold rangeKs
      rw [show ((p : Int) - 1).toNat = p - 1 by omega]
      refine List.map_congr_left fun i hi => ?_
      have := List.mem_range.mp hi
      rw [Nat.one_mul, Nat.mod_eq_of_lt (by omega)]; omega
  | cons b r ih =>
    rw [List.reverse_cons] at hb ⊢
    obtain ⟨c, h1, h2, h3⟩ := ih fun q hq => hb q (List.mem_append_left _ hq)
    obtain ⟨b1, b8⟩ := hb b (List.mem_append_right _ (List.mem_singleton.mpr rfl))
    obtain ⟨bn, rfl⟩ : ∃ bn : Nat, b = (bn : Int) := ⟨b.toNat, by omega⟩
    refine ⟨(c * bn) % p, Nat.mod_lt _ (by omega), ?_, ?_⟩
    · rw [roadF_snoc]
      rw [Int.fmod_eq_emod_of_nonneg _ (by omega)] at h2 ⊢
      rw [Int.mul_emod, h2]
      show ((c : Int) * (((bn % p : Nat)) : Int)) % (p : Int) = _
      have : c * (bn % p) % p = c * bn % p := by rw [Nat.mul_mod, Nat.mod_mod, ← Nat.mul_mod]
      rw [← this]; rfl
    · rw [restL_snoc, h3]
      unfold nextL prodL
      rw [List.map_map, List.map_map]
      refine List.map_congr_left fun i _ => ?_
      show Int.fmod ((bn : Int) * (((c * (i + 1)) % p : Nat) : Int)) p = _
      rw [show (bn : Int) * (((c * (i + 1)) % p : Nat) : Int) = ((bn * ((c * (i + 1)) % p) : Nat) : Int) by rw [Int.natCast_mul], fmod_nat]
      congr 1
      rw [Nat.mul_mod, Nat.mod_mod, ← Nat.mul_mod, Nat.mul_mod (c * bn % p), Nat.mod_mod, ← Nat.mul_mod]
      congr 1
      rw [← Nat.mul_assoc, Nat.mul_comm bn c]
theorem signF_mod {p : Nat} {n : Int} {c : Nat} (hc : c < p) (h : Int.fmod n p = (c : Int)) : signF p n = signF p (c : Int) := by
  unfold signF
  rw [h, fmod_nat, Nat.mod_eq_of_lt hc]
theorem sdF_nat (z : Nat) (ks : List Nat) : sdF (z : Int) ks = (((ks.map (· / z)).sum : Nat) : Int) := by
  unfold sdF
  induction ks with
  | nil => rfl
  | cons k ks ih => rw [List.map_cons, List.sum_cons, ih, List.map_cons, List.sum_cons, fdiv_nat]; omega

theorem countBool : ∀ M : List Bool, M.countP (· == true) + M.countP (· == false) = M.length
  | [] => rfl
  | t :: M => by
    have := countBool M
    rw [List.countP_cons, List.countP_cons, List.length_cons]
    cases t
    · rw [if_neg (by decide), if_pos (by decide)]; omega
    · rw [if_pos (by decide), if_neg (by decide)]; omega

theorem turn_ok {p : Nat} {M : List Bool} {h : Int} (P : PrOK p M h) {rd : Int} {c b : Nat} (hc : c < p) (hrd : Int.fmod rd p = (c : Int)) (b1 : 1 ≤ b) (b8 : b ≤ 8) :
    TurnOK p rd b ((List.range (p - 1)).map fun i => (((c * (i + 1)) % p : Nat) : Int)) := by
  have hp := P.p1
  have hprod : prodL (b : Int) ((List.range (p - 1)).map fun i => (((c * (i + 1)) % p : Nat) : Int)) = (List.range (p - 1)).map fun i => ((b * ((c * (i + 1)) % p) : Nat) : Int) := by
    unfold prodL
    rw [List.map_map]
    refine List.map_congr_left fun i _ => ?_
    show (b : Int) * _ = _
    rw [Int.natCast_mul]
  have hsym : symF p (prodL (b : Int) ((List.range (p - 1)).map fun i => (((c * (i + 1)) % p : Nat) : Int))) = zipS M (digN p c b) := by
    rw [hprod]
    unfold symF zipS digN
    rw [P.mks, List.zipWith_map, List.zipWith_map_right]
    congr 1
    funext t i
    rw [fdiv_nat]
  have hd8 : ∀ d ∈ digN p c b, d < 8 := by
    intro d hd
    obtain ⟨i, _, rfl⟩ := List.mem_map.mp hd
    have : (c * (i + 1)) % p < p := Nat.mod_lt _ (by omega)
    refine Nat.div_lt_of_lt_mul ?_
    have h2 : b * ((c * (i + 1)) % p) < b * p := Nat.mul_lt_mul_of_pos_left this (by omega)
    have h3 : b * p ≤ 8 * p := Nat.mul_le_mul_right _ b8
    rw [Nat.mul_comm p 8]; omega
  obtain ⟨ea, eb⟩ := sqs_zip M (digN p c b) fun d hd => by have := hd8 d hd; omega
  have hlen : M.length = (digN p c b).length := by rw [P.len]; simp [digN]
  obtain ⟨la, lb⟩ := sel_len M (digN p c b) hlen
  rw [P.ct] at la
  rw [P.cf] at lb
  have ka : ∀ k ∈ selT M (digN p c b), k < 256 := fun k hk => by have := hd8 k (sel_mem M _ k (.inl hk)); omega
  have kb : ∀ k ∈ selF M (digN p c b), k < 256 := fun k hk => by have := hd8 k (sel_mem M _ k (.inr hk)); omega
  have hhalf : (((p / 2 : Nat)) : Int) = Int.fdiv (p : Int) 2 := (fdiv_nat p 2).symm
  unfold TurnOK stSq stOt
  rw [hsym, ea, eb]
  obtain ⟨_, a2, a3⟩ := run_lead (selT M (digN p c b)) (b : Int).toNat
  obtain ⟨_, o2, o3⟩ := run_lead (selF M (digN p c b)) (b : Int).toNat
  refine ⟨by rw [a2, la, hhalf], by rw [o2, lb, hhalf], ?_, ?_, ?_⟩
  · rw [a3]; exact Nat.le_trans (bumps_len _ [] ka (by simp)) (by omega)
  · rw [o3]; exact Nat.le_trans (bumps_len _ [] kb (by simp)) (by omega)
  intro size s1 s2 s3
  obtain ⟨z, rfl⟩ : ∃ z : Nat, size = (z : Int) := ⟨size.toNat, by omega⟩
  have z1 : 1 ≤ z := by omega
  have z2 : z ≤ b := by omega
  have z3 : b % z = 0 := by rw [fmod_nat] at s3; omega
  rw [lvl_lead (by omega) _ _ ka, lvl_lead (by omega) _ _ kb, sdF_nat, sdF_nat, la, lb]
  have hok := P.ok
  rw [List.all_eq_true] at hok
  have hok2 := hok c (List.mem_range.mpr hc)
  rw [List.all_eq_true] at hok2
  have hok3 := hok2 (b - 1) (List.mem_range.mpr (by omega))
  rw [Nat.sub_add_cancel b1] at hok3
  unfold chk at hok3
  dsimp only at hok3
  rw [List.all_eq_true] at hok3
  have hok4 := hok3 (z - 1) (List.mem_range.mpr (by omega))
  rw [Nat.sub_add_cancel z1, z3, dotF_eq, dotN_eq] at hok4
  have hok5 : ((z * ((selF M (digN p c b)).map (· / z)).sum : Nat) : Int) - ((z * ((selT M (digN p c b)).map (· / z)).sum : Nat) : Int) = ((b : Int) - (z : Int) * signF p ((b / z : Nat) : Int)) * signF p c * h := by
    simpa using hok4
  rw [Int.natCast_mul, Int.natCast_mul] at hok5
  have hS := sel_sum (fun k : Nat => ((k / z : Nat) : Int)) M (digN p c b) hlen
  have cast : ∀ ks : List Nat, (ks.map fun k : Nat => ((k / z : Nat) : Int)).sum = (((ks.map (· / z)).sum : Nat) : Int) := by
    intro ks
    induction ks with
    | nil => rfl
    | cons k ks ih => rw [List.map_cons, List.sum_cons, ih, List.map_cons, List.sum_cons]; omega
  rw [cast, cast] at hS
  generalize ((selF M (digN p c b)).map (· / z)).sum = B at *
  generalize ((selT M (digN p c b)).map (· / z)).sum = A at *
  constructor
  · unfold duF
    rw [fdiv_nat, signF_mod hc hrd, P.cl, ← hok5, Int.mul_add, Int.mul_add]
    omega
  · unfold boF
    rw [hprod, List.map_map]
    have hq : (List.range (p - 1)).map ((fun q => Int.fdiv q ((z : Int) * p)) ∘ fun i => ((b * ((c * (i + 1)) % p) : Nat) : Int)) = (digN p c b).map fun k : Nat => ((k / z : Nat) : Int) := by
      unfold digN
      rw [List.map_map]
      refine List.map_congr_left fun i _ => ?_
      show Int.fdiv ((b * ((c * (i + 1)) % p) : Nat) : Int) ((z : Int) * p) = (((b * ((c * (i + 1)) % p)) / p / z : Nat) : Int)
      rw [← Int.natCast_mul, fdiv_nat, Nat.div_div_eq_div_mul, Nat.mul_comm p z]
    rw [hq, ← hS, show (p : Int) - 1 = ((p / 2 : Nat) : Int) + ((p / 2 : Nat) : Int) by have e1 := P.len; have e2 := P.ct; have e3 := P.cf; have e4 := countBool M; omega]
    simp only [Int.mul_add]
    omega
end Mine
end
section
set_option maxRecDepth 100000
namespace Mine
def mk7 : List Bool := [true, true, false, true, false, false]
theorem pr7 : PrOK 7 mk7 1 := ⟨by decide, by decide +kernel, by decide +kernel, by decide +kernel, by decide +kernel, by decide +kernel, by decide +kernel⟩
def mk11 : List Bool := [true, false, true, true, true, false, false, false, true, false]
theorem pr11 : PrOK 11 mk11 1 := ⟨by decide, by decide +kernel, by decide +kernel, by decide +kernel, by decide +kernel, by decide +kernel, by decide +kernel⟩
def mk19 : List Bool := [true, false, false, true, true, true, true, false, true, false, true, false, false, false, false, true, true, false]
theorem pr19 : PrOK 19 mk19 1 := ⟨by decide, by decide +kernel, by decide +kernel, by decide +kernel, by decide +kernel, by decide +kernel, by decide +kernel⟩
def mk23 : List Bool := [true, true, true, true, false, true, false, true, true, false, false, true, true, false, false, true, false, true, false, false, false, false]
theorem pr23 : PrOK 23 mk23 3 := ⟨by decide, by decide +kernel, by decide +kernel, by decide +kernel, by decide +kernel, by decide +kernel, by decide +kernel⟩
def mk31 : List Bool := [true, true, false, true, true, false, true, true, true, true, false, false, false, true, false, true, false, true, true, true, false, false, false, false, true, false, false, true, false, false]
theorem pr31 : PrOK 31 mk31 3 := ⟨by decide, by decide +kernel, by decide +kernel, by decide +kernel, by decide +kernel, by decide +kernel, by decide +kernel⟩
def mk43 : List Bool := [true, false, false, true, false, true, false, false, true, true, true, false, true, true, true, true, true, false, false, false, true, false, true, true, true, false, false, false, false, false, true, false, false, false, true, true, false, true, false, true, true, false]
theorem pr43 : PrOK 43 mk43 1 := ⟨by decide, by decide +kernel, by decide +kernel, by decide +kernel, by decide +kernel, by decide +kernel, by decide +kernel⟩
def mk47 : List Bool := [true, true, true, true, false, true, true, true, true, false, false, true, false, true, false, true, true, true, false, false, true, false, false, true, true, false, true, true, false, false, false, true, false, true, false, true, true, false, false, false, false, true, false, false, false, false]
theorem pr47 : PrOK 47 mk47 5 := ⟨by decide, by decide +kernel, by decide +kernel, by decide +kernel, by decide +kernel, by decide +kernel, by decide +kernel⟩
theorem plain_of {p : Nat} {M : List Bool} {h : Int} (P : PrOK p M h) (h0 : 0 ≤ h) (h9 : h ≤ 100) : (0 ≤ classF (p : Int) ∧ classF (p : Int) ≤ 100) ∧ ∀ bs : List Int, bs.length ≤ 3 → (∀ b ∈ bs, 1 ≤ b ∧ b ≤ 8) → ∀ (i : Nat) (b : Int), bs[i]? = some b → TurnOK (p : Int) (roadF (bs.take i)) b (restL (p : Int) (bs.take i)) := by
  refine ⟨by rw [P.cl]; exact ⟨h0, h9⟩, fun bs _ hb i b hi => ?_⟩
  obtain ⟨c, hc, hrd, hR⟩ := rests_are P.p1 (bs.take i) fun q hq => hb q (List.mem_of_mem_take hq)
  obtain ⟨b1, b8⟩ := hb b (List.mem_of_getElem? hi)
  obtain ⟨bn, rfl⟩ : ∃ bn : Nat, b = (bn : Int) := ⟨b.toNat, by omega⟩
  rw [hR]
  exact turn_ok P hc hrd (by omega) (by omega)
theorem plain_ok : PlainOK := by
  intro pr hpr
  simp only [List.mem_cons, List.not_mem_nil, or_false] at hpr
  rcases hpr with rfl | rfl | rfl | rfl | rfl | rfl | rfl
  · exact plain_of pr7 (by decide) (by decide)
  · exact plain_of pr11 (by decide) (by decide)
  · exact plain_of pr19 (by decide) (by decide)
  · exact plain_of pr23 (by decide) (by decide)
  · exact plain_of pr31 (by decide) (by decide)
  · exact plain_of pr43 (by decide) (by decide)
  · exact plain_of pr47 (by decide) (by decide)
end Mine
end
section
set_option maxRecDepth 100000
namespace Mine
open PySem.Calls PySem.Spec
end Mine
set_option maxHeartbeats 4000000 in
theorem PySem.Challenge.cw_ti0050_01_holds : PySem.Challenge.rw_ti0050_01.Holds := by
  refine Mine.hd rfl rfl rfl ?_
  intro w s₀ s₁ mg mb G Y fa o pm cd doc dV kV ho hd hcd hD hmg hg args vals as hpre hlay hrd hwl hlo
  refine Ground.open G ?_
  intro T B D TE TW
  have KX : (Mine.KF w.params).In s₁.heap := Y
  have hfa := mg_of (n := Str.ofString "law") KX T.g (by k_is)
  have hfa2 : mg (Str.ofString "law") = some (.ref fa) := hmg
  rw [hfa] at hfa2
  cases hfa2
  have K0 := below_caller (Top.heap T)
  clear TE TW D B hcd hD hmg hfa ho hd
  wrow_args hpre hlay hrd hwl hlo
  rename Heap.IsList _ _ _ => hl
  rename IntsAre _ _ => hi
  rename ¬ _ < _ => h63
  show wpAny _ (Mine.Ar (1 + claimMargin) 4 (some []) []) (call (.ref 198) _) _ _ _
  refine Mine.con_law Mine.plain_ok ⟨⟨rfl, K0.stays, K0.frames⟩, KX, T⟩ (by decide +kernel) (by decide +kernel) hl hi (by omega) (by rw [hg]; exact .empty) ?_
  intro h' g' tk' stay hb
  exact ⟨.inl ⟨_, .bool true, [], rfl, fun _ => rfl, .bool true, (by first | kernel_rfl! | decide | (with_unfolding_all rfl) | trace_state), unshared_nil⟩, .of_keep stay, rfl, hb⟩
end
