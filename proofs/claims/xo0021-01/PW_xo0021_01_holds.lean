import PyProof.Rows.All
import Wide.All
import OpenK.AllK
import Wide.FinOn
import KE.KCallOwn
import KE.KSuper
import Lean
import PySem.Challenge.RW_xo0021_01
open PySem PySem.W PyProof.Rows PySem.Spec PySem.Calls
set_option Elab.async false
set_option maxRecDepth 100000
set_option linter.unusedVariables false
namespace Mine
noncomputable def noSt : Stmt := .Pass ⟨0, 0, 0, 0⟩
noncomputable def stAt (i : Nat) : Stmt := (PySem.Challenge.pw_xo0021_01.main.body[i]?).getD noSt
noncomputable def clsBody : Stmt → List Stmt
  | .ClassDef _ _ _ b _ _ _ _ _ _ _ => b
  | _ => []
noncomputable def inAt (i j : Nat) : Stmt := ((clsBody (stAt i))[j]?).getD noSt
noncomputable def argsD : Stmt → Arguments
  | .FunctionDef _ a _ _ _ _ _ _ _ _ => a
  | _ => ⟨[], [], none, [], [], none, []⟩
noncomputable def bodyD : Stmt → List Stmt
  | .FunctionDef _ _ b _ _ _ _ _ _ _ => b
  | _ => []
noncomputable def scopeD : Stmt → Scope
  | .FunctionDef _ _ _ _ _ _ s _ _ _ => s
  | _ => { kind := .function, names := [], isGenerator := false, isCoroutine := false, more := [] }
noncomputable def fnObj (name qual : Str) (D : Stmt) (cl : List (Str × Addr)) (dV pm : Value) (cd : Addr) (ct : Value) : Obj :=
  ⟨.type "function", none, .func (fnX name qual (argsD D) (bodyD D) (scopeD D) cl dV .none .none pm none (.ref cd) ct), #[]⟩
noncomputable def ent (P : Params) (x : Str) (t : Tok) (v : Value) : DictEntry := ⟨PyData.keyHash P x, .str x t, v⟩
noncomputable def kNs0 (P : Params) : List DictEntry := [ent P "__name__" 165 (.str "law_xo0021_01" 501), ent P "__doc__" 166 (.none), ent P "__package__" 167 (.none), ent P "__loader__" 168 (.builtin "__main__.__loader__#opaque"), ent P "__spec__" 169 (.none), ent P "__annotations__" 170 (.ref 6), ent P "__builtins__" 171 (.ref 4), ent P "__file__" 173 (.str "/claim/cut.py" 172), ent P "__cached__" 174 (.none), ent P "_wall" 193 (.ref 21), ent P "EMPTYSTRING" 197 (.str "" 196), ent P "_Accumulator" 291 (.ref 99), ent P "LPAR" 293 (.int 7 292), ent P "RPAR" 295 (.int 8 294), ent P "LSQB" 297 (.int 9 296), ent P "RSQB" 299 (.int 10 298), ent P "COLON" 301 (.int 11 300), ent P "COMMA" 303 (.int 12 302), ent P "SEMI" 305 (.int 13 304), ent P "PLUS" 307 (.int 14 306), ent P "MINUS" 309 (.int 15 308), ent P "STAR" 311 (.int 16 310), ent P "SLASH" 313 (.int 17 312), ent P "VBAR" 315 (.int 18 314)]
noncomputable def kNs1 (P : Params) : List DictEntry := [ent P "AMPER" 317 (.int 19 316), ent P "LESS" 319 (.int 20 318), ent P "GREATER" 321 (.int 21 320), ent P "EQUAL" 323 (.int 22 322), ent P "DOT" 325 (.int 23 324), ent P "PERCENT" 327 (.int 24 326), ent P "LBRACE" 329 (.int 25 328), ent P "RBRACE" 331 (.int 26 330), ent P "EQEQUAL" 333 (.int 27 332), ent P "NOTEQUAL" 335 (.int 28 334), ent P "LESSEQUAL" 337 (.int 29 336), ent P "GREATEREQUAL" 339 (.int 30 338), ent P "TILDE" 341 (.int 31 340), ent P "CIRCUMFLEX" 343 (.int 32 342), ent P "LEFTSHIFT" 345 (.int 33 344), ent P "RIGHTSHIFT" 347 (.int 34 346), ent P "DOUBLESTAR" 349 (.int 35 348), ent P "PLUSEQUAL" 351 (.int 36 350), ent P "MINEQUAL" 353 (.int 37 352), ent P "STAREQUAL" 355 (.int 38 354), ent P "SLASHEQUAL" 357 (.int 39 356), ent P "PERCENTEQUAL" 359 (.int 40 358), ent P "AMPEREQUAL" 361 (.int 41 360), ent P "VBAREQUAL" 363 (.int 42 362)]
noncomputable def kNs2 (P : Params) : List DictEntry := [ent P "CIRCUMFLEXEQUAL" 365 (.int 43 364), ent P "LEFTSHIFTEQUAL" 367 (.int 44 366), ent P "RIGHTSHIFTEQUAL" 369 (.int 45 368), ent P "DOUBLESTAREQUAL" 371 (.int 46 370), ent P "DOUBLESLASH" 373 (.int 47 372), ent P "DOUBLESLASHEQUAL" 375 (.int 48 374), ent P "AT" 377 (.int 49 376), ent P "ATEQUAL" 379 (.int 50 378), ent P "RARROW" 381 (.int 51 380), ent P "ELLIPSIS" 383 (.int 52 382), ent P "COLONEQUAL" 385 (.int 53 384), ent P "EXCLAMATION" 387 (.int 54 386), ent P "EXACT_TOKEN_TYPES" 484 (.ref 104), ent P "_raise_serialization_error" 493 (.ref 113), ent P "_escape_cdata_c14n" 500 (.ref 120), ent P "_law_draw" 517 (.ref 127), ent P "_law_numbers" 527 (.ref 134), ent P "_law_figures" 539 (.ref 141), ent P "_law_answer" 545 (.ref 146), ent P "_law_taken" 551 (.ref 151), ent P "_law_lay" 565 (.ref 158), ent P "law" 571 (.ref 163)]
noncomputable def kNs (P : Params) : Obj := ⟨.type "dict", none, .dict (kNs0 P ++ kNs1 P ++ kNs2 P).toArray 70, #[]⟩
noncomputable def kAcc0 (P : Params) : List DictEntry := [ent P "__module__" 205 (.str "cpy313.email.header" 194), ent P "__firstlineno__" 209 (.int 6 208), ent P "__init__" 219 (.ref 38), ent P "push" 228 (.ref 45), ent P "pop_from" 238 (.ref 53), ent P "pop" 245 (.ref 60), ent P "__len__" 252 (.ref 67), ent P "__str__" 259 (.ref 74), ent P "reset" 267 (.ref 82), ent P "is_onlyws" 274 (.ref 89), ent P "part_count" 281 (.ref 96), ent P "__static_attributes__" 283 (.ref 97), ent P "__dict__" 286 (.ref 100), ent P "__weakref__" 288 (.ref 101), ent P "__doc__" 289 (.none)]
noncomputable def kAcc (P : Params) : Obj := ⟨.type "dict", none, .dict (kAcc0 P).toArray 5, #[]⟩
noncomputable def kTok0 (P : Params) : List DictEntry := [ent P "!" 388 (.int 54 386), ent P "!=" 390 (.int 28 334), ent P "%" 392 (.int 24 326), ent P "%=" 394 (.int 40 358), ent P "&" 396 (.int 19 316), ent P "&=" 398 (.int 41 360), ent P "(" 400 (.int 7 292), ent P ")" 402 (.int 8 294), ent P "*" 404 (.int 16 310), ent P "**" 406 (.int 35 348), ent P "**=" 408 (.int 46 370), ent P "*=" 410 (.int 38 354), ent P "+" 412 (.int 14 306), ent P "+=" 414 (.int 36 350), ent P "," 416 (.int 12 302), ent P "-" 418 (.int 15 308), ent P "-=" 420 (.int 37 352), ent P "->" 422 (.int 51 380), ent P "." 424 (.int 23 324), ent P "..." 426 (.int 52 382), ent P "/" 428 (.int 17 312), ent P "//" 430 (.int 47 372), ent P "//=" 432 (.int 48 374), ent P "/=" 434 (.int 39 356)]
noncomputable def kTok1 (P : Params) : List DictEntry := [ent P ":" 436 (.int 11 300), ent P ":=" 438 (.int 53 384), ent P ";" 440 (.int 13 304), ent P "<" 442 (.int 20 318), ent P "<<" 444 (.int 33 344), ent P "<<=" 446 (.int 44 366), ent P "<=" 448 (.int 29 336), ent P "=" 450 (.int 22 322), ent P "==" 452 (.int 27 332), ent P ">" 454 (.int 21 320), ent P ">=" 456 (.int 30 338), ent P ">>" 457 (.int 34 346), ent P ">>=" 458 (.int 45 368), ent P "@" 459 (.int 49 376), ent P "@=" 460 (.int 50 378), ent P "[" 461 (.int 9 296), ent P "]" 462 (.int 10 298), ent P "^" 463 (.int 32 342), ent P "^=" 464 (.int 43 364), ent P "{" 465 (.int 25 328), ent P "|" 466 (.int 18 314), ent P "|=" 467 (.int 42 362), ent P "}" 468 (.int 26 330), ent P "~" 469 (.int 31 340)]
noncomputable def kTok (P : Params) : Obj := ⟨.type "dict", none, .dict (kTok0 P ++ kTok1 P).toArray 48, #[]⟩
noncomputable def kBits : List (Nat × Obj) := [(2, { cls := .none, data := .dict #[] }),
  (25, { cls := .type "cell", data := .cell (some (.ref 99)) }),
  (30, { cls := .type "tuple", data := .seq #[.int 0 210] }),
  (46, { cls := .type "tuple", data := .seq #[.int 0 229] })]
noncomputable def kCls : Obj := { cls := .type "type", data := .cls { name := "_Accumulator", bases := [.type "list"], mro := [.ref 99, .type "list", .type "object"], ns := 98, qualname := "_Accumulator" }, slots := #[some (.ref 22), none, some (.str "_Accumulator" 198), some (.str "_Accumulator" 206), some (.builtin "list.__new__"), some (.bool true)] }
noncomputable def kMeth : List (Nat × Obj) := [(38, fnObj "__init__" "_Accumulator.__init__" (inAt 3 0) [("__class__", 25)] (.ref 30) (.str "cpy313.email.header" 194) 37 (.ref 31)),
  (45, fnObj "push" "_Accumulator.push" (inAt 3 1) [] (.none) (.str "cpy313.email.header" 194) 44 .none),
  (53, fnObj "pop_from" "_Accumulator.pop_from" (inAt 3 2) [] (.ref 46) (.str "cpy313.email.header" 194) 52 .none),
  (67, fnObj "__len__" "_Accumulator.__len__" (inAt 3 4) [] (.none) (.str "cpy313.email.header" 194) 66 .none),
  (74, fnObj "__str__" "_Accumulator.__str__" (inAt 3 5) [] (.none) (.str "cpy313.email.header" 194) 73 .none),
  (89, fnObj "is_onlyws" "_Accumulator.is_onlyws" (inAt 3 7) [] (.none) (.str "cpy313.email.header" 194) 88 .none)]
noncomputable def kMethC : List (Nat × Obj) := [(37, ⟨.type "code", none, .fields #[.str "__init__" 211, .str "_Accumulator.__init__" 212, .str "/claim/cut.py" 213, .int 8 0, .int 2 0, .int 0 0, .int 0 0, .int 3 0, .ref 32, .bool true, .int 181 0, .ref 33, .none, .ref 34, .ref 35, .ref 36, .int 217 0, .int 8 0, .str "/claim/cut.py" 218], #[]⟩),
  (44, ⟨.type "code", none, .fields #[.str "push" 220, .str "_Accumulator.push" 221, .str "/claim/cut.py" 222, .int 12 0, .int 3 0, .int 0 0, .int 0 0, .int 3 0, .ref 39, .bool true, .int 181 0, .ref 40, .none, .ref 41, .ref 42, .ref 43, .int 226 0, .int 12 0, .str "/claim/cut.py" 227], #[]⟩),
  (52, ⟨.type "code", none, .fields #[.str "pop_from" 230, .str "_Accumulator.pop_from" 231, .str "/claim/cut.py" 232, .int 15 0, .int 2 0, .int 0 0, .int 0 0, .int 3 0, .ref 47, .bool true, .int 181 0, .ref 48, .none, .ref 49, .ref 50, .ref 51, .int 236 0, .int 15 0, .str "/claim/cut.py" 237], #[]⟩),
  (66, ⟨.type "code", none, .fields #[.str "__len__" 246, .str "_Accumulator.__len__" 247, .str "/claim/cut.py" 248, .int 23 0, .int 1 0, .int 0 0, .int 0 0, .int 3 0, .ref 61, .bool true, .int 181 0, .ref 62, .none, .ref 63, .ref 64, .ref 65, .int 250 0, .int 23 0, .str "/claim/cut.py" 251], #[]⟩),
  (73, ⟨.type "code", none, .fields #[.str "__str__" 253, .str "_Accumulator.__str__" 254, .str "/claim/cut.py" 255, .int 26 0, .int 1 0, .int 0 0, .int 0 0, .int 3 0, .ref 68, .bool true, .int 181 0, .ref 69, .none, .ref 70, .ref 71, .ref 72, .int 257 0, .int 26 0, .str "/claim/cut.py" 258], #[]⟩),
  (88, ⟨.type "code", none, .fields #[.str "is_onlyws" 268, .str "_Accumulator.is_onlyws" 269, .str "/claim/cut.py" 270, .int 32 0, .int 1 0, .int 0 0, .int 0 0, .int 3 0, .ref 83, .bool true, .int 181 0, .ref 84, .none, .ref 85, .ref 86, .ref 87, .int 272 0, .int 32 0, .str "/claim/cut.py" 273], #[]⟩)]
noncomputable def kLaw : List (Nat × Obj) := [(120, fnObj "_escape_cdata_c14n" "_escape_cdata_c14n" (stAt 55) [] (.none) (.str "cpy313.xml.etree.ElementTree" 485) 119 .none),
  (127, fnObj "_law_draw" "_law_draw" (stAt 57) [] (.none) (.str "law_xo0021_01" 501) 126 .none),
  (134, fnObj "_law_numbers" "_law_numbers" (stAt 58) [] (.none) (.str "law_xo0021_01" 501) 133 .none),
  (141, fnObj "_law_figures" "_law_figures" (stAt 59) [] (.none) (.str "law_xo0021_01" 501) 140 .none),
  (146, fnObj "_law_answer" "_law_answer" (stAt 60) [] (.none) (.str "law_xo0021_01" 501) 145 .none),
  (151, fnObj "_law_taken" "_law_taken" (stAt 61) [] (.none) (.str "law_xo0021_01" 501) 150 .none),
  (158, fnObj "_law_lay" "_law_lay" (stAt 62) [] (.none) (.str "law_xo0021_01" 501) 157 .none),
  (163, fnObj "law" "law" (stAt 63) [] (.none) (.str "law_xo0021_01" 501) 162 .none)]
noncomputable def kLawC : List (Nat × Obj) := [(119, ⟨.type "code", none, .fields #[.str "_escape_cdata_c14n" 494, .str "_escape_cdata_c14n" 495, .str "/claim/cut.py" 496, .int 89 0, .int 1 0, .int 0 0, .int 0 0, .int 3 0, .ref 114, .bool true, .int 181 0, .ref 115, .none, .ref 116, .ref 117, .ref 118, .int 498 0, .int 89 0, .str "/claim/cut.py" 499], #[]⟩),
  (126, ⟨.type "code", none, .fields #[.str "_law_draw" 503, .str "_law_draw" 504, .str "/claim/cut.py" 505, .int 103 0, .int 1 0, .int 0 0, .int 0 0, .int 3 0, .ref 121, .bool true, .int 181 0, .ref 122, .none, .ref 123, .ref 124, .ref 125, .int 515 0, .int 103 0, .str "/claim/cut.py" 516], #[]⟩),
  (133, ⟨.type "code", none, .fields #[.str "_law_numbers" 518, .str "_law_numbers" 519, .str "/claim/cut.py" 520, .int 116 0, .int 1 0, .int 0 0, .int 0 0, .int 3 0, .ref 128, .bool true, .int 181 0, .ref 129, .none, .ref 130, .ref 131, .ref 132, .int 525 0, .int 116 0, .str "/claim/cut.py" 526], #[]⟩),
  (140, ⟨.type "code", none, .fields #[.str "_law_figures" 528, .str "_law_figures" 529, .str "/claim/cut.py" 530, .int 126 0, .int 2 0, .int 0 0, .int 0 0, .int 3 0, .ref 135, .bool true, .int 181 0, .ref 136, .none, .ref 137, .ref 138, .ref 139, .int 537 0, .int 126 0, .str "/claim/cut.py" 538], #[]⟩),
  (145, ⟨.type "code", none, .fields #[.str "_law_answer" 540, .str "_law_answer" 541, .str "/claim/cut.py" 542, .int 136 0, .int 4 0, .int 0 0, .int 0 0, .int 3 0, .ref 142, .bool true, .int 181 0, .ref 143, .none, .none, .none, .ref 144, .int 543 0, .int 136 0, .str "/claim/cut.py" 544], #[]⟩),
  (150, ⟨.type "code", none, .fields #[.str "_law_taken" 546, .str "_law_taken" 547, .str "/claim/cut.py" 548, .int 148 0, .int 3 0, .int 0 0, .int 0 0, .int 3 0, .ref 147, .bool true, .int 181 0, .ref 148, .none, .none, .none, .ref 149, .int 549 0, .int 148 0, .str "/claim/cut.py" 550], #[]⟩),
  (157, ⟨.type "code", none, .fields #[.str "_law_lay" 552, .str "_law_lay" 553, .str "/claim/cut.py" 554, .int 156 0, .int 4 0, .int 0 0, .int 0 0, .int 3 0, .ref 152, .bool true, .int 181 0, .ref 153, .none, .ref 154, .ref 155, .ref 156, .int 563 0, .int 156 0, .str "/claim/cut.py" 564], #[]⟩),
  (162, ⟨.type "code", none, .fields #[.str "law" 566, .str "law" 567, .str "/claim/cut.py" 568, .int 163 0, .int 1 0, .int 0 0, .int 0 0, .int 3 0, .ref 159, .bool true, .int 181 0, .ref 160, .none, .none, .none, .ref 161, .int 569 0, .int 163 0, .str "/claim/cut.py" 570], #[]⟩)]
noncomputable def kHeap (P : Params) : Frag := (3, kNs P) :: (98, kAcc P) :: (99, kCls) :: (104, kTok P) :: (kBits ++ kMeth ++ kMethC ++ kLaw ++ kLawC)
noncomputable def kTabs : Frag := [(62, ⟨.none, none, .fields #[], #[]⟩), (69, ⟨.none, none, .fields #[], #[]⟩)]
noncomputable def kHead (P : Params) : Frag := kTabs ++ kHeap P
noncomputable def kAddrs : List Nat := [62, 69, 3, 98, 99, 104, 2, 25, 30, 46, 38, 45, 53, 67, 74, 89, 37, 44, 52, 66, 73, 88, 120, 127, 134, 141, 146, 151, 158, 163, 119, 126, 133, 140, 145, 150, 157, 162]
end Mine
namespace Mine
noncomputable def pP : Program := PySem.Challenge.pw_xo0021_01
noncomputable def pL : List Str := pP.boundNames.filter (· != "law")
noncomputable def pQ : Program := view pP [63]
noncomputable def pR : RowW := OpenRow.toRowW (OpenLaw.row PySem.Challenge.rw_xo0021_01)
theorem pDK_ok : (defOf pQ "law").isSome = true := by kernel_rfl
noncomputable def pDK : DefRec × List (Str × Expr) := (defOf pQ "law").get pDK_ok
noncomputable def pH : Hook := kHook kHead kAddrs (fun _ => by kernel_rfl)
noncomputable def pX (s : Shared) : Bool := xlAt pQ [] s && recOk (RowW.records pR) s
noncomputable def pEnd (w : World) : Prop := (openEnds treeTable pR.prog w 5000).map (fun s => (openSeen pQ pL (importedModules pR.prog.main.body) pX true s, pH.obs s)) = some (openGood pQ pL, pH.val w)
end Mine
namespace Mine
noncomputable def stPRE3 (P : Params) : Obj := { cls := Value.type "dict", data := Data.dict #[ent P "__name__" 165 (Value.str "__main__" 164), ent P "__doc__" 166 (Value.none), ent P "__package__" 167 (Value.none), ent P "__loader__" 168 (Value.builtin "__main__.__loader__#opaque"), ent P "__spec__" 169 (Value.none), ent P "__annotations__" 170 (Value.ref 6), ent P "__builtins__" 171 (Value.ref 4), ent P "__file__" 173 (Value.str "/claim/cut.py" 172), ent P "__cached__" 174 (Value.none)] 9 }
noncomputable def stPRE11 (P : Params) : Obj := { cls := Value.type "tuple", data := Data.seq #[] }
noncomputable def stPRE12 (P : Params) : Obj := { cls := Value.none, data := Data.fields #[] }
noncomputable def stPRE13 (P : Params) : Obj := { cls := Value.type "code", data := Data.fields #[Value.str "<module>" 182, Value.str "<module>" 183, Value.str "/claim/cut.py" 184, Value.int 1 0, Value.int 0 0, Value.int 0 0, Value.int 0 0, Value.int 0 0, Value.ref 11, Value.bool false, Value.int 181 0, Value.ref 12, Value.none, Value.none, Value.none, Value.none, Value.int 185 0, Value.int 1 0, Value.str "/claim/cut.py" 186] }
noncomputable def stPRE14 (P : Params) : Obj := { cls := Value.type "frame", slots := #[some (Value.ref 13), some (Value.ref 3), some (Value.ref 3), none, some (Value.str "__main__" 164), none, some (Value.ref 0)] }
noncomputable def hpPRE0 (P : Params) : List Obj := [boot_o_0 P, boot_o_1 P, boot_o_2 P, stPRE3 P, boot_o_4 P, boot_o_5 P, boot_o_6 P, boot_o_7 P, boot_o_8 P, boot_o_9 P, boot_o_10 P, stPRE11 P, stPRE12 P, stPRE13 P, stPRE14 P]
noncomputable def hpPRE (P : Params) : Heap := ⟨⟨hpPRE0 P⟩, {}⟩
noncomputable def stA3 (P : Params) : Obj := { cls := Value.type "dict", data := Data.dict #[ent P "__name__" 165 (Value.str "cpy313.email.header" 194), ent P "__doc__" 166 (Value.none), ent P "__package__" 167 (Value.none), ent P "__loader__" 168 (Value.builtin "__main__.__loader__#opaque"), ent P "__spec__" 169 (Value.none), ent P "__annotations__" 170 (Value.ref 6), ent P "__builtins__" 171 (Value.ref 4), ent P "__file__" 173 (Value.str "/claim/cut.py" 172), ent P "__cached__" 174 (Value.none), ent P "_wall" 193 (Value.ref 21), ent P "EMPTYSTRING" 197 (Value.str "" 196), ent P "_Accumulator" 291 (Value.ref 99)] 12 }
noncomputable def stA12 (P : Params) : Obj := { cls := Value.none, data := Data.fields #[Value.int 1 0, Value.int 0 0, Value.ref 20, Value.int 6 0, Value.int 0 0, Value.ref 28] }
noncomputable def stA15 (P : Params) : Obj := { cls := Value.type "tuple", data := Data.seq #[] }
noncomputable def stA16 (P : Params) : Obj := { cls := Value.none, data := Data.fields #[] }
noncomputable def stA17 (P : Params) : Obj := { cls := Value.type "tuple", data := Data.seq #[Value.str "k" 190] }
noncomputable def stA18 (P : Params) : Obj := { cls := Value.type "tuple", data := Data.seq #[] }
noncomputable def stA19 (P : Params) : Obj := { cls := Value.none, data := Data.func { name := "_wall", qualname := "_wall", params := argsD (stAt 0), body := FuncBody.stmts (bodyD (stAt 0)), scope := scopeD (stAt 0), globals := 0, closure := [], defaults := Value.none, kwdefaults := Value.none } }
noncomputable def stA20 (P : Params) : Obj := { cls := Value.type "code", data := Data.fields #[Value.str "_wall" 187, Value.str "_wall" 188, Value.str "/claim/cut.py" 189, Value.int 1 0, Value.int 1 0, Value.int 0 0, Value.int 0 0, Value.int 3 0, Value.ref 15, Value.bool true, Value.int 181 0, Value.ref 16, Value.none, Value.ref 17, Value.ref 18, Value.ref 19, Value.int 191 0, Value.int 1 0, Value.str "/claim/cut.py" 192] }
noncomputable def stA21 (P : Params) : Obj := { cls := Value.type "function", data := Data.func { name := "_wall", qualname := "_wall", params := argsD (stAt 0), body := FuncBody.stmts (bodyD (stAt 0)), scope := scopeD (stAt 0), globals := 3, closure := [], defaults := Value.none, kwdefaults := Value.none, pyModule := Value.str "__main__" 164, code := Value.ref 20 } }
noncomputable def stA22 (P : Params) : Obj := { cls := Value.type "tuple", data := Data.seq #[Value.type "list"] }
noncomputable def stA23 (P : Params) : Obj := { cls := Value.type "builtin_function_or_method", data := Data.fields #[Value.builtin "type.__prepare__", Value.type "type"] }
noncomputable def stA24 (P : Params) : Obj := { cls := Value.type "dict", data := Data.dict #[ent P "__module__" 205 (Value.str "cpy313.email.header" 194), ent P "__qualname__" 207 (Value.str "_Accumulator" 206), ent P "__firstlineno__" 209 (Value.int 6 208), ent P "__init__" 219 (Value.ref 38), ent P "push" 228 (Value.ref 45), ent P "pop_from" 238 (Value.ref 53), ent P "pop" 245 (Value.ref 60), ent P "__len__" 252 (Value.ref 67), ent P "__str__" 259 (Value.ref 74), ent P "reset" 267 (Value.ref 82), ent P "is_onlyws" 274 (Value.ref 89), ent P "part_count" 281 (Value.ref 96), ent P "__static_attributes__" 283 (Value.ref 97), ent P "__classcell__" 284 (Value.ref 25)] 14 }
noncomputable def stA25 (P : Params) : Obj := { cls := Value.type "cell", data := Data.cell (some (Value.ref 99)) }
noncomputable def stA26 (P : Params) : Obj := { cls := Value.type "tuple", data := Data.seq #[] }
noncomputable def stA27 (P : Params) : Obj := { cls := Value.none, data := Data.fields #[Value.int 8 0, Value.int 4 0, Value.ref 37, Value.int 12 0, Value.int 4 0, Value.ref 44, Value.int 15 0, Value.int 4 0, Value.ref 52, Value.int 20 0, Value.int 4 0, Value.ref 59, Value.int 23 0, Value.int 4 0, Value.ref 66, Value.int 26 0, Value.int 4 0, Value.ref 73, Value.int 29 0, Value.int 4 0, Value.ref 81, Value.int 32 0, Value.int 4 0, Value.ref 88, Value.int 35 0, Value.int 4 0, Value.ref 95] }
noncomputable def stA28 (P : Params) : Obj := { cls := Value.type "code", data := Data.fields #[Value.str "_Accumulator" 200, Value.str "_Accumulator" 201, Value.str "/claim/cut.py" 202, Value.int 6 0, Value.int 0 0, Value.int 0 0, Value.int 0 0, Value.int 0 0, Value.ref 26, Value.bool false, Value.int 181 0, Value.ref 27, Value.none, Value.none, Value.none, Value.none, Value.int 203 0, Value.int 6 0, Value.str "/claim/cut.py" 204] }
noncomputable def stA29 (P : Params) : Obj := { cls := Value.type "frame", slots := #[some (Value.ref 28), some (Value.ref 3), some (Value.ref 24), none, some (Value.str "cpy313.email.header" 194), none, some (Value.ref 0)] }
noncomputable def stA30 (P : Params) : Obj := { cls := Value.type "tuple", data := Data.seq #[Value.int 0 210] }
noncomputable def stA31 (P : Params) : Obj := { cls := Value.type "tuple", data := Data.seq #[Value.ref 25] }
noncomputable def stA32 (P : Params) : Obj := { cls := Value.type "tuple", data := Data.seq #[Value.str "__class__" 214] }
noncomputable def stA33 (P : Params) : Obj := { cls := Value.none, data := Data.fields #[] }
noncomputable def stA34 (P : Params) : Obj := { cls := Value.type "tuple", data := Data.seq #[Value.str "self" 215, Value.str "initial_size" 216] }
noncomputable def stA35 (P : Params) : Obj := { cls := Value.type "tuple", data := Data.seq #[] }
noncomputable def stA36 (P : Params) : Obj := { cls := Value.none, data := Data.func { name := "__init__", qualname := "_Accumulator.__init__", params := argsD (inAt 3 0), body := FuncBody.stmts (bodyD (inAt 3 0)), scope := scopeD (inAt 3 0), globals := 0, closure := [], defaults := Value.none, kwdefaults := Value.none } }
noncomputable def stA37 (P : Params) : Obj := { cls := Value.type "code", data := Data.fields #[Value.str "__init__" 211, Value.str "_Accumulator.__init__" 212, Value.str "/claim/cut.py" 213, Value.int 8 0, Value.int 2 0, Value.int 0 0, Value.int 0 0, Value.int 3 0, Value.ref 32, Value.bool true, Value.int 181 0, Value.ref 33, Value.none, Value.ref 34, Value.ref 35, Value.ref 36, Value.int 217 0, Value.int 8 0, Value.str "/claim/cut.py" 218] }
noncomputable def stA38 (P : Params) : Obj := { cls := Value.type "function", data := Data.func { name := "__init__", qualname := "_Accumulator.__init__", params := argsD (inAt 3 0), body := FuncBody.stmts (bodyD (inAt 3 0)), scope := scopeD (inAt 3 0), globals := 3, closure := [("__class__", 25)], defaults := Value.ref 30, kwdefaults := Value.none, pyModule := Value.str "cpy313.email.header" 194, code := Value.ref 37, closureTuple := Value.ref 31 } }
noncomputable def stA39 (P : Params) : Obj := { cls := Value.type "tuple", data := Data.seq #[] }
noncomputable def stA40 (P : Params) : Obj := { cls := Value.none, data := Data.fields #[] }
noncomputable def stA41 (P : Params) : Obj := { cls := Value.type "tuple", data := Data.seq #[Value.str "self" 223, Value.str "fws" 224, Value.str "string" 225] }
noncomputable def stA42 (P : Params) : Obj := { cls := Value.type "tuple", data := Data.seq #[] }
noncomputable def stA43 (P : Params) : Obj := { cls := Value.none, data := Data.func { name := "push", qualname := "_Accumulator.push", params := argsD (inAt 3 1), body := FuncBody.stmts (bodyD (inAt 3 1)), scope := scopeD (inAt 3 1), globals := 0, closure := [], defaults := Value.none, kwdefaults := Value.none } }
noncomputable def stA44 (P : Params) : Obj := { cls := Value.type "code", data := Data.fields #[Value.str "push" 220, Value.str "_Accumulator.push" 221, Value.str "/claim/cut.py" 222, Value.int 12 0, Value.int 3 0, Value.int 0 0, Value.int 0 0, Value.int 3 0, Value.ref 39, Value.bool true, Value.int 181 0, Value.ref 40, Value.none, Value.ref 41, Value.ref 42, Value.ref 43, Value.int 226 0, Value.int 12 0, Value.str "/claim/cut.py" 227] }
noncomputable def stA45 (P : Params) : Obj := { cls := Value.type "function", data := Data.func { name := "push", qualname := "_Accumulator.push", params := argsD (inAt 3 1), body := FuncBody.stmts (bodyD (inAt 3 1)), scope := scopeD (inAt 3 1), globals := 3, closure := [], defaults := Value.none, kwdefaults := Value.none, pyModule := Value.str "cpy313.email.header" 194, code := Value.ref 44 } }
noncomputable def stA46 (P : Params) : Obj := { cls := Value.type "tuple", data := Data.seq #[Value.int 0 229] }
noncomputable def stA47 (P : Params) : Obj := { cls := Value.type "tuple", data := Data.seq #[] }
noncomputable def stA48 (P : Params) : Obj := { cls := Value.none, data := Data.fields #[] }
noncomputable def stA49 (P : Params) : Obj := { cls := Value.type "tuple", data := Data.seq #[Value.str "self" 233, Value.str "i" 234, Value.str "popped" 235] }
noncomputable def stA50 (P : Params) : Obj := { cls := Value.type "tuple", data := Data.seq #[] }
noncomputable def stA51 (P : Params) : Obj := { cls := Value.none, data := Data.func { name := "pop_from", qualname := "_Accumulator.pop_from", params := argsD (inAt 3 2), body := FuncBody.stmts (bodyD (inAt 3 2)), scope := scopeD (inAt 3 2), globals := 0, closure := [], defaults := Value.none, kwdefaults := Value.none } }
noncomputable def stA52 (P : Params) : Obj := { cls := Value.type "code", data := Data.fields #[Value.str "pop_from" 230, Value.str "_Accumulator.pop_from" 231, Value.str "/claim/cut.py" 232, Value.int 15 0, Value.int 2 0, Value.int 0 0, Value.int 0 0, Value.int 3 0, Value.ref 47, Value.bool true, Value.int 181 0, Value.ref 48, Value.none, Value.ref 49, Value.ref 50, Value.ref 51, Value.int 236 0, Value.int 15 0, Value.str "/claim/cut.py" 237] }
noncomputable def stA53 (P : Params) : Obj := { cls := Value.type "function", data := Data.func { name := "pop_from", qualname := "_Accumulator.pop_from", params := argsD (inAt 3 2), body := FuncBody.stmts (bodyD (inAt 3 2)), scope := scopeD (inAt 3 2), globals := 3, closure := [], defaults := Value.ref 46, kwdefaults := Value.none, pyModule := Value.str "cpy313.email.header" 194, code := Value.ref 52 } }
noncomputable def stA54 (P : Params) : Obj := { cls := Value.type "tuple", data := Data.seq #[] }
noncomputable def stA55 (P : Params) : Obj := { cls := Value.none, data := Data.fields #[] }
noncomputable def stA56 (P : Params) : Obj := { cls := Value.type "tuple", data := Data.seq #[Value.str "self" 242] }
noncomputable def stA57 (P : Params) : Obj := { cls := Value.type "tuple", data := Data.seq #[] }
noncomputable def stA58 (P : Params) : Obj := { cls := Value.none, data := Data.func { name := "pop", qualname := "_Accumulator.pop", params := argsD (inAt 3 3), body := FuncBody.stmts (bodyD (inAt 3 3)), scope := scopeD (inAt 3 3), globals := 0, closure := [], defaults := Value.none, kwdefaults := Value.none } }
noncomputable def stA59 (P : Params) : Obj := { cls := Value.type "code", data := Data.fields #[Value.str "pop" 239, Value.str "_Accumulator.pop" 240, Value.str "/claim/cut.py" 241, Value.int 20 0, Value.int 1 0, Value.int 0 0, Value.int 0 0, Value.int 3 0, Value.ref 54, Value.bool true, Value.int 181 0, Value.ref 55, Value.none, Value.ref 56, Value.ref 57, Value.ref 58, Value.int 243 0, Value.int 20 0, Value.str "/claim/cut.py" 244] }
noncomputable def stA60 (P : Params) : Obj := { cls := Value.type "function", data := Data.func { name := "pop", qualname := "_Accumulator.pop", params := argsD (inAt 3 3), body := FuncBody.stmts (bodyD (inAt 3 3)), scope := scopeD (inAt 3 3), globals := 3, closure := [], defaults := Value.none, kwdefaults := Value.none, pyModule := Value.str "cpy313.email.header" 194, code := Value.ref 59 } }
noncomputable def stA61 (P : Params) : Obj := { cls := Value.type "tuple", data := Data.seq #[] }
noncomputable def stA62 (P : Params) : Obj := { cls := Value.none, data := Data.fields #[] }
noncomputable def stA63 (P : Params) : Obj := { cls := Value.type "tuple", data := Data.seq #[Value.str "self" 249] }
noncomputable def stA64 (P : Params) : Obj := { cls := Value.type "tuple", data := Data.seq #[] }
noncomputable def stA65 (P : Params) : Obj := { cls := Value.none, data := Data.func { name := "__len__", qualname := "_Accumulator.__len__", params := argsD (inAt 3 4), body := FuncBody.stmts (bodyD (inAt 3 4)), scope := scopeD (inAt 3 4), globals := 0, closure := [], defaults := Value.none, kwdefaults := Value.none } }
noncomputable def stA66 (P : Params) : Obj := { cls := Value.type "code", data := Data.fields #[Value.str "__len__" 246, Value.str "_Accumulator.__len__" 247, Value.str "/claim/cut.py" 248, Value.int 23 0, Value.int 1 0, Value.int 0 0, Value.int 0 0, Value.int 3 0, Value.ref 61, Value.bool true, Value.int 181 0, Value.ref 62, Value.none, Value.ref 63, Value.ref 64, Value.ref 65, Value.int 250 0, Value.int 23 0, Value.str "/claim/cut.py" 251] }
noncomputable def stA67 (P : Params) : Obj := { cls := Value.type "function", data := Data.func { name := "__len__", qualname := "_Accumulator.__len__", params := argsD (inAt 3 4), body := FuncBody.stmts (bodyD (inAt 3 4)), scope := scopeD (inAt 3 4), globals := 3, closure := [], defaults := Value.none, kwdefaults := Value.none, pyModule := Value.str "cpy313.email.header" 194, code := Value.ref 66 } }
noncomputable def stA68 (P : Params) : Obj := { cls := Value.type "tuple", data := Data.seq #[] }
noncomputable def stA69 (P : Params) : Obj := { cls := Value.none, data := Data.fields #[] }
noncomputable def stA70 (P : Params) : Obj := { cls := Value.type "tuple", data := Data.seq #[Value.str "self" 256] }
noncomputable def stA71 (P : Params) : Obj := { cls := Value.type "tuple", data := Data.seq #[] }
noncomputable def stA72 (P : Params) : Obj := { cls := Value.none, data := Data.func { name := "__str__", qualname := "_Accumulator.__str__", params := argsD (inAt 3 5), body := FuncBody.stmts (bodyD (inAt 3 5)), scope := scopeD (inAt 3 5), globals := 0, closure := [], defaults := Value.none, kwdefaults := Value.none } }
noncomputable def stA73 (P : Params) : Obj := { cls := Value.type "code", data := Data.fields #[Value.str "__str__" 253, Value.str "_Accumulator.__str__" 254, Value.str "/claim/cut.py" 255, Value.int 26 0, Value.int 1 0, Value.int 0 0, Value.int 0 0, Value.int 3 0, Value.ref 68, Value.bool true, Value.int 181 0, Value.ref 69, Value.none, Value.ref 70, Value.ref 71, Value.ref 72, Value.int 257 0, Value.int 26 0, Value.str "/claim/cut.py" 258] }
noncomputable def stA74 (P : Params) : Obj := { cls := Value.type "function", data := Data.func { name := "__str__", qualname := "_Accumulator.__str__", params := argsD (inAt 3 5), body := FuncBody.stmts (bodyD (inAt 3 5)), scope := scopeD (inAt 3 5), globals := 3, closure := [], defaults := Value.none, kwdefaults := Value.none, pyModule := Value.str "cpy313.email.header" 194, code := Value.ref 73 } }
noncomputable def stA75 (P : Params) : Obj := { cls := Value.type "tuple", data := Data.seq #[Value.none] }
noncomputable def stA76 (P : Params) : Obj := { cls := Value.type "tuple", data := Data.seq #[] }
noncomputable def stA77 (P : Params) : Obj := { cls := Value.none, data := Data.fields #[] }
noncomputable def stA78 (P : Params) : Obj := { cls := Value.type "tuple", data := Data.seq #[Value.str "self" 263, Value.str "startval" 264] }
noncomputable def stA79 (P : Params) : Obj := { cls := Value.type "tuple", data := Data.seq #[] }
noncomputable def stA80 (P : Params) : Obj := { cls := Value.none, data := Data.func { name := "reset", qualname := "_Accumulator.reset", params := argsD (inAt 3 6), body := FuncBody.stmts (bodyD (inAt 3 6)), scope := scopeD (inAt 3 6), globals := 0, closure := [], defaults := Value.none, kwdefaults := Value.none } }
noncomputable def stA81 (P : Params) : Obj := { cls := Value.type "code", data := Data.fields #[Value.str "reset" 260, Value.str "_Accumulator.reset" 261, Value.str "/claim/cut.py" 262, Value.int 29 0, Value.int 2 0, Value.int 0 0, Value.int 0 0, Value.int 3 0, Value.ref 76, Value.bool true, Value.int 181 0, Value.ref 77, Value.none, Value.ref 78, Value.ref 79, Value.ref 80, Value.int 265 0, Value.int 29 0, Value.str "/claim/cut.py" 266] }
noncomputable def stA82 (P : Params) : Obj := { cls := Value.type "function", data := Data.func { name := "reset", qualname := "_Accumulator.reset", params := argsD (inAt 3 6), body := FuncBody.stmts (bodyD (inAt 3 6)), scope := scopeD (inAt 3 6), globals := 3, closure := [], defaults := Value.ref 75, kwdefaults := Value.none, pyModule := Value.str "cpy313.email.header" 194, code := Value.ref 81 } }
noncomputable def stA83 (P : Params) : Obj := { cls := Value.type "tuple", data := Data.seq #[] }
noncomputable def stA84 (P : Params) : Obj := { cls := Value.none, data := Data.fields #[] }
noncomputable def stA85 (P : Params) : Obj := { cls := Value.type "tuple", data := Data.seq #[Value.str "self" 271] }
noncomputable def stA86 (P : Params) : Obj := { cls := Value.type "tuple", data := Data.seq #[] }
noncomputable def stA87 (P : Params) : Obj := { cls := Value.none, data := Data.func { name := "is_onlyws", qualname := "_Accumulator.is_onlyws", params := argsD (inAt 3 7), body := FuncBody.stmts (bodyD (inAt 3 7)), scope := scopeD (inAt 3 7), globals := 0, closure := [], defaults := Value.none, kwdefaults := Value.none } }
noncomputable def stA88 (P : Params) : Obj := { cls := Value.type "code", data := Data.fields #[Value.str "is_onlyws" 268, Value.str "_Accumulator.is_onlyws" 269, Value.str "/claim/cut.py" 270, Value.int 32 0, Value.int 1 0, Value.int 0 0, Value.int 0 0, Value.int 3 0, Value.ref 83, Value.bool true, Value.int 181 0, Value.ref 84, Value.none, Value.ref 85, Value.ref 86, Value.ref 87, Value.int 272 0, Value.int 32 0, Value.str "/claim/cut.py" 273] }
noncomputable def stA89 (P : Params) : Obj := { cls := Value.type "function", data := Data.func { name := "is_onlyws", qualname := "_Accumulator.is_onlyws", params := argsD (inAt 3 7), body := FuncBody.stmts (bodyD (inAt 3 7)), scope := scopeD (inAt 3 7), globals := 3, closure := [], defaults := Value.none, kwdefaults := Value.none, pyModule := Value.str "cpy313.email.header" 194, code := Value.ref 88 } }
noncomputable def stA90 (P : Params) : Obj := { cls := Value.type "tuple", data := Data.seq #[] }
noncomputable def stA91 (P : Params) : Obj := { cls := Value.none, data := Data.fields #[] }
noncomputable def stA92 (P : Params) : Obj := { cls := Value.type "tuple", data := Data.seq #[Value.str "self" 278] }
noncomputable def stA93 (P : Params) : Obj := { cls := Value.type "tuple", data := Data.seq #[] }
noncomputable def stA94 (P : Params) : Obj := { cls := Value.none, data := Data.func { name := "part_count", qualname := "_Accumulator.part_count", params := argsD (inAt 3 8), body := FuncBody.stmts (bodyD (inAt 3 8)), scope := scopeD (inAt 3 8), globals := 0, closure := [], defaults := Value.none, kwdefaults := Value.none } }
noncomputable def stA95 (P : Params) : Obj := { cls := Value.type "code", data := Data.fields #[Value.str "part_count" 275, Value.str "_Accumulator.part_count" 276, Value.str "/claim/cut.py" 277, Value.int 35 0, Value.int 1 0, Value.int 0 0, Value.int 0 0, Value.int 3 0, Value.ref 90, Value.bool true, Value.int 181 0, Value.ref 91, Value.none, Value.ref 92, Value.ref 93, Value.ref 94, Value.int 279 0, Value.int 35 0, Value.str "/claim/cut.py" 280] }
noncomputable def stA96 (P : Params) : Obj := { cls := Value.type "function", data := Data.func { name := "part_count", qualname := "_Accumulator.part_count", params := argsD (inAt 3 8), body := FuncBody.stmts (bodyD (inAt 3 8)), scope := scopeD (inAt 3 8), globals := 3, closure := [], defaults := Value.none, kwdefaults := Value.none, pyModule := Value.str "cpy313.email.header" 194, code := Value.ref 95 } }
noncomputable def stA97 (P : Params) : Obj := { cls := Value.type "tuple", data := Data.seq #[Value.str "_initial_size" 282] }
noncomputable def stA98 (P : Params) : Obj := { cls := Value.type "dict", data := Data.dict #[ent P "__module__" 205 (Value.str "cpy313.email.header" 194), ent P "__firstlineno__" 209 (Value.int 6 208), ent P "__init__" 219 (Value.ref 38), ent P "push" 228 (Value.ref 45), ent P "pop_from" 238 (Value.ref 53), ent P "pop" 245 (Value.ref 60), ent P "__len__" 252 (Value.ref 67), ent P "__str__" 259 (Value.ref 74), ent P "reset" 267 (Value.ref 82), ent P "is_onlyws" 274 (Value.ref 89), ent P "part_count" 281 (Value.ref 96), ent P "__static_attributes__" 283 (Value.ref 97), ent P "__dict__" 286 (Value.ref 100), ent P "__weakref__" 288 (Value.ref 101), ent P "__doc__" 289 (Value.none)] 5 }
noncomputable def stA99 (P : Params) : Obj := { cls := Value.type "type", data := Data.cls { name := "_Accumulator", bases := [Value.type "list"], mro := [Value.ref 99, Value.type "list", Value.type "object"], ns := 98, qualname := "_Accumulator" }, slots := #[some (Value.ref 22), none, some (Value.str "_Accumulator" 198), some (Value.str "_Accumulator" 206), some (Value.builtin "list.__new__"), some (Value.bool true)] }
noncomputable def stA100 (P : Params) : Obj := { cls := Value.type "getset_descriptor", data := Data.fields #[Value.str "__dict__" 285, Value.ref 99, Value.builtin "function.__dict__", Value.builtin "function.__dict__#set"] }
noncomputable def stA101 (P : Params) : Obj := { cls := Value.type "getset_descriptor", data := Data.fields #[Value.str "__weakref__" 287, Value.ref 99, Value.builtin "ExceptionGroup.__weakref__", Value.none] }
noncomputable def stA102 (P : Params) : Obj := { cls := Value.type "super", data := Data.fields #[Value.ref 99, Value.ref 99, Value.ref 99] }
noncomputable def stA103 (P : Params) : Obj := { cls := Value.type "builtin_function_or_method", data := Data.fields #[Value.builtin "object.__init_subclass__", Value.ref 99] }
noncomputable def hpA0 (P : Params) : List Obj := [boot_o_0 P, boot_o_1 P, boot_o_2 P, stA3 P, boot_o_4 P, boot_o_5 P, boot_o_6 P, boot_o_7 P, boot_o_8 P, boot_o_9 P, boot_o_10 P, stPRE11 P, stA12 P, stPRE13 P, stPRE14 P, stA15 P, stA16 P, stA17 P, stA18 P, stA19 P, stA20 P, stA21 P, stA22 P, stA23 P, stA24 P, stA25 P, stA26 P, stA27 P, stA28 P, stA29 P]
noncomputable def hpA1 (P : Params) : List Obj := [stA30 P, stA31 P, stA32 P, stA33 P, stA34 P, stA35 P, stA36 P, stA37 P, stA38 P, stA39 P, stA40 P, stA41 P, stA42 P, stA43 P, stA44 P, stA45 P, stA46 P, stA47 P, stA48 P, stA49 P, stA50 P, stA51 P, stA52 P, stA53 P, stA54 P, stA55 P, stA56 P, stA57 P, stA58 P, stA59 P]
noncomputable def hpA2 (P : Params) : List Obj := [stA60 P, stA61 P, stA62 P, stA63 P, stA64 P, stA65 P, stA66 P, stA67 P, stA68 P, stA69 P, stA70 P, stA71 P, stA72 P, stA73 P, stA74 P, stA75 P, stA76 P, stA77 P, stA78 P, stA79 P, stA80 P, stA81 P, stA82 P, stA83 P, stA84 P, stA85 P, stA86 P, stA87 P, stA88 P, stA89 P]
noncomputable def hpA3 (P : Params) : List Obj := [stA90 P, stA91 P, stA92 P, stA93 P, stA94 P, stA95 P, stA96 P, stA97 P, stA98 P, stA99 P, stA100 P, stA101 P, stA102 P, stA103 P]
noncomputable def hpA (P : Params) : Heap := ⟨⟨hpA0 P ++ hpA1 P ++ hpA2 P ++ hpA3 P⟩, {}⟩
noncomputable def stD3 (P : Params) : Obj := { cls := Value.type "dict", data := Data.dict #[ent P "__name__" 165 (Value.str "cpy313.email.header" 194), ent P "__doc__" 166 (Value.none), ent P "__package__" 167 (Value.none), ent P "__loader__" 168 (Value.builtin "__main__.__loader__#opaque"), ent P "__spec__" 169 (Value.none), ent P "__annotations__" 170 (Value.ref 6), ent P "__builtins__" 171 (Value.ref 4), ent P "__file__" 173 (Value.str "/claim/cut.py" 172), ent P "__cached__" 174 (Value.none), ent P "_wall" 193 (Value.ref 21), ent P "EMPTYSTRING" 197 (Value.str "" 196), ent P "_Accumulator" 291 (Value.ref 99), ent P "LPAR" 293 (Value.int 7 292), ent P "RPAR" 295 (Value.int 8 294), ent P "LSQB" 297 (Value.int 9 296), ent P "RSQB" 299 (Value.int 10 298), ent P "COLON" 301 (Value.int 11 300), ent P "COMMA" 303 (Value.int 12 302), ent P "SEMI" 305 (Value.int 13 304), ent P "PLUS" 307 (Value.int 14 306), ent P "MINUS" 309 (Value.int 15 308), ent P "STAR" 311 (Value.int 16 310), ent P "SLASH" 313 (Value.int 17 312), ent P "VBAR" 315 (Value.int 18 314), ent P "AMPER" 317 (Value.int 19 316), ent P "LESS" 319 (Value.int 20 318), ent P "GREATER" 321 (Value.int 21 320), ent P "EQUAL" 323 (Value.int 22 322), ent P "DOT" 325 (Value.int 23 324), ent P "PERCENT" 327 (Value.int 24 326), ent P "LBRACE" 329 (Value.int 25 328), ent P "RBRACE" 331 (Value.int 26 330), ent P "EQEQUAL" 333 (Value.int 27 332), ent P "NOTEQUAL" 335 (Value.int 28 334), ent P "LESSEQUAL" 337 (Value.int 29 336), ent P "GREATEREQUAL" 339 (Value.int 30 338)] 36 }
noncomputable def hpD0 (P : Params) : List Obj := [boot_o_0 P, boot_o_1 P, boot_o_2 P, stD3 P, boot_o_4 P, boot_o_5 P, boot_o_6 P, boot_o_7 P, boot_o_8 P, boot_o_9 P, boot_o_10 P, stPRE11 P, stA12 P, stPRE13 P, stPRE14 P, stA15 P, stA16 P, stA17 P, stA18 P, stA19 P, stA20 P, stA21 P, stA22 P, stA23 P, stA24 P, stA25 P, stA26 P, stA27 P, stA28 P, stA29 P]
noncomputable def hpD1 (P : Params) : List Obj := [stA30 P, stA31 P, stA32 P, stA33 P, stA34 P, stA35 P, stA36 P, stA37 P, stA38 P, stA39 P, stA40 P, stA41 P, stA42 P, stA43 P, stA44 P, stA45 P, stA46 P, stA47 P, stA48 P, stA49 P, stA50 P, stA51 P, stA52 P, stA53 P, stA54 P, stA55 P, stA56 P, stA57 P, stA58 P, stA59 P]
noncomputable def hpD2 (P : Params) : List Obj := [stA60 P, stA61 P, stA62 P, stA63 P, stA64 P, stA65 P, stA66 P, stA67 P, stA68 P, stA69 P, stA70 P, stA71 P, stA72 P, stA73 P, stA74 P, stA75 P, stA76 P, stA77 P, stA78 P, stA79 P, stA80 P, stA81 P, stA82 P, stA83 P, stA84 P, stA85 P, stA86 P, stA87 P, stA88 P, stA89 P]
noncomputable def hpD3 (P : Params) : List Obj := [stA90 P, stA91 P, stA92 P, stA93 P, stA94 P, stA95 P, stA96 P, stA97 P, stA98 P, stA99 P, stA100 P, stA101 P, stA102 P, stA103 P]
noncomputable def hpD (P : Params) : Heap := ⟨⟨hpD0 P ++ hpD1 P ++ hpD2 P ++ hpD3 P⟩, {}⟩
noncomputable def stB3 (P : Params) : Obj := { cls := Value.type "dict", data := Data.dict #[ent P "__name__" 165 (Value.str "cpy313.email.header" 194), ent P "__doc__" 166 (Value.none), ent P "__package__" 167 (Value.none), ent P "__loader__" 168 (Value.builtin "__main__.__loader__#opaque"), ent P "__spec__" 169 (Value.none), ent P "__annotations__" 170 (Value.ref 6), ent P "__builtins__" 171 (Value.ref 4), ent P "__file__" 173 (Value.str "/claim/cut.py" 172), ent P "__cached__" 174 (Value.none), ent P "_wall" 193 (Value.ref 21), ent P "EMPTYSTRING" 197 (Value.str "" 196), ent P "_Accumulator" 291 (Value.ref 99), ent P "LPAR" 293 (Value.int 7 292), ent P "RPAR" 295 (Value.int 8 294), ent P "LSQB" 297 (Value.int 9 296), ent P "RSQB" 299 (Value.int 10 298), ent P "COLON" 301 (Value.int 11 300), ent P "COMMA" 303 (Value.int 12 302), ent P "SEMI" 305 (Value.int 13 304), ent P "PLUS" 307 (Value.int 14 306), ent P "MINUS" 309 (Value.int 15 308), ent P "STAR" 311 (Value.int 16 310), ent P "SLASH" 313 (Value.int 17 312), ent P "VBAR" 315 (Value.int 18 314), ent P "AMPER" 317 (Value.int 19 316), ent P "LESS" 319 (Value.int 20 318), ent P "GREATER" 321 (Value.int 21 320), ent P "EQUAL" 323 (Value.int 22 322), ent P "DOT" 325 (Value.int 23 324), ent P "PERCENT" 327 (Value.int 24 326), ent P "LBRACE" 329 (Value.int 25 328), ent P "RBRACE" 331 (Value.int 26 330), ent P "EQEQUAL" 333 (Value.int 27 332), ent P "NOTEQUAL" 335 (Value.int 28 334), ent P "LESSEQUAL" 337 (Value.int 29 336), ent P "GREATEREQUAL" 339 (Value.int 30 338), ent P "TILDE" 341 (Value.int 31 340), ent P "CIRCUMFLEX" 343 (Value.int 32 342), ent P "LEFTSHIFT" 345 (Value.int 33 344), ent P "RIGHTSHIFT" 347 (Value.int 34 346), ent P "DOUBLESTAR" 349 (Value.int 35 348), ent P "PLUSEQUAL" 351 (Value.int 36 350), ent P "MINEQUAL" 353 (Value.int 37 352), ent P "STAREQUAL" 355 (Value.int 38 354), ent P "SLASHEQUAL" 357 (Value.int 39 356), ent P "PERCENTEQUAL" 359 (Value.int 40 358), ent P "AMPEREQUAL" 361 (Value.int 41 360), ent P "VBAREQUAL" 363 (Value.int 42 362), ent P "CIRCUMFLEXEQUAL" 365 (Value.int 43 364), ent P "LEFTSHIFTEQUAL" 367 (Value.int 44 366), ent P "RIGHTSHIFTEQUAL" 369 (Value.int 45 368), ent P "DOUBLESTAREQUAL" 371 (Value.int 46 370), ent P "DOUBLESLASH" 373 (Value.int 47 372), ent P "DOUBLESLASHEQUAL" 375 (Value.int 48 374), ent P "AT" 377 (Value.int 49 376), ent P "ATEQUAL" 379 (Value.int 50 378), ent P "RARROW" 381 (Value.int 51 380), ent P "ELLIPSIS" 383 (Value.int 52 382), ent P "COLONEQUAL" 385 (Value.int 53 384), ent P "EXCLAMATION" 387 (Value.int 54 386)] 60 }
noncomputable def hpB0 (P : Params) : List Obj := [boot_o_0 P, boot_o_1 P, boot_o_2 P, stB3 P, boot_o_4 P, boot_o_5 P, boot_o_6 P, boot_o_7 P, boot_o_8 P, boot_o_9 P, boot_o_10 P, stPRE11 P, stA12 P, stPRE13 P, stPRE14 P, stA15 P, stA16 P, stA17 P, stA18 P, stA19 P, stA20 P, stA21 P, stA22 P, stA23 P, stA24 P, stA25 P, stA26 P, stA27 P, stA28 P, stA29 P]
noncomputable def hpB1 (P : Params) : List Obj := [stA30 P, stA31 P, stA32 P, stA33 P, stA34 P, stA35 P, stA36 P, stA37 P, stA38 P, stA39 P, stA40 P, stA41 P, stA42 P, stA43 P, stA44 P, stA45 P, stA46 P, stA47 P, stA48 P, stA49 P, stA50 P, stA51 P, stA52 P, stA53 P, stA54 P, stA55 P, stA56 P, stA57 P, stA58 P, stA59 P]
noncomputable def hpB2 (P : Params) : List Obj := [stA60 P, stA61 P, stA62 P, stA63 P, stA64 P, stA65 P, stA66 P, stA67 P, stA68 P, stA69 P, stA70 P, stA71 P, stA72 P, stA73 P, stA74 P, stA75 P, stA76 P, stA77 P, stA78 P, stA79 P, stA80 P, stA81 P, stA82 P, stA83 P, stA84 P, stA85 P, stA86 P, stA87 P, stA88 P, stA89 P]
noncomputable def hpB3 (P : Params) : List Obj := [stA90 P, stA91 P, stA92 P, stA93 P, stA94 P, stA95 P, stA96 P, stA97 P, stA98 P, stA99 P, stA100 P, stA101 P, stA102 P, stA103 P]
noncomputable def hpB (P : Params) : Heap := ⟨⟨hpB0 P ++ hpB1 P ++ hpB2 P ++ hpB3 P⟩, {}⟩
noncomputable def stC3 (P : Params) : Obj := { cls := Value.type "dict", data := Data.dict #[ent P "__name__" 165 (Value.str "cpy313.email.header" 194), ent P "__doc__" 166 (Value.none), ent P "__package__" 167 (Value.none), ent P "__loader__" 168 (Value.builtin "__main__.__loader__#opaque"), ent P "__spec__" 169 (Value.none), ent P "__annotations__" 170 (Value.ref 6), ent P "__builtins__" 171 (Value.ref 4), ent P "__file__" 173 (Value.str "/claim/cut.py" 172), ent P "__cached__" 174 (Value.none), ent P "_wall" 193 (Value.ref 21), ent P "EMPTYSTRING" 197 (Value.str "" 196), ent P "_Accumulator" 291 (Value.ref 99), ent P "LPAR" 293 (Value.int 7 292), ent P "RPAR" 295 (Value.int 8 294), ent P "LSQB" 297 (Value.int 9 296), ent P "RSQB" 299 (Value.int 10 298), ent P "COLON" 301 (Value.int 11 300), ent P "COMMA" 303 (Value.int 12 302), ent P "SEMI" 305 (Value.int 13 304), ent P "PLUS" 307 (Value.int 14 306), ent P "MINUS" 309 (Value.int 15 308), ent P "STAR" 311 (Value.int 16 310), ent P "SLASH" 313 (Value.int 17 312), ent P "VBAR" 315 (Value.int 18 314), ent P "AMPER" 317 (Value.int 19 316), ent P "LESS" 319 (Value.int 20 318), ent P "GREATER" 321 (Value.int 21 320), ent P "EQUAL" 323 (Value.int 22 322), ent P "DOT" 325 (Value.int 23 324), ent P "PERCENT" 327 (Value.int 24 326), ent P "LBRACE" 329 (Value.int 25 328), ent P "RBRACE" 331 (Value.int 26 330), ent P "EQEQUAL" 333 (Value.int 27 332), ent P "NOTEQUAL" 335 (Value.int 28 334), ent P "LESSEQUAL" 337 (Value.int 29 336), ent P "GREATEREQUAL" 339 (Value.int 30 338), ent P "TILDE" 341 (Value.int 31 340), ent P "CIRCUMFLEX" 343 (Value.int 32 342), ent P "LEFTSHIFT" 345 (Value.int 33 344), ent P "RIGHTSHIFT" 347 (Value.int 34 346), ent P "DOUBLESTAR" 349 (Value.int 35 348), ent P "PLUSEQUAL" 351 (Value.int 36 350), ent P "MINEQUAL" 353 (Value.int 37 352), ent P "STAREQUAL" 355 (Value.int 38 354), ent P "SLASHEQUAL" 357 (Value.int 39 356), ent P "PERCENTEQUAL" 359 (Value.int 40 358), ent P "AMPEREQUAL" 361 (Value.int 41 360), ent P "VBAREQUAL" 363 (Value.int 42 362), ent P "CIRCUMFLEXEQUAL" 365 (Value.int 43 364), ent P "LEFTSHIFTEQUAL" 367 (Value.int 44 366), ent P "RIGHTSHIFTEQUAL" 369 (Value.int 45 368), ent P "DOUBLESTAREQUAL" 371 (Value.int 46 370), ent P "DOUBLESLASH" 373 (Value.int 47 372), ent P "DOUBLESLASHEQUAL" 375 (Value.int 48 374), ent P "AT" 377 (Value.int 49 376), ent P "ATEQUAL" 379 (Value.int 50 378), ent P "RARROW" 381 (Value.int 51 380), ent P "ELLIPSIS" 383 (Value.int 52 382), ent P "COLONEQUAL" 385 (Value.int 53 384), ent P "EXCLAMATION" 387 (Value.int 54 386), ent P "EXACT_TOKEN_TYPES" 484 (Value.ref 104)] 61 }
noncomputable def stC104 (P : Params) : Obj := { cls := Value.type "dict", data := Data.dict #[ent P "!" 388 (Value.int 54 386), ent P "!=" 390 (Value.int 28 334), ent P "%" 392 (Value.int 24 326), ent P "%=" 394 (Value.int 40 358), ent P "&" 396 (Value.int 19 316), ent P "&=" 398 (Value.int 41 360), ent P "(" 400 (Value.int 7 292), ent P ")" 402 (Value.int 8 294), ent P "*" 404 (Value.int 16 310), ent P "**" 406 (Value.int 35 348), ent P "**=" 408 (Value.int 46 370), ent P "*=" 410 (Value.int 38 354), ent P "+" 412 (Value.int 14 306), ent P "+=" 414 (Value.int 36 350), ent P "," 416 (Value.int 12 302), ent P "-" 418 (Value.int 15 308), ent P "-=" 420 (Value.int 37 352), ent P "->" 422 (Value.int 51 380), ent P "." 424 (Value.int 23 324), ent P "..." 426 (Value.int 52 382), ent P "/" 428 (Value.int 17 312), ent P "//" 430 (Value.int 47 372), ent P "//=" 432 (Value.int 48 374), ent P "/=" 434 (Value.int 39 356), ent P ":" 436 (Value.int 11 300), ent P ":=" 438 (Value.int 53 384), ent P ";" 440 (Value.int 13 304), ent P "<" 442 (Value.int 20 318), ent P "<<" 444 (Value.int 33 344), ent P "<<=" 446 (Value.int 44 366), ent P "<=" 448 (Value.int 29 336), ent P "=" 450 (Value.int 22 322), ent P "==" 452 (Value.int 27 332), ent P ">" 454 (Value.int 21 320), ent P ">=" 456 (Value.int 30 338), ent P ">>" 457 (Value.int 34 346), ent P ">>=" 458 (Value.int 45 368), ent P "@" 459 (Value.int 49 376), ent P "@=" 460 (Value.int 50 378), ent P "[" 461 (Value.int 9 296), ent P "]" 462 (Value.int 10 298), ent P "^" 463 (Value.int 32 342), ent P "^=" 464 (Value.int 43 364), ent P "{" 465 (Value.int 25 328), ent P "|" 466 (Value.int 18 314), ent P "|=" 467 (Value.int 42 362), ent P "}" 468 (Value.int 26 330), ent P "~" 469 (Value.int 31 340)] 48 }
noncomputable def stC105 (P : Params) : Obj := { cls := Value.type "dict", data := Data.dict #[ent P "->" 422 (Value.int 51 380), ent P "." 424 (Value.int 23 324), ent P "..." 426 (Value.int 52 382), ent P "/" 428 (Value.int 17 312), ent P "//" 430 (Value.int 47 372), ent P "//=" 432 (Value.int 48 374), ent P "/=" 434 (Value.int 39 356), ent P ":" 436 (Value.int 11 300), ent P ":=" 438 (Value.int 53 384), ent P ";" 440 (Value.int 13 304), ent P "<" 442 (Value.int 20 318), ent P "<<" 444 (Value.int 33 344), ent P "<<=" 446 (Value.int 44 366), ent P "<=" 448 (Value.int 29 336), ent P "=" 450 (Value.int 22 322), ent P "==" 452 (Value.int 27 332), ent P ">" 454 (Value.int 21 320)] 17 }
noncomputable def stC106 (P : Params) : Obj := { cls := Value.type "dict", data := Data.dict #[ent P ">=" 456 (Value.int 30 338), ent P ">>" 457 (Value.int 34 346), ent P ">>=" 458 (Value.int 45 368), ent P "@" 459 (Value.int 49 376), ent P "@=" 460 (Value.int 50 378), ent P "[" 461 (Value.int 9 296), ent P "]" 462 (Value.int 10 298), ent P "^" 463 (Value.int 32 342), ent P "^=" 464 (Value.int 43 364), ent P "{" 465 (Value.int 25 328), ent P "|" 466 (Value.int 18 314), ent P "|=" 467 (Value.int 42 362), ent P "}" 468 (Value.int 26 330), ent P "~" 469 (Value.int 31 340)] 14 }
noncomputable def hpC0 (P : Params) : List Obj := [boot_o_0 P, boot_o_1 P, boot_o_2 P, stC3 P, boot_o_4 P, boot_o_5 P, boot_o_6 P, boot_o_7 P, boot_o_8 P, boot_o_9 P, boot_o_10 P, stPRE11 P, stA12 P, stPRE13 P, stPRE14 P, stA15 P, stA16 P, stA17 P, stA18 P, stA19 P, stA20 P, stA21 P, stA22 P, stA23 P, stA24 P, stA25 P, stA26 P, stA27 P, stA28 P, stA29 P]
noncomputable def hpC1 (P : Params) : List Obj := [stA30 P, stA31 P, stA32 P, stA33 P, stA34 P, stA35 P, stA36 P, stA37 P, stA38 P, stA39 P, stA40 P, stA41 P, stA42 P, stA43 P, stA44 P, stA45 P, stA46 P, stA47 P, stA48 P, stA49 P, stA50 P, stA51 P, stA52 P, stA53 P, stA54 P, stA55 P, stA56 P, stA57 P, stA58 P, stA59 P]
noncomputable def hpC2 (P : Params) : List Obj := [stA60 P, stA61 P, stA62 P, stA63 P, stA64 P, stA65 P, stA66 P, stA67 P, stA68 P, stA69 P, stA70 P, stA71 P, stA72 P, stA73 P, stA74 P, stA75 P, stA76 P, stA77 P, stA78 P, stA79 P, stA80 P, stA81 P, stA82 P, stA83 P, stA84 P, stA85 P, stA86 P, stA87 P, stA88 P, stA89 P]
noncomputable def hpC3 (P : Params) : List Obj := [stA90 P, stA91 P, stA92 P, stA93 P, stA94 P, stA95 P, stA96 P, stA97 P, stA98 P, stA99 P, stA100 P, stA101 P, stA102 P, stA103 P, stC104 P, stC105 P, stC106 P]
noncomputable def hpC (P : Params) : Heap := ⟨⟨hpC0 P ++ hpC1 P ++ hpC2 P ++ hpC3 P⟩, {}⟩
end Mine
namespace Mine
noncomputable def tAll : List Stmt := behindTheImports pR.prog
noncomputable def tEnv : Env := { scope := pR.prog.main.scope, locals := mainNs, globals := mainNs, cells := [], code := .ref 13, frame := some 14 }
noncomputable def tCode : Code := .body tAll tEnv
noncomputable def tPos : Pos := ⟨0, 0, 0, 0⟩
noncomputable def tAnn : Option Value := some (.ref 6)
noncomputable def shAt (h : Heap) (k : Nat) (os : OsState) : Shared := ⟨h, Array.mk [], boot_drawn, k, os⟩
set_option maxRecDepth 1000000 in
set_option maxHeartbeats 0 in
theorem pre_ok (w : World) (os : OsState) : topGo treeTable pR.prog w 11 tAnn 12 (shAt (boot_heap w.params) boot_toks os) (topStub pR.prog) = some (shAt (hpPRE w.params) 187 os, ⟨denote treeTable tCode, tCode, tPos, [topFrame tPos]⟩) := by kernel_rfl
set_option maxRecDepth 1000000 in
set_option maxHeartbeats 0 in
theorem block_ok (w : World) (os : OsState) : segRun treeTable pR.prog w 11 tAnn 1 1 (shAt (hpPRE w.params) 187 os) (blockOf tAll tEnv tCode tPos [topFrame tPos]) = some (.next, shAt (hpPRE w.params) 187 os, tCode, tPos) := by kernel_rfl
set_option maxRecDepth 1000000 in
set_option maxHeartbeats 0 in
theorem a_ok (w : World) (os : OsState) : segRun treeTable pR.prog w 11 tAnn 1 548 (shAt (hpPRE w.params) 187 os) (piecesOf (tAll.take 4) tEnv tCode tPos [topFrame tPos]) = some (.next, shAt (hpA w.params) 292 os, tCode, ⟨6, 0, 36, 16⟩) := by kernel_rfl
set_option maxRecDepth 1000000 in
set_option maxHeartbeats 0 in
theorem d_ok (w : World) (os : OsState) : segRun treeTable pR.prog w 11 tAnn 1 217 (shAt (hpA w.params) 292 os) (piecesOf ((tAll.drop 4).take 24) tEnv tCode ⟨6, 0, 36, 16⟩ [topFrame tPos]) = some (.next, shAt (hpD w.params) 340 os, tCode, ⟨60, 0, 60, 12⟩) := by kernel_rfl
set_option maxRecDepth 1000000 in
set_option maxHeartbeats 0 in
theorem b_ok (w : World) (os : OsState) : segRun treeTable pR.prog w 11 tAnn 1 217 (shAt (hpD w.params) 340 os) (piecesOf ((tAll.drop 28).take 24) tEnv tCode ⟨60, 0, 60, 12⟩ [topFrame tPos]) = some (.next, shAt (hpB w.params) 388 os, tCode, ⟨84, 0, 84, 11⟩) := by kernel_rfl
noncomputable def cAsk (w : World) : Prop := ∀ os : OsState, segRun treeTable pR.prog w 11 tAnn 1 979 (shAt (hpB w.params) 388 os) (piecesOf ((tAll.drop 52).take 1) tEnv tCode ⟨84, 0, 84, 11⟩ [topFrame tPos]) = some (.next, shAt (hpC w.params) 485 os, tCode, ⟨85, 0, 85, 17⟩)
set_option maxRecDepth 1000000 in
set_option maxHeartbeats 0 in
theorem c_f (w : World) : cAsk (w.withFollow "special-get-raises" false) := by
  intro os
  kernel_rfl
set_option maxRecDepth 1000000 in
set_option maxHeartbeats 0 in
theorem c_t (w : World) : cAsk (w.withFollow "special-get-raises" true) := by
  intro os
  kernel_rfl
theorem c_ok (w : World) : cAsk w := byRow2 "special-get-raises" c_f c_t w
noncomputable def finLook (P : Params) (s₁ : Shared) : Option Shared := match staticsOk (importedModules pR.prog.main.body) (boot_heap P) s₁.heap && namesBound pR.prog s₁.heap && gensDone s₁ && laidKept (boot_heap P) s₁.heap with
  | true => some s₁
  | false => none
set_option maxRecDepth 1000000 in
set_option maxHeartbeats 0 in
theorem fin_ok (w : World) (os : OsState) : ((topRun treeTable pR.prog w 11 tAnn 400 (shAt (hpC w.params) 485 os) (restOf (tAll.drop 53) tEnv tCode ⟨85, 0, 85, 17⟩ [topFrame tPos])).bind (finLook w.params)).map (fun s => (openSeen pQ pL (importedModules pR.prog.main.body) pX true s, pH.obs s)) = some (openGood pQ pL, pH.val w) := by kernel_rfl
end Mine
namespace Mine
theorem parts_all : tAll.take 4 ++ ((tAll.drop 4).take 24 ++ ((tAll.drop 28).take 24 ++ ((tAll.drop 52).take 1 ++ tAll.drop 53))) = tAll := by kernel_rfl
theorem run_all (w : World) (os : OsState) : ∃ r, topRun treeTable pR.prog w 11 tAnn (12 + (1 + (548 + (217 + (217 + (979 + 400)))))) (shAt (boot_heap w.params) boot_toks os) (topStub pR.prog) = some r ∧ (finLook w.params r).map (fun s => (openSeen pQ pL (importedModules pR.prog.main.body) pX true s, pH.obs s)) = some (openGood pQ pL, pH.val w) := by
  have fin := fin_ok w os
  cases hr : topRun treeTable pR.prog w 11 tAnn 400 (shAt (hpC w.params) 485 os) (restOf (tAll.drop 53) tEnv tCode ⟨85, 0, 85, 17⟩ [topFrame tPos]) with
  | none => rw [hr] at fin; cases fin
  | some r =>
    rw [hr] at fin
    refine ⟨r, ?_, fin⟩
    have k1 := piece_app (a_ok w os) (piece_app (d_ok w os) (piece_app (b_ok w os) (piece_app (c_ok w os) hr)))
    rw [parts_all] at k1
    exact go_top (pre_ok w os) (piece_block (block_ok w os) k1)
theorem opening_is : opening pR.prog = plainProg pR.prog.main.scope.names := by kernel_rfl
theorem no_fence (s : Shared) : fenceModules? pR.prog s = some s := by kernel_rfl
theorem boot_is (w : World) : (fencedOpening treeTable pR.prog w 5000).map (fun s => (s.heap, s.gens, s.drawn, s.toks)) = some (boot_heap w.params, Array.mk [], boot_drawn, boot_toks) := boot_open opening_is rfl no_fence w
theorem start_size (w : World) : ((boot_heap w.params).isNs mainGlobals && (Array.mk [] : Array GenState).size == 0, (boot_heap w.params).objs.size, (boot_heap w.params).nsMap mainGlobals "__annotations__") = (true, 11, tAnn) := by kernel_rfl
/-- the top from a start whose three looks are told -/
theorem top_from {tb : String → Option Builtin} {p : Program} {w : World} {N n : Nat} {s₀ r : Shared} {ann : Option Value}
    (z1 : (s₀.heap.isNs mainGlobals && s₀.gens.size == 0) = true) (z2 : s₀.heap.objs.size = n) (z3 : s₀.heap.nsMap mainGlobals "__annotations__" = ann)
    (hm : topRun tb p w n ann N s₀ (topStub p) = some r) :
    topFrom tb p w N s₀ = match staticsOk (importedModules p.main.body) s₀.heap r.heap && namesBound p r.heap && gensDone r && laidKept s₀.heap r.heap with
      | true => some r
      | false => none := by
  unfold topFrom
  rw [z1, z2, z3]
  show (topRun tb p w n ann N s₀ (topStub p)).bind _ = _
  rw [hm]
  rfl
theorem top_is (w : World) (os : OsState) {r : Shared} (hm : topRun treeTable pR.prog w 11 tAnn 5000 (shAt (boot_heap w.params) boot_toks os) (topStub pR.prog) = some r) : topFrom treeTable pR.prog w 5000 (shAt (boot_heap w.params) boot_toks os) = finLook w.params r := by
  obtain ⟨z1, z2, z3⟩ : _ ∧ _ ∧ _ := by simpa only [Prod.mk.injEq] using start_size w
  rw [top_from (s₀ := shAt (boot_heap w.params) boot_toks os) z1 z2 z3 hm]
  rfl
theorem steps_n : (12 + (1 + (548 + (217 + (217 + (979 + 400)))))) + 2626 = 5000 := by decide
theorem run_n (w : World) (os : OsState) : ∃ r, topRun treeTable pR.prog w 11 tAnn 5000 (shAt (boot_heap w.params) boot_toks os) (topStub pR.prog) = some r ∧ (finLook w.params r).map (fun s => (openSeen pQ pL (importedModules pR.prog.main.body) pX true s, pH.obs s)) = some (openGood pQ pL, pH.val w) := by
  obtain ⟨r, hr, hl⟩ := run_all w os
  have hm := topRun_mono 2626 _ _ _ _ hr
  rw [steps_n] at hm
  exact ⟨r, hm, hl⟩
/-- the end, from any pair of an opening and what comes behind -/
theorem ends_of {tb : String → Option Builtin} {p : Program} {w : World} {N : Nat} {s₀ : Shared} {α : Type} {f : Shared → α} {y : α} (e : fencedOpening tb p w N = some s₀) (h : (topFrom tb p w N s₀).map f = some y) : (openEnds tb p w N).map f = some y := by
  unfold openEnds
  rw [e]
  exact h
theorem left_all2 (w : World) : pEnd w := by
  obtain ⟨⟨h, gs, d, k, os⟩, e, e'⟩ := Option.map_eq_some_iff.mp (boot_is w)
  obtain ⟨rfl, rfl, rfl, rfl⟩ : h = boot_heap w.params ∧ gs = Array.mk [] ∧ d = boot_drawn ∧ k = boot_toks := by simpa using e'
  obtain ⟨r, hm, hl⟩ := run_n w os
  unfold pEnd
  refine ends_of e ?_
  have t := top_is w os hm
  unfold shAt at t
  rw [t]
  exact hl
end Mine
namespace Mine
noncomputable def lw : OpenLaw := PySem.Challenge.rw_xo0021_01
noncomputable def lr : OpenRow := lw.row
noncomputable def lp : Program := lr.prog
theorem sd1 : (sreFenced lp.main && ((moduleNames lp.main.body).isEmpty || lookedIntoSs (moduleNames lp.main.body) lp.main.body)) = true := by kernel_rfl
theorem sd3 : namesResolve lp = true := by kernel_rfl
theorem sd4 : lp.boundNames.all (fun n => !worldNames.contains n) = true := by kernel_rfl
theorem sd5 : noRoadLSs { strict := !(importedModules lp.main.body).all cThrough.contains, foot := none, bare := (["vars", "dir", "locals"] : List Str).filter (readsOut lp lp.main.body) } lp.main.body = true := by kernel_rfl
theorem sd6 : namesMeet lp lp.main.body (fun _ n => attrL n) = true := by kernel_rfl
theorem both {a b : Bool} (h : a = true) (k : b = true) : (a && b) = true := by rw [h, k]; rfl
theorem looks_is : looksOpen lp = true := both (both (both (both sd1 sd3) sd4) sd5) sd6
theorem part_is : lr.partSaid = true := by
  unfold OpenRow.partSaid
  refine both (both (both (both (both (both (both (both (both (both (both (both (both looks_is ?_) ?_) ?_) ?_) ?_) ?_) ?_) ?_) ?_) ?_) ?_) ?_) ?_ <;> kernel_rfl
theorem sd9 : (lr.prog.boundNames.contains lr.name) = true := by kernel_rfl
theorem sd10 : (!startupNames.contains lr.name) = true := by kernel_rfl
theorem row_is : lr.wellSaid = true := both (both part_is sd9) sd10
theorem te1 : decide (lw.foot ≤ (behindTheImports lw.prog).length) = true := by kernel_rfl
theorem te2 : lw.footing.all footLine = true := by kernel_rfl
theorem te3 : noClassBlock lw.prog lw.footing = true := by kernel_rfl
theorem te4 : (lw.most.all (fun n => decide (63 ≤ n))) = true := by kernel_rfl
theorem te5 : (lw.bound.all (fun n => decide (2 ^ 63 ≤ n))) = true := by kernel_rfl
theorem te6 : noRoadLSs { strict := true, foot := some lw.bound', writes := lw.writes, may := lw.may } lw.footing = true := by kernel_rfl
theorem te7 : defStands lw.about lw.above = true := by kernel_rfl
theorem te8 : lw.namesIt = true := by kernel_rfl
theorem te9 : (["type", "isinstance", "issubclass", "getattr", "hasattr"] : List Str).all (fun n => lw.about != [n]) = true := by kernel_rfl
theorem te10 : lw.bound'.all (fun n => !builtinNamed n || lw.about == [n] || !lw.reads n) = true := by kernel_rfl
theorem te11 : (!lw.writes || (lw.prog.main.body.flatMap importedNames).all fun n => !lw.reads n) = true := by kernel_rfl
theorem te12 : (lw.prog.main.body.flatMap importedNames).all (fun n => !lw.reads n || (drawsOf n lw.prog.main.body).all fun mn => mn.2 != ("attrgetter" : Str) && mn.2 != ("methodcaller" : Str)) = true := by kernel_rfl
theorem te13 : namesMeet lw.prog lw.footing (fun sc n => (!(["type", "isinstance", "issubclass", "getattr", "hasattr"] : List Str).contains n || sc.names.lookup n == some .globalImplicit) &&
    (lw.may != some n || sc.kind == .module || sc.names.lookup n == some .globalImplicit)) = true := by kernel_rfl
theorem te14 : lw.own.contains lw.name = true := by kernel_rfl
theorem te15 : (lw.own.eraseDups.length == lw.own.length) = true := by kernel_rfl
theorem te16 : lw.own.all (fun n => !builtinNamed n) = true := by kernel_rfl
theorem te17 : namesMeet lw.prog lw.above (fun _ n => !lw.own.contains n) = true := by kernel_rfl
theorem te18 : namesMeet lw.prog lw.footing (fun sc n => sc.kind == .module || sc.names.lookup n != some .globalExplicit) = true := by kernel_rfl
theorem said_w : lw.wellSaid = true := by
  unfold OpenLaw.wellSaid
  exact both (both (both (both (both (both (both (both (both (both (both (both (both (both (both (both (both (both row_is te1) te2) te3) te4) te5) te6) te7) te8) te9) te10) te11) te12) te13) te14) te15) te16) te17) te18
theorem said_all : PySem.Challenge.rw_xo0021_01.wellSaid = true := said_w
theorem ha1 : defOf pQ lr.name = some (pDK.1, pDK.2) := by kernel_rfl
theorem ha2 : lr.prog.theDef lr.name = some (pDK.1.params, pDK.1.body, pDK.1.scope) := by kernel_rfl
theorem ha3 : kwWritten? pDK.1.params.kwonlyargs pDK.1.params.kw_defaults = some pDK.2 := by kernel_rfl
theorem ha4 : (!lr.writes || lr.records.isEmpty) = true := by kernel_rfl
theorem hc1 : chainsOk pQ = true := by kernel_rfl
theorem hc2 : opensWell lr.prog = true := by kernel_rfl
theorem hc3 : (frees lr.toRowW && lr.within.isEmpty) = true := by kernel_rfl
theorem hbare : lr.prog.bare := by refine ⟨?_, ?_, ?_, ?_, ?_, ?_⟩ <;> kernel_rfl
theorem hprom : lr.toRowW.promised := by
  show RowW.promised (OpenRow.toRowW (OpenLaw.row PySem.Challenge.rw_xo0021_01))
  w_witness2
theorem hd1 (walk : WalkO pQ pL (XL pQ []) (Hook.says pH) lr.toRowW pDK.1 pDK.2 fun f vs => PySem.call f vs) : lw.Holds :=
  holds_law said_w fun said =>
    holds_open (r := lr) (q := pQ) (loose := pL) (Xt := pX) (XP := XL pQ []) (Yf := Hook.obs pH) (Ya := Hook.val pH) (YP := Hook.says pH) (d := pDK.1) (kwd := pDK.2) (N := 5000) left_all2 (Hook.of _) (Hook.keeps _) (fun s e => xl_of s (Bool.and_eq_true_iff.mp e).1) XL.keeps ha1 ha2 ha3 (fun s e => recFacts_of (Bool.and_eq_true_iff.mp e).2) ha4 said (both (both hc1 hc2) hc3) hbare hprom walk
theorem hd0 (walk : WalkO pQ pL (XL pQ []) (Hook.says pH) PySem.Challenge.rw_xo0021_01.row.toRowW pDK.1 pDK.2 fun f vs => PySem.call f vs) : PySem.Challenge.rw_xo0021_01.Holds := hd1 walk
end Mine
namespace Mine
/-! A small logic over the semantics: a state of plain data (a list of objects, each by its number), what a tree does to it. -/
inductive V where
  | none
  | bool (b : Bool)
  | int (i : Int)
  | str (s : Str)
  | ref (n : Nat)
  | ext (v : Value)
noncomputable def RV (ρ : List Addr) : V → Value → Prop
  | .none, v => v = .none
  | .bool b, v => v = .bool b
  | .int i, v => ∃ t, v = .int i t
  | .str s, v => ∃ t, v = .str s t
  | .ref n, v => ∃ a, ρ[n]? = some a ∧ v = .ref a
  | .ext x, v => v = x
theorem nodup_get {α : Type} {l : List α} (h : l.Nodup) {i j : Nat} {a : α} (h1 : l[i]? = some a) (h2 : l[j]? = some a) : i = j := by
  obtain ⟨l1, e1⟩ := List.getElem?_eq_some_iff.mp h1
  obtain ⟨l2, e2⟩ := List.getElem?_eq_some_iff.mp h2
  have p := List.pairwise_iff_getElem.mp h
  rcases Nat.lt_trichotomy i j with q | q | q
  · exact absurd (e1.trans e2.symm) (p i j l1 l2 q)
  · exact q
  · exact absurd (e2.trans e1.symm) (p j i l2 l1 q)
theorem get_mono {ρ ρ' : List Addr} (p : ρ <+: ρ') {n : Nat} {a : Addr} (h : ρ[n]? = some a) : ρ'[n]? = some a := by
  obtain ⟨e, rfl⟩ := p
  have hl := (List.getElem?_eq_some_iff.mp h).1
  rw [List.getElem?_append_left hl]; exact h
theorem RV.mono {ρ ρ' : List Addr} (p : ρ <+: ρ') {v : V} {x : Value} (h : RV ρ v x) : RV ρ' v x := by
  cases v <;> first | exact h | (obtain ⟨a, h1, h2⟩ := h; exact ⟨a, get_mono p h1, h2⟩)
inductive RVs (ρ : List Addr) : List V → List Value → Prop where
  | nil : RVs ρ [] []
  | cons {v : V} {x : Value} {vs : List V} {xs : List Value} : RV ρ v x → RVs ρ vs xs → RVs ρ (v :: vs) (x :: xs)
section
variable {ρ ρ' : List Addr} {vs ws : List V} {xs ys : List Value}
theorem RVs.mono (p : ρ <+: ρ') (h : RVs ρ vs xs) : RVs ρ' vs xs := by
  induction h with
  | nil => exact .nil
  | cons a _ ih => exact .cons (a.mono p) ih
theorem RVs.length (h : RVs ρ vs xs) : xs.length = vs.length := by
  induction h with
  | nil => rfl
  | cons _ _ ih => simp [ih]
theorem RVs.get (h : RVs ρ vs xs) {i : Nat} {v : V} (e : vs[i]? = some v) : ∃ x, xs[i]? = some x ∧ RV ρ v x := by
  induction h generalizing i with
  | nil => cases e
  | cons a _ ih =>
    cases i with
    | zero => cases e; exact ⟨_, rfl, a⟩
    | succ i => exact ih (by simpa using e)
theorem RVs.append (h : RVs ρ vs xs) (k : RVs ρ ws ys) : RVs ρ (vs ++ ws) (xs ++ ys) := by
  induction h with
  | nil => exact k
  | cons a _ ih => exact .cons a ih
theorem RVs.one {v : V} {x : Value} (h : RV ρ v x) : RVs ρ [v] [x] := .cons h .nil
theorem RVs.take (h : RVs ρ vs xs) (n : Nat) : RVs ρ (vs.take n) (xs.take n) := by
  induction h generalizing n with
  | nil => simpa using RVs.nil
  | cons a _ ih => cases n with
    | zero => exact .nil
    | succ n => exact .cons a (ih n)
theorem RVs.drop (h : RVs ρ vs xs) (n : Nat) : RVs ρ (vs.drop n) (xs.drop n) := by
  induction h generalizing n with
  | nil => simpa using RVs.nil
  | cons a r ih => cases n with
    | zero => exact .cons a r
    | succ n => exact ih n
theorem RVs.set (h : RVs ρ vs xs) {i : Nat} {v : V} {x : Value} (e : RV ρ v x) : RVs ρ (vs.set i v) (xs.set i x) := by
  induction h generalizing i with
  | nil => exact .nil
  | cons a r ih => cases i with
    | zero => exact .cons e r
    | succ i => exact .cons a (ih (i := i))
end
noncomputable def ROp (ρ : List Addr) : Option V → Option Value → Prop
  | none, w => w = none
  | some v, w => ∃ x, w = some x ∧ RV ρ v x
theorem ROp.mono {ρ ρ' : List Addr} (p : ρ <+: ρ') {v : Option V} {w : Option Value} (h : ROp ρ v w) : ROp ρ' v w := by
  cases v with
  | none => exact h
  | some v => obtain ⟨x, h1, h2⟩ := h; exact ⟨x, h1, h2.mono p⟩
/-- what stands under a number -/
inductive O where
  | list (xs : List V)
  | tup (xs : List V)
  | cell (v : Option V)
  | frame (ns : List Str) (vs : List (Option V))
  | acc (C : Addr) (d : Nat) (xs : List V)
  | obj (P : Addr → Obj → Prop)
noncomputable def RFr (ρ : List Addr) (ns : List Str) (vs : List (Option V)) (m : Str → Option Value) : Prop := ∀ (i : Nat) (x : Str), ns[i]? = some x → ROp ρ (vs[i]?.join) (m x)
noncomputable def RO (ρ : List Addr) (at_ : Addr) : O → Obj → Prop
  | .list xs, o => ∃ ws n, o = ({ cls := .type "list", data := .seq ws n } : Obj) ∧ RVs ρ xs ws.toList
  | .tup xs, o => ∃ ws n, o = ({ cls := .type "tuple", data := .seq ws n } : Obj) ∧ RVs ρ xs ws.toList
  | .cell v, o => ∃ w, o.data = .cell w ∧ ROp ρ v w
  | .frame ns vs, o => ∃ es ep m, o.data = .dict es ep ∧ StrKeys es ∧ (∀ x, nsFind es x = m x) ∧ RFr ρ ns vs m
  | .acc C d xs, o => ∃ ws n a, o = ({ cls := .ref C, dict := some a, data := .seq ws n } : Obj) ∧ ρ[d]? = some a ∧ RVs ρ xs ws.toList
  | .obj P, o => P at_ o
theorem RO.mono {ρ ρ' : List Addr} (p : ρ <+: ρ') {v : O} {a : Addr} {o : Obj} (h : RO ρ a v o) : RO ρ' a v o := by
  cases v with
  | list xs => obtain ⟨ws, n, h1, h2⟩ := h; exact ⟨ws, n, h1, h2.mono p⟩
  | tup xs => obtain ⟨ws, n, h1, h2⟩ := h; exact ⟨ws, n, h1, h2.mono p⟩
  | cell v => obtain ⟨w, h1, h2⟩ := h; exact ⟨w, h1, h2.mono p⟩
  | frame ns vs =>
    obtain ⟨es, ep, m, h1, h2, h3, h4⟩ := h
    exact ⟨es, ep, m, h1, h2, h3, fun i x hx => ROp.mono p (h4 i x hx)⟩
  | acc C d xs => obtain ⟨ws, n, a, h1, h2, h3⟩ := h; exact ⟨ws, n, a, h1, get_mono p h2, h3.mono p⟩
  | obj P => exact h
/-- what no call here changes -/
structure Glo where
  prog : Program
  w : World
  K : Frag
  p : Program
  loose : List Str
  mg : Str → Option Value
  mb : Str → Option Value
  h₀ : Heap
  os : OsState
  X : K.In h₀
  T : TopRead p loose mg mb h₀
  lo : Nat
noncomputable def isFrameO : O → Bool
  | .frame .. => true
  | _ => false
structure Sim (G : Glo) (ρ : List Addr) (S : List O) (s : Shared) : Prop where
  keep : ∀ b o, G.h₀.get? b = some o → s.heap.get? b = some o
  len : ρ.length = S.length
  nodup : ρ.Nodup
  own : ∀ (i : Nat) (o : O), S[i]? = some o → ∃ a ob, ρ[i]? = some a ∧ s.heap.get? a = some ob ∧ RO ρ a o ob
  new : ∀ a ∈ ρ, G.h₀.get? a = none
  low : ∀ a ∈ ρ, 2 < a
  os : s.os = G.os
  gens : AllBare s.gens
  toks : G.lo ≤ s.toks
section
variable {G : Glo} {ρ : List Addr} {S : List O} {s : Shared}
theorem Sim.keeps (H : Sim G ρ S s) {s' : Shared} (k : ∀ b o, s.heap.get? b = some o → s'.heap.get? b = some o) (hg : s'.gens = s.gens) (ho : s'.os = s.os) (ht : G.lo ≤ s'.toks) : Sim G ρ S s' :=
  ⟨fun b o e => k b o (H.keep b o e), H.len, H.nodup, fun i o e => let ⟨a, ob, h1, h2, h3⟩ := H.own i o e; ⟨a, ob, h1, k a ob h2, h3⟩, H.new, H.low, ho.trans H.os, hg ▸ H.gens, ht⟩
theorem Sim.same (H : Sim G ρ S s) {s' : Shared} (k : s'.heap = s.heap) (hg : s'.gens = s.gens) (ho : s'.os = s.os) (ht : G.lo ≤ s'.toks) : Sim G ρ S s' := H.keeps (fun b o e => k ▸ e) hg ho ht
theorem Sim.live (H : Sim G ρ S s) {a : Addr} (ha : a ∈ ρ) : ∃ o, s.heap.get? a = some o := by
  obtain ⟨i, hi⟩ := List.getElem?_of_mem ha
  have hl : i < S.length := H.len ▸ (List.getElem?_eq_some_iff.mp hi).1
  obtain ⟨b, ob, h1, h2, _⟩ := H.own i S[i] (List.getElem?_eq_getElem hl)
  rw [hi] at h1; cases h1; exact ⟨ob, h2⟩
theorem Sim.lt (H : Sim G ρ S s) {a : Addr} (ha : a ∈ ρ) : a < s.heap.objs.size := let ⟨_, e⟩ := H.live ha; Heap.lt_size e
theorem Sim.fresh (H : Sim G ρ S s) : G.h₀.get? s.heap.objs.size = none := by
  cases q : G.h₀.get? s.heap.objs.size with
  | none => rfl
  | some o => exact absurd (Heap.lt_size (H.keep _ _ q)) (Nat.lt_irrefl _)
theorem Sim.big (H : Sim G ρ S s) : 2 < s.heap.objs.size := by
  obtain ⟨mc, hn, _⟩ := G.T.nolimit.keeps H.keep
  exact hn.lt
/-- a new object, at an address that no object had -/
theorem Sim.add (H : Sim G ρ S s) {s' : Shared} {a : Addr} {ob : Obj} {o : O} (k : ∀ b x, s.heap.get? b = some x → s'.heap.get? b = some x) (hn : s.heap.get? a = none) (hlo : 2 < a) (e : s'.heap.get? a = some ob) (r : RO (ρ ++ [a]) a o ob) (hg : s'.gens = s.gens) (ho : s'.os = s.os) (ht : G.lo ≤ s'.toks) : Sim G (ρ ++ [a]) (S ++ [o]) s' := by
  have H' := H.keeps k hg ho ht
  have na : a ∉ ρ := fun h => by obtain ⟨x, hx⟩ := H.live h; rw [hn] at hx; cases hx
  refine ⟨H'.keep, by simp [H.len], List.nodup_append.mpr ⟨H.nodup, by simp, fun x hx y hy => by rw [List.mem_singleton.mp hy]; rintro rfl; exact na hx⟩, fun i x hi => ?_, fun b hb => ?_, fun b hb => ?_, H'.os, H'.gens, ht⟩
  · by_cases hl : i < S.length
    · rw [List.getElem?_append_left hl] at hi
      obtain ⟨b, ob', h1, h2, h3⟩ := H'.own i x hi
      exact ⟨b, ob', get_mono (List.prefix_append ..) h1, h2, h3.mono (List.prefix_append ..)⟩
    · have hi' : i = S.length := by
        have := (List.getElem?_eq_some_iff.mp hi).1
        simp at this; omega
      subst hi'
      rw [List.getElem?_append_right (Nat.le_refl _), Nat.sub_self] at hi
      cases hi
      exact ⟨a, ob, by rw [← H.len]; simp, e, r⟩
  · rcases List.mem_append.mp hb with hb | hb
    · exact H.new b hb
    · rw [List.mem_singleton.mp hb]
      cases q : G.h₀.get? a with
      | none => rfl
      | some o' => rw [H.keep _ _ q] at hn; cases hn
  · rcases List.mem_append.mp hb with hb | hb
    · exact H.low b hb
    · rw [List.mem_singleton.mp hb]; exact hlo
theorem get_size (h : Heap) : h.get? h.objs.size = none := by
  cases q : h.get? h.objs.size with
  | none => rfl
  | some o => exact absurd (Heap.lt_size q) (Nat.lt_irrefl _)
theorem Sim.push (H : Sim G ρ S s) {s' : Shared} {ob : Obj} {o : O} (hh : s'.heap = s.heap.push ob) (hf : ob.isFreed = false) (r : RO (ρ ++ [s.heap.objs.size]) s.heap.objs.size o ob) (hg : s'.gens = s.gens) (ho : s'.os = s.os) (ht : G.lo ≤ s'.toks) : Sim G (ρ ++ [s.heap.objs.size]) (S ++ [o]) s' :=
  H.add (fun b x e => hh ▸ Heap.get?_push_of_some _ e) (get_size _) H.big (hh ▸ Heap.get?_push_size _ hf) r hg ho ht
/-- an object of one's own turned -/
theorem Sim.upd (H : Sim G ρ S s) {s' : Shared} {a : Addr} {ob : Obj} {o o₀ : O} {i : Nat} (hi : S[i]? = some o₀) (ha : ρ[i]? = some a) (k : ∀ b x, b ≠ a → s.heap.get? b = some x → s'.heap.get? b = some x) (e : s'.heap.get? a = some ob) (r : RO ρ a o ob) (hg : s'.gens = s.gens) (ho : s'.os = s.os) (ht : G.lo ≤ s'.toks) : Sim G ρ (S.set i o) s' := by
  have hm : a ∈ ρ := List.mem_of_getElem? ha
  refine ⟨fun b x hx => k b x (fun q => by rw [q, H.new a hm] at hx; cases hx) (H.keep b x hx), by simp [H.len], H.nodup, fun j x hj => ?_, H.new, H.low, ho.trans H.os, hg ▸ H.gens, ht⟩
  by_cases q : j = i
  · subst q
    have hl := (List.getElem?_eq_some_iff.mp hi).1
    rw [List.getElem?_set_self hl] at hj
    cases hj
    exact ⟨a, ob, ha, e, r⟩
  · rw [List.getElem?_set_ne (fun z => q z.symm)] at hj
    obtain ⟨b, ob', h1, h2, h3⟩ := H.own j x hj
    refine ⟨b, ob', h1, k b ob' (fun z => ?_) h2, h3⟩
    subst z
    exact q (nodup_get H.nodup h1 ha)
end
/-- what stood and was not one's own stands; what is new was free -/
structure Ext (ρ ρ' : List Addr) (s s' : Shared) : Prop where
  pre : ρ <+: ρ'
  keep : ∀ b o, b ∉ ρ → s.heap.get? b = some o → s'.heap.get? b = some o
  new : ∀ a ∈ ρ', a ∉ ρ → s.heap.get? a = none
theorem Ext.refl {ρ : List Addr} {s : Shared} : Ext ρ ρ s s := ⟨List.prefix_refl _, fun _ _ _ e => e, fun a h n => absurd h n⟩
theorem Ext.same {ρ : List Addr} {s s' : Shared} (k : s'.heap = s.heap) : Ext ρ ρ s s' := ⟨List.prefix_refl _, fun _ _ _ e => k ▸ e, fun a h n => absurd h n⟩
theorem Ext.keeps {ρ : List Addr} {s s' : Shared} (k : ∀ b o, s.heap.get? b = some o → s'.heap.get? b = some o) : Ext ρ ρ s s' := ⟨List.prefix_refl _, fun b o _ e => k b o e, fun a h n => absurd h n⟩
theorem Ext.upd {ρ : List Addr} {s s' : Shared} {a : Addr} (ha : a ∈ ρ) (k : ∀ b x, b ≠ a → s.heap.get? b = some x → s'.heap.get? b = some x) : Ext ρ ρ s s' :=
  ⟨List.prefix_refl _, fun b o hb e => k b o (fun q => hb (q ▸ ha)) e, fun a h n => absurd h n⟩
theorem Ext.add {ρ : List Addr} {s s' : Shared} {a : Addr} (k : ∀ b x, s.heap.get? b = some x → s'.heap.get? b = some x) (hn : s.heap.get? a = none) : Ext ρ (ρ ++ [a]) s s' :=
  ⟨List.prefix_append _ _, fun b o _ e => k b o e, fun b h n => by
    rcases List.mem_append.mp h with h | h
    · exact absurd h n
    · rw [List.mem_singleton.mp h]; exact hn⟩
theorem Ext.push {ρ : List Addr} {s s' : Shared} {ob : Obj} (hh : s'.heap = s.heap.push ob) : Ext ρ (ρ ++ [s.heap.objs.size]) s s' :=
  Ext.add (fun b x e => hh ▸ Heap.get?_push_of_some _ e) (get_size _)
theorem Ext.trans {ρ ρ1 ρ2 : List Addr} {s s1 s2 : Shared} (p : Ext ρ ρ1 s s1) (q : Ext ρ1 ρ2 s1 s2) : Ext ρ ρ2 s s2 := by
  refine ⟨p.pre.trans q.pre, fun b o hb e => q.keep b o (fun h => ?_) (p.keep b o hb e), fun a h n => ?_⟩
  · rw [p.new b h hb] at e; cases e
  · by_cases m : a ∈ ρ1
    · exact p.new a m n
    · cases e : s.heap.get? a with
      | none => rfl
      | some o => have := p.keep a o n e; rw [q.new a h m] at this; cases this
structure AEnv where
  scope : Scope
  fid : Nat
  cells : List (Str × Nat)
structure EnvOk (E : AEnv) (env : Env) (ρ : List Addr) : Prop where
  scope : env.scope = E.scope
  kind : E.scope.kind = .function
  loc : ρ[E.fid]? = some env.locals
  cell : ∀ x n, E.cells.lookup x = some n → ∃ a, env.cells.lookup x = some a ∧ ρ[n]? = some a
  glob : env.globals = mainGlobals
  blt : env.builtins = builtinsNs
theorem EnvOk.mono {E : AEnv} {env : Env} {ρ ρ' : List Addr} (p : ρ <+: ρ') (h : EnvOk E env ρ) : EnvOk E env ρ' :=
  ⟨h.scope, h.kind, get_mono p h.loc, fun x n e => let ⟨a, h1, h2⟩ := h.cell x n e; ⟨a, h1, get_mono p h2⟩, h.glob, h.blt⟩
structure GoodA (A : Around) (n : Nat) : Prop where
  handled : A.handled = none
  depth : A.depth + n < recursionLimit
  units : A.units + 16 * n + 40 < cLine
theorem GoodA.less {A : Around} {n m : Nat} (h : GoodA A n) (hm : m ≤ n) : GoodA A m := ⟨h.handled, by have := h.depth; omega, by have := h.units; omega⟩
/-- from s the tree ends, in S', with an answer told by b -/
noncomputable def Run {α β : Type} (R : List Addr → β → α → Prop) (G : Glo) (A : Around) (ρ : List Addr) (s : Shared) (t : Sem α) (b : β) (S' : List O) : Prop :=
  ∀ Q : α → Shared → Prop, (∀ ρ' s' a, Ext ρ ρ' s s' → Sim G ρ' S' s' → R ρ' b a → Q a s') → wpAny (model G.prog G.w) A t Q (fun _ _ => False) s
theorem Run.mk {α β : Type} {R : List Addr → β → α → Prop} {G : Glo} {A : Around} {ρ : List Addr} {s : Shared} {t : Sem α} {b : β} {S S' : List O} (hS : Sim G ρ S s)
    (h : ∀ Q : α → Shared → Prop, (∀ ρ' s' a, Ext ρ ρ' s s' → (G.lo ≤ s'.toks → Sim G ρ' S' s') → R ρ' b a → Q a s') → wpAny (model G.prog G.w) A t Q (fun _ _ => False) s) : Run R G A ρ s t b S' :=
  fun Q k => wpAny_with_toks hS.toks (wpAny_mono (h (fun a s' => G.lo ≤ s'.toks → Q a s') fun ρ' s' a p hs r ht => k ρ' s' a p (hs ht) r) (fun _ _ x => x) fun _ _ x => x.elim)
theorem Run.bind {α β γ δ : Type} {R : List Addr → β → α → Prop} {R2 : List Addr → δ → γ → Prop} {G : Glo} {A : Around} {ρ : List Addr} {s : Shared} {t : Sem α} {f : α → Sem γ} {b : β} {d : δ} {S1 S2 : List O}
    (h1 : Run R G A ρ s t b S1) (h2 : ∀ ρ1 s1 a, Ext ρ ρ1 s s1 → Sim G ρ1 S1 s1 → R ρ1 b a → Run R2 G A ρ1 s1 (f a) d S2) : Run R2 G A ρ s (t >>= f) d S2 :=
  fun Q k => wpAny_bind (h1 _ fun ρ1 s1 a p1 hS1 r1 => h2 ρ1 s1 a p1 hS1 r1 Q fun ρ2 s2 a2 p2 hS2 r2 => k ρ2 s2 a2 (p1.trans p2) hS2 r2)
inductive Fl where
  | next
  | ret (v : V)
noncomputable def RF (ρ : List Addr) : Fl → Flow → Prop
  | .next, f => f = .next
  | .ret v, f => ∃ x, f = .ret x ∧ RV ρ v x
noncomputable def RB (_ : List Addr) (b : Bool) (c : Bool) : Prop := c = b
noncomputable def RU (_ : List Addr) (_ : Unit) (_ : Unit) : Prop := True
noncomputable def Ev (G : Glo) (n : Nat) (E : AEnv) (e : Expr) (S : List O) (v : V) (S' : List O) : Prop :=
  ∀ A env ρ s, GoodA A n → EnvOk E env ρ → Sim G ρ S s → Run RV G A ρ s (eval e env) v S'
noncomputable def Evs (G : Glo) (n : Nat) (E : AEnv) (es : List Expr) (S : List O) (vs : List V) (S' : List O) : Prop :=
  ∀ A env ρ s pos, GoodA A n → EnvOk E env ρ → Sim G ρ S s → Run RVs G A ρ s (spliced (backTo pos (starEach es env))) vs S'
noncomputable def Tst (G : Glo) (n : Nat) (E : AEnv) (e : Expr) (S : List O) (b : Bool) (S' : List O) : Prop :=
  ∀ A env ρ s, GoodA A n → EnvOk E env ρ → Sim G ρ S s → Run RB G A ρ s (isTrue e env (eval e env)) b S'
noncomputable def Ex (G : Glo) (n : Nat) (E : AEnv) (st : Stmt) (S : List O) (f : Fl) (S' : List O) : Prop :=
  ∀ A env ρ s, GoodA A n → EnvOk E env ρ → Sim G ρ S s → Run RF G A ρ s (exec st env) f S'
noncomputable def Exs (G : Glo) (n : Nat) (E : AEnv) (sts : List Stmt) (S : List O) (f : Fl) (S' : List O) : Prop :=
  ∀ A env ρ s, GoodA A n → EnvOk E env ρ → Sim G ρ S s → Run RF G A ρ s (execs sts env) f S'
/-- the target takes the value -/
noncomputable def Asg (G : Glo) (n : Nat) (E : AEnv) (t : Expr) (v : V) (S : List O) (S' : List O) : Prop :=
  ∀ A env ρ s x, GoodA A n → EnvOk E env ρ → Sim G ρ S s → RV ρ v x → Run RU G A ρ s (assign t env x) () S'
/-- a name takes the value -/
noncomputable def Sto (G : Glo) (E : AEnv) (y : Str) (v : V) (S : List O) (S' : List O) : Prop :=
  ∀ A env ρ s x, EnvOk E env ρ → Sim G ρ S s → RV ρ v x → Run RU G A ρ s (storeName env y x) () S'
/-- a call -/
noncomputable def Cal (G : Glo) (n : Nat) (f : V) (vs : List V) (S : List O) (v : V) (S' : List O) : Prop :=
  ∀ A ρ s g xs, GoodA A n → Sim G ρ S s → RV ρ f g → RVs ρ vs xs → Run RV G A ρ s (call g xs) v S'
section
variable {G : Glo} {n : Nat} {E : AEnv} {S S1 S2 S3 : List O}
theorem Exs.nil : Exs G n E [] S .next S := fun A env ρ s hA hE hS Q k => wpAny_execs_nil (k ρ s _ Ext.refl hS rfl)
theorem Exs.cons {st : Stmt} {r : List Stmt} {f : Fl} (h1 : Ex G n E st S .next S1) (h2 : Exs G n E r S1 f S2) : Exs G n E (st :: r) S f S2 := by
  intro A env ρ s hA hE hS Q k
  refine wpAny_execs_cons (h1 A env ρ s hA hE hS _ fun ρ1 s1 a p1 hS1 r1 => ?_)
  cases r1
  exact h2 A env ρ1 s1 hA (hE.mono p1.pre) hS1 _ fun ρ2 s2 a2 p2 hS2 r2 => k ρ2 s2 a2 (p1.trans p2) hS2 r2
theorem Exs.stop {st : Stmt} {r : List Stmt} {v : V} (h1 : Ex G n E st S (.ret v) S1) : Exs G n E (st :: r) S (.ret v) S1 := by
  intro A env ρ s hA hE hS Q k
  refine wpAny_execs_cons (h1 A env ρ s hA hE hS _ fun ρ1 s1 a p1 hS1 r1 => ?_)
  obtain ⟨x, rfl, hx⟩ := r1
  exact k ρ1 s1 _ p1 hS1 ⟨x, rfl, hx⟩
theorem Ev.int {i : Int} {k : Nat} {pos : Pos} : Ev G n E (.Constant (.int i) k pos) S (.int i) S := fun A env ρ s hA hE hS => Run.mk hS fun Q c =>
  wpAny_Constant_int (c ρ _ _ (Ext.same rfl) (hS.same rfl rfl rfl) ⟨_, rfl⟩)
theorem Ev.str {x : Str} {k : Nat} {pos : Pos} : Ev G n E (.Constant (.str x) k pos) S (.str x) S := fun A env ρ s hA hE hS => Run.mk hS fun Q c =>
  wpAny_Constant_str (c ρ _ _ (Ext.same rfl) (hS.same rfl rfl rfl) ⟨_, rfl⟩)
theorem Ev.bool {b : Bool} {k : Nat} {pos : Pos} : Ev G n E (.Constant (.bool b) k pos) S (.bool b) S := fun A env ρ s hA hE hS Q c =>
  wpAny_Constant_bool (c ρ _ _ Ext.refl hS rfl)
theorem ns_of {h : Heap} {a : Addr} {ob : Obj} {ρ : List Addr} {ns : List Str} {vs : List (Option V)} (e : h.get? a = some ob) (r : RO ρ a (.frame ns vs) ob) : ∃ m, h.Ns a m ∧ RFr ρ ns vs m := by
  obtain ⟨es, ep, m, h1, h2, h3, h4⟩ := r
  exact ⟨m, ⟨ob, es, ep, e, h1, h2, h3⟩, h4⟩
/-- a local name -/
theorem Ev.loc {x : Str} {pos : Pos} {ns : List Str} {vs : List (Option V)} (j : Nat) {v : V} (hk : E.scope.names.lookup x = some .local) (hf : S[E.fid]? = some (.frame ns vs)) (hn : ns[j]? = some x) (hv : vs[j]? = some (some v)) (hd : (x == ("__debug__" : Str)) = false := by decide) :
    Ev G n E (.Name x pos) S v S := by
  intro A env ρ s hA hE hS Q k
  obtain ⟨a, ob, h1, h2, h3⟩ := hS.own _ _ hf
  obtain ⟨m, hm, hr⟩ := ns_of h2 h3
  have ha : a = env.locals := Option.some.inj (h1.symm.trans hE.loc)
  subst ha
  obtain ⟨y, hy, ry⟩ : ROp ρ (some v) (m x) := by have := hr j x hn; rwa [hv] at this
  exact wpAny_Name (wpAny_loadName_local (hE.scope ▸ hE.kind) (by unfold Env.kindOf; rw [hE.scope]; exact hk) hm hy (k ρ s y Ext.refl hS ry)) hd
theorem Ev.cel {x : Str} {pos : Pos} {c : Nat} {v : V} (hk : E.scope.names.lookup x = some .cell) (hc : E.cells.lookup x = some c) (hv : S[c]? = some (.cell (some v))) (hd : (x == ("__debug__" : Str)) = false := by decide) : Ev G n E (.Name x pos) S v S := by
  intro A env ρ s hA hE hS Q k
  obtain ⟨a, h1, h2⟩ := hE.cell x c hc
  obtain ⟨a', ob, h3, h4, w, h5, y, rfl, ry⟩ := hS.own _ _ hv
  rw [h2] at h3; cases h3
  exact wpAny_Name (wpAny_loadName_cell (hE.scope ▸ hE.kind) (by unfold Env.kindOf; rw [hE.scope]; exact hk) h1 ⟨ob, h4, h5⟩ (k ρ s y Ext.refl hS ry)) hd
theorem Ev.fre {x : Str} {pos : Pos} {c : Nat} {v : V} (hk : E.scope.names.lookup x = some .free) (hc : E.cells.lookup x = some c) (hv : S[c]? = some (.cell (some v))) (hd : (x == ("__debug__" : Str)) = false := by decide) (hd' : (x == ("__classdict__" : Str)) = false := by decide) : Ev G n E (.Name x pos) S v S := by
  intro A env ρ s hA hE hS Q k
  obtain ⟨a, h1, h2⟩ := hE.cell x c hc
  obtain ⟨a', ob, h3, h4, w, h5, y, rfl, ry⟩ := hS.own _ _ hv
  rw [h2] at h3; cases h3
  exact wpAny_Name (wpAny_loadName_free (hE.scope ▸ hE.kind) (by unfold Env.kindOf; rw [hE.scope]; exact hk) h1 ⟨ob, h4, h5⟩ (k ρ s y Ext.refl hS ry) hd') hd
theorem Ev.glo {x : Str} {pos : Pos} {v : Value} (hk : E.scope.names.lookup x = some .globalImplicit) (hv : nsIn G.K mainGlobals x = some (some v)) (hd : (x == ("__debug__" : Str)) = false := by decide) : Ev G n E (.Name x pos) S (.ext v) S := by
  intro A env ρ s hA hE hS Q k
  refine Name_function_global (hE.scope ▸ hE.kind) (by unfold Env.kindOf; rw [hE.scope]; exact hk) (loadGlobal_global (mg := G.mg) ?_ (mg_of G.X G.T.g hv) (k ρ s v Ext.refl hS rfl)) hd
  rw [hE.glob]; exact G.T.g.keeps hS.keep
theorem Ev.blt {x : Str} {pos : Pos} {v : Value} (hk : E.scope.names.lookup x = some .globalImplicit) (hv : nsIn G.K mainGlobals x = some none) (hb : bootBuiltins x = some v) (hx : x ≠ "__name__") (hd : (x == ("__debug__" : Str)) = false := by decide) : Ev G n E (.Name x pos) S (.ext v) S := by
  intro A env ρ s hA hE hS Q k
  refine Name_function_global (hE.scope ▸ hE.kind) (by unfold Env.kindOf; rw [hE.scope]; exact hk) (loadGlobal_builtin (mg := G.mg) (mb := G.mb) ?_ (mg_none_of G.X G.T.g hv) ?_ ((G.T.builtins x hx).trans hb) (k ρ s v Ext.refl hS rfl)) hd
  · rw [hE.glob]; exact G.T.g.keeps hS.keep
  · rw [hE.blt]; exact G.T.b.keeps hS.keep
theorem Sto.loc {x : Str} {v : V} {ns : List Str} {vs : List (Option V)} (j : Nat) (hk : E.scope.names.lookup x = some .local) (hf : S[E.fid]? = some (.frame ns vs)) (hn : ns[j]? = some x) (hu : ns.Nodup) (hl : vs.length = ns.length) : Sto G E x v S (S.set E.fid (.frame ns (vs.set j (some v)))) := by
  intro A env ρ s y hE hS rv
  refine Run.mk hS fun Q k => ?_
  obtain ⟨a, ob, h1, h2, h3⟩ := hS.own _ _ hf
  obtain ⟨m, hm, hr⟩ := ns_of h2 h3
  have ha : a = env.locals := Option.some.inj (h1.symm.trans hE.loc)
  subst ha
  refine wpAny_storeName_local (by unfold Env.kindOf; rw [hE.scope]; exact hk) hm (fun h' hn' hs => ?_) (by rw [hE.scope, hE.kind]; rfl)
  refine k ρ _ _ (Ext.upd (List.mem_of_getElem? h1) fun b z hb ez => (hs.2 b hb).trans ez) ?_ trivial
  obtain ⟨ob', es', ep', e1, e2, e3, e4⟩ := hn'
  refine hS.upd hf h1 (fun b z hb ez => (hs.2 b hb).trans ez) e1 ⟨es', ep', _, e2, e3, e4, fun i z hz => ?_⟩ rfl rfl
  by_cases q : i = j
  · subst q
    rw [hn] at hz; cases hz
    have hl' : i < vs.length := hl ▸ (List.getElem?_eq_some_iff.mp hn).1
    rw [List.getElem?_set_self hl']
    exact ⟨y, if_pos rfl, rv⟩
  · rw [List.getElem?_set_ne (fun z => q z.symm)]
    have : z ≠ x := by
      rintro rfl
      exact q (nodup_get hu hz hn)
    rw [if_neg this]
    exact hr i z hz
theorem Sto.cel {x : Str} {v : V} {c : Nat} {v₀ : Option V} (hk : E.scope.names.lookup x = some .cell) (hc : E.cells.lookup x = some c) (hv : S[c]? = some (.cell v₀)) : Sto G E x v S (S.set c (.cell (some v))) := by
  intro A env ρ s y hE hS rv
  refine Run.mk hS fun Q k => ?_
  obtain ⟨a, h1, h2⟩ := hE.cell x c hc
  obtain ⟨a', ob, h3, h4, w, h5, r⟩ := hS.own _ _ hv
  rw [h2] at h3; cases h3
  refine wpAny_storeName_cell (hE.scope ▸ hE.kind) (by unfold Env.kindOf; rw [hE.scope]; exact hk) h1 ⟨ob, h4, h5⟩ fun h' hc' hs => ?_
  obtain ⟨ob', e1, e2⟩ := hc'
  exact k ρ _ _ (Ext.upd (List.mem_of_getElem? h2) fun b z hb ez => (hs.2 b hb).trans ez) (hS.upd hv h2 (fun b z hb ez => (hs.2 b hb).trans ez) e1 ⟨_, e2, y, rfl, rv⟩ rfl rfl) trivial
theorem Ex.assign {x : Str} {px pos : Pos} {e : Expr} {v : V} (h1 : Ev G n E e S v S1) (h2 : Sto G E x v S1 S2) (hs : ∀ env : Env, env.scope = E.scope → swapsWith e (some (.Name x px)) pos.line env = pure false := by (intro env he; first | rfl | (unfold swapsWith; rfl))) : Ex G n E (.Assign [.Name x px] e pos) S .next S2 := by
  intro A env ρ s hA hE hS Q k
  refine wpAny_Assign_Name (h1 A env ρ s hA hE hS _ fun ρ1 s1 a p1 hS1 r1 => h2 A env ρ1 s1 a (hE.mono p1.pre) hS1 r1 _ fun ρ2 s2 _ p2 hS2 _ => k ρ2 s2 _ (p1.trans p2) hS2 rfl) (hs env hE.scope)
end
end Mine
namespace Mine
section
variable {G : Glo} {n : Nat} {E : AEnv} {S S1 S2 S3 S4 : List O}
/-- what an operator does -/
noncomputable def Bop (G : Glo) (n : Nat) (op : Operator) (a b : V) (S : List O) (v : V) (S' : List O) : Prop :=
  ∀ A ρ s x y, GoodA A n → Sim G ρ S s → RV ρ a x → RV ρ b y → Run RV G A ρ s (binaryOp op x y) v S'
noncomputable def Cop (G : Glo) (n : Nat) (op : CmpOp) (a b : V) (S : List O) (v : V) (S' : List O) : Prop :=
  ∀ A ρ s x y, GoodA A n → Sim G ρ S s → RV ρ a x → RV ρ b y → Run RV G A ρ s (compareOp op x y) v S'
noncomputable def Tru (G : Glo) (n : Nat) (a : V) (S : List O) (b : Bool) (S' : List O) : Prop :=
  ∀ A ρ s x, GoodA A n → Sim G ρ S s → RV ρ a x → Run RB G A ρ s (truthy x) b S'
theorem Ev.bin {l r : Expr} {op : Operator} {pos : Pos} {a b v : V} (h1 : Ev G n E l S a S1) (h2 : Ev G n E r S1 b S2) (h : Bop G n op a b S2 v S3) : Ev G n E (.BinOp l op r pos) S v S3 := by
  intro A env ρ s hA hE hS Q k
  refine wpAny_BinOp (h1 A env ρ s hA hE hS _ fun ρ1 s1 x p1 hS1 r1 => h2 A env ρ1 s1 hA (hE.mono p1.pre) hS1 _ fun ρ2 s2 y p2 hS2 r2 => ?_)
  exact h A ρ2 s2 x y hA hS2 (r1.mono p2.pre) r2 _ fun ρ3 s3 z p3 hS3 r3 => k ρ3 s3 z ((p1.trans p2).trans p3) hS3 r3
theorem Ev.cmp {l r : Expr} {op : CmpOp} {pos : Pos} {a b v : V} (h1 : Ev G n E l S a S1) (h2 : Ev G n E r S1 b S2) (h : Cop G n op a b S2 v S3) (hm : behindInMarks op r = false := by with_unfolding_all rfl) : Ev G n E (.Compare l [op] [r] pos) S v S3 := by
  intro A env ρ s hA hE hS Q k
  refine wpAny_Compare1 (h1 A env ρ s hA hE hS _ fun ρ1 s1 x p1 hS1 r1 => h2 A env ρ1 s1 hA (hE.mono p1.pre) hS1 _ fun ρ2 s2 y p2 hS2 r2 => ?_) hm
  exact h A ρ2 s2 x y hA hS2 (r1.mono p2.pre) r2 _ fun ρ3 s3 z p3 hS3 r3 => k ρ3 s3 z ((p1.trans p2).trans p3) hS3 r3
theorem Tst.cmp {l r : Expr} {op : CmpOp} {pos : Pos} {a b : V} {c : Bool} (h1 : Ev G n E l S a S1) (h2 : Ev G n E r S1 b S2) (h : Cop G n op a b S2 (.bool c) S3) (hm : behindInMarks op r = false := by with_unfolding_all rfl) : Tst G n E (.Compare l [op] [r] pos) S c S3 := by
  intro A env ρ s hA hE hS Q k
  refine wpAny_isTrue_Compare1 (h1 A env ρ s hA hE hS _ fun ρ1 s1 x p1 hS1 r1 => h2 A env ρ1 s1 hA (hE.mono p1.pre) hS1 _ fun ρ2 s2 y p2 hS2 r2 => ?_) hm
  refine h A ρ2 s2 x y hA hS2 (r1.mono p2.pre) r2 _ fun ρ3 s3 z p3 hS3 r3 => ?_
  cases r3
  exact wpAny_truthy_bool (k ρ3 s3 _ ((p1.trans p2).trans p3) hS3 rfl)
theorem Tst.and_nil {pos : Pos} : Tst G n E (.BoolOp .And [] pos) S true S := fun A env ρ s hA hE hS Q k => isTrue_and_nil (k ρ s _ Ext.refl hS rfl)
theorem isTrue_BoolOp_whole {op : BoolOp} {vs : List Expr} {pos : Pos} {env : Env} (a b : Sem Value) : isTrue (.BoolOp op vs pos) env a = isTrue (.BoolOp op vs pos) env b := rfl
theorem Tst.and_t {x : Expr} {rest : List Expr} {pos : Pos} {b : Bool} (h1 : Tst G n E x S true S1) (h2 : Tst G n E (.BoolOp .And rest pos) S1 b S2) : Tst G n E (.BoolOp .And (x :: rest) pos) S b S2 := by
  intro A env ρ s hA hE hS Q k
  refine isTrue_and (h1 A env ρ s hA hE hS _ fun ρ1 s1 c p1 hS1 r1 => ?_)
  cases r1
  rw [if_pos rfl]
  exact h2 A env ρ1 s1 hA (hE.mono p1.pre) hS1 _ fun ρ2 s2 y p2 hS2 r2 => k ρ2 s2 y (p1.trans p2) hS2 r2
theorem Tst.and_f {x : Expr} {rest : List Expr} {pos : Pos} (h1 : Tst G n E x S false S1) : Tst G n E (.BoolOp .And (x :: rest) pos) S false S1 := by
  intro A env ρ s hA hE hS Q k
  refine isTrue_and (h1 A env ρ s hA hE hS _ fun ρ1 s1 c p1 hS1 r1 => ?_)
  cases r1
  rw [if_neg (by decide)]
  exact k ρ1 s1 _ p1 hS1 rfl
theorem Tst.not {x : Expr} {pos : Pos} {b : Bool} (h1 : Tst G n E x S b S1) : Tst G n E (.UnaryOp .Not x pos) S (!b) S1 := by
  intro A env ρ s hA hE hS Q k
  refine isTrue_not (h1 A env ρ s hA hE hS _ fun ρ1 s1 c p1 hS1 r1 => ?_)
  cases r1
  exact k ρ1 s1 _ p1 hS1 rfl
/-- an expression whose test is the truth of its value -/
theorem Tst.plain {e : Expr} {v : V} {b : Bool} (h1 : Ev G n E e S v S1) (h2 : Tru G n v S1 b S2) (hp : ∀ env, isTrue e env (eval e env) = (do let v ← eval e env; standAt e.pos; holding [v] (truthy v)) := by (intro _; rfl)) : Tst G n E e S b S2 := by
  intro A env ρ s hA hE hS Q k
  refine isTrue_plain (h1 A env ρ s hA hE hS _ fun ρ1 s1 x p1 hS1 r1 => ?_) (hp env)
  exact h2 A ρ1 s1 x hA hS1 r1 _ fun ρ2 s2 y p2 hS2 r2 => k ρ2 s2 y (p1.trans p2) hS2 r2
theorem Tru.bool {b : Bool} : Tru G n (.bool b) S b S := by
  intro A ρ s x hA hS r Q k
  cases r
  exact wpAny_truthy_bool (k ρ s _ Ext.refl hS rfl)
theorem Ev.ite_t {t b o : Expr} {pos : Pos} {v : V} (h1 : Tst G n E t S true S1) (h2 : Ev G n E b S1 v S2) : Ev G n E (.IfExp t b o pos) S v S2 := by
  intro A env ρ s hA hE hS Q k
  refine wpAny_IfExp (h1 A env ρ s hA hE hS _ fun ρ1 s1 c p1 hS1 r1 => ?_)
  cases r1
  rw [if_pos rfl]
  exact h2 A env ρ1 s1 hA (hE.mono p1.pre) hS1 _ fun ρ2 s2 y p2 hS2 r2 => k ρ2 s2 y (p1.trans p2) hS2 r2
theorem Ev.ite_f {t b o : Expr} {pos : Pos} {v : V} (h1 : Tst G n E t S false S1) (h2 : Ev G n E o S1 v S2) : Ev G n E (.IfExp t b o pos) S v S2 := by
  intro A env ρ s hA hE hS Q k
  refine wpAny_IfExp (h1 A env ρ s hA hE hS _ fun ρ1 s1 c p1 hS1 r1 => ?_)
  cases r1
  rw [if_neg (by decide)]
  exact h2 A env ρ1 s1 hA (hE.mono p1.pre) hS1 _ fun ρ2 s2 y p2 hS2 r2 => k ρ2 s2 y (p1.trans p2) hS2 r2
theorem Ex.if_t {t : Expr} {b o : List Stmt} {pos : Pos} {f : Fl} (h1 : Tst G n E t S true S1) (h2 : Exs G n E b S1 f S2) : Ex G n E (.If t b o pos) S f S2 := by
  intro A env ρ s hA hE hS Q k
  refine wpAny_If (h1 A env ρ s hA hE hS _ fun ρ1 s1 c p1 hS1 r1 => ?_)
  cases r1
  rw [if_pos rfl]
  exact h2 A env ρ1 s1 hA (hE.mono p1.pre) hS1 _ fun ρ2 s2 y p2 hS2 r2 => k ρ2 s2 y (p1.trans p2) hS2 r2
theorem Ex.if_f {t : Expr} {b o : List Stmt} {pos : Pos} {f : Fl} (h1 : Tst G n E t S false S1) (h2 : Exs G n E o S1 f S2) : Ex G n E (.If t b o pos) S f S2 := by
  intro A env ρ s hA hE hS Q k
  refine wpAny_If (h1 A env ρ s hA hE hS _ fun ρ1 s1 c p1 hS1 r1 => ?_)
  cases r1
  rw [if_neg (by decide)]
  exact h2 A env ρ1 s1 hA (hE.mono p1.pre) hS1 _ fun ρ2 s2 y p2 hS2 r2 => k ρ2 s2 y (p1.trans p2) hS2 r2
theorem Ex.ret {e : Expr} {pos : Pos} {v : V} (h1 : Ev G n E e S v S1) : Ex G n E (.Return (some e) pos) S (.ret v) S1 := fun A env ρ s hA hE hS Q k =>
  wpAny_Return_some (h1 A env ρ s hA hE hS _ fun ρ1 s1 x p1 hS1 r1 => k ρ1 s1 _ p1 hS1 ⟨x, rfl, r1⟩)
-- ints
theorem Bop.add {a b : Int} : Bop G n .Add (.int a) (.int b) S (.int (a + b)) S := by
  rintro A ρ s _ _ hA hS ⟨t, rfl⟩ ⟨u, rfl⟩
  exact Run.mk hS fun Q k => add_int (k ρ _ _ (Ext.same rfl) (hS.same rfl rfl rfl) ⟨_, rfl⟩)
theorem Bop.sub {a b : Int} : Bop G n .Sub (.int a) (.int b) S (.int (a - b)) S := by
  rintro A ρ s _ _ hA hS ⟨t, rfl⟩ ⟨u, rfl⟩
  exact Run.mk hS fun Q k => sub_int (k ρ _ _ (Ext.same rfl) (hS.same rfl rfl rfl) ⟨_, rfl⟩)
theorem log2_small {a : Nat} (h : a < 2 ^ 64) : a.log2 ≤ 63 := by
  by_cases q : a = 0
  · subst q; decide
  · have := (Nat.log2_lt q).mpr h; omega
theorem intMulOk_small {a b : Int} (h : a.natAbs < 2 ^ 64) : IntMulOk a b := by
  unfold IntMulOk
  have : Builtin.Int.intBits a ≤ shortFactorBits := by
    unfold Builtin.Int.intBits shortFactorBits
    have := log2_small h
    split <;> omega
  simp [Nat.not_lt.mpr this]
theorem noPylong {a b : Int} (h : b.natAbs < 2 ^ 64) : Builtin.divisionGoesByPylong a b = false := by
  unfold Builtin.divisionGoesByPylong
  have := log2_small h
  have q : decide ((if (b == 0) = true then 0 else b.natAbs.log2 / 30 + 1) > 300) = false := decide_eq_false (by split <;> omega)
  simp only [q, Bool.false_and]
theorem Bop.mul {a b : Int} (h : a.natAbs < 2 ^ 64) : Bop G n .Mult (.int a) (.int b) S (.int (a * b)) S := by
  rintro A ρ s _ _ hA hS ⟨t, rfl⟩ ⟨u, rfl⟩
  exact Run.mk hS fun Q k => mul_int (k ρ _ _ (Ext.same rfl) (hS.same rfl rfl rfl) ⟨_, rfl⟩) (intMulOk_small h)
theorem Bop.mod {a b : Int} (hb : b ≠ 0) : Bop G n .Mod (.int a) (.int b) S (.int (a.fmod b)) S := by
  rintro A ρ s _ _ hA hS ⟨t, rfl⟩ ⟨u, rfl⟩
  exact Run.mk hS fun Q k => mod_int' hb (k ρ _ _ (Ext.same rfl) (hS.same rfl rfl rfl) ⟨_, rfl⟩)
theorem Bop.fdiv {a b : Int} (hb : b ≠ 0) (h : b.natAbs < 2 ^ 64) : Bop G n .FloorDiv (.int a) (.int b) S (.int (a.fdiv b)) S := by
  rintro A ρ s _ _ hA hS ⟨t, rfl⟩ ⟨u, rfl⟩
  exact Run.mk hS fun Q k => floordiv_int hb (k ρ _ _ (Ext.same rfl) (hS.same rfl rfl rfl) ⟨_, rfl⟩) (.inl (noPylong h))
theorem Bop.rsh {a b : Int} (hb : 0 ≤ b) : Bop G n .RShift (.int a) (.int b) S (.int (a.fdiv (2 ^ b.toNat))) S := by
  rintro A ρ s _ _ hA hS ⟨t, rfl⟩ ⟨u, rfl⟩
  exact Run.mk hS fun Q k => PyProof.Rows.rshift_int hb (k ρ _ _ (Ext.same rfl) (hS.same rfl rfl rfl) ⟨_, rfl⟩)
theorem Bop.band {a b : Int} : Bop G n .BitAnd (.int a) (.int b) S (.int (Builtin.bitAnd a b)) S := by
  rintro A ρ s _ _ hA hS ⟨t, rfl⟩ ⟨u, rfl⟩
  exact Run.mk hS fun Q k => PyProof.Rows.and_int (k ρ _ _ (Ext.same rfl) (hS.same rfl rfl rfl) ⟨_, rfl⟩)
theorem Cop.eqi {a b : Int} : Cop G n .Eq (.int a) (.int b) S (.bool (a == b)) S := by
  rintro A ρ s _ _ hA hS ⟨t, rfl⟩ ⟨u, rfl⟩
  exact fun Q k => eq_int (k ρ _ _ Ext.refl hS rfl)
theorem Cop.nei {a b : Int} : Cop G n .NotEq (.int a) (.int b) S (.bool (a != b)) S := by
  rintro A ρ s _ _ hA hS ⟨t, rfl⟩ ⟨u, rfl⟩
  exact fun Q k => ne_int (k ρ _ _ Ext.refl hS rfl)
theorem Cop.lti {a b : Int} : Cop G n .Lt (.int a) (.int b) S (.bool (decide (a < b))) S := by
  rintro A ρ s _ _ hA hS ⟨t, rfl⟩ ⟨u, rfl⟩
  exact fun Q k => lt_int (k ρ _ _ Ext.refl hS rfl)
theorem Cop.gti {a b : Int} : Cop G n .Gt (.int a) (.int b) S (.bool (decide (b < a))) S := by
  rintro A ρ s _ _ hA hS ⟨t, rfl⟩ ⟨u, rfl⟩
  exact fun Q k => gt_int (k ρ _ _ Ext.refl hS rfl)
theorem Cop.eqs {a b : Str} : Cop G n .Eq (.str a) (.str b) S (.bool (a == b)) S := by
  rintro A ρ s _ _ hA hS ⟨t, rfl⟩ ⟨u, rfl⟩
  exact fun Q k => eq_str (k ρ _ _ Ext.refl hS rfl)
theorem Cop.nes {a b : Str} : Cop G n .NotEq (.str a) (.str b) S (.bool (a != b)) S := by
  rintro A ρ s _ _ hA hS ⟨t, rfl⟩ ⟨u, rfl⟩
  exact fun Q k => ne_str (k ρ _ _ Ext.refl hS rfl)
theorem Cop.neb {a b : Bool} : Cop G n .NotEq (.bool a) (.bool b) S (.bool (a != b)) S := by
  rintro A ρ s _ _ hA hS rfl rfl
  exact fun Q k => ne_bool (k ρ _ _ Ext.refl hS rfl)
theorem Cop.isnot {a b : Bool} : Cop G n .IsNot (.bool a) (.bool b) S (.bool (a != b)) S := by
  rintro A ρ s _ _ hA hS rfl rfl
  exact fun Q k => isnot_bool (k ρ _ _ Ext.refl hS rfl)
/-- ints among the values -/
noncomputable def vInts (ns : List Int) : List V := ns.map .int
theorem intsAre_of {ρ : List Addr} : ∀ {ns : List Int} {xs : List Value}, RVs ρ (vInts ns) xs → IntsAre xs ns
  | [], _, .nil => .nil
  | i :: r, _, .cons ⟨t, e⟩ h => by subst e; exact .cons _ _ (intsAre_of h)
theorem list_at (H : Sim G ρ S s) {i : Nat} {xs : List V} (e : S[i]? = some (.list xs)) : ∃ a ws n, ρ[i]? = some a ∧ s.heap.get? a = some ({ cls := .type "list", data := .seq ws n } : Obj) ∧ RVs ρ xs ws.toList := by
  obtain ⟨a, ob, h1, h2, ws, m, rfl, h3⟩ := H.own _ _ e
  exact ⟨a, ws, m, h1, h2, h3⟩
theorem isList_of {h : Heap} {a : Addr} {ws : Array Value} {n : Nat} (e : h.get? a = some ({ cls := .type "list", data := .seq ws n } : Obj)) : h.IsList a ws := ⟨_, e, rfl, n, rfl⟩
theorem Cop.ini {a : Int} {i : Nat} {ns : List Int} (e : S[i]? = some (.list (vInts ns))) : Cop G n .In (.int a) (.ref i) S (.bool (ns.any (· == a))) S := by
  rintro A ρ s _ _ hA hS ⟨t, rfl⟩ ⟨l, hl, rfl⟩
  obtain ⟨l', ws, m, h1, h2, h3⟩ := list_at hS e
  rw [hl] at h1; cases h1
  exact fun Q k => in_list_ints (vs := ws.toList) (isList_of h2) (intsAre_of h3) (k ρ _ _ Ext.refl hS rfl)
theorem Cop.nini {a : Int} {i : Nat} {ns : List Int} (e : S[i]? = some (.list (vInts ns))) : Cop G n .NotIn (.int a) (.ref i) S (.bool (!ns.any (· == a))) S := by
  rintro A ρ s _ _ hA hS ⟨t, rfl⟩ ⟨l, hl, rfl⟩
  obtain ⟨l', ws, m, h1, h2, h3⟩ := list_at hS e
  rw [hl] at h1; cases h1
  exact fun Q k => notin_list_ints (vs := ws.toList) (isList_of h2) (intsAre_of h3) (k ρ _ _ Ext.refl hS rfl)
-- lists of expressions
theorem Evs.nil : Evs G n E [] S [] S := fun A env ρ s pos hA hE hS Q k => spliced_none (k ρ s _ Ext.refl hS .nil)
theorem Evs.cons {e : Expr} {r : List Expr} {v : V} {vs : List V} (h1 : Ev G n E e S v S1) (h2 : Evs G n E r S1 vs S2) (hs : ∀ env, starEach (e :: r) env = (false, eval e env) :: starEach r env := by (intro _; rfl)) : Evs G n E (e :: r) S (v :: vs) S2 := by
  intro A env ρ s pos hA hE hS Q k
  refine spliced_more (h1 A env ρ s hA hE hS _ fun ρ1 s1 x p1 hS1 r1 => h2 A env ρ1 s1 pos hA (hE.mono p1.pre) hS1 _ fun ρ2 s2 xs p2 hS2 r2 => ?_) (hs env)
  exact k ρ2 s2 _ (p1.trans p2) hS2 (.cons (r1.mono p2.pre) r2)
theorem Ev.list {es : List Expr} {pos : Pos} {vs : List V} (h : Evs G n E es S vs S1) (hl : vs.length ≤ sizeLine) : Ev G n E (.List es pos) S (.ref S1.length) (S1 ++ [.list vs]) := by
  intro A env ρ s hA hE hS
  refine Run.mk hS fun Q k => List_ (h A env ρ s pos hA hE hS _ fun ρ1 s1 xs p1 hS1 r1 => ?_)
  refine wpAny_newObj_type (k (ρ1 ++ [s1.heap.objs.size]) _ _ (p1.trans (Ext.push rfl)) (hS1.push rfl rfl ⟨xs.toArray, 0, rfl, r1.mono (List.prefix_append _ _)⟩ rfl rfl) ⟨_, ?_, rfl⟩) (by show xs.toArray.size ≤ sizeLine; rw [List.size_toArray, r1.length]; exact hl)
  rw [← hS1.len]; simp
theorem Ev.tup {es : List Expr} {k : Nat} {pos : Pos} {vs : List V} (h : Evs G n E es S vs S1) (hl : vs.length ≤ sizeLine) : Ev G n E (.Tuple es k pos) S (.ref S1.length) (S1 ++ [.tup vs]) := by
  intro A env ρ s hA hE hS
  refine Run.mk hS fun Q k => Tuple_ (h A env ρ s pos hA hE hS _ fun ρ1 s1 xs p1 hS1 r1 => ?_)
  refine wpAny_newObj_type (k (ρ1 ++ [s1.heap.objs.size]) _ _ (p1.trans (Ext.push rfl)) (hS1.push rfl rfl ⟨xs.toArray, 0, rfl, r1.mono (List.prefix_append _ _)⟩ rfl rfl) ⟨_, ?_, rfl⟩) (by show xs.toArray.size ≤ sizeLine; rw [List.size_toArray, r1.length]; exact hl)
  rw [← hS1.len]; simp
-- calls
theorem keeper_builtin {M : Model} (id : String) (h : Heap) (_ : True) : ∃ k, (k = Keeper.frame ∨ k = Keeper.machine ∨ k = Keeper.boundFrame) ∧ Looks M h (keeperOf (.builtin id)) k := ⟨.machine, .inr (.inl rfl), Looks.of_pure rfl⟩
theorem keeper_type {M : Model} (id : String) (h : Heap) (_ : True) : ∃ k, (k = Keeper.frame ∨ k = Keeper.machine ∨ k = Keeper.boundFrame) ∧ Looks M h (keeperOf (.type id)) k := ⟨.machine, .inr (.inl rfl), Looks.of_pure rfl⟩
/-- whom one may call -/
noncomputable def isKept (K : Frag) : Value → Bool
  | .builtin _ => true
  | .type _ => true
  | f => keepIn K f
theorem kept_of {f : Value} (hk : isKept G.K f = true) {M : Model} : ∃ P : Heap → Prop, (∀ ρ S s, Sim G ρ S s → P s.heap) ∧ ∀ (h : Heap), P h → ∃ k, (k = Keeper.frame ∨ k = Keeper.machine ∨ k = Keeper.boundFrame) ∧ Looks M h (keeperOf f) k := by
  have gen : keepIn G.K f = true → ∃ P : Heap → Prop, (∀ ρ S s, Sim G ρ S s → P s.heap) ∧ ∀ (h : Heap), P h → ∃ k, (k = Keeper.frame ∨ k = Keeper.machine ∨ k = Keeper.boundFrame) ∧ Looks M h (keeperOf f) k :=
    fun hk => ⟨G.K.In, fun ρ S s H => G.X.keeps H.keep, keeps_K hk⟩
  cases f <;> first | exact gen hk | exact ⟨fun _ => True, fun _ _ _ _ => trivial, keeper_builtin _⟩ | exact ⟨fun _ => True, fun _ _ _ _ => trivial, keeper_type _⟩
theorem callWith_V0 {A : Around} {env : Env} {ρ : List Addr} {s : Shared} {pos : Pos} {f : Value} {first : List Value} {v : V} (hk : isKept G.K f = true) (hS : Sim G ρ S s)
    (h : Run RV G A ρ s (call f first) v S2) : Run RV G A ρ s (callWith pos f first (backTo pos (starEach [] env)) []) v S2 := by
  intro Q k
  obtain ⟨P, hP, hK⟩ := kept_of (G := G) hk (M := model G.prog G.w)
  exact callWith_of (P := P) rfl hK (evalArgs_nil3 ⟨hP _ _ _ hS, by rw [List.append_nil]; exact h Q k⟩)
theorem callWith_V {A : Around} {env : Env} {ρ : List Addr} {s : Shared} {pos : Pos} {f : Value} {first : List Value} {e : Expr} {r : List Expr} {vs : List V} {v : V} (hk : isKept G.K f = true) (hA : GoodA A n) (hE : EnvOk E env ρ) (hS : Sim G ρ S s) (he : Evs G n E (e :: r) S vs S1)
    (hs : starEach (e :: r) env = (false, eval e env) :: starEach r env) (hp : (backTo pos (starEach r env)).any (·.1) = false)
    (h : ∀ ρ1 s1 xs, Ext ρ ρ1 s s1 → Sim G ρ1 S1 s1 → RVs ρ1 vs xs → Run RV G A ρ1 s1 (call f (first ++ xs)) v S2) : Run RV G A ρ s (callWith pos f first (backTo pos (starEach (e :: r) env)) []) v S2 := by
  intro Q k
  obtain ⟨P, hP, hK⟩ := kept_of (G := G) hk (M := model G.prog G.w)
  have main : wpAny (model G.prog G.w) A (spliced (backTo pos (starEach (e :: r) env))) (fun xs s1 => P s1.heap ∧ wpAny (model G.prog G.w) A (call f (first ++ xs)) Q (fun _ _ => False) s1) (fun _ _ => False) s :=
    he A env ρ s pos hA hE hS _ fun ρ1 s1 xs p1 hS1 r1 => ⟨hP _ _ _ hS1, h ρ1 s1 xs p1 hS1 r1 Q fun ρ2 s2 y p2 hS2 r2 => k ρ2 s2 y (p1.trans p2) hS2 r2⟩
  rw [hs] at main ⊢
  exact callWith_of (P := P) (by show ((false || (backTo pos (starEach r env)).any (·.1)) || false) = false; rw [hp]; rfl) hK (evalArgs_plain main)
/-- a call of a name's value, with arguments | without -/
theorem Ev.call {f : Expr} {e : Expr} {r : List Expr} {pos : Pos} {fv : Value} {vs : List V} {v : V} (h0 : Ev G n E f S (.ext fv) S1) (h1 : Evs G n E (e :: r) S1 vs S2) (h2 : Cal G n (.ext fv) vs S2 v S3) (hk : isKept G.K fv = true)
    (hc : ∀ env, eval (f.Call (e :: r) [] pos) env = (do callWith pos (← eval f env) [] (backTo pos (starEach (e :: r) env)) (backToKw pos (keywordEach [] env))) := by (intro _; rfl))
    (hs : ∀ env, starEach (e :: r) env = (false, eval e env) :: starEach r env := by (intro _; rfl)) (hp : ∀ env, (backTo pos (starEach r env)).any (·.1) = false := by (intro _; rfl)) : Ev G n E (f.Call (e :: r) [] pos) S v S3 := by
  intro A env ρ s hA hE hS Q k
  refine Call_ (h0 A env ρ s hA hE hS _ fun ρ1 s1 x p1 hS1 r1 => ?_) (hc env)
  cases r1
  exact callWith_V (first := []) hk hA (hE.mono p1.pre) hS1 h1 (hs env) (hp env) (fun ρ2 s2 xs p2 hS2 r2 => h2 A ρ2 s2 fv xs hA hS2 rfl r2) Q fun ρ3 s3 y p3 hS3 r3 => k ρ3 s3 y (p1.trans p3) hS3 r3
theorem Ev.call0 {f : Expr} {pos : Pos} {fv : Value} {v : V} (h0 : Ev G n E f S (.ext fv) S1) (h2 : Cal G n (.ext fv) [] S1 v S3) (hk : isKept G.K fv = true)
    (hc : ∀ env, eval (f.Call [] [] pos) env = (do callWith pos (← eval f env) [] (backTo pos (starEach [] env)) (backToKw pos (keywordEach [] env))) := by (intro _; rfl)) : Ev G n E (f.Call [] [] pos) S v S3 := by
  intro A env ρ s hA hE hS Q k
  refine Call_ (h0 A env ρ s hA hE hS _ fun ρ1 s1 x p1 hS1 r1 => ?_) (hc env)
  cases r1
  exact callWith_V0 hk hS1 (h2 A ρ1 s1 fv [] hA hS1 rfl .nil) Q fun ρ3 s3 y p3 hS3 r3 => k ρ3 s3 y (p1.trans p3) hS3 r3
/-- what a method's name gives: the function and what stands first -/
noncomputable def Mth (G : Glo) (n : Nat) (o : V) (m : Str) (S : List O) (fv : Value) (fst : List V) : Prop :=
  ∀ A ρ s x pl (Q : Value × List Value → Shared → Prop), GoodA A n → Sim G ρ S s → RV ρ o x → (∀ xs, RVs ρ fst xs → Q (fv, xs) s) → wpAny (model G.prog G.w) A (getMethod x m pl) Q (fun _ _ => False) s
theorem Ev.meth {o : Expr} {m : Str} {apos pos : Pos} {e : Expr} {r : List Expr} {ov : V} {fv : Value} {fst vs : List V} {v : V} (pl : Env → Sem Bool) (h0 : Ev G n E o S ov S1) (hm : Mth G n ov m S1 fv fst) (h1 : Evs G n E (e :: r) S1 vs S2) (h2 : Cal G n (.ext fv) (fst ++ vs) S2 v S3) (hk : isKept G.K fv = true)
    (hc : ∀ env, eval ((o.Attribute m apos).Call (e :: r) [] pos) env = (do
          let ov ← eval o env
          standAt apos.atName
          let (f, first) ← holding [ov] (getMethod ov m (pl env))
          callWith pos f first (backTo pos (starEach (e :: r) env)) []) := by (intro _; rfl))
    (hs : ∀ env, starEach (e :: r) env = (false, eval e env) :: starEach r env := by (intro _; rfl)) (hp : ∀ env, (backTo pos (starEach r env)).any (·.1) = false := by (intro _; rfl)) : Ev G n E ((o.Attribute m apos).Call (e :: r) [] pos) S v S3 := by
  intro A env ρ s hA hE hS Q k
  refine MethodCall_ (h0 A env ρ s hA hE hS _ fun ρ1 s1 x p1 hS1 r1 => hm A ρ1 s1 x _ _ hA hS1 r1 fun xs rx => ?_) (hc env)
  exact callWith_V hk hA (hE.mono p1.pre) hS1 h1 (hs env) (hp env) (fun ρ2 s2 ys p2 hS2 r2 => h2 A ρ2 s2 fv (xs ++ ys) hA hS2 rfl ((rx.mono p2.pre).append r2)) Q fun ρ3 s3 y p3 hS3 r3 => k ρ3 s3 y (p1.trans p3) hS3 r3
theorem Ev.meth0 {o : Expr} {m : Str} {apos pos : Pos} {ov : V} {fv : Value} {fst : List V} {v : V} (pl : Env → Sem Bool) (h0 : Ev G n E o S ov S1) (hm : Mth G n ov m S1 fv fst) (h2 : Cal G n (.ext fv) fst S1 v S3) (hk : isKept G.K fv = true)
    (hc : ∀ env, eval ((o.Attribute m apos).Call [] [] pos) env = (do
          let ov ← eval o env
          standAt apos.atName
          let (f, first) ← holding [ov] (getMethod ov m (pl env))
          callWith pos f first (backTo pos (starEach [] env)) []) := by (intro _; rfl)) : Ev G n E ((o.Attribute m apos).Call [] [] pos) S v S3 := by
  intro A env ρ s hA hE hS Q k
  refine MethodCall_ (h0 A env ρ s hA hE hS _ fun ρ1 s1 x p1 hS1 r1 => hm A ρ1 s1 x _ _ hA hS1 r1 fun xs rx => ?_) (hc env)
  exact callWith_V0 hk hS1 (h2 A ρ1 s1 fv xs hA hS1 rfl rx) Q fun ρ3 s3 y p3 hS3 r3 => k ρ3 s3 y (p1.trans p3) hS3 r3
end
end Mine
namespace Mine
/-! a part of the state by itself -/
noncomputable def mapV (f : Nat → Nat) : V → V
  | .ref k => .ref (f k)
  | v => v
noncomputable def okV (m : Nat) : V → Prop
  | .ref k => k < m
  | _ => True
noncomputable def mapO (f : Nat → Nat) : O → O
  | .list xs => .list (xs.map (mapV f))
  | .tup xs => .tup (xs.map (mapV f))
  | .cell v => .cell (v.map (mapV f))
  | .frame ns vs => .frame ns (vs.map (Option.map (mapV f)))
  | .acc C d xs => .acc C (f d) (xs.map (mapV f))
  | .obj P => .obj P
noncomputable def okO (m : Nat) : O → Prop
  | .list xs => ∀ v ∈ xs, okV m v
  | .tup xs => ∀ v ∈ xs, okV m v
  | .cell v => ∀ x ∈ v, okV m x
  | .frame _ vs => ∀ v ∈ vs, ∀ x ∈ v, okV m x
  | .acc _ d xs => d < m ∧ ∀ v ∈ xs, okV m v
  | .obj _ => True
section
variable {ρ ρ' : List Addr} {f : Nat → Nat} {m : Nat}
theorem RV.up (h : ∀ (k : Nat) (a : Addr), ρ[k]? = some a → ρ'[f k]? = some a) {v : V} {x : Value} (r : RV ρ v x) : RV ρ' (mapV f v) x := by
  cases v <;> first | exact r | (obtain ⟨a, h1, h2⟩ := r; exact ⟨a, h _ _ h1, h2⟩)
theorem RV.down (h : ∀ (k : Nat) (a : Addr), k < m → ρ'[f k]? = some a → ρ[k]? = some a) {v : V} {x : Value} (o : okV m v) (r : RV ρ' (mapV f v) x) : RV ρ v x := by
  cases v <;> first | exact r | (obtain ⟨a, h1, h2⟩ := r; exact ⟨a, h _ _ o h1, h2⟩)
theorem RVs.up (h : ∀ (k : Nat) (a : Addr), ρ[k]? = some a → ρ'[f k]? = some a) {vs : List V} {xs : List Value} (r : RVs ρ vs xs) : RVs ρ' (vs.map (mapV f)) xs := by
  induction r with
  | nil => exact .nil
  | cons a _ ih => exact .cons (a.up h) ih
theorem RVs.down (h : ∀ (k : Nat) (a : Addr), k < m → ρ'[f k]? = some a → ρ[k]? = some a) : ∀ {vs : List V} {xs : List Value}, (∀ v ∈ vs, okV m v) → RVs ρ' (vs.map (mapV f)) xs → RVs ρ vs xs
  | [], _, _, .nil => .nil
  | v :: vs, _, o, .cons a r => .cons (RV.down h (o v (.head _)) a) (RVs.down h (fun v hv => o v (.tail _ hv)) r)
theorem ROp.up (h : ∀ (k : Nat) (a : Addr), ρ[k]? = some a → ρ'[f k]? = some a) {v : Option V} {x : Option Value} (r : ROp ρ v x) : ROp ρ' (v.map (mapV f)) x := by
  cases v with
  | none => exact r
  | some v => obtain ⟨y, h1, h2⟩ := r; exact ⟨y, h1, h2.up h⟩
theorem ROp.down (h : ∀ (k : Nat) (a : Addr), k < m → ρ'[f k]? = some a → ρ[k]? = some a) {v : Option V} {x : Option Value} (o : ∀ y ∈ v, okV m y) (r : ROp ρ' (v.map (mapV f)) x) : ROp ρ v x := by
  cases v with
  | none => exact r
  | some v => obtain ⟨y, h1, h2⟩ := r; exact ⟨y, h1, RV.down h (o v rfl) h2⟩
theorem join_map {vs : List (Option V)} {i : Nat} : ((vs.map (Option.map (mapV f)))[i]?).join = ((vs[i]?).join).map (mapV f) := by
  rw [List.getElem?_map]
  cases vs[i]? with
  | none => rfl
  | some v => rfl
theorem RO.up (h : ∀ (k : Nat) (a : Addr), ρ[k]? = some a → ρ'[f k]? = some a) {v : O} {x : Addr} {o : Obj} (r : RO ρ x v o) : RO ρ' x (mapO f v) o := by
  cases v with
  | list xs => obtain ⟨ws, n, h1, h2⟩ := r; exact ⟨ws, n, h1, h2.up h⟩
  | tup xs => obtain ⟨ws, n, h1, h2⟩ := r; exact ⟨ws, n, h1, h2.up h⟩
  | cell v => obtain ⟨w, h1, h2⟩ := r; exact ⟨w, h1, h2.up h⟩
  | frame ns vs =>
    obtain ⟨es, ep, m, h1, h2, h3, h4⟩ := r
    exact ⟨es, ep, m, h1, h2, h3, fun i x hx => by rw [join_map]; exact ROp.up h (h4 i x hx)⟩
  | acc C d xs => obtain ⟨ws, n, a, h1, h2, h3⟩ := r; exact ⟨ws, n, a, h1, h _ _ h2, h3.up h⟩
  | obj P => exact r
theorem RO.down (h : ∀ (k : Nat) (a : Addr), k < m → ρ'[f k]? = some a → ρ[k]? = some a) {v : O} {x : Addr} {o : Obj} (ok : okO m v) (r : RO ρ' x (mapO f v) o) : RO ρ x v o := by
  cases v with
  | list xs => obtain ⟨ws, n, h1, h2⟩ := r; exact ⟨ws, n, h1, RVs.down h ok h2⟩
  | tup xs => obtain ⟨ws, n, h1, h2⟩ := r; exact ⟨ws, n, h1, RVs.down h ok h2⟩
  | cell v => obtain ⟨w, h1, h2⟩ := r; exact ⟨w, h1, ROp.down h ok h2⟩
  | frame ns vs =>
    obtain ⟨es, ep, m', h1, h2, h3, h4⟩ := r
    refine ⟨es, ep, m', h1, h2, h3, fun i x hx => ?_⟩
    have := h4 i x hx
    rw [join_map] at this
    refine ROp.down h (fun y hy => ?_) this
    cases q : vs[i]? with
    | none => rw [q] at hy; cases hy
    | some v => rw [q] at hy; exact ok v (List.mem_of_getElem? q) y hy
  | acc C d xs => obtain ⟨ws, n, a, h1, h2, h3⟩ := r; exact ⟨ws, n, a, h1, h _ _ ok.1 h2, RVs.down h ok.2 h3⟩
  | obj P => exact r
end
noncomputable def at0 (σ : List Nat) (k : Nat) : Nat := σ.getD k 0
theorem at0_of {σ : List Nat} {k i : Nat} (h : σ[k]? = some i) : at0 σ k = i := by unfold at0; rw [List.getD_eq_getElem?_getD, h]; rfl
/-- the part σ of T is S -/
structure Part (σ : List Nat) (S T : List O) : Prop where
  len : σ.length = S.length
  nodup : σ.Nodup
  at_ : ∀ (k : Nat) (o : O), S[k]? = some o → okO S.length o ∧ T[at0 σ k]? = some (mapO (at0 σ) o)
section
variable {G : Glo} {ρ : List Addr} {S T : List O} {s : Shared} {σ : List Nat}
theorem Part.get (P : Part σ S T) (H : Sim G ρ T s) {k : Nat} (hk : k < S.length) : ∃ a, ρ[at0 σ k]? = some a := by
  obtain ⟨a, _, h, _⟩ := H.own _ _ (P.at_ k S[k] (List.getElem?_eq_getElem hk)).2
  exact ⟨a, h⟩
theorem Part.rho (P : Part σ S T) (H : Sim G ρ T s) {k : Nat} {a : Addr} (hk : k < S.length) (e : ρ[at0 σ k]? = some a) : (σ.map fun i => ρ.getD i 0)[k]? = some a := by
  have hk' : k < σ.length := P.len ▸ hk
  rw [List.getElem?_map, List.getElem?_eq_getElem hk']
  have : at0 σ k = σ[k] := at0_of (List.getElem?_eq_getElem hk')
  rw [this] at e
  simp [List.getD_eq_getElem?_getD, e]
theorem Part.rho' (P : Part σ S T) (H : Sim G ρ T s) {k : Nat} {a : Addr} (e : (σ.map fun i => ρ.getD i 0)[k]? = some a) : k < S.length ∧ ρ[at0 σ k]? = some a := by
  have hk : k < S.length := by
    have := (List.getElem?_eq_some_iff.mp e).1
    rw [List.length_map] at this
    exact P.len ▸ this
  obtain ⟨b, hb⟩ := P.get H hk
  have := P.rho H hk hb
  rw [e] at this; cases this
  exact ⟨hk, hb⟩
theorem Part.sim (P : Part σ S T) (H : Sim G ρ T s) : Sim G (σ.map fun i => ρ.getD i 0) S s := by
  refine ⟨H.keep, by rw [List.length_map, P.len], ?_, fun k o e => ?_, fun a ha => ?_, fun a ha => ?_, H.os, H.gens, H.toks⟩
  · refine List.pairwise_iff_getElem.mpr fun i j hi hj hij => ?_
    intro q
    obtain ⟨li, ri⟩ := P.rho' H (List.getElem?_eq_getElem hi)
    obtain ⟨lj, rj⟩ := P.rho' H (List.getElem?_eq_getElem hj)
    rw [q] at ri
    have e := nodup_get H.nodup ri rj
    have hi' : i < σ.length := P.len ▸ li
    have hj' : j < σ.length := P.len ▸ lj
    rw [at0_of (List.getElem?_eq_getElem hi'), at0_of (List.getElem?_eq_getElem hj')] at e
    exact absurd e (List.pairwise_iff_getElem.mp P.nodup i j hi' hj' hij)
  · obtain ⟨ok, ht⟩ := P.at_ k o e
    obtain ⟨a, ob, h1, h2, h3⟩ := H.own _ _ ht
    have hk := (List.getElem?_eq_some_iff.mp e).1
    exact ⟨a, ob, P.rho H hk h1, h2, RO.down (fun j b hj hb => P.rho H hj hb) ok h3⟩
  · obtain ⟨k, hk⟩ := List.getElem?_of_mem ha
    exact H.new a (List.mem_of_getElem? (P.rho' H hk).2)
  · obtain ⟨k, hk⟩ := List.getElem?_of_mem ha
    exact H.low a (List.mem_of_getElem? (P.rho' H hk).2)
noncomputable def putAll : List O → List Nat → List O → List O
  | T, i :: σ, x :: xs => putAll (T.set i x) σ xs
  | T, _, _ => T
theorem putAll_length : ∀ (σ : List Nat) (xs T : List O), (putAll T σ xs).length = T.length
  | [], _, T => by unfold putAll; rfl
  | _ :: _, [], T => by unfold putAll; rfl
  | i :: σ, x :: xs, T => by rw [putAll, putAll_length σ xs]; simp
theorem putAll_off : ∀ (σ : List Nat) (xs T : List O) {j : Nat}, j ∉ σ → (putAll T σ xs)[j]? = T[j]?
  | [], _, T, _, _ => by unfold putAll; rfl
  | _ :: _, [], T, _, _ => by unfold putAll; rfl
  | i :: σ, x :: xs, T, j, h => by
    have q : i ≠ j := fun q => h (by rw [q]; exact .head _)
    rw [putAll, putAll_off σ xs _ (fun q => h (.tail _ q)), List.getElem?_set_ne q]
theorem putAll_on : ∀ (σ : List Nat) (xs T : List O) {k j : Nat} {x : O}, σ.Nodup → (∀ i ∈ σ, i < T.length) → σ[k]? = some j → xs[k]? = some x → (putAll T σ xs)[j]? = some x
  | [], _, T, _, _, _, _, _, h, _ => by cases h
  | _ :: _, [], T, _, _, _, _, _, _, h => by cases h
  | i :: σ, y :: xs, T, 0, j, x, hn, hl, h1, h2 => by
    cases h1; cases h2
    rw [putAll, putAll_off σ xs _ (List.nodup_cons.mp hn).1, List.getElem?_set_self (hl _ (.head _))]
  | i :: σ, y :: xs, T, k + 1, j, x, hn, hl, h1, h2 => by
    rw [putAll]
    exact putAll_on σ xs _ (List.nodup_cons.mp hn).2 (fun a ha => by rw [List.length_set]; exact hl a (.tail _ ha)) (by simpa using h1) (by simpa using h2)
/-- where a number of the part's stands, the new ones behind all -/
noncomputable def lift (σ : List Nat) (t : Nat) (k : Nat) : Nat := if k < σ.length then at0 σ k else t + (k - σ.length)
/-- T behind what a part of it became -/
noncomputable def framed (T : List O) (σ : List Nat) (S' : List O) : List O := putAll T σ (S'.map (mapO (lift σ T.length))) ++ (S'.drop σ.length).map (mapO (lift σ T.length))
theorem Run.frame {α β : Type} {R : List Addr → β → α → Prop} {A : Around} {t : Sem α} {b b' : β} {S' : List O} (P : Part σ S T) (H : Sim G ρ T s)
    (hR : ∀ (ρ1 ρ2 : List Addr) (a : α), (∀ (k : Nat) (x : Addr), ρ1[k]? = some x → ρ2[lift σ T.length k]? = some x) → R ρ1 b a → R ρ2 b' a)
    (run : Run R G A (σ.map fun i => ρ.getD i 0) s t b S') : Run R G A ρ s t b' (framed T σ S') := by
  intro Q k
  refine run Q fun ρ1 s1 a x hS1 r => ?_
  have H0 := P.sim H
  obtain ⟨new, hnew⟩ := x.pre
  have len1 : ρ1.length = σ.length + new.length := by rw [← hnew, List.length_append, List.length_map]
  have lenS : S'.length = σ.length + new.length := hS1.len ▸ len1
  have sub : ∀ c, c ∈ (σ.map fun i => ρ.getD i 0) → c ∈ ρ := fun c hc => by
    obtain ⟨j, hj⟩ := List.getElem?_of_mem hc
    exact List.mem_of_getElem? (P.rho' H hj).2
  have newfree : ∀ c ∈ new, s.heap.get? c = none := fun c hc => by
    refine x.new c (by rw [← hnew]; exact List.mem_append_right _ hc) fun q => ?_
    have := hS1.nodup
    rw [← hnew] at this
    exact (List.nodup_append.mp this).2.2 c q c hc rfl
  have newoff : ∀ c ∈ new, c ∉ ρ := fun c hc q => by
    obtain ⟨o, ho⟩ := H.live q
    rw [newfree c hc] at ho; cases ho
  have up : ∀ (j : Nat) (c : Addr), ρ1[j]? = some c → (ρ ++ new)[lift σ T.length j]? = some c := fun j c hj => by
    unfold lift
    by_cases q : j < σ.length
    · rw [if_pos q]
      rw [← hnew, List.getElem?_append_left (by rw [List.length_map]; exact q)] at hj
      have h2 := (P.rho' H hj).2
      exact get_mono (List.prefix_append _ _) h2
    · rw [if_neg q]
      rw [← hnew, List.getElem?_append_right (by rw [List.length_map]; omega), List.length_map] at hj
      rw [← H.len, List.getElem?_append_right (by omega)]
      have : ρ.length + (j - σ.length) - ρ.length = j - σ.length := by omega
      rw [this]; exact hj
  have X : Ext ρ (ρ ++ new) s s1 := ⟨List.prefix_append _ _, fun c o hc e => x.keep c o (fun q => hc (sub c q)) e, fun c hc hn => by
    rcases List.mem_append.mp hc with h | h
    · exact absurd h hn
    · exact newfree c h⟩
  refine k (ρ ++ new) s1 a X ?_ (hR _ _ a up r)
  have bound : ∀ i ∈ σ, i < T.length := fun i hi => by
    obtain ⟨j, hj⟩ := List.getElem?_of_mem hi
    have hjl := (List.getElem?_eq_some_iff.mp hj).1
    obtain ⟨c, hc⟩ := P.get H (P.len ▸ hjl)
    rw [at0_of hj] at hc
    exact H.len ▸ (List.getElem?_eq_some_iff.mp hc).1
  have lenP : (putAll T σ (S'.map (mapO (lift σ T.length)))).length = T.length := putAll_length _ _ _
  refine ⟨hS1.keep, by unfold framed; rw [List.length_append, List.length_append, lenP, H.len, List.length_map, List.length_drop, lenS]; omega, ?_, fun i o e => ?_, fun c hc => ?_, fun c hc => ?_, hS1.os, hS1.gens, hS1.toks⟩
  · refine List.nodup_append.mpr ⟨H.nodup, ?_, fun c hc d hd => by rintro rfl; exact newoff c hd hc⟩
    have := hS1.nodup
    rw [← hnew] at this
    exact (List.nodup_append.mp this).2.1
  · have give : ∀ (j : Nat) (o1 : O), S'[j]? = some o1 → ∃ c ob, ρ1[j]? = some c ∧ s1.heap.get? c = some ob ∧ RO (ρ ++ new) c (mapO (lift σ T.length) o1) ob := fun j o1 e1 => by
      obtain ⟨c, ob, h1, h2, h3⟩ := hS1.own j o1 e1
      exact ⟨c, ob, h1, h2, h3.up up⟩
    unfold framed at e
    by_cases hi : i < T.length
    · rw [List.getElem?_append_left (by rw [lenP]; exact hi)] at e
      by_cases hm : i ∈ σ
      · obtain ⟨j, hj⟩ := List.getElem?_of_mem hm
        have hjl := (List.getElem?_eq_some_iff.mp hj).1
        have hjS : j < S'.length := by omega
        rw [putAll_on (x := mapO (lift σ T.length) S'[j]) σ _ T P.nodup bound hj (by rw [List.getElem?_map, List.getElem?_eq_getElem hjS]; rfl)] at e
        cases e
        obtain ⟨c, ob, h1, h2, h3⟩ := give j _ (List.getElem?_eq_getElem hjS)
        have := up j c h1
        unfold lift at this
        rw [if_pos hjl, at0_of hj] at this
        exact ⟨c, ob, this, h2, h3⟩
      · rw [putAll_off σ _ T hm] at e
        obtain ⟨c, ob, h1, h2, h3⟩ := H.own i o e
        refine ⟨c, ob, get_mono (List.prefix_append _ _) h1, x.keep c ob (fun q => ?_) h2, h3.mono (List.prefix_append _ _)⟩
        obtain ⟨j, hj⟩ := List.getElem?_of_mem q
        obtain ⟨hjS, h4⟩ := P.rho' H hj
        have := nodup_get H.nodup h1 h4
        have hjl : j < σ.length := P.len ▸ hjS
        rw [at0_of (List.getElem?_eq_getElem hjl)] at this
        exact hm (this ▸ List.getElem_mem hjl)
    · rw [List.getElem?_append_right (by rw [lenP]; omega), lenP, List.getElem?_map, List.getElem?_drop] at e
      obtain ⟨o1, e1, rfl⟩ := Option.map_eq_some_iff.mp e
      obtain ⟨c, ob, h1, h2, h3⟩ := give _ _ e1
      have := up _ c h1
      unfold lift at this
      rw [if_neg (by omega)] at this
      have e2 : T.length + (σ.length + (i - T.length) - σ.length) = i := by omega
      rw [e2] at this
      exact ⟨c, ob, this, h2, h3⟩
  · rcases List.mem_append.mp hc with h | h
    · exact H.new c h
    · exact hS1.new c (by rw [← hnew]; exact List.mem_append_right _ h)
  · rcases List.mem_append.mp hc with h | h
    · exact H.low c h
    · exact hS1.low c (by rw [← hnew]; exact List.mem_append_right _ h)
end
end Mine
namespace Mine
noncomputable def valOf : Flow → Value
  | .ret v => v
  | _ => .none
noncomputable def resOf : Fl → V
  | .next => .none
  | .ret v => v
theorem lookup_zip_rev : ∀ (pn : List Str) (xs : List Value) {i : Nat} {x : Str}, pn.Nodup → pn.length = xs.length → pn[i]? = some x → (pn.zip xs).reverse.lookup x = xs[i]?
  | [], _, _, _, _, _, h => by cases h
  | p :: pn, [], _, _, _, h, _ => by simp at h
  | p :: pn, y :: xs, 0, x, hn, hl, h => by
    cases h
    rw [List.zip_cons_cons, List.reverse_cons, List.lookup_append]
    have : (pn.zip xs).reverse.lookup p = none := by
      rw [List.lookup_eq_none_iff]
      intro q hq
      have h1 := (List.of_mem_zip (List.mem_reverse.mp hq)).1
      have h2 := (List.nodup_cons.mp hn).1
      have : p ≠ q.1 := fun e => h2 (e ▸ h1)
      simpa using this
    rw [this]; simp
  | p :: pn, y :: xs, i + 1, x, hn, hl, h => by
    rw [List.zip_cons_cons, List.reverse_cons, List.lookup_append]
    have h' : pn[i]? = some x := by simpa using h
    rw [lookup_zip_rev pn xs (List.nodup_cons.mp hn).2 (by simpa using hl) h']
    have : x ≠ p := fun e => (List.nodup_cons.mp hn).1 (e ▸ List.mem_of_getElem? h')
    have hb : (x == p) = false := beq_eq_false_iff_ne.mpr this
    simp only [List.lookup_cons, hb, List.lookup_nil, Option.or_none, List.getElem?_cons_succ]
theorem lookup_zip_off {pn : List Str} {xs : List Value} {x : Str} (h : x ∉ pn) : (pn.zip xs).reverse.lookup x = none := by
  rw [List.lookup_eq_none_iff]
  intro q hq
  have h1 := (List.of_mem_zip (List.mem_reverse.mp hq)).1
  have : x ≠ q.1 := fun e => h (e ▸ h1)
  simpa using this
section
variable {G : Glo} {n : Nat} {S S1 S2 : List O}
/-- the new frame's cells: the arguments, then the other names -/
noncomputable def startVals (vs : List V) (others : List Str) : List (Option V) := vs.map some ++ others.map fun _ => none
theorem startFrame {ρ : List Addr} {vs : List V} {xs : List Value} {pn others : List Str} (hn : (pn ++ others).Nodup) (hl : pn.length = vs.length) (r : RVs ρ vs xs) : RFr ρ (pn ++ others) (startVals vs others) (fun x => (pn.zip xs).reverse.lookup x) := by
  intro i x hi
  obtain ⟨n1, n2, n3⟩ := List.nodup_append.mp hn
  by_cases q : i < pn.length
  · rw [List.getElem?_append_left q] at hi
    show ROp ρ _ ((pn.zip xs).reverse.lookup x)
    rw [lookup_zip_rev pn xs n1 (by rw [hl, r.length]) hi]
    unfold startVals
    rw [List.getElem?_append_left (by rw [List.length_map]; omega), List.getElem?_map]
    have hv : i < vs.length := by omega
    rw [List.getElem?_eq_getElem hv]
    obtain ⟨y, hy, ry⟩ := r.get (List.getElem?_eq_getElem hv)
    exact ⟨y, hy, ry⟩
  · rw [List.getElem?_append_right (by omega)] at hi
    have hx := List.mem_of_getElem? hi
    have : x ∉ pn := fun h => n3 x h x hx rfl
    show ROp ρ _ ((pn.zip xs).reverse.lookup x)
    rw [lookup_zip_off this]
    unfold startVals
    rw [List.getElem?_append_right (by rw [List.length_map]; omega), List.getElem?_map]
    have : ROp ρ none none := rfl
    cases (others[i - (vs.map some).length]?) <;> exact this
theorem GoodA.deeper {A : Around} (h : GoodA A (n + 1)) (env : Env) : GoodA (A.deeper env) n :=
  ⟨h.handled, by have := h.depth; show A.depth + 1 + n < recursionLimit; omega, by have := h.units; show A.units + 3 + 16 * n + 40 < cLine; omega⟩
/-- a state cut down to a part that keeps the first ones where they are -/
theorem Sim.cut {ρ ρ1 : List Addr} {s s1 : Shared} {σ : List Nat} (P : Part σ S2 S1) (hS : Sim G ρ S s) (H : Sim G ρ1 S1 s1) (x : Ext ρ ρ1 s s1) (hσ : ∀ i, i < S.length → σ[i]? = some i) :
    Ext ρ (σ.map fun i => ρ1.getD i 0) s s1 ∧ Sim G (σ.map fun i => ρ1.getD i 0) S2 s1 := by
  refine ⟨⟨?_, x.keep, fun a ha hn => ?_⟩, P.sim H⟩
  · rw [List.prefix_iff_eq_take]
    apply List.ext_getElem?
    intro i
    rw [List.getElem?_take]
    by_cases q : i < ρ.length
    · rw [if_pos q, List.getElem?_map, hσ i (hS.len ▸ q)]
      have h1 := List.getElem?_eq_getElem q
      rw [h1]
      have := get_mono x.pre h1
      simp [List.getD_eq_getElem?_getD, this]
    · rw [if_neg q, List.getElem?_eq_none (by omega)]
  · obtain ⟨j, hj⟩ := List.getElem?_of_mem ha
    exact x.new a (List.mem_of_getElem? (P.rho' H hj).2) hn
theorem Cal.fnT {name qual : Str} {params : Arguments} {body : List Stmt} {scope : Scope} {dV kV doc pm cdv ct oc : Value} {an od : Option Addr} {osl : Array (Option Value)} {f : Addr} {vs : List V} {fl : Fl} (pn others : List Str)
    (ho : G.K.lookup f = some ⟨oc, od, .func (fnX name qual params body scope [] dV kV doc pm an cdv ct), osl⟩) (hcd : codeIn G.K cdv qual = true)
    (hbind : ∀ (s : Shared) (xs : List Value), xs.length = vs.length → G.K.In s.heap → BindsTo s (fnX name qual params body scope [] dV kV doc pm an cdv ct) ⟨xs, []⟩ (pn.zip xs))
    (hl : pn.length = vs.length) (hn : (pn ++ others).Nodup) (hloc : ∀ x ∈ pn, scope.names.lookup x = some .local) (hcell : ∀ x ∈ scope.names, x.2 ≠ .cell)
    (hco : scope.isCoroutine = false) (hgen : scope.isGenerator = false) (hk : scope.kind = .function)
    (hb : ∀ A ρ s L, GoodA A n → EnvOk ⟨scope, S.length, []⟩ (callEnv (fnX name qual params body scope [] dV kV doc pm an cdv ct) L f) ρ → Sim G ρ (S ++ [.frame (pn ++ others) (startVals vs others)]) s → Run RF G A ρ s (execs body (callEnv (fnX name qual params body scope [] dV kV doc pm an cdv ct) L f)) fl S1) : Cal G (n + 1) (.ext (.ref f)) vs S (resOf fl) S1 := by
  rintro A ρ s g xs hA hS rfl r Q k
  refine wpAny_call ?_
  have hlen : xs.length = vs.length := r.length
  refine codeAny_call_def (fd := fnX name qual params body scope [] dV kV doc pm an cdv ct) (body := body) (binds := pn.zip xs) (by have := hA.depth; omega) (G.X.keeps hS.keep _ _ ho) rfl (G.T.nolimit.keeps hS.keep) (codeRec_of (G.X.keeps hS.keep) hcd) rfl (hbind s xs hlen (G.X.keeps hS.keep)) hcell (fun x hx => hloc x.1 (List.of_mem_zip hx).1) (fun h₁ hns hk₁ => ?_) hco hgen hk
  have hfresh := get_size s.heap
  obtain ⟨ob, es, ep, e1, e2, e3, e4⟩ := hns
  have hS0 : ∀ tk, G.lo ≤ tk → Sim G (ρ ++ [s.heap.objs.size]) (S ++ [.frame (pn ++ others) (startVals vs others)]) ⟨h₁, s.gens, s.drawn, tk, s.os⟩ := fun tk ht =>
    hS.add hk₁ hfresh hS.big e1 ⟨es, ep, _, e2, e3, e4, startFrame hn hl (r.mono (List.prefix_append _ _))⟩ rfl rfl ht
  have hE : EnvOk ⟨scope, S.length, []⟩ (callEnv (fnX name qual params body scope [] dV kV doc pm an cdv ct) s.heap.objs.size f) (ρ ++ [s.heap.objs.size]) :=
    ⟨rfl, hk, by show (ρ ++ [s.heap.objs.size])[S.length]? = some s.heap.objs.size; rw [← hS.len]; simp, (fun x n e => (nomatch e)), rfl, rfl⟩
  refine wpAny_mono (hb _ _ _ _ (hA.deeper _) hE (hS0 _ (by have := hS.toks; exact Nat.le_trans this (Nat.le_add_right _ _))) _ fun ρ1 s1 fl' x1 hS1 r1 => ?_) (fun _ _ x => x) fun _ _ x => x.elim
  have X : Ext ρ ρ1 s s1 := (Ext.add (s' := ⟨h₁, s.gens, s.drawn, s.toks + (pn.zip xs).length, s.os⟩) hk₁ hfresh).trans x1
  have res : RV ρ1 (resOf fl) (valOf fl') := by
    cases fl with
    | next => cases r1; exact rfl
    | ret v => obtain ⟨y, rfl, ry⟩ := r1; exact ry
  refine k _ s1 _ X hS1 ?_
  clear r1
  cases fl' <;> exact res
/-- what a call leaves, cut down -/
theorem Cal.cut {f : V} {vs : List V} {v v' : V} {σ : List Nat} (h : Cal G n f vs S v S1) (P : Part σ S2 S1) (hσ : ∀ i, i < S.length → σ[i]? = some i) (hv : mapV (at0 σ) v' = v) (hok : okV S2.length v') : Cal G n f vs S v' S2 := by
  intro A ρ s g xs hA hS rf r Q k
  refine h A ρ s g xs hA hS rf r _ fun ρ1 s1 y X hS1 r1 => ?_
  obtain ⟨X2, hS2⟩ := Sim.cut P hS hS1 X hσ
  exact k _ s1 y X2 hS2 (RV.down (m := S2.length) (f := at0 σ) (ρ' := ρ1) (fun j b hj hb' => P.rho hS1 hj hb') hok (by rw [hv]; exact r1))
theorem Cal.fnE {name qual : Str} {params : Arguments} {body : List Stmt} {scope : Scope} {dV kV doc pm cdv ct oc : Value} {an od : Option Addr} {osl : Array (Option Value)} {f : Addr} {vs : List V} {fl : Fl} {v' : V} {σ : List Nat} (pn others : List Str)
    (ho : G.K.lookup f = some ⟨oc, od, .func (fnX name qual params body scope [] dV kV doc pm an cdv ct), osl⟩) (hcd : codeIn G.K cdv qual = true)
    (hbind : ∀ (s : Shared) (xs : List Value), xs.length = vs.length → G.K.In s.heap → BindsTo s (fnX name qual params body scope [] dV kV doc pm an cdv ct) ⟨xs, []⟩ (pn.zip xs))
    (hl : pn.length = vs.length) (hn : (pn ++ others).Nodup) (hloc : ∀ x ∈ pn, scope.names.lookup x = some .local) (hcell : ∀ x ∈ scope.names, x.2 ≠ .cell)
    (hco : scope.isCoroutine = false) (hgen : scope.isGenerator = false) (hk : scope.kind = .function)
    (hb : ∀ A ρ s L, GoodA A n → EnvOk ⟨scope, S.length, []⟩ (callEnv (fnX name qual params body scope [] dV kV doc pm an cdv ct) L f) ρ → Sim G ρ (S ++ [.frame (pn ++ others) (startVals vs others)]) s → Run RF G A ρ s (execs body (callEnv (fnX name qual params body scope [] dV kV doc pm an cdv ct) L f)) fl S1)
    (P : Part σ S2 S1) (hσ : ∀ i, i < S.length → σ[i]? = some i) (hv : mapV (at0 σ) v' = resOf fl) (hok : okV S2.length v') : Cal G (n + 1) (.ext (.ref f)) vs S v' S2 :=
  (Cal.fnT pn others ho hcd hbind hl hn hloc hcell hco hgen hk hb).cut P hσ hv hok
theorem Cal.fn {name qual : Str} {params : Arguments} {body : List Stmt} {scope : Scope} {dV kV doc pm cdv ct oc : Value} {an od : Option Addr} {osl : Array (Option Value)} {f : Addr} {vs : List V} {fl : Fl} {v' : V} {σ : List Nat} (pn others : List Str)
    (ho : G.K.lookup f = some ⟨oc, od, .func (fnX name qual params body scope [] dV kV doc pm an cdv ct), osl⟩) (hcd : codeIn G.K cdv qual = true)
    (hbind : ∀ (s : Shared) (xs : List Value), xs.length = vs.length → G.K.In s.heap → BindsTo s (fnX name qual params body scope [] dV kV doc pm an cdv ct) ⟨xs, []⟩ (pn.zip xs))
    (hl : pn.length = vs.length) (hn : (pn ++ others).Nodup) (hloc : ∀ x ∈ pn, scope.names.lookup x = some .local) (hcell : ∀ x ∈ scope.names, x.2 ≠ .cell)
    (hco : scope.isCoroutine = false) (hgen : scope.isGenerator = false) (hk : scope.kind = .function)
    (hb : Exs G n ⟨scope, S.length, []⟩ body (S ++ [.frame (pn ++ others) (startVals vs others)]) fl S1)
    (P : Part σ S2 S1) (hσ : ∀ i, i < S.length → σ[i]? = some i) (hv : mapV (at0 σ) v' = resOf fl) (hok : okV S2.length v') : Cal G (n + 1) (.ext (.ref f)) vs S v' S2 :=
  Cal.fnE pn others ho hcd hbind hl hn hloc hcell hco hgen hk (fun A ρ s L hA hE hS => hb A _ ρ s hA hE hS) P hσ hv hok
end
end Mine
namespace Mine
/-- what a loop takes from: the ints from a on, so many; the list under a number, from a place on -/
inductive Src where
  | rng (a : Int) (n : Nat)
  | lst (i : Nat) (k : Nat)
inductive Nxt (S : List O) : Src → Option (V × Src) → Prop where
  | rngE {a : Int} : Nxt S (.rng a 0) none
  | rngN {a : Int} {n : Nat} : Nxt S (.rng a (n + 1)) (some (.int a, .rng (a + 1) n))
  | lstE {i k : Nat} {xs : List V} : S[i]? = some (.list xs) → xs[k]? = none → Nxt S (.lst i k) none
  | lstN {i k : Nat} {xs : List V} {v : V} : S[i]? = some (.list xs) → xs[k]? = some v → Nxt S (.lst i k) (some (v, .lst i (k + 1)))
/-- the iterator's object -/
noncomputable def ItAt (ρ : List Addr) (I : Addr) (h : Heap) : Src → Prop
  | .rng a n => IsRangeIter h I a (n : Int) 1
  | .lst i k => ∃ ax, ρ[i]? = some ax ∧ h.IsListIter I ax k
theorem ItAt.ext {ρ ρ' : List Addr} {I : Addr} {s s' : Shared} {c : Src} (x : Ext ρ ρ' s s') (hI : I ∉ ρ) (h : ItAt ρ I s.heap c) : ItAt ρ' I s'.heap c := by
  cases c with
  | rng a n => exact x.keep _ _ hI h
  | lst i k => obtain ⟨ax, h1, o, h2, h3⟩ := h; exact ⟨ax, get_mono x.pre h1, o, x.keep _ _ hI h2, h3⟩
theorem ItAt.live {ρ : List Addr} {I : Addr} {h : Heap} {c : Src} (x : ItAt ρ I h c) : ∃ o, h.get? I = some o := by
  cases c with
  | rng a n => exact ⟨_, x⟩
  | lst i k => obtain ⟨ax, h1, o, h2, h3⟩ := x; exact ⟨o, h2⟩
theorem Ext.off {ρ ρ' : List Addr} {s s' : Shared} (x : Ext ρ ρ' s s') {I : Addr} (hI : I ∉ ρ) {o : Obj} (hl : s.heap.get? I = some o) : I ∉ ρ' := fun q => by
  rw [x.new I q hI] at hl; cases hl
section
variable {G : Glo} {n : Nat} {E : AEnv} {S S1 S2 S3 : List O}
/-- only the iterator turned, and it was not there at first -/
theorem Ext.but {ρ₀ ρ : List Addr} {s₀ s s' : Shared} {I : Addr} (x : Ext ρ₀ ρ s₀ s) (h0 : s₀.heap.get? I = none) (k : ∀ b o, b ≠ I → s.heap.get? b = some o → s'.heap.get? b = some o) : Ext ρ₀ ρ s₀ s' :=
  ⟨x.pre, fun b o hb e => k b o (fun q => by rw [q, h0] at e; cases e) (x.keep b o hb e), x.new⟩
theorem Sim.but {ρ : List Addr} {s s' : Shared} {I : Addr} (hS : Sim G ρ S s) (hI : I ∉ ρ) (hb : G.h₀.get? I = none) (k : ∀ b o, b ≠ I → s.heap.get? b = some o → s'.heap.get? b = some o) (hg : s'.gens = s.gens) (ho : s'.os = s.os) (ht : G.lo ≤ s'.toks) : Sim G ρ S s' :=
  ⟨fun b o e => k b o (fun q => by rw [q, hb] at e; cases e) (hS.keep b o e), hS.len, hS.nodup, fun i o e => let ⟨a, ob, h1, h2, h3⟩ := hS.own i o e; ⟨a, ob, h1, k a ob (fun q => hI (q ▸ List.mem_of_getElem? h1)) h2, h3⟩, hS.new, hS.low, ho.trans hS.os, hg ▸ hS.gens, ht⟩
theorem it_next {A : Around} {ρ : List Addr} {s : Shared} {I : Addr} {c : Src} {r : Option (V × Src)} {Er : Value → Shared → Prop} (hh : A.handled = none) (hS : Sim G ρ S s) (hI : I ∉ ρ) (hit : ItAt ρ I s.heap c) (N : Nxt S c r) {Q : Option Value → Shared → Prop}
    (h0 : r = none → ∀ h', (∀ b o, b ≠ I → s.heap.get? b = some o → h'.get? b = some o) → Q none { s with heap := h' })
    (h1 : ∀ v c', r = some (v, c') → ∀ h' tk x, (∀ b o, b ≠ I → s.heap.get? b = some o → h'.get? b = some o) → s.toks ≤ tk → RV ρ v x → ItAt ρ I h' c' → Q (some x) { s with heap := h', toks := tk }) :
    wpAny (model G.prog G.w) A (pyNext (.ref I)) Q Er s := by
  have same : ∀ {h' : Heap}, Heap.SameBut I s.heap h' → ∀ b o, b ≠ I → s.heap.get? b = some o → h'.get? b = some o := fun hs b o q e => (hs.2 b q).trans e
  cases N with
  | rngE => exact wpAny_pyNext_range_end hh hit (by simp) fun h' he => h0 rfl h' fun b o q e => he b o q e
  | rngN => exact wpAny_pyNext_range_item hit (by omega) fun h' hi hs => h1 _ _ rfl h' _ _ (same hs) (Nat.le_succ _) ⟨_, rfl⟩ (by show IsRangeIter _ _ _ _ _; rw [Int.natCast_succ, Int.add_sub_cancel] at hi; exact hi)
  | lstE e1 e2 =>
    obtain ⟨ax, ha, hit⟩ := hit
    obtain ⟨a, ws, m, l1, l2, l3⟩ := list_at hS e1
    rw [ha] at l1; cases l1
    refine wpAny_pyNext_list_end hh hit (isList_of l2) ?_ fun h' he => h0 rfl h' fun b o q e => he b o q e
    have := l3.length
    rw [Array.getElem?_eq_none]
    have h2 := List.getElem?_eq_none_iff.mp e2
    simp at this; omega
  | lstN e1 e2 =>
    obtain ⟨ax, ha, hit⟩ := hit
    obtain ⟨a, ws, m, l1, l2, l3⟩ := list_at hS e1
    rw [ha] at l1; cases l1
    obtain ⟨x, hx, rx⟩ := l3.get e2
    exact wpAny_pyNext_list_item hit (isList_of l2) (by rw [← Array.getElem?_toList]; exact hx) fun h' hi hs => h1 _ _ rfl h' _ x (same hs) (Nat.le_refl _) rx ⟨ax, ha, hi⟩
/-- a loop's turns -/
inductive LoopN (G : Glo) (n : Nat) (E : AEnv) (tgt : Expr) (body : List Stmt) : Nat → Src → List O → Fl → List O → Prop where
  | done {c : Src} {S : List O} : Nxt S c none → LoopN G n E tgt body 0 c S .next S
  | next {m : Nat} {c c' : Src} {v : V} {S S1 S2 S3 : List O} {f : Fl} : Nxt S c (some (v, c')) → Asg G n E tgt v S S1 → Exs G n E body S1 .next S2 → LoopN G n E tgt body m c' S2 f S3 → LoopN G n E tgt body (m + 1) c S f S3
  | stop {c c' : Src} {v r : V} {S S1 S2 : List O} : Nxt S c (some (v, c')) → Asg G n E tgt v S S1 → Exs G n E body S1 (.ret r) S2 → LoopN G n E tgt body 0 c S (.ret r) S2
noncomputable def Loop (G : Glo) (n : Nat) (E : AEnv) (tgt : Expr) (body : List Stmt) (c : Src) (S : List O) (f : Fl) (S' : List O) : Prop := ∃ m, LoopN G n E tgt body m c S f S'
theorem Loop.done {tgt : Expr} {body : List Stmt} {c : Src} (h : Nxt S c none) : Loop G n E tgt body c S .next S := ⟨0, .done h⟩
theorem Loop.next {tgt : Expr} {body : List Stmt} {c c' : Src} {v : V} {f : Fl} (h : Nxt S c (some (v, c'))) (h1 : Asg G n E tgt v S S1) (h2 : Exs G n E body S1 .next S2) (h3 : Loop G n E tgt body c' S2 f S3) : Loop G n E tgt body c S f S3 := let ⟨m, h3⟩ := h3; ⟨m + 1, .next h h1 h2 h3⟩
theorem Loop.stop {tgt : Expr} {body : List Stmt} {c c' : Src} {v r : V} (h : Nxt S c (some (v, c'))) (h1 : Asg G n E tgt v S S1) (h2 : Exs G n E body S1 (.ret r) S2) : Loop G n E tgt body c S (.ret r) S2 := ⟨0, .stop h h1 h2⟩
/-- what may be a loop's target here: a name, or names in a tuple over a list -/
noncomputable def tgtOk : Expr → Src → Bool
  | .Name .., _ => true
  | .Tuple .., .lst .. => true
  | _, _ => false
noncomputable def srcKind : Src → Bool
  | .rng .. => true
  | .lst .. => false
theorem Nxt.kind {c c' : Src} {v : V} (h : Nxt S c (some (v, c'))) (tgt : Expr) : tgtOk tgt c' = tgtOk tgt c := by
  cases h <;> (cases tgt <;> rfl)
theorem owned_go {A : Around} {ρ : List Addr} {s : Shared} {I : Addr} {c : Src} {tgt : Expr} {x : Value} {Er : Value → Shared → Prop} {Q : Unit → Shared → Prop} (ht : tgtOk tgt c = true) (hit : ItAt ρ I s.heap c) (hQ : Q () s) : wpAny (model G.prog G.w) A (letOwnedTupleGo tgt (.ref I) x) Q Er s := by
  cases tgt with
  | Name => exact wpAny_pure hQ
  | Tuple es k p =>
    cases c with
    | rng => cases ht
    | lst i k =>
      obtain ⟨ax, _, hit⟩ := hit
      cases x with
      | ref T => exact wpAny_letOwnedTupleGo_listiter hit hQ
      | _ => exact wpAny_pure hQ
  | _ => cases ht
theorem loop_sound {tgt : Expr} {body : List Stmt} {f : Fl} {S' : List O} {A : Around} {env : Env} {ρ₀ : List Addr} {s₀ : Shared} {I : Addr} (hA : GoodA A n) (h0 : s₀.heap.get? I = none) (hb : G.h₀.get? I = none) (hE₀ : EnvOk E env ρ₀) {R : Result → Shared → Prop}
    (hR : ∀ ρ' s' fl, Ext ρ₀ ρ' s₀ s' → Sim G ρ' S' s' → RF ρ' f fl → R (.ok fl) s') {m : Nat} {c : Src} {S : List O} (L : LoopN G n E tgt body m c S f S') (ht : tgtOk tgt c = true)
    {ρ : List Addr} {s : Shared} (x : Ext ρ₀ ρ s₀ s) (hS : Sim G ρ S s) (hI : I ∉ ρ) (hit : ItAt ρ I s.heap c) : codeAny (model G.prog G.w) A (.forLoop tgt (.ref I) body [] env) R s := by
  refine codeAny_forLoop_any (fun k s => ∃ ρ c S, LoopN G n E tgt body k c S f S' ∧ tgtOk tgt c = true ∧ Ext ρ₀ ρ s₀ s ∧ Sim G ρ S s ∧ I ∉ ρ ∧ ItAt ρ I s.heap c) ?_ m ⟨ρ, c, S, L, ht, x, hS, hI, hit⟩
  rintro k s ⟨ρ, c, S, L, ht, x, hS, hI, hit⟩
  cases L with
  | done N =>
    refine it_next hA.handled hS hI hit N (fun _ h' hk => wpAny_execs_nil (hR ρ _ _ (x.but h0 hk) (hS.but hI hb hk rfl rfl hS.toks) rfl)) fun v c' e => by cases e
  | next N a1 b1 L' =>
    refine it_next hA.handled hS hI hit N (fun e => by cases e) fun v c' e h' tk y hk htk ry hit' => ?_
    cases e
    have x1 := x.but (s' := ⟨h', s.gens, s.drawn, tk, s.os⟩) h0 hk
    have hS1 : Sim G ρ S ⟨h', s.gens, s.drawn, tk, s.os⟩ := hS.but hI hb hk rfl rfl (Nat.le_trans hS.toks htk)
    have ht' := (N.kind tgt).trans ht
    refine owned_go ht' hit' ?_
    refine wpAny_mono (a1 A env ρ _ y hA (hE₀.mono x.pre) hS1 ry _ fun ρ2 s2 _ x2 hS2 _ => ?_) (fun _ _ q => q) fun _ _ q => q.elim
    refine wpAny_mono (b1 A env ρ2 s2 hA (hE₀.mono (x1.trans x2).pre) hS2 _ fun ρ3 s3 fl x3 hS3 r3 => ?_) (fun _ _ q => q) fun _ _ q => q.elim
    cases r3
    obtain ⟨o, ho⟩ := hit'.live
    have hI2 := x2.off hI ho
    have ho2 := x2.keep _ _ hI ho
    exact ⟨_, Nat.lt_succ_self _, ρ3, _, _, L', ht', (x1.trans x2).trans x3, hS3, x3.off hI2 ho2, (hit'.ext x2 hI).ext x3 hI2⟩
  | stop N a1 b1 =>
    refine it_next hA.handled hS hI hit N (fun e => by cases e) fun v c' e h' tk y hk htk ry hit' => ?_
    cases e
    have x1 := x.but (s' := ⟨h', s.gens, s.drawn, tk, s.os⟩) h0 hk
    have hS1 : Sim G ρ S ⟨h', s.gens, s.drawn, tk, s.os⟩ := hS.but hI hb hk rfl rfl (Nat.le_trans hS.toks htk)
    refine owned_go ((N.kind tgt).trans ht) hit' ?_
    refine wpAny_mono (a1 A env ρ _ y hA (hE₀.mono x.pre) hS1 ry _ fun ρ2 s2 _ x2 hS2 _ => ?_) (fun _ _ q => q) fun _ _ q => q.elim
    refine wpAny_mono (b1 A env ρ2 s2 hA (hE₀.mono (x1.trans x2).pre) hS2 _ fun ρ3 s3 fl x3 hS3 r3 => ?_) (fun _ _ q => q) fun _ _ q => q.elim
    obtain ⟨z, rfl, rz⟩ := r3
    exact hR ρ3 s3 _ ((x1.trans x2).trans x3) hS3 ⟨z, rfl, rz⟩
/-- what an iterable's value gives -/
noncomputable def Itr (G : Glo) (n : Nat) (v : V) (S : List O) (c : Src) : Prop :=
  ∀ A ρ s x (Q : Value → Shared → Prop), GoodA A n → Sim G ρ S s → RV ρ v x → (∀ s' I, (∀ b o, s.heap.get? b = some o → s'.heap.get? b = some o) → s.heap.get? I = none → ItAt ρ I s'.heap c → s'.gens = s.gens → s'.os = s.os → s.toks ≤ s'.toks → Q (.ref I) s') → wpAny (model G.prog G.w) A (pyIter x) Q (fun _ _ => False) s
theorem Itr.list {i : Nat} {xs : List V} (e : S[i]? = some (.list xs)) : Itr G n (.ref i) S (.lst i 0) := by
  rintro A ρ s _ Q hA hS ⟨a, ha, rfl⟩ k
  obtain ⟨a', ws, m, l1, l2, l3⟩ := list_at hS e
  rw [ha] at l1; cases l1
  exact wpAny_pyIter_list (isList_of l2) (k _ _ (fun b o e => Heap.get?_push_of_some _ e) (get_size _) ⟨a, ha, _, Heap.get?_push_size _ rfl, rfl, rfl⟩ rfl rfl (Nat.le_refl _))
theorem Ex.for {tgt it : Expr} {body : List Stmt} {pos : Pos} {v : V} {c : Src} {f : Fl} (h1 : Ev G n E it S v S1) (hi : Itr G n v S1 c) (h2 : Loop G n E tgt body c S1 f S2) (ht : tgtOk tgt c = true)
    (hs : ∀ (env : Env) x, foldedSetIterable it env x = pure x := by (intro _ _; rfl)) : Ex G n E (.For tgt it body [] pos) S f S2 := by
  intro A env ρ s hA hE hS Q k
  obtain ⟨m, L⟩ := h2
  refine wpAny_For (h1 A env ρ s hA hE hS _ fun ρ1 s1 x x1 hS1 r1 => ?_) (hs env)
  refine hi A ρ1 s1 x _ hA hS1 r1 fun s2 I hk hI hit hg ho htk => ?_
  have hS2 : Sim G ρ1 S1 s2 := hS1.keeps hk hg ho (Nat.le_trans hS1.toks htk)
  have hIρ : I ∉ ρ1 := fun q => by obtain ⟨o, e⟩ := hS1.live q; rw [hI] at e; cases e
  have hIb : G.h₀.get? I = none := by
    cases e : G.h₀.get? I with
    | none => rfl
    | some o => rw [hS1.keep _ _ e] at hI; cases hI
  exact loop_sound hA hI hIb (hE.mono x1.pre) (fun ρ' s' fl x' hS' r' => k ρ' s' fl (x1.trans x') hS' r') L ht (Ext.keeps hk) hS2 hIρ hit
theorem Asg.name {x : Str} {pos : Pos} {v : V} (h : Sto G E x v S S1) : Asg G n E (.Name x pos) v S S1 := fun A env ρ s y hA hE hS r Q k =>
  wpAny_assign_Name (h A env ρ s y hE hS r Q k)
end
end Mine
namespace Mine
section
variable {G : Glo} {n : Nat} {E : AEnv} {S S1 S2 S3 S4 S5 : List O}
/-- the expression's value, made an iterator -/
noncomputable def Iti (G : Glo) (n : Nat) (E : AEnv) (e : Expr) (S : List O) (c : Src) (S' : List O) : Prop :=
  ∀ A env ρ s (Q : Value → Shared → Prop), GoodA A n → EnvOk E env ρ → Sim G ρ S s →
    (∀ ρ' s' I, Ext ρ ρ' s s' → Sim G ρ' S' s' → I ∉ ρ' → s.heap.get? I = none → G.h₀.get? I = none → ItAt ρ' I s'.heap c → Q (.ref I) s') →
    wpAny (model G.prog G.w) A (eval e env) (fun x s1 => wpAny (model G.prog G.w) A (pyIter x) Q (fun _ _ => False) s1) (fun _ _ => False) s
theorem Iti.of {e : Expr} {v : V} {c : Src} (h1 : Ev G n E e S v S1) (h2 : Itr G n v S1 c) : Iti G n E e S c S1 := by
  intro A env ρ s Q hA hE hS k
  refine h1 A env ρ s hA hE hS _ fun ρ1 s1 x x1 hS1 r1 => h2 A ρ1 s1 x _ hA hS1 r1 fun s2 I hk hI hit hg ho htk => ?_
  have hIs : s.heap.get? I = none := by
    cases e : s.heap.get? I with
    | none => rfl
    | some o =>
      by_cases q : I ∈ ρ
      · obtain ⟨o', e'⟩ := hS1.live (x1.pre.subset q); rw [hI] at e'; cases e'
      · rw [x1.keep _ _ q e] at hI; cases hI
  refine k ρ1 s2 I (x1.trans (Ext.keeps hk)) (hS1.keeps hk hg ho (Nat.le_trans hS1.toks htk)) (fun q => by obtain ⟨o, e⟩ := hS1.live q; rw [hI] at e; cases e) hIs ?_ hit
  cases e : G.h₀.get? I with
  | none => rfl
  | some o => rw [hS1.keep _ _ e] at hI; cases hI
theorem Ex.forI {tgt it : Expr} {body : List Stmt} {pos : Pos} {c : Src} {f : Fl} (h1 : Iti G n E it S c S1) (h2 : Loop G n E tgt body c S1 f S2) (ht : tgtOk tgt c = true)
    (hs : ∀ (env : Env) x, foldedSetIterable it env x = pure x := by (intro _ _; rfl)) : Ex G n E (.For tgt it body [] pos) S f S2 := by
  intro A env ρ s hA hE hS Q k
  obtain ⟨m, L⟩ := h2
  refine wpAny_For (h1 A env ρ s _ hA hE hS fun ρ1 s1 I x1 hS1 hI hIs hIb hit => ?_) (hs env)
  exact loop_sound hA hIs hIb hE (fun ρ' s' fl x' hS' r' => k ρ' s' fl x' hS' r') L ht x1 hS1 hI hit
theorem evalCall {f e : Expr} {r : List Expr} {pos : Pos} {fv : Value} {vs : List V} {A : Around} {env : Env} {ρ : List Addr} {s : Shared} {Q : Value → Shared → Prop} (hA : GoodA A n) (hE : EnvOk E env ρ) (hS : Sim G ρ S s)
    (h0 : Ev G n E f S (.ext fv) S1) (h1 : Evs G n E (e :: r) S1 vs S2) (hk : isKept G.K fv = true)
    (hc : eval (f.Call (e :: r) [] pos) env = (do callWith pos (← eval f env) [] (backTo pos (starEach (e :: r) env)) (backToKw pos (keywordEach [] env))))
    (hs : starEach (e :: r) env = (false, eval e env) :: starEach r env) (hp : (backTo pos (starEach r env)).any (·.1) = false)
    (h : ∀ ρ2 s2 xs, Ext ρ ρ2 s s2 → Sim G ρ2 S2 s2 → RVs ρ2 vs xs → wpAny (model G.prog G.w) A (call fv xs) Q (fun _ _ => False) s2) : wpAny (model G.prog G.w) A (eval (f.Call (e :: r) [] pos) env) Q (fun _ _ => False) s := by
  refine Call_ (h0 A env ρ s hA hE hS _ fun ρ1 s1 x x1 hS1 r1 => ?_) hc
  cases r1
  obtain ⟨P, hP, hK⟩ := kept_of (G := G) hk (M := model G.prog G.w)
  have main : wpAny (model G.prog G.w) A (spliced (backTo pos (starEach (e :: r) env))) (fun xs s1 => P s1.heap ∧ wpAny (model G.prog G.w) A (call fv ([] ++ xs)) Q (fun _ _ => False) s1) (fun _ _ => False) s1 :=
    h1 A env ρ1 s1 pos hA (hE.mono x1.pre) hS1 _ fun ρ2 s2 xs x2 hS2 r2 => ⟨hP _ _ _ hS2, h ρ2 s2 xs (x1.trans x2) hS2 r2⟩
  rw [hs] at main ⊢
  exact callWith_of (P := P) (by show ((false || (backTo pos (starEach r env)).any (·.1)) || false) = false; rw [hp]; rfl) hK (evalArgs_plain main)
theorem range_iter {A : Around} {ρ ρ2 : List Addr} {s s2 : Shared} {S2 : List O} {a b : Int} {m : Nat} {t u v : Tok} {tk : Nat} {Q : Value → Shared → Prop} (x : Ext ρ ρ2 s s2) (hS : Sim G ρ S s) (hS2 : Sim G ρ2 S2 s2) (hsm : Builtin.Range.small a b 1 = true) (hn : Builtin.Range.rangeSize a b 1 = (m : Int)) (ht : s2.toks ≤ tk)
    (k : ∀ ρ' s' I, Ext ρ ρ' s s' → Sim G ρ' S2 s' → I ∉ ρ' → s.heap.get? I = none → G.h₀.get? I = none → ItAt ρ' I s'.heap (.rng a m) → Q (.ref I) s') :
    wpAny (model G.prog G.w) A (pyIter (.ref s2.heap.objs.size)) Q (fun _ _ => False) { s2 with heap := s2.heap.push { cls := .type "range", data := .fields #[.int a t, .int b u, .int 1 v] }, toks := tk } := by
  refine wpAny_pyIter_range (Heap.get?_push_size _ rfl) hsm ?_
  have kp : ∀ q o, s2.heap.get? q = some o → ((s2.heap.push { cls := .type "range", data := .fields #[.int a t, .int b u, .int 1 v] }).push { cls := .type "range_iterator", data := .fields #[rawInt a, rawInt (Builtin.Range.rangeSize a b 1), rawInt 1] }).get? q = some o := fun q o e => Heap.get?_push_of_some _ (Heap.get?_push_of_some _ e)
  have hI2 : s2.heap.get? (s2.heap.push { cls := .type "range", data := .fields #[.int a t, .int b u, .int 1 v] }).objs.size = none := by
    cases e : s2.heap.get? _ with
    | none => rfl
    | some o => have := Heap.lt_size e; rw [Heap.size_push] at this; exact absurd this (Nat.not_lt.mpr (Nat.le_succ _))
  refine k ρ2 _ _ (x.trans (Ext.keeps kp)) (hS2.keeps kp rfl rfl (Nat.le_trans hS2.toks ht)) (fun q => ?_) ?_ ?_ ?_
  · obtain ⟨o, e⟩ := hS2.live q; rw [hI2] at e; cases e
  · cases e : s.heap.get? _ with
    | none => rfl
    | some o =>
      by_cases q : (s2.heap.push { cls := .type "range", data := .fields #[.int a t, .int b u, .int 1 v] }).objs.size ∈ ρ
      · obtain ⟨o', e'⟩ := hS2.live (x.pre.subset q); rw [hI2] at e'; cases e'
      · rw [x.keep _ _ q e] at hI2; cases hI2
  · cases e : G.h₀.get? _ with
    | none => rfl
    | some o => rw [hS2.keep _ _ e] at hI2; cases hI2
  · show IsRangeIter _ _ _ _ _
    rw [← hn]
    exact Heap.get?_push_size _ rfl
theorem Iti.range1 {f e : Expr} {pos : Pos} {b : Int} {m : Nat} (h0 : Ev G n E f S (.ext (.type "range")) S1) (h1 : Ev G n E e S1 (.int b) S2) (hsm : Builtin.Range.small 0 b 1 = true) (hn : Builtin.Range.rangeSize 0 b 1 = (m : Int))
    (hc : ∀ env, eval (f.Call [e] [] pos) env = (do callWith pos (← eval f env) [] (backTo pos (starEach [e] env)) (backToKw pos (keywordEach [] env))) := by (intro _; rfl))
    (hs : ∀ env, starEach [e] env = (false, eval e env) :: starEach [] env := by (intro _; rfl)) : Iti G n E (f.Call [e] [] pos) S (.rng 0 m) S2 := by
  intro A env ρ s Q hA hE hS k
  refine evalCall hA hE hS h0 (Evs.cons h1 Evs.nil hs) rfl (hc env) (hs env) rfl fun ρ2 s2 xs x2 hS2 r2 => ?_
  cases r2 with
  | cons a1 r2 => cases r2 with
    | nil =>
      obtain ⟨t, rfl⟩ := a1
      exact PySem.call_range_1 (range_iter x2 hS hS2 hsm hn (by omega) k)
theorem Iti.range2 {f e e' : Expr} {pos : Pos} {a b : Int} {m : Nat} (h0 : Ev G n E f S (.ext (.type "range")) S1) (h1 : Ev G n E e S1 (.int a) S2) (h2 : Ev G n E e' S2 (.int b) S3) (hsm : Builtin.Range.small a b 1 = true) (hn : Builtin.Range.rangeSize a b 1 = (m : Int))
    (hc : ∀ env, eval (f.Call [e, e'] [] pos) env = (do callWith pos (← eval f env) [] (backTo pos (starEach [e, e'] env)) (backToKw pos (keywordEach [] env))) := by (intro _; rfl))
    (hs : ∀ env, starEach [e, e'] env = (false, eval e env) :: starEach [e'] env := by (intro _; rfl)) (hs' : ∀ env, starEach [e'] env = (false, eval e' env) :: starEach [] env := by (intro _; rfl)) (hp : ∀ env, (backTo pos (starEach [e'] env)).any (·.1) = false := by (intro _; rfl)) : Iti G n E (f.Call [e, e'] [] pos) S (.rng a m) S3 := by
  intro A env ρ s Q hA hE hS k
  refine evalCall hA hE hS h0 (Evs.cons h1 (Evs.cons h2 Evs.nil hs') hs) rfl (hc env) (hs env) (hp env) fun ρ2 s2 xs x2 hS2 r2 => ?_
  cases r2 with
  | cons a1 r2 => cases r2 with
    | cons a2 r2 => cases r2 with
      | nil =>
        obtain ⟨t, rfl⟩ := a1
        obtain ⟨u, rfl⟩ := a2
        exact PySem.call_range_2 (range_iter x2 hS hS2 hsm hn (by omega) k)
end
end Mine
namespace Mine
section
variable {G : Glo} {n : Nat} {E : AEnv} {S S1 S2 S3 S4 S5 : List O}
theorem it_again {A : Around} {ρ : List Addr} {s : Shared} {I : Addr} {c : Src} {Q : Value → Shared → Prop} {Er : Value → Shared → Prop} (hit : ItAt ρ I s.heap c) (h : Q (.ref I) s) : wpAny (model G.prog G.w) A (pyIter (.ref I)) Q Er s := by
  cases c with
  | rng a m => exact wpAny_pyIter_rangeiter hit h
  | lst i k => obtain ⟨ax, _, hit⟩ := hit; exact wpAny_pyIter_listiter hit h
theorem comp_start {elt : Expr} {gens : List Comprehension} {g : Comprehension} {scope : Scope} {pos : Pos} {d : Nat} {it acc : Value} {env : Env} {prog : Program} {w : World} {A : Around} {R : Result → Shared → Prop} {s : Shared}
    (hd : gens[d]? = some g) (ha : g.is_async = 0)
    (h0 : codeAny (model prog w) A (.compLoop (.ListComp elt gens scope pos) d it acc env) R s)
    (h : wpAny (model prog w) A (pyIter it) (fun it' s' => codeAny (model prog w) A (.compLoop (.ListComp elt gens scope pos) d it' acc env) R s')
      (notedBy (model prog w) A env fun x s' => R (.error x) s') s) :
    codeAny (model prog w) A (.compStart (.ListComp elt gens scope pos) d it acc env) R s := by
  refine codeAny_of_tree ?_
  show wpAny _ _ ((compStart (.ListComp elt gens scope pos) d it acc env).onRaise (fun x => do noteFrame x env; standAt theWindowsPlace)) _ _ s
  refine wpAny_notedAt ?_
  unfold compStart
  have hc : (clausesOf (.ListComp elt gens scope pos))[d]? = some g := hd
  have e1 : Option.elim (some g) false (fun x => x.is_async != 0) = false := by show (g.is_async != 0) = false; rw [ha]; rfl
  simp only [hc, e1]
  show wpAny _ _ (ask >>= _) _ _ s
  refine wpAny_bind (wpAny_askSetting (wpAny_ite ?_))
  split
  · first
      | exact wpAny_bind (wpAny_pure (wpAny_pure (And.intro rfl h0)))
      | exact wpAny_pure (And.intro rfl h0)
  · first
      | exact wpAny_bind (wpAny_rule (wpAny_bind (wpAny_standAt (wpAny_bind (wpAny_mono h (fun it' s' h' => wpAny_pure (And.intro rfl h')) fun _ _ x => x)))))
      | (refine wpAny_bind (wpAny_rule ?_); show wpAny _ _ (standAt g.iter.pos >>= _) _ _ s; exact wpAny_bind (wpAny_standAt (wpAny_bind (wpAny_mono h (fun it' s' h' => wpAny_pure (And.intro rfl h')) fun _ _ x => x))))
theorem compTurn_at {elt iter : Expr} {gens : List Comprehension} {x : Str} {px : Pos} {ifs : List Expr} {scope : Scope} {pos : Pos} {d : Nat} {it acc : Value} {env : Env} (hd : gens[d]? = some ⟨.Name x px, iter, ifs, 0⟩) :
    compTurn (.ListComp elt gens scope pos) d it acc env = (do
      standAt iter.pos
      match ← pyNext it with
      | none => pure (.done .next)
      | some v =>
        assign (.Name x px) env v
        let ok ← (forIn ifs true fun c r => if r = true then do let ok ← isTrue c env (eval c env); pure (ForInStep.yield ok) else pure (ForInStep.yield r))
        if ok then
          match gens[d + 1]? with
          | some g' =>
            let x ← eval g'.iter env
            standAt g'.iter.pos
            let x ← if g'.is_async != 0 then foldedIterable g'.iter x else foldedSetIterable g'.iter env x
            let _ ← runOwn (.compStart (.ListComp elt gens scope pos) (d + 1) (← holding [x] (if g'.is_async != 0 then asyncIter x else pyIter x)) acc env) env
          | none => (do let _ ← call (.builtin "list.append") [acc, ← eval elt env])
        again (.compLoop (.ListComp elt gens scope pos) d it acc env)) := by
  unfold compTurn
  simp only [hd]
  rfl
inductive Tsts (G : Glo) (n : Nat) (E : AEnv) : List Expr → List O → Bool → List O → Prop where
  | nil {S : List O} : Tsts G n E [] S true S
  | one {c : Expr} {S S' : List O} {b : Bool} : Tst G n E c S b S' → Tsts G n E [c] S b S'
theorem Tsts.run {ifs : List Expr} {b : Bool} (h : Tsts G n E ifs S b S1) {A : Around} {env : Env} {ρ : List Addr} {s : Shared} (hA : GoodA A n) (hE : EnvOk E env ρ) (hS : Sim G ρ S s) :
    Run RB G A ρ s (forIn ifs true fun c r => if r = true then do let ok ← isTrue c env (eval c env); pure (ForInStep.yield ok) else pure (ForInStep.yield r)) b S1 := by
  cases h with
  | nil => exact fun Q k => wpAny_tests_nil (k ρ s _ Ext.refl hS rfl)
  | one h => exact fun Q k => wpAny_tests_one (h A env ρ s hA hE hS Q k)
/-- the turns of a list comprehension, its list under D -/
inductive CompN (G : Glo) (n : Nat) (E : AEnv) (elt : Expr) (gens : List Comprehension) (D : Nat) : Nat → Src → List O → List O → Prop where
  | done {d : Nat} {x : Str} {px : Pos} {it : Expr} {ifs : List Expr} {c : Src} {S : List O} : gens[d]? = some ⟨.Name x px, it, ifs, 0⟩ → Nxt S c none → CompN G n E elt gens D d c S S
  | skip {d : Nat} {x : Str} {px : Pos} {it : Expr} {ifs : List Expr} {c c' : Src} {v : V} {S S1 S2 S3 : List O} : gens[d]? = some ⟨.Name x px, it, ifs, 0⟩ → Nxt S c (some (v, c')) → Sto G E x v S S1 → Tsts G n E ifs S1 false S2 →
      CompN G n E elt gens D d c' S2 S3 → CompN G n E elt gens D d c S S3
  | emit {d : Nat} {x : Str} {px : Pos} {it : Expr} {ifs : List Expr} {c c' : Src} {v y : V} {xs : List V} {S S1 S2 S3 S4 : List O} : gens[d]? = some ⟨.Name x px, it, ifs, 0⟩ → gens[d + 1]? = none → Nxt S c (some (v, c')) → Sto G E x v S S1 → Tsts G n E ifs S1 true S2 →
      Ev G n E elt S2 y S3 → S3[D]? = some (.list xs) → xs.length ≤ sizeLine → CompN G n E elt gens D d c' (S3.set D (.list (xs ++ [y]))) S4 → CompN G n E elt gens D d c S S4
  | deep {d : Nat} {x : Str} {px : Pos} {it : Expr} {ifs : List Expr} {g' : Comprehension} {c c' c2 : Src} {v : V} {S S1 S2 S3 S4 S5 : List O} : gens[d]? = some ⟨.Name x px, it, ifs, 0⟩ → gens[d + 1]? = some g' → g'.is_async = 0 → (∀ (env : Env) x, foldedSetIterable g'.iter env x = pure x) →
      Nxt S c (some (v, c')) → Sto G E x v S S1 → Tsts G n E ifs S1 true S2 → Iti G n E g'.iter S2 c2 S3 → CompN G n E elt gens D (d + 1) c2 S3 S4 → CompN G n E elt gens D d c' S4 S5 → CompN G n E elt gens D d c S S5
theorem Run.append {A : Around} {ρ : List Addr} {s : Shared} {D : Nat} {a : Addr} {x : Value} {y : V} {xs : List V} (hS : Sim G ρ S s) (e : S[D]? = some (.list xs)) (ha : ρ[D]? = some a) (r : RV ρ y x) (hl : xs.length ≤ sizeLine) :
    Run RV G A ρ s (call (.builtin "list.append") [.ref a, x]) .none (S.set D (.list (xs ++ [y]))) := by
  refine Run.mk hS fun Q k => ?_
  obtain ⟨a', ws, m, h1, h2, h3⟩ := list_at hS e
  rw [ha] at h1; cases h1
  refine wpAny_list_append_plain ⟨m, h2⟩ (fun h' hp hs => ?_) (by have := h3.length; simp at this; omega)
  obtain ⟨m', hp⟩ := hp
  exact k ρ _ _ (Ext.upd (List.mem_of_getElem? ha) fun b z hb ez => (hs.2 b hb).trans ez) (hS.upd e ha (fun b z hb ez => (hs.2 b hb).trans ez) hp ⟨_, _, rfl, by rw [Array.toList_push]; exact h3.append (.one r)⟩ rfl rfl) rfl
theorem comp_code {elt iter : Expr} {gens : List Comprehension} {x : Str} {px : Pos} {ifs : List Expr} {scope : Scope} {pos : Pos} {d : Nat} {it acc : Value} {A : Around} {env : Env} {s : Shared} {R : Result → Shared → Prop} (hg : gens[d]? = some ⟨.Name x px, iter, ifs, 0⟩)
    (h : wpAny (model G.prog G.w) A (pyNext it) (fun r s1 => match r with
      | none => R (.ok .next) s1
      | some v => wpAny (model G.prog G.w) A (assign (.Name x px) env v) (fun _ s2 => wpAny (model G.prog G.w) A (forIn ifs true fun c r => if r = true then do let ok ← isTrue c env (eval c env); pure (ForInStep.yield ok) else pure (ForInStep.yield r)) (fun ok s3 =>
        if ok = true then (match gens[d + 1]? with
          | some g' => wpAny (model G.prog G.w) A (eval g'.iter env) (fun x s4 => g'.is_async = 0 ∧ foldedSetIterable g'.iter env x = pure x ∧ wpAny (model G.prog G.w) A (pyIter x) (fun i s5 => codeAny (model G.prog G.w) A (.compStart (.ListComp elt gens scope pos) (d + 1) i acc env) (fun r s6 => match r with
            | .ok _ => codeAny (model G.prog G.w) A (.compLoop (.ListComp elt gens scope pos) d it acc env) R s6
            | .error _ => False) s5) (fun _ _ => False) s4) (fun _ _ => False) s3
          | none => wpAny (model G.prog G.w) A (eval elt env) (fun x s4 => wpAny (model G.prog G.w) A (call (.builtin "list.append") [acc, x]) (fun _ s5 => codeAny (model G.prog G.w) A (.compLoop (.ListComp elt gens scope pos) d it acc env) R s5) (fun _ _ => False) s4) (fun _ _ => False) s3)
        else codeAny (model G.prog G.w) A (.compLoop (.ListComp elt gens scope pos) d it acc env) R s3) (fun _ _ => False) s2) (fun _ _ => False) s1) (fun _ _ => False) s) :
    codeAny (model G.prog G.w) A (.compLoop (.ListComp elt gens scope pos) d it acc env) R s := by
  refine codeAny_of_tree ?_
  show wpAny _ A ((compTurn (.ListComp elt gens scope pos) d it acc env).onRaise (fun x => do noteFrame x env; theTreesLotGoes x)) _ _ s
  refine wpAny_noted ?_
  rw [compTurn_at hg]
  refine wpAny_bind (wpAny_standAt (wpAny_bind (wpAny_mono h (fun r s1 h1 => ?_) fun _ _ h' => h'.elim)))
  cases r with
  | none => exact wpAny_pure h1
  | some v =>
    refine wpAny_bind (wpAny_mono h1 (fun _ s2 h2 => wpAny_bind (wpAny_mono h2 (fun ok s3 h3 => ?_) fun _ _ h' => h'.elim)) fun _ _ h' => h'.elim)
    cases ok with
    | false => exact wpAny_pure ⟨rfl, h3⟩
    | true =>
      rw [if_pos rfl] at h3
      dsimp only
      rw [if_pos rfl]
      cases hg' : gens[d + 1]? with
      | none =>
        rw [hg'] at h3
        exact wpAny_bind (wpAny_bind (wpAny_mono h3 (fun x s4 h4 => wpAny_bind (wpAny_mono h4 (fun _ s5 h5 => wpAny_pure (wpAny_pure ⟨rfl, h5⟩)) fun _ _ q => q.elim)) fun _ _ q => q.elim))
      | some g' =>
        rw [hg'] at h3
        refine wpAny_bind (wpAny_mono h3 (fun x s4 h4 => ?_) fun _ _ q => q.elim)
        obtain ⟨ha, hf, h4⟩ := h4
        have hna : (g'.is_async != 0) = false := by rw [ha]; rfl
        simp only [hna, Bool.false_eq_true, if_false]
        refine wpAny_bind (wpAny_standAt (wpAny_bind (wpAny_of_eq hf (wpAny_bind (wpAny_holding (wpAny_mono h4 (fun i s5 h5 => wpAny_bind (wpAny_runOwn (codeAny_mono h5 fun r s6 h6 => ?_))) fun _ _ q => q.elim))))))
        cases r with
        | ok f => exact wpAny_pure ⟨rfl, h6⟩
        | error e => exact h6.elim
theorem comp_loop {elt : Expr} {gens : List Comprehension} {scope : Scope} {pos : Pos} {D : Nat} {A : Around} {env : Env} {ρ₀ : List Addr} {aD : Addr} (hA : GoodA A n) (hE₀ : EnvOk E env ρ₀) (hD : ρ₀[D]? = some aD)
    {d : Nat} {c : Src} {S S' : List O} (L : CompN G n E elt gens D d c S S') : ∀ {R : Result → Shared → Prop} {I : Addr} {ρ₁ ρ : List Addr} {s₁ s : Shared}, ρ₀ <+: ρ → s₁.heap.get? I = none → G.h₀.get? I = none → Ext ρ₁ ρ s₁ s → Sim G ρ S s → I ∉ ρ → ItAt ρ I s.heap c →
    (∀ ρ' s', ρ₀ <+: ρ' → Ext ρ₁ ρ' s₁ s' → Sim G ρ' S' s' → R (.ok .next) s') → codeAny (model G.prog G.w) A (.compLoop (.ListComp elt gens scope pos) d (.ref I) (.ref aD) env) R s := by
  induction L with
  | done hg N =>
    intro R I ρ₁ ρ s₁ s hp h0 hb x hS hI hit hR
    refine comp_code hg ?_
    exact it_next hA.handled hS hI hit N (fun _ h' hk => hR ρ _ hp (x.but h0 hk) (hS.but hI hb hk rfl rfl hS.toks)) fun v c' e => by cases e
  | skip hg N hs ht L ih =>
    intro R I ρ₁ ρ s₁ s hp h0 hb x hS hI hit hR
    refine comp_code hg ?_
    refine it_next hA.handled hS hI hit N (fun e => by cases e) fun v c' e h' tk y hk htk ry hit' => ?_
    cases e
    have x1 := x.but (s' := ⟨h', s.gens, s.drawn, tk, s.os⟩) h0 hk
    have hS1 : Sim G ρ _ ⟨h', s.gens, s.drawn, tk, s.os⟩ := hS.but hI hb hk rfl rfl (Nat.le_trans hS.toks htk)
    have hE := hE₀.mono hp
    refine wpAny_assign_Name (hs A env ρ _ y hE hS1 ry _ fun ρ2 s2 _ x2 hS2 _ => ?_)
    refine ht.run hA (hE.mono x2.pre) hS2 _ fun ρ3 s3 ok x3 hS3 r3 => ?_
    cases r3
    rw [if_neg (by decide)]
    obtain ⟨o, ho⟩ := hit'.live
    have hI2 := x2.off hI ho
    have ho2 := x2.keep _ _ hI ho
    exact ih (hp.trans ((x2.trans x3).pre)) h0 hb ((x1.trans x2).trans x3) hS3 (x3.off hI2 ho2) ((hit'.ext x2 hI).ext x3 hI2) hR
  | emit hg hg' N hs ht he hx hl L ih =>
    intro R I ρ₁ ρ s₁ s hp h0 hb x hS hI hit hR
    refine comp_code hg ?_
    refine it_next hA.handled hS hI hit N (fun e => by cases e) fun v c' e h' tk y hk htk ry hit' => ?_
    cases e
    have x1 := x.but (s' := ⟨h', s.gens, s.drawn, tk, s.os⟩) h0 hk
    have hS1 : Sim G ρ _ ⟨h', s.gens, s.drawn, tk, s.os⟩ := hS.but hI hb hk rfl rfl (Nat.le_trans hS.toks htk)
    have hE := hE₀.mono hp
    refine wpAny_assign_Name (hs A env ρ _ y hE hS1 ry _ fun ρ2 s2 _ x2 hS2 _ => ?_)
    refine ht.run hA (hE.mono x2.pre) hS2 _ fun ρ3 s3 ok x3 hS3 r3 => ?_
    cases r3
    rw [if_pos rfl, hg']
    have hE3 := hE.mono (x2.trans x3).pre
    refine he A env ρ3 s3 hA hE3 hS3 _ fun ρ4 s4 z x4 hS4 r4 => ?_
    have hD4 : ρ4[D]? = some aD := get_mono (hp.trans ((x2.trans x3).trans x4).pre) hD
    refine Run.append hS4 hx hD4 r4 hl _ fun ρ5 s5 _ x5 hS5 _ => ?_
    have xx := ((x2.trans x3).trans x4).trans x5
    obtain ⟨o, ho⟩ := hit'.live
    exact ih (hp.trans xx.pre) h0 hb (x1.trans xx) hS5 (xx.off hI ho) (hit'.ext xx hI) hR
  | @deep d x px it ifs g' c c' c2 v S S1 S2 S3 S4 S5 hg hg' ha hf N hs ht hi L1 L2 ih1 ih2 =>
    intro R I ρ₁ ρ s₁ s hp h0 hb x hS hI hit hR
    refine comp_code hg ?_
    refine it_next hA.handled hS hI hit N (fun e => by cases e) fun v c' e h' tk y hk htk ry hit' => ?_
    cases e
    have x1 := x.but (s' := ⟨h', s.gens, s.drawn, tk, s.os⟩) h0 hk
    have hS1 : Sim G ρ _ ⟨h', s.gens, s.drawn, tk, s.os⟩ := hS.but hI hb hk rfl rfl (Nat.le_trans hS.toks htk)
    have hE := hE₀.mono hp
    refine wpAny_assign_Name (hs A env ρ _ y hE hS1 ry _ fun ρ2 s2 _ x2 hS2 _ => ?_)
    refine ht.run hA (hE.mono x2.pre) hS2 _ fun ρ3 s3 ok x3 hS3 r3 => ?_
    cases r3
    rw [if_pos rfl, hg']
    have hE3 := hE.mono (x2.trans x3).pre
    refine wpAny_mono (hi A env ρ3 s3 (fun i s5 => codeAny (model G.prog G.w) A (.compStart (.ListComp elt gens scope pos) (d + 1) i (.ref aD) env) (fun r s6 => match r with
        | .ok _ => codeAny (model G.prog G.w) A (.compLoop (.ListComp elt gens scope pos) d (.ref I) (.ref aD) env) R s6
        | .error _ => False) s5) hA hE3 hS3 fun ρ4 s4 I2 x4 hS4 hI4 hI4s hI4b hit4 => ?_) (fun z s4 h4 => ⟨ha, hf _ _, h4⟩) fun _ _ q => q.elim
    have loop : codeAny (model G.prog G.w) A (.compLoop (.ListComp elt gens scope pos) (d + 1) (.ref I2) (.ref aD) env) (fun r s6 => match r with
        | .ok _ => codeAny (model G.prog G.w) A (.compLoop (.ListComp elt gens scope pos) d (.ref I) (.ref aD) env) R s6
        | .error _ => False) s4 := by
      refine ih1 (ρ₁ := ρ3) (s₁ := s3) (hp.trans ((x2.trans x3).trans x4).pre) hI4s hI4b x4 hS4 hI4 hit4 fun ρ5 s5 hp5 x5 hS5 => ?_
      have xx := (x2.trans x3).trans x5
      obtain ⟨o, ho⟩ := hit'.live
      exact ih2 hp5 h0 hb (x1.trans xx) hS5 (xx.off hI ho) (hit'.ext xx hI) hR
    exact comp_start hg' ha loop (it_again hit4 loop)
end
end Mine
namespace Mine
/-- a comprehension's own scope in a function's -/
noncomputable def relA (scope o : Scope) : Scope :=
  { scope with names := scope.names.map fun (n, k) => if (k == .free && o.kind == .function && o.names.lookup n == some .cell) then (n, .cell) else (n, k) }
theorem relabel_eq {scope o : Scope} {env : Env} (h : env.scope = o) : relabel scope env = relA scope o := by subst h; rfl
noncomputable def closN (cells : List (Str × Nat)) : List (Str × NameKind) → List (Str × Nat) → Option (List (Str × Nat))
  | [], acc => some acc
  | (x, k) :: r, acc => if k == NameKind.free then (cells.lookup x).bind fun c => closN cells r ((x, c) :: acc) else closN cells r acc
noncomputable def ClosOk (ρ : List Addr) (cs : List (Str × Nat)) (cl : List (Str × Addr)) : Prop := ∀ x n, cs.lookup x = some n → ∃ a, cl.lookup x = some a ∧ ρ[n]? = some a
theorem closN_ok {E : AEnv} {env : Env} {ρ : List Addr} (hE : EnvOk E env ρ) : ∀ (names : List (Str × NameKind)) (acc : List (Str × Nat)) (acl : List (Str × Addr)) {cs : List (Str × Nat)}, closN E.cells names acc = some cs → ClosOk ρ acc acl →
    ∃ cl, (forIn names acl fun p r => match p with
      | (name, kind) => (if (kind == NameKind.free) = true then (do let a ← cellOf env name; pure (ForInStep.yield ((name, a) :: r))) else pure (ForInStep.yield r) : Sem (ForInStep (List (Str × Addr))))) = pure cl ∧ ClosOk ρ cs cl
  | [], acc, acl, cs, h, ok => by cases h; exact ⟨acl, rfl, ok⟩
  | (x, k) :: r, acc, acl, cs, h, ok => by
    rw [closN] at h
    cases hk : k == NameKind.free with
    | false =>
      rw [hk] at h
      obtain ⟨cl, h1, h2⟩ := closN_ok hE r acc acl h ok
      refine ⟨cl, ?_, h2⟩
      simp only [List.forIn_cons, hk]
      exact h1
    | true =>
      rw [hk, if_pos rfl] at h
      cases hc : E.cells.lookup x with
      | none => rw [hc] at h; cases h
      | some c =>
        rw [hc] at h
        obtain ⟨a, ha, hρ⟩ := hE.cell x c hc
        obtain ⟨cl, h1, h2⟩ := closN_ok hE r ((x, c) :: acc) ((x, a) :: acl) h (fun y m hy => by
          rw [List.lookup_cons] at hy ⊢
          cases q : y == x with
          | true => rw [q] at hy; cases hy; exact ⟨a, rfl, hρ⟩
          | false => rw [q] at hy; exact ok y m hy)
        refine ⟨cl, ?_, h2⟩
        simp only [List.forIn_cons, hk, cellOf, ha]
        exact h1
theorem closure_ok {E : AEnv} {env : Env} {ρ : List Addr} (hE : EnvOk E env ρ) {scope : Scope} {cs : List (Str × Nat)} (h : closN E.cells scope.names [] = some cs) : ∃ cl, closureFor scope env = pure cl ∧ ClosOk ρ cs cl := by
  obtain ⟨cl, h1, h2⟩ := closN_ok hE scope.names [] [] h (fun x n e => by cases e)
  refine ⟨cl, ?_, h2⟩
  simp only [closureFor]
  exact congrArg (fun t => t >>= fun r => pure r) h1
section
variable {G : Glo} {n : Nat} {E : AEnv} {S S1 S2 S3 S4 S5 : List O}
/-- a comprehension's frame, before the first turn -/
noncomputable def blank (ns : List Str) : O := .frame ns (ns.map fun _ => none)
theorem blank_ok {ρ : List Addr} {ns : List Str} {m : Str → Option Value} (h : ∀ x, m x = none) : RFr ρ ns (ns.map fun _ => none) m := fun i x hi => by
  rw [List.getElem?_map, hi]; exact h x
theorem comp_block {elt iter : Expr} {x : Str} {px : Pos} {ifs : List Expr} {gens : List Comprehension} {scope : Scope} {pos : Pos} {c : Src} {cs : List (Str × Nat)} {ns : List Str} {use : Option (Value → Sem Unit)} {A : Around} {env : Env} {ρ : List Addr} {s : Shared} {Q : Value → Shared → Prop}
    (hA : GoodA A n) (hE : EnvOk E env ρ) (hS : Sim G ρ S s) (hi : Iti G n E iter S c S1) (hg : gens[0]? = some ⟨.Name x px, iter, ifs, 0⟩) (hcs : closN E.cells scope.names [] = some cs)
    (hcell : ∀ y ∈ scope.names, y.2 ≠ .cell) (hkind : scope.kind = .function) (hnames : ∀ y ∈ scope.names, y.2 = .local → scope.names.lookup y.1 = some .local)
    (hL : CompN G n ⟨relA scope E.scope, S1.length + 1, cs⟩ elt gens S1.length 0 c (S1 ++ [.list [], blank ns]) S2) (hf : ∀ (env : Env) x, foldedSetIterable iter env x = pure x)
    (hQ : ∀ ρ' s' aD aC, Ext ρ ρ' s s' → Sim G ρ' S2 s' → ρ'[S1.length]? = some aD → ρ'[S1.length + 1]? = some aC → compPost (model G.prog G.w) A (fun _ _ => False) use Q (.ref aD) aC (.ok .next) s') :
    wpAny (model G.prog G.w) A (comprehension (.ListComp elt gens scope pos) scope env (firstIterPos gens pos) (newList []) false (eval iter env) use) Q (fun _ _ => False) s := by
  obtain ⟨gs, hgs⟩ : ∃ gs, gens = ⟨.Name x px, iter, ifs, 0⟩ :: gs := by
    cases gens with
    | nil => cases hg
    | cons g gs => cases hg; exact ⟨gs, rfl⟩
  obtain ⟨cl, hcl, hclok⟩ := closure_ok hE hcs
  refine wpAny_comprehension_free (g := ⟨.Name x px, iter, ifs, 0⟩) (gs := gs) (by rw [hgs]; rfl) (hf env) hcl hkind hnames ?_
  refine hi A env ρ s _ hA hE hS fun ρ1 s1 I x1 hS1 hI hIs hIb hit => ?_
  refine wpAny_newObj_type ?_
  refine wpAny_newFunctionEnv hcell (by intro y hy; simp at hy) (fun h' hns hsb => ?_) hkind
  have hS2 : Sim G (ρ1 ++ [s1.heap.objs.size]) (S1 ++ [.list []]) { s1 with heap := s1.heap.push { cls := .type "list", data := .seq ([] : List Value).toArray } } := hS1.push rfl rfl ⟨_, 0, rfl, .nil⟩ rfl rfl hS1.toks
  have kp : ∀ b o, (s1.heap.push { cls := .type "list", data := .seq ([] : List Value).toArray }).get? b = some o → h'.get? b = some o := fun b o e =>
    (hsb.2 b (fun q => by subst q; exact absurd (Heap.lt_size e) (Nat.lt_irrefl _))).trans (Heap.get?_push_of_some _ e)
  obtain ⟨ob, es, ep, e1, e2, e3, e4⟩ := hns
  generalize hC : (s1.heap.push { cls := .type "list", data := .seq ([] : List Value).toArray }).objs.size = C at *
  have hCn : (s1.heap.push { cls := .type "list", data := .seq ([] : List Value).toArray }).get? C = none := hC ▸ get_size _
  have hS3 : Sim G ((ρ1 ++ [s1.heap.objs.size]) ++ [C]) ((S1 ++ [.list []]) ++ [blank ns]) ⟨h', s1.gens, s1.drawn, s1.toks + 0, s1.os⟩ :=
    hS2.add kp hCn (hC ▸ hS2.big) e1 ⟨es, ep, _, e2, e3, e4, blank_ok fun x => rfl⟩ rfl rfl hS1.toks
  have X1 : Ext ρ1 ((ρ1 ++ [s1.heap.objs.size]) ++ [C]) s1 ⟨h', s1.gens, s1.drawn, s1.toks + 0, s1.os⟩ := (Ext.push rfl).trans (Ext.add (s := { s1 with heap := s1.heap.push { cls := .type "list", data := .seq ([] : List Value).toArray } }) kp hCn)
  rw [List.append_assoc, List.append_assoc] at hS3
  rw [List.append_assoc] at X1
  have pD : (ρ1 ++ ([s1.heap.objs.size] ++ [C]))[S1.length]? = some s1.heap.objs.size := by rw [← hS1.len]; simp
  have pC : (ρ1 ++ ([s1.heap.objs.size] ++ [C]))[S1.length + 1]? = some C := by rw [← hS1.len]; simp
  have hE' : EnvOk ⟨relA scope E.scope, S1.length + 1, cs⟩ { newEnv scope C env.globals cl env.qual none .none (some env) builtinsNs with scope := relabel scope env } (ρ1 ++ ([s1.heap.objs.size] ++ [C])) :=
    ⟨relabel_eq hE.scope, hkind, pC, fun y m hy => let ⟨a, h1, h2⟩ := hclok y m hy; ⟨a, h1, get_mono (x1.pre.trans X1.pre) h2⟩, hE.glob, hE.blt⟩
  have hIo : ∀ {o}, s1.heap.get? I = some o → I ∉ ρ1 ++ ([s1.heap.objs.size] ++ [C]) := fun ho => X1.off hI ho
  obtain ⟨o, ho⟩ := hit.live
  have loop : codeAny (model G.prog G.w) A (.compLoop (.ListComp elt gens scope pos) 0 (.ref I) (.ref s1.heap.objs.size) { newEnv scope C env.globals cl env.qual none .none (some env) builtinsNs with scope := relabel scope env }) (compPost (model G.prog G.w) A (fun _ _ => False) use Q (.ref s1.heap.objs.size) C) ⟨h', s1.gens, s1.drawn, s1.toks + 0, s1.os⟩ := by
    refine comp_loop (ρ₁ := ρ) (s₁ := s) hA hE' pD hL (List.prefix_refl _) hIs hIb (x1.trans X1) hS3 (hIo ho) (hit.ext X1 hI) fun ρ' s' hp' x' hS' => ?_
    exact hQ ρ' s' _ _ x' hS' (get_mono hp' pD) (get_mono hp' pC)
  exact comp_start hg rfl loop (it_again (hit.ext X1 hI) loop)
/-- the comprehension's frame goes; the rest of S2 that is kept is S3 -/
theorem comp_drop {ρ ρ' : List Addr} {s s' : Shared} {σ : List Nat} {T : List O} {aC : Addr} {c : Nat} (P : Part σ T S2) (hS : Sim G ρ S s) (H : Sim G ρ' S2 s') (x : Ext ρ ρ' s s') (hσ : ∀ i, i < S.length → σ[i]? = some i) (hC : ρ'[c]? = some aC) (hc : c ∉ σ) (hcl : S.length ≤ c)
    {h' : Heap} (hs : Heap.SameBut aC s'.heap h') : Ext ρ (σ.map fun i => ρ'.getD i 0) s { s' with heap := h' } ∧ Sim G (σ.map fun i => ρ'.getD i 0) T { s' with heap := h' } := by
  obtain ⟨x1, H1⟩ := Sim.cut P hS H x hσ
  have hoff : aC ∉ (σ.map fun i => ρ'.getD i 0) := fun q => by
    obtain ⟨j, hj⟩ := List.getElem?_of_mem q
    obtain ⟨hl, h2⟩ := P.rho' H hj
    have := nodup_get H.nodup hC h2
    have hl' : j < σ.length := P.len ▸ hl
    rw [at0_of (List.getElem?_eq_getElem hl')] at this
    exact hc (this ▸ List.getElem_mem hl')
  have hnew := H.new aC (List.mem_of_getElem? hC)
  have hfr : s.heap.get? aC = none := by
    refine x.new aC (List.mem_of_getElem? hC) fun q => ?_
    obtain ⟨j, hj⟩ := List.getElem?_of_mem q
    have hjl : j < S.length := hS.len ▸ (List.getElem?_eq_some_iff.mp hj).1
    have := nodup_get H.nodup hC (get_mono x.pre hj)
    omega
  have kp : ∀ b o, b ≠ aC → s'.heap.get? b = some o → h'.get? b = some o := fun b o hb e => (hs.2 b hb).trans e
  exact ⟨x1.but hfr kp, H1.but hoff hnew kp rfl rfl H1.toks⟩
theorem Ev.comp {elt iter : Expr} {x : Str} {px : Pos} {ifs : List Expr} {gs : List Comprehension} {scope : Scope} {pos : Pos} {c : Src} {cs : List (Str × Nat)} (ns : List Str) {σ : List Nat} {r : Nat} {ns' : List Str} {vs' : List (Option V)}
    (hi : Iti G n E iter S c S1) (hL : CompN G n ⟨relA scope E.scope, S1.length + 1, cs⟩ elt (⟨.Name x px, iter, ifs, 0⟩ :: gs) S1.length 0 c (S1 ++ [.list [], blank ns]) S2)
    (hF : S2[S1.length + 1]? = some (.frame ns' vs')) (P : Part σ S3 S2) (hσ : ∀ i, i < S.length → σ[i]? = some i) (hr : σ[r]? = some S1.length) (hC : S1.length + 1 ∉ σ) (hl : S.length ≤ S1.length)
    (hcs : closN E.cells scope.names [] = some cs := by rfl) (hcell : ∀ y ∈ scope.names, y.2 ≠ .cell := by decide) (hkind : scope.kind = .function := by rfl) (hnames : ∀ y ∈ scope.names, y.2 = .local → scope.names.lookup y.1 = some .local := by decide)
    (hf : ∀ (env : Env) x, foldedSetIterable iter env x = pure x := by (intro _ _; rfl)) : Ev G n E (.ListComp elt (⟨.Name x px, iter, ifs, 0⟩ :: gs) scope pos) S (.ref r) S3 := by
  intro A env ρ s hA hE hS Q k
  rw [eval_ListComp]
  refine comp_block (use := none) hA hE hS hi rfl hcs hcell hkind hnames hL hf fun ρ' s' aD aC x' hS' hD hC' => ?_
  obtain ⟨b, ob, h1, h2, h3⟩ := hS'.own _ _ hF
  rw [hC'] at h1; cases h1
  obtain ⟨m, hm, _⟩ := ns_of h2 h3
  refine ⟨m, hm, fun h' hs => ?_⟩
  obtain ⟨x2, H2⟩ := comp_drop P hS hS' x' hσ hC' hC (by omega) hs
  refine k _ _ _ x2 H2 ⟨aD, ?_, rfl⟩
  rw [List.getElem?_map, hr]
  simp [List.getD_eq_getElem?_getD, hD]
theorem Ex.assignComp {elt iter : Expr} {x y : Str} {px py spos : Pos} {ifs : List Expr} {gs : List Comprehension} {scope : Scope} {pos : Pos} {c : Src} {cs : List (Str × Nat)} (ns : List Str) {σ : List Nat} {ns' : List Str} {vs' : List (Option V)}
    (hi : Iti G n E iter S c S1) (hL : CompN G n ⟨relA scope E.scope, S1.length + 1, cs⟩ elt (⟨.Name x px, iter, ifs, 0⟩ :: gs) S1.length 0 c (S1 ++ [.list [], blank ns]) S2)
    (hst : Sto G E y (.ref S1.length) S2 S3)
    (hF : S3[S1.length + 1]? = some (.frame ns' vs')) (P : Part σ S4 S3) (hσ : ∀ i, i < S.length → σ[i]? = some i) (hC : S1.length + 1 ∉ σ) (hl : S.length ≤ S1.length)
    (hsw : ∀ env : Env, env.scope = E.scope → swapsWith (.ListComp elt (⟨.Name x px, iter, ifs, 0⟩ :: gs) scope pos) (some (.Name y py)) spos.line env = pure true)
    (hcs : closN E.cells scope.names [] = some cs := by rfl) (hcell : ∀ y ∈ scope.names, y.2 ≠ .cell := by decide) (hkind : scope.kind = .function := by rfl) (hnames : ∀ y ∈ scope.names, y.2 = .local → scope.names.lookup y.1 = some .local := by decide)
    (hf : ∀ (env : Env) x, foldedSetIterable iter env x = pure x := by (intro _ _; rfl)) : Ex G n E (.Assign [.Name y py] (.ListComp elt (⟨.Name x px, iter, ifs, 0⟩ :: gs) scope pos) spos) S .next S4 := by
  intro A env ρ s hA hE hS Q k
  rw [exec_Assign_Name_used _ _ _ _ (hsw env hE.scope)]
  refine wpAny_bind (wpAny_standAt (wpAny_bind ?_))
  show wpAny _ A (do let _ ← comprehension (.ListComp elt (⟨.Name x px, iter, ifs, 0⟩ :: gs) scope pos) scope env (firstIterPos (⟨.Name x px, iter, ifs, 0⟩ :: gs) pos) (newList []) false (eval iter env) (some (PySem.assign (.Name y py) env))) _ _ s
  refine wpAny_bind (wpAny_mono (comp_block (use := some (PySem.assign (.Name y py) env)) (Q := fun _ s' => Q .next s') hA hE hS hi rfl hcs hcell hkind hnames hL hf fun ρ' s' aD aC x' hS' hD hC' => ?_) (fun _ s' hq => wpAny_pure (wpAny_pure hq)) fun _ _ e => e)
  show wpAny _ A (PySem.assign (.Name y py) env (.ref aD)) _ _ _
  refine wpAny_assign_Name (hst A env ρ' s' (.ref aD) (hE.mono x'.pre) hS' ⟨aD, hD, rfl⟩ _ fun ρ2 s2 _ x2 hS2 _ => ?_)
  have hC2 := get_mono x2.pre hC'
  obtain ⟨b, ob, h1, h2, h3⟩ := hS2.own _ _ hF
  rw [hC2] at h1; cases h1
  obtain ⟨m, hm, _⟩ := ns_of h2 h3
  refine ⟨m, hm, fun h' hs => ?_⟩
  obtain ⟨x3, H3⟩ := comp_drop P hS hS2 (x'.trans x2) hσ hC2 hC (by omega) hs
  exact k _ _ _ x3 H3 rfl
/-- a while's turns -/
inductive Whl (G : Glo) (n : Nat) (E : AEnv) (t : Expr) (body : List Stmt) : Nat → List O → Fl → List O → Prop where
  | done {S S' : List O} : Tst G n E t S false S' → Whl G n E t body 0 S .next S'
  | next {m : Nat} {f : Fl} {S S1 S2 S3 : List O} : Tst G n E t S true S1 → Exs G n E body S1 .next S2 → Whl G n E t body m S2 f S3 → Whl G n E t body (m + 1) S f S3
  | stop {v : V} {S S1 S2 : List O} : Tst G n E t S true S1 → Exs G n E body S1 (.ret v) S2 → Whl G n E t body 0 S (.ret v) S2
theorem Ex.while {t : Expr} {body : List Stmt} {pos : Pos} {m : Nat} {f : Fl} (h : Whl G n E t body m S f S1) : Ex G n E (.While t body [] pos) S f S1 := by
  intro A env ρ s hA hE hS Q k
  refine wpAny_While (codeAny_whileLoop (fun k s' => ∃ ρ' S, Whl G n E t body k S f S1 ∧ Ext ρ ρ' s s' ∧ Sim G ρ' S s') ?_ m ⟨ρ, S, h, Ext.refl, hS⟩)
  rintro m s1 ⟨ρ1, T, L, x1, hT⟩
  have hE1 := hE.mono x1.pre
  cases L with
  | done h1 =>
    refine wpAny_mono (h1 A env ρ1 s1 hA hE1 hT _ fun ρ2 s2 b x2 hS2 r2 => ?_) (fun _ _ q => q) fun _ _ q => q.elim
    cases r2
    exact wpAny_execs_nil (k ρ2 s2 _ (x1.trans x2) hS2 rfl)
  | next h1 h2 h3 =>
    refine wpAny_mono (h1 A env ρ1 s1 hA hE1 hT _ fun ρ2 s2 b x2 hS2 r2 => ?_) (fun _ _ q => q) fun _ _ q => q.elim
    cases r2
    rw [if_pos rfl]
    refine wpAny_mono (h2 A env ρ2 s2 hA (hE1.mono x2.pre) hS2 _ fun ρ3 s3 b x3 hS3 r3 => ?_) (fun _ _ q => q) fun _ _ q => q.elim
    cases r3
    exact ⟨_, Nat.lt_succ_self _, ρ3, _, h3, (x1.trans x2).trans x3, hS3⟩
  | stop h1 h2 =>
    refine wpAny_mono (h1 A env ρ1 s1 hA hE1 hT _ fun ρ2 s2 b x2 hS2 r2 => ?_) (fun _ _ q => q) fun _ _ q => q.elim
    cases r2
    rw [if_pos rfl]
    refine wpAny_mono (h2 A env ρ2 s2 hA (hE1.mono x2.pre) hS2 _ fun ρ3 s3 b x3 hS3 r3 => ?_) (fun _ _ q => q) fun _ _ q => q.elim
    obtain ⟨z, rfl, rz⟩ := r3
    exact k ρ3 s3 _ ((x1.trans x2).trans x3) hS3 ⟨z, rfl, rz⟩
end
end Mine
namespace Mine
section
variable {prog : Program} {w : World} {A : Around} {E : Value → Shared → Prop} {s : Shared}
theorem go_any {base : Expr} {o r : Value} {Q : Unit → Shared → Prop} (h : Q () s) : wpAny (model prog w) A (letTemporaryGo base o r) Q E s := by
  unfold letTemporaryGo
  split
  · exact wpAny_pure h
  · exact wpAny_bind (wpAny_holding (wpAny_runValue (codeAny_builtin entry_let_go (show wpAny _ _ (ret .none) _ _ s from wpAny_pure (wpAny_pure h)))))
  · exact wpAny_pure h
theorem tail_of {value slice : Expr} {o i : Value} {T id : String} {L : List Value} {Q : Value → Shared → Prop} (hT : s.TypeIs o T)
    (hl : typeLookup (.type T) "__getitem__" = pure (some (.builtin id))) (h : wpAny (model prog w) A (getItem o i) Q E s)
    (hs : subscripted slice false o i = operate L (getItem o i)) :
    wpAny (model prog w) A (subscriptTail value slice o i) Q E s := by
  unfold subscriptTail
  refine wpAny_bind ?_
  rw [getitemInPython_of_ne hT.not_modules]
  refine wpAny_bind (wpAny_specialOf hT hl ?_)
  have fin : wpAny (model prog w) A (subscripted slice false o i) (fun r s₃ => wpAny (model prog w) A (letTemporaryGo value o r >>= fun _ => pure r) Q E s₃) E s := by
    rw [hs]
    exact wpAny_operating (wpAny_mono h (fun r s₃ h₃ => wpAny_bind (go_any (wpAny_pure h₃))) fun _ _ x => x)
  first
    | exact wpAny_pure (wpAny_bind fin)
    | exact wpAny_bind (wpAny_pure (wpAny_bind fin))
    | exact wpAny_bind fin
theorem setItem_plain {l : Addr} {items : Array Value} {n : Nat} {k : Int} {t : Tok} {v : Value} {Q : Unit → Shared → Prop} (ho : s.heap.get? l = some ({ cls := .type "list", data := .seq items n } : Obj))
    (h0 : 0 ≤ k) (hfit : k < 2 ^ 63) (hn : k < items.size)
    (hQ : ∀ h', h'.get? l = some ({ cls := .type "list", data := .seq (items.setIfInBounds k.toNat v) n } : Obj) → Heap.SameBut l s.heap h' → Q () { s with heap := h' }) :
    wpAny (model prog w) A (setItem (.ref l) (.int k t) v) Q E s := by
  have hl : s.heap.IsList l items := ⟨_, ho, rfl, n, rfl⟩
  unfold setItem
  try with_reducible refine wpAny_holding ?_
  first | refine wpAny_bind (wpAny_pure ?_) | skip
  refine wpAny_bind (wpAny_sequenceKey hl.typeIs (by decide) ?_)
  refine wpAny_bind (wpAny_callSpecial?_slot (name := Str.ofString "__setitem__") hl.typeIs slot_list_setitem
    (wpAny_call_entry slot_list_setitem hl.typeIs entry_list_setitem ?_ (args_list_setitem _ _ _)))
  show wpAny _ _ (Builtin.List.listSubscript? (.int k t) >>= _) _ _ s
  refine wpAny_bind (wpAny_listSubscript_int (fitsIndex_of h0 hfit) ?_)
  clear hfit
  obtain ⟨j, rfl⟩ := Int.eq_ofNat_of_zero_le h0
  have hj : j < items.size := by omega
  have hx' : items[j]? = some items[j] := Array.getElem?_eq_getElem hj
  show wpAny _ _ ((seqItemAt l j >>= fun r => pure (r.map (j, ·))) >>= _) _ _ s
  refine wpAny_bind (wpAny_bind (wpAny_seqItemAt ho rfl (wpAny_pure ?_)))
  rw [hx']
  show wpAny _ _ (setSeqItemAt l j v >>= _) _ _ s
  have hfin : (s.heap.update l (Obj.mapSeq (·.setIfInBounds j v))).get? l = some ({ cls := .type "list", data := .seq (items.setIfInBounds j v) n } : Obj) := by
    rw [Heap.get?_update_self _ ho (by simp [Obj.mapSeq]; rfl)]
    simp [Obj.mapSeq]
  refine wpAny_bind (wpAny_setSeqItemAt ho rfl ?_)
  first
    | exact wpAny_bind (wpAny_pure (wpAny_pure ⟨.none, rfl, wpAny_pure (hQ _ hfin (Heap.SameBut.update ..))⟩))
    | exact wpAny_pure ⟨.none, rfl, wpAny_pure (hQ _ hfin (Heap.SameBut.update ..))⟩
end
section
variable {G : Glo} {n : Nat} {E : AEnv} {S S1 S2 S3 S4 S5 : List O}
/-- what stands at an index -/
noncomputable def Itm (G : Glo) (n : Nat) (o i : V) (S : List O) (v : V) (S' : List O) : Prop :=
  ∀ A ρ s x y, GoodA A n → Sim G ρ S s → RV ρ o x → RV ρ i y → (∃ T id, s.TypeIs x T ∧ typeLookup (.type T) "__getitem__" = pure (some (.builtin id))) ∧ Run RV G A ρ s (getItem x y) v S'
theorem Ev.sub {value slice : Expr} {pos : Pos} {o i v : V} (h1 : Ev G n E value S o S1) (h2 : Ev G n E slice S1 i S2) (h3 : Itm G n o i S2 v S3)
    (hs : ∀ x y, ∃ L, subscripted slice false x y = operate L (getItem x y) := by (intro x y; first | exact ⟨[x, y], rfl⟩ | exact ⟨[y, x], rfl⟩)) : Ev G n E (.Subscript value slice pos) S v S3 := by
  intro A env ρ s hA hE hS Q k
  refine Subscript_ (h1 A env ρ s hA hE hS _ fun ρ1 s1 x x1 hS1 r1 => h2 A env ρ1 s1 hA (hE.mono x1.pre) hS1 _ fun ρ2 s2 y x2 hS2 r2 => ?_)
  obtain ⟨⟨T, id, hT, hl⟩, hr⟩ := h3 A ρ2 s2 x y hA hS2 (r1.mono x2.pre) r2
  obtain ⟨L, hL⟩ := hs x y
  exact tail_of hT hl (hr _ fun ρ3 s3 z x3 hS3 r3 => k ρ3 s3 z ((x1.trans x2).trans x3) hS3 r3) hL
theorem Itm.list {i : Nat} {xs : List V} {k : Int} {v : V} (e : S[i]? = some (.list xs)) (h0 : 0 ≤ k) (hv : xs[k.toNat]? = some v) (hk : k < 2 ^ 63 := by decide) : Itm G n (.ref i) (.int k) S v S := by
  rintro A ρ s _ _ hA hS ⟨l, hl, rfl⟩ ⟨t, rfl⟩
  obtain ⟨l', ws, m, h1, h2, h3⟩ := list_at hS e
  rw [hl] at h1; cases h1
  obtain ⟨x, hx, rx⟩ := h3.get hv
  refine ⟨⟨"list", _, (isList_of h2).typeIs, slot_list_getitem.lookup⟩, fun Q c => ?_⟩
  exact wpAny_getItem_list (isList_of h2) h0 hk (by rw [← Array.getElem?_toList]; exact hx) (c ρ s x Ext.refl hS rx)
theorem Itm.str {x y : Str} {k : Int} (h : (Txt.charAt x k).isSome = true) (hy : Txt.item x k = y) (hk : fitsSsize k = true) : Itm G n (.str x) (.int k) S (.str y) S := by
  subst hy
  rintro A ρ s _ _ hA hS ⟨t, rfl⟩ ⟨u, rfl⟩
  refine ⟨⟨"str", _, typeIs_str _ _ _, F.slot_str_getitem.lookup⟩, Run.mk hS fun Q c => ?_⟩
  exact SB.getItem hk h (c ρ _ _ (Ext.same rfl) (hS.same rfl rfl rfl) ⟨_, rfl⟩)
/-- one end of a slice -/
inductive EvP (G : Glo) (n : Nat) (E : AEnv) : Option Expr → List O → Option Int → List O → Prop where
  | none {S : List O} : EvP G n E none S none S
  | some {e : Expr} {S S' : List O} {k : Int} : Ev G n E e S (.int k) S' → EvP G n E (some e) S (some k) S'
theorem EvP.run {p : Option Expr} {k : Option Int} (h : EvP G n E p S k S1) {A : Around} {env : Env} {ρ : List Addr} {s : Shared} (hA : GoodA A n) (hE : EnvOk E env ρ) (hS : Sim G ρ S s) :
    Run (fun _ k v => ∃ q : Option (Int × Tok), v = partValue q ∧ q.map (·.1) = k) G A ρ s (evalPart p env) k S1 := by
  cases h with
  | none => exact fun Q c => wpAny_pure (c ρ s _ Ext.refl hS ⟨Option.none, rfl, rfl⟩)
  | some h => exact fun Q c => evalPart_some_step (h A env ρ s hA hE hS _ fun ρ1 s1 v x1 hS1 r1 => by
      obtain ⟨t, rfl⟩ := r1
      exact c ρ1 s1 _ x1 hS1 ⟨Option.some (_, t), rfl, rfl⟩)
theorem isPart_of {q : Option (Int × Tok)} : IsPart (partValue q) (q.map (·.1)) := by
  cases q with
  | none => exact .none
  | some p => exact .int _ _
/-- a list's slice -/
noncomputable def cutOf (xs : List V) (lo hi : Option Int) : List V := (xs.drop (lo.elim 0 (clipAt xs.length))).take (hi.elim xs.length (clipAt xs.length) - lo.elim 0 (clipAt xs.length))
theorem slice_subscripted (lo hi : Option Expr) (p : Pos) (b : Bool) (x y : Value) : subscripted (.Slice lo hi none p) b x y = operate [y, x] (getItem x y) := by cases b <;> rfl
theorem Ev.slice {value : Expr} {lower upper : Option Expr} {p pos : Pos} {i : Nat} {xs : List V} {lo hi : Option Int} (h1 : Ev G n E value S (.ref i) S1) (h2 : EvP G n E lower S1 lo S2) (h3 : EvP G n E upper S2 hi S3) (e : S3[i]? = some (.list xs)) (hl : xs.length ≤ sizeLine) :
    Ev G n E (.Subscript value (.Slice lower upper none p) pos) S (.ref S3.length) (S3 ++ [.list (cutOf xs lo hi)]) := by
  intro A env ρ s hA hE hS
  refine Run.mk hS fun Q c => ?_
  refine Subscript_ (h1 A env ρ s hA hE hS _ fun ρ1 s1 x x1 hS1 r1 => wpAny_Slice (h2.run hA (hE.mono x1.pre) hS1 _ fun ρ2 s2 a x2 hS2 r2 => h3.run hA (hE.mono (x1.trans x2).pre) hS2 _ fun ρ3 s3 b x3 hS3 r3 => ?_))
  obtain ⟨qa, rfl, rfl⟩ := r2
  obtain ⟨qb, rfl, rfl⟩ := r3
  obtain ⟨l, hl1, rfl⟩ := r1
  obtain ⟨l', ws, m, g1, g2, g3⟩ := list_at hS3 e
  rw [get_mono (x2.trans x3).pre hl1] at g1; cases g1
  rw [evalPart_none]
  have gl := (isList_of g2).push { cls := .type "slice", data := .fields #[partValue qa, partValue qb, .none] }
  refine wpAny_pure (tail_of gl.typeIs slot_list_getitem.lookup (wpAny_getItem_list_slice gl (Heap.IsSliceOf.new ..) isPart_of isPart_of .none (by simp) ?_ (by have := g3.length; simp at this; omega)) (slice_subscripted _ _ _ _ _ _))
  rw [Heap.size_push]
  have hx : Sim G ρ3 S3 { s3 with heap := s3.heap.push { cls := .type "slice", data := .fields #[partValue qa, partValue qb, .none] } } := hS3.keeps (fun b o e => Heap.get?_push_of_some _ e) rfl rfl hS3.toks
  have sz : (s3.heap.push { cls := .type "slice", data := .fields #[partValue qa, partValue qb, .none] }).objs.size = s3.heap.objs.size + 1 := Heap.size_push ..
  have X : Ext ρ3 (ρ3 ++ [(s3.heap.push { cls := .type "slice", data := .fields #[partValue qa, partValue qb, .none] }).objs.size]) s3 { s3 with heap := (s3.heap.push { cls := .type "slice", data := .fields #[partValue qa, partValue qb, .none] }).push { cls := .type "list", data := .seq (slicePick ws (qa.map (·.1)) (qb.map (·.1)) none) } } :=
    (Ext.keeps (s' := { s3 with heap := s3.heap.push { cls := .type "slice", data := .fields #[partValue qa, partValue qb, .none] } }) fun b o e => Heap.get?_push_of_some _ e).trans (Ext.push (s := { s3 with heap := s3.heap.push { cls := .type "slice", data := .fields #[partValue qa, partValue qb, .none] } }) rfl)
  rw [sz] at X
  refine c _ _ _ (((x1.trans x2).trans x3).trans X) (fun ht => ?_) ⟨_, ?_, rfl⟩
  · have := hx.push (s' := { s3 with heap := (s3.heap.push { cls := .type "slice", data := .fields #[partValue qa, partValue qb, .none] }).push { cls := .type "list", data := .seq (slicePick ws (qa.map (·.1)) (qb.map (·.1)) none) } }) (o := .list (cutOf xs (qa.map (·.1)) (qb.map (·.1)))) rfl rfl ⟨_, 0, rfl, ?_⟩ rfl rfl ht
    · rw [sz] at this; exact this
    · rw [slicePick_plain]
      have e2 : ws.size = xs.length := by rw [← g3.length]; simp
      show RVs _ (cutOf xs _ _) (List.take _ (List.drop _ ws.toList))
      unfold cutOf
      rw [e2]
      exact ((g3.mono (List.prefix_append _ _)).drop _).take _
  · rw [← hS3.len]; simp
theorem Ev.sliceStr {value : Expr} {lower upper : Option Expr} {p pos : Pos} {x : Str} {lo hi : Option Int} (h1 : Ev G n E value S (.str x) S1) (h2 : EvP G n E lower S1 lo S2) (h3 : EvP G n E upper S2 hi S3) (hl : x.length ≤ sizeLine) :
    Ev G n E (.Subscript value (.Slice lower upper none p) pos) S (.str (Txt.slice x lo hi)) S3 := by
  intro A env ρ s hA hE hS
  refine Run.mk hS fun Q c => ?_
  refine Subscript_ (h1 A env ρ s hA hE hS _ fun ρ1 s1 y x1 hS1 r1 => wpAny_Slice (h2.run hA (hE.mono x1.pre) hS1 _ fun ρ2 s2 a x2 hS2 r2 => h3.run hA (hE.mono (x1.trans x2).pre) hS2 _ fun ρ3 s3 b x3 hS3 r3 => ?_))
  obtain ⟨qa, rfl, rfl⟩ := r2
  obtain ⟨qb, rfl, rfl⟩ := r3
  obtain ⟨t, rfl⟩ := r1
  rw [evalPart_none]
  refine wpAny_pure (tail_of (typeIs_str _ _ _) F.slot_str_getitem.lookup (wpAny_getItem_str_slice (l := qa) (u := qb) (st := none) ⟨_, Heap.get?_push_size _ rfl, rfl, rfl⟩ rfl ?_) (slice_subscripted _ _ _ _ _ _))
  have kp : ∀ b o, s3.heap.get? b = some o → (s3.heap.push { cls := .type "slice", data := .fields #[partValue qa, partValue qb, .none] }).get? b = some o := fun b o e => Heap.get?_push_of_some _ e
  exact post_val_or_str ⟨Nat.le_trans (Txt.slice_le x _ _) hl, fun t' k => c ρ3 _ _ (((x1.trans x2).trans x3).trans (Ext.keeps kp)) (fun ht => hS3.keeps kp rfl rfl ht) ⟨t', rfl⟩⟩
theorem Ex.expr {e : Expr} {pos : Pos} {v : V} (h : Ev G n E e S v S1) (hs : ∀ env : Env, swapsWith e none pos.line env = pure false := by (intro _; rfl)) : Ex G n E (.Expr e pos) S .next S1 := by
  intro A env ρ s hA hE hS Q k
  refine wpAny_Expr_any (h A env ρ s hA hE hS _ fun ρ1 s1 x x1 hS1 r1 => k ρ1 s1 _ x1 hS1 rfl) ?_ (hs env)
  unfold interactive
  rw [hE.scope, hE.kind]; rfl
theorem Ex.setSub {o i value : Expr} {pos pos' : Pos} {v : V} {a : Nat} {k : Int} {xs : List V} (h1 : Ev G n E value S v S1) (h2 : Ev G n E o S1 (.ref a) S2) (h3 : Ev G n E i S2 (.int k) S3) (e : S3[a]? = some (.list xs)) (h0 : 0 ≤ k) (hk : k < xs.length) (hf : k < 2 ^ 63)
    (hs : ∀ env : Env, swapsWith value (some (.Subscript o i pos')) pos.line env = pure false := by (intro _; rfl)) : Ex G n E (.Assign [.Subscript o i pos'] value pos) S .next (S3.set a (.list (xs.set k.toNat v))) := by
  intro A env ρ s hA hE hS
  refine Run.mk hS fun Q c => ?_
  refine wpAny_Assign_Subscript (h1 A env ρ s hA hE hS _ fun ρ1 s1 x x1 hS1 r1 => h2 A env ρ1 s1 hA (hE.mono x1.pre) hS1 _ fun ρ2 s2 y x2 hS2 r2 => h3 A env ρ2 s2 hA (hE.mono (x1.trans x2).pre) hS2 _ fun ρ3 s3 z x3 hS3 r3 => ?_) (hs env)
  obtain ⟨l, hl1, rfl⟩ := r2
  obtain ⟨t, rfl⟩ := r3
  obtain ⟨l', ws, m, g1, g2, g3⟩ := list_at hS3 e
  have hl3 := get_mono x3.pre hl1
  rw [hl3] at g1; cases g1
  have e2 : ws.size = xs.length := by rw [← g3.length]; simp
  refine setItem_plain g2 h0 hf (by omega) fun h' hg hsb => ?_
  have kp : ∀ b z, b ≠ l → s3.heap.get? b = some z → h'.get? b = some z := fun b z hb ez => (hsb.2 b hb).trans ez
  refine c ρ3 _ _ (((x1.trans x2).trans x3).trans (Ext.upd (List.mem_of_getElem? hl3) kp)) (fun ht => hS3.upd e hl3 kp hg ⟨_, _, rfl, ?_⟩ rfl rfl ht) rfl
  rw [Array.toList_setIfInBounds]
  exact g3.set (r1.mono (x2.trans x3).pre)
end
end Mine
namespace Mine
section
variable {G : Glo} {n : Nat} {E : AEnv} {S S1 S2 S3 S4 S5 : List O}
theorem Cal.lenList {i : Nat} {xs : List V} (e : S[i]? = some (.list xs)) (hl : xs.length < 2 ^ 63) : Cal G n (.ext (.builtin "len")) [.ref i] S (.int xs.length) S := by
  rintro A ρ s g ys hA hS rfl r
  cases r with
  | cons r1 r2 => cases r2 with
    | nil =>
      obtain ⟨l, hl1, rfl⟩ := r1
      obtain ⟨l', ws, m, g1, g2, g3⟩ := list_at hS e
      rw [hl1] at g1; cases g1
      have e2 : ws.size = xs.length := by rw [← g3.length]; simp
      exact Run.mk hS fun Q k => call_len_list (isList_of g2) (by omega) (k ρ _ _ (Ext.same rfl) (hS.same rfl rfl rfl) ⟨_, by rw [e2]⟩)
theorem Cal.lenStr {x : Str} (hl : x.length < 2 ^ 63) : Cal G n (.ext (.builtin "len")) [.str x] S (.int x.length) S := by
  rintro A ρ s g ys hA hS rfl r
  cases r with
  | cons r1 r2 => cases r2 with
    | nil =>
      obtain ⟨t, rfl⟩ := r1
      exact Run.mk hS fun Q k => PyProof.Rows.len_str (by omega) (k ρ _ _ (Ext.same rfl) (hS.same rfl rfl rfl) ⟨_, rfl⟩)
theorem Cal.sum {i : Nat} {ns : List Int} (e : S[i]? = some (.list (vInts ns))) : Cal G n (.ext (.builtin "sum")) [.ref i] S (.int ns.sum) S := by
  rintro A ρ s g ys hA hS rfl r
  cases r with
  | cons r1 r2 => cases r2 with
    | nil =>
      obtain ⟨l, hl1, rfl⟩ := r1
      obtain ⟨l', ws, m, g1, g2, g3⟩ := list_at hS e
      rw [hl1] at g1; cases g1
      have hi := intsAre_of g3
      obtain ⟨xs, hx⟩ := hi.allInts.items
      have hns : ns = xs.toList.map (·.1) := by
        rw [← hi.numsOf, ← nums_intItems, ← hx]
      have hl := isList_of g2
      have hw : ws = intItems xs := by rw [← hx]
      rw [hw] at hl
      refine Run.mk hS fun Q k => sum_intListG hA.handled hl fun h' tk t' hk => ?_
      rw [preSum_eq, List.take_of_length_le (by simp), ← hns]
      exact k ρ _ _ (Ext.keeps hk) (fun ht => hS.keeps hk rfl rfl ht) ⟨_, rfl⟩
theorem Cal.min2 {a b : Int} : Cal G n (.ext (.builtin "min")) [.int a, .int b] S (.int (min a b)) S := by
  rintro A ρ s g ys hA hS rfl r
  cases r with
  | cons r1 r2 => cases r2 with
    | cons r2 r3 => cases r3 with
      | nil =>
        obtain ⟨t, rfl⟩ := r1
        obtain ⟨u, rfl⟩ := r2
        refine Run.mk hS fun Q k => min_two_ints hA.handled fun h' tk hk => ?_
        by_cases q : b < a
        · rw [if_pos q]; exact k ρ _ _ (Ext.keeps hk) (fun ht => hS.keeps hk rfl rfl ht) ⟨u, by rw [Int.min_eq_right (by omega)]⟩
        · rw [if_neg q]; exact k ρ _ _ (Ext.keeps hk) (fun ht => hS.keeps hk rfl rfl ht) ⟨t, by rw [Int.min_eq_left (by omega)]⟩
theorem Cal.max {i : Nat} {ns : List Int} {M : Int} (e : S[i]? = some (.list (vInts ns))) (hM : M ∈ ns) (hle : ∀ a ∈ ns, a ≤ M) : Cal G n (.ext (.builtin "max")) [.ref i] S (.int M) S := by
  rintro A ρ s g ys hA hS rfl r
  cases r with
  | cons r1 r2 => cases r2 with
    | nil =>
      obtain ⟨l, hl1, rfl⟩ := r1
      obtain ⟨l', ws, m, g1, g2, g3⟩ := list_at hS e
      rw [hl1] at g1; cases g1
      have hi := intsAre_of g3
      obtain ⟨xs, hx⟩ := hi.allInts.items
      have hns : ns = xs.toList.map (·.1) := by
        rw [← hi.numsOf, ← nums_intItems, ← hx]
      have hl := isList_of g2
      have hw : ws = intItems xs := by rw [← hx]
      rw [hw] at hl
      have hsz : 0 < xs.size := by
        have h3 : 0 < ns.length := List.length_pos_of_mem hM
        rw [hns, List.length_map, Array.length_toList] at h3; exact h3
      refine Run.mk hS fun Q k => max_intList hA.handled hl hsz fun v h' tk hv hk => ?_
      obtain ⟨t, rfl⟩ := intItems_at hv
      obtain ⟨h1, h2⟩ := argBest_gt (numAt xs) (xs.size - 1)
      have hT : numAt xs (argBest (fun i j => decide (numAt xs i > numAt xs j)) (xs.size - 1)) = M := by
        refine Int.le_antisymm (hle _ ?_) ?_
        · rw [hns, numAt_eq]; exact getD_mem (by rw [List.length_map, Array.length_toList]; omega)
        · rw [hns] at hM
          obtain ⟨j, hj, rfl⟩ := mem_getD hM
          rw [List.length_map, Array.length_toList] at hj
          rw [← numAt_eq]; exact h2 j (by omega)
      rw [hT]
      exact k ρ _ _ (Ext.keeps hk) (fun ht => hS.keeps hk rfl rfl ht) ⟨_, rfl⟩
theorem noDict_of {s : Shared} {a : Addr} {ws : Array Value} {m : Nat} (e : s.heap.get? a = some ({ cls := .type "list", data := .seq ws m } : Obj)) : s.heap.NoDictAt (.ref a) := ⟨_, e, rfl⟩
theorem Mth.list {i : Nat} {xs : List V} {name : Str} {id : String} (slot : Slot "list" name id) (hty : typeOf (.builtin id) = pure (.type "method_descriptor")) (e : S[i]? = some (.list xs)) : Mth G n (.ref i) name S (.builtin id) [.ref i] := by
  rintro A ρ s _ pl Q hA hS ⟨l, hl1, rfl⟩ k
  obtain ⟨l', ws, m, g1, g2, g3⟩ := list_at hS e
  rw [hl1] at g1; cases g1
  exact getMethod_list_of slot hty (isList_of g2) (noDict_of g2) (k _ (.one ⟨l, hl1, rfl⟩))
theorem Mth.append {i : Nat} {xs : List V} (e : S[i]? = some (.list xs)) : Mth G n (.ref i) "append" S (.builtin "list.append") [.ref i] := Mth.list PySem.F.slot_list_append PySem.F.type_list_append e
theorem Mth.count {i : Nat} {xs : List V} (e : S[i]? = some (.list xs)) : Mth G n (.ref i) "count" S (.builtin "list.count") [.ref i] := Mth.list PySem.F.slot_list_count PySem.F.type_list_count e
theorem Cal.append {i : Nat} {xs : List V} {y : V} (e : S[i]? = some (.list xs)) (hl : xs.length ≤ sizeLine) : Cal G n (.ext (.builtin "list.append")) [.ref i, y] S .none (S.set i (.list (xs ++ [y]))) := by
  rintro A ρ s g ys hA hS rfl r
  cases r with
  | cons r1 r2 => cases r2 with
    | cons r2 r3 => cases r3 with
      | nil =>
        obtain ⟨l, hl1, rfl⟩ := r1
        exact Run.append hS e hl1 r2 hl
theorem Cal.count {i : Nat} {ns : List Int} {k : Int} (e : S[i]? = some (.list (vInts ns))) : Cal G n (.ext (.builtin "list.count")) [.ref i, .int k] S (.int (ns.count k)) S := by
  rintro A ρ s g ys hA hS rfl r
  cases r with
  | cons r1 r2 => cases r2 with
    | cons r2 r3 => cases r3 with
      | nil =>
        obtain ⟨l, hl1, rfl⟩ := r1
        obtain ⟨t, rfl⟩ := r2
        obtain ⟨l', ws, m, g1, g2, g3⟩ := list_at hS e
        rw [hl1] at g1; cases g1
        exact Run.mk hS fun Q c => count_list_ints (vs := ws.toList) (isList_of g2) (intsAre_of g3) (c ρ _ _ (Ext.same rfl) (hS.same rfl rfl rfl) ⟨_, rfl⟩)
theorem Mth.str {x : Str} {name : Str} {id : String} (slot : Slot "str" name id) (hty : typeOf (.builtin id) = pure (.type "method_descriptor")) : Mth G n (.str x) name S (.builtin id) [.str x] := by
  rintro A ρ s _ pl Q hA hS ⟨t, rfl⟩ k
  exact GM.of (.str x t) (typeIs_str _ _ _) slot hty GM.noRef (k _ (.one ⟨t, rfl⟩))
theorem Mth.join {x : Str} : Mth G n (.str x) "join" S (.builtin "str.join") [.str x] := Mth.str PySem.F.slot_str_join PySem.F.type_str_join
theorem Mth.isspace {x : Str} : Mth G n (.str x) "isspace" S (.builtin "str.isspace") [.str x] := Mth.str PySem.F.slot_str_isspace PySem.F.type_str_isspace
theorem Mth.split {x : Str} : Mth G n (.str x) "split" S (.builtin "str.split") [.str x] := Mth.str PySem.F.slot_str_split PySem.F.type_str_split
theorem Mth.replace {x : Str} : Mth G n (.str x) "replace" S (.builtin "str.replace") [.str x] := Mth.str PySem.F.slot_str_replace PySem.F.type_str_replace
noncomputable def vStrs (l : List Str) : List V := l.map .str
theorem strValues_of {ρ : List Addr} : ∀ {l : List Str} {xs : List Value}, RVs ρ (vStrs l) xs → ∃ p : List (Str × Tok), xs = strValues p ∧ p.map (·.1) = l
  | [], _, .nil => ⟨[], rfl, rfl⟩
  | x :: l, _, .cons ⟨t, e⟩ h => by
    subst e
    obtain ⟨p, h1, h2⟩ := strValues_of h
    exact ⟨(x, t) :: p, by rw [h1]; rfl, by rw [List.map_cons, h2]⟩
theorem rvs_strValues {ρ : List Addr} : ∀ (p : List (Str × Tok)), RVs ρ (vStrs (p.map (·.1))) (strValues p)
  | [] => .nil
  | (x, t) :: p => .cons ⟨t, rfl⟩ (rvs_strValues p)
theorem Cal.join {x : Str} {i : Nat} {l : List Str} (e : S[i]? = some (.list (vStrs l))) (hok : JoinOk x l = true) : Cal G n (.ext (.builtin "str.join")) [.str x, .ref i] S (.str (Txt.join x l)) S := by
  rintro A ρ s g ys hA hS rfl r
  cases r with
  | cons r1 r2 => cases r2 with
    | cons r2 r3 => cases r3 with
      | nil =>
        obtain ⟨t, rfl⟩ := r1
        obtain ⟨a, ha, rfl⟩ := r2
        obtain ⟨l', ws, m, g1, g2, g3⟩ := list_at hS e
        rw [ha] at g1; cases g1
        obtain ⟨p, hp, hp2⟩ := strValues_of g3
        refine Run.mk hS fun Q c => SC.join (D := a) (l := p) (texts := l) ?_ hp2 hok fun t' k => c ρ _ _ (Ext.same rfl) (hS.same rfl rfl rfl) ⟨t', rfl⟩
        rw [← hp]; exact isList_of g2
theorem Cal.isspace {x : Str} : Cal G n (.ext (.builtin "str.isspace")) [.str x] S (.bool (Txt.isspace x)) S := by
  rintro A ρ s g ys hA hS rfl r
  cases r with
  | cons r1 r2 => cases r2 with
    | nil =>
      obtain ⟨t, rfl⟩ := r1
      exact fun Q c => call_gives PySem.F.slot_str_isspace (typeIs_str _ _ _) PySem.F.entry_str_isspace (PySem.F.args_str_isspace_1 _) (gives_str_isspace x t) (c ρ _ _ Ext.refl hS rfl)
theorem Cal.split {x y : Str} {ps : List Str} (h1 : (decide (x.length < y.length) || decide (Builtin.Str.strKind x < Builtin.Str.strKind y)) = false) (hy : (y.length == 0) = false) (hf : (Builtin.Str.occurrences x y 0 x.length (x.length + 1)).isEmpty = false) (hx : x.length ≤ sizeLine)
    (hps : Builtin.Str.partsBetween x (Builtin.Str.occurrences x y 0 x.length (x.length + 1)) y.length = ps) (hn : ps.length ≤ sizeLine) : Cal G n (.ext (.builtin "str.split")) [.str x, .str y] S (.ref S.length) (S ++ [.list (vStrs ps)]) := by
  subst hps
  rintro A ρ s g ys hA hS rfl r
  cases r with
  | cons r1 r2 => cases r2 with
    | cons r2 r3 => cases r3 with
      | nil =>
        obtain ⟨t, rfl⟩ := r1
        obtain ⟨u, rfl⟩ := r2
        refine Run.mk hS fun Q c => ?_
        refine call_meets PySem.F.slot_str_split (typeIs_str _ _ _) PySem.F.entry_str_split (PySem.F.args_str_split_2 _ _) (meets_str_split_sep x y t u h1 hy hf hx hn) ?_
        refine c (ρ ++ [s.heap.objs.size]) _ _ (Ext.push rfl) (fun ht => hS.push rfl rfl ⟨_, 0, rfl, ?_⟩ rfl rfl ht) ⟨_, by rw [← hS.len]; simp, rfl⟩
        have := rvs_strValues (ρ := ρ ++ [s.heap.objs.size]) (numbered s.toks (Builtin.Str.partsBetween x (Builtin.Str.occurrences x y 0 x.length (x.length + 1)) y.length))
        rw [numbered_texts, ← strsFrom_eq] at this
        exact this
theorem Bop.mulStr {x : Str} {k : Int} (hok : MulOk x k) : Bop G n .Mult (.str x) (.int k) S (.str (Txt.mul x k)) S := by
  rintro A ρ s _ _ hA hS ⟨t, rfl⟩ ⟨u, rfl⟩
  exact Run.mk hS fun Q c => SB.mul hok fun t' k => c ρ _ _ (Ext.same rfl) (hS.same rfl rfl rfl) ⟨_, rfl⟩
theorem Bop.addStr {x y : Str} (hsz : x.length + y.length ≤ sizeLine) : Bop G n .Add (.str x) (.str y) S (.str (x ++ y)) S := by
  rintro A ρ s _ _ hA hS ⟨t, rfl⟩ ⟨u, rfl⟩
  exact Run.mk hS fun Q c => SB.add (fun t' k => c ρ _ _ (Ext.same rfl) (hS.same rfl rfl rfl) ⟨_, rfl⟩) hsz
theorem Bop.addList {i j : Nat} {xs ys : List V} (e : S[i]? = some (.list xs)) (e' : S[j]? = some (.list ys)) (hl : xs.length + ys.length ≤ sizeLine) : Bop G n .Add (.ref i) (.ref j) S (.ref S.length) (S ++ [.list (xs ++ ys)]) := by
  rintro A ρ s _ _ hA hS ⟨a, ha, rfl⟩ ⟨b, hb, rfl⟩
  obtain ⟨a', ws, m, g1, g2, g3⟩ := list_at hS e
  rw [ha] at g1; cases g1
  obtain ⟨b', ws', m', g1', g2', g3'⟩ := list_at hS e'
  rw [hb] at g1'; cases g1'
  have q1 := g3.length
  have q2 := g3'.length
  refine Run.mk hS fun Q c => P.add_list g2 g2' ?_ (by simp at q1 q2; omega)
  refine c (ρ ++ [s.heap.objs.size]) _ _ (Ext.push rfl) (fun ht => hS.push rfl rfl ⟨_, 0, rfl, ?_⟩ rfl rfl ht) ⟨_, by rw [← hS.len]; simp, rfl⟩
  rw [Array.toList_append]
  exact (g3.mono (List.prefix_append _ _)).append (g3'.mono (List.prefix_append _ _))
theorem Cop.inStr {x y : Str} : Cop G n .In (.str y) (.str x) S (.bool (Txt.contains x y)) S := by
  rintro A ρ s _ _ hA hS ⟨t, rfl⟩ ⟨u, rfl⟩
  exact fun Q c => SB.contains (c ρ _ _ Ext.refl hS rfl)
-- the given dict
structure DictK (G : Glo) (a : Addr) : Prop where
  at_ : ∃ es n, G.K.lookup a = some ⟨.type "dict", none, .dict es n, #[]⟩ ∧ KeysLit G.w.params es.toList
  sm : (a == sysModules) = false
theorem DictK.map {a : Addr} {x : Str} {r : Option Value} (D : DictK G a) (e : nsIn G.K a x = some r) {ρ : List Addr} {s : Shared} (hS : Sim G ρ S s) : ∃ f, s.heap.MapOf (PySem.strKind G.prog G.w) a f ∧ f x = r := by
  obtain ⟨es, n, hl, hk⟩ := D.at_
  exact ⟨_, mapOf_K (G.X.keeps hS.keep) hl hk, find_K hl e⟩
theorem Itm.dictK {a : Addr} {x : Str} {v : Value} (D : DictK G a) (e : nsIn G.K a x = some (some v)) : Itm G n (.ext (.ref a)) (.str x) S (.ext v) S := by
  rintro A ρ s _ _ hA hS rfl ⟨t, rfl⟩
  obtain ⟨f, hm, hf⟩ := D.map e hS
  refine ⟨⟨"dict", _, hm.typeIs, slot_dict_getitem.lookup⟩, Run.mk hS fun Q c => ?_⟩
  exact wpAny_getItem_of (strKind_is G.prog G.w x t) hm hf (c ρ _ _ (Ext.same rfl) (hS.same rfl rfl rfl) rfl)
theorem Cop.inDictK {a : Addr} {x : Str} {r : Option Value} (D : DictK G a) (e : nsIn G.K a x = some r) : Cop G n .In (.str x) (.ext (.ref a)) S (.bool r.isSome) S := by
  rintro A ρ s _ _ hA hS ⟨t, rfl⟩ rfl
  obtain ⟨f, hm, hf⟩ := D.map e hS
  exact Run.mk hS fun Q c => wpAny_in_of (strKind_is G.prog G.w x t) D.sm hm (by rw [hf]; exact c ρ _ _ (Ext.same rfl) (hS.same rfl rfl rfl) rfl)
theorem Cop.ninDictK {a : Addr} {x : Str} {r : Option Value} (D : DictK G a) (e : nsIn G.K a x = some r) : Cop G n .NotIn (.str x) (.ext (.ref a)) S (.bool (!r.isSome)) S := by
  rintro A ρ s _ _ hA hS ⟨t, rfl⟩ rfl
  obtain ⟨f, hm, hf⟩ := D.map e hS
  exact Run.mk hS fun Q c => wpAny_notIn_of (strKind_is G.prog G.w x t) D.sm hm (by rw [hf]; exact c ρ _ _ (Ext.same rfl) (hS.same rfl rfl rfl) rfl)
end
end Mine
namespace Mine
section
variable {G : Glo} {n : Nat} {E : AEnv} {S S1 S2 S3 S4 S5 : List O}
theorem Ev.none {k : Nat} {pos : Pos} : Ev G n E (.Constant .none k pos) S .none S := fun A env ρ s hA hE hS Q c => Constant_none (c ρ s _ Ext.refl hS rfl)
theorem Ev.not {e : Expr} {pos : Pos} {v : V} {b : Bool} (h1 : Ev G n E e S v S1) (h2 : Tru G n v S1 b S2) : Ev G n E (.UnaryOp .Not e pos) S (.bool (!b)) S2 := fun A env ρ s hA hE hS Q k =>
  UnaryOp_ (h1 A env ρ s hA hE hS _ fun ρ1 s1 x x1 hS1 r1 => not_of (h2 A ρ1 s1 x hA hS1 r1 _ fun ρ2 s2 c x2 hS2 r2 => by
    cases r2; exact k ρ2 s2 _ (x1.trans x2) hS2 rfl))
theorem Ev.bone {op : BoolOp} {e : Expr} {pos : Pos} {v : V} (h1 : Ev G n E e S v S1) : Ev G n E (.BoolOp op [e] pos) S v S1 := fun A env ρ s hA hE hS Q k => BoolOp_one (h1 A env ρ s hA hE hS Q k)
theorem Ev.and_t {e e' : Expr} {r : List Expr} {pos : Pos} {v w : V} (h1 : Ev G n E e S v S1) (h2 : Tru G n v S1 true S2) (h3 : Ev G n E (.BoolOp .And (e' :: r) pos) S2 w S3) : Ev G n E (.BoolOp .And (e :: e' :: r) pos) S w S3 := fun A env ρ s hA hE hS Q k =>
  BoolOp_and (h1 A env ρ s hA hE hS _ fun ρ1 s1 x x1 hS1 r1 => h2 A ρ1 s1 x hA hS1 r1 _ fun ρ2 s2 c x2 hS2 r2 => by
    cases r2; rw [if_pos rfl]
    exact h3 A env ρ2 s2 hA (hE.mono (x1.trans x2).pre) hS2 _ fun ρ3 s3 y x3 hS3 r3 => k ρ3 s3 y ((x1.trans x2).trans x3) hS3 r3)
theorem Ev.and_f {e e' : Expr} {r : List Expr} {pos : Pos} {v : V} (h1 : Ev G n E e S v S1) (h2 : Tru G n v S1 false S2) : Ev G n E (.BoolOp .And (e :: e' :: r) pos) S v S2 := fun A env ρ s hA hE hS Q k =>
  BoolOp_and (h1 A env ρ s hA hE hS _ fun ρ1 s1 x x1 hS1 r1 => h2 A ρ1 s1 x hA hS1 r1 _ fun ρ2 s2 c x2 hS2 r2 => by
    cases r2; rw [if_neg (by decide)]
    exact k ρ2 s2 _ (x1.trans x2) hS2 (r1.mono x2.pre))
theorem Ev.or_t {e e' : Expr} {r : List Expr} {pos : Pos} {v : V} (h1 : Ev G n E e S v S1) (h2 : Tru G n v S1 true S2) : Ev G n E (.BoolOp .Or (e :: e' :: r) pos) S v S2 := fun A env ρ s hA hE hS Q k =>
  BoolOp_or (h1 A env ρ s hA hE hS _ fun ρ1 s1 x x1 hS1 r1 => h2 A ρ1 s1 x hA hS1 r1 _ fun ρ2 s2 c x2 hS2 r2 => by
    cases r2; rw [if_pos rfl]
    exact k ρ2 s2 _ (x1.trans x2) hS2 (r1.mono x2.pre))
theorem Ev.or_f {e e' : Expr} {r : List Expr} {pos : Pos} {v w : V} (h1 : Ev G n E e S v S1) (h2 : Tru G n v S1 false S2) (h3 : Ev G n E (.BoolOp .Or (e' :: r) pos) S2 w S3) : Ev G n E (.BoolOp .Or (e :: e' :: r) pos) S w S3 := fun A env ρ s hA hE hS Q k =>
  BoolOp_or (h1 A env ρ s hA hE hS _ fun ρ1 s1 x x1 hS1 r1 => h2 A ρ1 s1 x hA hS1 r1 _ fun ρ2 s2 c x2 hS2 r2 => by
    cases r2; rw [if_neg (by decide)]
    exact h3 A env ρ2 s2 hA (hE.mono (x1.trans x2).pre) hS2 _ fun ρ3 s3 y x3 hS3 r3 => k ρ3 s3 y ((x1.trans x2).trans x3) hS3 r3)
/-- a try whose body raises nothing -/
theorem Ex.try {body : List Stmt} {h₀ : ExceptHandler} {hs : List ExceptHandler} {pos : Pos} {f : Fl} (h1 : Exs G n E body S f S1) : Ex G n E (.Try body (h₀ :: hs) [] [] pos) S f S1 := fun A env ρ s hA hE hS Q k =>
  wpAny_Try_except (wpAny_mono (h1 A env ρ s hA hE hS _ fun ρ1 s1 fl x1 hS1 r1 => by
    cases f with
    | next => cases r1; exact wpAny_execs_nil (k ρ1 s1 _ x1 hS1 rfl)
    | ret v => obtain ⟨y, rfl, ry⟩ := r1; exact k ρ1 s1 _ x1 hS1 ⟨y, rfl, ry⟩) (fun _ _ q => q) fun _ _ q => q.elim)
theorem Cop.neLen {i j : Nat} {xs ys : List V} (e : S[i]? = some (.list xs)) (e' : S[j]? = some (.list ys)) (hl : xs.length ≠ ys.length) : Cop G n .NotEq (.ref i) (.ref j) S (.bool true) S := by
  rintro A ρ s _ _ hA hS ⟨a, ha, rfl⟩ ⟨b, hb, rfl⟩
  obtain ⟨a', ws, m, g1, g2, g3⟩ := list_at hS e
  rw [ha] at g1; cases g1
  obtain ⟨b', ws', m', g1', g2', g3'⟩ := list_at hS e'
  rw [hb] at g1'; cases g1'
  have q1 := g3.length
  have q2 := g3'.length
  simp at q1 q2
  exact fun Q c => PySem.SeqAt.RcNeAt.lists_lengths (isList_of g2) (isList_of g2') (bne_iff_ne.mpr (by omega)) (by have := hA.units; omega) _ _ _ _ (c ρ _ _ Ext.refl hS rfl)
theorem Cop.neNil {i j : Nat} (e : S[i]? = some (.list [])) (e' : S[j]? = some (.list [])) : Cop G n .NotEq (.ref i) (.ref j) S (.bool false) S := by
  rintro A ρ s _ _ hA hS ⟨a, ha, rfl⟩ ⟨b, hb, rfl⟩
  obtain ⟨a', ws, m, g1, g2, g3⟩ := list_at hS e
  rw [ha] at g1; cases g1
  obtain ⟨b', ws', m', g1', g2', g3'⟩ := list_at hS e'
  rw [hb] at g1'; cases g1'
  have q1 := g3.length
  have q2 := g3'.length
  simp at q1 q2
  subst q1 q2
  exact fun Q c => PySem.SeqAt.RcNeAt.lists (e := fun _ => true) (isList_of g2) (isList_of g2') rfl (by have := hA.units; omega) (fun j h1 _ => by simp at h1) _ _ _ _ (c ρ _ _ Ext.refl hS rfl)
theorem Cop.neList {i j : Nat} {xs : List V} (e : S[i]? = some (.list xs)) (e' : S[j]? = some (.list [])) : Cop G n .NotEq (.ref i) (.ref j) S (.bool (!xs.isEmpty)) S := by
  cases xs with
  | nil => exact Cop.neNil e e'
  | cons x xs => exact Cop.neLen e e' (by simp)
-- a dict of ints
inductive PairI : List (Int × Int) → List (Int × Value) → Prop where
  | nil : PairI [] []
  | cons {k v : Int} {t : Tok} {l : List (Int × Int)} {m : List (Int × Value)} : PairI l m → PairI ((k, v) :: l) ((k, .int v t) :: m)
theorem PairI.snoc {k v : Int} {t : Tok} : ∀ {l : List (Int × Int)} {m : List (Int × Value)}, PairI l m → PairI (l ++ [(k, v)]) (m ++ [(k, .int v t)])
  | _, _, .nil => .cons .nil
  | _, _, .cons h => .cons h.snoc
theorem PairI.at {k : Int} : ∀ {l : List (Int × Int)} {m : List (Int × Value)}, PairI l m → (l.lookup k = none ∧ valueAt m k = none) ∨ ∃ v t, l.lookup k = some v ∧ valueAt m k = some (.int v t)
  | _, _, .nil => .inl ⟨rfl, rfl⟩
  | _, _, .cons (k := k') (v := v) (t := t) h => by
    by_cases q : k' = k
    · subst q; exact .inr ⟨v, t, by simp, by simp [valueAt]⟩
    · have q' : (k == k') = false := beq_eq_false_iff_ne.mpr fun e => q e.symm
      rcases h.at (k := k) with ⟨h1, h2⟩ | ⟨v', t', h1, h2⟩
      · exact .inl ⟨by simp [List.lookup_cons, q', h1], by simpa [valueAt, List.find?_cons, q] using h2⟩
      · exact .inr ⟨v', t', by simp [List.lookup_cons, q', h1], by simpa [valueAt, List.find?_cons, q] using h2⟩
theorem PairI.any {k : Int} : ∀ {l : List (Int × Int)} {m : List (Int × Value)}, PairI l m → k ∉ l.map (·.1) → (m.any fun kv => kv.1 = k) = false
  | _, _, .nil, _ => rfl
  | _, _, .cons (k := k') h, hn => by
    simp only [List.map_cons, List.mem_cons, not_or] at hn
    simp only [List.any_cons, h.any hn.2, Bool.or_false]
    exact decide_eq_false fun e => hn.1 e.symm
theorem PairI.length : ∀ {l : List (Int × Int)} {m : List (Int × Value)}, PairI l m → m.length = l.length
  | _, _, .nil => rfl
  | _, _, .cons h => by simp [h.length]
noncomputable def IDict (prog : Program) (w : World) (l : List (Int × Int)) (_ : Addr) (o : Obj) : Prop := ∃ m, o.IsDictOf (intKind prog w) m ∧ PairI l m
theorem idict_at {ρ : List Addr} {s : Shared} {i : Nat} {l : List (Int × Int)} (hS : Sim G ρ S s) (e : S[i]? = some (.obj (IDict G.prog G.w l))) : ∃ a m, ρ[i]? = some a ∧ s.heap.DictOf (intKind G.prog G.w) a m ∧ PairI l m := by
  obtain ⟨a, ob, h1, h2, m, h3, h4⟩ := hS.own _ _ e
  exact ⟨a, m, h1, Heap.dictOf_iff.mpr ⟨ob, h2, h3⟩, h4⟩
theorem notMods {ρ : List Addr} {s : Shared} {i : Nat} {a : Addr} (hS : Sim G ρ S s) (ha : ρ[i]? = some a) : (a == sysModules) = false := by
  have := hS.low a (List.mem_of_getElem? ha)
  exact beq_eq_false_iff_ne.mpr fun q => by rw [q] at this; exact absurd this (by decide)
theorem Mth.dict {i : Nat} {l : List (Int × Int)} {name : Str} {id : String} (slot : Slot "dict" name id) (hty : typeOf (.builtin id) = pure (.type "method_descriptor")) (e : S[i]? = some (.obj (IDict G.prog G.w l))) : Mth G n (.ref i) name S (.builtin id) [.ref i] := by
  rintro A ρ s _ pl Q hA hS ⟨a, ha, rfl⟩ k
  obtain ⟨a', m, h1, h2, h3⟩ := idict_at hS e
  rw [ha] at h1; cases h1
  have hnd : s.heap.NoDictAt (.ref a) := by
    obtain ⟨o, es, ep, ho, hx, _⟩ := h2
    exact ⟨o, ho, hx.2.1⟩
  exact getMethod_builtin h2.typeIs PySem.F.plainAttrs_dict slot hty (fun b q => by cases q; exact hnd) (k _ (.one ⟨a, ha, rfl⟩))
theorem Cal.dictGet {i : Nat} {l : List (Int × Int)} {k d : Int} (e : S[i]? = some (.obj (IDict G.prog G.w l))) : Cal G n (.ext (.builtin "dict.get")) [.ref i, .int k, .int d] S (.int ((l.lookup k).getD d)) S := by
  rintro A ρ s g ys hA hS rfl r
  cases r with
  | cons r1 r2 => cases r2 with
    | cons r2 r3 => cases r3 with
      | cons r3 r4 => cases r4 with
        | nil =>
          obtain ⟨a, ha, rfl⟩ := r1
          obtain ⟨t, rfl⟩ := r2
          obtain ⟨u, rfl⟩ := r3
          obtain ⟨a', m, h1, h2, h3⟩ := idict_at hS e
          rw [ha] at h1; cases h1
          refine Run.mk hS fun Q c => ?_
          refine call_meetsIn PySem.F.slot_dict_get h2.typeIs PySem.F.entry_dict_get (PySem.F.args_dict_get_3 _ _ _) (meets_dict_get_default (intKind G.prog G.w) a (intKind_is _ _ k t) (notMods hS ha) (.int d u)) ⟨_, h2.mapOf, ?_⟩
          refine c ρ _ _ (Ext.same rfl) (hS.same rfl rfl rfl) ?_
          rcases h3.at (k := k) with ⟨q1, q2⟩ | ⟨v, t', q1, q2⟩
          · rw [q1, q2]; exact ⟨u, rfl⟩
          · rw [q1, q2]; exact ⟨t', rfl⟩
theorem Ev.dict1 {ke ve : Expr} {pos : Pos} {k v : Int} (h1 : Ev G n E ke (S ++ [.obj (IDict G.prog G.w [])]) (.int k) S1) (h2 : Ev G n E ve S1 (.int v) S2) (hk : S2[S.length]? = some (.obj (IDict G.prog G.w []))) : Ev G n E (.Dict [some ke] [ve] pos) S (.ref S.length) (S2.set S.length (.obj (IDict G.prog G.w [(k, v)]))) := by
  intro A env ρ s hA hE hS
  refine Run.mk hS fun Q c => ?_
  refine wpAny_Dict_walk (knd := intKind G.prog G.w) rfl rfl (by simp) (by simp) ?_
  have hS0 : Sim G (ρ ++ [s.heap.objs.size]) (S ++ [.obj (IDict G.prog G.w [])]) { s with heap := s.heap.push { cls := .type "dict", data := .dict #[] } } :=
    hS.push rfl rfl ⟨[], ⟨#[], 0, ⟨rfl, rfl, rfl⟩, rfl, (fun _ he => by simp at he), Pairs.nil, List.nodup_nil⟩, .nil⟩ rfl rfl hS.toks
  have X0 : Ext ρ (ρ ++ [s.heap.objs.size]) s { s with heap := s.heap.push { cls := .type "dict", data := .dict #[] } } := Ext.push rfl
  refine pairTrees_cons_walk (h1 A env _ _ hA (hE.mono X0.pre) hS0 _ fun ρ1 s1 x x1 hS1 r1 => h2 A env ρ1 s1 hA (hE.mono (X0.trans x1).pre) hS1 _ fun ρ2 s2 y x2 hS2 r2 => pairTrees_nil_walk ?_)
  obtain ⟨t, rfl⟩ := r1
  obtain ⟨u, rfl⟩ := r2
  obtain ⟨a, m, g1, g2, g3⟩ := idict_at hS2 hk
  cases g3
  have hρ : ρ2[S.length]? = some s.heap.objs.size := get_mono (x1.trans x2).pre (by rw [← hS.len]; simp)
  rw [hρ] at g1; cases g1
  refine ⟨[(k, .int v u)], ⟨intKind_is _ _ k t, rfl, trivial⟩, g2, fun h' hd hs => ?_⟩
  obtain ⟨o', ho', hd'⟩ := Heap.dictOf_iff.mp hd
  have kp : ∀ b z, b ≠ s.heap.objs.size → s2.heap.get? b = some z → h'.get? b = some z := fun b z hb ez => (hs.2 b hb).trans ez
  exact c ρ2 _ _ ((X0.trans (x1.trans x2)).trans (Ext.upd (List.mem_of_getElem? hρ) kp)) (fun ht => hS2.upd hk hρ kp ho' ⟨_, hd', .cons .nil⟩ rfl rfl ht) ⟨_, hρ, rfl⟩
theorem Ex.setDict {o i value : Expr} {pos pos' : Pos} {v : Int} {a : Nat} {k : Int} {l : List (Int × Int)} (h1 : Ev G n E value S (.int v) S1) (h2 : Ev G n E o S1 (.ref a) S2) (h3 : Ev G n E i S2 (.int k) S3) (e : S3[a]? = some (.obj (IDict G.prog G.w l))) (hk : k ∉ l.map (·.1)) (hl : l.length ≤ sizeLine)
    (hs : ∀ env : Env, swapsWith value (some (.Subscript o i pos')) pos.line env = pure false := by (intro _; rfl)) : Ex G n E (.Assign [.Subscript o i pos'] value pos) S .next (S3.set a (.obj (IDict G.prog G.w (l ++ [(k, v)])))) := by
  intro A env ρ s hA hE hS
  refine Run.mk hS fun Q c => ?_
  refine wpAny_Assign_Subscript (h1 A env ρ s hA hE hS _ fun ρ1 s1 x x1 hS1 r1 => h2 A env ρ1 s1 hA (hE.mono x1.pre) hS1 _ fun ρ2 s2 y x2 hS2 r2 => h3 A env ρ2 s2 hA (hE.mono (x1.trans x2).pre) hS2 _ fun ρ3 s3 z x3 hS3 r3 => ?_) (hs env)
  obtain ⟨d, hd1, rfl⟩ := r2
  obtain ⟨t, rfl⟩ := r3
  obtain ⟨u, rfl⟩ := r1
  obtain ⟨d', m, g1, g2, g3⟩ := idict_at hS3 e
  have hd3 := get_mono x3.pre hd1
  rw [hd3] at g1; cases g1
  refine wpAny_setItem_pairs (intKind_is _ _ k t) g2 (fun h' hd hsb => ?_) (by rw [g3.length]; exact hl)
  have e2 : stored m k (.int v u) = m ++ [(k, .int v u)] := by unfold stored; rw [g3.any hk]; rfl
  rw [e2] at hd
  obtain ⟨o', ho', hd'⟩ := Heap.dictOf_iff.mp hd
  have kp : ∀ b z, b ≠ d → s3.heap.get? b = some z → h'.get? b = some z := fun b z hb ez => (hsb.2 b hb).trans ez
  exact c ρ3 _ _ (((x1.trans x2).trans x3).trans (Ext.upd (List.mem_of_getElem? hd3) kp)) (fun ht => hS3.upd e hd3 kp ho' ⟨_, hd', g3.snoc⟩ rfl rfl ht) rfl
-- tuples
theorem tup_at {ρ : List Addr} {s : Shared} (H : Sim G ρ S s) {i : Nat} {xs : List V} (e : S[i]? = some (.tup xs)) : ∃ a ws, ρ[i]? = some a ∧ s.heap.IsTuple a ws ∧ RVs ρ xs ws.toList := by
  obtain ⟨a, ob, h1, h2, ws, m, rfl, h3⟩ := H.own _ _ e
  exact ⟨a, ws, h1, ⟨_, h2, rfl, m, rfl⟩, h3⟩
/-- values go to targets, one after the other -/
inductive Asgs (G : Glo) (n : Nat) (E : AEnv) : List Expr → List V → List O → List O → Prop where
  | nil {S : List O} : Asgs G n E [] [] S S
  | cons {x : Str} {p : Pos} {r : List Expr} {v : V} {vs : List V} {S S1 S2 : List O} : Sto G E x v S S1 → Asgs G n E r vs S1 S2 → Asgs G n E (.Name x p :: r) (v :: vs) S S2
theorem Asgs.len {ts : List Expr} {vs : List V} (h : Asgs G n E ts vs S S1) {env : Env} : (assignEach ts env).length = vs.length ∧ (assignEach ts env).findIdx? (·.1) = Option.none := by
  induction h with
  | nil => exact ⟨rfl, rfl⟩
  | cons h1 h2 ih =>
    refine ⟨?_, ?_⟩
    · show (_ :: assignEach _ env).length = _
      rw [List.length_cons, ih.1, List.length_cons]
    · show (List.findIdx? _ ((false, _) :: assignEach _ env)) = _
      rw [List.findIdx?_cons, ih.2]; rfl
theorem Asgs.run {ts : List Expr} {vs : List V} (h : Asgs G n E ts vs S S1) : ∀ {A : Around} {env : Env} {ρ : List Addr} {s : Shared} {xs : List Value}, EnvOk E env ρ → Sim G ρ S s → RVs ρ vs xs →
    Run RU G A ρ s (assignInOrder ((assignEach ts env).map (·.2)) xs) () S1 := by
  induction h with
  | nil =>
    intro A env ρ s xs hE hS r
    cases r
    exact fun Q k => wpAny_pure (k ρ s _ Ext.refl hS trivial)
  | @cons x p r v vs S S1 S2 h1 h2 ih =>
    intro A env ρ s xs hE hS rr
    cases rr with
    | @cons _ y _ ys r1 r2 =>
      intro Q k
      show wpAny _ A (do holding ys (PySem.assign (.Name x p) env y); assignInOrder ((assignEach r env).map (·.2)) ys) Q _ s
      exact wpAny_bind (wpAny_holding (wpAny_assign_Name (h1 A env ρ s y hE hS r1 _ fun ρ1 s1 _ x1 hS1 _ => ih (hE.mono x1.pre) hS1 (r2.mono x1.pre) _ fun ρ2 s2 u x2 hS2 q2 => k ρ2 s2 u (x1.trans x2) hS2 q2)))
theorem Asg.tup {ts : List Expr} {k : Nat} {pos : Pos} {i : Nat} {vs : List V} (e : S[i]? = some (.tup vs)) (h : Asgs G n E ts vs S S1) : Asg G n E (.Tuple ts k pos) (.ref i) S S1 := by
  rintro A env ρ s x hA hE hS ⟨a, ha, rfl⟩
  obtain ⟨a', ws, g1, g2, g3⟩ := tup_at hS e
  rw [ha] at g1; cases g1
  obtain ⟨l1, l2⟩ := h.len (env := env)
  refine Run.mk hS fun Q c => wpAny_assign_Tuple hA.handled g2 (by rw [l1, ← g3.length]; simp) l2 fun h' hx => ?_
  have kp : ∀ b o, s.heap.get? b = some o → h'.get? b = some o := fun b o e => hx b o (Nat.ne_of_lt (Heap.lt_size e)) e
  exact h.run hE (hS.keeps (s' := { s with heap := h' }) kp rfl rfl hS.toks) g3 _ fun ρ1 s1 u x1 hS1 r1 => c ρ1 s1 u ((Ext.keeps (s' := { s with heap := h' }) kp).trans x1) (fun _ => hS1) r1
theorem Ex.assignTup {ts : List Expr} {k : Nat} {tpos : Pos} {value : Expr} {pos : Pos} {v : V} (h1 : Ev G n E value S v S1) (h2 : Asg G n E (.Tuple ts k tpos) v S1 S2)
    (hs : ∀ env : Env, swapsWithSole [.Tuple ts k tpos] value pos.line env = pure false := by (intro _; rfl)) (hw : ∀ env : Env, swappedStores [.Tuple ts k tpos] value env = pure Option.none := by (intro _; rfl)) : Ex G n E (.Assign [.Tuple ts k tpos] value pos) S .next S2 := fun A env ρ s hA hE hS Q c =>
  Assign_Tuple (h1 A env ρ s hA hE hS _ fun ρ1 s1 x x1 hS1 r1 => h2 A env ρ1 s1 x hA (hE.mono x1.pre) hS1 r1 _ fun ρ2 s2 _ x2 hS2 _ => c ρ2 s2 _ (x1.trans x2) hS2 rfl) (hs env) (hw env)
end
end Mine
namespace Mine
/-! the rules, run: what is found comes with its proof -/
noncomputable def normV : V → V
  | .ext (.int i _) => .int i
  | .ext (.str s _) => .str s
  | .ext (.bool b) => .bool b
  | .ext .none => .none
  | v => v
theorem RV.norm {ρ : List Addr} {v : V} {x : Value} (h : RV ρ v x) : RV ρ (normV v) x := by
  cases v with
  | ext y =>
    have e : x = y := h
    subst e
    cases x <;> first | rfl | exact ⟨_, rfl⟩
  | _ => exact h
section
variable {α : Type}
noncomputable def onInt (v : V) (k : (i : Int) → v = .int i → Option α) : Option α := match v with
  | .int i => k i rfl
  | _ => none
noncomputable def onStr (v : V) (k : (i : Str) → v = .str i → Option α) : Option α := match v with
  | .str i => k i rfl
  | _ => none
noncomputable def onRef (v : V) (k : (i : Nat) → v = .ref i → Option α) : Option α := match v with
  | .ref i => k i rfl
  | _ => none
noncomputable def onExt (v : V) (k : (i : Value) → v = .ext i → Option α) : Option α := match v with
  | .ext i => k i rfl
  | _ => none
noncomputable def onBool (v : V) (k : (i : Bool) → v = .bool i → Option α) : Option α := match v with
  | .bool i => k i rfl
  | _ => none
noncomputable def onAddr (v : Value) (k : (a : Addr) → v = .ref a → Option α) : Option α := match v with
  | .ref a => k a rfl
  | _ => none
noncomputable def onObj (S : List O) (i : Nat) (k : (o : O) → S[i]? = some o → Option α) : Option α := match h : S[i]? with
  | some o => k o h
  | none => none
noncomputable def onList (S : List O) (i : Nat) (k : (xs : List V) → S[i]? = some (.list xs) → Option α) : Option α := onObj S i fun o h => match o, h with
  | .list xs, h => k xs h
  | _, _ => none
noncomputable def onFrame (S : List O) (i : Nat) (k : (ns : List Str) → (vs : List (Option V)) → S[i]? = some (.frame ns vs) → Option α) : Option α := onObj S i fun o h => match o, h with
  | .frame ns vs, h => k ns vs h
  | _, _ => none
noncomputable def onCell (S : List O) (i : Nat) (k : (v : Option V) → S[i]? = some (.cell v) → Option α) : Option α := onObj S i fun o h => match o, h with
  | .cell v, h => k v h
  | _, _ => none
noncomputable def onSome {β : Type} (o : Option β) (k : (b : β) → o = some b → Option α) : Option α := match o, k with
  | some b, k => k b rfl
  | none, _ => none
noncomputable def onInts (xs : List V) (k : (ns : List Int) → xs = vInts ns → Option α) : Option α := match xs, k with
  | [], k => k [] rfl
  | v :: r, k => onInt v fun i hi => onInts r fun ns hn => k (i :: ns) (by rw [hi, hn]; rfl)
noncomputable def onIf (c : Prop) [d : Decidable c] (k : c → Option α) : Option α := match d with
  | Decidable.isTrue h => k h
  | Decidable.isFalse _ => none
end
structure Cx (G : Glo) (n : Nat) where
  glob : (x : Str) → Option {v : Value // (nsIn G.K mainGlobals x = some (some v) ∨ nsIn G.K mainGlobals x = some none ∧ bootBuiltins x = some v ∧ x ≠ "__name__") ∧ (x == ("__debug__" : Str)) = false}
  dict : (a : Addr) → (x : Str) → Option {r : Option Value // DictK G a ∧ nsIn G.K a x = some r}
  call : (f : Value) → (vs : List V) → (S : List O) → Option {p : V × List O // Cal G n (.ext f) vs S p.1 p.2 ∧ isKept G.K f = true}
theorem mulOk_of {x : Str} {k : Int} (h : x.length ≤ 100 ∧ 0 ≤ k ∧ k ≤ 100) : MulOk x k := by
  obtain ⟨h1, h2, h3⟩ := h
  refine ⟨by simp; omega, fun h0 _ => ?_, fun _ _ => ?_⟩
  · have hn : 0 < k := by omega
    refine Int.not_lt.mpr ((Int.le_ediv_iff_mul_le hn).mpr ?_)
    have : (x.length : Int) * k ≤ 100 * 100 := Int.mul_le_mul (by omega) h3 h2 (by decide)
    omega
  · have : x.length * k.toNat ≤ 100 * 100 := Nat.mul_le_mul h1 (by omega)
    exact decide_eq_false (by rw [sizeLine_eq]; omega)
theorem sizeOk {m : Nat} (h : m ≤ 1000) : m ≤ sizeLine := by rw [sizeLine_eq]; omega
theorem idxOf?_at {l : List Str} {x : Str} {j : Nat} (h : l.idxOf? x = some j) : l[j]? = some x := by
  unfold List.idxOf? at h
  obtain ⟨h1, h2, _⟩ := List.findIdx?_eq_some_iff_getElem.mp h
  rw [List.getElem?_eq_getElem h1, eq_of_beq h2]
section
variable {G : Glo} {n : Nat} {C : Cx G n}
noncomputable def bopR (op : Operator) (a b : V) (S : List O) : Option {p : V × List O // Bop G n op a b S p.1 p.2} := match op with
  | .Add => onInt a fun i h1 => onInt b fun j h2 => some ⟨(.int (i + j), S), h1 ▸ h2 ▸ Bop.add⟩
  | .Sub => onInt a fun i h1 => onInt b fun j h2 => some ⟨(.int (i - j), S), h1 ▸ h2 ▸ Bop.sub⟩
  | .Mod => onInt a fun i h1 => onInt b fun j h2 => onIf (j ≠ 0) fun h => some ⟨(.int (i.fmod j), S), h1 ▸ h2 ▸ Bop.mod h⟩
  | .FloorDiv => onInt a fun i h1 => onInt b fun j h2 => onIf (j ≠ 0 ∧ j.natAbs < 2 ^ 64) fun h => some ⟨(.int (i.fdiv j), S), h1 ▸ h2 ▸ Bop.fdiv h.1 h.2⟩
  | .Mult => onInt b fun j h2 => match (onInt a fun i h1 => onIf (i.natAbs < 2 ^ 64) fun h => some ⟨(.int (i * j), S), h1 ▸ h2 ▸ Bop.mul h⟩ : Option {p : V × List O // Bop G n .Mult a b S p.1 p.2}) with
    | some r => some r
    | none => onStr a fun x h1 => onIf (x.length ≤ 100 ∧ 0 ≤ j ∧ j ≤ 100) fun h => some ⟨(.str (Txt.mul x j), S), h1 ▸ h2 ▸ Bop.mulStr (mulOk_of h)⟩
  | _ => none
noncomputable def copI (op : CmpOp) (i j : Int) (S : List O) : Option {b : Bool // Cop G n op (.int i) (.int j) S (.bool b) S} := match op with
  | .Eq => some ⟨_, Cop.eqi⟩
  | .NotEq => some ⟨_, Cop.nei⟩
  | .Lt => some ⟨_, Cop.lti⟩
  | .Gt => some ⟨_, Cop.gti⟩
  | _ => none
noncomputable def copS (op : CmpOp) (i j : Str) (S : List O) : Option {b : Bool // Cop G n op (.str i) (.str j) S (.bool b) S} := match op with
  | .Eq => some ⟨_, Cop.eqs⟩
  | .NotEq => some ⟨_, Cop.nes⟩
  | _ => none
noncomputable def copL (op : CmpOp) (i : Int) (a : Nat) (S : List O) : Option {b : Bool // Cop G n op (.int i) (.ref a) S (.bool b) S} := onList S a fun xs h => onInts xs fun ns hn => match op with
  | .In => some ⟨_, Cop.ini (hn ▸ h)⟩
  | .NotIn => some ⟨_, Cop.nini (hn ▸ h)⟩
  | _ => none
noncomputable def copD (C : Cx G n) (op : CmpOp) (x : Str) (d : Value) (S : List O) : Option {b : Bool // Cop G n op (.str x) (.ext d) S (.bool b) S} := onAddr d fun a h => (C.dict a x).bind fun r => match op with
  | .In => some ⟨_, h ▸ Cop.inDictK r.2.1 r.2.2⟩
  | .NotIn => some ⟨_, h ▸ Cop.ninDictK r.2.1 r.2.2⟩
  | _ => none
noncomputable def copR (C : Cx G n) (op : CmpOp) (a b : V) (S : List O) : Option {c : Bool // Cop G n op a b S (.bool c) S} := match a, b with
  | .int i, .int j => copI op i j S
  | .str i, .str j => copS op i j S
  | .int i, .ref j => copL op i j S
  | .str i, .ext j => copD C op i j S
  | _, _ => none
noncomputable def itmR (C : Cx G n) (o i : V) (S : List O) : Option {v : V // Itm G n o i S v S} := match o with
  | .ref l => onInt i fun k hk => onIf (0 ≤ k ∧ k < 2 ^ 63) fun h => onList S l fun xs hx => onSome xs[k.toNat]? fun v hv => some ⟨v, hk ▸ Itm.list hx h.1 hv h.2⟩
  | .str x => onInt i fun k hk => onIf ((Txt.charAt x k).isSome = true ∧ fitsSsize k = true) fun h => some ⟨.str (Txt.item x k), hk ▸ Itm.str h.1 rfl h.2⟩
  | .ext d => onAddr d fun a ha => onStr i fun x hx => (C.dict a x).bind fun r => onSome r.1 fun v hv => some ⟨.ext v, ha ▸ hx ▸ Itm.dictK r.2.1 (hv ▸ r.2.2)⟩
  | _ => none
noncomputable def nameR (C : Cx G n) (E : AEnv) (x : Str) (S : List O) : Option {v : V // ∀ pos, Ev G n E (.Name x pos) S v S} := onSome (E.scope.names.lookup x) fun k hk => match k, hk with
  | .local, hk => onFrame S E.fid fun ns vs hf => onSome (ns.idxOf? x) fun j hj => onSome (vs[j]?.join) fun v hv => onIf ((x == ("__debug__" : Str)) = false) fun hd => some ⟨v, fun pos => Ev.loc j hk hf (idxOf?_at hj) (by
      cases q : vs[j]? with
      | none => rw [q] at hv; cases hv
      | some w => rw [q] at hv; exact congrArg some hv) hd⟩
  | .cell, hk => onSome (E.cells.lookup x) fun c hc => onCell S c fun w hw => onSome w fun v hv => onIf ((x == ("__debug__" : Str)) = false) fun hd => some ⟨v, fun pos => Ev.cel hk hc (hv ▸ hw) hd⟩
  | .free, hk => onSome (E.cells.lookup x) fun c hc => onCell S c fun w hw => onSome w fun v hv => onIf ((x == ("__debug__" : Str)) = false ∧ (x == ("__classdict__" : Str)) = false) fun hd => some ⟨v, fun pos => Ev.fre hk hc (hv ▸ hw) hd.1 hd.2⟩
  | .globalImplicit, hk => (C.glob x).bind fun w => some ⟨.ext w.1, fun pos => w.2.1.elim (fun h => Ev.glo hk h w.2.2) fun h => Ev.blt hk h.1 h.2.1 h.2.2 w.2.2⟩
  | _, _ => none
noncomputable def stoR (E : AEnv) (x : Str) (v : V) (S : List O) : Option {S' : List O // Sto G E x v S S'} := onSome (E.scope.names.lookup x) fun k hk => match k, hk with
  | .local, hk => onFrame S E.fid fun ns vs hf => onSome (ns.idxOf? x) fun j hj => onIf (ns.Nodup ∧ vs.length = ns.length) fun h => some ⟨_, Sto.loc j hk hf (idxOf?_at hj) h.1 h.2⟩
  | .cell, hk => onSome (E.cells.lookup x) fun c hc => onCell S c fun w hw => some ⟨_, Sto.cel hk hc hw⟩
  | _, _ => none
end
end Mine
namespace Mine
noncomputable def isStar : Expr → Bool
  | .Starred .. => true
  | _ => false
theorem starEach_one {e : Expr} (h : isStar e = false) (r : List Expr) (env : Env) : starEach (e :: r) env = (false, eval e env) :: starEach r env := by
  cases e <;> first | rfl | cases h
theorem stars_none {pos : Pos} {env : Env} : ∀ {r : List Expr}, r.any isStar = false → (backTo pos (starEach r env)).any (·.1) = false ∧ (backTo pos (starEach r env)).all (!·.1) = true
  | [], _ => ⟨rfl, rfl⟩
  | e :: r, h => by
    rw [List.any_cons, Bool.or_eq_false_iff] at h
    rw [starEach_one h.1]
    show (false || (backTo pos (starEach r env)).any (·.1)) = false ∧ (true && (backTo pos (starEach r env)).all (!·.1)) = true
    rw [(stars_none h.2).1, (stars_none h.2).2]; exact ⟨rfl, rfl⟩
noncomputable def isSetE : Expr → Bool
  | .Set .. => true
  | _ => false
theorem folded_any {e : Expr} (h : isSetE e = false) (env : Env) (x : Value) : foldedSetIterable e env x = pure x := by
  cases e <;> first | rfl | cases h
noncomputable def isCompE : Expr → Bool
  | .ListComp .. => true
  | .SetComp .. => true
  | .DictComp .. => true
  | _ => false
theorem swaps_any {e : Expr} (h : isCompE e = false) (t : Option Expr) (l : Nat) (env : Env) : swapsWith e t l env = pure false := by
  cases e <;> first | rfl | cases h
theorem subscripted_any (slice : Expr) (x y : Value) : ∃ L, subscripted slice false x y = operate L (getItem x y) := by
  cases slice with
  | Slice lo hi st p => cases st <;> exact ⟨_, rfl⟩
  | _ => exact ⟨_, rfl⟩
theorem method_eq {ox : Str} {op apos pos : Pos} {m : Str} {args : List Expr} (hs : args.any isStar = false) (hn : args.length < 30) (hl : (apos.endLine == pos.line) = true) (env : Env) :
    eval (((Expr.Name ox op).Attribute m apos).Call args [] pos) env = (do
          let ov ← eval (.Name ox op) env
          standAt apos.atName
          let (f, first) ← holding [ov] (getMethod ov m (do return (← importBound (.Name ox op) env).getD true))
          callWith pos f first (backTo pos (starEach args env)) []) := by
  have hf : methodCallForm (args.length + 0) (backTo pos (starEach args env)) [] = true := by
    unfold methodCallForm
    rw [(stars_none hs).2]
    simp [hn]
  show (do
    let ov ← eval (.Name ox op) env
    standAt apos.atName
    methodCall (.Name ox op) m apos pos env ov (args.length + 0) (backTo pos (starEach args env)) []) = _
  have : ∀ ov, methodCall (.Name ox op) m apos pos env ov (args.length + 0) (backTo pos (starEach args env)) [] = (do
          let (f, first) ← holding [ov] (getMethod ov m (do return (← importBound (.Name ox op) env).getD true))
          callWith pos f first (backTo pos (starEach args env)) []) := fun ov => by
    unfold methodCall calleeOf methodCallPos
    rw [hf, hl]
    rfl
  simp only [this]
theorem swaps_comp {E : AEnv} {elt : Expr} {gens : List Comprehension} {scope : Scope} {cpos px : Pos} {x : Str} {l : Nat} {env : Env} (he : env.scope = E.scope) : swapsWith (.ListComp elt gens scope cpos) (some (.Name x px)) l env =
    pure ((if E.scope.kind.isAnnotationScope then ScopeKind.function else E.scope.kind) == ScopeKind.function && E.scope.names.lookup x == some .local && px.line == cpos.line && !(scope.names.any fun (m, k) => m == x && (k == .local || k == .cell))) := by
  rw [← he]; rfl
structure Lvl (G : Glo) (n : Nat) where
  ev : (E : AEnv) → (e : Expr) → (S : List O) → Option {p : V × List O // Ev G n E e S p.1 p.2}
  st : (E : AEnv) → (st : Stmt) → (S : List O) → Option {p : Fl × List O // Ex G n E st S p.1 p.2}
section
variable {G : Glo} {n : Nat} (C : Cx G n) (L : Lvl G n) (E : AEnv)
theorem any_cons {e : Expr} {r : List Expr} (h : isStar e = false) (h' : r.any isStar = false) : (e :: r).any isStar = false := by rw [List.any_cons, h, h']; rfl
noncomputable def evsR : (es : List Expr) → (S : List O) → Option {p : List V × List O // Evs G n E es S p.1 p.2 ∧ es.any isStar = false}
  | [], S => some ⟨([], S), Evs.nil, rfl⟩
  | e :: r, S => onIf (isStar e = false) fun hs => (L.ev E e S).bind fun p => (evsR r p.1.2).map fun q => ⟨(p.1.1 :: q.1.1, q.1.2), Evs.cons p.2 q.2.1 (starEach_one hs r), any_cons hs q.2.2⟩
noncomputable def exsR : (ss : List Stmt) → (S : List O) → Option {p : Fl × List O // Exs G n E ss S p.1 p.2}
  | [], S => some ⟨(.next, S), Exs.nil⟩
  | s :: r, S => (L.st E s S).bind fun p => match p with
    | ⟨(.next, S1), h⟩ => (exsR r S1).map fun q => ⟨q.1, Exs.cons h q.2⟩
    | ⟨(.ret v, S1), h⟩ => some ⟨(.ret v, S1), Exs.stop h⟩
noncomputable def cmpR (l r : Expr) (op : CmpOp) (S : List O) : Option {p : Bool × List O // (∀ pos, Ev G n E (.Compare l [op] [r] pos) S (.bool p.1) p.2) ∧ ∀ pos, Tst G n E (.Compare l [op] [r] pos) S p.1 p.2} :=
  onIf (behindInMarks op r = false) fun hm => (L.ev E l S).bind fun p => (L.ev E r p.1.2).bind fun q => (copR C op p.1.1 q.1.1 q.1.2).map fun c => ⟨(c.1, q.1.2), fun pos => Ev.cmp p.2 q.2 c.2 hm, fun pos => Tst.cmp p.2 q.2 c.2 hm⟩
noncomputable def tst0 (e : Expr) (S : List O) : Option {p : Bool × List O // Tst G n E e S p.1 p.2} := match e with
  | .Compare l [op] [r] pos => (cmpR C L E l r op S).map fun p => ⟨p.1, p.2.2 pos⟩
  | .Name x p => (L.ev E (.Name x p) S).bind fun p => onBool p.1.1 fun b hb => some ⟨(b, p.1.2), Tst.plain p.2 (hb ▸ Tru.bool)⟩
  | _ => none
noncomputable def andR (pos : Pos) : (es : List Expr) → (S : List O) → Option {p : Bool × List O // Tst G n E (.BoolOp .And es pos) S p.1 p.2}
  | [], S => some ⟨(true, S), Tst.and_nil⟩
  | e :: r, S => (tst0 C L E e S).bind fun p => match p with
    | ⟨(true, S1), h⟩ => (andR pos r S1).map fun q => ⟨q.1, Tst.and_t h q.2⟩
    | ⟨(false, S1), h⟩ => some ⟨(false, S1), Tst.and_f h⟩
noncomputable def tstR (e : Expr) (S : List O) : Option {p : Bool × List O // Tst G n E e S p.1 p.2} := match e with
  | .BoolOp .And es pos => andR C L E pos es S
  | .UnaryOp .Not e' pos => (tst0 C L E e' S).map fun p => ⟨(!p.1.1, p.1.2), Tst.not p.2⟩
  | e => tst0 C L E e S
-- what one iterates over
noncomputable def rngR (a b : Int) : Option {m : Nat // Builtin.Range.small a b 1 = true ∧ Builtin.Range.rangeSize a b 1 = (m : Int)} :=
  onIf (Builtin.Range.small a b 1 = true ∧ 0 ≤ Builtin.Range.rangeSize a b 1) fun h => some ⟨(Builtin.Range.rangeSize a b 1).toNat, h.1, by omega⟩
noncomputable def lstR (e : Expr) (S : List O) : Option {p : Src × List O // Iti G n E e S p.1 p.2} := (L.ev E e S).bind fun p => onRef p.1.1 fun i hi => onList p.1.2 i fun xs hx => some ⟨(.lst i 0, p.1.2), Iti.of p.2 (hi ▸ Itr.list hx)⟩
noncomputable def itiR (e : Expr) (S : List O) : Option {p : Src × List O // Iti G n E e S p.1 p.2} := match e with
  | .Call (.Name f p) [a] [] pos => onIf (isStar a = false) fun ha => (nameR C E f S).bind fun w => onExt w.1 fun g hg => match g, hg with
    | .type id, hg => onIf (id = "range") fun hid => (L.ev E a S).bind fun q => onInt q.1.1 fun b hb => (rngR 0 b).map fun m => ⟨(.rng 0 m.1, q.1.2), Iti.range1 (hid ▸ hg ▸ w.2 p) (hb ▸ q.2) m.2.1 m.2.2 (fun _ => rfl) (starEach_one ha _)⟩
    | _, _ => none
  | .Call (.Name f p) [a, b] [] pos => onIf (isStar a = false ∧ isStar b = false) fun ha => (nameR C E f S).bind fun w => onExt w.1 fun g hg => match g, hg with
    | .type id, hg => onIf (id = "range") fun hid => (L.ev E a S).bind fun q => onInt q.1.1 fun i hi => (L.ev E b q.1.2).bind fun r => onInt r.1.1 fun j hj => (rngR i j).map fun m =>
      ⟨(.rng i m.1, r.1.2), Iti.range2 (hid ▸ hg ▸ w.2 p) (hi ▸ q.2) (hj ▸ r.2) m.2.1 m.2.2 (fun _ => rfl) (starEach_one ha.1 _) (starEach_one ha.2 _) fun env => (stars_none (any_cons ha.2 rfl)).1⟩
    | _, _ => none
  | e => lstR L E e S
noncomputable def nxtR (S : List O) : (c : Src) → Option {r : Option (V × Src) // Nxt S c r}
  | .rng a 0 => some ⟨none, .rngE⟩
  | .rng a (m + 1) => some ⟨some (.int a, .rng (a + 1) m), .rngN⟩
  | .lst i k => onList S i fun xs hx => match h : xs[k]? with
    | none => some ⟨none, .lstE hx h⟩
    | some v => some ⟨some (v, .lst i (k + 1)), .lstN hx h⟩
noncomputable def tstsR : (ifs : List Expr) → (S : List O) → Option {p : Bool × List O // Tsts G n E ifs S p.1 p.2}
  | [], S => some ⟨(true, S), .nil⟩
  | [c], S => (tstR C L E c S).map fun p => ⟨p.1, .one p.2⟩
  | _, _ => none
end
end Mine
namespace Mine
-- the first ones of a state, by themselves
theorem okV_mono {m m' : Nat} (h : m ≤ m') {v : V} (q : okV m v) : okV m' v := by
  cases v <;> first | trivial | exact Nat.lt_of_lt_of_le q h
noncomputable def okVB (m : Nat) : V → Bool
  | .ref k => decide (k < m)
  | _ => true
theorem okVB_of {m : Nat} {v : V} (h : okVB m v = true) : okV m v := by
  cases v with
  | ref k => exact of_decide_eq_true (p := k < m) h
  | _ => trivial
noncomputable def okOB (m : Nat) : O → Bool
  | .list xs => xs.all (okVB m)
  | .tup xs => xs.all (okVB m)
  | .cell v => v.all (okVB m)
  | .frame _ vs => vs.all fun v => v.all (okVB m)
  | .acc _ d xs => decide (d < m) && xs.all (okVB m)
  | .obj _ => true
theorem okOB_of {m : Nat} {o : O} (h : okOB m o = true) : okO m o := by
  cases o with
  | list xs => exact fun v hv => okVB_of (List.all_eq_true.mp h v hv)
  | tup xs => exact fun v hv => okVB_of (List.all_eq_true.mp h v hv)
  | cell v => exact fun x hx => okVB_of (by cases hx; exact h)
  | frame ns vs => exact fun v hv x hx => okVB_of (by cases hx; exact List.all_eq_true.mp h _ hv)
  | acc C d xs =>
    simp only [okOB, Bool.and_eq_true, decide_eq_true_eq] at h
    exact ⟨h.1, fun v hv => okVB_of (List.all_eq_true.mp h.2 v hv)⟩
  | obj P => trivial
theorem okO_mono {m m' : Nat} (h : m ≤ m') {o : O} (q : okO m o) : okO m' o := by
  cases o with
  | list xs => exact fun v hv => okV_mono h (q v hv)
  | tup xs => exact fun v hv => okV_mono h (q v hv)
  | cell v => exact fun x hx => okV_mono h (q x hx)
  | frame ns vs => exact fun v hv x hx => okV_mono h (q v hv x hx)
  | acc C d xs => exact ⟨Nat.lt_of_lt_of_le q.1 h, fun v hv => okV_mono h (q.2 v hv)⟩
  | obj P => trivial
theorem mapV_id {m : Nat} {f : Nat → Nat} (hf : ∀ k, k < m → f k = k) {v : V} (h : okV m v) : mapV f v = v := by
  cases v <;> first | rfl | exact congrArg V.ref (hf _ h)
theorem mapL_id {m : Nat} {f : Nat → Nat} (hf : ∀ k, k < m → f k = k) {xs : List V} (h : ∀ v ∈ xs, okV m v) : xs.map (mapV f) = xs := map_eq_self fun v hv => mapV_id hf (h v hv)
theorem mapOp_id {m : Nat} {f : Nat → Nat} (hf : ∀ k, k < m → f k = k) {v : Option V} (h : ∀ x ∈ v, okV m x) : v.map (mapV f) = v := by
  cases v with
  | none => rfl
  | some v => exact congrArg some (mapV_id hf (h v rfl))
theorem mapO_id {m : Nat} {f : Nat → Nat} (hf : ∀ k, k < m → f k = k) {o : O} (h : okO m o) : mapO f o = o := by
  cases o with
  | list xs => exact congrArg O.list (mapL_id hf h)
  | tup xs => exact congrArg O.tup (mapL_id hf h)
  | cell v => exact congrArg O.cell (mapOp_id hf h)
  | frame ns vs => exact congrArg (O.frame ns) (map_eq_self fun v hv => mapOp_id hf (h v hv))
  | acc C d xs =>
    show O.acc C (f d) (xs.map (mapV f)) = _
    rw [hf _ h.1, mapL_id hf h.2]
  | obj P => rfl
section
variable {S : List O}
/-- cut after m, and some more behind -/
theorem part_more {m : Nat} {rs : List Nat} {os : List O} (hm : m ≤ S.length) (h : (S.take m).all (okOB m) = true) (hl : rs.length = os.length) (hr : ∀ (k : Nat) (o : O), os[k]? = some o → okOB m o = true ∧ ∃ r, rs[k]? = some r ∧ m ≤ r ∧ S[r]? = some o) (hn : rs.Nodup) : Part (List.range m ++ rs) (S.take m ++ os) S := by
  have hl' : (S.take m).length = m := by rw [List.length_take]; omega
  have hf : ∀ j, j < m → at0 (List.range m ++ rs) j = j := fun j hj => at0_of (by rw [List.getElem?_append_left (by rw [List.length_range]; exact hj), List.getElem?_range hj])
  have hle : m ≤ (S.take m ++ os).length := by rw [List.length_append, hl']; omega
  refine ⟨by rw [List.length_append, List.length_append, List.length_range, hl', hl], List.nodup_append.mpr ⟨List.nodup_range, hn, fun a ha b hb => ?_⟩, fun k o e => ?_⟩
  · have := List.mem_range.mp ha
    obtain ⟨k, hk⟩ := List.getElem?_of_mem hb
    have hko : k < os.length := hl ▸ (List.getElem?_eq_some_iff.mp hk).1
    obtain ⟨_, r, h1, h2, _⟩ := hr k _ (List.getElem?_eq_getElem hko)
    rw [hk] at h1; cases h1
    omega
  · by_cases hk : k < m
    · rw [List.getElem?_append_left (by rw [hl']; exact hk)] at e
      have ho := okOB_of (List.all_eq_true.mp h o (List.mem_of_getElem? e))
      refine ⟨okO_mono hle ho, ?_⟩
      rw [hf k hk, mapO_id hf ho]
      rw [List.getElem?_take, if_pos hk] at e
      exact e
    · rw [List.getElem?_append_right (by omega), hl'] at e
      obtain ⟨h1, r, h2, h3, h4⟩ := hr _ _ e
      refine ⟨okO_mono hle (okOB_of h1), ?_⟩
      have : at0 (List.range m ++ rs) k = r := at0_of (by rw [List.getElem?_append_right (by rw [List.length_range]; omega), List.length_range]; exact h2)
      rw [this, mapO_id hf (okOB_of h1)]
      exact h4
theorem part_take {m : Nat} (hm : m ≤ S.length) (h : (S.take m).all (okOB m) = true) : Part (List.range m) (S.take m) S := by
  have := part_more (rs := []) (os := []) hm h rfl (fun k o e => by simp at e) List.nodup_nil
  rwa [List.append_nil, List.append_nil] at this
theorem part_one {m r : Nat} {o : O} (hm : m ≤ S.length) (h : (S.take m).all (okOB m) = true) (hr : S[r]? = some o) (ho : okOB m o = true) (hmr : m ≤ r) : Part (List.range m ++ [r]) (S.take m ++ [o]) S :=
  part_more hm h rfl (fun k o' e => by
    cases k with
    | zero => cases e; exact ⟨ho, r, rfl, hmr, hr⟩
    | succ k => simp at e) (by simp)
end
theorem getD_range {m k : Nat} (h : k < m) : (List.range m)[k]? = some k := List.getElem?_range h
theorem getD_range' {m k : Nat} {l : List Nat} (h : k < m) : (List.range m ++ l)[k]? = some k := by rw [List.getElem?_append_left (by rw [List.length_range]; exact h)]; exact List.getElem?_range h
section
variable {G : Glo} {n : Nat} {S S1 : List O}
theorem Ev.norm {E : AEnv} {e : Expr} {v : V} (h : Ev G n E e S v S1) : Ev G n E e S (normV v) S1 := fun A env ρ s hA hE hS Q k => h A env ρ s hA hE hS Q fun ρ1 s1 x x1 hS1 r1 => k ρ1 s1 x x1 hS1 r1.norm
theorem Cal.norm {f : V} {vs : List V} {v : V} (h : Cal G n f vs S v S1) : Cal G n f vs S (normV v) S1 := fun A ρ s g xs hA hS rf rx Q k => h A ρ s g xs hA hS rf rx Q fun ρ1 s1 x x1 hS1 r1 => k ρ1 s1 x x1 hS1 r1.norm
theorem Mth.dictK {a : Addr} {name : Str} {id : String} (slot : Slot "dict" name id) (hty : typeOf (.builtin id) = pure (.type "method_descriptor")) (D : DictK G a) : Mth G n (.ext (.ref a)) name S (.builtin id) [.ext (.ref a)] := by
  rintro A ρ s _ pl Q hA hS rfl k
  obtain ⟨es, m, hl, hk⟩ := D.at_
  have ho := G.X.keeps hS.keep _ _ hl
  exact getMethod_builtin (T := "dict") ⟨_, ho, rfl⟩ PySem.F.plainAttrs_dict slot hty (fun b q => by cases q; exact ⟨_, ho, rfl⟩) (k _ (.one rfl))
theorem Cal.dictGetK {a : Addr} {x : Str} {r : Option Value} {w : V} (D : DictK G a) (e : nsIn G.K a x = some r) : Cal G n (.ext (.builtin "dict.get")) [.ext (.ref a), .str x, w] S ((r.map .ext).getD w) S := by
  rintro A ρ s g ys hA hS rfl rr
  cases rr with
  | cons r1 r2 => cases r2 with
    | cons r2 r3 => cases r3 with
      | @cons _ y _ _ r3 r4 => cases r4 with
        | nil =>
          cases r1
          obtain ⟨t, rfl⟩ := r2
          obtain ⟨f, hm, hf⟩ := D.map e hS
          refine Run.mk hS fun Q c => ?_
          refine call_meetsIn PySem.F.slot_dict_get hm.typeIs PySem.F.entry_dict_get (PySem.F.args_dict_get_3 _ _ _) (meets_dict_get_default (PySem.strKind G.prog G.w) a (PySem.strKind_is _ _ x t) D.sm y) ⟨_, hm, ?_⟩
          refine c ρ _ _ (Ext.same rfl) (hS.same rfl rfl rfl) ?_
          rw [hf]
          cases r with
          | none => exact r3
          | some v => exact rfl
variable (C : Cx G n) (L : Lvl G n) (E : AEnv)
noncomputable def RC (G : Glo) (n : Nat) (f : Value) (vs : List V) (S : List O) : Type := Option {p : V × List O // Cal G n (.ext f) vs S p.1 p.2}
noncomputable def callB (id : String) (vs : List V) (S : List O) : RC G n (.builtin id) vs S := match vs with
  | [.str x] => onIf (id = "len" ∧ x.length < 2 ^ 63) fun h => some ⟨(.int x.length, S), h.1 ▸ Cal.lenStr h.2⟩
  | [.ref i] => onList S i fun xs hx => match (onIf (id = "len" ∧ xs.length < 2 ^ 63) fun h => some ⟨(.int xs.length, S), h.1 ▸ Cal.lenList hx h.2⟩ : RC G n (.builtin id) [.ref i] S) with
    | some r => some r
    | none => onInts xs fun ns hn => onIf (id = "max") fun h => onSome (ns.find? fun M => ns.all fun a => decide (a ≤ M)) fun M hM => some ⟨(.int M, S), h ▸ Cal.max (hn ▸ hx) (List.mem_of_find?_eq_some hM) fun a ha =>
        of_decide_eq_true (List.all_eq_true.mp (List.find?_some (p := fun M => ns.all fun a => decide (a ≤ M)) hM : (ns.all fun a => decide (a ≤ M)) = true) a ha)⟩
  | [.ref i, y] => onList S i fun xs hx => match (onIf (id = "list.append" ∧ xs.length ≤ 1000) fun h => some ⟨(.none, S.set i (.list (xs ++ [y]))), h.1 ▸ Cal.append hx (sizeOk h.2)⟩ : RC G n (.builtin id) [.ref i, y] S) with
    | some r => some r
    | none => onInt y fun k hk => onInts xs fun ns hn => onIf (id = "list.count") fun h => some ⟨(.int (ns.count k), S), h ▸ hk ▸ Cal.count (hn ▸ hx)⟩
  | [.ext d, .str x, w] => onAddr d fun a ha => onIf (id = "dict.get") fun h => (C.dict a x).map fun r => ⟨(normV ((r.1.map .ext).getD w), S), h ▸ ha ▸ (Cal.dictGetK r.2.1 r.2.2).norm⟩
  | _ => none
/-- a method's name -/
noncomputable def methR (o : V) (m : Str) (S : List O) : Option {id : String // Mth G n o m S (.builtin id) [o]} := match o with
  | .ref i => onList S i fun xs hx => match (onIf (m = "append") fun h => some ⟨"list.append", h ▸ Mth.append hx⟩ : Option {id : String // Mth G n (.ref i) m S (.builtin id) [.ref i]}) with
    | some r => some r
    | none => onIf (m = "count") fun h => some ⟨"list.count", h ▸ Mth.count hx⟩
  | .ext d => onAddr d fun a ha => onIf (m = "get") fun h => (C.dict a "").map fun r => ⟨"dict.get", h ▸ ha ▸ Mth.dictK PySem.F.slot_dict_get PySem.F.type_dict_get r.2.1⟩
  | _ => none
noncomputable def callR (f : Value) (vs : List V) (S : List O) : Option {p : V × List O // Cal G n (.ext f) vs S p.1 p.2 ∧ isKept G.K f = true} := match f with
  | .builtin id => (callB C id vs S).map fun p => ⟨p.1, p.2, rfl⟩
  | f => C.call f vs S
noncomputable def slcR (p : Option Expr) (S : List O) : Option {q : Option Int × List O // EvP G n E p S q.1 q.2} := match p with
  | none => some ⟨(none, S), .none⟩
  | some e => (L.ev E e S).bind fun q => onInt q.1.1 fun k hk => some ⟨(some k, q.1.2), .some (hk ▸ q.2)⟩
noncomputable def sliceR (value : Expr) (lo hi : Option Expr) (p pos : Pos) (S : List O) : Option {q : V × List O // Ev G n E (.Subscript value (.Slice lo hi none p) pos) S q.1 q.2} := (L.ev E value S).bind fun o => (slcR L E lo o.1.2).bind fun q => (slcR L E hi q.1.2).bind fun r =>
  match (onStr o.1.1 fun x hx => onIf (x.length ≤ 1000) fun h => some ⟨(.str (Txt.slice x q.1.1 r.1.1), r.1.2), Ev.sliceStr (hx ▸ o.2) q.2 r.2 (sizeOk h)⟩ : Option {q : V × List O // Ev G n E (.Subscript value (.Slice lo hi none p) pos) S q.1 q.2}) with
  | some r => some r
  | none => onRef o.1.1 fun i hi => onList r.1.2 i fun xs hx => onIf (xs.length ≤ 1000) fun h => some ⟨(.ref r.1.2.length, r.1.2 ++ [.list (cutOf xs q.1.1 r.1.1)]), Ev.slice (hi ▸ o.2) q.2 r.2 hx (sizeOk h)⟩
noncomputable def subR (value slice : Expr) (pos : Pos) (S : List O) : Option {q : V × List O // Ev G n E (.Subscript value slice pos) S q.1 q.2} := match slice with
  | .Slice lo hi none p => sliceR L E value lo hi p pos S
  | slice => (L.ev E value S).bind fun o => (L.ev E slice o.1.2).bind fun i => (itmR C o.1.1 i.1.1 i.1.2).map fun v => ⟨(normV v.1, i.1.2), (Ev.sub o.2 i.2 v.2 (subscripted_any _)).norm⟩
end
end Mine
namespace Mine
section
variable {G : Glo} {n : Nat} (C : Cx G n) (L : Lvl G n) (E : AEnv)
noncomputable def compR (elt : Expr) (gens : List Comprehension) (D : Nat) : Nat → (d : Nat) → (c : Src) → (S : List O) → Option {S' : List O // CompN G n E elt gens D d c S S'}
  | 0, _, _, _ => none
  | k + 1, d, c, S => onSome gens[d]? fun g hg => match g, hg with
    | ⟨.Name x px, it, ifs, 0⟩, hg => (nxtR S c).bind fun r => match r with
      | ⟨none, N⟩ => some ⟨S, .done hg N⟩
      | ⟨some (v, c'), N⟩ => (stoR E x v S).bind fun S1 => (tstsR C L E ifs S1.1).bind fun p => match p with
        | ⟨(false, S2), T⟩ => (compR elt gens D k d c' S2).map fun S3 => ⟨S3.1, .skip hg N S1.2 T S3.2⟩
        | ⟨(true, S2), T⟩ => match hg' : gens[d + 1]? with
          | none => (L.ev E elt S2).bind fun q => onList q.1.2 D fun xs hx => onIf (xs.length ≤ 1000) fun hl => (compR elt gens D k d c' (q.1.2.set D (.list (xs ++ [q.1.1])))).map fun S4 => ⟨S4.1, .emit hg hg' N S1.2 T q.2 hx (sizeOk hl) S4.2⟩
          | some g' => onIf (g'.is_async = 0 ∧ isSetE g'.iter = false) fun h => (itiR C L E g'.iter S2).bind fun q => (compR elt gens D k (d + 1) q.1.1 q.1.2).bind fun S4 => (compR elt gens D k d c' S4.1).map fun S5 =>
            ⟨S5.1, .deep hg hg' h.1 (folded_any h.2) N S1.2 T q.2 S4.2 S5.2⟩
    | _, _ => none
noncomputable def localsOf (scope : Scope) : List Str := (scope.names.filter fun y => y.2 == .local).map (·.1)
structure CompOk (E : AEnv) (scope : Scope) (iter : Expr) : Prop where
  cell : ∀ y ∈ scope.names, y.2 ≠ .cell
  kind : scope.kind = .function
  names : ∀ y ∈ scope.names, y.2 = .local → scope.names.lookup y.1 = some .local
  set : isSetE iter = false
theorem compOk_of {E : AEnv} {scope : Scope} {iter : Expr} (h : (scope.names.all (fun y => y.2 != .cell) && (scope.kind == .function) && (scope.names.all fun y => y.2 != .local || scope.names.lookup y.1 == some .local) && !isSetE iter) = true) : CompOk E scope iter := by
  simp only [Bool.and_eq_true, List.all_eq_true] at h
  obtain ⟨⟨⟨h1, h2⟩, h3⟩, h4⟩ := h
  refine ⟨fun y hy => by simpa using h1 y hy, eq_of_beq h2, fun y hy q => ?_, by simpa using h4⟩
  have := h3 y hy
  rw [q] at this
  simpa using this
/-- a comprehension's turns, its list at D, its frame behind -/
structure Comp1 (G : Glo) (n : Nat) (E : AEnv) (elt : Expr) (gens : List Comprehension) (scope : Scope) (S : List O) (D : Nat) (S2 : List O) : Prop where
  ex : ∃ x px iter ifs gs c S1 cs, gens = ⟨.Name x px, iter, ifs, 0⟩ :: gs ∧ D = S1.length ∧ Iti G n E iter S c S1 ∧ CompN G n ⟨relA scope E.scope, S1.length + 1, cs⟩ elt (⟨.Name x px, iter, ifs, 0⟩ :: gs) S1.length 0 c (S1 ++ [.list [], blank (localsOf scope)]) S2 ∧
      closN E.cells scope.names [] = some cs ∧ CompOk E scope iter ∧ S.length ≤ S1.length
noncomputable def comp1 (elt : Expr) (gens : List Comprehension) (scope : Scope) (S : List O) : Option {p : Nat × List O // Comp1 G n E elt gens scope S p.1 p.2} := match gens with
  | ⟨.Name x px, iter, ifs, 0⟩ :: gs => onIf _ fun h => (itiR C L E iter S).bind fun p => onSome (closN E.cells scope.names []) fun cs hcs => onIf (S.length ≤ p.1.2.length) fun hl =>
      (compR C L ⟨relA scope E.scope, p.1.2.length + 1, cs⟩ elt (⟨.Name x px, iter, ifs, 0⟩ :: gs) p.1.2.length 200 0 p.1.1 (p.1.2 ++ [.list [], blank (localsOf scope)])).map fun S2 => ⟨(p.1.2.length, S2.1), ⟨x, px, iter, ifs, gs, p.1.1, p.1.2, cs, rfl, rfl, p.2, S2.2, hcs, compOk_of (E := E) h, hl⟩⟩
  | _ => none
variable {C L E}
theorem Comp1.ev {elt : Expr} {gens : List Comprehension} {scope : Scope} {pos : Pos} {S S2 : List O} {D : Nat} {ns' : List Str} {vs' : List (Option V)} (h : Comp1 G n E elt gens scope S D S2) (hF : S2[D + 1]? = some (.frame ns' vs')) (hok : (S2.take (D + 1)).all (okOB (D + 1)) = true) :
    Ev G n E (.ListComp elt gens scope pos) S (.ref D) (S2.take (D + 1)) := by
  obtain ⟨x, px, iter, ifs, gs, c, S1, cs, rfl, rfl, hi, hL, hcs, ho, hl⟩ := h.ex
  have hlen := (List.getElem?_eq_some_iff.mp hF).1
  exact Ev.comp (localsOf _) (σ := List.range (S1.length + 1)) hi hL hF (part_take (by omega) hok) (fun i hi => getD_range (by omega)) (getD_range (by omega)) (by simp) hl hcs ho.cell ho.kind ho.names (folded_any ho.set)
theorem Comp1.assign {elt : Expr} {gens : List Comprehension} {scope : Scope} {pos spos py : Pos} {y : Str} {S S2 S3 : List O} {D : Nat} {ns' : List Str} {vs' : List (Option V)} (h : Comp1 G n E elt gens scope S D S2) (hst : Sto G E y (.ref D) S2 S3) (hF : S3[D + 1]? = some (.frame ns' vs')) (hok : (S3.take (D + 1)).all (okOB (D + 1)) = true)
    (hsw : ∀ env : Env, env.scope = E.scope → swapsWith (.ListComp elt gens scope pos) (some (.Name y py)) spos.line env = pure true) : Ex G n E (.Assign [.Name y py] (.ListComp elt gens scope pos) spos) S .next (S3.take (D + 1)) := by
  obtain ⟨x, px, iter, ifs, gs, c, S1, cs, rfl, rfl, hi, hL, hcs, ho, hl⟩ := h.ex
  have hlen := (List.getElem?_eq_some_iff.mp hF).1
  exact Ex.assignComp (localsOf _) (σ := List.range (S1.length + 1)) hi hL hst hF (part_take (by omega) hok) (fun i hi => getD_range (by omega)) (by simp) hl hsw hcs ho.cell ho.kind ho.names (folded_any ho.set)
variable (C L E)
noncomputable def evStep (e : Expr) (S : List O) : Option {p : V × List O // Ev G n E e S p.1 p.2} := match e with
  | .Constant c k pos => match c with
    | .int i => some ⟨(.int i, S), Ev.int⟩
    | .str x => some ⟨(.str x, S), Ev.str⟩
    | .bool b => some ⟨(.bool b, S), Ev.bool⟩
    | _ => none
  | .Name x pos => (nameR C E x S).map fun v => ⟨(v.1, S), v.2 pos⟩
  | .BinOp l op r pos => (L.ev E l S).bind fun p => (L.ev E r p.1.2).bind fun q => (bopR op p.1.1 q.1.1 q.1.2).map fun v => ⟨v.1, Ev.bin p.2 q.2 v.2⟩
  | .Compare l [op] [r] pos => (cmpR C L E l r op S).map fun p => ⟨(.bool p.1.1, p.1.2), p.2.1 pos⟩
  | .IfExp t b o pos => (tstR C L E t S).bind fun p => match p with
    | ⟨(true, S1), T⟩ => (L.ev E b S1).map fun q => ⟨q.1, Ev.ite_t T q.2⟩
    | ⟨(false, S1), T⟩ => (L.ev E o S1).map fun q => ⟨q.1, Ev.ite_f T q.2⟩
  | .List es pos => (evsR L E es S).bind fun p => onIf (p.1.1.length ≤ 1000) fun h => some ⟨(.ref p.1.2.length, p.1.2 ++ [.list p.1.1]), Ev.list p.2.1 (sizeOk h)⟩
  | .Tuple es k pos => (evsR L E es S).bind fun p => onIf (p.1.1.length ≤ 1000) fun h => some ⟨(.ref p.1.2.length, p.1.2 ++ [.tup p.1.1]), Ev.tup p.2.1 (sizeOk h)⟩
  | .Subscript value slice pos => subR C L E value slice pos S
  | .Call (.Name f p) (a :: r) [] pos => (nameR C E f S).bind fun w => onExt w.1 fun fv hf => (evsR L E (a :: r) S).bind fun q => (callR C fv q.1.1 q.1.2).bind fun v => onIf (isStar a = false ∧ r.any isStar = false) fun hs =>
      some ⟨v.1, Ev.call (hf ▸ w.2 p) q.2.1 v.2.1 v.2.2 (fun _ => rfl) (starEach_one hs.1 r) fun env => (stars_none hs.2).1⟩
  | .Call (.Attribute (.Name ox op) m apos) (a :: r) [] pos => onIf ((apos.endLine == pos.line) = true ∧ (a :: r).length < 30) fun h => (L.ev E (.Name ox op) S).bind fun o => (methR C o.1.1 m o.1.2).bind fun id => (evsR L E (a :: r) o.1.2).bind fun q =>
      (callB C id.1 (o.1.1 :: q.1.1) q.1.2).bind fun v => onIf (isStar a = false ∧ r.any isStar = false) fun hs => some ⟨v.1, Ev.meth _ o.2 id.2 q.2.1 v.2 rfl (method_eq q.2.2 h.2 h.1) (starEach_one hs.1 r) fun env => (stars_none hs.2).1⟩
  | .ListComp elt gens scope pos => (comp1 C L E elt gens scope S).bind fun p => onFrame p.1.2 (p.1.1 + 1) fun ns vs hF => onIf ((p.1.2.take (p.1.1 + 1)).all (okOB (p.1.1 + 1)) = true) fun hok => some ⟨(.ref p.1.1, p.1.2.take (p.1.1 + 1)), p.2.ev hF hok⟩
  | _ => none
noncomputable def whlR (t : Expr) (body : List Stmt) : Nat → (S : List O) → Option {p : Fl × List O // ∃ m, Whl G n E t body m S p.1 p.2}
  | 0, _ => none
  | k + 1, S => (tstR C L E t S).bind fun p => match p with
    | ⟨(false, S1), T⟩ => some ⟨(.next, S1), 0, .done T⟩
    | ⟨(true, S1), T⟩ => (exsR L E body S1).bind fun q => match q with
      | ⟨(.next, S2), B⟩ => (whlR t body k S2).map fun r => ⟨r.1, let ⟨m, h⟩ := r.2; ⟨m + 1, .next T B h⟩⟩
      | ⟨(.ret v, S2), B⟩ => some ⟨(.ret v, S2), 0, .stop T B⟩
noncomputable def asgR (x : Str) (px : Pos) (elt : Expr) (gens : List Comprehension) (scope : Scope) (cpos pos : Pos) (S : List O) : Option {p : Fl × List O // Ex G n E (.Assign [.Name x px] (.ListComp elt gens scope cpos) pos) S p.1 p.2} :=
  match (onIf (E.scope.names.lookup x = some .cell) fun hc => (L.ev E (.ListComp elt gens scope cpos) S).bind fun p => (stoR E x p.1.1 p.1.2).map fun S2 => ⟨(.next, S2.1), Ex.assign p.2 S2.2 fun env he => by rw [swaps_comp he, hc]; exact congrArg pure (by simp)⟩ : Option {p : Fl × List O // Ex G n E (.Assign [.Name x px] (.ListComp elt gens scope cpos) pos) S p.1 p.2}) with
  | some r => some r
  | none => onIf (E.scope.kind = .function ∧ E.scope.names.lookup x = some .local ∧ (px.line == cpos.line && !(scope.names.any fun (m, k) => m == x && (k == .local || k == .cell))) = true) fun hk =>
      (comp1 C L E elt gens scope S).bind fun p => (stoR E x (.ref p.1.1) p.1.2).bind fun S3 => onFrame S3.1 (p.1.1 + 1) fun ns vs hF => onIf ((S3.1.take (p.1.1 + 1)).all (okOB (p.1.1 + 1)) = true) fun hok =>
        some ⟨(.next, S3.1.take (p.1.1 + 1)), p.2.assign S3.2 hF hok fun env he => by rw [swaps_comp he, hk.1, hk.2.1, Bool.and_assoc, hk.2.2]; rfl⟩
noncomputable def stStep (st : Stmt) (S : List O) : Option {p : Fl × List O // Ex G n E st S p.1 p.2} := match st with
  | .Assign [.Name x px] (.ListComp elt gens scope cpos) pos => asgR C L E x px elt gens scope cpos pos S
  | .Assign [.Name x px] value pos => onIf (isCompE value = false) fun h => (L.ev E value S).bind fun p => (stoR E x p.1.1 p.1.2).map fun S2 => ⟨(.next, S2.1), Ex.assign p.2 S2.2 fun env he => swaps_any h _ _ _⟩
  | .If t b o pos => (tstR C L E t S).bind fun p => match p with
    | ⟨(true, S1), T⟩ => (exsR L E b S1).map fun q => ⟨q.1, Ex.if_t T q.2⟩
    | ⟨(false, S1), T⟩ => (exsR L E o S1).map fun q => ⟨q.1, Ex.if_f T q.2⟩
  | .While t b [] pos => (whlR C L E t b 200 S).map fun p => ⟨p.1, let ⟨m, h⟩ := p.2; Ex.while h⟩
  | .Return (some e) pos => (L.ev E e S).map fun p => ⟨(.ret p.1.1, p.1.2), Ex.ret p.2⟩
  | .Expr e pos => onIf (isCompE e = false) fun h => (L.ev E e S).map fun p => ⟨(.next, p.1.2), Ex.expr p.2 fun env => swaps_any h _ _ _⟩
  | _ => none
/-- the run, so many levels deep -/
noncomputable def lvl : Nat → Lvl G n
  | 0 => ⟨fun _ _ _ => none, fun _ _ _ => none⟩
  | k + 1 => ⟨fun E => evStep C (lvl k) E, fun E => stStep C (lvl k) E⟩
end
end Mine
namespace Mine
theorem bindL_at {k : Str → Option NameKind} : ∀ {bs : List (Str × Value)} {m : Str → Option Value} {x : Str}, (bs.map (·.1)).Nodup → k x = some .local → bindL k bs m x = (bs.lookup x).or (m x)
  | [], m, x, _, _ => rfl
  | (y, v) :: r, m, x, hn, hk => by
    have hn' := List.nodup_cons.mp hn
    rw [bindL, bindL_at hn'.2 hk, List.lookup_cons]
    by_cases q : x = y
    · subst q
      have : r.lookup x = none := List.lookup_eq_none_iff.mpr fun p hp => by simpa using fun e => hn'.1 (List.mem_map.mpr ⟨p, hp, e.symm⟩)
      rw [this, if_pos hk]; simp
    · have q' : (x == y) = false := beq_eq_false_iff_ne.mpr q
      rw [q']
      by_cases h : k y = some .local
      · rw [if_pos h, if_neg q]
      · rw [if_neg h]
theorem bindC_at {k : Str → Option NameKind} : ∀ {bs : List (Str × Value)} {m : Str → Option Value} {x : Str}, (bs.map (·.1)).Nodup → k x ≠ some .local → bindC k bs m x = (bs.lookup x).or (m x)
  | [], m, x, _, _ => rfl
  | (y, v) :: r, m, x, hn, hk => by
    have hn' := List.nodup_cons.mp hn
    rw [bindC, bindC_at hn'.2 hk, List.lookup_cons]
    by_cases q : x = y
    · subst q
      have : r.lookup x = none := List.lookup_eq_none_iff.mpr fun p hp => by simpa using fun e => hn'.1 (List.mem_map.mpr ⟨p, hp, e.symm⟩)
      rw [this, if_neg hk]; simp
    · have q' : (x == y) = false := beq_eq_false_iff_ne.mpr q
      rw [q']
      by_cases h : k y = some .local
      · rw [if_pos h]
      · rw [if_neg h, if_neg q]
theorem zip_look {ρ : List Addr} : ∀ {pn : List Str} {vs : List V} {xs : List Value} {x : Str}, RVs ρ vs xs → ROp ρ ((pn.zip vs).lookup x) ((pn.zip xs).lookup x)
  | [], _, _, _, _ => rfl
  | _ :: _, _, _, _, .nil => rfl
  | p :: pn, _, _, x, .cons (x := y) h r => by
    rw [List.zip_cons_cons, List.zip_cons_cons, List.lookup_cons, List.lookup_cons]
    cases x == p with
    | true => exact ⟨y, rfl, h⟩
    | false => exact zip_look r
noncomputable def cellNames (names : List (Str × NameKind)) : List Str := (names.filter fun y => y.2 == .cell).map (·.1)
theorem cells_in : ∀ {names : List (Str × NameKind)} {m : Nat} {acc : List (Str × Nat)} {p : Str × Nat}, p ∈ cellsFrom m names acc → p ∈ acc ∨ ∃ j, p.2 = m + j ∧ (cellNames names)[j]? = some p.1
  | [], m, acc, p, h => .inl h
  | (x, k) :: r, m, acc, p, h => by
    rw [cellsFrom] at h
    unfold cellNames
    cases q : k == NameKind.cell with
    | true =>
      rw [q, if_pos rfl] at h
      rw [List.filter_cons, if_pos q, List.map_cons]
      rcases cells_in h with h | ⟨j, h1, h2⟩
      · rcases List.mem_cons.mp h with rfl | h
        · exact .inr ⟨0, rfl, rfl⟩
        · exact .inl h
      · exact .inr ⟨j + 1, by omega, by rw [List.getElem?_cons_succ]; exact h2⟩
    | false =>
      rw [q] at h
      rw [List.filter_cons, if_neg (by simp [q])]
      exact cells_in h
theorem cells_move (d : Nat) : ∀ (names : List (Str × NameKind)) (m : Nat) (acc : List (Str × Nat)), cellsFrom (m + d) names (acc.map fun p => (p.1, p.2 + d)) = (cellsFrom m names acc).map fun p => (p.1, p.2 + d)
  | [], m, acc => rfl
  | (x, k) :: r, m, acc => by
    rw [cellsFrom, cellsFrom]
    cases k == NameKind.cell with
    | true =>
      have := cells_move d r (m + 1) ((x, m) :: acc)
      rw [show m + 1 + d = m + d + 1 by omega] at this
      exact this
    | false => exact cells_move d r m acc
theorem look_move {d : Nat} {x : Str} : ∀ {l : List (Str × Nat)} {k : Nat}, (l.map fun p => (p.1, p.2 + d)).lookup x = some k ↔ ∃ j, l.lookup x = some j ∧ k = j + d
  | [], k => by simp
  | (y, m) :: r, k => by
    rw [List.map_cons, List.lookup_cons, List.lookup_cons]
    cases x == y with
    | true => simp [eq_comm]
    | false => exact look_move
theorem mem_look {x : Str} {k : Nat} : ∀ {l : List (Str × Nat)}, l.lookup x = some k → (x, k) ∈ l
  | (y, m) :: r, h => by
    rw [List.lookup_cons] at h
    cases q : x == y with
    | true => rw [q] at h; cases h; rw [eq_of_beq q]; exact .head _
    | false => rw [q] at h; exact .tail _ (mem_look h)
theorem look_some {x : Str} {j : Nat} : ∀ {names : List (Str × NameKind)} {m : Nat} {acc : List (Str × Nat)}, (x ∈ acc.map (·.1) ∨ (cellNames names)[j]? = some x) → ∃ k, (cellsFrom m names acc).lookup x = some k := by
  intro names
  induction names generalizing j with
  | nil =>
    intro m acc h
    rcases h with h | h
    · obtain ⟨p, hp, rfl⟩ := List.mem_map.mp h
      cases q : (cellsFrom m [] acc).lookup p.1 with
      | some k => exact ⟨k, rfl⟩
      | none => exact absurd (List.lookup_eq_none_iff.mp q p hp) (by simp)
    · cases h
  | cons y r ih =>
    obtain ⟨y, k⟩ := y
    intro m acc h
    rw [cellsFrom]
    unfold cellNames at h
    rw [List.filter_cons] at h
    cases q : k == NameKind.cell with
    | true =>
      rw [if_pos q, List.map_cons] at h
      rw [if_pos rfl]
      rcases h with h | h
      · exact ih (.inl (.tail _ h)) (j := j)
      · cases j with
        | zero => cases h; exact ih (.inl (.head _)) (j := 0)
        | succ j => rw [List.getElem?_cons_succ] at h; exact ih (.inr h)
    | false =>
      rw [if_neg (by simp [q])] at h
      exact ih h
section
variable {G : Glo} {n : Nat} {S S1 S2 : List O} {ρ : List Addr} {s : Shared}
/-- an object that stands there already -/
theorem Sim.take (H : Sim G ρ S s) {a : Addr} {ob : Obj} {o : O} (ha : a ∉ ρ) (hb : G.h₀.get? a = none) (hlo : 2 < a) (e : s.heap.get? a = some ob) (r : RO (ρ ++ [a]) a o ob) : Sim G (ρ ++ [a]) (S ++ [o]) s := by
  refine ⟨H.keep, by simp [H.len], List.nodup_append.mpr ⟨H.nodup, by simp, fun x hx y hy => by rw [List.mem_singleton.mp hy]; rintro rfl; exact ha hx⟩, fun i x hi => ?_, fun b hb' => ?_, fun b hb' => ?_, H.os, H.gens, H.toks⟩
  · by_cases hl : i < S.length
    · rw [List.getElem?_append_left hl] at hi
      obtain ⟨b, ob', h1, h2, h3⟩ := H.own i x hi
      exact ⟨b, ob', get_mono (List.prefix_append ..) h1, h2, h3.mono (List.prefix_append ..)⟩
    · have hi' : i = S.length := by
        have := (List.getElem?_eq_some_iff.mp hi).1
        simp at this; omega
      subst hi'
      rw [List.getElem?_append_right (Nat.le_refl _), Nat.sub_self] at hi
      cases hi
      exact ⟨a, ob, by rw [← H.len]; simp, e, r⟩
  · rcases List.mem_append.mp hb' with h | h
    · exact H.new b h
    · rw [List.mem_singleton.mp h]; exact hb
  · rcases List.mem_append.mp hb' with h | h
    · exact H.low b h
    · rw [List.mem_singleton.mp h]; exact hlo
/-- cells in a row -/
theorem Sim.cells {cv : Nat → Option V} {cx : Nat → Option Value} {L : Addr} (hL : ∀ a ∈ ρ, a < L) (hb : ∀ b, L ≤ b → G.h₀.get? b = none) (hlo : 2 < L) (H : Sim G ρ S s) : ∀ k, (∀ j, j < k → s.heap.IsCell (L + j) (cx j) ∧ ROp ρ (cv j) (cx j)) →
    Sim G (ρ ++ (List.range k).map (L + ·)) (S ++ (List.range k).map fun j => .cell (cv j)) s
  | 0, _ => by simpa using H
  | k + 1, hk => by
    have ih := Sim.cells hL hb hlo H k fun j hj => hk j (Nat.lt_succ_of_lt hj)
    obtain ⟨⟨ob, e1, e2⟩, r⟩ := hk k (Nat.lt_succ_self k)
    have := ih.take (a := L + k) (o := .cell (cv k)) (fun q => by
      rcases List.mem_append.mp q with q | q
      · exact absurd (hL _ q) (Nat.not_lt.mpr (Nat.le_add_right _ _))
      · obtain ⟨j, hj, e⟩ := List.mem_map.mp q
        exact absurd (Nat.add_left_cancel e) (Nat.ne_of_lt (List.mem_range.mp hj))) (hb _ (Nat.le_add_right _ _)) (Nat.lt_of_lt_of_le hlo (Nat.le_add_right _ _)) e1 ⟨_, e2, r.mono (by rw [List.append_assoc]; exact List.prefix_append _ _)⟩
    rw [List.range_succ, List.map_append, List.map_append, ← List.append_assoc, ← List.append_assoc]
    exact this
theorem Cal.fnCT {name qual : Str} {params : Arguments} {body : List Stmt} {scope : Scope} {dV kV doc pm cdv ct oc : Value} {an od : Option Addr} {osl : Array (Option Value)} {f : Addr} {vs : List V} {fl : Fl} (pn ns : List Str)
    (ho : G.K.lookup f = some ⟨oc, od, .func (fnX name qual params body scope [] dV kV doc pm an cdv ct), osl⟩) (hcd : codeIn G.K cdv qual = true)
    (hbind : ∀ xs : List Value, xs.length = vs.length → bindArgs (fnX name qual params body scope [] dV kV doc pm an cdv ct) ⟨xs, []⟩ = pure (pn.zip xs))
    (hl : pn.length = vs.length) (hn : pn.Nodup) (hloc : ∀ x ∈ pn, scope.names.lookup x = some .local ∨ (scope.names.lookup x = some .cell ∧ x ∈ cellNames scope.names)) (hns : ∀ x ∈ ns, scope.names.lookup x = some .local) (hcn : ∀ x ∈ cellNames scope.names, scope.names.lookup x = some .cell) (hcu : (cellNames scope.names).Nodup)
    (hco : scope.isCoroutine = false) (hgen : scope.isGenerator = false) (hk : scope.kind = .function)
    (hb : Exs G n ⟨scope, S.length, cellsFrom (S.length + 1) scope.names []⟩ body (S ++ [.frame ns (ns.map fun x => (pn.zip vs).lookup x)] ++ (List.range (cellNames scope.names).length).map fun j => .cell (((cellNames scope.names)[j]?).bind fun x => (pn.zip vs).lookup x)) fl S1) : Cal G (n + 1) (.ext (.ref f)) vs S (resOf fl) S1 := by
  rintro A ρ s g xs hA hS rfl r Q k
  refine wpAny_call ?_
  have hlen : xs.length = vs.length := r.length
  have hz : ((pn.zip xs).map (·.1)) = pn := by rw [List.map_fst_zip (by omega)]
  have hzm : ∀ p ∈ pn.zip xs, p.1 ∈ pn := fun p hp => (List.of_mem_zip hp).1
  have e0 : ∀ m : Nat, cellsFrom m scope.names [] = (cellsFrom 0 scope.names []).map fun p => (p.1, p.2 + m) := fun m => by
    have := cells_move m scope.names 0 []
    rwa [Nat.zero_add] at this
  have hcell : ∀ {x : Str} {j : Nat}, (cellsFrom 0 scope.names []).lookup x = some j → (cellNames scope.names)[j]? = some x := fun {x j} h => by
    rcases cells_in (mem_look h) with h | ⟨i, h1, h2⟩
    · cases h
    · have : j = i := by simpa using h1
      rw [this]; exact h2
  refine codeAny_call_function (fd := fnX name qual params body scope [] dV kV doc pm an cdv ct) (body := body) (by have := hA.depth; omega) (G.X.keeps hS.keep _ _ ho) rfl hco hgen rfl (codeRec_of (G.X.keeps hS.keep) hcd) ?_
  rw [hbind xs hlen]
  refine wpAny_pure (wpAny_with_toks hS.toks (wpAny_newFunctionEnv_cells hk (fun p hp => ?_) fun env he s1 x ht => ?_))
  · rcases hloc _ (hzm p hp) with h | ⟨h, hm⟩
    · exact .inl h
    · obtain ⟨j, hj⟩ := List.getElem?_of_mem hm
      obtain ⟨k, hk⟩ := look_some (m := s.heap.objs.size + 1) (acc := []) (.inr hj)
      exact .inr ⟨h, by show ((cellsFrom (s.heap.objs.size + 1) scope.names []).lookup p.1).isSome = true; rw [hk]; rfl⟩
  replace he : env = callEnvC (fnX name qual params body scope [] dV kV doc pm an cdv ct) s.heap.objs.size f := he
  subst he
  refine ⟨(G.T.nolimit.keeps hS.keep).keeps x.toInCall.keep, codeAny_func ?_⟩
  obtain ⟨⟨⟨h', tk, es⟩, hns', kp, hfr⟩, hce, _, _⟩ := x
  subst es
  have hkl : ∀ y, (callEnvC (fnX name qual params body scope [] dV kV doc pm an cdv ct) s.heap.objs.size f).kindOf y = scope.names.lookup y := fun y => rfl
  obtain ⟨ob, es, ep, e1, e2, e3, e4⟩ := hns'
  have hS0 : ∀ t, G.lo ≤ t → Sim G (ρ ++ [s.heap.objs.size]) (S ++ [.frame ns (ns.map fun x => (pn.zip vs).lookup x)]) ⟨h', s.gens, s.drawn, t, s.os⟩ := fun t ht =>
    hS.add (s' := ⟨h', s.gens, s.drawn, t, s.os⟩) kp (get_size _) hS.big e1 ⟨es, ep, _, e2, e3, e4, fun i y hi => by
      rw [List.getElem?_map, hi]
      show ROp _ ((pn.zip vs).lookup y) _
      rw [bindL_at (by rw [hz]; exact hn) (hns y (List.mem_of_getElem? hi)), Option.or_none]
      exact zip_look (r.mono (List.prefix_append _ _))⟩ rfl rfl ht
  have hS1 : ∀ t, G.lo ≤ t → Sim G ((ρ ++ [s.heap.objs.size]) ++ (List.range (cellNames scope.names).length).map (s.heap.objs.size + 1 + ·)) ((S ++ [.frame ns (ns.map fun x => (pn.zip vs).lookup x)]) ++ (List.range (cellNames scope.names).length).map fun j => .cell (((cellNames scope.names)[j]?).bind fun x => (pn.zip vs).lookup x)) ⟨h', s.gens, s.drawn, t, s.os⟩ := fun t ht => by
    refine Sim.cells (cx := fun j => ((cellNames scope.names)[j]?).bind fun x => (pn.zip xs).lookup x) (L := s.heap.objs.size + 1) (fun b hb => ?_) (fun b hb => ?_) (Nat.lt_succ_of_lt hS.big) (hS0 t ht) _ fun j hj => ?_
    · rcases List.mem_append.mp hb with h | h
      · exact Nat.lt_succ_of_lt (hS.lt h)
      · rw [List.mem_singleton.mp h]; exact Nat.lt_succ_self _
    · cases q : G.h₀.get? b with
      | none => rfl
      | some o => exact absurd (Heap.lt_size (hS.keep _ _ q)) (Nat.not_lt.mpr (Nat.le_of_succ_le hb))
    · obtain ⟨y, hy⟩ : ∃ y, (cellNames scope.names)[j]? = some y := ⟨_, List.getElem?_eq_getElem hj⟩
      obtain ⟨k, hk⟩ := look_some (m := 0) (acc := []) (.inr hy)
      have hkj : k = j := nodup_get hcu (hcell hk) hy
      subst hkj
      have := hce y (s.heap.objs.size + 1 + k) (by
        show (cellsFrom (s.heap.objs.size + 1) scope.names []).lookup y = _
        rw [e0]; exact look_move.mpr ⟨k, hk, by omega⟩)
      rw [hy]
      refine ⟨?_, zip_look (r.mono (List.prefix_append _ _))⟩
      rw [bindC_at (by rw [hz]; exact hn) (by rw [hkl, hcn y (List.mem_of_getElem? hy)]; simp), Option.or_none] at this
      exact this
  have hE : EnvOk ⟨scope, S.length, cellsFrom (S.length + 1) scope.names []⟩ (callEnvC (fnX name qual params body scope [] dV kV doc pm an cdv ct) s.heap.objs.size f) ((ρ ++ [s.heap.objs.size]) ++ (List.range (cellNames scope.names).length).map (s.heap.objs.size + 1 + ·)) := by
    refine ⟨rfl, hk, ?_, fun y c hc => ?_, rfl, rfl⟩
    · show ((ρ ++ [s.heap.objs.size]) ++ _)[S.length]? = some s.heap.objs.size
      rw [← hS.len]; simp
    · replace hc : (cellsFrom (S.length + 1) scope.names []).lookup y = some c := hc
      rw [e0] at hc
      obtain ⟨j, hj, rfl⟩ := look_move.mp hc
      refine ⟨s.heap.objs.size + 1 + j, ?_, ?_⟩
      · show (cellsFrom (s.heap.objs.size + 1) scope.names []).lookup y = _
        rw [e0]; exact look_move.mpr ⟨j, hj, by omega⟩
      · have hlt := (List.getElem?_eq_some_iff.mp (hcell hj)).1
        rw [List.getElem?_append_right (by simp [hS.len])]
        have : j + (S.length + 1) - (ρ ++ [s.heap.objs.size]).length = j := by simp [hS.len]
        rw [this, List.getElem?_map, List.getElem?_range hlt]
        rfl
  have X0 : Ext ρ ((ρ ++ [s.heap.objs.size]) ++ (List.range (cellNames scope.names).length).map (s.heap.objs.size + 1 + ·)) s ⟨h', s.gens, s.drawn, tk, s.os⟩ := by
    refine ⟨by rw [List.append_assoc]; exact List.prefix_append _ _, fun b o _ e => kp b o e, fun b hb hn => ?_⟩
    have hge : s.heap.objs.size ≤ b := by
      rcases List.mem_append.mp hb with h | h
      · rcases List.mem_append.mp h with h | h
        · exact absurd h hn
        · rw [List.mem_singleton.mp h]; exact Nat.le_refl _
      · obtain ⟨j, _, rfl⟩ := List.mem_map.mp h
        exact Nat.le_trans (Nat.le_succ _) (Nat.le_add_right _ _)
    cases q : s.heap.get? b with
    | none => rfl
    | some o => exact absurd (Heap.lt_size q) (Nat.not_lt.mpr hge)
  refine wpAny_mono (hb _ _ _ _ (hA.deeper _) hE (hS1 _ ht) _ fun ρ1 s1 fl' x1 hS1 r1 => ?_) (fun _ _ x => x) fun _ _ x => x.elim
  have res : RV ρ1 (resOf fl) (valOf fl') := by
    cases fl with
    | next => cases r1; exact rfl
    | ret v => obtain ⟨y, rfl, ry⟩ := r1; exact ry
  refine k _ s1 _ (X0.trans x1) hS1 ?_
  clear r1
  cases fl' <;> exact res
theorem Cal.fnC {name qual : Str} {params : Arguments} {body : List Stmt} {scope : Scope} {dV kV doc pm cdv ct oc : Value} {an od : Option Addr} {osl : Array (Option Value)} {f : Addr} {vs : List V} {fl : Fl} {v' : V} {σ : List Nat} (pn ns : List Str)
    (ho : G.K.lookup f = some ⟨oc, od, .func (fnX name qual params body scope [] dV kV doc pm an cdv ct), osl⟩) (hcd : codeIn G.K cdv qual = true)
    (hbind : ∀ xs : List Value, xs.length = vs.length → bindArgs (fnX name qual params body scope [] dV kV doc pm an cdv ct) ⟨xs, []⟩ = pure (pn.zip xs))
    (hl : pn.length = vs.length) (hn : pn.Nodup) (hloc : ∀ x ∈ pn, scope.names.lookup x = some .local ∨ (scope.names.lookup x = some .cell ∧ x ∈ cellNames scope.names)) (hns : ∀ x ∈ ns, scope.names.lookup x = some .local) (hcn : ∀ x ∈ cellNames scope.names, scope.names.lookup x = some .cell) (hcu : (cellNames scope.names).Nodup)
    (hco : scope.isCoroutine = false) (hgen : scope.isGenerator = false) (hk : scope.kind = .function)
    (hb : Exs G n ⟨scope, S.length, cellsFrom (S.length + 1) scope.names []⟩ body (S ++ [.frame ns (ns.map fun x => (pn.zip vs).lookup x)] ++ (List.range (cellNames scope.names).length).map fun j => .cell (((cellNames scope.names)[j]?).bind fun x => (pn.zip vs).lookup x)) fl S1)
    (P : Part σ S2 S1) (hσ : ∀ i, i < S.length → σ[i]? = some i) (hv : mapV (at0 σ) v' = resOf fl) (hok : okV S2.length v') : Cal G (n + 1) (.ext (.ref f)) vs S v' S2 :=
  (Cal.fnCT pn ns ho hcd hbind hl hn hloc hns hcn hcu hco hgen hk hb).cut P hσ hv hok
end
end Mine
namespace Mine
/-- what the law's call stands on -/
structure LA where
  prog : Program
  w : World
  p : Program
  loose : List Str
  mg : Str → Option Value
  mb : Str → Option Value
  h₀ : Heap
  os : OsState
  X : (kHeap w.params).In h₀
  T : TopRead p loose mg mb h₀
  bm : Addr
  ob : Obj
  B : BMod h₀ mainGlobals mg bm ob
  noLen : h₀.get? 62 = none
  noStr : h₀.get? 69 = none
  file : ((prog.main.file : Str) == ("/claim/cut.py" : Str)) = true
  lo : Nat
  lo1 : 1 ≤ lo
  sup : (prog.main.scope.names.lookup ("super" : Str)).isSome = false
noncomputable def gl (a : LA) : Glo := ⟨a.prog, a.w, kHeap a.w.params, a.p, a.loose, a.mg, a.mb, a.h₀, a.os, a.X, a.T, a.lo⟩
theorem boot_all {x : Str} {v : Value} (h : ([("len", .builtin "len"), ("range", .type "range"), ("max", .builtin "max"), ("min", .builtin "min"), ("sum", .builtin "sum"), ("str", .type "str")] : List (Str × Value)).lookup x = some v) : bootBuiltins x = some v := by
  simp only [List.lookup_cons] at h
  repeat (first | (split at h; (rename_i q; rw [eq_of_beq q]; cases h; decide +kernel)) | cases h)
noncomputable def bltT : List (Str × Value) := [("len", .builtin "len"), ("range", .type "range"), ("max", .builtin "max"), ("min", .builtin "min"), ("sum", .builtin "sum"), ("str", .type "str")]
noncomputable def globR (a : LA) (x : Str) : Option {v : Value // (nsIn (gl a).K mainGlobals x = some (some v) ∨ nsIn (gl a).K mainGlobals x = some none ∧ bootBuiltins x = some v ∧ x ≠ "__name__") ∧ (x == ("__debug__" : Str)) = false} :=
  onIf (x ≠ "__name__" ∧ (x == ("__debug__" : Str)) = false) fun hd => onSome (nsIn (gl a).K mainGlobals x) fun o ho => match o, ho with
    | some v, ho => some ⟨v, .inl ho, hd.2⟩
    | none, ho => onSome (bltT.lookup x) fun v hv => some ⟨v, .inr ⟨ho, boot_all hv, hd.1⟩, hd.2⟩
theorem dict104 (a : LA) : DictK (gl a) 104 := ⟨⟨_, _, rfl, by
  show KeysLit _ (kTok0 _ ++ kTok1 _)
  repeat (first | exact trivial | refine ⟨⟨_, _, rfl, rfl⟩, ?_⟩)⟩, by decide⟩
noncomputable def dictR (a : LA) (d : Addr) (x : Str) : Option {r : Option Value // DictK (gl a) d ∧ nsIn (gl a).K d x = some r} :=
  onIf (d = 104) fun h => onSome (nsIn (gl a).K d x) fun r hr => some ⟨r, h ▸ dict104 a, hr⟩
noncomputable def C0 (a : LA) (n : Nat) : Cx (gl a) n := ⟨globR a, dictR a, fun _ _ _ => none⟩
/-- a call on nothing, on something -/
theorem Cal.on {G : Glo} {n : Nat} {f : Value} {vs : List V} {v : V} {S2 : List O} (h : Cal G n (.ext f) vs [] v S2) (hv : ∀ x ∈ vs, okV 0 x) (S : List O) : Cal G n (.ext f) vs S (mapV (S.length + ·) v) (S ++ S2.map (mapO (S.length + ·))) := by
  rintro A ρ s g xs hA hS rfl r
  have P : Part [] [] S := ⟨rfl, List.nodup_nil, fun k o e => by simp at e⟩
  have e0 : (fun k => lift [] S.length k) = (S.length + ·) := funext fun k => by unfold lift; rw [if_neg (by simp)]; simp
  have := Run.frame (b' := mapV (S.length + ·) v) P hS (fun ρ1 ρ2 a hk hr => by rw [← e0]; exact hr.up hk) (h A _ s g xs hA (P.sim hS) rfl (RVs.down (ρ' := ρ) (m := 0) (f := id) (fun k a hk _ => absurd hk (Nat.not_lt_zero _)) hv (by
    have : vs.map (mapV id) = vs := map_eq_self fun v _ => by cases v <;> rfl
    rw [this]; exact r)))
  unfold framed at this
  unfold putAll at this
  rw [show lift [] S.length = (S.length + ·) from e0] at this
  simpa using this
theorem okOB_ints {m : Nat} {ns : List Int} : okOB m (.list (vInts ns)) = true := List.all_eq_true.mpr fun v hv => by
  obtain ⟨i, _, rfl⟩ := List.mem_map.mp hv
  rfl
section
variable (a : LA) (n : Nat)
/-- _law_numbers, run -/
noncomputable def numsR (x : Str) : Option {ns : List Int // Cal (gl a) (n + 1) (.ext (.ref 134)) [.str x] [] (.ref 0) [.list (vInts ns)]} :=
  (exsR (lvl (C0 a n) 30) ⟨scopeD (stAt 58), 0, []⟩ (bodyD (stAt 58)) [.frame (([("text" : Str)] : List Str) ++ ([("numbers" : Str), ("at" : Str), ("size" : Str)] : List Str)) (startVals [.str x] ["numbers", "at", "size"])]).bind fun p => match p with
    | ⟨(.ret v, S1), h⟩ => onRef v fun r hr => onList S1 r fun xs hx => onInts xs fun ns hn => some ⟨ns, Cal.fn ["text"] ["numbers", "at", "size"] (σ := [r]) (S := []) rfl (by kernel_rfl)
        (fun s xs h _ => BindsTo.of_eq (match xs, h with | [y], _ => rfl)) rfl (by decide) (by decide +kernel) (by decide +kernel) (by kernel_rfl) (by kernel_rfl) (by kernel_rfl) h
        (part_one (m := 0) (Nat.zero_le _) rfl (hn ▸ hx) okOB_ints (Nat.zero_le _)) (fun i hi => absurd hi (Nat.not_lt_zero _)) (by rw [hr]; rfl) Nat.zero_lt_one⟩
    | _ => none
/-- the calls of _law_numbers -/
noncomputable def callN (f : Value) (vs : List V) (S : List O) : Option {p : V × List O // Cal (gl a) (n + 1) (.ext f) vs S p.1 p.2 ∧ isKept (gl a).K f = true} := match f, vs with
  | .ref d, [.str x] => onIf (d = 134) fun h => (numsR a n x).map fun r => ⟨(.ref S.length, S ++ [.list (vInts r.1)]), by
      have := Cal.on r.2 (fun v hv => by rw [List.mem_singleton.mp hv]; trivial) S
      rw [List.map_singleton, mapO_id (m := 0) (fun k hk => absurd hk (Nat.not_lt_zero _)) (okOB_of okOB_ints)] at this
      exact h ▸ this, by rw [h]; kernel_rfl⟩
  | _, _ => none
noncomputable def C1 : Cx (gl a) (n + 1) := ⟨globR a, dictR a, callN a n⟩
/-- _law_figures, run -/
noncomputable def figsR (x : Str) (k : Int) : Option {r : Int // Cal (gl a) (n + 2) (.ext (.ref 141)) [.str x, .int k] [] (.int r) []} :=
  (exsR (lvl (C1 a n) 30) ⟨scopeD (stAt 59), 0, []⟩ (bodyD (stAt 59)) [.frame (([("sign" : Str), ("size" : Str)] : List Str) ++ ([("alone" : Str), ("code" : Str), ("weight" : Str), ("numbers" : Str)] : List Str)) (startVals [.str x, .int k] [("alone" : Str), ("code" : Str), ("weight" : Str), ("numbers" : Str)])]).bind fun p => match p with
    | ⟨(.ret v, S1), h⟩ => onInt v fun r hr => some ⟨r, Cal.fn [("sign" : Str), ("size" : Str)] [("alone" : Str), ("code" : Str), ("weight" : Str), ("numbers" : Str)] (σ := []) (S := []) rfl (by kernel_rfl)
        (fun s xs h _ => BindsTo.of_eq (match xs, h with | [y, z], _ => rfl)) rfl (by decide) (by decide +kernel) (by decide +kernel) (by kernel_rfl) (by kernel_rfl) (by kernel_rfl) h
        (part_take (m := 0) (Nat.zero_le _) rfl) (fun i hi => absurd hi (Nat.not_lt_zero _)) (by rw [hr]; rfl) trivial⟩
    | _ => none
end
end Mine
namespace Mine
/-- the accumulator's own dict -/
noncomputable def AccD (P : Params) (_ : Addr) (o : Obj) : Prop := ∃ t1 t2 ep, o = ({ cls := .type "dict", data := .dict #[⟨PyData.keyHash P "_initial_size", .str "_initial_size" t1, .int 0 t2⟩] ep } : Obj)
section
variable {a : LA} {n : Nat} {S S1 S2 : List O} {ρ : List Addr} {s : Shared}
theorem acc_at (H : Sim (gl a) ρ S s) {i d : Nat} {xs : List V} (e : S[i]? = some (.acc 99 d xs)) (e' : S[d]? = some (.obj (AccD a.w.params))) :
    ∃ x dx ws m od, ρ[i]? = some x ∧ ρ[d]? = some dx ∧ s.heap.get? x = some ({ cls := .ref 99, dict := some dx, data := .seq ws m } : Obj) ∧ RVs ρ xs ws.toList ∧ AccD a.w.params dx od ∧ s.heap.get? dx = some od ∧ InstAt s.heap x ({ cls := .ref 99, dict := some dx, data := .seq ws m } : Obj) 99 (some od) := by
  obtain ⟨x, ob, h1, h2, ws, m, dx, rfl, h3, h4⟩ := H.own _ _ e
  obtain ⟨dx', od, g1, g2, g3⟩ := H.own _ _ e'
  rw [h3] at g1; cases g1
  exact ⟨x, dx, ws, m, od, h1, h3, h2, h4, g3, g2, h2, rfl, rfl, g2⟩
theorem Sim.K (H : Sim (gl a) ρ S s) : (kHeap a.w.params).In s.heap := a.X.keeps H.keep
variable {A : Around} {E : Value → Shared → Prop} {x : Addr} {ox od : Obj}
/-- a method's name on the accumulator -/
theorem acc_method {name : Str} {pl : Sem Bool} {f : Value} {t : Value} {Q : Value × List Value → Shared → Prop} (X : (kHeap a.w.params).In s.heap) (I : InstAt s.heap x ox 99 (some od))
    (hf : findIn (kHeap a.w.params) (.ref 99) name = some (some f)) (ht : typeIn (kHeap a.w.params) f = some t) (htt : (t != .type "function" && t != .type "method_descriptor" && t != .type "wrapper_descriptor") = false) (hs : lookIn name od = some none) (h : Q (f, [.ref x]) s) :
    wpAny (model a.prog a.w) A (getMethod (.ref x) name pl) Q E s := by
  unfold getMethod specialOf
  refine wpAny_bind (wpAny_bind (I.type.here ((looks_findIn X (show findIn (kHeap a.w.params) (.ref 99) "__getattribute__" = some (some (.builtin "list.__getattribute__")) by kernel_rfl)).here ?_)))
  dsimp only
  rw [canon_list_getattribute, if_neg Bool.false_ne_true]
  refine wpAny_bind (wpAny_bind (I.type.here ((looks_findIn X (show findIn (kHeap a.w.params) (.ref 99) "__getattr__" = some none by kernel_rfl)).here ?_)))
  refine wpAny_bind (wpAny_bind (I.type.here ((looks_findIn X hf).here (wpAny_bind ((looks_typeIn X ht).here ?_)))))
  rw [if_neg (by rw [htt]; exact Bool.false_ne_true)]
  refine wpAny_bind (wpAny_loadPart I.at_ ?_)
  have hd := I.dict
  cases e : ox.dict with
  | none => rw [e] at hd; exact hd.elim
  | some dx =>
    rw [e] at hd
    refine wpAny_bind (wpAny_bind (wpAny_loadPart hd ?_))
    rw [nsLook_of hs]
    exact wpAny_pure (wpAny_bind (wpAny_rule (wpAny_pure h)))
theorem AccD.look {dx : Addr} (h : AccD a.w.params dx od) {name : Str} (hn : (name == ("_initial_size" : Str)) = false) : lookIn name od = some none := by
  obtain ⟨t1, t2, ep, rfl⟩ := h
  have : (Value.str "_initial_size" t1).isStr name = false := by
    show (("_initial_size" : Str) == name) = false
    rw [BEq.comm]; exact hn
  unfold lookIn
  simp [this, DictEntry.refKey]
theorem Mth.acc {i d : Nat} {xs : List V} {name : Str} {f t : Value} (e : S[i]? = some (.acc 99 d xs)) (e' : S[d]? = some (.obj (AccD a.w.params))) (hf : findIn (kHeap a.w.params) (.ref 99) name = some (some f)) (ht : typeIn (kHeap a.w.params) f = some t)
    (htt : (t != .type "function" && t != .type "method_descriptor" && t != .type "wrapper_descriptor") = false) (hn : (name == ("_initial_size" : Str)) = false) : Mth (gl a) n (.ref i) name S f [.ref i] := by
  rintro A ρ s _ pl Q hA hS ⟨x, hx, rfl⟩ k
  obtain ⟨x', dx, ws, m, od, h1, h2, h3, h4, h5, h6, I⟩ := acc_at hS e e'
  rw [hx] at h1; cases h1
  exact acc_method hS.K I hf ht htt (h5.look hn) (k _ (.one ⟨x, hx, rfl⟩))
-- a built-in of list's on it
theorem isList (X : (kHeap a.w.params).In s.heap) (I : InstAt s.heap x ox 99 (some od)) {M : Model} : Looks M s.heap (isInstance (.ref x) (.type "list")) true :=
  I.type.andThen (looks_subIn X (show subIn (kHeap a.w.params) (.ref 99) (.type "list") = some true by kernel_rfl))
theorem acc_builtin {id nm : String} {b : Builtin} {rest : List Value} {Q : Value → Shared → Prop} (X : (kHeap a.w.params).In s.heap) (I : InstAt s.heap x ox 99 (some od)) (hk : builtinKind id = some .slot ∨ builtinKind id = some .method) (hs : splitId id = some ("list", nm)) (hp : plainId id = true) (hb : entryFor table id = some b)
    (ha : argsOk id ⟨.ref x :: rest, []⟩) (hc : wpAny (model a.prog a.w) A.in1 (b ⟨.ref x :: rest, []⟩) (fun fin s' => ∃ v, fin = .done (.ret v) ∧ Q v s') E s) : wpAny (model a.prog a.w) A (call (.builtin id) (.ref x :: rest)) Q E s := by
  have body : wpAny (model a.prog a.w) A.in1 (b ⟨.ref x :: rest, []⟩) (fun fin s' => match fin with | .done f => (match (.ok f : Result) with | .ok (.ret v) => Q v s' | .ok _ => False | .error e => E e s') | .again c' => c'.quiet = true ∧ codeAny (model a.prog a.w) A c' (fun r s' => match r with | .ok (.ret v) => Q v s' | .ok _ => False | .error e => E e s') s') E s :=
    wpAny_mono hc (fun fin s' h' => by obtain ⟨v, rfl, hv⟩ := h'; exact hv) fun _ _ h' => h'
  refine wpAny_call (codeAny_call_builtin hp hb ?_)
  rcases hk with hk | hk
  · exact check_slot hk hs (isList X I) ha body
  · simp only [checkBuiltinCall, hk, hs]
    refine wpAny_bind ((isList X I).here ?_)
    simp only [Bool.not_true, Bool.false_eq_true, if_false]
    cases hsig : Manifest.signature? id with
    | none => exact wpAny_pure body
    | some sig =>
      simp only [argsOk, hsig] at ha
      have h2 : Bind.checkArgs id sig ⟨.ref x :: rest, []⟩ = pure () := ha
      show wpAny _ _ (Bind.checkArgs id sig ⟨.ref x :: rest, []⟩) _ _ s
      rw [h2]; exact wpAny_pure body
/-- the accumulator's rows change -/
theorem Sim.accUpd (H : Sim (gl a) ρ S s) {i d : Nat} {xs ys : List V} {x dx : Addr} {ws : Array Value} {m : Nat} (e : S[i]? = some (.acc 99 d xs)) (hx : ρ[i]? = some x) (hd : ρ[d]? = some dx) {s' : Shared} (k : ∀ b z, b ≠ x → s.heap.get? b = some z → s'.heap.get? b = some z)
    (hg : s'.heap.get? x = some ({ cls := .ref 99, dict := some dx, data := .seq ws m } : Obj)) (r : RVs ρ ys ws.toList) (h1 : s'.gens = s.gens) (h2 : s'.os = s.os) (ht : a.lo ≤ s'.toks) : Sim (gl a) ρ (S.set i (.acc 99 d ys)) s' :=
  H.upd e hx k hg ⟨ws, m, dx, rfl, hd, r⟩ h1 h2 ht
theorem Cal.accAppend {i d : Nat} {xs : List V} {y : V} (e : S[i]? = some (.acc 99 d xs)) (e' : S[d]? = some (.obj (AccD a.w.params))) (hl : xs.length ≤ sizeLine) : Cal (gl a) n (.ext (.builtin "list.append")) [.ref i, y] S .none (S.set i (.acc 99 d (xs ++ [y]))) := by
  rintro A ρ s g ys hA hS rfl r
  cases r with
  | cons r1 r2 => cases r2 with
    | @cons _ v _ _ r2 r3 => cases r3 with
      | nil =>
        obtain ⟨x, hx, rfl⟩ := r1
        obtain ⟨x', dx, ws, m, od, h1, h2, h3, h4, h5, h6, I⟩ := acc_at hS e e'
        rw [hx] at h1; cases h1
        refine Run.mk hS fun Q k => acc_builtin (nm := "append") hS.K I (.inr (by decide +kernel)) (by decide +kernel) (by decide +kernel) entry_list_append (args_list_append _ _) ?_
        show wpAny _ _ (updateSeq x (·.push v) >>= fun _ => ret .none) _ _ s
        have hq : (s.heap.update x (Obj.mapSeq (·.push v))).get? x = some ({ cls := .ref 99, dict := some dx, data := .seq (ws.push v) (m + 1) } : Obj) := by
          rw [Heap.get?_update_self _ h3 (by simp [Obj.mapSeq]; rfl)]
          simp [Obj.mapSeq]
        have hsz : ws.size ≤ sizeLine := by have := h4.length; simp at this; omega
        refine wpAny_bind (wpAny_updateSeq (hz := hsz) (_hz' := by rw [Array.size_push]; omega) h3 rfl (wpAny_pure ⟨.none, rfl, ?_⟩))
        have hs := Heap.SameBut.update s.heap x (Obj.mapSeq (·.push v))
        have kp : ∀ b z, b ≠ x → s.heap.get? b = some z → (s.heap.update x (Obj.mapSeq (·.push v))).get? b = some z := fun b z hb ez => (hs.2 b hb).trans ez
        exact k ρ _ _ (Ext.upd (List.mem_of_getElem? hx) kp) (fun ht => hS.accUpd e hx h2 kp hq (by rw [Array.toList_push]; exact h4.append (.one r2)) rfl rfl ht) rfl
end
end Mine
namespace Mine
section
variable {a : LA} {n : Nat} {S S1 S2 S3 : List O} {ρ : List Addr} {s : Shared} {A : Around} {E : Value → Shared → Prop} {x sl : Addr} {ox od : Obj}
/-- a special method of list's on the accumulator -/
theorem acc_special {name : Str} {id : String} {args : List Value} {Q : Option Value → Shared → Prop} (X : (kHeap a.w.params).In s.heap) (I : InstAt s.heap x ox 99 (some od)) (hf : findIn (kHeap a.w.params) (.ref 99) name = some (some (.builtin id)))
    (hb : bindSpecial (.builtin id) (.ref x) = pure (.builtin id, [.ref x])) (h : wpAny (model a.prog a.w) A (call (.builtin id) (.ref x :: args)) (fun v => Q (some v)) E s) : wpAny (model a.prog a.w) A (callSpecial? (.ref x) name args) Q E s := by
  unfold callSpecial? specialOf
  refine wpAny_bind (wpAny_bind (I.type.here ((looks_findIn X hf).here (wpAny_holding ?_))))
  rw [hb]
  exact wpAny_bind (wpAny_pure (wpAny_bind (wpAny_mono h (fun _ _ z => wpAny_pure z) fun _ _ z => z)))
theorem acc_key {k : Value} {name : Str} {Q : Value → Shared → Prop} (X : (kHeap a.w.params).In s.heap) (I : InstAt s.heap x ox 99 (some od)) (h : Q k s) : wpAny (model a.prog a.w) A (sequenceKey (.ref x) k name) Q E s := by
  unfold sequenceKey
  refine wpAny_bind (I.type.here (wpAny_bind ((anyM_none X (show noSeq (kHeap a.w.params) 99 = true by kernel_rfl)).here ?_)))
  rw [if_pos (show (!false) = true from rfl)]
  exact wpAny_pure h
theorem sub_slice {Q : Option Int → Shared → Prop} {M : Model} (hT : s.TypeIs (.ref sl) "slice") (h : Q none s) : wpAny M A (Builtin.List.listSubscript? (.ref sl)) Q E s := by
  unfold Builtin.List.listSubscript?
  refine wpAny_bind (wpAny_specialOf hT slice_no_index ?_)
  exact wpAny_pure h
theorem slice_parts {vl vu : Value} {lo hi : Option Int} {Q : Value × Value × Value → Shared → Prop} {M : Model} (hs : s.heap.IsSliceOf sl vl vu .none) (pl : IsPart vl lo) (pu : IsPart vu hi) (h : Q (rawPart lo, rawPart hi, rawPart none) s) : wpAny M A (Builtin.List.listSliceParts (.ref sl)) Q E s := by
  obtain ⟨os, hos, hcs, hds⟩ := hs
  rw [listSliceParts_eq]
  refine wpAny_bind (wpAny_field hos hds (x := .none) rfl (wpAny_bind (wpAny_listPart .none ?_)))
  rw [if_neg (show ¬ ((rawPart none == rawInt 0) = true) from Bool.false_ne_true)]
  refine wpAny_bind (wpAny_field hos hds (x := vl) rfl (wpAny_bind (wpAny_listPart pl ?_)))
  exact wpAny_bind (wpAny_field hos hds (x := vu) rfl (wpAny_bind (wpAny_listPart pu (wpAny_pure h))))
theorem acc_items {ws : Array Value} {m : Nat} {o : Obj} {Q : Array Value → Shared → Prop} {M : Model} (ho : s.heap.get? x = some o) (hd : o.data = .seq ws m) (h : Q ws s) : wpAny M A (Builtin.List.listItems (.ref x)) Q E s := by
  unfold Builtin.List.listItems
  exact wpAny_bind (wpAny_seqItems ho hd (wpAny_pure h))
theorem acc_getSlice {ws : Array Value} {m : Nat} {vl vu : Value} {lo hi : Option Int} {Q : Value → Shared → Prop} (X : (kHeap a.w.params).In s.heap) (I : InstAt s.heap x ox 99 (some od)) (hd : ox.data = .seq ws m) (hs : s.heap.IsSliceOf sl vl vu .none) (pl : IsPart vl lo) (pu : IsPart vu hi) (hsz : ws.size ≤ sizeLine)
    (h : Q (.ref s.heap.objs.size) { s with heap := s.heap.push { cls := .type "list", data := .seq (slicePick ws lo hi none) } }) : wpAny (model a.prog a.w) A (getItem (.ref x) (.ref sl)) Q E s := by
  have hT : s.TypeIs (.ref sl) "slice" := let ⟨o, ho, hc, _⟩ := hs; ⟨o, ho, hc⟩
  unfold getItem
  refine wpAny_holding (wpAny_bind (acc_key X I (wpAny_bind (acc_special X I (show findIn (kHeap a.w.params) (.ref 99) "__getitem__" = some (some (.builtin "list.__getitem__")) by kernel_rfl) (slot_list_getitem.bind _) ?_))))
  refine acc_builtin (nm := "__getitem__") X I (.inr (by decide +kernel)) (by decide +kernel) (by decide +kernel) entry_list_getitem (args_list_getitem _ _) ?_
  show wpAny _ _ (Builtin.List.listSubscript? (.ref sl) >>= _) _ _ s
  refine wpAny_bind (sub_slice hT ?_)
  show wpAny _ _ (typeOf (.ref sl) >>= _) _ _ s
  refine wpAny_bind (wpAny_typeOf hT ?_)
  rw [if_neg (by decide)]
  refine wpAny_bind (slice_parts hs pl pu (wpAny_bind (acc_items I.at_ hd (wpAny_bind (wpAny_of_eq (sliceIndices_raw lo hi none ws.size (by simp)) ?_)))))
  exact wpAny_bind (wpAny_newObj_type (wpAny_pure ⟨_, rfl, wpAny_pure h⟩) (Nat.le_trans (slicePick_size_le ws lo hi none) hsz))
theorem acc_tail {value slice : Expr} {o i : Value} {L : List Value} {Q : Value → Shared → Prop} (X : (kHeap a.w.params).In s.heap) (I : InstAt s.heap x ox 99 (some od)) (h : wpAny (model a.prog a.w) A (getItem (.ref x) i) Q E s)
    (hs : subscripted slice false (.ref x) i = operate L (getItem (.ref x) i)) : wpAny (model a.prog a.w) A (subscriptTail value slice (.ref x) i) Q E s := by
  unfold subscriptTail
  refine wpAny_bind ?_
  rw [getitemInPython_of_ne (by simp)]
  unfold specialOf
  refine wpAny_bind (wpAny_bind (I.type.here ((looks_findIn X (show findIn (kHeap a.w.params) (.ref 99) "__getitem__" = some (some (.builtin "list.__getitem__")) by kernel_rfl)).here ?_)))
  refine wpAny_pure (wpAny_bind ?_)
  rw [hs]
  exact wpAny_operating (wpAny_mono h (fun r s₃ h₃ => wpAny_bind (go_any (wpAny_pure h₃))) fun _ _ x => x)
theorem Ev.accSlice {E : AEnv} {value : Expr} {lower upper : Option Expr} {p pos : Pos} {i d : Nat} {xs : List V} {lo hi : Option Int} (h1 : Ev (gl a) n E value S (.ref i) S1) (h2 : EvP (gl a) n E lower S1 lo S2) (h3 : EvP (gl a) n E upper S2 hi S3) (e : S3[i]? = some (.acc 99 d xs)) (e' : S3[d]? = some (.obj (AccD a.w.params))) (hl : xs.length ≤ sizeLine) :
    Ev (gl a) n E (.Subscript value (.Slice lower upper Option.none p) pos) S (.ref S3.length) (S3 ++ [.list (cutOf xs lo hi)]) := by
  intro A env ρ s hA hE hS
  refine Run.mk hS fun Q c => ?_
  refine Subscript_ (h1 A env ρ s hA hE hS _ fun ρ1 s1 x x1 hS1 r1 => wpAny_Slice (h2.run hA (hE.mono x1.pre) hS1 _ fun ρ2 s2 v2 x2 hS2 r2 => h3.run hA (hE.mono (x1.trans x2).pre) hS2 _ fun ρ3 s3 b x3 hS3 r3 => ?_))
  obtain ⟨qa, rfl, rfl⟩ := r2
  obtain ⟨qb, rfl, rfl⟩ := r3
  obtain ⟨l, hl1, rfl⟩ := r1
  obtain ⟨x', dx, ws, m, od, g1, g2, g3, g4, g5, g6, I⟩ := acc_at hS3 e e'
  rw [get_mono (x2.trans x3).pre hl1] at g1; cases g1
  rw [evalPart_none]
  have kp : ∀ b o, s3.heap.get? b = some o → (s3.heap.push { cls := .type "slice", data := .fields #[partValue qa, partValue qb, .none] }).get? b = some o := fun b o e => Heap.get?_push_of_some _ e
  have hx : Sim (gl a) ρ3 S3 { s3 with heap := s3.heap.push { cls := .type "slice", data := .fields #[partValue qa, partValue qb, .none] } } := hS3.keeps kp rfl rfl hS3.toks
  have e2 : ws.size = xs.length := by rw [← g4.length]; simp
  have I2 : InstAt (s3.heap.push { cls := .type "slice", data := .fields #[partValue qa, partValue qb, .none] }) l ({ cls := .ref 99, dict := some dx, data := .seq ws m } : Obj) 99 (some od) := ⟨kp _ _ g3, rfl, rfl, kp _ _ g6⟩
  refine wpAny_pure (acc_tail (o := .ref l) hx.K I2 (acc_getSlice hx.K I2 rfl (Heap.IsSliceOf.new ..) isPart_of isPart_of (by omega) ?_) (slice_subscripted _ _ _ _ _ _))
  have sz : (s3.heap.push { cls := .type "slice", data := .fields #[partValue qa, partValue qb, .none] }).objs.size = s3.heap.objs.size + 1 := Heap.size_push ..
  rw [Heap.size_push]
  have X : Ext ρ3 (ρ3 ++ [(s3.heap.push { cls := .type "slice", data := .fields #[partValue qa, partValue qb, .none] }).objs.size]) s3 { s3 with heap := (s3.heap.push { cls := .type "slice", data := .fields #[partValue qa, partValue qb, .none] }).push { cls := .type "list", data := .seq (slicePick ws (qa.map (·.1)) (qb.map (·.1)) Option.none) } } :=
    (Ext.keeps (s' := { s3 with heap := s3.heap.push { cls := .type "slice", data := .fields #[partValue qa, partValue qb, .none] } }) kp).trans (Ext.push (s := { s3 with heap := s3.heap.push { cls := .type "slice", data := .fields #[partValue qa, partValue qb, .none] } }) rfl)
  rw [sz] at X
  refine c _ _ _ (((x1.trans x2).trans x3).trans X) (fun ht => ?_) ⟨_, ?_, rfl⟩
  · have := hx.push (s' := { s3 with heap := (s3.heap.push { cls := .type "slice", data := .fields #[partValue qa, partValue qb, .none] }).push { cls := .type "list", data := .seq (slicePick ws (qa.map (·.1)) (qb.map (·.1)) Option.none) } }) (o := .list (cutOf xs (qa.map (·.1)) (qb.map (·.1)))) rfl rfl ⟨_, 0, rfl, ?_⟩ rfl rfl ht
    · rw [sz] at this; exact this
    · rw [slicePick_plain]
      show RVs _ (cutOf xs _ _) (List.take _ (List.drop _ ws.toList))
      unfold cutOf
      rw [e2]
      exact ((g4.mono (List.prefix_append _ _)).drop _).take _
  · rw [← hS3.len]; simp
theorem extract_take (ws : Array Value) (k : Nat) : (ws.extract 0 k ++ #[] ++ ws.extract (max k ws.size) ws.size).toList = ws.toList.take k := by
  simp
  omega
theorem acc_cut {ws : Array Value} {m : Nat} {dx l : Addr} {vl : Value} {k : Nat} {Q : Unit → Shared → Prop} (X : (kHeap a.w.params).In s.heap) (I : InstAt s.heap x ({ cls := .ref 99, dict := some dx, data := .seq ws m } : Obj) 99 (some od)) (hs : s.heap.IsSliceOf sl vl .none .none) (pl : IsPart vl (some (k : Int)))
    (hv : s.heap.IsList l #[]) (hk : k ≤ ws.size) (hsz : ws.size ≤ sizeLine)
    (h : ∀ h' ws' m', h'.get? x = some ({ cls := .ref 99, dict := some dx, data := .seq ws' m' } : Obj) → ws'.toList = ws.toList.take k → Heap.SameBut x s.heap h' → Q () { s with heap := h' }) : wpAny (model a.prog a.w) A (setItem (.ref x) (.ref sl) (.ref l)) Q E s := by
  have hT : s.TypeIs (.ref sl) "slice" := let ⟨o, ho, hc, _⟩ := hs; ⟨o, ho, hc⟩
  have hxl : x ≠ l := by
    rintro rfl
    obtain ⟨o, ho, hc, _⟩ := hv
    rw [I.at_] at ho; cases ho; cases hc
  unfold setItem
  refine wpAny_holding (wpAny_bind (acc_key X I (wpAny_bind (acc_special X I (show findIn (kHeap a.w.params) (.ref 99) "__setitem__" = some (some (.builtin "list.__setitem__")) by kernel_rfl) (slot_list_setitem.bind _) ?_))))
  refine acc_builtin (nm := "__setitem__") X I (.inl (by decide +kernel)) (by decide +kernel) (by decide +kernel) entry_list_setitem (args_list_setitem _ _ _) ?_
  show wpAny _ _ (Builtin.List.listSubscript? (.ref sl) >>= _) _ _ s
  refine wpAny_bind (sub_slice hT ?_)
  show wpAny _ _ (typeOf (.ref sl) >>= _) _ _ s
  refine wpAny_bind (wpAny_typeOf hT ?_)
  rw [if_neg (by decide)]
  refine wpAny_bind (slice_parts hs pl .none ?_)
  obtain ⟨ol, hol, hcl, nl, hdl⟩ := hv
  have hsame : Builtin.List.listSameRef (.ref x) (.ref l) = false := by show (x == l) = false; exact beq_eq_false_iff_ne.mpr hxl
  dsimp only
  rw [hsame]
  have hall : wpAny (model a.prog a.w) A.in1 (Builtin.List.listAllItems (.ref l) "must assign iterable to extended slice") (fun vs s' => vs = #[] ∧ s' = s) E s := by
    unfold Builtin.List.listAllItems
    refine wpAny_bind (wpAny_typeOf (T := "list") ⟨ol, hol, hcl⟩ ?_)
    rw [if_pos (by decide)]
    exact acc_items hol hdl ⟨rfl, rfl⟩
  refine wpAny_bind (wpAny_mono hall (fun vs s' hv => ?_) fun _ _ z => z)
  obtain ⟨rfl, rfl⟩ := hv
  refine wpAny_bind (acc_items I.at_ rfl (wpAny_bind (wpAny_of_eq (sliceIndices_raw (some (k : Int)) none none ws.size (by simp)) ?_)))
  have hb : sliceBounds (some (k : Int)) none none ws.size = ((k : Int), (ws.size : Int), 1) := by
    rw [sliceBounds_plain]
    simp only [Option.elim, clipAt_nat, Nat.min_eq_left hk]
  rw [hb]
  dsimp only
  rw [if_pos (by decide)]
  refine wpAny_bind (wpAny_rule ?_)
  have htl : Builtin.List.listTooLong (ws.size + (#[] : Array Value).size) = false := decide_eq_false (by simp; exact hsz)
  rw [htl, if_neg Bool.false_ne_true]
  have hext : (ws.extract 0 k ++ #[] ++ ws.extract (max (k : Int) ws.size).toNat ws.size).toList = ws.toList.take k := by
    have : (max (k : Int) ws.size).toNat = max k ws.size := by omega
    rw [this]; exact extract_take ws k
  have hle : (ws.extract 0 k ++ #[] ++ ws.extract (max (k : Int) ws.size).toNat ws.size).size ≤ sizeLine + 1 := by
    rw [← Array.length_toList, hext, List.length_take]
    simp; omega
  refine wpAny_bind (wpAny_updateSeq (f := fun xs => xs.extract 0 (k : Int).toNat ++ #[] ++ xs.extract (max (k : Int) ws.size).toNat xs.size) (hz := hsz) (_hz' := hle) I.at_ rfl (wpAny_bind (wpAny_letGo (wpAny_pure ⟨.none, rfl, wpAny_pure ?_⟩))))
  have hget := Heap.get?_update_self (h := s'.heap) (Obj.mapSeq fun xs => xs.extract 0 (k : Int).toNat ++ #[] ++ xs.extract (max (k : Int) ws.size).toNat xs.size) I.at_ rfl
  exact h _ _ _ hget hext (Heap.SameBut.update ..)
theorem Ex.accCut {E : AEnv} {o value : Expr} {lower : Expr} {p pos pos' : Pos} {i d l : Nat} {xs : List V} {k : Nat} (h1 : Ev (gl a) n E value S (.ref l) S1) (h2 : Ev (gl a) n E o S1 (.ref i) S2) (h3 : Ev (gl a) n E lower S2 (.int k) S3) (e : S3[i]? = some (.acc 99 d xs)) (e' : S3[d]? = some (.obj (AccD a.w.params))) (el : S3[l]? = some (.list []))
    (hl : xs.length ≤ sizeLine) (hk : k ≤ xs.length) (hs : ∀ env : Env, swapsWith value (some (.Subscript o (.Slice (some lower) Option.none Option.none p) pos')) pos.line env = pure false := by (intro _; rfl)) :
    Ex (gl a) n E (.Assign [.Subscript o (.Slice (some lower) Option.none Option.none p) pos'] value pos) S .next (S3.set i (.acc 99 d (xs.take k))) := by
  intro A env ρ s hA hE hS
  refine Run.mk hS fun Q c => ?_
  refine wpAny_Assign_Subscript (h1 A env ρ s hA hE hS _ fun ρ1 s1 v x1 hS1 r1 => h2 A env ρ1 s1 hA (hE.mono x1.pre) hS1 _ fun ρ2 s2 y x2 hS2 r2 => wpAny_Slice (evalPart_some_step (h3 A env ρ2 s2 hA (hE.mono (x1.trans x2).pre) hS2 _ fun ρ3 s3 z x3 hS3 r3 => ?_))) (hs env)
  refine evalPart_none_step (evalPart_none_step ?_)
  obtain ⟨vl, hvl, rfl⟩ := r1
  obtain ⟨l', hl1, rfl⟩ := r2
  obtain ⟨t, rfl⟩ := r3
  obtain ⟨x', dx, ws, m, od, g1, g2, g3, g4, g5, g6, I⟩ := acc_at hS3 e e'
  have hx3 := get_mono x3.pre hl1
  rw [hx3] at g1; cases g1
  obtain ⟨l2, wl, ml, q1, q2, q3⟩ := list_at hS3 el
  rw [get_mono (x2.trans x3).pre hvl] at q1; cases q1
  cases wl with | mk wl =>
  cases q3
  have kp : ∀ b o, s3.heap.get? b = some o → (s3.heap.push { cls := .type "slice", data := .fields #[.int k t, .none, .none] }).get? b = some o := fun b o e => Heap.get?_push_of_some _ e
  have hx : Sim (gl a) ρ3 S3 { s3 with heap := s3.heap.push { cls := .type "slice", data := .fields #[.int k t, .none, .none] } } := hS3.keeps kp rfl rfl hS3.toks
  have e2 : ws.size = xs.length := by rw [← g4.length]; simp
  have I2 : InstAt (s3.heap.push { cls := .type "slice", data := .fields #[.int k t, .none, .none] }) l' ({ cls := .ref 99, dict := some dx, data := .seq ws m } : Obj) 99 (some od) := ⟨kp _ _ g3, rfl, rfl, kp _ _ g6⟩
  refine acc_cut hx.K I2 (Heap.IsSliceOf.new ..) (.int _ _) (isList_of (kp _ _ q2)) (by omega) (by omega) fun h' ws' m' hg hw hsb => ?_
  have kp2 : ∀ b z, b ≠ l' → s3.heap.get? b = some z → h'.get? b = some z := fun b z hb ez => (hsb.2 b hb).trans (kp b z ez)
  exact c ρ3 _ _ (((x1.trans x2).trans x3).trans (Ext.upd (List.mem_of_getElem? hx3) kp2)) (fun ht => hS3.accUpd e hx3 g2 kp2 hg (by rw [hw]; exact g4.take k) rfl rfl ht) rfl
end
end Mine
namespace Mine
section
variable {ρ : List Addr}
theorem RV.ok {v : V} {x : Value} (h : RV ρ v x) : okV ρ.length v := by
  cases v with
  | ref k => obtain ⟨b, h1, _⟩ := h; exact (List.getElem?_eq_some_iff.mp h1).1
  | _ => trivial
theorem RVs.ok {vs : List V} {xs : List Value} (h : RVs ρ vs xs) : ∀ v ∈ vs, okV ρ.length v := by
  induction h with
  | nil => exact fun v hv => nomatch hv
  | cons a _ ih =>
    intro v hv
    rcases List.mem_cons.mp hv with rfl | hv
    · exact a.ok
    · exact ih v hv
theorem ROp.ok {v : Option V} {x : Option Value} (h : ROp ρ v x) : ∀ y ∈ v, okV ρ.length y := by
  cases v with
  | none => exact fun y hy => nomatch hy
  | some v => obtain ⟨y, _, r⟩ := h; exact fun z hz => by cases hz; exact r.ok
end
section
variable {G : Glo} {n : Nat} {S S1 S2 : List O} {ρ : List Addr} {s : Shared}
/-- frames: as many cells as names -/
theorem Sim.closed (H : Sim G ρ S s) (hf : ∀ ns vs, O.frame ns vs ∈ S → vs.length ≤ ns.length) : ∀ o ∈ S, okO S.length o := by
  intro o ho
  obtain ⟨i, hi⟩ := List.getElem?_of_mem ho
  obtain ⟨x, ob, h1, h2, r⟩ := H.own i o hi
  rw [← H.len]
  cases o with
  | list xs => obtain ⟨ws, m, _, r⟩ := r; exact r.ok
  | tup xs => obtain ⟨ws, m, _, r⟩ := r; exact r.ok
  | cell v => obtain ⟨w, _, r⟩ := r; exact r.ok
  | frame ns vs =>
    obtain ⟨es, ep, m, _, _, _, r⟩ := r
    intro v hv y hy
    obtain ⟨j, hj⟩ := List.getElem?_of_mem hv
    have hjl : j < ns.length := Nat.lt_of_lt_of_le (List.getElem?_eq_some_iff.mp hj).1 (hf ns vs ho)
    have := r j _ (List.getElem?_eq_getElem hjl)
    rw [hj] at this
    exact this.ok y hy
  | acc C d xs =>
    obtain ⟨ws, m, b, _, h4, r⟩ := r
    exact ⟨(List.getElem?_eq_some_iff.mp h4).1, r.ok⟩
  | obj P => trivial
/-- frames in order, as they always are here -/
noncomputable def framesOk (S : List O) : Prop := ∀ ns vs, O.frame ns vs ∈ S → vs.length ≤ ns.length
theorem Cal.closed {f : V} {vs : List V} {v : V} (hf : framesOk S) (h : (∀ o ∈ S, okO S.length o) → Cal G n f vs S v S1) : Cal G n f vs S v S1 := fun A ρ s g xs hA hS => h (hS.closed hf) A ρ s g xs hA hS
theorem part_push {i d : Nat} {xs ys : List V} {fr : O} (hc : ∀ o ∈ S, okO S.length o) (hi : S[i]? = some (.acc 99 d xs)) (hys : ∀ v ∈ ys, okV S.length v) :
    Part (List.range S.length ++ [S.length + 1]) (S.set i (O.acc 99 d (xs ++ [V.ref S.length])) ++ [O.tup ys]) ((S ++ [fr] ++ [O.tup ys]).set i (O.acc 99 d (xs ++ [V.ref (S.length + 1)]))) := by
  have hil := (List.getElem?_eq_some_iff.mp hi).1
  have hf : ∀ j, j < S.length → at0 (List.range S.length ++ [S.length + 1]) j = j := fun j hj => at0_of (by rw [List.getElem?_append_left (by rw [List.length_range]; exact hj), List.getElem?_range hj])
  have hm : at0 (List.range S.length ++ [S.length + 1]) S.length = S.length + 1 := at0_of (by rw [List.getElem?_append_right (by simp)]; simp)
  have hacc := hc _ (List.mem_of_getElem? hi)
  refine ⟨by simp, List.nodup_append.mpr ⟨List.nodup_range, by simp, fun a ha b hb => ?_⟩, fun k o e => ?_⟩
  · have := List.mem_range.mp ha
    rw [List.mem_singleton.mp hb]; omega
  · have hL : (S.set i (.acc 99 d (xs ++ [.ref S.length])) ++ [O.tup ys]).length = S.length + 1 := by simp
    rw [hL]
    by_cases hk : k < S.length
    · rw [List.getElem?_append_left (by simpa using hk)] at e
      rw [hf k hk]
      by_cases q : k = i
      · subst q
        rw [List.getElem?_set_self hk] at e; cases e
        refine ⟨⟨Nat.lt_succ_of_lt hacc.1, fun v hv => ?_⟩, ?_⟩
        · rcases List.mem_append.mp hv with h | h
          · exact okV_mono (Nat.le_succ _) (hacc.2 v h)
          · rw [List.mem_singleton.mp h]; exact Nat.lt_succ_self _
        · rw [List.getElem?_set_self (by simp; omega)]
          show some _ = some (O.acc 99 (at0 _ d) ((xs ++ [V.ref S.length]).map (mapV _)))
          rw [hf d hacc.1, List.map_append, mapL_id hf hacc.2]
          show _ = some (O.acc 99 d (xs ++ [V.ref (at0 _ S.length)]))
          rw [hm]
      · rw [List.getElem?_set_ne (fun z => q z.symm)] at e
        have ho := hc o (List.mem_of_getElem? e)
        refine ⟨okO_mono (Nat.le_succ _) ho, ?_⟩
        rw [mapO_id hf ho, List.getElem?_set_ne (fun z => q z.symm), List.append_assoc, List.getElem?_append_left hk]
        exact e
    · rw [List.getElem?_append_right (by simpa using Nat.le_of_not_lt hk)] at e
      have hk' : k = S.length := by
        have := (List.getElem?_eq_some_iff.mp e).1
        simp at this; omega
      subst hk'
      simp at e
      subst e
      refine ⟨fun v hv => okV_mono (Nat.le_succ _) (hys v hv), ?_⟩
      rw [hm, List.getElem?_set_ne (by omega), List.getElem?_append_right (by simp)]
      show _ = some (O.tup (ys.map (mapV _)))
      rw [mapL_id hf hys]; simp
end
section
variable {a : LA} {n : Nat} {S S1 S2 : List O}
theorem frame_top {S : List O} {o : O} : (S ++ [o])[S.length]? = some o := by simp
theorem at_old {S : List O} {l : List O} {i : Nat} {o : O} (h : S[i]? = some o) : (S ++ l)[i]? = some o := by rw [List.getElem?_append_left (List.getElem?_eq_some_iff.mp h).1]; exact h
theorem Cal.push {i d : Nat} {xs : List V} {b m : V} (e : S[i]? = some (.acc 99 d xs)) (e' : S[d]? = some (.obj (AccD a.w.params))) (hl : xs.length ≤ sizeLine) (hf : framesOk S) (hb : okV S.length b) (hm : okV S.length m) :
    Cal (gl a) (n + 1) (.ext (.ref 45)) [.ref i, b, m] S .none (S.set i (.acc 99 d (xs ++ [.ref S.length])) ++ [.tup [b, m]]) := by
  refine Cal.closed hf fun hc => ?_
  have hbody : Exs (gl a) n ⟨scopeD (inAt 3 1), S.length, []⟩ (bodyD (inAt 3 1)) (S ++ [.frame ([("self" : Str), ("fws" : Str), ("string" : Str)] ++ []) (startVals [.ref i, b, m] [])]) .next ((S ++ [O.frame ([("self" : Str), ("fws" : Str), ("string" : Str)] ++ []) (startVals [.ref i, b, m] [])] ++ [O.tup [b, m]]).set i (O.acc 99 d (xs ++ [V.ref (S.length + 1)]))) := by
    refine Exs.cons (Ex.expr (Ev.meth _ (Ev.loc 0 (by kernel_rfl) frame_top rfl rfl) (Mth.acc (f := .builtin "list.append") (t := .type "method_descriptor") (at_old e) (at_old e') (by kernel_rfl) (by kernel_rfl) (by decide) (by decide +kernel)) (Evs.cons (Ev.tup (Evs.cons (Ev.loc 1 (by kernel_rfl) frame_top rfl rfl) (Evs.cons (Ev.loc 2 (by kernel_rfl) frame_top rfl rfl) Evs.nil)) (sizeOk (by simp))) Evs.nil)
      (Cal.accAppend (at_old (at_old e)) (at_old (at_old e')) hl) rfl)) ?_
    simp only [List.length_append, List.length_singleton]
    exact Exs.nil
  refine Cal.fn [("self" : Str), ("fws" : Str), ("string" : Str)] [] (σ := List.range S.length ++ [S.length + 1]) rfl (by kernel_rfl) (fun s xs h _ => BindsTo.of_eq (match xs, h with | [y, z, w], _ => rfl)) rfl (by decide) (by decide +kernel) (by decide +kernel) (by kernel_rfl) (by kernel_rfl) (by kernel_rfl) hbody
    (part_push hc e (fun v hv => by
      rcases List.mem_cons.mp hv with rfl | hv
      · exact hb
      · rw [List.mem_singleton.mp hv]; exact hm)) (fun j hj => getD_range' hj) rfl trivial
theorem okVB_iff {m : Nat} {v : V} (h : okV m v) : okVB m v = true := by
  cases v with
  | ref k => exact decide_eq_true h
  | _ => rfl
theorem okOB_iff {m : Nat} {o : O} (h : okO m o) : okOB m o = true := by
  cases o with
  | list xs => exact List.all_eq_true.mpr fun v hv => okVB_iff (h v hv)
  | tup xs => exact List.all_eq_true.mpr fun v hv => okVB_iff (h v hv)
  | cell v => cases v with
    | none => rfl
    | some v => exact okVB_iff (h v rfl)
  | frame ns vs =>
    refine List.all_eq_true.mpr fun v hv => ?_
    cases v with
    | none => rfl
    | some v => exact okVB_iff (h _ hv v rfl)
  | acc C d xs => exact Bool.and_eq_true_iff.mpr ⟨decide_eq_true h.1, List.all_eq_true.mpr fun v hv => okVB_iff (h.2 v hv)⟩
  | obj P => rfl
theorem cut_from {xs : List V} {k : Nat} (h : k ≤ xs.length) : cutOf xs (some (k : Int)) none = xs.drop k := by
  unfold cutOf
  show List.take (xs.length - clipAt xs.length k) (xs.drop (clipAt xs.length k)) = _
  rw [clipAt_nat, Nat.min_eq_left h, List.take_of_length_le (by simp)]
theorem set_closed {S : List O} {i m : Nat} {o : O} (hc : ∀ o ∈ S, okO m o) (ho : okO m o) : ∀ x ∈ S.set i o, okO m x := fun x hx => by
  rcases List.mem_or_eq_of_mem_set hx with h | rfl
  · exact hc x h
  · exact ho
/-- a part of what a call leaves: its caller's state, and one more -/
theorem part_res {S1 T : List O} {r : Nat} {o : O} (hT : S1.take T.length = T) (hc : ∀ x ∈ T, okO T.length x) (hr : S1[r]? = some o) (ho : okO T.length o) (hm : T.length ≤ r) : Part (List.range T.length ++ [r]) (T ++ [o]) S1 := by
  have hl : T.length ≤ S1.length := Nat.le_of_lt (Nat.lt_of_le_of_lt hm (List.getElem?_eq_some_iff.mp hr).1)
  have := part_one (m := T.length) hl (List.all_eq_true.mpr fun x hx => okOB_iff (hc x (hT ▸ hx))) hr (okOB_iff ho) hm
  rwa [hT] at this
theorem part_top {S1 T : List O} (hT : S1.take T.length = T) (hl : T.length ≤ S1.length) (hc : ∀ x ∈ T, okO T.length x) : Part (List.range T.length) T S1 := by
  have := part_take (m := T.length) hl (List.all_eq_true.mpr fun x hx => okOB_iff (hc x (hT ▸ hx)))
  rwa [hT] at this
theorem Ex.to {G : Glo} {n : Nat} {E : AEnv} {st : Stmt} {S S1 S2 : List O} {f : Fl} (h : Ex G n E st S f S1) (e : S1 = S2) : Ex G n E st S f S2 := e ▸ h
theorem top_at {S : List O} (o : O) (l : List O) : (S ++ o :: l)[S.length]? = some o := by simp
theorem Cal.popFrom {i d k : Nat} {xs : List V} (e : S[i]? = some (.acc 99 d xs)) (e' : S[d]? = some (.obj (AccD a.w.params))) (hl : xs.length ≤ 1000) (hk : k ≤ xs.length) (hf : framesOk S) :
    Cal (gl a) (n + 1) (.ext (.ref 53)) [.ref i, .int k] S (.ref S.length) (S.set i (.acc 99 d (xs.take k)) ++ [.list (xs.drop k)]) := by
  refine Cal.closed hf fun hc => ?_
  have hil := (List.getElem?_eq_some_iff.mp e).1
  have hacc := hc _ (List.mem_of_getElem? e)
  have hid : i ≠ d := by rintro rfl; rw [e] at e'; cases e'
  have hbody : Exs (gl a) n ⟨scopeD (inAt 3 2), S.length, []⟩ (bodyD (inAt 3 2)) (S ++ [.frame ([("self" : Str), ("i" : Str)] ++ [("popped" : Str)]) (startVals [.ref i, .int k] [("popped" : Str)])]) (.ret (.ref (S.length + 1)))
      ((S ++ [O.frame [("self" : Str), ("i" : Str), ("popped" : Str)] [some (.ref i), some (.int k), some (.ref (S.length + 1))], O.list (xs.drop k), O.list []]).set i (O.acc 99 d (xs.take k))) := by
    have e3 : (S ++ [O.frame [("self" : Str), ("i" : Str), ("popped" : Str)] [some (.ref i), some (.int k), some (.ref (S.length + 1))], O.list (xs.drop k)] ++ [O.list []]) = S ++ [O.frame [("self" : Str), ("i" : Str), ("popped" : Str)] [some (.ref i), some (.int k), some (.ref (S.length + 1))], O.list (xs.drop k), O.list []] := by simp
    refine Exs.cons (S1 := S ++ [O.frame [("self" : Str), ("i" : Str), ("popped" : Str)] [some (.ref i), some (.int k), some (.ref (S.length + 1))], O.list (xs.drop k)]) ?_ (Exs.cons (S1 := (S ++ [O.frame [("self" : Str), ("i" : Str), ("popped" : Str)] [some (.ref i), some (.int k), some (.ref (S.length + 1))], O.list (xs.drop k), O.list []]).set i (O.acc 99 d (xs.take k))) ?_ (Exs.stop (Ex.ret (Ev.loc 2 (by kernel_rfl) (ns := [("self" : Str), ("i" : Str), ("popped" : Str)]) (vs := [some (.ref i), some (.int k), some (.ref (S.length + 1))]) (by rw [List.getElem?_set_ne (Nat.ne_of_lt hil)]; exact top_at _ _) rfl rfl))))
    · refine Ex.to (Ex.assign (Ev.accSlice (i := i) (Ev.loc 0 (by kernel_rfl) frame_top rfl rfl) (.some (Ev.loc 1 (by kernel_rfl) frame_top rfl rfl)) .none (at_old e) (at_old e') (sizeOk hl)) (Sto.loc (ns := [("self" : Str), ("i" : Str), ("popped" : Str)]) 2 (by kernel_rfl) (at_old frame_top) rfl (by decide) rfl)) ?_
      rw [cut_from hk]
      simp [startVals, List.set_append]
    · refine Ex.to (Ex.accCut (Ev.list Evs.nil (by decide)) (Ev.loc 0 (by kernel_rfl) (at_old (top_at _ _)) rfl rfl) (Ev.loc 1 (by kernel_rfl) (at_old (top_at _ _)) rfl rfl) (at_old (at_old e)) (at_old (at_old e')) (by simp) (sizeOk hl) hk) ?_
      rw [e3]
  refine Cal.fn [("self" : Str), ("i" : Str)] [("popped" : Str)] (σ := List.range S.length ++ [S.length + 1]) rfl (by kernel_rfl) (fun s xs h X => match xs, h with | [y, z], _ => BindsTo.of_defaults (T := 46) (o := { cls := .type "tuple", data := .seq #[.int 0 229] }) rfl (X _ _ (by kernel_rfl)) rfl rfl rfl) rfl (by decide) (by decide +kernel) (by decide +kernel) (by kernel_rfl) (by kernel_rfl) (by kernel_rfl) hbody ?_ (fun j hj => getD_range' hj) ?_ ?_
  · have hT : (S.set i (O.acc 99 d (xs.take k))).length = S.length := by simp
    have := part_res (S1 := (S ++ [O.frame [("self" : Str), ("i" : Str), ("popped" : Str)] [some (.ref i), some (.int k), some (.ref (S.length + 1))], O.list (xs.drop k), O.list []]).set i (O.acc 99 d (xs.take k))) (T := S.set i (O.acc 99 d (xs.take k))) (r := S.length + 1) (o := O.list (xs.drop k)) (by
        rw [hT, List.set_append_left _ _ hil, List.take_append_of_le_length (by simp), List.take_of_length_le (by simp)]) (hT ▸ set_closed hc ⟨hacc.1, fun v hv => hacc.2 v (List.mem_of_mem_take hv)⟩) (by
        rw [List.getElem?_set_ne (by omega), List.getElem?_append_right (by omega)]; simp) (hT ▸ fun v hv => hacc.2 v (List.mem_of_mem_drop hv)) (by rw [hT]; omega)
    rwa [hT] at this
  · show V.ref (at0 _ S.length) = V.ref (S.length + 1)
    rw [show at0 (List.range S.length ++ [S.length + 1]) S.length = S.length + 1 from at0_of (by rw [List.getElem?_append_right (by simp)]; simp)]
  · show S.length < _
    simp
end
end Mine
namespace Mine
/-- items stand under x, whatever its class is -/
noncomputable def Seq (h : Heap) (x : Addr) (ws : Array Value) : Prop := ∃ o m, h.get? x = some o ∧ o.data = .seq ws m
theorem Seq.at {h h' : Heap} {x : Addr} {ws : Array Value} (q : Seq h x ws) (k : ∀ o, h.get? x = some o → h'.get? x = some o) : Seq h' x ws := let ⟨o, m, h1, h2⟩ := q; ⟨o, m, k o h1, h2⟩
section
variable {prog : Program} {w : World} {A : Around} {E : Value → Shared → Prop} {s : Shared} {I x : Addr} {i : Nat} {ws : Array Value}
theorem seq_item {v : Value} {Q : Option Value → Shared → Prop} (hit : s.heap.IsListIter I x i) (hl : Seq s.heap x ws) (hx : ws[i]? = some v) (hQ : ∀ h', h'.IsListIter I x (i + 1) → Heap.SameBut I s.heap h' → Q (some v) { s with heap := h' }) : wpAny (model prog w) A (pyNext (.ref I)) Q E s := by
  obtain ⟨o, ho, hc, hd⟩ := id hit
  obtain ⟨ol, nl, hol, hdl⟩ := hl
  unfold pyNext
  refine wpAny_bind (wpAny_attempt (wpAny_callSpecial?_slot (name := Str.ofString "__next__") hit.typeIs slot_listiter_next (wpAny_call_entry slot_listiter_next hit.typeIs entry_listiter_next ?_ (args_listiter_next _))))
  show wpAny _ _ (field (.ref I) 0 >>= _) _ _ s
  refine wpAny_bind (wpAny_field ho hd (x := .ref x) rfl ?_)
  show wpAny _ _ (if (Value.ref x == Value.none) = true then _ else _) _ _ s
  rw [if_neg (show ¬ ((Value.ref x == Value.none) = true) from Bool.false_ne_true)]
  refine wpAny_bind (wpAny_field ho hd (x := .int i 0) rfl (wpAny_bind (wpAny_seqItems hol hdl ?_)))
  simp only [Int.toNat_natCast, hx]
  refine wpAny_bind (wpAny_setField ho hd (by simp) (wpAny_pure ⟨v, rfl, wpAny_pure (hQ _ ?_ (Heap.SameBut.update ..))⟩))
  exact ⟨_, Heap.get?_update_self _ ho (Obj.isFreed_of_fields (Obj.data_mapFields hd _)), (Obj.cls_mapFields ..).trans hc, by rw [Obj.data_mapFields hd]; simp [rawInt]⟩
theorem seq_end {Q : Option Value → Shared → Prop} (hh : A.handled = none) (hit : s.heap.IsListIter I x i) (hl : Seq s.heap x ws) (hx : ws[i]? = none) (hQ : ∀ h', Heap.ExtBut I s.heap h' → Q none { s with heap := h' }) : wpAny (model prog w) A (pyNext (.ref I)) Q E s := by
  obtain ⟨o, ho, hc, hd⟩ := id hit
  obtain ⟨ol, nl, hol, hdl⟩ := hl
  unfold pyNext
  refine wpAny_bind (wpAny_attempt (wpAny_callSpecial?_slot (name := Str.ofString "__next__") hit.typeIs slot_listiter_next (wpAny_call_entry slot_listiter_next hit.typeIs entry_listiter_next ?_ (args_listiter_next _))))
  show wpAny _ _ (field (.ref I) 0 >>= _) _ _ s
  refine wpAny_bind (wpAny_field ho hd (x := .ref x) rfl ?_)
  show wpAny _ _ (if (Value.ref x == Value.none) = true then _ else _) _ _ s
  rw [if_neg (show ¬ ((Value.ref x == Value.none) = true) from Bool.false_ne_true)]
  refine wpAny_bind (wpAny_field ho hd (x := .int i 0) rfl (wpAny_bind (wpAny_seqItems hol hdl ?_)))
  simp only [Int.toNat_natCast, hx]
  refine wpAny_bind (wpAny_rule (wpAny_bind (wpAny_setField ho hd (by simp) ?_)))
  refine wpAny_bind ?_
  simp only [newExc, newTuple]
  refine wpAny_bind (wpAny_newObj_type ?_ (by size_fits))
  refine wpAny_bind (m := firstArgMember _ _) (wpAny_of_eq (a := Value.none) (by first | rfl | (simp only [firstArgMember]; rfl)) ?_)
  refine wpAny_newObj_type ?_ (by size_fits)
  simp only [raiseNew]
  refine wpAny_bind (wpAny_handled ?_)
  rw [show A.in1.handled = none from hh]
  refine wpAny_bind (wpAny_pure (wpAny_throw ?_))
  refine wpAny_bind (wpAny_isInstance (T := "StopIteration") (b := true) ⟨_, Heap.get?_push_size _ rfl, rfl⟩ isSubtype_stop ?_)
  exact wpAny_pure (hQ _ (((Heap.SameBut.update ..).extBut.push _).push _))
theorem walks_seq (hh : A.handled = none) (hne : x ≠ I) (Ts : Nat → Addr) (vals : Nat → Array Value) (hit : ∀ j, j < ws.size → ws[j]? = some (.ref (Ts j))) (hTI : ∀ j, j < ws.size → Ts j ≠ I) :
    WalksU prog w A I (I :: x :: (List.range ws.size).map Ts) [I] ws.size (fun j v => v = vals j)
      (fun j h => h.IsListIter I x j ∧ Seq h x ws ∧ ∀ k, k < ws.size → h.IsTuple (Ts k) (vals k))
      (fun j T h => (j < ws.size ∧ T = Ts j) ∧ h.IsListIter I x (j + 1) ∧ Seq h x ws ∧ ∀ k, k < ws.size → h.IsTuple (Ts k) (vals k)) where
  sub := fun b hb => by simp at hb; simp [hb]
  frame := fun _ _ _ st hk => ⟨st.1.at fun o e => hk I (by simp) o e, st.2.1.at fun o e => hk x (by simp) o e,
    fun k hk' => (st.2.2 k hk').at fun o e => hk (Ts k) (List.mem_cons_of_mem _ (List.mem_cons_of_mem _ (List.mem_map.mpr ⟨k, List.mem_range.mpr hk', rfl⟩))) o e⟩
  item := fun i s Q E hi st hQ => by
    refine seq_item st.1 st.2.1 (hit i hi) fun h' hit' hs' => ?_
    have tup : ∀ k, k < ws.size → h'.IsTuple (Ts k) (vals k) := fun k hk' => (st.2.2 k hk').extBut hs'.extBut (hTI k hk')
    exact hQ (Ts i) (vals i) h' s.toks rfl (tup i hi) ⟨⟨hi, rfl⟩, hit', st.2.1.at fun o e => hs'.extBut _ o hne e, tup⟩ fun b o hb e => hs'.extBut b o (fun h => hb (by simp [h])) e
  go := fun _ _ _ _ _ s Q _ hm hQ => wpAny_letOwnedTupleGo_listiter hm.2.1 (hQ s.heap hm.2 fun _ _ _ e => e)
  apart := fun j T _ hm hmem => hTI j hm.1.1 (hm.1.2 ▸ List.mem_singleton.mp hmem)
  done := fun s Q E st hQ => seq_end hh st.1 st.2.1 (by simp) fun h' he' => hQ h' s.toks fun b o hb e => he' b o (fun h => hb (by simp [h])) e
  self := fun _ _ _ _ st hQ => wpAny_pyIter_listiter st.1 hQ
end
section
variable {a : LA} {s : Shared} {A : Around} {E : Value → Shared → Prop} {x : Addr} {ox od : Obj}
theorem acc_iter {Q : Value → Shared → Prop} (X : (kHeap a.w.params).In s.heap) (I : InstAt s.heap x ox 99 (some od)) (h : Q (.ref s.heap.objs.size) { s with heap := s.heap.push { cls := .type "list_iterator", data := .fields #[.ref x, .int 0 0] } }) :
    wpAny (model a.prog a.w) A (pyIter (.ref x)) Q E s := by
  have hf : findIn (kHeap a.w.params) (.ref 99) "__iter__" = some (some (.builtin "list.__iter__")) := by kernel_rfl
  unfold pyIter specialOf
  refine wpAny_bind (wpAny_bind (I.type.here ((looks_findIn X hf).here ?_)))
  show wpAny _ A (callSpecialIfBoundUnlessNone? (.ref x) "__iter__" _ >>= _) Q E s
  refine wpAny_bind ?_
  simp only [callSpecialIfBoundUnlessNone?, bindSpecialIfBound?, specialOf]
  refine wpAny_holding (wpAny_bind (wpAny_bind (wpAny_bind (I.type.here ((looks_findIn X hf).here ?_)))))
  simp only [slot_list_iter.bind]
  refine wpAny_bind (wpAny_askSetting (wpAny_ite ?_))
  have ne : (Value.builtin "list.__iter__" == Value.none) = false := by decide
  have main : wpAny (model a.prog a.w) A (call (.builtin "list.__iter__") [.ref x]) (fun it s' => wpAny (model a.prog a.w) A (specialOf it "__next__") (fun r s'' => ∃ f, r = some f ∧ Q it s'') E s') E s := by
    refine acc_builtin (nm := "__iter__") X I (.inl (by decide +kernel)) (by decide +kernel) (by decide +kernel) entry_list_iter (args_list_iter _) ?_
    show wpAny _ _ (newFields "list_iterator" [.ref x, rawInt 0] >>= ret) _ _ s
    exact wpAny_bind (wpAny_newObj_type (wpAny_pure ⟨_, rfl, wpAny_specialOf ⟨_, Heap.get?_push_size _ rfl, rfl⟩ slot_listiter_next.lookup ⟨_, rfl, h⟩⟩))
  have fin : wpAny (model a.prog a.w) A (if (Value.builtin "list.__iter__" == Value.none) = true then ((do rule "iter.none"; raiseError "TypeError" s!"'{← typeNameOf (.ref x)}' object is not iterable" : Sem Value) >>= fun v => pure (some v)) else (call (.builtin "list.__iter__") [.ref x] >>= fun v => pure (some v))) (fun o s' => wpAny (model a.prog a.w) A (match o with
      | some it => (do match ← specialOf it "__next__" with
        | none => rule "iter.non-iterator"; raiseError "TypeError" s!"iter() returned non-iterator of type '{← typeNameOf it}'"
        | some _ => pure it : Sem Value)
      | none => (do match ← bindSpecialIfBound? (.ref x) "__getitem__" with
        | none => rule "iter.not-iterable"; raiseError "TypeError" s!"'{← typeNameOf (.ref x)}' object is not iterable"
        | some _ => rule "iter.getitem-fallback"; newFields "iterator" [.ref x, ← mkInt 0])) Q E s') E s := by
    rw [ne, if_neg Bool.false_ne_true]
    refine wpAny_bind (wpAny_mono main (fun it s' h' => wpAny_pure (wpAny_bind (wpAny_mono h' (fun r s'' h'' => ?_) fun _ _ z => z))) fun _ _ z => z)
    obtain ⟨f, rfl, hq⟩ := h''
    exact wpAny_pure hq
  split
  · exact wpAny_bind (wpAny_pure (wpAny_pure fin))
  · exact wpAny_tryCatch (wpAny_bind (wpAny_pure (wpAny_pure fin)))
end
end Mine
namespace Mine
section
variable {a : LA} {s : Shared} {A : Around} {E : Value → Shared → Prop} {x : Addr} {ox od : Obj}
theorem passing_all (n : Nat) : passing (fun _ => true) n 0 = List.range n := by simp [passing]
theorem genCode {M : Model} {env : Env} {c P : Addr} {ps : Array Value} {pos : Pos} {qn : Str} {scope : Scope} {Q : Value → Shared → Prop} (hc : env.code = .ref c) (hok : s.heap.IsCode c P ps) (htab : s.heap.TableAt c P ps)
    (hQ : ∀ code h' tk ps', Heap.ExtBut P s.heap h' → h'.IsCode c P ps' → h'.TableAt c P ps' → Q code { s with heap := h', toks := tk }) : wpAny M A (genexprCode env pos qn scope) Q E s := by
  cases hnf : codeAmong pos ps.toList with
  | none => exact wpAny_genexprCodeX hc hok htab hnf fun c' h' tk h1 _ _ h2 _ h3 _ => hQ _ _ _ _ h1 h2 h3
  | some cv =>
    obtain ⟨o, vs, file, tf, flags, tg, inF, text, tt, op, ho, hd, h11, h2, h7, h9, h10, hop, hpd, htr, hne⟩ := id hok
    unfold genexprCode codeAt
    rw [hc, if_neg (show ¬ ((Value.ref c == Value.none) = true) from Bool.false_ne_true)]
    refine wpAny_bind (wpAny_fieldsOf ho hd ?_)
    rw [h11]
    refine wpAny_bind (wpAny_fieldsOf hop hpd ?_)
    rw [hnf]
    exact wpAny_pure (hQ cv s.heap s.toks ps (Heap.ExtBut.refl _ _) hok htab)
/-- a generator over the accumulator's pairs -/
theorem gen_acc {env : Env} {elt iter : Expr} {xa xb : Str} {pa pb pt pos : Pos} {kt : Nat} {scope : Scope} {Q : Value → Shared → Prop} {c P bm : Addr} {ps ws : Array Value} {m : Nat} {mg : Str → Option Value} {ob : Obj} (Ts : Nat → Addr) (vals : Nat → Array Value) (F : Nat → Value → Prop)
    (hh : A.handled = none) (hroom : A.depth < recursionLimit) (hco : scope.isCoroutine = false) (hfree : ∀ y ∈ scope.names, y.2 ≠ .free) (hcell : ∀ y ∈ scope.names, y.2 ≠ .cell) (h0 : scope.names.lookup (".0" : Str) = some NameKind.local) (hxa : scope.names.lookup xa = some .local) (hxb : scope.names.lookup xb = some .local) (hab : xa ≠ xb) (hkind : scope.kind = .function)
    (hi : wpAny (model a.prog a.w) A (eval iter env) (fun v s1 => v = .ref x ∧ s1 = s) E s) (X : (kHeap a.w.params).In s.heap) (I : InstAt s.heap x ox 99 (some od)) (hd : ox.data = .seq ws m) (hit : ∀ j, j < ws.size → ws[j]? = some (.ref (Ts j))) (htup : ∀ j, j < ws.size → s.heap.IsTuple (Ts j) (vals j)) (hv2 : ∀ j, j < ws.size → ∃ va vb, vals j = #[va, vb])
    (hcode : env.code = .ref c) (hok : s.heap.IsCode c P ps) (htab : s.heap.TableAt c P ps) (hPx : P ≠ x) (hPT : ∀ j, j < ws.size → P ≠ Ts j) (hlim : s.heap.NoLimit) (hPc : cStatics ≠ P) (B : BMod s.heap env.globals mg bm ob) (hPg : env.globals ≠ P) (hPb : bm ≠ P) (G : AllBare s.gens)
    (hq : ∀ (It C : Addr) (code : Value) (href : Heap), (∀ b o, b ≠ P → s.heap.get? b = some o → href.get? b = some o) → s.heap.objs.size ≤ C → s.heap.objs.size ≤ It → QuietGenT a.prog a.w (genEnv scope [] C code builtinsNs env) xa xb [] elt (List.range C) [It] (fun j v => j < ws.size ∧ v = vals j) (fun _ => true) F href)
    (h : ∀ g s5 ps', (∀ b o, b ≠ P → s.heap.get? b = some o → s5.heap.get? b = some o) → s5.heap.IsCode c P ps' → s5.heap.TableAt c P ps' → AllBare s5.gens → s5.os = s.os → Gen a.prog a.w A (s.heap.objs.size - 1) g ws.size F s5 → Q (.ref g) s5)
    (hs : ∀ y, genFold iter env y = pure y) : wpAny (model a.prog a.w) A (eval (.GeneratorExp elt [⟨.Tuple [.Name xa pa, .Name xb pb] kt pt, iter, [], 0⟩] scope pos) env) Q E s := by
  refine wpAny_GeneratorExp_walksQT hh hco (closureFor_none hfree) hcell h0 hxa hxb hab hkind hroom (wpAny_mono hi (fun v s1 hv => ?_) fun _ _ z => z) hs
  obtain ⟨rfl, rfl⟩ := hv
  refine acc_iter X I ?_
  have kp : ∀ b o, s1.heap.get? b = some o → (s1.heap.push { cls := .type "list_iterator", data := .fields #[.ref x, .int 0 0] }).get? b = some o := fun b o e => Heap.get?_push_of_some _ e
  have lt : ∀ {b : Addr} {o : Obj}, s1.heap.get? b = some o → b < s1.heap.objs.size := fun e => Heap.lt_size e
  have hPl : P < s1.heap.objs.size := by
    obtain ⟨o, vs, file, tf, flags, tg, inF, text, tt, op, _, _, _, _, _, _, _, q, _⟩ := hok
    exact lt q
  refine ⟨hlim.keeps kp, genCode hcode (hok.keeps kp) (htab.keeps kp) fun code h3 tk3 ps' hx3 hok3 htab3 => ?_⟩
  have B3 : BMod h3 env.globals mg bm ob := ⟨(B.ns.keeps kp).extBut hx3 hPg, B.name, B.ne, hx3 _ _ hPb (kp _ _ B.obj), B.cls, B.dict, B.data⟩
  refine wpAny_builtinsFor B3.ns B3.name B3.ne B3.obj B3.cls B3.dict B3.data ?_
  have k3 : ∀ b o, b ≠ P → s1.heap.get? b = some o → h3.get? b = some o := fun b o hb e => hx3 b o hb (kp b o e)
  have hIt : h3.IsListIter s1.heap.objs.size x 0 := ⟨_, hx3 _ _ (Nat.ne_of_gt hPl) (Heap.get?_push_size _ rfl), rfl, rfl⟩
  have hsz : s1.heap.objs.size < h3.objs.size := by obtain ⟨o, ho, _⟩ := hIt; exact Heap.lt_size ho
  have hxI : x ≠ s1.heap.objs.size := Nat.ne_of_lt (lt I.at_)
  have hTI : ∀ j, j < ws.size → Ts j ≠ s1.heap.objs.size := fun j hj => by
    obtain ⟨o, ho, _⟩ := htup j hj
    exact Nat.ne_of_lt (lt ho)
  refine ⟨s1.heap.objs.size, _, _, ws.size, _, _, _, fun _ => true, F, rfl, fun A' hA' => (walks_seq hA' hxI Ts vals hit hTI).bound, ?_, ⟨hIt, ⟨_, _, k3 _ _ (Ne.symm hPx) I.at_, hd⟩, fun k hk => ?_⟩, ?_, ?_, ?_, ?_, ?_⟩
  · rintro i v ⟨hlt, rfl⟩; exact hv2 i hlt
  · obtain ⟨o, ho, r⟩ := htup k hk
    exact ⟨o, k3 _ _ (Ne.symm (hPT k hk)) ho, r⟩
  · intro b hb
    show b < h3.objs.size
    rcases List.mem_cons.mp hb with rfl | hb
    · exact hsz
    · rcases List.mem_cons.mp hb with rfl | hb
      · exact Nat.lt_trans (lt I.at_) hsz
      · obtain ⟨j, hj, rfl⟩ := List.mem_map.mp hb
        obtain ⟨o, ho, _⟩ := htup j (List.mem_range.mp hj)
        exact Nat.lt_trans (lt ho) hsz
  · exact (hlim.keeps kp).extBut hx3 hPc
  · intro hm
    obtain ⟨_, hn, _⟩ := hlim
    exact absurd (List.mem_singleton.mp hm) (Nat.ne_of_lt hn.lt)
  · intro href hk
    exact hq _ _ code href (fun b o hb e => hk b o (k3 b o hb e)) (Nat.le_of_lt hsz) (Nat.le_refl _)
  · intro g h5 tk gs hgb hag hsz5 hk5 W hat
    refine h g _ ps' (fun b o hb e => hk5 b o (k3 b o hb e)) (hok3.keeps hk5) (htab3.keeps hk5) (G.push hgb) rfl ?_
    rw [passing_all, List.length_range] at W
    have hF : ∀ j y, (∃ i, (List.range ws.size)[j]? = some i ∧ F i y) → F j y := fun j y ⟨i, h1, h2⟩ => by
      have := List.getElem?_eq_some_iff.mp h1
      obtain ⟨h3, h4⟩ := this
      rw [List.getElem_range] at h4
      rw [h4]; exact h2
    have h0' : 0 < s1.heap.objs.size := Nat.lt_of_le_of_lt (Nat.zero_le _) hPl
    refine ⟨_, _, _, _, ⟨W.sub, W.grefl, W.gtrans, W.frame, fun i s Q E hi st hQ => W.item i s Q E hi st fun v s' hv => hQ v s' (hF _ _ hv), W.done, W.self⟩, hat, (fun i s' st => st.1.typeIs), List.mem_cons_self, fun b hb => ?_, fun b hb => ?_⟩
    · show b < h5.objs.size
      rw [hsz5]
      rcases List.mem_cons.mp hb with rfl | hb
      · exact Nat.lt_succ_self _
      · rcases List.mem_cons.mp hb with rfl | hb
        · exact Nat.lt_succ_of_lt hag
        · exact Nat.lt_succ_of_lt (Nat.lt_trans (List.mem_range.mp hb) hag)
    · rcases List.mem_cons.mp hb with rfl | hb
      · exact Nat.lt_of_le_of_lt (Nat.sub_le _ _) hsz
      · rcases List.mem_singleton.mp hb with rfl
        exact Nat.sub_lt h0' (Nat.succ_pos _)
end
end Mine
namespace Mine
/-- a code object's table, at its place -/
noncomputable def Tab (P : Addr) (b : Addr) (o : Obj) : Prop := b = P ∧ ∃ ps, o = ({ cls := .none, data := .fields ps } : Obj) ∧ TriplesOk ps.toList
section
variable {G : Glo} {n : Nat} {S S1 S2 : List O} {ρ : List Addr} {s s' : Shared} {P : Addr}
theorem tab_at (H : Sim G ρ S s) {t : Nat} (e : S[t]? = some (.obj (Tab P))) : ρ[t]? = some P ∧ ∃ ps, s.heap.get? P = some ({ cls := .none, data := .fields ps } : Obj) ∧ TriplesOk ps.toList := by
  obtain ⟨b, ob, h1, h2, rfl, ps, rfl, h3⟩ := H.own _ _ e
  exact ⟨h1, ps, h2, h3⟩
/-- the table grows -/
theorem Sim.tab (H : Sim G ρ S s) {t : Nat} (e : S[t]? = some (.obj (Tab P))) {ps : Array Value} (k : ∀ b o, b ≠ P → s.heap.get? b = some o → s'.heap.get? b = some o) (h : s'.heap.get? P = some ({ cls := .none, data := .fields ps } : Obj)) (ht : TriplesOk ps.toList)
    (hg : AllBare s'.gens) (ho : s'.os = s.os) (htk : G.lo ≤ s'.toks) : Ext ρ ρ s s' ∧ Sim G ρ S s' := by
  obtain ⟨h1, _⟩ := tab_at H e
  have U := H.upd (s' := { s' with gens := s.gens }) (o := .obj (Tab P)) e h1 k h ⟨rfl, ps, rfl, ht⟩ rfl ho htk
  rw [show S.set t (.obj (Tab P)) = S by
    apply List.ext_getElem?
    intro i
    by_cases q : i = t
    · subst q; rw [List.getElem?_set_self (List.getElem?_eq_some_iff.mp e).1, e]
    · rw [List.getElem?_set_ne (fun z => q z.symm)]] at U
  exact ⟨Ext.upd (List.mem_of_getElem? h1) k, ⟨U.keep, U.len, U.nodup, U.own, U.new, U.low, U.os, hg, U.toks⟩⟩
end
section
variable {prog : Program} {w : World} {A : Around} {E : Value → Shared → Prop} {s : Shared}
/-- sum with a start -/
theorem sum_from {x : Value} {t₀ : Tok} {Q : Value → Shared → Prop}
    (h : wpAny (model prog w) A.in1 (pyIter x) (fun it s₂ => ∃ I fp wr G n P St val, it = .ref I ∧ WalksS prog w A.in1 I fp wr G n P St ∧ St 0 s₂ ∧ (∀ b ∈ fp, b < s₂.heap.objs.size) ∧
      (∀ i v, P i v → ∃ t, v = .int (val i) t) ∧ (∀ j, j < n → InLong (val j) ∧ InLong (preSum val (j + 1))) ∧
      ∀ s' t', Moved wr G s₂ s' → Q (.int (preSum val n) t') s') E s) :
    wpAny (model prog w) A (call (.builtin "sum") [x, .int 0 t₀]) Q E s := by
  refine call_function_tree F.kind_sum F.plain_sum F.entry_sum (by unfold argsOk; kernel_rfl) ?_
  unfold Builtin.«sum»
  simp only [List.length_cons, List.length_nil]
  rw [if_neg (by decide)]
  refine wpAny_bind (wpAny_of_eq (show Builtin.Builtins.bindParams "sum" ["start"] 0 ⟨[.int 0 t₀], []⟩ = pure [some (.int 0 t₀)] from rfl) ?_)
  refine wpAny_bind (wpAny_mono h (fun it s₂ h₂ => ?_) fun _ _ e => e)
  obtain ⟨I, fp, wr, G, n, P, St, val, rfl, W, hst, hfp, hval, hfit, hQ⟩ := h₂
  simp only []
  rw [if_pos (by decide)]
  refine wpAny_bind (wpAny_rule ?_)
  refine wpAny_bind (wpAny_mkInt (wpAny_bind (wpAny_pure ?_)))
  simp only [List.forIn_cons, List.forIn_nil]
  refine wpAny_bind (wpAny_bind (wpAny_bind (wpAny_isInstance (T := "int") (b := false) (typeIs_int _ _ _) PySem.sub_int_str ?_)))
  simp only [Bool.false_eq_true, if_false]
  refine wpAny_pure (wpAny_bind (wpAny_bind (wpAny_isInstance (T := "int") (b := false) (typeIs_int _ _ _) PySem.sub_int_bytes ?_)))
  simp only [Bool.false_eq_true, if_false]
  refine wpAny_pure (wpAny_bind (wpAny_bind (wpAny_isInstance (T := "int") (b := false) (typeIs_int _ _ _) PySem.sub_int_bytearray ?_)))
  simp only [Bool.false_eq_true, if_false]
  refine wpAny_pure (wpAny_pure ?_)
  refine wpAny_bind (wpAny_newObj_type ?_)
  have hSf : s₂.heap.objs.size ∉ fp := fun hm => Nat.lt_irrefl _ (hfp _ hm)
  refine wpAny_pure ⟨plainId_quiet F.plain_sum_loop _, codeAny_sum_loopS W val hval hfit s₂.heap.objs.size hSf n 0 _ s₂.toks 0 rfl (Nat.zero_le _)
    (W.frame 0 s₂ _ _ hst (by first | exact Nat.le_refl _ | exact Nat.le_succ _ | omega) fun b _ o e => Heap.get?_push_of_some _ e) (Heap.get?_push_size _ rfl) fun s' t' hm => ?_⟩
  exact hQ s' t' (hm.drop_new (by first | exact Nat.le_refl _ | exact Nat.le_succ _ | omega))
end
end Mine
namespace Mine
section
variable {a : LA} {A : Around} {E : Value → Shared → Prop} {s : Shared} {env : Env} {Q : Value → Shared → Prop} {m : Str → Option Value}
/-- a name of the built-ins, of the globals, of one's own, where the base stands -/
theorem blt_name {x : Str} {pos : Pos} {v : Value} (hb : ∀ b o, a.h₀.get? b = some o → s.heap.get? b = some o) (hk : env.scope.kind = .function) (hx : env.kindOf x = some .globalImplicit) (hg : env.globals = mainGlobals) (hbl : env.builtins = builtinsNs)
    (hv : nsIn (kHeap a.w.params) mainGlobals x = some none) (hbt : bootBuiltins x = some v) (hn : x ≠ "__name__") (hd : (x == ("__debug__" : Str)) = false) (h : Q v s) : wpAny (model a.prog a.w) A (eval (.Name x pos) env) Q E s := by
  refine Name_function_global hk hx (loadGlobal_builtin (mg := a.mg) (mb := a.mb) ?_ (mg_none_of a.X a.T.g hv) ?_ ((a.T.builtins x hn).trans hbt) h) hd
  · rw [hg]; exact a.T.g.keeps hb
  · rw [hbl]; exact a.T.b.keeps hb
theorem glo_name {x : Str} {pos : Pos} {v : Value} (hb : ∀ b o, a.h₀.get? b = some o → s.heap.get? b = some o) (hk : env.scope.kind = .function) (hx : env.kindOf x = some .globalImplicit) (hg : env.globals = mainGlobals)
    (hv : nsIn (kHeap a.w.params) mainGlobals x = some (some v)) (hd : (x == ("__debug__" : Str)) = false) (h : Q v s) : wpAny (model a.prog a.w) A (eval (.Name x pos) env) Q E s := by
  refine Name_function_global hk hx (loadGlobal_global (mg := a.mg) ?_ (mg_of a.X a.T.g hv) h) hd
  rw [hg]; exact a.T.g.keeps hb
theorem loc_name {x : Str} {pos : Pos} {v : Value} (hk : env.scope.kind = .function) (hx : env.kindOf x = some .local) (hn : s.heap.Ns env.locals m) (hv : m x = some v) (hd : (x == ("__debug__" : Str)) = false) (h : Q v s) : wpAny (model a.prog a.w) A (eval (.Name x pos) env) Q E s :=
  wpAny_Name (wpAny_loadName_local hk hx hn hv h) hd
theorem len_name {x : Str} {p1 p2 p3 : Pos} {b : Str} {t : Tok} (hb : ∀ b o, a.h₀.get? b = some o → s.heap.get? b = some o) (hk : env.scope.kind = .function) (hl : env.kindOf "len" = some .globalImplicit) (hg : env.globals = mainGlobals) (hbl : env.builtins = builtinsNs)
    (hx : env.kindOf x = some .local) (hn : s.heap.Ns env.locals m) (hv : m x = some (.str b t)) (hd : (x == ("__debug__" : Str)) = false) (hsz : b.length < 2 ^ 63) (h : ∀ t' tk, Q (.int b.length t') { s with toks := tk }) :
    wpAny (model a.prog a.w) A (eval (.Call (.Name "len" p1) [.Name x p2] [] p3) env) Q E s :=
  Call_name1 rfl (blt_name hb hk hl hg hbl (by kernel_rfl) (v := .builtin "len") (boot_all (by decide +kernel)) (by decide) (by decide) (callWith_builtin1 (loc_name hk hx hn hv hd (PyProof.Rows.len_str (by omega) (h _ _)))))
/-- a pair's length -/
theorem pair_len {xa xb : Str} {p1 p2 p3 p4 p5 p6 p7 : Pos} {b c : Str} {t u : Tok} (hb : ∀ b o, a.h₀.get? b = some o → s.heap.get? b = some o) (hk : env.scope.kind = .function) (hl : env.kindOf "len" = some .globalImplicit) (hg : env.globals = mainGlobals) (hbl : env.builtins = builtinsNs)
    (hxa : env.kindOf xa = some .local) (hxb : env.kindOf xb = some .local) (hn : s.heap.Ns env.locals m) (hva : m xa = some (.str b t)) (hvb : m xb = some (.str c u)) (hda : (xa == ("__debug__" : Str)) = false) (hdb : (xb == ("__debug__" : Str)) = false) (hsz : b.length < 2 ^ 63) (hsz' : c.length < 2 ^ 63) :
    wpAny (model a.prog a.w) A (eval (.BinOp (.Call (.Name "len" p1) [.Name xa p2] [] p3) .Add (.Call (.Name "len" p4) [.Name xb p5] [] p6) p7) env) (fun y s' => (∃ t', y = .int (b.length + c.length) t') ∧ Keeps s s') E s :=
  wpAny_BinOp (len_name hb hk hl hg hbl hxa hn hva hda hsz fun t1 tk1 => len_name (s := { s with toks := tk1 }) hb hk hl hg hbl hxb hn hvb hdb hsz' fun t2 tk2 => PyProof.Rows.add_int ⟨⟨_, rfl⟩, ⟨_, _, rfl, fun _ _ e => e⟩⟩)
/-- a pair's text -/
theorem pair_join {y xa xb : Str} {k : Nat} {p1 p2 p3 p4 p5 p6 : Pos} {b c : Str} {t u t0 : Tok} (hb : ∀ b o, a.h₀.get? b = some o → s.heap.get? b = some o) (hk : env.scope.kind = .function) (hl : env.kindOf y = some .globalImplicit) (hg : env.globals = mainGlobals)
    (hy : nsIn (kHeap a.w.params) mainGlobals y = some (some (.str "" t0))) (hxa : env.kindOf xa = some .local) (hxb : env.kindOf xb = some .local) (hn : s.heap.Ns env.locals m) (hva : m xa = some (.str b t)) (hvb : m xb = some (.str c u)) (hda : (xa == ("__debug__" : Str)) = false) (hdb : (xb == ("__debug__" : Str)) = false) (hdy : (y == ("__debug__" : Str)) = false)
    (hsz : b.length + c.length ≤ 16777216) (pl : Sem Bool)
    (hc : eval (.Call (.Attribute (.Name y p1) "join" p2) [.Tuple [.Name xa p3, .Name xb p4] k p5] [] p6) env = (do
      let ov ← eval (.Name y p1) env
      standAt p2.atName
      let (f, first) ← holding [ov] (getMethod ov "join" pl)
      callWith p6 f first (backTo p6 (starEach [.Tuple [.Name xa p3, .Name xb p4] k p5] env)) [])) :
    wpAny (model a.prog a.w) A (eval (.Call (.Attribute (.Name y p1) "join" p2) [.Tuple [.Name xa p3, .Name xb p4] k p5] [] p6) env) (fun z s' => (∃ t', z = .str (Txt.join "" [b, c]) t') ∧ Keeps s s') E s := by
  refine MethodCall_ (glo_name hb hk hl hg hy hdy ?_) hc
  refine GM.of (.str "" t0) (typeIs_str _ _ _) PySem.F.slot_str_join PySem.F.type_str_join GM.noRef ?_
  refine callWith_method1 (spliced_more (Tuple_ (spliced_more (loc_name hk hxa hn hva hda (spliced_more (loc_name hk hxb hn hvb hdb (spliced_none ?_)))))))
  refine wpAny_newObj_type ?_ (by show (2 : Nat) ≤ sizeLine; decide)
  refine spliced_none ?_
  refine PyProof.Rows.join_tuple (items := #[.str b t, .str c u]) (ys := [b, c]) ⟨_, Heap.get?_push_size _ rfl, rfl, _, rfl⟩ (.cons _ _ (.cons _ _ .nil)) (by show (b.length + (c.length + 0)) + 2 * 0 ≤ 16777216; omega) fun t' k => ⟨⟨_, rfl⟩, ⟨_, _, rfl, fun b o e => Heap.get?_push_of_some _ e⟩⟩
end
end Mine
namespace Mine
section
variable {a : LA} {n : Nat} {A : Around} {E : Value → Shared → Prop} {s : Shared} {Q : Value → Shared → Prop} {x : Addr} {ox od : Obj} {S S1 : List O} {ρ : List Addr}
theorem entry_lga : entryFor table "list.__getattribute__" = some Builtin.«object.__getattribute__» := entryFor_alias (id' := "object.__getattribute__") (by kernel_rfl) (by decide +kernel) (by decide +kernel) (by kernel_rfl)
/-- the accumulator's first size -/
theorem acc_size {expr : Bool} (X : (kHeap a.w.params).In s.heap) (I : InstAt s.heap x ox 99 (some od)) {d : Addr} (D : AccD a.w.params d od) (h : ∀ t', Q (.int 0 t') { s with toks := s.toks + 1 }) : wpAny (model a.prog a.w) A (getAttr (.ref x) "_initial_size" expr) Q E s := by
  obtain ⟨t1, t2, ep, rfl⟩ := D
  obtain ⟨hh, g, d, t, os⟩ := s
  have L0 := I.type (M := model a.prog a.w)
  have L1 := looks_findIn (M := model a.prog a.w) X (show findIn (kHeap a.w.params) (.ref 99) "__getattribute__" = some (some (.builtin "list.__getattribute__")) by kernel_rfl)
  have L2 := looks_findIn (M := model a.prog a.w) X (show findIn (kHeap a.w.params) (.ref 99) "__getattr__" = some none by kernel_rfl)
  have L3 := looks_find (M := model a.prog a.w) (name := "_initial_size") (r := .value (.int 0 t2)) X I (by kernel_rfl)
  unfold getAttr getAttrBy
  refine wpAny_bind (wpAny_mkText (wpAny_holding (wpAny_bind (L0.at (wpAny_bind (L1.at ?_))))))
  show wpAny _ _ (getAttrByItsOwn _ _ _ _ _ _) _ _ _
  unfold getAttrByItsOwn
  refine wpAny_bind (L2.at (wpAny_bind (wpAny_attempt (wpAny_holding ?_))))
  rw [show ∀ o nm, callGetattribute o nm (.builtin "list.__getattribute__") expr = boundAndCalled (.builtin "list.__getattribute__") o nm from fun o nm => by cases expr <;> rfl]
  unfold boundAndCalled
  rw [PySem.F.slot_list_getattribute.bind]
  refine wpAny_bind (wpAny_pure ?_)
  refine acc_builtin (nm := "__getattribute__") X I (.inl (by decide +kernel)) (by decide +kernel) (by decide +kernel) entry_lga (PySem.F.args_list_getattribute_2 _ _) ?_
  unfold Builtin.«object.__getattribute__»
  show wpAny _ _ (pure _ >>= _) _ _ _
  refine wpAny_bind (wpAny_pure ?_)
  dsimp only
  refine wpAny_bind (wpAny_pure (wpAny_bind (L0.at (wpAny_bind (L3.at ?_)))))
  exact wpAny_pure ⟨_, rfl, wpAny_pure (h _)⟩
end
end Mine
namespace Mine
/-- the accumulator's pairs -/
noncomputable def RowsAt (S : List O) (xs : List V) (rows : List (Str × Str)) : Prop := xs.length = rows.length ∧ ∀ (j : Nat) (p : Str × Str), rows[j]? = some p → ∃ r : Nat, xs[j]? = some (V.ref r) ∧ S[r]? = some (O.tup [.str p.1, .str p.2])
theorem RowsAt.more {S l : List O} {xs : List V} {rows : List (Str × Str)} (h : RowsAt S xs rows) : RowsAt (S ++ l) xs rows :=
  ⟨h.1, fun j p e => let ⟨r, h1, h2⟩ := h.2 j p e; ⟨r, h1, at_old h2⟩⟩
section
variable {a : LA} {n : Nat} {A : Around} {E : Value → Shared → Prop} {s : Shared} {Q : Value → Shared → Prop} {x : Addr} {ox od : Obj} {S S1 : List O} {ρ : List Addr}
theorem rows_at (H : Sim (gl a) ρ S s) {xs : List V} {rows : List (Str × Str)} {ws : Array Value} (hr : RowsAt S xs rows) (h : RVs ρ xs ws.toList) : ws.size = rows.length ∧
    ∃ Ts : Nat → Addr, ∃ vals : Nat → Array Value, ∀ (j : Nat) (p : Str × Str), rows[j]? = some p → ws[j]? = some (Value.ref (Ts j)) ∧ s.heap.IsTuple (Ts j) (vals j) ∧ Ts j ∈ ρ ∧ ∃ t u, vals j = #[Value.str p.1 t, Value.str p.2 u] := by
  have hsz : ws.size = rows.length := by rw [← hr.1, ← h.length]; simp
  refine ⟨hsz, ?_⟩
  have : ∀ j : Nat, ∃ T : Addr × Array Value, ∀ p : Str × Str, rows[j]? = some p → ws[j]? = some (Value.ref T.1) ∧ s.heap.IsTuple T.1 T.2 ∧ T.1 ∈ ρ ∧ ∃ t u, T.2 = #[Value.str p.1 t, Value.str p.2 u] := fun j => by
    cases q : rows[j]? with
    | none => exact ⟨(0, #[]), fun p hp => by cases hp⟩
    | some p =>
      obtain ⟨r, h1, h2⟩ := hr.2 j p q
      obtain ⟨v, hv, T, hT, rfl⟩ := h.get h1
      obtain ⟨T', ob, g1, g2, vs, m, rfl, g3⟩ := H.own _ _ h2
      rw [hT] at g1; cases g1
      cases vs with | mk vs =>
      cases g3 with
      | cons r1 r2 => cases r2 with
        | cons r2 r3 => cases r3 with
          | nil =>
            obtain ⟨t, rfl⟩ := r1
            obtain ⟨u, rfl⟩ := r2
            refine ⟨(T, #[Value.str p.1 t, Value.str p.2 u]), fun p' hp => ?_⟩
            cases hp
            refine ⟨?_, ⟨_, g2, rfl, _, rfl⟩, List.mem_of_getElem? hT, t, u, rfl⟩
            rw [← hv]; simp
  obtain ⟨f, hf⟩ := Classical.axiomOfChoice this
  exact ⟨fun j => (f j).1, fun j => (f j).2, fun j p hp => hf j p hp⟩
theorem code66 (P : Params) : ∃ o vs file tf flags tg inF text tt, (kHeap P).lookup 66 = some o ∧ o.cls = .type "code" ∧ o.data = .fields vs ∧ vs[11]? = some (.ref 62) ∧ vs.getD 11 .none = .ref 62 ∧ vs.getD 18 .none = .str file tf ∧ vs.getD 7 .none = .int flags tg ∧ vs.getD 9 .none = .bool inF ∧ vs.getD 10 .none = .int text tt :=
  ⟨_, _, _, _, _, _, _, _, _, rfl, rfl, rfl, rfl, rfl, rfl, rfl, rfl, rfl⟩
theorem code73 (P : Params) : ∃ o vs file tf flags tg inF text tt, (kHeap P).lookup 73 = some o ∧ o.cls = .type "code" ∧ o.data = .fields vs ∧ vs[11]? = some (.ref 69) ∧ vs.getD 11 .none = .ref 69 ∧ vs.getD 18 .none = .str file tf ∧ vs.getD 7 .none = .int flags tg ∧ vs.getD 9 .none = .bool inF ∧ vs.getD 10 .none = .int text tt :=
  ⟨_, _, _, _, _, _, _, _, _, rfl, rfl, rfl, rfl, rfl, rfl, rfl, rfl, rfl⟩
theorem code_at {c P : Addr} {ps : Array Value} (X : (kHeap a.w.params).In s.heap) (hc : ∃ o vs file tf flags tg inF text tt, (kHeap a.w.params).lookup c = some o ∧ o.cls = .type "code" ∧ o.data = .fields vs ∧ vs[11]? = some (.ref P) ∧ vs.getD 11 .none = .ref P ∧ vs.getD 18 .none = .str file tf ∧ vs.getD 7 .none = .int flags tg ∧ vs.getD 9 .none = .bool inF ∧ vs.getD 10 .none = .int text tt)
    (hp : s.heap.get? P = some ({ cls := .none, data := .fields ps } : Obj)) (ht : TriplesOk ps.toList) (hne : c ≠ P) : s.heap.IsCode c P ps ∧ s.heap.TableAt c P ps := by
  obtain ⟨o, vs, file, tf, flags, tg, inF, text, tt, h0, h1, h2, h3, h4, h5, h6, h7, h8⟩ := hc
  exact ⟨⟨o, vs, file, tf, flags, tg, inF, text, tt, _, X _ _ h0, h2, h4, h5, h6, h7, h8, hp, rfl, ht, hne⟩, ⟨o, vs, X _ _ h0, h1, h2, h3⟩, hp⟩
end
end Mine
namespace Mine
section
variable {a : LA} {n : Nat} {A : Around} {s : Shared} {S S1 : List O} {ρ : List Addr}
/-- a generator over the accumulator's pairs, its elements told by F, in the calling function's place -/
theorem gen_at {E : AEnv} {env : Env} {elt : Expr} {y xa xb : Str} {p0 pa pb pt pos : Pos} {kt : Nat} {scope : Scope} {Q : Value → Shared → Prop} {c P : Addr} {ns : List Str} {vs : List (Option V)} {i d t : Nat} {xs : List V} {rows : List (Str × Str)} (F : Nat → Value → Prop) (jy : Nat)
    (hA : GoodA A n) (hE : EnvOk E env ρ) (H : Sim (gl a) ρ S s) (hcode : env.code = .ref c) (e : S[i]? = some (.acc 99 d xs)) (e' : S[d]? = some (.obj (AccD a.w.params))) (et : S[t]? = some (.obj (Tab P))) (hr : RowsAt S xs rows)
    (hk : E.scope.names.lookup y = some .local) (hf : S[E.fid]? = some (.frame ns vs)) (hn : ns[jy]? = some y) (hv : vs[jy]? = some (some (.ref i))) (hd : (y == ("__debug__" : Str)) = false)
    (hco : scope.isCoroutine = false) (hfree : ∀ y ∈ scope.names, y.2 ≠ .free) (hcell : ∀ y ∈ scope.names, y.2 ≠ .cell) (h0 : scope.names.lookup (".0" : Str) = some NameKind.local) (hxa : scope.names.lookup xa = some .local) (hxb : scope.names.lookup xb = some .local) (hab : xa ≠ xb) (hkind : scope.kind = .function)
    (hP : P ≠ cStatics) (hcP : c ≠ P) (hP0 : a.h₀.get? P = none) (hcd : ∃ o vs file tf flags tg inF text tt, (kHeap a.w.params).lookup c = some o ∧ o.cls = .type "code" ∧ o.data = .fields vs ∧ vs[11]? = some (.ref P) ∧ vs.getD 11 .none = .ref P ∧ vs.getD 18 .none = .str file tf ∧ vs.getD 7 .none = .int flags tg ∧ vs.getD 9 .none = .bool inF ∧ vs.getD 10 .none = .int text tt)
    (hq : ∀ (C : Addr) (code : Value) (A' : Around) E' (s2 : Shared) m j p t u, (∀ b o, a.h₀.get? b = some o → s2.heap.get? b = some o) → rows[j]? = some p → s2.heap.Ns C m → m xa = some (.str p.1 t) → m xb = some (.str p.2 u) →
      wpAny (model a.prog a.w) A' (eval elt (genEnv scope [] C code builtinsNs env)) (fun y s3 => F j y ∧ Keeps s2 s3) E' s2)
    (h : ∀ g s5 ps', (∀ b o, b ≠ P → s.heap.get? b = some o → s5.heap.get? b = some o) → s5.heap.get? P = some ({ cls := .none, data := .fields ps' } : Obj) → TriplesOk ps'.toList → AllBare s5.gens → s5.os = s.os → Gen a.prog a.w A (s.heap.objs.size - 1) g rows.length F s5 → Q (.ref g) s5)
    (hs : ∀ x, genFold (.Name y p0) env x = pure x) : wpAny (model a.prog a.w) A (eval (.GeneratorExp elt [⟨.Tuple [.Name xa pa, .Name xb pb] kt pt, .Name y p0, [], 0⟩] scope pos) env) Q (fun _ _ => False) s := by
  obtain ⟨x, dx, ws, m, od, g1, g2, g3, g4, g5, g6, I⟩ := acc_at H e e'
  obtain ⟨gt, ps, g7, g8⟩ := tab_at H et
  obtain ⟨hsz, Ts, vals, hT⟩ := rows_at H hr g4
  have hw : ∀ j, j < ws.size → ∃ p, rows[j]? = some p := fun j hj => ⟨_, List.getElem?_eq_getElem (hsz ▸ hj)⟩
  have ht : t ≠ i := by rintro rfl; rw [e] at et; cases et
  have hPρ : P ∈ ρ := List.mem_of_getElem? gt
  have hPx : P ≠ x := fun q => ht (nodup_get H.nodup gt (q ▸ g1))
  have hPT : ∀ j, j < ws.size → P ≠ Ts j := fun j hj q => by
    obtain ⟨p, hp⟩ := hw j hj
    obtain ⟨_, ⟨o, ho, hc, _⟩, _, _⟩ := hT j p hp
    rw [← q, g7] at ho; cases ho; cases hc
  have keep : ∀ b o, a.h₀.get? b = some o → b ≠ P := fun b o hb q => by rw [q, hP0] at hb; cases hb
  obtain ⟨hok, htab⟩ := code_at H.K hcd g7 g8 hcP
  have B : BMod s.heap env.globals a.mg a.bm a.ob := hE.glob ▸ a.B.keeps H.keep
  have N : s.heap.NoLimit := a.T.nolimit.keeps H.keep
  refine gen_acc (P := P) (ws := ws) Ts vals F hA.handled (by have := hA.depth; omega) hco hfree hcell h0 hxa hxb hab hkind ?_ H.K I rfl (fun j hj => ?_) (fun j hj => ?_) (fun j hj => ?_) hcode hok htab hPx hPT N (Ne.symm hP) B ?_ (keep _ _ a.B.obj) H.gens (fun It C code href hk1 hC hIt => ?_) (fun g s5 ps' k1 k2 k3 k4 k5 k6 => ?_) hs
  · obtain ⟨b, ob, q1, q2, q3⟩ := H.own _ _ hf
    obtain ⟨mm, hm, hrr⟩ := ns_of q2 q3
    have ha : b = env.locals := Option.some.inj (q1.symm.trans hE.loc)
    subst ha
    obtain ⟨v, hv1, z, hz, rfl⟩ : ROp ρ (some (.ref i)) (mm y) := by have := hrr jy y hn; rwa [hv] at this
    rw [g1] at hz; cases hz
    exact loc_name (hE.scope ▸ hE.kind) (by unfold Env.kindOf; rw [hE.scope]; exact hk) hm hv1 hd ⟨rfl, rfl⟩
  · obtain ⟨p, hp⟩ := hw j hj
    exact (hT j p hp).1
  · obtain ⟨p, hp⟩ := hw j hj
    exact (hT j p hp).2.1
  · obtain ⟨p, hp⟩ := hw j hj
    obtain ⟨_, _, _, t, u, h4⟩ := hT j p hp
    exact ⟨_, _, h4⟩
  · rw [hE.glob]
    obtain ⟨o, es, ep, ho, _⟩ := a.B.ns
    exact keep _ _ ho
  · have old : ∀ b o, s.heap.get? b = some o → b ∈ List.range C ∧ b ∉ [It] := fun b o hb => ⟨List.mem_range.mpr (Nat.lt_of_lt_of_le (Heap.lt_size hb) hC), fun q => by
      rw [List.mem_singleton.mp q] at hb; exact absurd (Heap.lt_size hb) (Nat.not_lt.mpr hIt)⟩
    refine ⟨fun A' E' i va vb s2 m2 hA' hP2 hn2 h1 h2 h3 => ?_, fun A' E' j va vb s2 m2 hA' hP2 _ hn2 h1 h2 h3 => ?_⟩
    · exact wpAny_pure ⟨rfl, ⟨_, _, rfl, fun _ _ z => z⟩⟩
    · obtain ⟨hj, hv2⟩ := hP2
      obtain ⟨p, hp⟩ := hw j hj
      obtain ⟨_, _, _, t, u, h4⟩ := hT j p hp
      rw [h4] at hv2
      injection hv2 with hv2
      injection hv2 with hv3 hv4
      injection hv4 with hv4 _
      subst hv3 hv4
      exact hq C code A' E' s2 m2 j p t u (fun b o hb => h3 b (old b o (H.keep b o hb)).1 (old b o (H.keep b o hb)).2 o (hk1 b o (keep b o hb) (H.keep b o hb))) hp hn2 h1 h2
  · obtain ⟨_, _, _, _, _, _, _, _, _, op, q1, q2, q3, _, _, _, _, q4, q5, q6, _⟩ := k2
    exact h g s5 ps' k1 k3.2 q6 k4 k5 (hsz ▸ k6)
end
end Mine
namespace Mine
noncomputable def rowLen (rows : List (Str × Str)) (j : Nat) : Int := ((rows.getD j ("", "")).1.length : Int) + (rows.getD j ("", "")).2.length
noncomputable def small (rows : List (Str × Str)) : Prop := rows.length ≤ 100 ∧ ∀ p ∈ rows, p.1.length ≤ 100 ∧ p.2.length ≤ 100
theorem rowLen_at {rows : List (Str × Str)} {j : Nat} {p : Str × Str} (h : rows[j]? = some p) : rowLen rows j = p.1.length + p.2.length := by
  unfold rowLen; rw [List.getD_eq_getElem?_getD, h]; rfl
theorem rowLen_le {rows : List (Str × Str)} (h : small rows) (j : Nat) : 0 ≤ rowLen rows j ∧ rowLen rows j ≤ 200 := by
  unfold rowLen
  rw [List.getD_eq_getElem?_getD]
  cases q : rows[j]? with
  | none => decide
  | some p =>
    have := h.2 p (List.mem_of_getElem? q)
    show 0 ≤ ((p.1.length : Int) + p.2.length) ∧ ((p.1.length : Int) + p.2.length) ≤ 200
    omega
theorem preSum_le {val : Nat → Int} (h : ∀ j, 0 ≤ val j ∧ val j ≤ 200) : ∀ k, 0 ≤ preSum val k ∧ preSum val k ≤ 200 * k
  | 0 => ⟨Int.le_refl _, Int.le_refl _⟩
  | k + 1 => by
    have := preSum_le h k
    have := h k
    show 0 ≤ preSum val k + val k ∧ preSum val k + val k ≤ 200 * ((k + 1 : Nat) : Int)
    omega
section
variable {a : LA} {n : Nat} {A : Around} {s : Shared} {S S1 : List O} {ρ : List Addr}
theorem Cal.accLen {i d t : Nat} {xs : List V} {rows : List (Str × Str)} (e : S[i]? = some (.acc 99 d xs)) (e' : S[d]? = some (.obj (AccD a.w.params))) (et : S[t]? = some (.obj (Tab 62))) (hr : RowsAt S xs rows) (hs : small rows) (hf : framesOk S) :
    Cal (gl a) (n + 1) (.ext (.ref 67)) [.ref i] S (.int (preSum (rowLen rows) rows.length)) S := by
  refine Cal.closed hf fun hc => ?_
  refine Cal.fnE (S1 := S ++ [.frame ([("self" : Str)] ++ []) (startVals [.ref i] [])]) (fl := .ret (.int (preSum (rowLen rows) rows.length))) [("self" : Str)] [] (σ := List.range S.length) rfl (by kernel_rfl) (fun s xs h _ => BindsTo.of_eq (match xs, h with | [y], _ => rfl)) rfl (by decide) (by decide +kernel) (by decide +kernel) (by kernel_rfl) (by kernel_rfl) (by kernel_rfl) (fun A ρ s L hA hE H => ?_)
    (part_top (by simp) (by simp) hc) (fun j hj => List.getElem?_range hj) rfl trivial
  refine Run.mk H fun Q k => ?_
  have hkd : (scopeD (inAt 3 4)).kind = .function := by kernel_rfl
  refine wpAny_execs_cons (wpAny_Return_some (Call_ (blt_name (v := .builtin "sum") H.keep hkd (by kernel_rfl) rfl rfl (by kernel_rfl) (boot_all (by decide +kernel)) (by decide) (by decide) ?_)))
  refine callWith_method1 (first := []) (spliced_more (gen_at (c := 66) (P := 62) (t := t) (i := i) (ns := [("self" : Str)] ++ []) (vs := startVals [.ref i] []) (rows := rows) (fun j y => ∃ t', y = .int (rowLen rows j) t') 0 hA hE H rfl (at_old e) (at_old e') (at_old et) hr.more (by kernel_rfl) frame_top rfl rfl (by decide) (by kernel_rfl) (by decide +kernel) (by decide +kernel) (by kernel_rfl) (by kernel_rfl) (by kernel_rfl) (by decide) (by kernel_rfl) (by decide) (by decide) a.noLen (code66 _) ?_ ?_ (fun _ => rfl)))
  · intro C code A' E' s2 m j p t u hb hp hn h1 h2
    have := hs.2 p (List.mem_of_getElem? hp)
    exact wpAny_mono (pair_len hb rfl (by kernel_rfl) rfl rfl (by kernel_rfl) (by kernel_rfl) hn h1 h2 (by decide) (by decide) (by omega) (by omega)) (fun y s3 ⟨⟨t', q⟩, kp⟩ => ⟨⟨t', by rw [rowLen_at hp]; exact q⟩, kp⟩) fun _ _ z => z
  · intro g s5 ps' k1 k2 k3 k4 k5 X
    obtain ⟨H5x, H5⟩ := H.tab (s' := { s5 with toks := a.lo }) (at_old et) k1 k2 k3 k4 k5 (Nat.le_refl _)
    obtain ⟨b, ob, q1, q2, q3⟩ := H5.own _ _ (frame_top (S := S))
    obtain ⟨mm, hm, hrr⟩ := ns_of q2 q3
    have ha : b = L := Option.some.inj (q1.symm.trans hE.loc)
    subst ha
    obtain ⟨v, hv1, z, hz, rfl⟩ : ROp ρ (some (.ref i)) (mm "self") := hrr 0 "self" rfl
    obtain ⟨x, dx, ws, m, od, g1, g2, g3, g4, g5, g6, I⟩ := acc_at H5 (at_old e) (at_old e')
    rw [g1] at hz; cases hz
    refine spliced_more (Attribute_name (loc_name hkd (by kernel_rfl) hm hv1 (by decide) (acc_size H5.K I g5 fun t' => spliced_none ?_)))
    obtain ⟨fp, wr, gg, St, W, hst, _, _, hfp, hwr⟩ := X
    have W1 := W.in4_1
    have hst' := W.frame 0 s5 s5.heap (s5.toks + 1) hst (Nat.le_succ _) fun _ _ _ e => e
    refine sum_from (W1.self 0 _ _ _ hst' ⟨g, _, _, _, _, _, _, rowLen rows, rfl, W1, hst', hfp, fun _ _ hF => hF, fun j hj => ⟨?_, ?_⟩, fun s' t'' hmv => ?_⟩)
    · have := rowLen_le hs j
      exact ⟨by omega, by omega⟩
    · have := preSum_le (rowLen_le hs) (j + 1)
      have := hs.1
      exact ⟨by omega, by omega⟩
    · have hK : ∀ b o, s.heap.get? b = some o → b ∉ wr := fun b o hb hw => Nat.lt_irrefl _ (Nat.lt_of_lt_of_le (hwr b hw) (Nat.le_sub_one_of_lt (Heap.lt_size hb)))
      have kk : ∀ b o, b ≠ 62 → s.heap.get? b = some o → s'.heap.get? b = some o := fun b o hb ho => hmv.heap b o (hK b o ho) (k1 b o hb ho)
      obtain ⟨gt, ps, g7, g8⟩ := tab_at H (at_old et (l := [.frame ([("self" : Str)] ++ []) (startVals [.ref i] [])]))
      have hP : s'.heap.get? 62 = some ({ cls := .none, data := .fields ps' } : Obj) := hmv.heap 62 _ (hK _ _ g7) k2
      have fin := fun ht => H.tab (s' := s') (at_old et) kk hP k3 (AllBare.movedS (s := { s5 with toks := s5.toks + 1 }) k4 hmv) (hmv.os.trans k5) ht
      exact k ρ s' _ (Ext.upd (List.mem_of_getElem? gt) kk) (fun ht => (fin ht).2) ⟨_, rfl, ⟨_, rfl⟩⟩
end
end Mine
namespace Mine
noncomputable def rowTxt (rows : List (Str × Str)) (j : Nat) : Str := Txt.join "" [(rows.getD j ("", "")).1, (rows.getD j ("", "")).2]
noncomputable def accTexts (rows : List (Str × Str)) : List Str := rows.map fun p => Txt.join "" [p.1, p.2]
theorem rowTxt_at {rows : List (Str × Str)} {j : Nat} {p : Str × Str} (h : rows[j]? = some p) : rowTxt rows j = Txt.join "" [p.1, p.2] := by
  unfold rowTxt; rw [List.getD_eq_getElem?_getD, h]; rfl
section
variable {a : LA} {n : Nat} {A : Around} {s : Shared} {S S1 : List O} {ρ : List Addr}
theorem Cal.accStr {i d t : Nat} {xs : List V} {rows : List (Str × Str)} (e : S[i]? = some (.acc 99 d xs)) (e' : S[d]? = some (.obj (AccD a.w.params))) (et : S[t]? = some (.obj (Tab 69))) (hr : RowsAt S xs rows) (hs : small rows) (hj : JoinOk "" (accTexts rows) = true) (hf : framesOk S) :
    Cal (gl a) (n + 1) (.ext (.ref 74)) [.ref i] S (.str (Txt.join "" (accTexts rows))) S := by
  refine Cal.closed hf fun hc => ?_
  refine Cal.fnE (S1 := S ++ [.frame ([("self" : Str)] ++ []) (startVals [.ref i] [])]) (fl := .ret (.str (Txt.join "" (accTexts rows)))) [("self" : Str)] [] (σ := List.range S.length) rfl (by kernel_rfl) (fun s xs h _ => BindsTo.of_eq (match xs, h with | [y], _ => rfl)) rfl (by decide) (by decide +kernel) (by decide +kernel) (by kernel_rfl) (by kernel_rfl) (by kernel_rfl) (fun A ρ s L hA hE H => ?_)
    (part_top (by simp) (by simp) hc) (fun j hj => List.getElem?_range hj) rfl trivial
  refine Run.mk H fun Q k => ?_
  have hkd : (scopeD (inAt 3 5)).kind = .function := by kernel_rfl
  refine wpAny_execs_cons (wpAny_Return_some (MethodCall_ (glo_name (v := .str "" 196) H.keep hkd (by kernel_rfl) rfl (by kernel_rfl) (by decide) (GM.of (.str "" 196) (typeIs_str _ _ _) PySem.F.slot_str_join PySem.F.type_str_join GM.noRef ?_)) rfl))
  refine callWith_method1 (spliced_more (gen_at (c := 73) (P := 69) (t := t) (i := i) (ns := [("self" : Str)] ++ []) (vs := startVals [.ref i] []) (rows := rows) (fun j y => ∃ t', y = .str (rowTxt rows j) t') 0 hA hE H rfl (at_old e) (at_old e') (at_old et) hr.more (by kernel_rfl) frame_top rfl rfl (by decide) (by kernel_rfl) (by decide +kernel) (by decide +kernel) (by kernel_rfl) (by kernel_rfl) (by kernel_rfl) (by decide) (by kernel_rfl) (by decide) (by decide) a.noStr (code73 _) ?_ ?_ (fun _ => rfl)))
  · intro C code A' E' s2 m j p t u hb hp hn h1 h2
    have := hs.2 p (List.mem_of_getElem? hp)
    refine wpAny_mono (pair_join (t0 := 196) hb rfl (by kernel_rfl) rfl (by kernel_rfl) (by kernel_rfl) (by kernel_rfl) hn h1 h2 (by decide) (by decide) (by decide) (by omega) _ rfl) (fun y s3 ⟨⟨t', q⟩, kp⟩ => ⟨⟨t', by rw [rowTxt_at hp]; exact q⟩, kp⟩) fun _ _ z => z
  · intro g s5 ps' k1 k2 k3 k4 k5 X
    refine spliced_none ?_
    obtain ⟨fp, wr, gg, St, W, hst, hT, ha, hfp, hwr⟩ := X
    have W1 := W.in4_2
    refine PySem.SC.joinGen (n := rows.length) W1 hT hst hfp ha (fun j v hv => let ⟨u, e⟩ := hv; ⟨_, u, e⟩) (fun s' lt hmv hacc => ?_) (by have := hs.1; show rows.length ≤ sizeLine; exact Nat.le_trans this (by decide))
    have hl : lt.map (·.1) = accTexts rows := by
      apply List.ext_getElem?
      intro j
      have hsz : lt.length = rows.length := by simpa [strValues] using hacc.1
      unfold accTexts
      rw [List.getElem?_map, List.getElem?_map]
      cases hq : rows[j]? with
      | none => rw [List.getElem?_eq_none (by rw [hsz]; exact List.getElem?_eq_none_iff.mp hq)]; rfl
      | some p =>
        have hj' : j < lt.length := hsz ▸ (List.getElem?_eq_some_iff.mp hq).1
        obtain ⟨u, hv⟩ := hacc.2 j (.str lt[j].1 lt[j].2) (by simp [strValues, List.getElem?_eq_getElem hj'])
        injection hv with h1 _
        rw [List.getElem?_eq_getElem hj', Option.map_some, Option.map_some, h1, rowTxt_at hq]
    rw [hl]
    refine ⟨hj, fun t' tk => ?_⟩
    have hK : ∀ b o, s.heap.get? b = some o → b ∉ wr := fun b o hb hw => Nat.lt_irrefl _ (Nat.lt_of_lt_of_le (hwr b hw) (Nat.le_sub_one_of_lt (Heap.lt_size hb)))
    have kk : ∀ b o, b ≠ 69 → s.heap.get? b = some o → s'.heap.get? b = some o := fun b o hb ho => hmv.heap b o (hK b o ho) (k1 b o hb ho)
    obtain ⟨gt, ps, g7, g8⟩ := tab_at H (at_old et (l := [.frame ([("self" : Str)] ++ []) (startVals [.ref i] [])]))
    have hP : s'.heap.get? 69 = some ({ cls := .none, data := .fields ps' } : Obj) := hmv.heap 69 _ (hK _ _ g7) k2
    have fin := fun ht => H.tab (s' := { s' with toks := tk }) (at_old et) kk hP k3 (AllBare.movedS (s' := s') k4 hmv) (hmv.os.trans k5) ht
    exact k ρ _ _ (Ext.upd (s' := { s' with toks := tk }) (List.mem_of_getElem? gt) kk) (fun ht => (fin ht).2) ⟨_, rfl, ⟨_, rfl⟩⟩
end
end Mine
namespace Mine
theorem GoodA.in1 {A : Around} {n : Nat} (h : GoodA A (n + 1)) : GoodA A.in1 n := ⟨h.handled, by have := h.depth; show A.depth + n < recursionLimit; omega, by have := h.units; show A.units + 1 + 16 * n + 40 < cLine; omega⟩
section
variable {a : LA} {n : Nat} {S S1 : List O} {i d t t' : Nat} {xs : List V} {rows : List (Str × Str)}
theorem Tru.acc (e : S[i]? = some (.acc 99 d xs)) (e' : S[d]? = some (.obj (AccD a.w.params))) (et : S[t]? = some (.obj (Tab 62))) (hr : RowsAt S xs rows) (hs : small rows) (hp : 0 < preSum (rowLen rows) rows.length) (hf : framesOk S) : Tru (gl a) (n + 2) (.ref i) S true S := by
  rintro A ρ s _ hA hS ⟨x, hx, rfl⟩ Q k
  obtain ⟨x', dx, ws, m, od, g1, g2, g3, g4, g5, g6, I⟩ := acc_at hS e e'
  rw [hx] at g1; cases g1
  unfold truthy
  refine wpAny_bind (m := callSpecial? (.ref x) (Str.ofString "__bool__")) (wpAny_bind (wpAny_bind (I.type.here ((looks_findIn hS.K (show findIn (kHeap a.w.params) (.ref 99) "__bool__" = some none by kernel_rfl)).here (wpAny_pure ?_)))))
  refine wpAny_bind (wpAny_bind (I.type.here ((looks_findIn hS.K (show findIn (kHeap a.w.params) (.ref 99) "__len__" = some (some (.ref 67)) by kernel_rfl)).here ?_)))
  show wpAny _ _ (runValue (.builtin "len" ⟨[.ref x], []⟩) >>= _) _ _ _
  refine wpAny_bind (wpAny_runValue (codeAny_builtin entry_len ?_))
  rw [Around.under_plainId plain_len _]
  unfold Builtin.«len»
  refine wpAny_bind (m := oneArg "len" _) (wpAny_pure ?_)
  refine wpAny_bind (m := callSpecial? (.ref x) (Str.ofString "__len__")) (special_fn hS.K I (show findIn (kHeap a.w.params) (.ref 99) "__len__" = some (some (.ref 67)) by kernel_rfl) (by kernel_rfl) (Cal.accLen e e' et hr hs hf A.in1 ρ s _ _ hA.in1 hS rfl (.one ⟨x, hx, rfl⟩) _ fun ρ1 s1 v x1 hS1 r1 => ?_))
  obtain ⟨t1, rfl⟩ := r1
  have hle := (preSum_le (rowLen_le hs) rows.length).2
  have h100 := hs.1
  refine wpAny_bind (wpAny_holding (wpAny_pure ?_))
  refine wpAny_bind (wpAny_letGo ?_)
  show wpAny _ _ (if preSum (rowLen rows) rows.length < 0 then _ else _) _ _ _
  rw [if_neg (by omega)]
  show wpAny _ _ (if preSum (rowLen rows) rows.length ≥ 2 ^ 63 then _ else _) _ _ _
  rw [if_neg (by omega)]
  refine wpAny_bind (wpAny_mkInt (wpAny_pure ?_))
  refine wpAny_pure ?_
  have : (preSum (rowLen rows) rows.length != 0) = true := bne_iff_ne.mpr (by omega)
  exact k ρ1 { s1 with toks := s1.toks + 1 } _ (x1.trans (Ext.same rfl)) (hS1.same rfl rfl rfl (Nat.le_succ_of_le hS1.toks)) this
theorem Cal.strAcc (e : S[i]? = some (.acc 99 d xs)) (e' : S[d]? = some (.obj (AccD a.w.params))) (et : S[t]? = some (.obj (Tab 69))) (hr : RowsAt S xs rows) (hs : small rows) (hj : JoinOk "" (accTexts rows) = true) (hf : framesOk S) : Cal (gl a) (n + 3) (.ext (.type "str")) [.ref i] S (.str (Txt.join "" (accTexts rows))) S := by
  rintro A ρ s g ys hA hS rfl r
  cases r with
  | cons r1 r2 => cases r2 with
    | nil =>
      obtain ⟨x, hx, rfl⟩ := r1
      obtain ⟨x', dx, ws, m, od, g1, g2, g3, g4, g5, g6, I⟩ := acc_at hS e e'
      rw [hx] at g1; cases g1
      intro Q k
      have hA2 : GoodA A.in1.in1 (n + 1) := GoodA.in1 (GoodA.in1 hA)
      refine kso_call (by have := hA2.units; omega) hS.K I (show findIn (kHeap a.w.params) (.ref 99) "__str__" = some (some (.ref 74)) by kernel_rfl) (by kernel_rfl) ?_
      refine Cal.accStr e e' et hr hs hj hf A.in1.in1 ρ s _ _ hA2 hS rfl (.one ⟨x, hx, rfl⟩) _ fun ρ1 s1 v x1 hS1 r1 => ?_
      obtain ⟨t1, rfl⟩ := r1
      exact k ρ1 s1 _ x1 hS1 ⟨_, rfl⟩
theorem Ev.accSize {E : AEnv} {y : Str} {p pos : Pos} (h1 : Ev (gl a) n E (.Name y p) S (.ref i) S) (e : S[i]? = some (.acc 99 d xs)) (e' : S[d]? = some (.obj (AccD a.w.params))) : Ev (gl a) n E (.Attribute (.Name y p) "_initial_size" pos) S (.int 0) S := by
  intro A env ρ s hA hE hS
  refine Run.mk hS fun Q k => Attribute_name (h1 A env ρ s hA hE hS _ fun ρ1 s1 v x1 hS1 r1 => ?_)
  obtain ⟨x, hx, rfl⟩ := r1
  obtain ⟨x', dx, ws, m, od, g1, g2, g3, g4, g5, g6, I⟩ := acc_at hS1 e e'
  rw [hx] at g1; cases g1
  exact acc_size hS1.K I g5 fun t1 => k ρ1 _ _ (x1.trans (Ext.same rfl)) (fun ht => hS1.same rfl rfl rfl ht) ⟨_, rfl⟩
theorem Cal.onlyws (e : S[i]? = some (.acc 99 d xs)) (e' : S[d]? = some (.obj (AccD a.w.params))) (et : S[t]? = some (.obj (Tab 62))) (et' : S[t']? = some (.obj (Tab 69))) (hr : RowsAt S xs rows) (hs : small rows) (hp : 0 < preSum (rowLen rows) rows.length) (hj : JoinOk "" (accTexts rows) = true) (hf : framesOk S) :
    Cal (gl a) (n + 4) (.ext (.ref 89)) [.ref i] S (.bool (Txt.isspace (Txt.join "" (accTexts rows)))) S := by
  refine Cal.closed hf fun hc => ?_
  have hf' : framesOk (S ++ [.frame ([("self" : Str)] ++ []) (startVals [.ref i] [])]) := fun ns vs hm => by
    rcases List.mem_append.mp hm with h | h
    · exact hf ns vs h
    · cases List.mem_singleton.mp h; exact Nat.le_refl _
  refine Cal.fn (S1 := S ++ [.frame ([("self" : Str)] ++ []) (startVals [.ref i] [])]) (fl := .ret (.bool (Txt.isspace (Txt.join "" (accTexts rows))))) [("self" : Str)] [] (σ := List.range S.length) rfl (by kernel_rfl) (fun s xs h _ => BindsTo.of_eq (match xs, h with | [y], _ => rfl)) rfl (by decide) (by decide +kernel) (by decide +kernel) (by kernel_rfl) (by kernel_rfl) (by kernel_rfl) (Exs.stop (Ex.ret ?_))
    (part_top (by simp) (by simp) hc) (fun j hj => List.getElem?_range hj) rfl trivial
  refine Ev.and_t (Ev.cmp (Ev.accSize (Ev.loc 0 (by kernel_rfl) frame_top rfl rfl) (at_old e) (at_old e')) Ev.int Cop.eqi) Tru.bool (Ev.bone (Ev.or_f (Ev.not (Ev.loc 0 (by kernel_rfl) frame_top rfl rfl) (Tru.acc (at_old e) (at_old e') (at_old et) hr.more hs hp hf')) Tru.bool (Ev.bone ?_)))
  exact Ev.meth0 _ (Ev.call (fv := .type "str") (Ev.blt (by kernel_rfl) (by kernel_rfl) (boot_all (by decide +kernel)) (by decide)) (Evs.cons (Ev.loc 0 (by kernel_rfl) frame_top rfl rfl) Evs.nil) (Cal.strAcc (at_old e) (at_old e') (at_old et') hr.more hs hj hf') rfl) Mth.isspace Cal.isspace rfl
end
end Mine
namespace Mine
theorem keep_set {T : List O} {F k : Nat} {o o1 f : O} (h : T[k]? = some o) (hF : T[F]? = some o1) (hne : o ≠ o1) : (T.set F f)[k]? = some o := by
  rw [List.getElem?_set_ne (fun q => ?_)]
  · exact h
  · subst q; rw [h] at hF; cases hF; exact hne rfl
theorem set_here {T : List O} {F : Nat} {o1 f : O} (hF : T[F]? = some o1) : (T.set F f)[F]? = some f := List.getElem?_set_self (List.getElem?_eq_some_iff.mp hF).1
/-- what stood and is no accumulator stands -/
noncomputable def Off (i : Nat) (T T' : List O) : Prop := ∀ k o, k ≠ i → T[k]? = some o → T'[k]? = some o
theorem Off.trans {i : Nat} {T T1 T2 : List O} (h : Off i T T1) (h' : Off i T1 T2) : Off i T T2 := fun k o hk e => h' k o hk (h k o hk e)
theorem RowsAt.off {i C d : Nat} {T T' : List O} {xs ys : List V} {rows : List (Str × Str)} (h : RowsAt T xs rows) (hi : T[i]? = some (.acc C d ys)) (k : ∀ k o, k ≠ i → T[k]? = some o → isFrameO o = false → T'[k]? = some o) : RowsAt T' xs rows :=
  ⟨h.1, fun j p e => let ⟨r, h1, h2⟩ := h.2 j p e; ⟨r, h1, k r _ (fun q => by rw [q, hi] at h2; cases h2) h2 rfl⟩⟩
theorem framesOk.set {T : List O} {F : Nat} {o : O} (h : framesOk T) (ho : ∀ ns vs, o = .frame ns vs → vs.length ≤ ns.length) : framesOk (T.set F o) := fun ns vs hm => by
  rcases List.mem_or_eq_of_mem_set hm with q | q
  · exact h ns vs q
  · exact ho ns vs q.symm
theorem framesOk.add {T : List O} {o : O} (h : framesOk T) (ho : ∀ ns vs, o = .frame ns vs → vs.length ≤ ns.length) : framesOk (T ++ [o]) := fun ns vs hm => by
  rcases List.mem_append.mp hm with q | q
  · exact h ns vs q
  · exact ho ns vs (List.mem_singleton.mp q).symm
theorem RowsAt.push {T : List O} {xs : List V} {rows : List (Str × Str)} {i C d : Nat} {b m : Str} (h : RowsAt T xs rows) (hi : T[i]? = some (.acc C d xs)) : RowsAt (T.set i (.acc C d (xs ++ [.ref T.length])) ++ [.tup [.str b, .str m]]) (xs ++ [.ref T.length]) (rows ++ [(b, m)]) := by
  refine ⟨by simp [h.1], fun j p e => ?_⟩
  by_cases q : j < rows.length
  · rw [List.getElem?_append_left q] at e
    obtain ⟨r, h1, h2⟩ := h.2 j p e
    refine ⟨r, at_oldV h1, at_old (keep_set h2 hi nofun)⟩
  · rw [List.getElem?_append_right (Nat.le_of_not_lt q)] at e
    have hj : j = rows.length := by
      have := (List.getElem?_eq_some_iff.mp e).1
      simp at this; omega
    subst hj
    rw [Nat.sub_self] at e
    cases e
    refine ⟨T.length, by rw [List.getElem?_append_right (Nat.le_of_eq h.1), h.1, Nat.sub_self]; rfl, ?_⟩
    rw [List.getElem?_append_right (by simp)]; simp
where at_oldV {l l' : List V} {j : Nat} {v : V} (h : l[j]? = some v) : (l ++ l')[j]? = some v := by rw [List.getElem?_append_left (List.getElem?_eq_some_iff.mp h).1]; exact h
theorem RowsAt.take {T : List O} {xs : List V} {rows : List (Str × Str)} (h : RowsAt T xs rows) (k : Nat) : RowsAt T (xs.take k) (rows.take k) := by
  refine ⟨by simp [h.1], fun j p e => ?_⟩
  rw [List.getElem?_take] at e
  by_cases q : j < k
  · rw [if_pos q] at e
    obtain ⟨r, h1, h2⟩ := h.2 j p e
    exact ⟨r, by rw [List.getElem?_take, if_pos q]; exact h1, h2⟩
  · rw [if_neg q] at e; cases e
theorem RowsAt.drop {T : List O} {xs : List V} {rows : List (Str × Str)} (h : RowsAt T xs rows) (k : Nat) : RowsAt T (xs.drop k) (rows.drop k) := by
  refine ⟨by simp [h.1], fun j p e => ?_⟩
  rw [List.getElem?_drop] at e
  obtain ⟨r, h1, h2⟩ := h.2 _ p e
  exact ⟨r, by rw [List.getElem?_drop]; exact h1, h2⟩
end Mine
namespace Mine
noncomputable def layNs : List Str := [("pile" : Str), ("sign" : Str), ("old" : Str), ("new" : Str)] ++ [("row" : Str), ("pieces" : Str), ("blank" : Str), ("marks" : Str)]
noncomputable def layVs (i o w : Nat) (sg : Str) (vs : List (Option V)) : List (Option V) := [some (.ref i), some (.str sg), some (.ref o), some (.ref w)] ++ vs
noncomputable def Kp (i F : Nat) (T T' : List O) : Prop := ∀ k x, k ≠ i → k ≠ F → T[k]? = some x → T'[k]? = some x
theorem Kp.trans {i F : Nat} {T T1 T2 : List O} (h : Kp i F T T1) (h' : Kp i F T1 T2) : Kp i F T T2 := fun k x h1 h2 e => h' k x h1 h2 (h k x h1 h2 e)
/-- the state in _law_lay -/
structure LayAt (P : Params) (i d F o w : Nat) (sg : Str) (old new : List Int) (S0 T : List O) (rows : List (Str × Str)) (vs : List (Option V)) : Prop where
  acc : ∃ xs, T[i]? = some (.acc 99 d xs) ∧ RowsAt T xs rows
  dic : T[d]? = some (.obj (AccD P))
  frm : T[F]? = some (.frame layNs (layVs i o w sg vs))
  len : vs.length = 4
  old : T[o]? = some (.list (vInts old))
  new : T[w]? = some (.list (vInts new))
  ok : framesOk T
  base : ∀ k x, k ≠ i → S0[k]? = some x → T[k]? = some x
  off : ∀ k x, S0[k]? = some x → k ≠ F
section
variable {P : Params} {i d F o w : Nat} {sg : Str} {old new : List Int} {S0 T T' : List O} {rows rows' : List (Str × Str)} {vs vs' : List (Option V)}
theorem LayAt.away (h : LayAt P i d F o w sg old new S0 T rows vs) {k : Nat} {x : O} (e : T[k]? = some x) (h1 : ∀ C d xs, x ≠ .acc C d xs) (h2 : ∀ ns vs, x ≠ .frame ns vs) : k ≠ i ∧ k ≠ F := by
  obtain ⟨xs, ha, _⟩ := h.acc
  exact ⟨fun q => by rw [q, ha] at e; cases e; exact h1 _ _ _ rfl, fun q => by rw [q, h.frm] at e; cases e; exact h2 _ _ rfl⟩
theorem LayAt.rowsKp (h : LayAt P i d F o w sg old new S0 T rows vs) (kp : Kp i F T T') {xs : List V} {rs : List (Str × Str)} (hr : RowsAt T xs rs) : RowsAt T' xs rs :=
  ⟨hr.1, fun j p e => let ⟨r, h1, h2⟩ := hr.2 j p e; let ⟨q1, q2⟩ := h.away h2 nofun nofun; ⟨r, h1, kp r _ q1 q2 h2⟩⟩
theorem LayAt.step (h : LayAt P i d F o w sg old new S0 T rows vs) (kp : Kp i F T T') (ha : ∃ xs, T'[i]? = some (.acc 99 d xs) ∧ RowsAt T' xs rows') (hf : T'[F]? = some (.frame layNs (layVs i o w sg vs'))) (hl : vs'.length = 4) (hk : framesOk T') : LayAt P i d F o w sg old new S0 T' rows' vs' :=
  have go : ∀ {k : Nat} {x : O}, T[k]? = some x → (∀ C d xs, x ≠ .acc C d xs) → (∀ ns vs, x ≠ .frame ns vs) → T'[k]? = some x := fun e h1 h2 => let ⟨q1, q2⟩ := h.away e h1 h2; kp _ _ q1 q2 e
  ⟨ha, go h.dic nofun nofun, hf, hl, go h.old nofun nofun, go h.new nofun nofun, hk, fun k x hk e => kp k x hk (h.off k x e) (h.base k x hk e), h.off⟩
theorem layNs_nd : layNs.Nodup := by decide +kernel
variable {a : LA} {n : Nat} {E : AEnv}
/-- a local name of its own takes a value -/
theorem LayAt.put (h : LayAt P i d F o w sg old new S0 T rows vs) (hF : E.fid = F) {y : Str} {v : V} (j : Nat) (hk : E.scope.names.lookup y = some .local) (hj : layNs[4 + j]? = some y) :
    ∃ T', Sto (gl a) E y v T T' ∧ LayAt P i d F o w sg old new S0 T' rows (vs.set j (some v)) ∧ Kp i F T T' := by
  subst hF
  have kp : Kp i E.fid T (T.set E.fid (.frame layNs ((layVs i o w sg vs).set (4 + j) (some v)))) := fun k x _ h2 e => by rw [List.getElem?_set_ne (fun q => h2 q.symm)]; exact e
  have hv : (layVs i o w sg vs).set (4 + j) (some v) = layVs i o w sg (vs.set j (some v)) := by
    unfold layVs
    rw [List.set_append_right _ _ (by simp)]
    simp
  refine ⟨_, Sto.loc (4 + j) hk h.frm hj layNs_nd (by simp [layNs, layVs, h.len]), ?_, kp⟩
  obtain ⟨xs, ha, hr⟩ := h.acc
  refine h.step kp ⟨xs, keep_set ha h.frm nofun, h.rowsKp kp hr⟩ ?_ (by simp [h.len]) (h.ok.set fun ns vs e => ?_)
  · rw [← hv]; exact set_here h.frm
  · cases e; simp [layNs, layVs, h.len]
theorem LayAt.add (h : LayAt P i d F o w sg old new S0 T rows vs) {x : O} (hx : ∀ ns vs, x ≠ .frame ns vs) : LayAt P i d F o w sg old new S0 (T ++ [x]) rows vs ∧ Kp i F T (T ++ [x]) := by
  have kp : Kp i F T (T ++ [x]) := fun k x _ _ e => at_old e
  obtain ⟨xs, ha, hr⟩ := h.acc
  exact ⟨h.step kp ⟨xs, at_old ha, hr.more⟩ (at_old h.frm) h.len (h.ok.add fun ns vs e => absurd e (hx ns vs)), kp⟩
/-- pile.push(b, m) -/
theorem LayAt.push (h : LayAt a.w.params i d F o w sg old new S0 T rows vs) (hF : E.fid = F) (hs : rows.length ≤ 100) {e1 e2 : Expr} {p1 p2 p3 p4 : Pos} {b m : Str} (pl : Env → Sem Bool) (hk : E.scope.names.lookup ("pile" : Str) = some .local) (h1 : Ev (gl a) (n + 1) E e1 T (.str b) T) (h2 : Ev (gl a) (n + 1) E e2 T (.str m) T)
    (hc : ∀ env, eval (((Expr.Name "pile" p1).Attribute "push" p2).Call [e1, e2] [] p3) env = (do
          let ov ← eval (Expr.Name "pile" p1) env
          standAt p2.atName
          let (f, first) ← holding [ov] (getMethod ov "push" (pl env))
          callWith p3 f first (backTo p3 (starEach [e1, e2] env)) []))
    (hs1 : ∀ env, starEach [e1, e2] env = (false, eval e1 env) :: starEach [e2] env) (hs2 : ∀ env, starEach [e2] env = (false, eval e2 env) :: starEach [] env) (hp : ∀ env, (backTo p3 (starEach [e2] env)).any (·.1) = false) (hw : ∀ env : Env, swapsWith (((Expr.Name "pile" p1).Attribute "push" p2).Call [e1, e2] [] p3) none p4.line env = pure false) :
    ∃ T', Ex (gl a) (n + 1) E (.Expr (((Expr.Name "pile" p1).Attribute "push" p2).Call [e1, e2] [] p3) p4) T .next T' ∧ LayAt a.w.params i d F o w sg old new S0 T' (rows ++ [(b, m)]) vs ∧ Kp i F T T' := by
  subst hF
  obtain ⟨xs, ha, hr⟩ := h.acc
  have hx : xs.length ≤ sizeLine := by rw [hr.1]; exact Nat.le_trans hs (by decide)
  have kp : Kp i E.fid T (T.set i (.acc 99 d (xs ++ [.ref T.length])) ++ [.tup [.str b, .str m]]) := fun k x q1 _ e => at_old (by rw [List.getElem?_set_ne (fun q => q1 q.symm)]; exact e)
  refine ⟨_, Ex.expr (Ev.meth pl (Ev.loc 0 hk h.frm rfl rfl) (Mth.acc (f := .ref 45) (t := .type "function") ha h.dic (by kernel_rfl) (by kernel_rfl) (by decide) (by decide +kernel)) (Evs.cons h1 (Evs.cons h2 Evs.nil hs2) hs1) (Cal.push ha h.dic hx h.ok trivial trivial) (by kernel_rfl) hc hs1 hp) hw, ?_, kp⟩
  exact h.step kp ⟨_, at_old (set_here ha), hr.push ha⟩ (at_old (keep_set h.frm ha nofun)) h.len ((h.ok.set fun ns vs e => by cases e).add fun ns vs e => by cases e)
end
end Mine
namespace Mine
section
variable {a : LA} {n : Nat} {E : AEnv} {i d F o w : Nat} {sg : Str} {old new : List Int} {S0 : List O}
theorem lay_at {vs : List (Option V)} {j : Nat} : (layVs i o w sg vs)[4 + j]? = vs[j]? := by
  unfold layVs
  rw [List.getElem?_append_right (by simp)]
  simp
theorem lay_inner {pb pm p1 p2 p3 p4 p5 p6 tp : Pos} {kt : Nat} (pl : Env → Sem Bool) (hF : E.fid = F) (hk : ∀ x ∈ layNs, E.scope.names.lookup x = some .local)
    (hc : ∀ env, eval (((Expr.Name "pile" p1).Attribute "push" p2).Call [.Name "blank" p5, .Name "marks" p6] [] p3) env = (do
          let ov ← eval (Expr.Name "pile" p1) env
          standAt p2.atName
          let (f, first) ← holding [ov] (getMethod ov "push" (pl env))
          callWith p3 f first (backTo p3 (starEach [.Name "blank" p5, .Name "marks" p6] env)) [])) :
    ∀ (rest : List (Str × Str)) (T : List O) (k p : Nat) (ps : List V) (rows : List (Str × Str)) (vs : List (Option V)), LayAt a.w.params i d F o w sg old new S0 T rows vs → T[p]? = some (.list ps) → RowsAt T (ps.drop k) rest → rows.length + rest.length ≤ 100 →
      ∃ T' vs', Loop (gl a) (n + 1) E (.Tuple [.Name "blank" pb, .Name "marks" pm] kt tp) [.Expr (((Expr.Name "pile" p1).Attribute "push" p2).Call [.Name "blank" p5, .Name "marks" p6] [] p3) p4] (.lst p k) T .next T' ∧
        LayAt a.w.params i d F o w sg old new S0 T' (rows ++ rest) vs' ∧ Kp i F T T'
  | [], T, k, p, ps, rows, vs, h, hp, hr, hl => by
    refine ⟨T, vs, Loop.done (.lstE hp ?_), by rw [List.append_nil]; exact h, fun k x _ _ e => e⟩
    have := hr.1
    rw [List.length_drop] at this
    exact List.getElem?_eq_none (by simp at this; omega)
  | (b, m) :: rest, T, k, p, ps, rows, vs, h, hp, hr, hl => by
    obtain ⟨r, h1, h2⟩ := hr.2 0 (b, m) rfl
    rw [List.getElem?_drop, Nat.add_zero] at h1
    obtain ⟨T1, s1, a1, k1⟩ := h.put (v := .str b) hF 2 (hk ("blank" : Str) (by decide +kernel)) rfl
    obtain ⟨T2, s2, a2, k2⟩ := a1.put (v := .str m) hF 3 (hk ("marks" : Str) (by decide +kernel)) rfl
    have hb : (layVs i o w sg ((vs.set 2 (some (.str b))).set 3 (some (.str m))))[6]? = some (some (.str b)) := by
      rw [show (6 : Nat) = 4 + 2 from rfl, lay_at, List.getElem?_set_ne (by decide), List.getElem?_set_self (by rw [h.len]; decide)]
    have hm : (layVs i o w sg ((vs.set 2 (some (.str b))).set 3 (some (.str m))))[7]? = some (some (.str m)) := by
      rw [show (7 : Nat) = 4 + 3 from rfl, lay_at, List.getElem?_set_self (by rw [List.length_set, h.len]; decide)]
    have e2 : T2[E.fid]? = some (.frame layNs (layVs i o w sg ((vs.set 2 (some (.str b))).set 3 (some (.str m))))) := hF ▸ a2.frm
    obtain ⟨T3, x3, a3, k3⟩ := a2.push (e1 := .Name "blank" p5) (e2 := .Name "marks" p6) (p1 := p1) (p2 := p2) (p3 := p3) (p4 := p4) (b := b) (m := m) hF (by simp at hl; omega) pl (hk ("pile" : Str) (by decide +kernel)) (Ev.loc 6 (hk ("blank" : Str) (by decide +kernel)) e2 rfl hb) (Ev.loc 7 (hk ("marks" : Str) (by decide +kernel)) e2 rfl hm) hc (fun _ => rfl) (fun _ => rfl) (fun _ => rfl) (fun _ => rfl)
    have k03 := (k1.trans k2).trans k3
    obtain ⟨q1, q2⟩ := h.away hp nofun nofun
    obtain ⟨T4, vs4, x4, a4, k4⟩ := lay_inner pl hF hk hc rest T3 (k + 1) p ps (rows ++ [(b, m)]) _ a3 (k03 _ _ q1 q2 hp) (h.rowsKp k03 (by
      have := hr.drop 1
      rw [List.drop_drop] at this
      exact this)) (by simp at hl ⊢; omega)
    refine ⟨T4, vs4, Loop.next (.lstN hp h1) (Asg.tup h2 (.cons s1 (.cons s2 .nil))) (Exs.cons x3 Exs.nil) x4, by rw [List.append_assoc] at a4; exact a4, k03.trans k4⟩
end
end Mine
namespace Mine
noncomputable def forB : List Stmt → List Stmt
  | .For _ _ b _ _ :: _ => b
  | _ => []
noncomputable def rowOf (sg : Str) (k : Int) : Str × Str := (" ", Txt.mul sg k)
section
variable {a : LA} {n : Nat} {i d F o w : Nat} {sg : Str} {old new : List Int} {S0 T : List O}
theorem vInts_at {l : List Int} {j : Nat} {k : Int} (h : l[j]? = some k) : (vInts l)[j]? = some (V.int k) := by
  unfold vInts; rw [List.getElem?_map, h]; rfl
theorem LayAt.pop {P : Params} {rows : List (Str × Str)} {vs : List (Option V)} (h : LayAt P i d F o w sg old new S0 T rows vs) {xs : List V} (ha : T[i]? = some (.acc 99 d xs)) (hr : RowsAt T xs rows) (k : Nat) :
    LayAt P i d F o w sg old new S0 (T.set i (.acc 99 d (xs.take k)) ++ [.list (xs.drop k)]) (rows.take k) vs ∧ Kp i F T (T.set i (.acc 99 d (xs.take k)) ++ [.list (xs.drop k)]) := by
  have kp : Kp i F T (T.set i (.acc 99 d (xs.take k)) ++ [.list (xs.drop k)]) := fun k x q1 _ e => at_old (by rw [List.getElem?_set_ne (fun q => q1 q.symm)]; exact e)
  exact ⟨h.step kp ⟨_, at_old (set_here ha), h.rowsKp kp (hr.take k)⟩ (at_old (keep_set h.frm ha nofun)) h.len ((h.ok.set fun ns vs e => by cases e).add fun ns vs e => by cases e), kp⟩
/-- one turn of _law_lay's loop -/
theorem lay_turn {rows : List (Str × Str)} {vs : List (Option V)} {r : Nat} {x y : Int} (h : LayAt a.w.params i d F o w sg old new S0 T rows vs) (hv : vs[0]? = some (some (.int r))) (hx : old[r]? = some x) (hy : new[r]? = some y) (hrow : rows[r]? = some (rowOf sg x)) (hr9 : r < 9) (hl : rows.length ≤ 90) (hm : MulOk sg y) :
    ∃ T' vs', Exs (gl a) (n + 1) ⟨scopeD (stAt 62), F, []⟩ (forB (bodyD (stAt 62))) T .next T' ∧ LayAt a.w.params i d F o w sg old new S0 T' (rows.set r (rowOf sg y)) vs' ∧ Kp i F T T' := by
  have hk : ∀ x ∈ layNs, (scopeD (stAt 62)).names.lookup x = some .local := by decide +kernel
  have hsub : ∀ {T1 : List O} {vs1 : List (Option V)} {rows1 : List (Str × Str)} {p1 p2 p3 : Pos}, LayAt a.w.params i d F o w sg old new S0 T1 rows1 vs1 → vs1[0]? = some (some (.int r)) → Ev (gl a) (n + 1) ⟨scopeD (stAt 62), F, []⟩ (.Subscript (.Name "new" p1) (.Name "row" p2) p3) T1 (.int y) T1 :=
    fun h1 hv1 => Ev.sub (Ev.loc 3 (hk _ (by decide +kernel)) h1.frm rfl rfl) (Ev.loc 4 (hk _ (by decide +kernel)) h1.frm rfl (by rw [show (4 : Nat) = 4 + 0 from rfl, lay_at]; exact hv1)) (Itm.list (k := (r : Int)) h1.new (Int.natCast_nonneg _) (by rw [Int.toNat_natCast]; exact vInts_at hy) (by omega))
  have hsub' : ∀ {p1 p2 p3 : Pos}, Ev (gl a) (n + 1) ⟨scopeD (stAt 62), F, []⟩ (.Subscript (.Name "old" p1) (.Name "row" p2) p3) T (.int x) T :=
    Ev.sub (Ev.loc 2 (hk _ (by decide +kernel)) h.frm rfl rfl) (Ev.loc 4 (hk _ (by decide +kernel)) h.frm rfl (by rw [show (4 : Nat) = 4 + 0 from rfl, lay_at]; exact hv)) (Itm.list (k := (r : Int)) h.old (Int.natCast_nonneg _) (by rw [Int.toNat_natCast]; exact vInts_at hx) (by omega))
  by_cases q : y = x
  · subst q
    refine ⟨T, vs, Exs.cons (Ex.if_f (Tst.cmp (c := false) (hsub h hv) hsub' (by have := Cop.nei (G := gl a) (n := n + 1) (S := T) (a := y) (b := y); rw [show (y != y) = false by simp] at this; exact this)) Exs.nil) Exs.nil, ?_, fun k x _ _ e => e⟩
    have : rows.set r (rowOf sg y) = rows := by
      apply List.ext_getElem?
      intro j
      by_cases q : j = r
      · subst q; rw [List.getElem?_set_self (List.getElem?_eq_some_iff.mp hrow).1, hrow]
      · rw [List.getElem?_set_ne (fun z => q z.symm)]
    rw [this]; exact h
  · obtain ⟨xs, ha, hr⟩ := h.acc
    have hrl : r < rows.length := (List.getElem?_eq_some_iff.mp hrow).1
    have hxl : r ≤ xs.length := by rw [hr.1]; omega
    obtain ⟨a1, k1⟩ := h.pop ha hr r
    obtain ⟨T2, s2, a2, k2⟩ := a1.put (v := .ref T.length) (E := ⟨scopeD (stAt 62), F, []⟩) (a := a) rfl 1 (hk ("pieces" : Str) (by decide +kernel)) rfl
    have hv2 : (vs.set 1 (some (.ref T.length)))[0]? = some (some (.int r)) := by rw [List.getElem?_set_ne (by decide)]; exact hv
    obtain ⟨T3, s3, a3, k3⟩ := a2.push (a := a) (n := n) (E := ⟨scopeD (stAt 62), F, []⟩) (e1 := .Constant (.str " ") 0 ⟨160, 22, 160, 25⟩) (e2 := .BinOp (.Name "sign" ⟨160, 27, 160, 31⟩) .Mult (.Subscript (.Name "new" ⟨160, 34, 160, 37⟩) (.Name "row" ⟨160, 38, 160, 41⟩) ⟨160, 34, 160, 42⟩) ⟨160, 27, 160, 42⟩) (p1 := ⟨160, 12, 160, 16⟩) (p2 := ⟨160, 12, 160, 21⟩) (p3 := ⟨160, 12, 160, 43⟩) (p4 := ⟨160, 12, 160, 43⟩) (b := " ") (m := Txt.mul sg y) rfl (by simp; omega) _ (hk ("pile" : Str) (by decide +kernel)) Ev.str
      (Ev.bin (Ev.loc 1 (hk ("sign" : Str) (by decide +kernel)) a2.frm rfl rfl) (hsub a2 hv2) (Bop.mulStr hm)) (fun _ => rfl) (fun _ => rfl) (fun _ => rfl) (fun _ => rfl) (fun _ => rfl)
    have k03 := (k1.trans k2).trans k3
    have kq : (T.set i (.acc 99 d (xs.take r)) ++ [O.list (xs.drop r)])[T.length]? = some (.list (xs.drop r)) := by
      rw [List.getElem?_append_right (by simp)]; simp
    obtain ⟨w1, w2⟩ := a1.away kq nofun nofun
    have kp3 := (k2.trans k3) _ _ w1 w2 kq
    have hp3 : (layVs i o w sg (vs.set 1 (some (.ref T.length))))[5]? = some (some (.ref T.length)) := by
      rw [show (5 : Nat) = 4 + 1 from rfl, lay_at, List.getElem?_set_self (by rw [h.len]; decide)]
    obtain ⟨a4, k4⟩ := a3.add (x := .list (cutOf (xs.drop r) (some 1) none)) nofun
    have hcut : cutOf (xs.drop r) (some 1) none = (xs.drop r).drop 1 := cut_from (k := 1) (by rw [List.length_drop, hr.1]; omega)
    have kr : (T3 ++ [O.list (cutOf (xs.drop r) (some 1) none)])[T3.length]? = some (.list (cutOf (xs.drop r) (some 1) none)) := by
      rw [List.getElem?_append_right (Nat.le_refl _)]; simp
    obtain ⟨T5, vs5, l5, a5, k5⟩ := lay_inner (a := a) (n := n) (E := ⟨scopeD (stAt 62), F, []⟩) (pb := ⟨161, 16, 161, 21⟩) (pm := ⟨161, 23, 161, 28⟩) (p1 := ⟨162, 16, 162, 20⟩) (p2 := ⟨162, 16, 162, 25⟩) (p3 := ⟨162, 16, 162, 39⟩) (p4 := ⟨162, 16, 162, 39⟩) (p5 := ⟨162, 26, 162, 31⟩) (p6 := ⟨162, 33, 162, 38⟩) (tp := ⟨161, 16, 161, 28⟩) (kt := 0) _ rfl hk (fun _ => rfl)
      (rows.drop (r + 1)) _ 0 T3.length _ _ _ a4 kr (by
        rw [List.drop_zero]
        have e := h.rowsKp (k03.trans k4) (hr.drop (r + 1))
        rw [List.drop_drop] at hcut
        exact Eq.subst (motive := fun z => RowsAt (T3 ++ [O.list (cutOf (xs.drop r) (some 1) none)]) z (rows.drop (r + 1))) hcut.symm e) (by simp; omega)
    refine ⟨T5, vs5, Exs.cons (Ex.if_t (Tst.cmp (c := true) (hsub h hv) hsub' (by have := Cop.nei (G := gl a) (n := n + 1) (S := T) (a := y) (b := x); rw [show (y != x) = true by simpa using q] at this; exact this)) (Exs.cons (Ex.assign (Ev.meth _ (Ev.loc 0 (hk _ (by decide +kernel)) h.frm rfl rfl) (Mth.acc (f := .ref 53) (t := .type "function") ha h.dic (by kernel_rfl) (by kernel_rfl) (by decide) (by decide +kernel)) (Evs.cons (Ev.loc 4 (hk _ (by decide +kernel)) h.frm rfl (by rw [show (4 : Nat) = 4 + 0 from rfl, lay_at]; exact hv)) Evs.nil) (Cal.popFrom ha h.dic (by rw [hr.1]; omega) hxl h.ok) (by kernel_rfl)) s2) (Exs.cons s3 (Exs.cons (Ex.for (Ev.slice (Ev.loc 5 (hk _ (by decide +kernel)) a3.frm rfl hp3) (.some Ev.int) .none kp3 (by rw [List.length_drop, hr.1]; exact Nat.le_trans (Nat.sub_le _ _) (Nat.le_trans hl (by decide)))) (Itr.list kr) l5 rfl) Exs.nil)))) Exs.nil, ?_, (k03.trans k4).trans k5⟩
    have : rows.take r ++ [rowOf sg y] ++ rows.drop (r + 1) = rows.set r (rowOf sg y) := by
      rw [List.set_eq_take_append_cons_drop, if_pos hrl]; simp
    rw [← this]; exact a5
end
end Mine
namespace Mine
section
variable {a : LA} {n : Nat} {i d F o w : Nat} {sg : Str} {old new : List Int} {S0 : List O}
theorem mix_set {r : Nat} {y : Int} (hy : new[r]? = some y) (hr : r < old.length) : ((new.take r ++ old.drop r).map (rowOf sg)).set r (rowOf sg y) = (new.take (r + 1) ++ old.drop (r + 1)).map (rowOf sg) := by
  have hl := (List.getElem?_eq_some_iff.mp hy).1
  rw [← List.map_set, List.set_append_right _ _ (by rw [List.length_take]; omega), List.length_take, Nat.min_eq_left (Nat.le_of_lt hl), Nat.sub_self, List.drop_eq_getElem_cons hr, List.set_cons_zero, List.take_add_one, hy]
  simp
theorem lay_loop (hold : old.length = 4) (hnew : new.length = 4) (hm : ∀ k ∈ new, MulOk sg k) {p : Pos} : ∀ (m r : Nat) (T : List O) (vs : List (Option V)), r + m = 4 → LayAt a.w.params i d F o w sg old new S0 T ((new.take r ++ old.drop r).map (rowOf sg)) vs →
    ∃ T' vs', Loop (gl a) (n + 1) ⟨scopeD (stAt 62), F, []⟩ (.Name "row" p) (forB (bodyD (stAt 62))) (.rng (r : Int) m) T .next T' ∧ LayAt a.w.params i d F o w sg old new S0 T' (new.map (rowOf sg)) vs'
  | 0, r, T, vs, hr, h => by
    have : new.take r ++ old.drop r = new := by
      rw [List.take_of_length_le (by omega), List.drop_of_length_le (by omega), List.append_nil]
    rw [this] at h
    exact ⟨T, vs, Loop.done .rngE, h⟩
  | m + 1, r, T, vs, hr, h => by
    obtain ⟨x, hx⟩ : ∃ x, old[r]? = some x := ⟨_, List.getElem?_eq_getElem (by omega)⟩
    obtain ⟨y, hy⟩ : ∃ y, new[r]? = some y := ⟨_, List.getElem?_eq_getElem (by omega)⟩
    obtain ⟨T1, s1, a1, k1⟩ := h.put (v := .int r) (E := ⟨scopeD (stAt 62), F, []⟩) (a := a) (y := "row") rfl 0 (by kernel_rfl) rfl
    have hrow : ((new.take r ++ old.drop r).map (rowOf sg))[r]? = some (rowOf sg x) := by
      rw [List.getElem?_map, List.getElem?_append_right (by rw [List.length_take]; omega), List.length_take, Nat.min_eq_left (by omega), Nat.sub_self, List.getElem?_drop, Nat.add_zero, hx]; rfl
    obtain ⟨T2, vs2, s2, a2, k2⟩ := lay_turn (n := n) a1 (List.getElem?_set_self (by rw [h.len]; decide)) hx hy hrow (by omega) (by simp; omega) (hm y (List.mem_of_getElem? hy))
    rw [mix_set hy (by omega)] at a2
    obtain ⟨T3, vs3, s3, a3⟩ := lay_loop hold hnew hm m (r + 1) T2 vs2 (by omega) a2
    exact ⟨T3, vs3, Loop.next .rngN (Asg.name s1) s2 (by rw [Int.natCast_add] at s3; exact s3), a3⟩
theorem Cal.lay (hold : old.length = 4) (hnew : new.length = 4) (hm : ∀ k ∈ new, MulOk sg k) {xs : List V} (ha : S0[i]? = some (.acc 99 d xs)) (hr : RowsAt S0 xs (old.map (rowOf sg))) (hd : S0[d]? = some (.obj (AccD a.w.params))) (ho : S0[o]? = some (.list (vInts old))) (hw : S0[w]? = some (.list (vInts new))) (hf : framesOk S0) :
    ∃ T, Cal (gl a) (n + 2) (.ext (.ref 158)) [.ref i, .str sg, .ref o, .ref w] S0 .none T ∧ (∃ xs', T[i]? = some (.acc 99 d xs') ∧ RowsAt T xs' (new.map (rowOf sg))) ∧ framesOk T ∧ ∀ k x, k ≠ i → S0[k]? = some x → T[k]? = some x := by
  have h0 : LayAt a.w.params i d S0.length o w sg old new S0 (S0 ++ [.frame layNs (layVs i o w sg [none, none, none, none])]) (old.map (rowOf sg)) [none, none, none, none] :=
    ⟨⟨xs, at_old ha, hr.more⟩, at_old hd, frame_top, rfl, at_old ho, at_old hw, hf.add fun ns vs e => by cases e; exact Nat.le_refl 8, fun k x _ e => at_old e, fun k x e => Nat.ne_of_lt (List.getElem?_eq_some_iff.mp e).1⟩
  obtain ⟨T, vs, l, h⟩ := lay_loop (n := n) (p := ⟨157, 8, 157, 11⟩) hold hnew hm 4 0 _ _ rfl (by simpa using h0)
  refine ⟨T, ?_, h.acc, h.ok, h.base⟩
  exact Cal.fnT (fl := .next) [("pile" : Str), ("sign" : Str), ("old" : Str), ("new" : Str)] [("row" : Str), ("pieces" : Str), ("blank" : Str), ("marks" : Str)] rfl (by kernel_rfl) (fun s xs h _ => BindsTo.of_eq (match xs, h with | [x1, x2, x3, x4], _ => rfl)) rfl (by decide) (by decide +kernel) (by decide +kernel) (by kernel_rfl) (by kernel_rfl) (by kernel_rfl)
    (fun A ρ s L hA hE hS => Exs.cons (Ex.forI (Iti.range1 (Ev.blt (by kernel_rfl) (by kernel_rfl) (boot_all (by decide +kernel)) (by decide)) Ev.int (by decide) (by decide)) l rfl) Exs.nil A _ ρ s hA hE hS)
end
end Mine
namespace Mine
section
variable {G : Glo} {n : Nat} {E : AEnv} {S S1 : List O}
/-- replace, with two texts written -/
theorem Ev.repl {e : Expr} {p1 p2 p3 pos : Pos} {k1 k2 : Nat} {x y z : Str} (pl : Env → Sem Bool) (hlo : 1 ≤ G.lo) (h1 : Ev G n E e S (.str x) S1) (hyz : (y == z) = false) (hb : x.length + (x.length + 1) * z.length ≤ 16777216)
    (hc : ∀ env, eval ((e.Attribute "replace" p1).Call [.Constant (.str y) k1 p2, .Constant (.str z) k2 p3] [] pos) env = (do
          let ov ← eval e env
          standAt p1.atName
          let (f, first) ← holding [ov] (getMethod ov "replace" (pl env))
          callWith pos f first (backTo pos (starEach [.Constant (.str y) k1 p2, .Constant (.str z) k2 p3] env)) []) := by (intro _; rfl)) :
    Ev G n E ((e.Attribute "replace" p1).Call [.Constant (.str y) k1 p2, .Constant (.str z) k2 p3] [] pos) S (.str (Txt.replace x y z)) S1 := by
  intro A env ρ s hA hE hS
  refine Run.mk hS fun Q k => MethodCall_ (h1 A env ρ s hA hE hS _ fun ρ1 s1 v x1 hS1 r1 => ?_) (hc env)
  obtain ⟨t, rfl⟩ := r1
  have h1t := Nat.le_trans hlo hS1.toks
  refine GM.of (.str x t) (typeIs_str _ _ _) PySem.F.slot_str_replace PySem.F.type_str_replace GM.noRef ?_
  refine callWith_method1 (spliced_more (wpAny_Constant_str (spliced_more (wpAny_Constant_str (spliced_none ?_)))))
  refine PySem.SC.replace ?_ ?_ ?_ hyz hb fun t' tk => k ρ1 _ _ (x1.trans (Ext.same rfl)) (fun ht => hS1.same rfl rfl rfl ht) ⟨_, rfl⟩
  · exact Nat.ne_of_gt h1t
  · exact Nat.succ_ne_zero _
  · exact Nat.ne_of_lt (Nat.lt_succ_self _)
end
end Mine
namespace Mine
noncomputable def escS (y z x : Str) : Str := bif Txt.contains x y then Txt.replace x y z else x
noncomputable def escT (x : Str) : Str := escS "\r" "&#xD;" (escS ">" "&gt;" (escS "<" "&lt;" (escS "&" "&amp;" x)))
section
variable {a : LA} {n : Nat} {S : List O}
theorem esc_if {E : AEnv} {p1 p2 p3 p4 p5 p6 p7 p8 p9 p10 p11 : Pos} {k1 k2 k3 : Nat} {x y z : Str} (pl : Env → Sem Bool) (hF : E.fid = S.length) (hk : E.scope.names.lookup ("text" : Str) = some .local) (hyz : (y == z) = false) (hb : x.length ≤ 1000 ∧ z.length ≤ 6)
    (hc : ∀ env, eval (((Expr.Name "text" p5).Attribute "replace" p6).Call [.Constant (.str y) k2 p7, .Constant (.str z) k3 p8] [] p9) env = (do
          let ov ← eval (Expr.Name "text" p5) env
          standAt p6.atName
          let (f, first) ← holding [ov] (getMethod ov "replace" (pl env))
          callWith p9 f first (backTo p9 (starEach [.Constant (.str y) k2 p7, .Constant (.str z) k3 p8] env)) []))
    (hs : ∀ env : Env, env.scope = E.scope → swapsWith (((Expr.Name "text" p5).Attribute "replace" p6).Call [.Constant (.str y) k2 p7, .Constant (.str z) k3 p8] [] p9) (some (.Name "text" p4)) p10.line env = pure false) :
    Ex (gl a) n E (.If (.Compare (.Constant (.str y) k1 p1) [.In] [.Name "text" p2] p3) [.Assign [.Name "text" p4] (((Expr.Name "text" p5).Attribute "replace" p6).Call [.Constant (.str y) k2 p7, .Constant (.str z) k3 p8] [] p9) p10] [] p11) (S ++ [.frame [("text" : Str)] [some (.str x)]]) .next (S ++ [.frame [("text" : Str)] [some (.str (escS y z x))]]) := by
  have hl : Ev (gl a) n E (.Name "text" p2) (S ++ [.frame [("text" : Str)] [some (.str x)]]) (.str x) (S ++ [.frame [("text" : Str)] [some (.str x)]]) := Ev.loc 0 hk (hF ▸ frame_top) rfl rfl
  have hl' : Ev (gl a) n E (.Name "text" p5) (S ++ [.frame [("text" : Str)] [some (.str x)]]) (.str x) (S ++ [.frame [("text" : Str)] [some (.str x)]]) := Ev.loc 0 hk (hF ▸ frame_top) rfl rfl
  have hcop : Cop (gl a) n .In (.str y) (.str x) (S ++ [.frame [("text" : Str)] [some (.str x)]]) (.bool (Txt.contains x y)) (S ++ [.frame [("text" : Str)] [some (.str x)]]) := Cop.inStr
  unfold escS
  cases q : Txt.contains x y with
  | false =>
    rw [q] at hcop
    exact Ex.if_f (Tst.cmp Ev.str hl hcop) Exs.nil
  | true =>
    rw [q] at hcop
    refine Ex.if_t (Tst.cmp Ev.str hl hcop) (Exs.cons (Ex.to (Ex.assign (Ev.repl pl a.lo1 hl' hyz (by
      have h1 : (x.length + 1) * z.length ≤ (x.length + 1) * 6 := Nat.mul_le_mul_left _ hb.2
      have := hb.1
      omega) hc) (Sto.loc (ns := [("text" : Str)]) (vs := [some (.str x)]) 0 hk (hF ▸ frame_top) rfl (by decide) rfl) hs) ?_) Exs.nil)
    rw [hF, List.set_append_right _ _ (Nat.le_refl _), Nat.sub_self]; rfl
theorem Cal.escape {x : Str} (h0 : x.length ≤ 1000) (h1 : (escS "&" "&amp;" x).length ≤ 1000) (h2 : (escS "<" "&lt;" (escS "&" "&amp;" x)).length ≤ 1000) (h3 : (escS ">" "&gt;" (escS "<" "&lt;" (escS "&" "&amp;" x))).length ≤ 1000) (hf : framesOk S) :
    Cal (gl a) (n + 1) (.ext (.ref 120)) [.str x] S (.str (escT x)) S := by
  refine Cal.closed hf fun hc => ?_
  have hk : (scopeD (stAt 55)).names.lookup ("text" : Str) = some .local := by kernel_rfl
  refine Cal.fn (S1 := S ++ [.frame [("text" : Str)] [some (.str (escT x))]]) (fl := .ret (.str (escT x))) [("text" : Str)] [] (σ := List.range S.length) rfl (by kernel_rfl) (fun s xs h _ => BindsTo.of_eq (match xs, h with | [y], _ => rfl)) rfl (by decide) (by decide +kernel) (by decide +kernel) (by kernel_rfl) (by kernel_rfl) (by kernel_rfl) (Exs.stop (Ex.try ?_))
    (part_top (by simp) (by simp) hc) (fun j hj => List.getElem?_range hj) rfl trivial
  refine Exs.cons (esc_if _ rfl hk (by decide) ⟨h0, by decide⟩ (fun _ => rfl) ?_) (Exs.cons (esc_if _ rfl hk (by decide) ⟨h1, by decide⟩ (fun _ => rfl) ?_) (Exs.cons (esc_if _ rfl hk (by decide) ⟨h2, by decide⟩ (fun _ => rfl) ?_) (Exs.cons (esc_if _ rfl hk (by decide) ⟨h3, by decide⟩ (fun _ => rfl) ?_) (Exs.stop (Ex.ret (Ev.loc 0 hk frame_top rfl rfl))))))
  all_goals (intro env he; first | rfl | (unfold swapsWith; rfl))
end
end Mine
namespace Mine
section
variable {a : LA} {A : Around} {R : Result → Shared → Prop} {h : Heap} {g : Array GenState} {d : Drawn} {t : Nat} {os : OsState}
theorem acc_made {M : Model} (X : (kHeap a.w.params).In h) : Looks M h (Bind.madeBy (.ref 99)) (some "list.__new__") := by
  intro A Q E s k q
  unfold Bind.madeBy
  have hc : clsIn (kHeap a.w.params) 99 = some _ := rfl
  have hm : Looks M h (mroOf (.ref 99)) [.ref 99, .type "list", .type "object"] := (looks_clsIn X hc).andThen .now
  refine wpAny_bind (hm A _ E s k ?_)
  rw [List.forIn_cons]
  refine wpAny_bind (wpAny_bind (wpAny_bind (wpAny_bind (wpAny_loadPart (k _ _ (X 99 kCls rfl)) (wpAny_pure ?_)))))
  exact wpAny_pure (wpAny_pure (wpAny_pure q))
theorem acc_base {M : Model} (X : (kHeap a.w.params).In h) : Looks M h (Bind.staticBase (.ref 99)) (.ref 99) := by
  intro A Q E s k q
  unfold Bind.staticBase
  have hc : clsIn (kHeap a.w.params) 99 = some _ := rfl
  have hm : Looks M h (mroOf (.ref 99)) [.ref 99, .type "list", .type "object"] := (looks_clsIn X hc).andThen .now
  refine wpAny_bind (hm A _ E s k ?_)
  rw [List.forIn_cons]
  exact wpAny_bind (wpAny_bind (wpAny_bind (acc_made X A _ E s k (wpAny_pure (wpAny_pure (wpAny_pure q))))))
abbrev newAcc (dx : Addr) : Obj := { cls := .ref 99, dict := some dx, data := .seq #[] }
theorem sig_new : ∃ sig, Manifest.signature? "list.__new__" = some sig ∧ Bind.checkArgs "list.__new__" sig ⟨[.ref 99], []⟩ = pure () :=
  ⟨(Manifest.signature? "list.__new__").get (by kernel_rfl), by simp, by kernel_rfl⟩
theorem acc_new (X : (kHeap a.w.params).In h) (hq : R (.ok (.ret (.ref (h.objs.size + 1)))) ⟨(h.push emptyDict).push (newAcc h.objs.size), g, d, t, os⟩) :
    codeAny (model a.prog a.w) A (.call (.builtin "list.__new__") ⟨[.ref 99], []⟩) R ⟨h, g, d, t, os⟩ := by
  have made := acc_made (M := model a.prog a.w) X
  have base := acc_base (M := model a.prog a.w) X
  have sub := looks_subIn (M := model a.prog a.w) X (show subIn (kHeap a.w.params) (.ref 99) (.type "list") = some true by kernel_rfl)
  have typ := looks_instIn (M := model a.prog a.w) X (show instIn (kHeap a.w.params) (.ref 99) (.type "type") = some true by kernel_rfl)
  have hty : Looks (model a.prog a.w) h (isType (.ref 99)) true := by
    intro A Q E s k q
    unfold isType
    exact wpAny_bind (wpAny_loadPart (k _ _ (X 99 kCls rfl)) (wpAny_pure q))
  refine codeAny_of_tree ?_
  show wpAny _ A.in1 (do checkBuiltinCall "list.__new__" ⟨[.ref 99], []⟩; again (.builtin "list.__new__" ⟨[.ref 99], []⟩)) _ _ _
  obtain ⟨sig, s1, s2⟩ := sig_new
  have chk : ∀ (Q : Unit → Shared → Prop) E', Q () ⟨h, g, d, t, os⟩ → wpAny (model a.prog a.w) A.in1 (checkBuiltinCall "list.__new__" ⟨[.ref 99], []⟩) Q E' ⟨h, g, d, t, os⟩ := by
    intro Q E' q
    simp only [checkBuiltinCall, show builtinKind "list.__new__" = some .builtinFn by decide +kernel, show splitId "list.__new__" = some ("list", "__new__") by decide +kernel, s1]
    rw [s2]
    repeat (first | simp only [bne_self_eq_false, Bool.false_eq_true, if_false, Bool.not_true, beq_self_eq_true, if_true] | lk)
    exact q
  refine wpAny_bind (chk _ _ (wpAny_pure ⟨plainId_quiet F.plain_list_new _, codeAny_builtin_stack F.entry_list_new rfl fun p st => ?_⟩))
  rw [Around.under_plainId F.plain_list_new _]
  have hown := owner_list_new
  dsimp only
  rw [hown]
  refine wpAny_bind (hty.here ?_)
  rw [if_neg (by decide)]
  refine wpAny_bind (sub.here ?_)
  rw [if_neg (by decide)]
  refine wpAny_bind (wpAny_pure ?_)
  show wpAny _ _ (newDict >>= _) _ _ _
  unfold newDict
  refine wpAny_bind (wpAny_newObj_type ?_)
  dsimp only
  refine wpAny_bind ?_
  unfold newObj
  simp only [Array.size_empty, gt_iff_lt, Nat.not_lt_zero, if_false]
  unfold newObjAsIs classHasDel
  refine wpAny_bind (wpAny_alloc (wpAny_bind (wpAny_bind (wpAny_load (Heap.get?_push_of_some _ (Heap.get?_push_of_some _ (X 99 kCls rfl))) (wpAny_pure ?_)))))
  refine wpAny_pure (wpAny_pure ?_)
  show R _ _
  rw [Heap.size_push]
  exact hq
end
end Mine
namespace Mine
section
variable {a : LA} {A : Around} {R : Result → Shared → Prop} {h : Heap} {g : Array GenState} {d : Drawn} {t : Nat} {os : OsState}
theorem acc_make (X : (kHeap a.w.params).In h)
    (hq : codeAny (model a.prog a.w) (A.under (.builtin "type.__call__" ⟨[.ref 99], []⟩)) (.call (.ref 38) ⟨[.ref (h.objs.size + 1)], []⟩) (InitBack (h.objs.size + 1) R) ⟨(h.push emptyDict).push (newAcc h.objs.size), g, d, t, os⟩) :
    codeAny (model a.prog a.w) A (.call (.ref 99) ⟨[], []⟩) R ⟨h, g, d, t, os⟩ := by
  have made := acc_made (M := model a.prog a.w) X
  have self := looks_mroIn (M := model a.prog a.w) X (show mroIn (kHeap a.w.params) 99 (.ref 99) = some true by kernel_rfl)
  have typ := looks_instIn (M := model a.prog a.w) X (show instIn (kHeap a.w.params) (.ref 99) (.type "type") = some true by kernel_rfl)
  have call := looks_specialIn (M := model a.prog a.w) X (show specialIn (kHeap a.w.params) (.ref 99) "__call__" = some (some (.builtin "type.__call__")) by kernel_rfl)
  have hi := looks_findIn (M := model a.prog a.w) X (show findIn (kHeap a.w.params) (.ref 99) "__init__" = some (some (.ref 38)) by kernel_rfl)
  have hC : h.get? 99 = some kCls := X 99 kCls rfl
  refine codeAny_of_tree ?_
  show wpAny _ _ (callAny (.ref 99) _) _ _ _
  refine nd_load hC ?_
  show wpAny _ _ (callAny.viaDunder (.ref 99) _) _ _ _
  unfold callAny.viaDunder
  refine wpAny_bind (call.at ?_)
  dsimp only
  rw [tc_bind]
  refine wpAny_bind (wpAny_pure (wpAny_bind (wpAny_pure ?_)))
  refine wpAny_pure (a := Fin.again (.call (.builtin "type.__call__") ⟨[.ref 99], []⟩)) (And.intro rfl ?_)
  refine codeAny_call_builtin_at (Code.quiet_builtin _ (by decide +kernel)) entry_typeCall (check_slot tc_kind tc_split typ (tc_args _ _ _) ?_)
  unfold Builtin.«type.__call__»
  have hm : Looks (model a.prog a.w) h (mroOf (.ref 99)) [.ref 99, .type "list", .type "object"] := ((Looks.ld (part := none) hC).andThen .now).andThen .now
  repeat (first | simp only [List.isEmpty_cons, Bool.false_eq_true, if_false] | with_reducible refine wpAny_call ?_ | lk)
  refine acc_new X ?_
  have k : ∀ b o, h.get? b = some o → ((h.push emptyDict).push (newAcc h.objs.size)).get? b = some o := fun b o e => Heap.get?_push_of_some _ (Heap.get?_push_of_some _ e)
  have hx : ((h.push emptyDict).push (newAcc h.objs.size)).get? (h.objs.size + 1) = some (newAcc h.objs.size) := by
    have := Heap.get?_push_size (h.push emptyDict) (o := newAcc h.objs.size) rfl
    rwa [Heap.size_push] at this
  have t1 : Looks (model a.prog a.w) ((h.push emptyDict).push (newAcc h.objs.size)) (typeOf (.ref (h.objs.size + 1))) (.ref 99) := (Looks.ld hx).andThen .now
  have s1 := self.keeps k
  have i1 := hi.keeps k
  have b1 := (bind_fn (M := model a.prog a.w) X (.ref (h.objs.size + 1)) (show typeIn (kHeap a.w.params) (.ref 38) = some (.type "function") by kernel_rfl)).keeps k
  unfold isInstance callSpecial? specialOf
  repeat (first | with_reducible refine wpAny_call ?_ | lk)
  refine codeAny_mono hq fun r s' z => ?_
  rcases r with e | (v | _ | _ | _) <;> first | exact z | exact z.elim | skip
  obtain ⟨rfl, z⟩ := z
  exact wpAny_pure (wpAny_pure z)
end
end Mine
namespace Mine
theorem slot_wd_get : Slot "wrapper_descriptor" "__get__" "wrapper_descriptor.__get__" := .of (owner := "wrapper_descriptor") (n := "__get__") (by rw [typeLookup_type, builtinLookup_eq_fast]; kernel_rfl) (by decide +kernel) (by decide +kernel) (by decide +kernel)
  (by first | exact .inl (by decide +kernel) | exact .inr (by decide +kernel)) (by rw [isSubtype_type]; kernel_rfl)
theorem entry_wd_get : entryFor table "wrapper_descriptor.__get__" = some Builtin.«wrapper_descriptor.__get__» := entryFor_of_tree (by kernel_rfl)
theorem args_wd_get (a b c : Value) : argsOk "wrapper_descriptor.__get__" ⟨[a, b, c], []⟩ := by unfold argsOk; kernel_rfl
theorem type_li : typeOf (.builtin "list.__init__") = pure (.type "wrapper_descriptor") := by show builtinType _ = _; rw [builtinType_eq_fast]; kernel_rfl
section
variable {a : LA} {A : Around} {E : Value → Shared → Prop} {h : Heap} {g : Array GenState} {d : Drawn} {t : Nat} {os : OsState} {x : Addr} {ox od : Obj}
/-- list's __init__, bound to the accumulator -/
theorem acc_bound {Q : Value → Shared → Prop} (X : (kHeap a.w.params).In h) (I : InstAt h x ox 99 (some od)) (hq : Q (.ref h.objs.size) ⟨h.push { cls := .type "method-wrapper", data := .fields #[.builtin "list.__init__", .ref x] }, g, d, t, os⟩) :
    wpAny (model a.prog a.w) A (call (.builtin "wrapper_descriptor.__get__") [.builtin "list.__init__", .ref x, .ref 99]) Q E ⟨h, g, d, t, os⟩ := by
  have il := isList (a := a) (s := ⟨h, g, d, t, os⟩) X I (M := model a.prog a.w)
  refine wpAny_call_entry slot_wd_get (T := "wrapper_descriptor") type_li entry_wd_get ?_ (args_wd_get _ _ _)
  unfold Builtin.«wrapper_descriptor.__get__»
  show wpAny _ _ (pure _ >>= _) _ _ _
  refine wpAny_bind (wpAny_pure ?_)
  show wpAny _ _ (_ >>= _) _ _ _
  refine wpAny_bind ?_
  refine wpAny_bind (m := isInstance (.ref x) (.type "list")) (il.here ?_)
  refine wpAny_pure ?_
  unfold newFields
  refine wpAny_bind (wpAny_newObj_type (wpAny_pure ⟨_, rfl, hq⟩) (by show (2 : Nat) ≤ sizeLine + 2; decide))
end
end Mine
namespace Mine
theorem acc_passes (self : Value) : refuseLoop self "__setattr__" [.ref 99, .type "list", .type "object"] = pure () := by
  rw [refuseLoop_ref]
  kernel_rfl
section
variable {a : LA} {A : Around} {E : Value → Shared → Prop} {h : Heap} {g : Array GenState} {d : Drawn} {t : Nat} {os : OsState} {x dx : Addr} {ws : Array Value} {m : Nat}
/-- self._initial_size = 0 -/
theorem acc_set {Q : Unit → Shared → Prop} {t0 : Tok} (X : (kHeap a.w.params).In h) (I : InstAt h x ({ cls := .ref 99, dict := some dx, data := .seq ws m } : Obj) 99 (some emptyDict))
    (hq : ∀ h', (∀ b o, b ≠ dx → h.get? b = some o → h'.get? b = some o) → (∃ o, h'.get? dx = some o ∧ AccD a.w.params dx o) → Q () ⟨h', g, d, t + 2, os⟩) : wpAny (model a.prog a.w) A (setAttr (.ref x) "_initial_size" (.int 0 t0)) Q E ⟨h, g, d, t, os⟩ := by
  have SF := PySem.F.store_object
  have D : h.get? dx = some emptyDict := I.dict
  have hx := I.at_
  unfold setAttr
  refine wpAny_bind (wpAny_mkText ?_)
  refine wpAny_bind (acc_special (a := a) (s := ⟨h, g, d, t + 1, os⟩) X I (show findIn (kHeap a.w.params) (.ref 99) "__setattr__" = some (some (.builtin "object.__setattr__")) by kernel_rfl) (SF.slot.bind _) ?_)
  refine wpAny_call ?_
  have sub : Looks (model a.prog a.w) h (isInstance (.ref x) (.type "object")) true := I.type.andThen (looks_mroIn X (show mroIn (kHeap a.w.params) 99 (.type "object") = some true by kernel_rfl))
  have hm : Looks (model a.prog a.w) h (mroOf (.ref 99)) [.ref 99, .type "list", .type "object"] := (looks_clsIn X (show clsIn (kHeap a.w.params) 99 = some _ from rfl)).andThen .now
  refine codeAny_call_builtin SF.slot.plain SF.entry (@check_slot (model a.prog a.w) _ _ ⟨h, g, d, t + 1, os⟩ "object.__setattr__" "object" "__setattr__" (.ref x) [.str "_initial_size" t, .int 0 t0] [] _ SF.kind SF.split sub (SF.args (.ref x) (.str "_initial_size" t) (.int 0 t0)) ?_)
  rw [osa_eq, refuse_eq]
  refine wpAny_bind (wpAny_bind (I.type.here (wpAny_bind (hm.here ?_))))
  rw [acc_passes]
  refine wpAny_pure (wpAny_bind (I.type.here (wpAny_bind ((looks_findIn X (show findIn (kHeap a.w.params) (.ref 99) "_initial_size" = some none by kernel_rfl)).here (wpAny_bind (wpAny_pure ?_))))))
  dsimp only
  refine wpAny_bind (wpAny_pure (wpAny_bind (wpAny_bind (wpAny_loadPart hx (wpAny_bind ((looks_clsIn X (show clsIn (kHeap a.w.params) 99 = some _ from rfl)).here ?_))))))
  refine wpAny_pure (a := some dx) (wpAny_bind (wpAny_pure (wpAny_bind ?_)))
  unfold nsSet
  refine wpAny_bind (wpAny_bind (wpAny_askSetting (wpAny_pure (wpAny_bind (wpAny_mkText (wpAny_bind (wpAny_loadPart D ?_)))))))
  show wpAny _ _ (if aRefKeyMayBeTheName (Str.ofString "_initial_size") #[] = true then _ else _) _ _ _
  rw [show aRefKeyMayBeTheName (Str.ofString "_initial_size") #[] = false by rw [aRefKeyMayBeTheName_at]; simp, if_neg (by decide)]
  have e1 : Obj.putName (Str.ofString "_initial_size") (PyData.keyHash a.w.params "_initial_size") (.str "_initial_size" (t + 1)) (.int 0 t0) emptyDict = { cls := .type "dict", data := .dict #[⟨PyData.keyHash a.w.params "_initial_size", .str "_initial_size" (t + 1), .int 0 t0⟩] 1 } := by rfl
  refine wpAny_updatePart D ?_
  have u1 := Heap.get?_update_self (Obj.putName (Str.ofString "_initial_size") (PyData.keyHash a.w.params "_initial_size") (.str "_initial_size" (t + 1)) (.int 0 t0)) D (by rfl)
  rw [e1] at u1
  refine wpAny_bind (wpAny_lookBehind u1 (pastItsLine_dict (by show (1 : Nat) ≤ _; decide)) ?_)
  exact wpAny_pure (wpAny_pure (hq _ (fun b o hb e => (Heap.get?_update_ne _ _ _ _ hb).trans e) ⟨_, u1, _, _, _, rfl⟩))
end
end Mine
namespace Mine
section
variable {a : LA} {A : Around} {E : Value → Shared → Prop} {h : Heap} {g : Array GenState} {d : Drawn} {t : Nat} {os : OsState} {x so : Addr} {ox od : Obj}
abbrev superAcc (x : Addr) : Obj := { cls := .type "super", dict := none, data := .fields #[.ref 99, .ref x, .ref 99], slots := #[] }
abbrev mwAcc (x : Addr) : Obj := { cls := .type "method-wrapper", data := .fields #[.builtin "list.__init__", .ref x] }
set_option maxHeartbeats 400000 in
theorem acc_super_ga {tk : Tok} {Q : Fin → Shared → Prop} (X : (kHeap a.w.params).In h) (I : InstAt h x ox 99 (some od)) (hso : h.get? so = some (superAcc x)) (hx : x ≠ 99) (hno : Looks (model a.prog a.w) h (opaqueClassAbove (.ref 99)) none)
    (hq : Q (.done (.ret (.ref h.objs.size))) ⟨h.push (mwAcc x), g, d, t, os⟩) :
    wpAny (model a.prog a.w) A (Builtin.«super.__getattribute__» ⟨[.ref so, .str "__init__" tk], []⟩) Q E ⟨h, g, d, t, os⟩ := by
  have hlk := slot_wd_get.lookup
  have hne : (Value.ref x == Value.ref 99) = false := by simp [hx]
  have hn : ((Str.ofString "__init__") == ("__class__" : Str)) = false := by decide +kernel
  have hdt : (superAcc x).data = .fields #[.ref 99, .ref x, .ref 99] := rfl
  have f0 : (#[.ref 99, .ref x, .ref 99] : Array Value)[0]? = some (.ref 99) := rfl
  have f1 : (#[.ref 99, .ref x, .ref 99] : Array Value)[1]? = some (.ref x) := rfl
  have f2 : (#[.ref 99, .ref x, .ref 99] : Array Value)[2]? = some (.ref 99) := rfl
  have hC : Looks (model a.prog a.w) h (mroOf (.ref 99)) [.ref 99, .type "list", .type "object"] := (looks_clsIn X (show clsIn (kHeap a.w.params) 99 = some _ from rfl)).andThen .now
  have hf : alongIn (kHeap a.w.params) "__init__" [.type "list", .type "object"] = some (some (.builtin "list.__init__")) := by kernel_rfl
  have hT := type_li
  unfold Builtin.«super.__getattribute__»
  iterate 12 (first
    | (with_reducible refine wpAny_field hso hdt f0 ?_) | (with_reducible refine wpAny_field hso hdt f1 ?_) | (with_reducible refine wpAny_field hso hdt f2 ?_)
    | (with_reducible refine ks_wpAny_notOpaque hno ?_)
    | (with_reducible refine Looks.at hC ?_; rw [show (([.ref 99, .type "list", .type "object"] : List Value).dropWhile (· != .ref 99)).drop 1 = [.type "list", .type "object"] by decide +kernel])
    | (refine ks_forIn_along X (fun _ _ => rfl) rfl ?_ hf)
    | (with_reducible refine wpAny_of_eq hT ?_)
    | (with_reducible refine wpAny_of_eq hlk ?_)
    | (with_reducible refine acc_bound X I ?_)
    | (with_reducible refine ⟨_, rfl, ?_⟩)
    | (simp only [hn, hne, Bool.or_false, Bool.false_eq_true, if_false])
    | wp_step
    | dsimp only)
  refine wpAny_field hso hdt f1 ?_
  refine wpAny_bind (wpAny_field hso hdt f2 ?_)
  rw [if_neg (by decide)]
  refine wpAny_bind (ks_wpAny_notOpaque hno ?_)
  rw [if_neg (by decide)]
  refine wpAny_bind (Looks.at hC ?_)
  rw [show (([.ref 99, .type "list", .type "object"] : List Value).dropWhile (· != .ref 99)).drop 1 = [.type "list", .type "object"] by decide +kernel]
  rw [List.forIn_cons]
  have hco : Looks (model a.prog a.w) h (classOwn (.type "list") "__init__") (some (.builtin "list.__init__")) := looks_ownIn X (by kernel_rfl)
  refine wpAny_bind (wpAny_bind (wpAny_bind (hco.at ?_)))
  show wpAny _ _ (typeOf (.builtin "list.__init__") >>= _) _ _ _
  refine wpAny_bind (wpAny_of_eq hT ?_)
  refine wpAny_bind (wpAny_of_eq hlk ?_)
  show wpAny _ _ (holding [.builtin "list.__init__"] (call (.builtin "wrapper_descriptor.__get__") [.builtin "list.__init__", if (Value.ref x == Value.ref 99) = true then Value.none else Value.ref x, .ref 99]) >>= _) _ _ _
  rw [hne, if_neg (by decide)]
  refine wpAny_bind (wpAny_holding (acc_bound X I ?_))
  refine wpAny_bind (wpAny_pure ?_)
  refine wpAny_pure ?_
  refine wpAny_pure ?_
  exact wpAny_pure hq
theorem acc_super_meth {pl : Sem Bool} {Q : Value × List Value → Shared → Prop} (X : (kHeap a.w.params).In h) (I : InstAt h x ox 99 (some od)) (hso : h.get? so = some (superAcc x)) (hx : x ≠ 99)
    (hq : Q (.ref h.objs.size, []) ⟨h.push (mwAcc x), g, d, t + 1, os⟩) : wpAny (model a.prog a.w) A (getMethod (.ref so) "__init__" pl) Q E ⟨h, g, d, t, os⟩ := by
  have hno : Looks (model a.prog a.w) h (opaqueClassAbove (.ref 99)) none := looks_opaque X (by kernel_rfl)
  have hlk := PySem.F.ks_slot_super_ga.lookup
  have hcan := PySem.F.ks_canon_super_ga
  have hT : ∀ t', (⟨h, g, d, t', os⟩ : Shared).TypeIs (.ref so) "super" := fun _ => ⟨_, hso, rfl⟩
  unfold getMethod
  refine wpAny_bind (wpAny_specialOf (hT _) hlk ?_)
  show wpAny _ _ (if (Manifest.canonical "super.__getattribute__" != "object.__getattribute__") = true then _ else _) _ _ _
  rw [if_pos hcan]
  unfold getAttr getAttrBy
  refine wpAny_bind (wpAny_bind (wpAny_mkText (wpAny_holding (wpAny_bind (wpAny_typeOf (hT _) (wpAny_bind (wpAny_of_eq hlk ?_)))))))
  show wpAny _ _ (getAttrByItsOwn (.ref so) (.str "__init__" t) (.type "super") (.builtin "super.__getattribute__") true false) _ _ _
  unfold getAttrByItsOwn hookBefore callGetattribute boundAndCalled
  refine wpAny_bind (wpAny_of_eq (show (if onTheHeap (.type "super") then typeLookup (.type "super") "__getattr__" else pure none) = pure none from rfl) ?_)
  refine wpAny_bind (wpAny_attempt (wpAny_holding ?_))
  show wpAny _ _ (bindSpecial (.builtin "super.__getattribute__") (.ref so) >>= _) _ _ _
  refine wpAny_bind (wpAny_of_eq (PySem.F.ks_slot_super_ga.bind _) ?_)
  refine wpAny_mono (Q := fun v s' => v = .ref h.objs.size ∧ s' = ⟨h.push (mwAcc x), g, d, t + 1, os⟩) (E := fun _ _ => False)
    (wpAny_call_entry PySem.F.ks_slot_super_ga (hT _) PySem.F.ks_entry_super_ga (acc_super_ga X I hso hx hno ⟨_, rfl, rfl, rfl⟩) (PySem.F.ks_gaArgs_super _ _)) (fun v s' hv => ?_) fun _ _ z => z.elim
  obtain ⟨rfl, rfl⟩ := hv
  exact wpAny_pure (wpAny_pure hq)
end
end Mine
namespace Mine
theorem li_plain : plainId "list.__init__" = true := by decide +kernel
theorem li_entry : entryFor table "list.__init__" = some Builtin.«list.__init__» := entryFor_of_tree (by kernel_rfl)
theorem li_check (x : Addr) : checkBoundCall "list.__init__" ⟨[.ref x], []⟩ = pure () := by kernel_rfl
section
variable {a : LA} {A : Around} {E : Value → Shared → Prop} {h : Heap} {g : Array GenState} {d : Drawn} {t : Nat} {os : OsState} {x dx mw : Addr} {m : Nat}
theorem acc_mw {Q : Value → Shared → Prop} (hx : h.get? x = some ({ cls := .ref 99, dict := some dx, data := .seq #[] m } : Obj)) (hm : h.get? mw = some (mwAcc x))
    (hq : ∀ h' m', (∀ b o, b ≠ x → h.get? b = some o → h'.get? b = some o) → h'.get? x = some ({ cls := .ref 99, dict := some dx, data := .seq #[] m' } : Obj) → Q .none ⟨h', g, d, t, os⟩) :
    wpAny (model a.prog a.w) A (call (.ref mw) []) Q E ⟨h, g, d, t, os⟩ := by
  refine wpAny_call (codeAny_of_tree ?_)
  show wpAny _ _ (callAny (.ref mw) _) _ _ _
  unfold callAny
  refine wpAny_bind (wpAny_load hm ?_)
  show wpAny _ _ (do checkBoundCall "list.__init__" ⟨[.ref x], []⟩; again (.builtin "list.__init__" ⟨[.ref x], []⟩)) _ _ _
  refine wpAny_bind (wpAny_of_eq (li_check x) (wpAny_pure ⟨plainId_quiet li_plain _, codeAny_builtin li_entry ?_⟩))
  rw [Around.under_plainId li_plain _]
  unfold Builtin.«list.__init__»
  show wpAny _ _ (Builtin.List.listItems (.ref x) >>= _) _ _ _
  refine wpAny_bind (acc_items hx rfl ?_)
  refine wpAny_bind (wpAny_updateSeq (f := fun _ => #[]) hx rfl ?_)
  have e1 : (h.update x (Obj.mapSeq fun _ => #[])).get? x = some ({ cls := .ref 99, dict := some dx, data := .seq #[] m } : Obj) := by
    rw [Heap.get?_update_self _ hx (by simp [Obj.mapSeq]; rfl)]
    simp [Obj.mapSeq]
  exact wpAny_bind (wpAny_letGo (wpAny_pure (hq _ _ (fun b o hb e => ((Heap.SameBut.update h x _).2 b hb).trans e) e1)))
end
end Mine
namespace Mine
section
variable {M : Model} {h : Heap} {mw x : Addr}
theorem mw_keeper (h : Heap) (hm : h.get? mw = some (mwAcc x)) : ∃ k, (k = Keeper.frame ∨ k = Keeper.machine ∨ k = Keeper.boundFrame) ∧ Looks M h (keeperOf (.ref mw)) k :=
  ⟨.machine, .inr (.inl rfl), (Looks.ld (part := none) hm).andThen .now⟩
end
section
variable {a : LA} {A : Around} {h : Heap} {g : Array GenState} {d : Drawn} {t : Nat} {os : OsState} {x dx mw : Addr} {m : Nat}
noncomputable def initFd : FuncData := fnX "__init__" "_Accumulator.__init__" (argsD (inAt 3 0)) (bodyD (inAt 3 0)) (scopeD (inAt 3 0)) [("__class__", 25)] (.ref 30) .none .none (.str "cpy313.email.header" 194) none (.ref 37) (.ref 31)
theorem init_k : (kHeap a.w.params).lookup 38 = some ⟨.type "function", none, .func initFd, #[]⟩ := by rfl
theorem init_loc {x : Addr} : ∀ y ∈ [(("self" : Str), Value.ref x), (("initial_size" : Str), Value.int 0 210)], initFd.scope.names.lookup y.1 = some .local := by
  intro y hy
  rcases List.mem_cons.mp hy with rfl | hy
  · show List.lookup ("self" : Str) initFd.scope.names = some .local
    kernel_rfl
  · cases List.mem_singleton.mp hy
    show List.lookup ("initial_size" : Str) initFd.scope.names = some .local
    kernel_rfl
theorem acc_init {R : Result → Shared → Prop} (hA : A.depth < recursionLimit) (hk : ∀ b o, a.h₀.get? b = some o → h.get? b = some o) (hx : h.get? x = some (newAcc dx)) (hd : h.get? dx = some emptyDict) (hnx : a.h₀.get? x = none) (hnd : a.h₀.get? dx = none)
    (hq : ∀ h' t', (∀ b o, b ≠ x → b ≠ dx → h.get? b = some o → h'.get? b = some o) → (∃ m', h'.get? x = some ({ cls := .ref 99, dict := some dx, data := .seq #[] m' } : Obj)) → (∃ o, h'.get? dx = some o ∧ AccD a.w.params dx o) → t ≤ t' → R (.ok (.ret .none)) ⟨h', g, d, t', os⟩) :
    codeAny (model a.prog a.w) A (.call (.ref 38) ⟨[.ref x], []⟩) R ⟨h, g, d, t, os⟩ := by
  have X : (kHeap a.w.params).In h := a.X.keeps hk
  have h99 : x ≠ 99 := fun q => by rw [q, a.X 99 _ rfl] at hnx; cases hnx
  have hxd : x ≠ dx := fun q => by rw [q, hd] at hx; cases hx
  have I : InstAt h x (newAcc dx) 99 (some emptyDict) := ⟨hx, rfl, rfl, hd⟩
  refine ks_codeAny_call_defAt (fd := initFd) (body := bodyD (inAt 3 0)) (binds := [("self", .ref x), ("initial_size", .int 0 210)]) hA (X _ _ init_k) rfl (a.T.nolimit.keeps hk) (codeRec_of X (by kernel_rfl)) rfl
    (BindsTo.of_defaults (T := 30) (o := { cls := .type "tuple", data := .seq #[.int 0 210] }) (items := #[.int 0 210]) (n := 0) rfl (X _ _ rfl) rfl rfl rfl) (by decide +kernel) init_loc (fun h₁ hns hk₁ => ?_) (by kernel_rfl) (by kernel_rfl) (by kernel_rfl)
  have X1 : (kHeap a.w.params).In h₁ := X.keeps hk₁
  have I1 : InstAt h₁ x (newAcc dx) 99 (some emptyDict) := ⟨hk₁ _ _ hx, rfl, rfl, hk₁ _ _ hd⟩
  have hL : ∀ b o, h.get? b = some o → b ≠ h.objs.size := fun b o e => Nat.ne_of_lt (Heap.lt_size e)
  refine ks_wpAt_execs_cons (ks_wpAt_Assign_Attr (wpAt_of_wpAny (loc_name (a := a) (s := ⟨h₁, g, d, _, os⟩) rfl (by kernel_rfl) hns (v := .int 0 210) (by rfl) (by decide +kernel) (loc_name (a := a) (s := ⟨h₁, g, d, _, os⟩) rfl (by kernel_rfl) hns (v := .ref x) (by rfl) (by decide +kernel) ?_))) ?_)
  · refine acc_set X1 I1 fun h2 k2 hD => ?_
    obtain ⟨od, hod, hD⟩ := hD
    have kh2 : ∀ b o, a.h₀.get? b = some o → h2.get? b = some o := fun b o e => k2 b o (fun q => by rw [q, hnd] at e; cases e) (hk₁ _ _ (hk b o e))
    have X2 : (kHeap a.w.params).In h2 := a.X.keeps kh2
    have hx2 : h2.get? x = some (newAcc dx) := k2 _ _ hxd (hk₁ _ _ hx)
    have I2 : InstAt h2 x (newAcc dx) 99 (some od) := ⟨hx2, rfl, rfl, hod⟩
    have hns2 : h2.Ns h.objs.size fun y => List.lookup y [(("self" : Str), Value.ref x), (("initial_size" : Str), Value.int 0 210)].reverse := by
      obtain ⟨o, es, ep, e1, e2, e3, e4⟩ := hns
      exact ⟨o, es, ep, k2 _ _ (fun q => (hL _ _ hd) q.symm) e1, e2, e3, e4⟩
    show PySem.wpAt _ _ _ (execs [_] _) _ _ _
    refine ks_wpAt_execs_cons (ks_wpAt_Expr_any (ks_wpAt_MethodCall (ks_wpAt_super_base (by kernel_rfl) (by kernel_rfl) (by decide +kernel) rfl (X2 _ _ init_k) rfl (ar := (argsD (inAt 3 0)).args.head (by decide +kernel)) (by kernel_rfl) rfl (X2 37 _ rfl) rfl rfl a.file a.sup ?_)))
    refine ks_loadName_global (by kernel_rfl) (by kernel_rfl) (loadGlobal_builtin (env := callEnv initFd h.objs.size 38) (mg := a.mg) (mb := a.mb) (a.T.g.keeps kh2) (mg_none_of a.X a.T.g (by kernel_rfl)) (a.T.b.keeps kh2) ((a.T.builtins _ (by decide +kernel)).trans (by decide +kernel)) ⟨rfl, ?_⟩)
    refine wpAny_loadName_free (by kernel_rfl) (by kernel_rfl) (by rfl) ⟨_, X2 25 _ rfl, rfl⟩ ?_
    refine wpAny_loadName_local (by kernel_rfl) (by kernel_rfl) hns2 (v := .ref x) (by rfl) ?_
    refine ks_wpAny_isType_cls (X2 99 _ rfl) rfl ⟨rfl, ?_⟩
    refine ks_wpAny_call_super (X2 99 _ rfl) rfl hx2 rfl (fun c => nofun) (looks_mroIn X2 (by kernel_rfl)) fun h3 e3 k3 => ?_
    refine acc_super_meth (X2.keeps k3) ⟨k3 _ _ hx2, rfl, rfl, k3 _ _ hod⟩ e3 h99 ?_
    have k4 : ∀ b o, h3.get? b = some o → (h3.push (mwAcc x)).get? b = some o := fun b o e => Heap.get?_push_of_some _ e
    have e4 : (h3.push (mwAcc x)).get? h3.objs.size = some (mwAcc x) := Heap.get?_push_size _ rfl
    refine callWith_of (P := fun h => h.get? h3.objs.size = some (mwAcc x)) rfl mw_keeper (evalArgs_nil3 ⟨e4, ?_⟩)
    refine acc_mw (k4 _ _ (k3 _ _ hx2)) e4 fun h5 m5 k5 e5 => ?_
    refine PySem.wpAt_of_wpAny (wpAny_execs_nil (hq h5 _ (fun b o hb1 hb2 e => ?_) ⟨m5, e5⟩ ⟨od, k5 _ _ hxd.symm (k4 _ _ (k3 _ _ hod)), hD⟩ (by show t ≤ t + 2 + 2 + 1; omega)))
    exact k5 b o hb1 (k4 _ _ (k3 _ _ (k2 _ _ hb2 (hk₁ _ _ e))))
  · rfl
end
end Mine
namespace Mine
theorem tc_weight : (Code.builtin "type.__call__" ⟨[.ref 99], []⟩).weight = 1 := by decide +kernel
section
variable {a : LA} {n : Nat} {S : List O}
/-- _Accumulator() -/
theorem Cal.accNew : Cal (gl a) (n + 1) (.ext (.ref 99)) [] S (.ref (S.length + 1)) (S ++ [.obj (AccD a.w.params), .acc 99 S.length []]) := by
  rintro A ρ s g xs hA hS rfl r
  cases r
  refine Run.mk hS fun Q k => wpAny_call ?_
  obtain ⟨h, g, d, t, os⟩ := s
  have n0 : h.get? h.objs.size = none := get_size _
  have n1 : h.get? (h.objs.size + 1) = none := by
    cases e : h.get? (h.objs.size + 1) with
    | none => rfl
    | some o => exact absurd (Heap.lt_size e) (Nat.not_lt.mpr (Nat.le_succ _))
  have m0 : ∀ b, h.get? b = none → a.h₀.get? b = none := fun b e => by
    cases q : a.h₀.get? b with
    | none => rfl
    | some o => rw [hS.keep _ _ q] at e; cases e
  have kp : ∀ b o, h.get? b = some o → ((h.push emptyDict).push (newAcc h.objs.size)).get? b = some o := fun b o e => Heap.get?_push_of_some _ (Heap.get?_push_of_some _ e)
  have hx : ((h.push emptyDict).push (newAcc h.objs.size)).get? (h.objs.size + 1) = some (newAcc h.objs.size) := by
    have := Heap.get?_push_size (h.push emptyDict) (o := newAcc h.objs.size) rfl
    rwa [Heap.size_push] at this
  have hd : ((h.push emptyDict).push (newAcc h.objs.size)).get? h.objs.size = some emptyDict := Heap.get?_push_of_some _ (Heap.get?_push_size _ rfl)
  refine acc_make hS.K ?_
  refine acc_init (by show A.depth + (Code.builtin "type.__call__" ⟨[.ref 99], []⟩).weight < recursionLimit; rw [tc_weight]; exact Nat.lt_of_le_of_lt (by omega) hA.depth) (fun b o e => kp b o (hS.keep b o e)) hx hd (m0 _ n1) (m0 _ n0) fun h' t' k' ⟨m', e1⟩ ⟨od, e2, hD⟩ ht => ?_
  have kf : ∀ b o, h.get? b = some o → h'.get? b = some o := fun b o e => k' b o (fun q => by rw [q, n1] at e; cases e) (fun q => by rw [q, n0] at e; cases e) (kp b o e)
  have H1 : ∀ tk, a.lo ≤ tk → Sim (gl a) (ρ ++ [h.objs.size]) (S ++ [.obj (AccD a.w.params)]) ⟨h', g, d, tk, os⟩ := fun tk h1 => hS.add (s' := ⟨h', g, d, tk, os⟩) kf n0 hS.big e2 hD rfl rfl h1
  have hnx : h.objs.size + 1 ∉ ρ ++ [h.objs.size] := fun q => by
    rcases List.mem_append.mp q with q | q
    · obtain ⟨o, e⟩ := hS.live q
      rw [n1] at e; cases e
    · have := List.mem_singleton.mp q; omega
  have H2 : ∀ tk, a.lo ≤ tk → Sim (gl a) (ρ ++ [h.objs.size] ++ [h.objs.size + 1]) (S ++ [.obj (AccD a.w.params)] ++ [.acc 99 S.length []]) ⟨h', g, d, tk, os⟩ := fun tk h1 =>
    (H1 tk h1).take hnx (m0 _ n1) (by have := hS.big; show 2 < h.objs.size + 1; have h2 : 2 < h.objs.size := this; omega) e1 ⟨#[], m', h.objs.size, rfl, by rw [← hS.len]; simp, .nil⟩
  refine ⟨rfl, k _ _ _ ⟨?_, fun b o _ e => kf b o e, fun b hb hn => ?_⟩ (fun h1 => by rw [show S ++ [O.obj (AccD a.w.params), O.acc 99 S.length []] = S ++ [.obj (AccD a.w.params)] ++ [.acc 99 S.length []] by simp]; exact H2 t' h1) ⟨h.objs.size + 1, ?_, rfl⟩⟩
  · rw [List.append_assoc]; exact List.prefix_append _ _
  · rcases List.mem_append.mp hb with q | q
    · rcases List.mem_append.mp q with q | q
      · exact absurd q hn
      · rw [List.mem_singleton.mp q]; exact n0
    · rw [List.mem_singleton.mp q]; exact n1
  · rw [← hS.len, List.append_assoc]; simp
end
end Mine
namespace Mine
/-- of which nothing is said -/
noncomputable def O.any : O := .obj fun _ _ => True
noncomputable def LA.at (a : LA) (l : Nat) (h : 1 ≤ l) : LA := { a with lo := l, lo1 := h }
section
variable {G : Glo} {n : Nat} {E : AEnv} {S S1 l : List O} {ρ : List Addr} {s : Shared}
theorem Sim.forget (H : Sim G ρ S s) (i : Nat) : Sim G ρ (S.set i .any) s := by
  refine ⟨H.keep, by simp [H.len], H.nodup, fun j o e => ?_, H.new, H.low, H.os, H.gens, H.toks⟩
  rw [List.getElem?_set] at e
  split at e
  · rename_i q
    subst q
    split at e
    · rename_i q
      cases e
      obtain ⟨a, ob, h1, h2, h3⟩ := H.own i S[i] (List.getElem?_eq_getElem q)
      exact ⟨a, ob, h1, h2, trivial⟩
    · cases e
  · exact H.own j o e
theorem set_top {o o' : O} : (S ++ o :: l).set S.length o' = S ++ o' :: l := by rw [List.set_append_right _ _ (Nat.le_refl _), Nat.sub_self]; rfl
theorem set_more {o o' : O} {i : Nat} : (S ++ o :: l).set (S.length + (i + 1)) o' = S ++ o :: l.set i o' := by rw [List.set_append_right _ _ (by omega)]; congr 1; rw [show S.length + (i + 1) - S.length = i + 1 by omega]; rfl
theorem top_more {o : O} {i : Nat} : (S ++ o :: l)[S.length + (i + 1)]? = l[i]? := by rw [List.getElem?_append_right (by omega), show S.length + (i + 1) - S.length = i + 1 by omega]; rfl
theorem Ev.top {x : Str} {pos : Pos} {ns : List Str} {vs : List (Option V)} (hF : E.fid = S.length) (j : Nat) {v : V} (hk : E.scope.names.lookup x = some .local) (hn : ns[j]? = some x) (hv : vs[j]? = some (some v)) (hd : (x == ("__debug__" : Str)) = false := by decide) : Ev G n E (.Name x pos) (S ++ .frame ns vs :: l) v (S ++ .frame ns vs :: l) :=
  Ev.loc j hk (hF ▸ top_at _ _) hn hv hd
theorem Sto.top {x : Str} {v : V} {ns : List Str} {vs vs' : List (Option V)} (hF : E.fid = S.length) (j : Nat) (hk : E.scope.names.lookup x = some .local) (hn : ns[j]? = some x) (hu : ns.Nodup) (hl : vs.length = ns.length) (hv : vs.set j (some v) = vs') : Sto G E x v (S ++ .frame ns vs :: l) (S ++ .frame ns vs' :: l) := by
  have := Sto.loc (G := G) (E := E) (v := v) (S := S ++ .frame ns vs :: l) j hk (hF ▸ top_at _ _) hn hu hl
  rw [hF, set_top, hv] at this
  exact this
/-- a text just made -/
noncomputable def EvT (G : Glo) (n : Nat) (E : AEnv) (e : Expr) (S : List O) (x : Str) (S' : List O) : Prop :=
  ∀ A env ρ s (Q : Value → Shared → Prop), GoodA A n → EnvOk E env ρ → Sim G ρ S s → (∀ ρ' s' t, Ext ρ ρ' s s' → G.lo ≤ t → t < s'.toks → Sim G ρ' S' s' → Q (.str x t) s') → wpAny (model G.prog G.w) A (eval e env) Q (fun _ _ => False) s
theorem EvT.sub {value slice : Expr} {pos : Pos} {x y : Str} {i : Int} {S2 : List O} (h1 : Ev G n E value S (.str x) S1) (h2 : Ev G n E slice S1 (.int i) S2) (h : (Txt.charAt x i).isSome = true) (hy : Txt.item x i = y) (hk : fitsSsize i = true)
    (hs : ∀ x y, ∃ L, subscripted slice false x y = operate L (getItem x y) := by (intro x y; first | exact ⟨[x, y], rfl⟩ | exact ⟨[y, x], rfl⟩)) : EvT G n E (.Subscript value slice pos) S y S2 := by
  subst hy
  intro A env ρ s Q hA hE hS k
  refine Subscript_ (h1 A env ρ s hA hE hS _ fun ρ1 s1 x x1 hS1 r1 => h2 A env ρ1 s1 hA (hE.mono x1.pre) hS1 _ fun ρ2 s2 y x2 hS2 r2 => ?_)
  obtain ⟨t, rfl⟩ := r1
  obtain ⟨u, rfl⟩ := r2
  obtain ⟨L, hL⟩ := hs (.str _ t) (.int i u)
  exact tail_of (T := "str") (typeIs_str _ _ _) PySem.F.slot_str_getitem.lookup (PySem.SB.getItem hk h (k ρ2 _ _ ((x1.trans x2).trans (Ext.same rfl)) hS2.toks (Nat.lt_succ_self _) (hS2.same rfl rfl rfl (Nat.le_succ_of_le hS2.toks)))) hL
end
section
variable {a : LA} {ρ : List Addr} {S : List O} {s : Shared}
theorem Sim.up (H : Sim (gl a) ρ S s) {l : Nat} (h : 1 ≤ l) (ht : l ≤ s.toks) : Sim (gl (a.at l h)) ρ S s := ⟨H.keep, H.len, H.nodup, H.own, H.new, H.low, H.os, H.gens, ht⟩
end
theorem range_size {m : Nat} : Builtin.Range.rangeSize 0 (m : Int) 1 = (m : Int) := by
  unfold Builtin.Range.rangeSize
  simp
  omega
theorem range_small {m : Nat} (h : m ≤ 1000) : Builtin.Range.small 0 (m : Int) 1 = true := by
  have h1 : Builtin.Range.rangeFitsLong (m : Int) = true := by
    unfold Builtin.Range.rangeFitsLong
    simp
    omega
  unfold Builtin.Range.small
  rw [range_size, h1]
  simp
  exact ⟨by decide, .inr h1⟩
/-- the list of ints that came in -/
noncomputable def IntsOf (ob : Obj) (ns : List Int) : Prop := ob.cls = .type "list" ∧ ∃ ws m, ob.data = .seq ws m ∧ RVs [] (vInts ns) ws.toList
section
variable {G : Glo} {n : Nat} {E : AEnv} {S S1 l : List O} {ρ : List Addr} {s : Shared} {ob : Obj} {ns : List Int}
theorem own_at (H : Sim G ρ S s) {i : Nat} (e : S[i]? = some (.obj fun _ o => o = ob)) (h : IntsOf ob ns) : ∃ a ws, ρ[i]? = some a ∧ s.heap.IsList a ws ∧ RVs ρ (vInts ns) ws.toList := by
  obtain ⟨a, ob', h1, h2, h3⟩ := H.own _ _ e
  obtain ⟨hc, ws, m, hd, h4⟩ := h
  replace h3 : ob' = _ := h3
  subst h3
  exact ⟨a, ws, h1, ⟨_, h2, hc, m, hd⟩, h4.mono (List.nil_prefix)⟩
theorem Itm.own {i : Nat} {k : Int} {v : V} (e : S[i]? = some (.obj fun _ o => o = ob)) (h : IntsOf ob ns) (h0 : 0 ≤ k) (hv : (vInts ns)[k.toNat]? = some v) (hk : k < 2 ^ 63 := by decide) : Itm G n (.ref i) (.int k) S v S := by
  rintro A ρ s _ _ hA hS ⟨l, hl, rfl⟩ ⟨t, rfl⟩
  obtain ⟨l', ws, h1, h2, h3⟩ := own_at hS e h
  rw [hl] at h1; cases h1
  obtain ⟨x, hx, rx⟩ := h3.get hv
  refine ⟨⟨"list", _, h2.typeIs, slot_list_getitem.lookup⟩, fun Q c => ?_⟩
  exact wpAny_getItem_list h2 h0 hk (by rw [← Array.getElem?_toList]; exact hx) (c ρ s x Ext.refl hS rx)
theorem Cal.lenOwn {i : Nat} (e : S[i]? = some (.obj fun _ o => o = ob)) (h : IntsOf ob ns) (hl : (vInts ns).length < 2 ^ 63) : Cal G n (.ext (.builtin "len")) [.ref i] S (.int (vInts ns).length) S := by
  rintro A ρ s g ys hA hS rfl r
  cases r with
  | cons r1 r2 => cases r2 with
    | nil =>
      obtain ⟨l, hl1, rfl⟩ := r1
      obtain ⟨l', ws, g1, g2, g3⟩ := own_at hS e h
      rw [hl1] at g1; cases g1
      have e2 : ws.size = (vInts ns).length := by rw [← g3.length]; simp
      exact Run.mk hS fun Q k => call_len_list g2 (by omega) (k ρ _ _ (Ext.same rfl) (hS.same rfl rfl rfl) ⟨_, by rw [e2]⟩)
end
end Mine
namespace Mine
noncomputable def dNs : List Str := [("script" : Str)] ++ [("numbers" : Str), ("place" : Str), ("first" : Str), ("judge" : Str), ("sign" : Str), ("rest" : Str), ("sizes" : Str), ("row" : Str)]
theorem dNs_nd : dNs.Nodup := by decide +kernel
noncomputable def forB2 : Nat → List Stmt → List Stmt
  | i, l => match l[i]? with
    | some (.For _ _ b _ _) => b
    | _ => []
theorem fmod_at (p : Int) (m : Nat) (h : 0 < m) : ∃ j : Nat, p.fmod (m : Int) = (j : Int) ∧ j < m := by
  rw [Int.fmod_eq_emod_of_nonneg _ (by omega)]
  have h1 := Int.emod_nonneg p (show (m : Int) ≠ 0 by omega)
  have h2 := Int.emod_lt_of_pos p (show (0 : Int) < m by omega)
  exact ⟨(p % (m : Int)).toNat, by omega, by omega⟩
section
variable {a : LA} {n : Nat} {S : List O} {sc : Nat} {ns : List Int} {ob : Obj}
noncomputable abbrev dE (S : List O) : AEnv := ⟨scopeD (stAt 57), S.length, []⟩
theorem draw_loop (hs : S[sc]? = some (.obj fun _ o => o = ob)) (hob : IntsOf ob ns) (hl : ns.length ≤ 1000) {p0 : Pos} : ∀ (m p : Nat) (nums : List Int) (pl : Option V), nums.length = 4 → p + m ≤ ns.length → ∃ nums' pl', nums'.length = 4 ∧
    Loop (gl a) n (dE S) (.Name "place" p0) (forB2 1 (bodyD (stAt 57))) (.rng (p : Int) m) (S ++ .frame dNs [some (.ref sc), some (.ref (S.length + 1)), pl, none, none, none, none, none, none] :: [.list (vInts nums)]) .next (S ++ .frame dNs [some (.ref sc), some (.ref (S.length + 1)), pl', none, none, none, none, none, none] :: [.list (vInts nums')])
  | 0, p, nums, pl, hn, hp => ⟨nums, pl, hn, Loop.done .rngE⟩
  | m + 1, p, nums, pl, hn, hp => by
    obtain ⟨j, hj, hj4⟩ := fmod_at p 4 (by decide)
    have hj' : (p : Int).fmod 4 = (j : Int) := hj
    obtain ⟨y, hy⟩ : ∃ y, nums[j]? = some y := ⟨_, List.getElem?_eq_getElem (by omega)⟩
    obtain ⟨z, hz⟩ : ∃ z, ns[p]? = some z := ⟨_, List.getElem?_eq_getElem (by omega)⟩
    obtain ⟨nums', pl', h1, h2⟩ := draw_loop hs hob hl m (p + 1) (nums.set j (y + z.fmod 1000000)) (some (.int p)) (by simp [hn]) (by omega)
    refine ⟨nums', pl', h1, Loop.next .rngN (Asg.name (Sto.top rfl 2 (by kernel_rfl) rfl dNs_nd rfl rfl)) ?_ (by rw [show ((p : Int) + 1) = ((p + 1 : Nat) : Int) by omega]; exact h2)⟩
    have e0 : ∀ l : List O, (S ++ l)[sc]? = some (.obj fun _ o => o = ob) := fun l => at_old hs
    refine Exs.cons (Ex.to (Ex.setSub (k := (j : Int)) (Ev.bin (Ev.sub (Ev.top rfl 1 (by kernel_rfl) rfl rfl) (hj' ▸ Ev.bin (Ev.top rfl 2 (by kernel_rfl) rfl rfl) Ev.int (Bop.mod (by decide))) (Itm.list (v := .int y) (top_more (i := 0)) (by omega) (vInts_at hy) (by omega)))
      (Ev.bin (Ev.sub (Ev.top rfl 0 (by kernel_rfl) rfl rfl) (Ev.top (v := .int (p : Int)) rfl 2 (by kernel_rfl) rfl rfl) (Itm.own (v := .int z) (e0 _) hob (by omega) (vInts_at hz) (by omega))) Ev.int (Bop.mod (by decide))) Bop.add)
      (Ev.top rfl 1 (by kernel_rfl) rfl rfl) (hj' ▸ Ev.bin (Ev.top rfl 2 (by kernel_rfl) rfl rfl) Ev.int (Bop.mod (by decide))) (top_more (i := 0)) (by omega) (by simp [vInts, hn]; omega) (by omega)) ?_) Exs.nil
    rw [set_more (i := 0)]
    simp [vInts, List.map_set]
end
end Mine
namespace Mine
noncomputable def judges : List Str := [".", "*", "/", "<", ">", "="]
noncomputable def signs : List Str := ["*", "/", "<", ">", "="]
theorem judge_at : ∀ k : Nat, k < 10 → (Txt.charAt ".*./.<.>.=" (k : Int)).isSome = true ∧ fitsSsize (k : Int) = true ∧ Txt.item ".*./.<.>.=" (k : Int) ∈ judges := by
  have h : (List.range 10).all (fun k => (Txt.charAt ".*./.<.>.=" (k : Int)).isSome && fitsSsize (k : Int) && judges.contains (Txt.item ".*./.<.>.=" (k : Int))) = true := by decide +kernel
  intro k hk
  have := List.all_eq_true.mp h k (List.mem_range.mpr hk)
  simp only [Bool.and_eq_true, List.contains_iff_mem] at this
  exact ⟨this.1.1, this.1.2, this.2⟩
theorem sign_at : ∀ k : Nat, k < 5 → (Txt.charAt "*/<>=" (k : Int)).isSome = true ∧ fitsSsize (k : Int) = true ∧ Txt.item "*/<>=" (k : Int) ∈ signs := by
  have h : (List.range 5).all (fun k => (Txt.charAt "*/<>=" (k : Int)).isSome && fitsSsize (k : Int) && signs.contains (Txt.item "*/<>=" (k : Int))) = true := by decide +kernel
  intro k hk
  have := List.all_eq_true.mp h k (List.mem_range.mpr hk)
  simp only [Bool.and_eq_true, List.contains_iff_mem] at this
  exact ⟨this.1.1, this.1.2, this.2⟩
noncomputable def small5 (z : Int) : Prop := 0 ≤ z ∧ z ≤ 4
section
variable {a : LA} {n : Nat} {S : List O} {sc : Nat} {ns : List Int}
theorem draw_rows {v0 v1 v2 v3 v4 v5 : Option V} {x : O} {p0 : Pos} : ∀ (m : Nat) (p r : Int) (zs : List Int) (row : Option V), zs.length + m ≤ 100 → (∀ z ∈ zs, small5 z) → ∃ r' zs' row', zs'.length = zs.length + m ∧ (∀ z ∈ zs', small5 z) ∧
    Loop (gl a) n (dE S) (.Name "row" p0) (forB2 7 (bodyD (stAt 57))) (.rng p m) (S ++ .frame dNs [v0, v1, v2, v3, v4, v5, some (.int r), some (.ref (S.length + 2)), row] :: [x, .list (vInts zs)]) .next (S ++ .frame dNs [v0, v1, v2, v3, v4, v5, some (.int r'), some (.ref (S.length + 2)), row'] :: [x, .list (vInts zs')])
  | 0, p, r, zs, row, hl, hz => ⟨r, zs, row, rfl, hz, Loop.done .rngE⟩
  | m + 1, p, r, zs, row, hl, hz => by
    obtain ⟨j, hj, hj5⟩ := fmod_at r 5 (by decide)
    obtain ⟨r', zs', row', h1, h2, h3⟩ := draw_rows m (p + 1) (r.fdiv 5) (zs ++ [r.fmod 5]) (some (.int p)) (by simp; omega) (fun z hz' => by
      rcases List.mem_append.mp hz' with q | q
      · exact hz z q
      · rw [List.mem_singleton.mp q]
        exact ⟨by have : r.fmod 5 = (j : Int) := hj; omega, by have : r.fmod 5 = (j : Int) := hj; omega⟩)
    refine ⟨r', zs', row', by rw [h1]; simp; omega, h2, Loop.next .rngN (Asg.name (Sto.top rfl 8 (by kernel_rfl) rfl dNs_nd rfl rfl)) ?_ h3⟩
    refine Exs.cons (Ex.expr (Ev.meth _ (Ev.top (v := .ref (S.length + 2)) rfl 7 (by kernel_rfl) rfl rfl) (Mth.append (xs := vInts zs) (top_more (i := 1))) (Evs.cons (Ev.bin (Ev.top (v := .int r) rfl 6 (by kernel_rfl) rfl rfl) Ev.int (Bop.mod (by decide))) Evs.nil) (Cal.append (xs := vInts zs) (top_more (i := 1)) (by rw [show (vInts zs).length = zs.length by simp [vInts]]; exact sizeOk (by omega))) rfl)) (Exs.cons ?_ Exs.nil)
    rw [set_more (i := 1)]
    refine Ex.to (Ex.assign (Ev.bin (Ev.top (v := .int r) rfl 6 (by kernel_rfl) rfl rfl) Ev.int (Bop.fdiv (by decide) (by decide))) (Sto.top rfl 6 (by kernel_rfl) rfl dNs_nd rfl rfl)) ?_
    simp [vInts]
end
end Mine
namespace Mine
section
variable {G : Glo} {n : Nat} {E : AEnv} {S S1 : List O}
theorem Ev.to {e : Expr} {v v' : V} {S1 S2 : List O} (h : Ev G n E e S v S1) (hv : v = v') (hS : S1 = S2) : Ev G n E e S v' S2 := hv ▸ hS ▸ h
theorem Ex.go {st : Stmt} {r : List Stmt} {A : Around} {env : Env} {ρ : List Addr} {s : Shared} {Q : Flow → Shared → Prop} (h : Ex G n E st S .next S1) (hA : GoodA A n) (hE : EnvOk E env ρ) (hS : Sim G ρ S s)
    (k : ∀ ρ' s', Ext ρ ρ' s s' → EnvOk E env ρ' → Sim G ρ' S1 s' → wpAny (model G.prog G.w) A (execs r env) Q (fun _ _ => False) s') : wpAny (model G.prog G.w) A (execs (st :: r) env) Q (fun _ _ => False) s :=
  wpAny_execs_cons (h A env ρ s hA hE hS _ fun ρ1 s1 f x1 hS1 r1 => by cases r1; exact k ρ1 s1 x1 (hE.mono x1.pre) hS1)
end
section
variable {a : LA} {n : Nat} {S : List O} {sc : Nat} {ns : List Int} {ob : Obj}
theorem four {α : Type} : ∀ {l : List α}, l.length = 4 → ∃ x y z w, l = [x, y, z, w]
  | [x, y, z, w], _ => ⟨x, y, z, w, rfl⟩
theorem nil_ints : (O.list []) = .list (vInts []) := rfl
/-- the rest, the sign drawn -/
theorem draw_tail {j0 : Option V} {f : Int} {jd sg : Str} {t : Tok} {x y z w : Int} {b : LA} (hj : j0 = some (.str jd)) {pl : Option V} : ∃ zs f', zs.length = 4 ∧ (∀ z ∈ zs, small5 z) ∧ Exs (gl b) n (dE S) ((bodyD (stAt 57)).drop 5) (S ++ .frame dNs [some (.ref sc), some (.ref (S.length + 1)), pl, some (.int f), j0, some (.ext (.str sg t)), none, none, none] :: [.list (vInts [x, y, z, w])]) (.ret (.ref (S.length + 4)))
    (S ++ f' :: [.list (vInts [x, y, z, w]), .list (vInts zs), .list (vInts [y, z, w]), .tup [.str jd, .ext (.str sg t), .ref (S.length + 2), .ref (S.length + 3)]]) := by
  obtain ⟨r', zs, row', h1, h2, h3⟩ := draw_rows (a := b) (n := n) (S := S) (v0 := some (.ref sc)) (v1 := some (.ref (S.length + 1))) (v2 := pl) (v3 := some (.int f)) (v4 := j0) (v5 := some (.ext (.str sg t))) (x := .list (vInts [x, y, z, w])) (p0 := ⟨112, 8, 112, 11⟩) 4 0 (f.fdiv 50) [] none (by simp) (by simp)
  refine ⟨zs, .frame dNs [some (.ref sc), some (.ref (S.length + 1)), pl, some (.int f), j0, some (.ext (.str sg t)), some (.int r'), some (.ref (S.length + 2)), row'], by simpa using h1, h2, ?_⟩
  subst hj
  refine Exs.cons (Ex.assign (Ev.bin (Ev.top (v := .int f) rfl 3 (by kernel_rfl) rfl rfl) Ev.int (Bop.fdiv (by decide) (by decide))) (Sto.top rfl 6 (by kernel_rfl) rfl dNs_nd rfl rfl)) ?_
  refine Exs.cons (Ex.to (S1 := S ++ .frame dNs [some (.ref sc), some (.ref (S.length + 1)), pl, some (.int f), some (.str jd), some (.ext (.str sg t)), some (.int (f.fdiv 50)), some (.ref (S.length + 2)), none] :: [.list (vInts [x, y, z, w]), .list []]) (Ex.assign (Ev.list Evs.nil (by simp)) ?_) rfl) ?_
  · have := Sto.top (G := gl b) (E := dE S) (S := S) (x := "sizes") (v := .ref (S.length + 2)) (ns := dNs) (vs := [some (.ref sc), some (.ref (S.length + 1)), pl, some (.int f), some (.str jd), some (.ext (.str sg t)), some (.int (f.fdiv 50)), none, none]) (l := [.list (vInts [x, y, z, w]), .list []]) rfl 7 (by kernel_rfl) rfl dNs_nd rfl rfl
    simpa using this
  refine Exs.cons (Ex.forI (Iti.range1 (Ev.blt (by kernel_rfl) (by kernel_rfl) (boot_all (by decide +kernel)) (by decide)) Ev.int (by decide) (by decide)) ⟨_, h3.choose_spec⟩ rfl) ?_
  refine Exs.stop (Ex.ret ?_)
  have hcut : cutOf (vInts [x, y, z, w]) (some 1) none = vInts [y, z, w] := rfl
  refine Ev.to (Ev.tup (Evs.cons (Ev.top (v := .str jd) rfl 4 (by kernel_rfl) rfl rfl) (Evs.cons (Ev.top (v := .ext (.str sg t)) rfl 5 (by kernel_rfl) rfl rfl) (Evs.cons (Ev.top (v := .ref (S.length + 2)) rfl 7 (by kernel_rfl) rfl rfl) (Evs.cons (Ev.slice (Ev.top (v := .ref (S.length + 1)) rfl 1 (by kernel_rfl) rfl rfl) (.some Ev.int) .none (xs := vInts [x, y, z, w]) (top_more (i := 0)) (sizeOk (by simp [vInts]))) Evs.nil)))) (sizeOk (by simp))) ?_ ?_
  · simp
  · simp [hcut]
noncomputable def g0 (a : LA) : Glo := { gl a with lo := 0 }
theorem Sim.up0 {ρ : List Addr} {s : Shared} (H : Sim (g0 a) ρ S s) (ht : 1 ≤ s.toks) : Sim (gl (a.at 1 (Nat.le_refl 1))) ρ S s := ⟨H.keep, H.len, H.nodup, H.own, H.new, H.low, H.os, H.gens, ht⟩
theorem call_enter {G : Glo} {n : Nat} {S : List O} {name qual : Str} {params : Arguments} {body : List Stmt} {scope : Scope} {dV kV doc pm cdv ct oc : Value} {an od : Option Addr} {osl : Array (Option Value)} {f : Addr} {vs : List V} (pn others : List Str) {A : Around} {ρ : List Addr} {s : Shared} {xs : List Value} {Q : Value → Shared → Prop}
    (ho : G.K.lookup f = some ⟨oc, od, .func (fnX name qual params body scope [] dV kV doc pm an cdv ct), osl⟩) (hcd : codeIn G.K cdv qual = true)
    (hbind : ∀ (s : Shared) (xs : List Value), xs.length = vs.length → G.K.In s.heap → BindsTo s (fnX name qual params body scope [] dV kV doc pm an cdv ct) ⟨xs, []⟩ (pn.zip xs))
    (hl : pn.length = vs.length) (hn : (pn ++ others).Nodup) (hloc : ∀ x ∈ pn, scope.names.lookup x = some .local) (hcell : ∀ x ∈ scope.names, x.2 ≠ .cell)
    (hco : scope.isCoroutine = false) (hgen : scope.isGenerator = false) (hk : scope.kind = .function)
    (hA : GoodA A (n + 1)) (hS : Sim G ρ S s) (r : RVs ρ vs xs)
    (hb : ∀ A' env ρ' s', GoodA A' n → EnvOk ⟨scope, S.length, []⟩ env ρ' → Ext ρ ρ' s s' → Sim G ρ' (S ++ [.frame (pn ++ others) (startVals vs others)]) s' → s.toks + vs.length ≤ s'.toks → wpAny (model G.prog G.w) A' (execs body env) (fun fl s'' => Q (valOf fl) s'') (fun _ _ => False) s') :
    wpAny (model G.prog G.w) A (call (.ref f) xs) Q (fun _ _ => False) s := by
  refine wpAny_call ?_
  have hlen : xs.length = vs.length := r.length
  refine codeAny_call_def (fd := fnX name qual params body scope [] dV kV doc pm an cdv ct) (body := body) (binds := pn.zip xs) (by have := hA.depth; omega) (G.X.keeps hS.keep _ _ ho) rfl (G.T.nolimit.keeps hS.keep) (codeRec_of (G.X.keeps hS.keep) hcd) rfl (hbind s xs hlen (G.X.keeps hS.keep)) hcell (fun x hx => hloc x.1 (List.of_mem_zip hx).1) (fun h₁ hns hk₁ => ?_) hco hgen hk
  have hfresh := get_size s.heap
  obtain ⟨ob, es, ep, e1, e2, e3, e4⟩ := hns
  have hS0 : ∀ tk, G.lo ≤ tk → Sim G (ρ ++ [s.heap.objs.size]) (S ++ [.frame (pn ++ others) (startVals vs others)]) ⟨h₁, s.gens, s.drawn, tk, s.os⟩ := fun tk ht =>
    hS.add hk₁ hfresh hS.big e1 ⟨es, ep, _, e2, e3, e4, startFrame hn hl (r.mono (List.prefix_append _ _))⟩ rfl rfl ht
  have hE : EnvOk ⟨scope, S.length, []⟩ (callEnv (fnX name qual params body scope [] dV kV doc pm an cdv ct) s.heap.objs.size f) (ρ ++ [s.heap.objs.size]) :=
    ⟨rfl, hk, by show (ρ ++ [s.heap.objs.size])[S.length]? = some s.heap.objs.size; rw [← hS.len]; simp, (fun x n e => (nomatch e)), rfl, rfl⟩
  refine wpAny_mono (hb _ _ _ _ (hA.deeper _) hE (Ext.add (s' := ⟨h₁, s.gens, s.drawn, s.toks + (pn.zip xs).length, s.os⟩) hk₁ hfresh) (hS0 _ (Nat.le_trans hS.toks (Nat.le_add_right _ _))) (by show s.toks + vs.length ≤ s.toks + (pn.zip xs).length; rw [List.length_zip, hl, hlen, Nat.min_self]; exact Nat.le_refl _)) (fun fl s' h => ?_) fun _ _ x => x.elim
  cases fl <;> exact h
theorem draw_run (hs : S[sc]? = some (.obj fun _ o => o = ob)) (hob : IntsOf ob ns) (hl : ns.length ≤ 1000) {A : Around} {ρ : List Addr} {s : Shared} {g : Addr} {Q : Value → Shared → Prop} (hA : GoodA A (n + 1)) (hS : Sim (g0 a) ρ S s) (hg : ρ[sc]? = some g)
    (k : ∀ ρ' s' v t (ht : 1 ≤ t + 1) jd sg zs x y z f', Ext ρ ρ' s s' → 1 ≤ t → jd ∈ judges → sg ∈ signs → zs.length = 4 → (∀ z ∈ zs, small5 z) → RV ρ' (.ref (S.length + 4)) v →
      Sim (gl (a.at (t + 1) ht)) ρ' (S ++ f' :: [.any, .list (vInts zs), .list (vInts [x, y, z]), .tup [.str jd, .ext (.str sg t), .ref (S.length + 2), .ref (S.length + 3)]]) s' → Q v s') :
    wpAny (model a.prog a.w) A (call (.ref 127) [.ref g]) Q (fun _ _ => False) s := by
  refine call_enter (G := g0 a) (n := n) [("script" : Str)] [("numbers" : Str), ("place" : Str), ("first" : Str), ("judge" : Str), ("sign" : Str), ("rest" : Str), ("sizes" : Str), ("row" : Str)] rfl (by kernel_rfl) (fun s xs h _ => BindsTo.of_eq (match xs, h with | [x1], _ => rfl)) (vs := [.ref sc]) rfl (by decide) (by decide +kernel) (by decide +kernel) (by kernel_rfl) (by kernel_rfl) (by kernel_rfl) hA hS (.one ⟨g, hg, rfl⟩) fun A' env ρ1 s1 hA1 hE1 x1 hS1 htk => ?_
  replace hS1 := hS1.up0 (Nat.le_trans (Nat.le_add_left 1 s.toks) htk)
  obtain ⟨nums, pl, hn4, hloop⟩ := draw_loop (a := a.at 1 (Nat.le_refl 1)) (n := n) hs hob hl (p0 := ⟨105, 8, 105, 13⟩) (min ns.length 60) 0 [17920, 37, 22, 55] none rfl (by omega)
  obtain ⟨f, x, y, z, rfl⟩ := four hn4
  have e0 : ∀ l : List O, (S ++ l)[sc]? = some (.obj fun _ o => o = ob) := fun l => at_old hs
  refine Ex.go (G := gl (a.at 1 (Nat.le_refl 1))) (Ex.assign (v := .ref (S.length + 1)) (S1 := S ++ .frame dNs [some (.ref sc), none, none, none, none, none, none, none, none] :: [.list (vInts [17920, 37, 22, 55])]) (S2 := S ++ .frame dNs [some (.ref sc), some (.ref (S.length + 1)), none, none, none, none, none, none, none] :: [.list (vInts [17920, 37, 22, 55])])
    (Ev.to (Ev.list (Evs.cons Ev.int (Evs.cons Ev.int (Evs.cons Ev.int (Evs.cons Ev.int Evs.nil)))) (by decide)) (by simp) (by rw [List.append_assoc]; rfl)) (Sto.top rfl 1 (by kernel_rfl) rfl dNs_nd rfl rfl)) hA1 hE1 hS1 fun ρ2 s2 x2 hE2 hS2 => ?_
  have hmin : min (ns.length : Int) 60 = ((min ns.length 60 : Nat) : Int) := by omega
  refine Ex.go (G := gl (a.at 1 (Nat.le_refl 1))) (Ex.forI (Iti.range1 (S1 := S ++ .frame dNs [some (.ref sc), some (.ref (S.length + 1)), none, none, none, none, none, none, none] :: [.list (vInts [17920, 37, 22, 55])]) (Ev.blt (by kernel_rfl) (by kernel_rfl) (boot_all (by decide +kernel)) (by decide)) (b := ((min ns.length 60 : Nat) : Int)) (hmin ▸ Ev.call (Ev.blt (v := .builtin "min") (by kernel_rfl) (by kernel_rfl) (boot_all (by decide +kernel)) (by decide)) (Evs.cons (v := .int ns.length) (Ev.to (Ev.call (v := .int (vInts ns).length) (Ev.blt (v := .builtin "len") (by kernel_rfl) (by kernel_rfl) (boot_all (by decide +kernel)) (by decide)) (Evs.cons (Ev.top (v := .ref sc) rfl 0 (by kernel_rfl) rfl rfl) Evs.nil) (Cal.lenOwn (e0 _) hob (by simp [vInts]; omega)) rfl) (by simp [vInts]) rfl) (Evs.cons Ev.int Evs.nil)) Cal.min2 rfl) (range_small (by omega)) range_size) hloop rfl) hA1 hE2 hS2 fun ρ3 s3 x3 hE3 hS3 => ?_
  obtain ⟨j, hj, hj10⟩ := fmod_at f 10 (by decide)
  obtain ⟨c1, c2, c3⟩ := judge_at j hj10
  obtain ⟨i, hi, hi5⟩ := fmod_at (f.fdiv 10) 5 (by decide)
  obtain ⟨d1, d2, d3⟩ := sign_at i hi5
  have hj' : f.fmod 10 = (j : Int) := hj
  have hi' : (f.fdiv 10).fmod 5 = (i : Int) := hi
  refine Ex.go (G := gl (a.at 1 (Nat.le_refl 1))) (Ex.assign (v := .int f) (Ev.sub (Ev.top (v := .ref (S.length + 1)) rfl 1 (by kernel_rfl) rfl rfl) Ev.int (Itm.list (xs := vInts [f, x, y, z]) (top_more (i := 0)) (by decide) rfl)) (Sto.top (vs' := [some (.ref sc), some (.ref (S.length + 1)), pl, some (.int f), none, none, none, none, none]) rfl 3 (by kernel_rfl) rfl dNs_nd rfl rfl)) hA1 hE3 hS3 fun ρ4 s4 x4 hE4 hS4 => ?_
  refine Ex.go (G := gl (a.at 1 (Nat.le_refl 1))) (Ex.assign (v := .str (Txt.item ".*./.<.>.=" (j : Int))) (Ev.sub Ev.str (hj' ▸ Ev.bin (Ev.top (v := .int f) rfl 3 (by kernel_rfl) rfl rfl) Ev.int (Bop.mod (by decide))) (Itm.str c1 rfl c2)) (Sto.top (vs' := [some (.ref sc), some (.ref (S.length + 1)), pl, some (.int f), some (.str (Txt.item ".*./.<.>.=" (j : Int))), none, none, none, none]) rfl 4 (by kernel_rfl) rfl dNs_nd rfl rfl)) hA1 hE4 hS4 fun ρ5 s5 x5 hE5 hS5 => ?_
  have hsg := EvT.sub (G := gl (a.at 1 (Nat.le_refl 1))) (n := n) (E := dE S) (pos := ⟨109, 11, 109, 35⟩) (slice := .BinOp (.BinOp (.Name "first" ⟨109, 19, 109, 24⟩) .FloorDiv (.Constant (.int 10) 0 ⟨109, 28, 109, 30⟩) ⟨109, 19, 109, 30⟩) .Mod (.Constant (.int 5) 0 ⟨109, 33, 109, 34⟩) ⟨109, 19, 109, 34⟩) (Ev.str (k := 0) (pos := ⟨109, 11, 109, 18⟩) (S := S ++ .frame dNs [some (.ref sc), some (.ref (S.length + 1)), pl, some (.int f), some (.str (Txt.item ".*./.<.>.=" (j : Int))), none, none, none, none] :: [.list (vInts [f, x, y, z])])) (hi' ▸ Ev.bin (Ev.bin (Ev.top (v := .int f) rfl 3 (by kernel_rfl) rfl rfl) Ev.int (Bop.fdiv (by decide) (by decide))) Ev.int (Bop.mod (by decide))) d1 rfl d2
  refine wpAny_execs_cons (wpAny_Assign_Name (hsg A' env ρ5 s5 _ hA1 hE5 hS5 fun ρ6 s6 t x6 ht hts hS6 => ?_) rfl)
  have ht1 : 1 ≤ t + 1 := Nat.le_add_left _ _
  have hS6' : Sim (gl (a.at (t + 1) ht1)) ρ6 _ s6 := hS6.up ht1 hts
  refine Sto.top (G := gl (a.at (t + 1) ht1)) (E := dE S) (v := .ext (.str (Txt.item "*/<>=" (i : Int)) t)) (vs' := [some (.ref sc), some (.ref (S.length + 1)), pl, some (.int f), some (.str (Txt.item ".*./.<.>.=" (j : Int))), some (.ext (.str (Txt.item "*/<>=" (i : Int)) t)), none, none, none]) rfl 5 (by kernel_rfl) rfl dNs_nd rfl rfl A' env ρ6 s6 _ (hE5.mono x6.pre) hS6' rfl _ fun ρ7 s7 _ x7 hS7 _ => ?_
  obtain ⟨zs, f', z1, z2, z3⟩ := draw_tail (n := n) (S := S) (sc := sc) (f := f) (jd := Txt.item ".*./.<.>.=" (j : Int)) (sg := Txt.item "*/<>=" (i : Int)) (t := t) (x := f) (y := x) (z := y) (w := z) (b := a.at (t + 1) ht1) rfl (pl := pl)
  refine wpAny_mono (z3 A' env ρ7 s7 hA1 ((hE5.mono x6.pre).mono x7.pre) hS7 _ fun ρ8 s8 fl x8 hS8 r8 => ?_) (fun _ _ q => q) fun _ _ q => q.elim
  obtain ⟨v, rfl, rv⟩ := r8
  have hfin := hS8.forget (S.length + 1)
  rw [set_more (i := 0)] at hfin
  exact k ρ8 s8 v t ht1 _ _ zs x y z f' (((((((x1.trans x2).trans x3).trans x4).trans x5).trans x6).trans x7).trans x8) ht c3 d3 z1 z2 rv hfin
end
end Mine
namespace Mine
noncomputable def closed (S : List O) : Prop := ∀ o ∈ S, okO S.length o
theorem closed.add {S : List O} {o : O} (h : closed S) (ho : okO (S.length + 1) o) : closed (S ++ [o]) := fun x hx => by
  rw [List.length_append]
  rcases List.mem_append.mp hx with q | q
  · exact okO_mono (Nat.le_add_right _ _) (h x q)
  · rw [List.mem_singleton.mp q]; exact ho
/-- what a source gives, all of it -/
noncomputable def ItemsOf (S : List O) : Src → List V → Prop
  | .rng a m, vs => vs = (List.range m).map fun j : Nat => V.int (a + j)
  | .lst i k, vs => ∃ xs, S[i]? = some (.list xs) ∧ vs = xs.drop k
theorem ItemsOf.nil {S : List O} {c : Src} (h : ItemsOf S c []) (l : List O) : Nxt (S ++ l) c none := by
  cases c with
  | rng a m =>
    cases m with
    | zero => exact .rngE
    | succ m => simp [ItemsOf, List.range_succ_eq_map] at h
  | lst i k =>
    obtain ⟨xs, h1, h2⟩ := h
    exact .lstE (at_old h1) (List.getElem?_eq_none (by have := congrArg List.length h2; simp at this; omega))
theorem ItemsOf.cons {S : List O} {c : Src} {v : V} {vs : List V} (h : ItemsOf S c (v :: vs)) : ∃ c', (∀ l, Nxt (S ++ l) c (some (v, c'))) ∧ ItemsOf S c' vs := by
  cases c with
  | rng a m =>
    cases m with
    | zero => simp [ItemsOf] at h
    | succ m =>
      simp only [ItemsOf, List.range_succ_eq_map, List.map_cons, List.cons.injEq] at h
      obtain ⟨h1, h2⟩ := h
      refine ⟨.rng (a + 1) m, fun l => ?_, ?_⟩
      · have e : a + ((0 : Nat) : Int) = a := by omega
        rw [h1, e]
        exact .rngN
      · rw [h2]
        simp only [ItemsOf, List.map_map]
        refine List.map_congr_left fun j _ => ?_
        simp only [Function.comp]
        congr 1
        simp
        omega
  | lst i k =>
    obtain ⟨xs, h1, h2⟩ := h
    have hk : xs[k]? = some v := by
      have := congrArg (fun l : List V => l[0]?) h2
      simp at this
      exact this.symm
    refine ⟨.lst i (k + 1), fun l => .lstN (at_old h1) hk, xs, h1, ?_⟩
    have := congrArg List.tail h2
    simpa using this
section
variable {G : Glo} {n : Nat} {E E' : AEnv} {S S1 : List O}
theorem compN_all {elt it : Expr} {x : Str} {px : Pos} {ifs : List Expr} (hfid : E'.fid = S.length + 1) {ns : List Str} (j : Nat) (hk : E'.scope.names.lookup x = some .local) (hj : ns[j]? = some x) (hnd : ns.Nodup) (F : V → Option V) : ∀ (vs : List V) (c : Src) (acc : List V) (w : List (Option V)), w.length = ns.length → ItemsOf S c vs → acc.length + vs.length ≤ 1000 →
    (∀ v ∈ vs, ∀ acc w, w.length = ns.length → w[j]? = some (some v) → ∃ b, Tsts G n E' ifs (S ++ [O.list acc, O.frame ns w]) b (S ++ [O.list acc, O.frame ns w]) ∧ (b = false → F v = none) ∧ (b = true → ∃ y, F v = some y ∧ Ev G n E' elt (S ++ [O.list acc, O.frame ns w]) y (S ++ [O.list acc, O.frame ns w]))) →
    ∃ w', w'.length = ns.length ∧ CompN G n E' elt [⟨.Name x px, it, ifs, 0⟩] S.length 0 c (S ++ [O.list acc, O.frame ns w]) (S ++ [O.list (acc ++ vs.filterMap F), O.frame ns w'])
  | [], c, acc, w, hw, hc, hl, h => ⟨w, hw, by rw [List.filterMap_nil, List.append_nil]; exact .done rfl (hc.nil _)⟩
  | v :: vs, c, acc, w, hw, hc, hl, h => by
    obtain ⟨c', hn, hc'⟩ := hc.cons
    have hjl : j < ns.length := (List.getElem?_eq_some_iff.mp hj).1
    have hst : Sto G E' x v (S ++ [O.list acc, O.frame ns w]) (S ++ [O.list acc, O.frame ns (w.set j (some v))]) := by
      have := Sto.loc (G := G) (E := E') (v := v) (S := S ++ [O.list acc, O.frame ns w]) j hk (by rw [hfid]; exact top_more (i := 0)) hj hnd hw
      rw [hfid] at this
      have e : (S ++ [O.list acc, O.frame ns w]).set (S.length + 1) (.frame ns (w.set j (some v))) = S ++ [O.list acc, O.frame ns (w.set j (some v))] := set_more (i := 0)
      rwa [e] at this
    obtain ⟨b, h1, h2, h3⟩ := h v (.head _) acc (w.set j (some v)) (by simp [hw]) (by rw [List.getElem?_set_self (by omega)])
    cases b with
    | false =>
      obtain ⟨w', hw', ih⟩ := compN_all (it := it) (px := px) hfid j hk hj hnd F vs c' acc (w.set j (some v)) (by simp [hw]) hc' (by simp at hl; omega) (fun u hu => h u (.tail _ hu))
      refine ⟨w', hw', ?_⟩
      rw [List.filterMap_cons, h2 rfl]
      exact .skip rfl (hn _) hst h1 ih
    | true =>
      obtain ⟨y, hy, hev⟩ := h3 rfl
      obtain ⟨w', hw', ih⟩ := compN_all (it := it) (px := px) hfid j hk hj hnd F vs c' (acc ++ [y]) (w.set j (some v)) (by simp [hw]) hc' (by simp at hl ⊢; omega) (fun u hu => h u (.tail _ hu))
      refine ⟨w', hw', ?_⟩
      rw [List.filterMap_cons, hy]
      rw [List.append_assoc] at ih
      exact .emit rfl rfl (hn _) hst h1 hev (top_at _ _) (sizeOk (by simp at hl; omega)) (by rw [set_top]; exact ih)
end
end Mine
namespace Mine
theorem take_one {S l : List O} {o : O} : (S ++ o :: l).take (S ++ [o]).length = S ++ [o] := by
  rw [show S ++ o :: l = (S ++ [o]) ++ l by simp, List.take_left]
section
variable {G : Glo} {n : Nat} {E : AEnv} {S S1 : List O}
theorem Ev.closed {e : Expr} {v : V} (hf : framesOk S) (h : closed S → Ev G n E e S v S1) : Ev G n E e S v S1 := fun A env ρ s hA hE hS => h (hS.closed hf) A env ρ s hA hE hS
theorem Ex.closed {st : Stmt} {f : Fl} (hf : framesOk S) (h : closed S → Ex G n E st S f S1) : Ex G n E st S f S1 := fun A env ρ s hA hE hS => h (hS.closed hf) A env ρ s hA hE hS
/-- one item of a comprehension -/
noncomputable def Turn (G : Glo) (n : Nat) (E' : AEnv) (ifs : List Expr) (elt : Expr) (F : V → Option V) (T : List O) (v : V) : Prop :=
  ∃ b, Tsts G n E' ifs T b T ∧ (b = false → F v = none) ∧ (b = true → ∃ y, F v = some y ∧ Ev G n E' elt T y T)
theorem Turn.all {E' : AEnv} {elt : Expr} {F : V → Option V} {T : List O} {v y : V} (h : F v = some y) (k : Ev G n E' elt T y T) : Turn G n E' [] elt F T v := ⟨true, .nil, nofun, fun _ => ⟨y, h, k⟩⟩
theorem Ev.compAll {elt iter : Expr} {x : Str} {px : Pos} {ifs : List Expr} {scope : Scope} {pos : Pos} {c : Src} {cs : List (Str × Nat)} {vs : List V} (ns : List Str) (j : Nat) (F : V → Option V)
    (hi : Iti G n E iter S c S1) (hvs : ItemsOf S1 c vs) (hf : framesOk S) (hc1 : Mine.closed S → Mine.closed S1) (hl : S.length ≤ S1.length) (hok : ∀ v ∈ vs, ∀ y, F v = some y → okV (S1.length + 1) y) (hlen : vs.length ≤ 1000)
    (hk : (relA scope E.scope).names.lookup x = some .local) (hj : ns[j]? = some x) (hnd : ns.Nodup)
    (h : ∀ v ∈ vs, ∀ acc w, w.length = ns.length → w[j]? = some (some v) → Turn G n ⟨relA scope E.scope, S1.length + 1, cs⟩ ifs elt F (S1 ++ [O.list acc, O.frame ns w]) v)
    (hcs : closN E.cells scope.names [] = some cs := by rfl) (hcell : ∀ y ∈ scope.names, y.2 ≠ .cell := by decide) (hkind : scope.kind = .function := by rfl) (hnames : ∀ y ∈ scope.names, y.2 = .local → scope.names.lookup y.1 = some .local := by decide)
    (hfo : ∀ (env : Env) x, foldedSetIterable iter env x = pure x := by (intro _ _; rfl)) : Ev G n E (.ListComp elt [⟨.Name x px, iter, ifs, 0⟩] scope pos) S (.ref S1.length) (S1 ++ [.list (vs.filterMap F)]) := by
  refine Ev.closed hf fun hc => ?_
  obtain ⟨w', hw', hL⟩ := compN_all (G := G) (n := n) (elt := elt) (it := iter) (px := px) (ifs := ifs) (E' := ⟨relA scope E.scope, S1.length + 1, cs⟩) rfl j hk hj hnd F vs c [] (ns.map fun _ => Option.none) (by simp) hvs (by simpa using hlen) h
  have hT : Mine.closed (S1 ++ [O.list (vs.filterMap F)]) := (hc1 hc).add fun y hy => by
    obtain ⟨v, hv, e⟩ := List.mem_filterMap.mp hy
    exact hok v hv y e
  refine Ev.comp ns (σ := List.range (S1.length + 1)) (S2 := S1 ++ [O.list (vs.filterMap F), O.frame ns w']) hi hL (top_more (i := 0)) ?_ (fun i hi => List.getElem?_range (by omega)) (List.getElem?_range (Nat.lt_succ_self _)) (by simp) hl hcs hcell hkind hnames hfo
  have := part_top (S1 := S1 ++ [O.list (vs.filterMap F), O.frame ns w']) (T := S1 ++ [O.list (vs.filterMap F)]) take_one (by simp) hT
  rwa [List.length_append] at this
theorem Ex.assignCompAll {elt iter : Expr} {x y : Str} {px py spos : Pos} {ifs : List Expr} {scope : Scope} {pos : Pos} {c : Src} {cs : List (Str × Nat)} {vs : List V} {fns : List Str} {fvs : List (Option V)} (jy : Nat) (ns : List Str) (j : Nat) (F : V → Option V)
    (hi : Iti G n E iter S c S1) (hvs : ItemsOf S1 c vs) (hf : framesOk S) (hc1 : Mine.closed S → Mine.closed S1) (hl : S.length ≤ S1.length) (hok : ∀ v ∈ vs, ∀ y, F v = some y → okV (S1.length + 1) y) (hlen : vs.length ≤ 1000)
    (hk : (relA scope E.scope).names.lookup x = some .local) (hj : ns[j]? = some x) (hnd : ns.Nodup)
    (h : ∀ v ∈ vs, ∀ acc w, w.length = ns.length → w[j]? = some (some v) → Turn G n ⟨relA scope E.scope, S1.length + 1, cs⟩ ifs elt F (S1 ++ [O.list acc, O.frame ns w]) v)
    (hE : S1[E.fid]? = some (.frame fns fvs)) (hky : E.scope.names.lookup y = some .local) (hjy : fns[jy]? = some y) (hndy : fns.Nodup) (hly : fvs.length = fns.length)
    (hsw : ∀ env : Env, env.scope = E.scope → swapsWith (.ListComp elt [⟨.Name x px, iter, ifs, 0⟩] scope pos) (some (.Name y py)) spos.line env = pure true)
    (hcs : closN E.cells scope.names [] = some cs := by rfl) (hcell : ∀ y ∈ scope.names, y.2 ≠ .cell := by decide) (hkind : scope.kind = .function := by rfl) (hnames : ∀ y ∈ scope.names, y.2 = .local → scope.names.lookup y.1 = some .local := by decide)
    (hfo : ∀ (env : Env) x, foldedSetIterable iter env x = pure x := by (intro _ _; rfl)) : Ex G n E (.Assign [.Name y py] (.ListComp elt [⟨.Name x px, iter, ifs, 0⟩] scope pos) spos) S .next (S1.set E.fid (.frame fns (fvs.set jy (some (.ref S1.length)))) ++ [.list (vs.filterMap F)]) := by
  refine Ex.closed hf fun hc => ?_
  obtain ⟨w', hw', hL⟩ := compN_all (G := G) (n := n) (elt := elt) (it := iter) (px := px) (ifs := ifs) (E' := ⟨relA scope E.scope, S1.length + 1, cs⟩) rfl j hk hj hnd F vs c [] (ns.map fun _ => Option.none) (by simp) hvs (by simpa using hlen) h
  have hfl : E.fid < S1.length := (List.getElem?_eq_some_iff.mp hE).1
  have hc1' := hc1 hc
  have hT : Mine.closed (S1.set E.fid (.frame fns (fvs.set jy (some (.ref S1.length)))) ++ [O.list (vs.filterMap F)]) := by
    intro o ho
    rw [List.length_append, List.length_set]
    rcases List.mem_append.mp ho with q | q
    · rcases List.mem_or_eq_of_mem_set q with q | q
      · exact okO_mono (Nat.le_add_right _ _) (hc1' o q)
      · rw [q]
        intro u hu z hz
        rcases List.mem_or_eq_of_mem_set hu with hu | hu
        · exact okV_mono (Nat.le_add_right _ _) (hc1' _ (List.mem_of_getElem? hE) u hu z hz)
        · rw [hu] at hz; cases hz; exact Nat.lt_succ_self S1.length
    · rw [List.mem_singleton.mp q]
      intro y hy
      obtain ⟨v, hv, e⟩ := List.mem_filterMap.mp hy
      exact hok v hv y e
  have hst : Sto G E y (.ref S1.length) (S1 ++ [O.list (vs.filterMap F), O.frame ns w']) (S1.set E.fid (.frame fns (fvs.set jy (some (.ref S1.length)))) ++ [O.list (vs.filterMap F), O.frame ns w']) := by
    have := Sto.loc (G := G) (E := E) (v := .ref S1.length) (S := S1 ++ [O.list (vs.filterMap F), O.frame ns w']) jy hky (at_old hE) hjy hndy hly
    rwa [List.set_append_left _ _ hfl] at this
  refine Ex.assignComp ns (σ := List.range (S1.length + 1)) (S2 := S1 ++ [O.list (vs.filterMap F), O.frame ns w']) (S3 := S1.set E.fid (.frame fns (fvs.set jy (some (.ref S1.length)))) ++ [O.list (vs.filterMap F), O.frame ns w']) (ns' := ns) (vs' := w') hi hL hst ?_ ?_ (fun i hi => List.getElem?_range (by omega)) (by simp) hl hsw hcs hcell hkind hnames hfo
  · have e := top_more (S := S1.set E.fid (.frame fns (fvs.set jy (some (.ref S1.length))))) (o := O.list (vs.filterMap F)) (l := [O.frame ns w']) (i := 0)
    rw [List.length_set] at e
    exact e
  · have := part_top (S1 := S1.set E.fid (.frame fns (fvs.set jy (some (.ref S1.length)))) ++ [O.list (vs.filterMap F), O.frame ns w']) (T := S1.set E.fid (.frame fns (fvs.set jy (some (.ref S1.length)))) ++ [O.list (vs.filterMap F)]) take_one (by simp) hT
    rwa [List.length_append, List.length_set] at this
end
end Mine
namespace Mine
/-- an expression that makes a list -/
noncomputable def EvL (G : Glo) (n : Nat) (E : AEnv) (e : Expr) (T : List O) (xs : List V) : Prop := ∃ g i, T.length ≤ i ∧ Ev G n E e T (.ref i) (T ++ g) ∧ (T ++ g)[i]? = some (.list xs)
section
variable {G : Glo} {n : Nat} {E : AEnv} {T : List O} {xs ys : List V}
theorem EvL.add {l r : Expr} {pos : Pos} (h1 : EvL G n E l T xs) (h2 : ∀ g, EvL G n E r (T ++ g) ys) (hl : xs.length + ys.length ≤ 1000) : EvL G n E (.BinOp l .Add r pos) T (xs ++ ys) := by
  obtain ⟨g1, i, l1, e1, a1⟩ := h1
  obtain ⟨g2, j, l2, e2, a2⟩ := h2 g1
  refine ⟨g1 ++ g2 ++ [.list (xs ++ ys)], (T ++ g1 ++ g2).length, by simp, ?_, ?_⟩
  · rw [← List.append_assoc, ← List.append_assoc]
    exact Ev.bin e1 e2 (Bop.addList (at_old a1) a2 (sizeOk hl))
  · rw [← List.append_assoc, ← List.append_assoc]; simp
theorem EvL.slice {value : Expr} {lower upper : Option Expr} {p pos : Pos} {i : Nat} {lo hi : Option Int} (h1 : Ev G n E value T (.ref i) T) (h2 : EvP G n E lower T lo T) (h3 : EvP G n E upper T hi T) (e : T[i]? = some (.list xs)) (hl : xs.length ≤ 1000) :
    EvL G n E (.Subscript value (.Slice lower upper none p) pos) T (cutOf xs lo hi) := ⟨_, _, Nat.le_refl _, Ev.slice h1 h2 h3 e (sizeOk hl), by simp⟩
theorem EvL.one {e : Expr} {pos : Pos} {v : V} (h : Ev G n E e T v T) (hs : ∀ env, starEach [e] env = (false, eval e env) :: starEach [] env := by (intro _; rfl)) : EvL G n E (.List [e] pos) T [v] := ⟨_, _, Nat.le_refl _, Ev.list (Evs.cons h Evs.nil hs) (by simp; decide), by simp⟩
end
noncomputable def nI (l : List Nat) : List Int := l.map fun k : Nat => (k : Int)
theorem nI_at {l : List Nat} {j : Nat} (h : j < l.length) : (vInts (nI l))[j]? = some (V.int (l.getD j 0)) := by
  simp [vInts, nI, h]
theorem nI_len (l : List Nat) : (vInts (nI l)).length = l.length := by simp [vInts, nI]
noncomputable def aNs : List Str := [("sizes" : Str), ("lost" : Str), ("most" : Str), ("total" : Str), ("row" : Str), ("left" : Str), ("one" : Str), ("other" : Str), ("less" : Str)]
theorem aNs_nd : aNs.Nodup := by decide +kernel
noncomputable abbrev aE (S : List O) : AEnv := ⟨scopeD (stAt 60), S.length, [(("codes" : Str), S.length + 1)]⟩
noncomputable abbrev aS (S : List O) (c : Nat) (vs : List (Option V)) (g : List O) : List O := S ++ O.frame aNs vs :: O.cell (some (.ref c)) :: g
theorem aS_more {S : List O} {c : Nat} {vs : List (Option V)} {g g' : List O} : aS S c vs g ++ g' = aS S c vs (g ++ g') := by simp [aS]
structure AnsC (S : List O) (z c l : Nat) (sz cs ls : List Nat) : Prop where
  hz : S[z]? = some (.list (vInts (nI sz)))
  hc : S[c]? = some (.list (vInts (nI cs)))
  hl : S[l]? = some (.list (vInts (nI ls)))
  len : sz.length = 4
  five : cs.length = 5
  small : ∀ k ∈ sz, k ≤ 4
noncomputable def cd (cs : List Nat) (k : Nat) : Nat := cs.getD k 0
noncomputable def tot (cs sz : List Nat) : Nat := (sz.map (cd cs)).sum
section
variable {a : LA} {n : Nat} {S g : List O} {z c l : Nat} {sz cs ls : List Nat} {vs : List (Option V)}
theorem AnsC.le (A : AnsC S z c l sz cs ls) {r : Nat} (hr : r < 4) : sz.getD r 0 ≤ 4 := by
  have h : r < sz.length := by rw [A.len]; exact hr
  have := A.small sz[r] (List.getElem_mem h)
  simp [h, this]
theorem ans_size (A : AnsC S z c l sz cs ls) (hv : vs[0]? = some (some (.ref z))) {e : Expr} {p q : Pos} {r : Nat} (hr : r < 4) (he : Ev (gl a) n (aE S) e (aS S c vs g) (.int r) (aS S c vs g)) (hs : ∀ x y, ∃ L, subscripted e false x y = operate L (getItem x y) := by (intro x y; first | exact ⟨[x, y], rfl⟩ | exact ⟨[y, x], rfl⟩)) :
    Ev (gl a) n (aE S) (.Subscript (.Name "sizes" p) e q) (aS S c vs g) (.int (sz.getD r 0)) (aS S c vs g) :=
  Ev.sub (Ev.top (v := .ref z) rfl 0 (by kernel_rfl) rfl hv) he (Itm.list (at_old A.hz) (by omega) (nI_at (by rw [A.len]; omega)) (by omega)) hs
theorem ans_code (A : AnsC S z c l sz cs ls) {e : Expr} {p q : Pos} {k : Nat} (hk : k < 5) (he : Ev (gl a) n (aE S) e (aS S c vs g) (.int k) (aS S c vs g)) (hs : ∀ x y, ∃ L, subscripted e false x y = operate L (getItem x y) := by (intro x y; first | exact ⟨[x, y], rfl⟩ | exact ⟨[y, x], rfl⟩)) :
    Ev (gl a) n (aE S) (.Subscript (.Name "codes" p) e q) (aS S c vs g) (.int (cd cs k)) (aS S c vs g) :=
  Ev.sub (Ev.cel (v := .ref c) (by kernel_rfl) (by rfl) (top_more (i := 0))) he (Itm.list (at_old A.hc) (by omega) (nI_at (by rw [A.five]; omega)) (by omega)) hs
end
theorem tot_set {cs sz : List Nat} {r k : Nat} (hr : r < sz.length) : tot cs (sz.set r k) + cd cs (sz.getD r 0) = tot cs sz + cd cs k := by
  induction sz generalizing r with
  | nil => simp at hr
  | cons x t ih =>
    cases r with
    | zero => simp [tot]; omega
    | succ r =>
      have := ih (r := r) (by simpa using hr)
      simp only [tot, List.set_cons_succ, List.map_cons, List.sum_cons, List.getD_cons_succ] at this ⊢
      omega
end Mine
namespace Mine
noncomputable def rowB : List Stmt := forB2 1 (bodyD (stAt 60))
noncomputable def leftB : List Stmt := forB2 0 rowB
noncomputable def otherB : List Stmt := forB2 2 leftB
noncomputable def lessB : List Stmt := forB2 0 otherB
noncomputable def MoveOf (sz : List Nat) (two : Bool) (m : List Nat) : Prop := (∃ r k, r < 4 ∧ k < sz.getD r 0 ∧ m = sz.set r k) ∨ (two = true ∧ ∃ r o k q, r < o ∧ o < 4 ∧ k < sz.getD r 0 ∧ q < sz.getD o 0 ∧ m = (sz.set r k).set o q)
noncomputable def Found (S : List O) (c : Nat) (sz cs ls : List Nat) (two : Bool) (T : List O) (f : Fl) : Prop := ∃ vs g R m, f = .ret (.ref R) ∧ T = aS S c vs g ∧ T[R]? = some (.list (vInts (nI m))) ∧ MoveOf sz two m ∧ tot cs m ∈ ls ∧ S.length ≤ R
theorem in_ls {ls : List Nat} {k : Nat} {v : Int} (h : v = (k : Int)) : ((nI ls).any (· == v)) = true ↔ k ∈ ls := by
  subst h
  rw [List.any_eq_true]
  constructor
  · rintro ⟨x, hx, e⟩
    obtain ⟨y, hy, rfl⟩ := List.mem_map.mp hx
    have e' : (y : Int) = k := by simpa using e
    have : y = k := by omega
    exact this ▸ hy
  · intro h
    exact ⟨_, List.mem_map.mpr ⟨k, h, rfl⟩, by simp⟩
noncomputable def retE : List Stmt → Expr
  | .If _ (.Return (some e) _ :: _) _ _ :: _ => e
  | _ => .Constant .none 0 ⟨0, 0, 0, 0⟩
theorem cut_len (xs : List V) (lo hi : Option Int) : (cutOf xs lo hi).length ≤ xs.length := by
  unfold cutOf
  rw [List.length_take, List.length_drop]
  omega
theorem cut_to {xs : List V} {k : Nat} (h : k ≤ xs.length) : cutOf xs none (some (k : Int)) = xs.take k := by
  unfold cutOf
  show List.take (clipAt xs.length k - 0) (xs.drop 0) = _
  rw [clipAt_nat, Nat.min_eq_left h]; rfl
theorem cut_mid {xs : List V} {j k : Nat} (h : k ≤ xs.length) (hj : j ≤ xs.length) : cutOf xs (some (j : Int)) (some (k : Int)) = (xs.drop j).take (k - j) := by
  unfold cutOf
  show List.take (clipAt xs.length k - clipAt xs.length j) (xs.drop (clipAt xs.length j)) = _
  rw [clipAt_nat, clipAt_nat, Nat.min_eq_left h, Nat.min_eq_left hj]
theorem move_two {sz : List Nat} {r o k q : Nat} (h : sz.length = 4) (ho : o < 4) (hr : r < o) : (vInts (nI sz)).take r ++ [V.int k] ++ ((vInts (nI sz)).drop (r + 1)).take (o - (r + 1)) ++ [V.int q] ++ (vInts (nI sz)).drop (o + 1) = vInts (nI ((sz.set r k).set o q)) := by
  obtain ⟨x, y, z, w, rfl⟩ := four h
  match o, r, ho, hr with
  | 1, 0, _, _ => rfl
  | 2, 0, _, _ => rfl
  | 2, 1, _, _ => rfl
  | 3, 0, _, _ => rfl
  | 3, 1, _, _ => rfl
  | 3, 2, _, _ => rfl
theorem move_one {sz : List Nat} {r k : Nat} (h : sz.length = 4) (hr : r < 4) : (vInts (nI sz)).take r ++ [V.int k] ++ (vInts (nI sz)).drop (r + 1) = vInts (nI (sz.set r k)) := by
  obtain ⟨x, y, z, w, rfl⟩ := four h
  match r, hr with
  | 0, _ => rfl
  | 1, _ => rfl
  | 2, _ => rfl
  | 3, _ => rfl
section
variable {a : LA} {n : Nat} {S g : List O} {z c l : Nat} {sz cs ls : List Nat} {mo to : Option V}
theorem less_loop (A : AnsC S z c l sz cs ls) {r k o : Nat} (ho : o < 4) (hr : r < o) (hk : k < sz.getD r 0) {p0 : Pos} : ∀ (m q : Nat) (vl : Option V), q + m = sz.getD o 0 →
    (∃ T f, Loop (gl a) n (aE S) (.Name "less" p0) lessB (.rng (q : Int) m) (aS S c [some (.ref z), some (.ref l), mo, to, some (.int r), some (.int k), some (.int (tot cs (sz.set r k))), some (.int o), vl] g) f T ∧ Found S c sz cs ls true T f) ∨
    (∃ vl', Loop (gl a) n (aE S) (.Name "less" p0) lessB (.rng (q : Int) m) (aS S c [some (.ref z), some (.ref l), mo, to, some (.int r), some (.int k), some (.int (tot cs (sz.set r k))), some (.int o), vl] g) .next (aS S c [some (.ref z), some (.ref l), mo, to, some (.int r), some (.int k), some (.int (tot cs (sz.set r k))), some (.int o), vl'] g) ∧
      ∀ q', q ≤ q' → q' < q + m → tot cs ((sz.set r k).set o q') ∉ ls)
  | 0, q, vl, hq => .inr ⟨vl, Loop.done .rngE, fun q' h1 h2 => absurd h2 (by omega)⟩
  | m + 1, q, vl, hq => by
    have ho4 := A.le ho
    have hr4 : r < 4 := by omega
    have hk4 := A.le hr4
    have hst : Sto (gl a) (aE S) "less" (.int (q : Int)) (aS S c [some (.ref z), some (.ref l), mo, to, some (.int r), some (.int k), some (.int (tot cs (sz.set r k))), some (.int o), vl] g) (aS S c [some (.ref z), some (.ref l), mo, to, some (.int r), some (.int k), some (.int (tot cs (sz.set r k))), some (.int o), some (.int (q : Int))] g) := Sto.top rfl 8 (by kernel_rfl) rfl aNs_nd rfl rfl
    have hoth : ∀ p g, Ev (gl a) n (aE S) (.Name "other" p) (aS S c [some (.ref z), some (.ref l), mo, to, some (.int r), some (.int k), some (.int (tot cs (sz.set r k))), some (.int o), some (.int (q : Int))] g) (.int o) _ := fun p g => Ev.top rfl 7 (by kernel_rfl) rfl rfl
    have hless : ∀ p g, Ev (gl a) n (aE S) (.Name "less" p) (aS S c [some (.ref z), some (.ref l), mo, to, some (.int r), some (.int k), some (.int (tot cs (sz.set r k))), some (.int o), some (.int (q : Int))] g) (.int q) _ := fun p g => Ev.top rfl 8 (by kernel_rfl) rfl rfl
    have hone : ∀ p g, Ev (gl a) n (aE S) (.Name "one" p) (aS S c [some (.ref z), some (.ref l), mo, to, some (.int r), some (.int k), some (.int (tot cs (sz.set r k))), some (.int o), some (.int (q : Int))] g) (.int (tot cs (sz.set r k))) _ := fun p g => Ev.top rfl 6 (by kernel_rfl) rfl rfl
    have hval : ((tot cs (sz.set r k) : Nat) : Int) - (cd cs (sz.getD o 0) : Nat) + (cd cs q : Nat) = ((tot cs ((sz.set r k).set o q) : Nat) : Int) := by
      have h1 := tot_set (cs := cs) (sz := sz.set r k) (r := o) (k := q) (by simp [A.len]; omega)
      have h2 : (sz.set r k).getD o 0 = sz.getD o 0 := by
        rw [List.getD_eq_getElem?_getD, List.getD_eq_getElem?_getD, List.getElem?_set_ne (by omega)]
      rw [h2] at h1
      omega
    have hcop : Cop (gl a) n .In (.int (((tot cs (sz.set r k) : Nat) : Int) - (cd cs (sz.getD o 0) : Nat) + (cd cs q : Nat))) (.ref l) (aS S c [some (.ref z), some (.ref l), mo, to, some (.int r), some (.int k), some (.int (tot cs (sz.set r k))), some (.int o), some (.int (q : Int))] g) (.bool ((nI ls).any (· == (((tot cs (sz.set r k) : Nat) : Int) - (cd cs (sz.getD o 0) : Nat) + (cd cs q : Nat))))) _ := Cop.ini (at_old A.hl)
    by_cases hg : tot cs ((sz.set r k).set o q) ∈ ls
    · refine .inl ?_
      rw [(in_ls hval).mpr hg] at hcop
      have hrow : ∀ p g, Ev (gl a) n (aE S) (.Name "row" p) (aS S c [some (.ref z), some (.ref l), mo, to, some (.int r), some (.int k), some (.int (tot cs (sz.set r k))), some (.int o), some (.int (q : Int))] g) (.int r) _ := fun p g => Ev.top rfl 4 (by kernel_rfl) rfl rfl
      have hleft : ∀ p g, Ev (gl a) n (aE S) (.Name "left" p) (aS S c [some (.ref z), some (.ref l), mo, to, some (.int r), some (.int k), some (.int (tot cs (sz.set r k))), some (.int o), some (.int (q : Int))] g) (.int k) _ := fun p g => Ev.top rfl 5 (by kernel_rfl) rfl rfl
      have hsz : ∀ p g, Ev (gl a) n (aE S) (.Name "sizes" p) (aS S c [some (.ref z), some (.ref l), mo, to, some (.int r), some (.int k), some (.int (tot cs (sz.set r k))), some (.int o), some (.int (q : Int))] g) (.ref z) _ := fun p g => Ev.top rfl 0 (by kernel_rfl) rfl rfl
      have hlen : (vInts (nI sz)).length = 4 := by rw [nI_len, A.len]
      have hret : EvL (gl a) n (aE S) (retE lessB) (aS S c [some (.ref z), some (.ref l), mo, to, some (.int r), some (.int k), some (.int (tot cs (sz.set r k))), some (.int o), some (.int (q : Int))] g) (cutOf (vInts (nI sz)) none (some (r : Int)) ++ [.int k] ++ cutOf (vInts (nI sz)) (some ((r : Int) + 1)) (some (o : Int)) ++ [.int q] ++ cutOf (vInts (nI sz)) (some ((o : Int) + 1)) none) :=
        by refine EvL.add (EvL.add (EvL.add (EvL.add (EvL.slice (hsz _ _) .none (.some (hrow _ _)) (at_old A.hz) (by rw [hlen]; decide)) (fun g' => by rw [aS_more]; exact EvL.one (hleft _ _)) ?_)
          (fun g' => by rw [aS_more]; exact EvL.slice (hsz _ _) (.some (Ev.bin (hrow _ _) Ev.int Bop.add)) (.some (hoth _ _)) (at_old A.hz) (by rw [hlen]; decide)) ?_) (fun g' => by rw [aS_more]; exact EvL.one (hless _ _)) ?_) (fun g' => by rw [aS_more]; exact EvL.slice (hsz _ _) (.some (Ev.bin (hoth _ _) Ev.int Bop.add)) .none (at_old A.hz) (by rw [hlen]; decide)) ?_ <;> (
            have c1 := cut_len (vInts (nI sz)) none (some (r : Int))
            have c2 := cut_len (vInts (nI sz)) (some ((r : Int) + 1)) (some (o : Int))
            have c3 := cut_len (vInts (nI sz)) (some ((o : Int) + 1)) none
            rw [hlen] at c1 c2 c3
            simp only [List.length_append, List.length_cons, List.length_nil]
            omega)
      have e1 : cutOf (vInts (nI sz)) none (some (r : Int)) = (vInts (nI sz)).take r := cut_to (by omega)
      have e2 : cutOf (vInts (nI sz)) (some ((r : Int) + 1)) (some (o : Int)) = ((vInts (nI sz)).drop (r + 1)).take (o - (r + 1)) := cut_mid (j := r + 1) (by omega) (by omega)
      have e3 : cutOf (vInts (nI sz)) (some ((o : Int) + 1)) none = (vInts (nI sz)).drop (o + 1) := cut_from (k := o + 1) (by omega)
      rw [e1, e2, e3, move_two A.len ho hr] at hret
      obtain ⟨g', R, hRl, hev, hat⟩ := hret
      rw [aS_more] at hev hat
      refine ⟨_, _, Loop.stop .rngN (Asg.name hst) (Exs.stop (Ex.if_t (Tst.cmp (Ev.bin (Ev.bin (hone _ _) (ans_code A (by omega) (ans_size A rfl ho (hoth _ _))) Bop.sub) (ans_code A (by omega) (hless _ _)) Bop.add) (Ev.top (v := .ref l) rfl 1 (by kernel_rfl) rfl rfl) hcop) (Exs.stop (Ex.ret hev)))), _, _, R, _, rfl, rfl, hat, .inr ⟨rfl, r, o, k, q, hr, ho, hk, by omega, rfl⟩, hg, Nat.le_trans (by simp [aS]) hRl⟩
    · have hb : ((nI ls).any (· == (((tot cs (sz.set r k) : Nat) : Int) - (cd cs (sz.getD o 0) : Nat) + (cd cs q : Nat)))) = false := by
        rw [← Bool.not_eq_true, in_ls hval]; exact hg
      rw [hb] at hcop
      have hbody : Exs (gl a) n (aE S) lessB (aS S c [some (.ref z), some (.ref l), mo, to, some (.int r), some (.int k), some (.int (tot cs (sz.set r k))), some (.int o), some (.int (q : Int))] g) .next (aS S c [some (.ref z), some (.ref l), mo, to, some (.int r), some (.int k), some (.int (tot cs (sz.set r k))), some (.int o), some (.int (q : Int))] g) :=
        Exs.cons (Ex.if_f (Tst.cmp (Ev.bin (Ev.bin (hone _ _) (ans_code A (by omega) (ans_size A rfl ho (hoth _ _))) Bop.sub) (ans_code A (by omega) (hless _ _)) Bop.add) (Ev.top (v := .ref l) rfl 1 (by kernel_rfl) rfl rfl) hcop) Exs.nil) Exs.nil
      obtain ⟨T, f, h1, h2⟩ | ⟨vl', h1, h2⟩ := less_loop A ho hr hk (p0 := p0) m (q + 1) (some (.int (q : Int))) (by omega)
      · exact .inl ⟨T, f, Loop.next .rngN (Asg.name hst) hbody h1, h2⟩
      · refine .inr ⟨vl', Loop.next .rngN (Asg.name hst) hbody h1, fun q' g1 g2 => ?_⟩
        by_cases e : q' = q
        · subst e; exact hg
        · exact h2 q' (by omega) (by omega)
end
end Mine
namespace Mine
theorem range_rows : ∀ {r : Nat}, r < 4 → Builtin.Range.small ((r : Int) + 1) 4 1 = true ∧ Builtin.Range.rangeSize ((r : Int) + 1) 4 1 = ((3 - r : Nat) : Int) ∧ Builtin.Range.small ((r : Int) + 1) 0 1 = true ∧ Builtin.Range.rangeSize ((r : Int) + 1) 0 1 = ((0 : Nat) : Int)
  | 0, _ => by decide
  | 1, _ => by decide
  | 2, _ => by decide
  | 3, _ => by decide
section
variable {a : LA} {n : Nat} {S g : List O} {z c l : Nat} {sz cs ls : List Nat} {mo to : Option V}
theorem other_loop (A : AnsC S z c l sz cs ls) {r k : Nat} (hk : k < sz.getD r 0) {p0 : Pos} : ∀ (m o : Nat) (vo vl : Option V), r < o → o + m = 4 →
    (∃ T f, Loop (gl a) n (aE S) (.Name "other" p0) otherB (.rng (o : Int) m) (aS S c [some (.ref z), some (.ref l), mo, to, some (.int r), some (.int k), some (.int (tot cs (sz.set r k))), vo, vl] g) f T ∧ Found S c sz cs ls true T f) ∨
    (∃ vo' vl', Loop (gl a) n (aE S) (.Name "other" p0) otherB (.rng (o : Int) m) (aS S c [some (.ref z), some (.ref l), mo, to, some (.int r), some (.int k), some (.int (tot cs (sz.set r k))), vo, vl] g) .next (aS S c [some (.ref z), some (.ref l), mo, to, some (.int r), some (.int k), some (.int (tot cs (sz.set r k))), vo', vl'] g) ∧
      ∀ o' q', o ≤ o' → o' < 4 → q' < sz.getD o' 0 → tot cs ((sz.set r k).set o' q') ∉ ls)
  | 0, o, vo, vl, hr, ho => .inr ⟨vo, vl, Loop.done .rngE, fun o' q' h1 h2 => absurd h2 (by omega)⟩
  | m + 1, o, vo, vl, hr, ho => by
    have ho4 : o < 4 := by omega
    have hle := A.le ho4
    have hst : Sto (gl a) (aE S) "other" (.int (o : Int)) (aS S c [some (.ref z), some (.ref l), mo, to, some (.int r), some (.int k), some (.int (tot cs (sz.set r k))), vo, vl] g) (aS S c [some (.ref z), some (.ref l), mo, to, some (.int r), some (.int k), some (.int (tot cs (sz.set r k))), some (.int (o : Int)), vl] g) := Sto.top rfl 7 (by kernel_rfl) rfl aNs_nd rfl rfl
    have hi : ∀ p1 p2 p3 p4 p5, Iti (gl a) n (aE S) (.Call (.Name "range" p1) [.Subscript (.Name "sizes" p2) (.Name "other" p3) p4] [] p5) (aS S c [some (.ref z), some (.ref l), mo, to, some (.int r), some (.int k), some (.int (tot cs (sz.set r k))), some (.int (o : Int)), vl] g) (.rng 0 (sz.getD o 0)) (aS S c [some (.ref z), some (.ref l), mo, to, some (.int r), some (.int k), some (.int (tot cs (sz.set r k))), some (.int (o : Int)), vl] g) :=
      fun p1 p2 p3 p4 p5 => Iti.range1 (Ev.blt (by kernel_rfl) (by kernel_rfl) (boot_all (by decide +kernel)) (by decide)) (ans_size A rfl ho4 (Ev.top (v := .int (o : Int)) rfl 7 (by kernel_rfl) rfl rfl)) (range_small (by omega)) range_size
    rcases less_loop A ho4 hr hk (n := n) (a := a) (g := g) (mo := mo) (to := to) (p0 := ⟨144, 20, 144, 24⟩) (sz.getD o 0) 0 vl (by omega) with ⟨T, f, h1, h2⟩ | ⟨vl1, h1, h2⟩
    · obtain ⟨vs, g', R, m', rfl, h3⟩ := id h2
      exact .inl ⟨T, _, Loop.stop .rngN (Asg.name hst) (Exs.stop (Ex.forI (hi _ _ _ _ _) h1 rfl)), h2⟩
    · have hbody : Exs (gl a) n (aE S) otherB (aS S c [some (.ref z), some (.ref l), mo, to, some (.int r), some (.int k), some (.int (tot cs (sz.set r k))), some (.int (o : Int)), vl] g) .next (aS S c [some (.ref z), some (.ref l), mo, to, some (.int r), some (.int k), some (.int (tot cs (sz.set r k))), some (.int (o : Int)), vl1] g) :=
        Exs.cons (Ex.forI (hi _ _ _ _ _) h1 rfl) Exs.nil
      rcases other_loop A hk (p0 := p0) m (o + 1) (some (.int (o : Int))) vl1 (by omega) (by omega) with ⟨T, f, g1, g2⟩ | ⟨vo', vl', g1, g2⟩
      · exact .inl ⟨T, f, Loop.next .rngN (Asg.name hst) hbody g1, g2⟩
      · refine .inr ⟨vo', vl', Loop.next .rngN (Asg.name hst) hbody g1, fun o' q' k1 k2 k3 => ?_⟩
        by_cases e : o' = o
        · subst e; exact h2 q' (Nat.zero_le _) (by omega)
        · exact g2 o' q' (by omega) k2 k3
end
end Mine
namespace Mine
section
variable {a : LA} {n : Nat} {S g : List O} {z c l : Nat} {sz cs ls : List Nat}
/-- no move of the row's, from k on, is good -/
noncomputable def BadFrom (sz cs ls : List Nat) (two : Bool) (r k : Nat) : Prop := ∀ k', k ≤ k' → k' < sz.getD r 0 → tot cs (sz.set r k') ∉ ls ∧ (two = true → ∀ o' q', r < o' → o' < 4 → q' < sz.getD o' 0 → tot cs ((sz.set r k').set o' q') ∉ ls)
theorem left_loop (A : AnsC S z c l sz cs ls) {r : Nat} (hr : r < 4) {mo : Int} {two : Bool} (hm : two = decide (1 < mo)) {p0 : Pos} : ∀ (m k : Nat) (vk v1 vo vl : Option V), k + m = sz.getD r 0 →
    (∃ T f, Loop (gl a) n (aE S) (.Name "left" p0) leftB (.rng (k : Int) m) (aS S c [some (.ref z), some (.ref l), some (.int mo), some (.int (tot cs sz)), some (.int r), vk, v1, vo, vl] g) f T ∧ Found S c sz cs ls two T f) ∨
    (∃ vk' v1' vo' vl', Loop (gl a) n (aE S) (.Name "left" p0) leftB (.rng (k : Int) m) (aS S c [some (.ref z), some (.ref l), some (.int mo), some (.int (tot cs sz)), some (.int r), vk, v1, vo, vl] g) .next (aS S c [some (.ref z), some (.ref l), some (.int mo), some (.int (tot cs sz)), some (.int r), vk', v1', vo', vl'] g) ∧ BadFrom sz cs ls two r k)
  | 0, k, vk, v1, vo, vl, hk => .inr ⟨vk, v1, vo, vl, Loop.done .rngE, fun k' h1 h2 => absurd h2 (by omega)⟩
  | m + 1, k, vk, v1, vo, vl, hk => by
    have hle := A.le hr
    have hkr : k < sz.getD r 0 := by omega
    have hst : Sto (gl a) (aE S) "left" (.int (k : Int)) (aS S c [some (.ref z), some (.ref l), some (.int mo), some (.int (tot cs sz)), some (.int r), vk, v1, vo, vl] g) (aS S c [some (.ref z), some (.ref l), some (.int mo), some (.int (tot cs sz)), some (.int r), some (.int (k : Int)), v1, vo, vl] g) := Sto.top rfl 5 (by kernel_rfl) rfl aNs_nd rfl rfl
    have hval : ((tot cs sz : Nat) : Int) - (cd cs (sz.getD r 0) : Nat) + (cd cs k : Nat) = ((tot cs (sz.set r k) : Nat) : Int) := by
      have h1 := tot_set (cs := cs) (sz := sz) (r := r) (k := k) (by rw [A.len]; omega)
      omega
    have hx1 : ∀ p p1 p2 p3 p4 p5 p6 p7 p8 p9 p10, Ex (gl a) n (aE S) (.Assign [.Name "one" p] (.BinOp (.BinOp (.Name "total" p1) .Sub (.Subscript (.Name "codes" p2) (.Subscript (.Name "sizes" p3) (.Name "row" p4) p5) p6) p7) .Add (.Subscript (.Name "codes" p8) (.Name "left" p9) p10) ⟨140, 18, 140, 57⟩) ⟨140, 12, 140, 57⟩)
        (aS S c [some (.ref z), some (.ref l), some (.int mo), some (.int (tot cs sz)), some (.int r), some (.int (k : Int)), v1, vo, vl] g) .next (aS S c [some (.ref z), some (.ref l), some (.int mo), some (.int (tot cs sz)), some (.int r), some (.int (k : Int)), some (.int (tot cs (sz.set r k))), vo, vl] g) := fun p p1 p2 p3 p4 p5 p6 p7 p8 p9 p10 =>
      Ex.assign (v := .int (tot cs (sz.set r k))) (hval ▸ Ev.bin (Ev.bin (Ev.top (v := .int (tot cs sz)) rfl 3 (by kernel_rfl) rfl rfl) (ans_code A (by omega) (ans_size A rfl hr (Ev.top (v := .int (r : Int)) rfl 4 (by kernel_rfl) rfl rfl))) Bop.sub) (ans_code A (by omega) (Ev.top (v := .int (k : Int)) rfl 5 (by kernel_rfl) rfl rfl)) Bop.add) (Sto.top rfl 6 (by kernel_rfl) rfl aNs_nd rfl rfl)
    have hcop : Cop (gl a) n .In (.int (tot cs (sz.set r k))) (.ref l) (aS S c [some (.ref z), some (.ref l), some (.int mo), some (.int (tot cs sz)), some (.int r), some (.int (k : Int)), some (.int (tot cs (sz.set r k))), vo, vl] g) (.bool ((nI ls).any (· == ((tot cs (sz.set r k) : Nat) : Int)))) _ := Cop.ini (at_old A.hl)
    have hone : ∀ p g, Ev (gl a) n (aE S) (.Name "one" p) (aS S c [some (.ref z), some (.ref l), some (.int mo), some (.int (tot cs sz)), some (.int r), some (.int (k : Int)), some (.int (tot cs (sz.set r k))), vo, vl] g) (.int (tot cs (sz.set r k))) _ := fun p g => Ev.top rfl 6 (by kernel_rfl) rfl rfl
    have hlen : (vInts (nI sz)).length = 4 := by rw [nI_len, A.len]
    by_cases hg : tot cs (sz.set r k) ∈ ls
    · refine .inl ?_
      rw [(in_ls rfl).mpr hg] at hcop
      have hrow : ∀ p g, Ev (gl a) n (aE S) (.Name "row" p) (aS S c [some (.ref z), some (.ref l), some (.int mo), some (.int (tot cs sz)), some (.int r), some (.int (k : Int)), some (.int (tot cs (sz.set r k))), vo, vl] g) (.int r) _ := fun p g => Ev.top rfl 4 (by kernel_rfl) rfl rfl
      have hleft : ∀ p g, Ev (gl a) n (aE S) (.Name "left" p) (aS S c [some (.ref z), some (.ref l), some (.int mo), some (.int (tot cs sz)), some (.int r), some (.int (k : Int)), some (.int (tot cs (sz.set r k))), vo, vl] g) (.int k) _ := fun p g => Ev.top rfl 5 (by kernel_rfl) rfl rfl
      have hsz : ∀ p g, Ev (gl a) n (aE S) (.Name "sizes" p) (aS S c [some (.ref z), some (.ref l), some (.int mo), some (.int (tot cs sz)), some (.int r), some (.int (k : Int)), some (.int (tot cs (sz.set r k))), vo, vl] g) (.ref z) _ := fun p g => Ev.top rfl 0 (by kernel_rfl) rfl rfl
      have hret : EvL (gl a) n (aE S) (retE (leftB.drop 1)) (aS S c [some (.ref z), some (.ref l), some (.int mo), some (.int (tot cs sz)), some (.int r), some (.int (k : Int)), some (.int (tot cs (sz.set r k))), vo, vl] g) (cutOf (vInts (nI sz)) none (some (r : Int)) ++ [.int k] ++ cutOf (vInts (nI sz)) (some ((r : Int) + 1)) none) := by
        refine EvL.add (EvL.add (EvL.slice (hsz _ _) .none (.some (hrow _ _)) (at_old A.hz) (by rw [hlen]; decide)) (fun g' => by rw [aS_more]; exact EvL.one (hleft _ _)) ?_) (fun g' => by rw [aS_more]; exact EvL.slice (hsz _ _) (.some (Ev.bin (hrow _ _) Ev.int Bop.add)) .none (at_old A.hz) (by rw [hlen]; decide)) ?_ <;> (
            have c1 := cut_len (vInts (nI sz)) none (some (r : Int))
            have c3 := cut_len (vInts (nI sz)) (some ((r : Int) + 1)) none
            rw [hlen] at c1 c3
            simp only [List.length_append, List.length_cons, List.length_nil]
            omega)
      have e1 : cutOf (vInts (nI sz)) none (some (r : Int)) = (vInts (nI sz)).take r := cut_to (by omega)
      have e3 : cutOf (vInts (nI sz)) (some ((r : Int) + 1)) none = (vInts (nI sz)).drop (r + 1) := cut_from (k := r + 1) (by omega)
      rw [e1, e3, move_one A.len hr] at hret
      obtain ⟨g', R, hRl, hev, hat⟩ := hret
      rw [aS_more] at hev hat
      exact ⟨_, _, Loop.stop .rngN (Asg.name hst) (Exs.cons (hx1 _ _ _ _ _ _ _ _ _ _ _) (Exs.stop (Ex.if_t (Tst.cmp (hone _ _) (Ev.top (v := .ref l) rfl 1 (by kernel_rfl) rfl rfl) hcop) (Exs.stop (Ex.ret hev))))), _, _, R, _, rfl, rfl, hat, .inl ⟨r, k, hr, hkr, rfl⟩, hg, Nat.le_trans (by simp [aS]) hRl⟩
    · have hb : ((nI ls).any (· == ((tot cs (sz.set r k) : Nat) : Int))) = false := by
        rw [← Bool.not_eq_true, in_ls rfl]; exact hg
      rw [hb] at hcop
      obtain ⟨q1, q2, q3, q4⟩ := range_rows hr
      have hmost : ∀ p, Ev (gl a) n (aE S) (.Name "most" p) (aS S c [some (.ref z), some (.ref l), some (.int mo), some (.int (tot cs sz)), some (.int r), some (.int (k : Int)), some (.int (tot cs (sz.set r k))), vo, vl] g) (.int mo) (aS S c [some (.ref z), some (.ref l), some (.int mo), some (.int (tot cs sz)), some (.int r), some (.int (k : Int)), some (.int (tot cs (sz.set r k))), vo, vl] g) := fun p => Ev.top rfl 2 (by kernel_rfl) rfl rfl
      have hrow : ∀ p, Ev (gl a) n (aE S) (.Name "row" p) (aS S c [some (.ref z), some (.ref l), some (.int mo), some (.int (tot cs sz)), some (.int r), some (.int (k : Int)), some (.int (tot cs (sz.set r k))), vo, vl] g) (.int r) (aS S c [some (.ref z), some (.ref l), some (.int mo), some (.int (tot cs sz)), some (.int r), some (.int (k : Int)), some (.int (tot cs (sz.set r k))), vo, vl] g) := fun p => Ev.top rfl 4 (by kernel_rfl) rfl rfl
      have hrg : ∀ p, Ev (gl a) n (aE S) (.Name "range" p) (aS S c [some (.ref z), some (.ref l), some (.int mo), some (.int (tot cs sz)), some (.int r), some (.int (k : Int)), some (.int (tot cs (sz.set r k))), vo, vl] g) (.ext (.type "range")) (aS S c [some (.ref z), some (.ref l), some (.int mo), some (.int (tot cs sz)), some (.int r), some (.int (k : Int)), some (.int (tot cs (sz.set r k))), vo, vl] g) := fun p => Ev.blt (by kernel_rfl) (by kernel_rfl) (boot_all (by decide +kernel)) (by decide)
      -- what is behind this row's turn
      have next : ∀ {vo1 vl1 : Option V}, Exs (gl a) n (aE S) leftB (aS S c [some (.ref z), some (.ref l), some (.int mo), some (.int (tot cs sz)), some (.int r), some (.int (k : Int)), v1, vo, vl] g) .next (aS S c [some (.ref z), some (.ref l), some (.int mo), some (.int (tot cs sz)), some (.int r), some (.int (k : Int)), some (.int (tot cs (sz.set r k))), vo1, vl1] g) →
          (two = true → ∀ o' q', r < o' → o' < 4 → q' < sz.getD o' 0 → tot cs ((sz.set r k).set o' q') ∉ ls) →
          (∃ T f, Loop (gl a) n (aE S) (.Name "left" p0) leftB (.rng (k : Int) (m + 1)) (aS S c [some (.ref z), some (.ref l), some (.int mo), some (.int (tot cs sz)), some (.int r), vk, v1, vo, vl] g) f T ∧ Found S c sz cs ls two T f) ∨
          (∃ vk' v1' vo' vl', Loop (gl a) n (aE S) (.Name "left" p0) leftB (.rng (k : Int) (m + 1)) (aS S c [some (.ref z), some (.ref l), some (.int mo), some (.int (tot cs sz)), some (.int r), vk, v1, vo, vl] g) .next (aS S c [some (.ref z), some (.ref l), some (.int mo), some (.int (tot cs sz)), some (.int r), vk', v1', vo', vl'] g) ∧ BadFrom sz cs ls two r k) := by
        intro vo1 vl1 hbody hbad
        rcases left_loop A hr hm (p0 := p0) m (k + 1) (some (.int (k : Int))) (some (.int (tot cs (sz.set r k)))) vo1 vl1 (by omega) with ⟨T, f, g1, g2⟩ | ⟨vk', v1', vo', vl', g1, g2⟩
        · exact .inl ⟨T, f, Loop.next .rngN (Asg.name hst) hbody g1, g2⟩
        · refine .inr ⟨vk', v1', vo', vl', Loop.next .rngN (Asg.name hst) hbody g1, fun k' k1 k2 => ?_⟩
          by_cases e : k' = k
          · subst e; exact ⟨hg, hbad⟩
          · exact g2 k' (by omega) k2
      have hif : ∀ {f : Fl} {T : List O}, Exs (gl a) n (aE S) (leftB.drop 2) (aS S c [some (.ref z), some (.ref l), some (.int mo), some (.int (tot cs sz)), some (.int r), some (.int (k : Int)), some (.int (tot cs (sz.set r k))), vo, vl] g) f T → Exs (gl a) n (aE S) leftB (aS S c [some (.ref z), some (.ref l), some (.int mo), some (.int (tot cs sz)), some (.int r), some (.int (k : Int)), v1, vo, vl] g) f T :=
        fun h => Exs.cons (hx1 _ _ _ _ _ _ _ _ _ _ _) (Exs.cons (Ex.if_f (Tst.cmp (hone _ _) (Ev.top (v := .ref l) rfl 1 (by kernel_rfl) rfl rfl) hcop) Exs.nil) h)
      cases two with
      | true =>
        have hm' : decide (1 < mo) = true := hm.symm
        have hc : Cop (gl a) n .Gt (.int mo) (.int 1) (aS S c [some (.ref z), some (.ref l), some (.int mo), some (.int (tot cs sz)), some (.int r), some (.int (k : Int)), some (.int (tot cs (sz.set r k))), vo, vl] g) (.bool (decide (1 < mo))) _ := Cop.gti
        rw [hm'] at hc
        have hi : ∀ p1 p2 p3 k1 p4 p5 p6 k2 p7 p8 k3 p9 k4 p10 p11, Iti (gl a) n (aE S) (.Call (.Name "range" p1) [.BinOp (.Name "row" p2) .Add (.Constant (.int 1) k1 p3) p4, .IfExp (.Compare (.Name "most" p5) [.Gt] [.Constant (.int 1) k2 p6] p7) (.Constant (.int 4) k3 p8) (.Constant (.int 0) k4 p9) p10] [] p11) (aS S c [some (.ref z), some (.ref l), some (.int mo), some (.int (tot cs sz)), some (.int r), some (.int (k : Int)), some (.int (tot cs (sz.set r k))), vo, vl] g) (.rng ((r : Int) + 1) (3 - r)) _ :=
          fun p1 p2 p3 k1 p4 p5 p6 k2 p7 p8 k3 p9 k4 p10 p11 => Iti.range2 (hrg _) (Ev.bin (hrow _) Ev.int Bop.add) (Ev.ite_t (Tst.cmp (hmost _) Ev.int hc) Ev.int) q1 q2
        rcases other_loop A hkr (n := n) (a := a) (g := g) (mo := some (.int mo)) (to := some (.int (tot cs sz))) (p0 := ⟨143, 16, 143, 21⟩) (3 - r) (r + 1) vo vl (by omega) (by omega) with ⟨T, f, g1, g2⟩ | ⟨vo1, vl1, g1, g2⟩
        · obtain ⟨vs, g', R, m', rfl, h3⟩ := id g2
          exact .inl ⟨T, _, Loop.stop .rngN (Asg.name hst) (hif (Exs.stop (Ex.forI (hi _ _ _ _ _ _ _ _ _ _ _ _ _ _ _) g1 rfl))), g2⟩
        · exact next (hif (Exs.cons (Ex.forI (hi _ _ _ _ _ _ _ _ _ _ _ _ _ _ _) g1 rfl) Exs.nil)) fun _ o' q' k1 k2 k3 => g2 o' q' (by omega) k2 k3
      | false =>
        have hm' : decide (1 < mo) = false := hm.symm
        have hc : Cop (gl a) n .Gt (.int mo) (.int 1) (aS S c [some (.ref z), some (.ref l), some (.int mo), some (.int (tot cs sz)), some (.int r), some (.int (k : Int)), some (.int (tot cs (sz.set r k))), vo, vl] g) (.bool (decide (1 < mo))) _ := Cop.gti
        rw [hm'] at hc
        exact next (hif (Exs.cons (Ex.forI (Iti.range2 (hrg _) (Ev.bin (hrow _) Ev.int Bop.add) (Ev.ite_f (Tst.cmp (hmost _) Ev.int hc) Ev.int) q3 q4) (Loop.done .rngE) rfl) Exs.nil)) nofun
end
end Mine
namespace Mine
noncomputable def sumE : List Stmt → Expr
  | .Assign _ (.Call _ (e :: _) _ _) _ :: _ => e
  | _ => .Constant .none 0 ⟨0, 0, 0, 0⟩
section
variable {a : LA} {n : Nat} {S g : List O} {z c l : Nat} {sz cs ls : List Nat}
theorem row_loop (A : AnsC S z c l sz cs ls) {mo : Int} {two : Bool} (hm : two = decide (1 < mo)) {p0 : Pos} : ∀ (m r : Nat) (vr vk v1 vo vl : Option V), r + m = 4 →
    (∃ T f, Loop (gl a) n (aE S) (.Name "row" p0) rowB (.rng (r : Int) m) (aS S c [some (.ref z), some (.ref l), some (.int mo), some (.int (tot cs sz)), vr, vk, v1, vo, vl] g) f T ∧ Found S c sz cs ls two T f) ∨
    (∃ vr' vk' v1' vo' vl', Loop (gl a) n (aE S) (.Name "row" p0) rowB (.rng (r : Int) m) (aS S c [some (.ref z), some (.ref l), some (.int mo), some (.int (tot cs sz)), vr, vk, v1, vo, vl] g) .next (aS S c [some (.ref z), some (.ref l), some (.int mo), some (.int (tot cs sz)), vr', vk', v1', vo', vl'] g) ∧ ∀ r', r ≤ r' → r' < 4 → BadFrom sz cs ls two r' 0)
  | 0, r, vr, vk, v1, vo, vl, hr => .inr ⟨vr, vk, v1, vo, vl, Loop.done .rngE, fun r' h1 h2 => absurd h2 (by omega)⟩
  | m + 1, r, vr, vk, v1, vo, vl, hr => by
    have hr4 : r < 4 := by omega
    have hle := A.le hr4
    have hst : Sto (gl a) (aE S) "row" (.int (r : Int)) (aS S c [some (.ref z), some (.ref l), some (.int mo), some (.int (tot cs sz)), vr, vk, v1, vo, vl] g) (aS S c [some (.ref z), some (.ref l), some (.int mo), some (.int (tot cs sz)), some (.int (r : Int)), vk, v1, vo, vl] g) := Sto.top rfl 4 (by kernel_rfl) rfl aNs_nd rfl rfl
    have hi : ∀ p1 p2 p3 p4 p5, Iti (gl a) n (aE S) (.Call (.Name "range" p1) [.Subscript (.Name "sizes" p2) (.Name "row" p3) p4] [] p5) (aS S c [some (.ref z), some (.ref l), some (.int mo), some (.int (tot cs sz)), some (.int (r : Int)), vk, v1, vo, vl] g) (.rng 0 (sz.getD r 0)) (aS S c [some (.ref z), some (.ref l), some (.int mo), some (.int (tot cs sz)), some (.int (r : Int)), vk, v1, vo, vl] g) :=
      fun p1 p2 p3 p4 p5 => Iti.range1 (Ev.blt (by kernel_rfl) (by kernel_rfl) (boot_all (by decide +kernel)) (by decide)) (ans_size A rfl hr4 (Ev.top (v := .int (r : Int)) rfl 4 (by kernel_rfl) rfl rfl)) (range_small (by omega)) range_size
    rcases left_loop A hr4 hm (n := n) (a := a) (g := g) (p0 := ⟨139, 12, 139, 16⟩) (sz.getD r 0) 0 vk v1 vo vl (by omega) with ⟨T, f, h1, h2⟩ | ⟨vk1, v11, vo1, vl1, h1, h2⟩
    · obtain ⟨vs, g', R, m', rfl, h3⟩ := id h2
      exact .inl ⟨T, _, Loop.stop .rngN (Asg.name hst) (Exs.stop (Ex.forI (hi _ _ _ _ _) h1 rfl)), h2⟩
    · have hbody : Exs (gl a) n (aE S) rowB (aS S c [some (.ref z), some (.ref l), some (.int mo), some (.int (tot cs sz)), some (.int (r : Int)), vk, v1, vo, vl] g) .next (aS S c [some (.ref z), some (.ref l), some (.int mo), some (.int (tot cs sz)), some (.int (r : Int)), vk1, v11, vo1, vl1] g) :=
        Exs.cons (Ex.forI (hi _ _ _ _ _) h1 rfl) Exs.nil
      rcases row_loop A hm (p0 := p0) m (r + 1) (some (.int (r : Int))) vk1 v11 vo1 vl1 (by omega) with ⟨T, f, g1, g2⟩ | ⟨vr', vk', v1', vo', vl', g1, g2⟩
      · exact .inl ⟨T, f, Loop.next .rngN (Asg.name hst) hbody g1, g2⟩
      · refine .inr ⟨vr', vk', v1', vo', vl', Loop.next .rngN (Asg.name hst) hbody g1, fun r' k1 k2 => ?_⟩
        by_cases e : r' = r
        · subst e; exact h2
        · exact g2 r' (by omega) k2
noncomputable def codeF (cs : List Nat) : V → Option V
  | .int k => some (.int (cd cs k.toNat))
  | _ => none
theorem codeF_all (cs sz : List Nat) : (vInts (nI sz)).filterMap (codeF cs) = vInts (nI (sz.map (cd cs))) := by
  induction sz with
  | nil => rfl
  | cons k t ih =>
    show List.filterMap (codeF cs) (.int (k : Int) :: vInts (nI t)) = _
    rw [List.filterMap_cons, ih]
    simp [codeF, vInts, nI]
theorem nI_sum (l : List Nat) : (nI l).sum = ((l.sum : Nat) : Int) := by
  induction l with
  | nil => rfl
  | cons k t ih => simp [nI] at ih ⊢; omega
theorem Cal.answer (A : AnsC S z c l sz cs ls) {mo : Int} {two : Bool} (hm : two = decide (1 < mo)) (hf : framesOk S) (hex : ∃ m, MoveOf sz two m ∧ tot cs m ∈ ls) :
    ∃ m, MoveOf sz two m ∧ tot cs m ∈ ls ∧ Cal (gl a) (n + 1) (.ext (.ref 146)) [.ref z, .ref c, .ref l, .int mo] S (.ref S.length) (S ++ [.list (vInts (nI m))]) := by
  have hv0 : framesOk (aS S c [some (.ref z), some (.ref l), some (.int mo), none, none, none, none, none, none] []) := by
    rw [show aS S c [some (.ref z), some (.ref l), some (.int mo), none, none, none, none, none, none] [] = S ++ [.frame aNs [some (.ref z), some (.ref l), some (.int mo), none, none, none, none, none, none]] ++ [.cell (some (.ref c))] by simp [aS]]
    exact (hf.add fun ns vs e => by cases e; exact Nat.le_refl 9).add fun ns vs e => by cases e
  have hcomp : Ev (gl a) n (aE S) (sumE (bodyD (stAt 60))) (aS S c [some (.ref z), some (.ref l), some (.int mo), none, none, none, none, none, none] []) (.ref (aS S c [some (.ref z), some (.ref l), some (.int mo), none, none, none, none, none, none] []).length) (aS S c [some (.ref z), some (.ref l), some (.int mo), none, none, none, none, none, none] [] ++ [.list (vInts (nI (sz.map (cd cs))))]) := by
    rw [← codeF_all]
    refine Ev.compAll (S1 := aS S c [some (.ref z), some (.ref l), some (.int mo), none, none, none, none, none, none] []) (c := .lst z 0) (cs := [(("codes" : Str), S.length + 1)]) [(".0" : Str), ("size" : Str)] 1 (codeF cs) (Iti.of (Ev.top (v := .ref z) rfl 0 (by kernel_rfl) rfl rfl) (Itr.list (at_old A.hz))) ⟨_, at_old A.hz, rfl⟩ hv0 id (Nat.le_refl _) (fun v hv y hy => ?_) (by rw [nI_len, A.len]; decide) (by kernel_rfl) rfl (by decide +kernel) (fun v hv acc w hw hj => ?_) (by rfl) (by decide +kernel) (by kernel_rfl) (by decide +kernel)
    · cases v <;> cases hy
      trivial
    · obtain ⟨k', hk', rfl⟩ := List.mem_map.mp hv
      obtain ⟨k, hk, rfl⟩ := List.mem_map.mp hk'
      have := A.small k hk
      refine Turn.all rfl ?_
      show Ev _ _ _ _ _ (.int (cd cs k)) _
      exact Ev.sub (Ev.cel (v := .ref c) (by kernel_rfl) (by rfl) (by rw [aS_more]; exact top_more (i := 0))) (Ev.loc (v := .int (k : Int)) 1 (by kernel_rfl) (top_more (i := 0)) rfl hj) (Itm.list (by rw [aS_more]; exact at_old A.hc) (by omega) (nI_at (by rw [A.five]; omega)) (by omega))
  have hsum : Ex (gl a) n (aE S) ((bodyD (stAt 60)).headD noSt) (aS S c [some (.ref z), some (.ref l), some (.int mo), none, none, none, none, none, none] []) .next (aS S c [some (.ref z), some (.ref l), some (.int mo), some (.int (tot cs sz)), none, none, none, none, none] [.list (vInts (nI (sz.map (cd cs))))]) := by
    have e : (nI (sz.map (cd cs))).sum = ((tot cs sz : Nat) : Int) := nI_sum _
    refine Ex.assign (v := .int (tot cs sz)) (S1 := aS S c [some (.ref z), some (.ref l), some (.int mo), none, none, none, none, none, none] [.list (vInts (nI (sz.map (cd cs))))]) (Ev.to (Ev.call (Ev.blt (v := .builtin "sum") (by kernel_rfl) (by kernel_rfl) (boot_all (by decide +kernel)) (by decide)) (Evs.cons hcomp Evs.nil) (Cal.sum (ns := nI (sz.map (cd cs))) (by simp)) rfl) (by rw [e]) (by simp [aS])) (Sto.top rfl 3 (by kernel_rfl) rfl aNs_nd rfl rfl)
  have hstate : S ++ [O.frame aNs (aNs.map fun x => (([("sizes" : Str), ("codes" : Str), ("lost" : Str), ("most" : Str)] : List Str).zip [V.ref z, V.ref c, V.ref l, V.int mo]).lookup x)] ++ (List.range (cellNames (scopeD (stAt 60)).names).length).map (fun j => O.cell (((cellNames (scopeD (stAt 60)).names)[j]?).bind fun x => (([("sizes" : Str), ("codes" : Str), ("lost" : Str), ("most" : Str)] : List Str).zip [V.ref z, V.ref c, V.ref l, V.int mo]).lookup x)) = aS S c [some (.ref z), some (.ref l), some (.int mo), none, none, none, none, none, none] [] := by
    have h1 : (aNs.map fun x => (([("sizes" : Str), ("codes" : Str), ("lost" : Str), ("most" : Str)] : List Str).zip [V.ref z, V.ref c, V.ref l, V.int mo]).lookup x) = [some (.ref z), some (.ref l), some (.int mo), none, none, none, none, none, none] := by kernel_rfl
    have h2 : (List.range (cellNames (scopeD (stAt 60)).names).length).map (fun j => O.cell (((cellNames (scopeD (stAt 60)).names)[j]?).bind fun x => (([("sizes" : Str), ("codes" : Str), ("lost" : Str), ("most" : Str)] : List Str).zip [V.ref z, V.ref c, V.ref l, V.int mo]).lookup x)) = [O.cell (some (.ref c))] := by kernel_rfl
    rw [h1, h2, List.append_assoc]; rfl
  have main : ∀ {f : Fl} {T : List O} {R : Nat} {m : List Nat}, f = .ret (.ref R) → T.take S.length = S → T[R]? = some (.list (vInts (nI m))) → S.length ≤ R → Exs (gl a) n (aE S) (bodyD (stAt 60)) (aS S c [some (.ref z), some (.ref l), some (.int mo), none, none, none, none, none, none] []) f T →
      Cal (gl a) (n + 1) (.ext (.ref 146)) [.ref z, .ref c, .ref l, .int mo] S (.ref S.length) (S ++ [.list (vInts (nI m))]) := by
    intro f T R m hfR hT hR hl hx
    subst hfR
    refine Cal.closed hf fun hc => ?_
    refine (Cal.fnCT (S1 := T) (fl := .ret (.ref R)) [("sizes" : Str), ("codes" : Str), ("lost" : Str), ("most" : Str)] aNs rfl (by kernel_rfl) (fun xs h => match xs, h with | [x1, x2, x3, x4], _ => rfl) rfl (by decide +kernel) (by decide +kernel) (by decide +kernel) (by decide +kernel) (by decide +kernel) (by kernel_rfl) (by kernel_rfl) (by kernel_rfl) ?_).cut (part_res hT hc hR (okOB_of okOB_ints) hl) (fun i hi => getD_range' hi) ?_ ?_
    · rw [hstate]; exact hx
    · show V.ref (at0 (List.range S.length ++ [R]) S.length) = .ref R
      rw [at0_of (show (List.range S.length ++ [R])[S.length]? = some R by simp)]
    · show S.length < (S ++ [_]).length
      simp
  rcases row_loop A hm (n := n) (a := a) (g := [.list (vInts (nI (sz.map (cd cs))))]) (p0 := ⟨138, 8, 138, 11⟩) 4 0 none none none none none rfl with ⟨T, f, h1, h2⟩ | ⟨_, _, _, _, _, h1, h2⟩
  · obtain ⟨vs, g', R, m, rfl, rfl, h4, h5, h6, h7⟩ := h2
    refine ⟨m, h5, h6, ?_⟩
    have := main (R := R) rfl (by simp [aS]) h4 h7 (Exs.cons hsum (Exs.stop (Ex.forI (Iti.range1 (Ev.blt (by kernel_rfl) (by kernel_rfl) (boot_all (by decide +kernel)) (by decide)) Ev.int (by decide) (by decide)) h1 rfl)))
    exact this
  · exfalso
    obtain ⟨m, hmv, hin⟩ := hex
    rcases hmv with ⟨r, k, hr, hk, rfl⟩ | ⟨ht, r, o, k, q, hr, ho, hk, hq, rfl⟩
    · exact (h2 r (Nat.zero_le _) hr k (Nat.zero_le _) hk).1 hin
    · exact (h2 r (Nat.zero_le _) (by omega) k (Nat.zero_le _) hk).2 ht o q hr ho hq hin
end
end Mine
namespace Mine
noncomputable def tNs : List Str := [("number" : Str), ("two" : Str), ("full" : Str), ("at" : Str), ("beside" : Str)]
theorem tNs_nd : tNs.Nodup := by decide +kernel
noncomputable abbrev tE (S : List O) : AEnv := ⟨scopeD (stAt 61), S.length, [(("left" : Str), S.length + 2), (("sizes" : Str), S.length + 1)]⟩
noncomputable abbrev tS (S : List O) (z : Nat) (vs : List (Option V)) (lc : Option V) (g : List O) : List O := S ++ O.frame tNs vs :: O.cell (some (.ref z)) :: O.cell lc :: g
theorem tS_more {S : List O} {z : Nat} {vs : List (Option V)} {lc : Option V} {g g' : List O} : tS S z vs lc g ++ g' = tS S z vs lc (g ++ g') := by simp [tS]
noncomputable def fullOf (sz : List Nat) : List Nat := (List.range 4).filter fun r => decide (0 < sz.getD r 0)
theorem full_at {sz : List Nat} {j : Nat} (h : j < (fullOf sz).length) : (fullOf sz).getD j 0 < 4 ∧ 0 < sz.getD ((fullOf sz).getD j 0) 0 := by
  have e : (fullOf sz).getD j 0 = (fullOf sz)[j] := by simp [h]
  rw [e]
  have := List.getElem_mem h
  unfold fullOf at this
  rw [List.mem_filter, List.mem_range] at this
  exact ⟨this.1, of_decide_eq_true this.2⟩
theorem full_nd (sz : List Nat) : (fullOf sz).Nodup := (List.nodup_range).filter _
section
variable {a : LA} {n : Nat} {S g : List O} {z : Nat} {sz : List Nat} {vs : List (Option V)} {lc : Option V}
structure TakC (S : List O) (z : Nat) (sz : List Nat) : Prop where
  hz : S[z]? = some (.list (vInts (nI sz)))
  len : sz.length = 4
  small : ∀ k ∈ sz, k ≤ 4
theorem TakC.le (A : TakC S z sz) {r : Nat} (hr : r < 4) : sz.getD r 0 ≤ 4 := by
  have h : r < sz.length := by rw [A.len]; exact hr
  have := A.small sz[r] (List.getElem_mem h)
  simp [h, this]
theorem tk_size (A : TakC S z sz) {e : Expr} {p q : Pos} {r : Nat} (hr : r < 4) (he : Ev (gl a) n (tE S) e (tS S z vs lc g) (.int r) (tS S z vs lc g)) (hs : ∀ x y, ∃ L, subscripted e false x y = operate L (getItem x y) := by (intro x y; first | exact ⟨[x, y], rfl⟩ | exact ⟨[y, x], rfl⟩)) :
    Ev (gl a) n (tE S) (.Subscript (.Name "sizes" p) e q) (tS S z vs lc g) (.int (sz.getD r 0)) (tS S z vs lc g) :=
  Ev.sub (Ev.cel (v := .ref z) (by kernel_rfl) (by rfl) (top_more (i := 0))) he (Itm.list (at_old A.hz) (by omega) (nI_at (by rw [A.len]; omega)) (by omega)) hs
theorem tk_full (hv : vs[2]? = some (some (.ref (S.length + 3)))) {e : Expr} {p q : Pos} {j : Nat} (hj : j < (fullOf sz).length) (he : Ev (gl a) n (tE S) e (tS S z vs lc (.list (vInts (nI (fullOf sz))) :: g)) (.int j) (tS S z vs lc (.list (vInts (nI (fullOf sz))) :: g))) (hs : ∀ x y, ∃ L, subscripted e false x y = operate L (getItem x y) := by (intro x y; first | exact ⟨[x, y], rfl⟩ | exact ⟨[y, x], rfl⟩)) :
    Ev (gl a) n (tE S) (.Subscript (.Name "full" p) e q) (tS S z vs lc (.list (vInts (nI (fullOf sz))) :: g)) (.int ((fullOf sz).getD j 0)) (tS S z vs lc (.list (vInts (nI (fullOf sz))) :: g)) := by
  have hl : (fullOf sz).length ≤ 4 := by
    unfold fullOf
    exact Nat.le_trans (List.length_filter_le _ _) (by simp)
  exact Ev.sub (Ev.top (v := .ref (S.length + 3)) rfl 2 (by kernel_rfl) rfl hv) he (Itm.list (top_more (i := 2)) (by omega) (nI_at hj) (by omega)) hs
theorem tk_len (hv : vs[2]? = some (some (.ref (S.length + 3)))) {p q r : Pos} :
    Ev (gl a) n (tE S) (.Call (.Name "len" p) [.Name "full" q] [] r) (tS S z vs lc (.list (vInts (nI (fullOf sz))) :: g)) (.int (fullOf sz).length) (tS S z vs lc (.list (vInts (nI (fullOf sz))) :: g)) := by
  have hl : (fullOf sz).length ≤ 4 := by
    unfold fullOf
    exact Nat.le_trans (List.length_filter_le _ _) (by simp)
  exact Ev.to (Ev.call (Ev.blt (v := .builtin "len") (by kernel_rfl) (by kernel_rfl) (boot_all (by decide +kernel)) (by decide)) (Evs.cons (Ev.top (v := .ref (S.length + 3)) rfl 2 (by kernel_rfl) rfl hv) Evs.nil) (Cal.lenList (top_more (i := 2)) (by rw [nI_len]; omega)) rfl) (by rw [nI_len]) rfl
noncomputable def fullF (sz : List Nat) : V → Option V
  | .int k => if 0 < sz.getD k.toNat 0 then some (.int k) else none
  | _ => none
theorem fullF_all (sz : List Nat) : ((List.range 4).map fun j : Nat => V.int ((0 : Int) + j)).filterMap (fullF sz) = vInts (nI (fullOf sz)) := by
  have h : ∀ l : List Nat, (l.map fun j : Nat => V.int ((0 : Int) + j)).filterMap (fullF sz) = vInts (nI (l.filter fun r => decide (0 < sz.getD r 0))) := by
    intro l
    induction l with
    | nil => rfl
    | cons k t ih =>
      rw [List.map_cons, List.filterMap_cons, ih, List.filter_cons]
      have e : fullF sz (V.int ((0 : Int) + k)) = if 0 < sz.getD k 0 then some (.int k) else none := by
        show (if 0 < sz.getD ((0 : Int) + k).toNat 0 then some (V.int ((0 : Int) + k)) else none) = _
        rw [Int.zero_add, Int.toNat_natCast]
      rw [e]
      by_cases q : 0 < sz.getD k 0
      · simp only [if_pos q, decide_eq_true q, if_true]
        simp [vInts, nI]
      · simp only [if_neg q, decide_eq_false q]
        simp
  exact h _
/-- full -/
theorem take_full (A : TakC S z sz) {nb : Int} {tw : Bool} (hf : framesOk S) : Ex (gl a) n (tE S) ((bodyD (stAt 61)).headD noSt) (tS S z [some (.int nb), some (.bool tw), none, none, none] none []) .next (tS S z [some (.int nb), some (.bool tw), some (.ref (S.length + 3)), none, none] none [.list (vInts (nI (fullOf sz)))]) := by
  have hf0 : framesOk (tS S z [some (.int nb), some (.bool tw), none, none, none] none []) := by
    rw [show tS S z [some (.int nb), some (.bool tw), none, none, none] none [] = S ++ [.frame tNs [some (.int nb), some (.bool tw), none, none, none]] ++ [.cell (some (.ref z))] ++ [.cell none] by simp [tS]]
    exact ((hf.add fun ns vs e => by cases e; exact Nat.le_refl 5).add fun ns vs e => by cases e).add fun ns vs e => by cases e
  have hlen : (tS S z [some (.int nb), some (.bool tw), none, none, none] none []).length = S.length + 3 := by simp [tS]
  refine Ex.to (Ex.assignCompAll (S1 := tS S z [some (.int nb), some (.bool tw), none, none, none] none []) (c := .rng 0 4) (cs := [(("sizes" : Str), S.length + 1)]) 2 [(".0" : Str), ("row" : Str)] 1 (fullF sz) (fns := tNs) (fvs := [some (.int nb), some (.bool tw), none, none, none]) (Iti.range1 (Ev.blt (by kernel_rfl) (by kernel_rfl) (boot_all (by decide +kernel)) (by decide)) Ev.int (by decide) (by decide)) rfl hf0 id (Nat.le_refl _) (fun v hv y hy => ?_) (by simp) (by kernel_rfl) rfl (by decide +kernel) (fun v hv acc w hw hj => ?_) (top_at _ _) (by kernel_rfl) rfl tNs_nd rfl (fun env he => ?_) (by rfl) (by decide +kernel) (by kernel_rfl) (by decide +kernel)) ?_
  · obtain ⟨j, _, rfl⟩ := List.mem_map.mp hv
    simp only [fullF] at hy
    split at hy <;> cases hy
    trivial
  · obtain ⟨r, hr, rfl⟩ := List.mem_map.mp hv
    have hr4 := List.mem_range.mp hr
    have hle := A.le hr4
    have e0 : ((0 : Int) + (r : Int)) = (r : Int) := by omega
    rw [e0] at hj ⊢
    refine ⟨decide ((0 : Int) < (sz.getD r 0 : Nat)), .one (Tst.cmp (Ev.sub (Ev.cel (v := .ref z) (by kernel_rfl) (by rfl) (by rw [tS_more]; exact top_more (i := 0))) (Ev.loc (v := .int (r : Int)) 1 (by kernel_rfl) (top_more (i := 0)) rfl hj) (Itm.list (v := .int (sz.getD r 0)) (by rw [tS_more]; exact at_old A.hz) (by omega) (nI_at (by rw [A.len]; omega)) (by omega))) Ev.int Cop.gti), fun h => ?_, fun h => ⟨.int (r : Int), ?_, Ev.loc (v := .int (r : Int)) 1 (by kernel_rfl) (top_more (i := 0)) rfl hj⟩⟩
    · show (if 0 < sz.getD r 0 then some (V.int (r : Int)) else none) = none
      rw [if_neg]
      have := of_decide_eq_false h
      omega
    · show (if 0 < sz.getD r 0 then some (V.int (r : Int)) else none) = _
      rw [if_pos]
      have := of_decide_eq_true h
      omega
  · rw [swaps_comp he]
    exact congrArg pure (by kernel_rfl)
  · rw [fullF_all]
    show (tS S z _ none []).set S.length _ ++ _ = _
    rw [set_top, hlen]
    simp [tS]
end
end Mine
namespace Mine
section
variable {a : LA} {n : Nat} {S g : List O} {z : Nat} {sz : List Nat}
abbrev dO (a : LA) (l : List (Int × Int)) : O := .obj (IDict (gl a).prog (gl a).w l)
theorem Sto.left {vs : List (Option V)} {lc : Option V} {v : V} : Sto (gl a) (tE S) "left" v (tS S z vs lc g) (tS S z vs (some v) g) := by
  have := Sto.cel (G := gl a) (E := tE S) (x := "left") (v := v) (S := tS S z vs lc g) (c := S.length + 2) (v₀ := lc) (by kernel_rfl) (by rfl) (top_more (i := 1))
  rw [show (tS S z vs lc g).set (S.length + 2) (.cell (some v)) = tS S z vs (some v) g from set_more (i := 1)] at this
  exact this
/-- at, left -/
theorem taken_one (A : TakC S z sz) {nb : Int} {tw : Bool} (hp : 0 < (fullOf sz).length) : ∃ j k : Nat, j < (fullOf sz).length ∧ k < sz.getD ((fullOf sz).getD j 0) 0 ∧
    Ex (gl a) n (tE S) (((bodyD (stAt 61))[1]?).getD noSt) (tS S z [some (.int nb), some (.bool tw), some (.ref (S.length + 3)), none, none] none [.list (vInts (nI (fullOf sz)))]) .next (tS S z [some (.int nb), some (.bool tw), some (.ref (S.length + 3)), some (.int j), none] none [.list (vInts (nI (fullOf sz)))]) ∧ Ex (gl a) n (tE S) (((bodyD (stAt 61))[2]?).getD noSt) (tS S z [some (.int nb), some (.bool tw), some (.ref (S.length + 3)), some (.int j), none] none [.list (vInts (nI (fullOf sz)))]) .next (tS S z [some (.int nb), some (.bool tw), some (.ref (S.length + 3)), some (.int j), none] (some (.ref (S.length + 4))) [.list (vInts (nI (fullOf sz))), dO a [((((fullOf sz).getD j 0 : Nat) : Int), (k : Int))]]) := by
  obtain ⟨j, hj, hjl⟩ := fmod_at nb (fullOf sz).length hp
  obtain ⟨f1, f2⟩ := full_at hjl
  obtain ⟨k, hk, hkl⟩ := fmod_at (nb.fdiv 4) (sz.getD ((fullOf sz).getD j 0) 0) f2
  have hle := A.le f1
  refine ⟨j, k, hjl, hkl, ?_⟩
  have hat : ∀ p g, Ev (gl a) n (tE S) (.Name "at" p) (tS S z [some (.int nb), some (.bool tw), some (.ref (S.length + 3)), some (.int j), none] none g) (.int j) (tS S z [some (.int nb), some (.bool tw), some (.ref (S.length + 3)), some (.int j), none] none g) := fun p g => Ev.top rfl 3 (by kernel_rfl) rfl rfl
  have hlen : (tS S z [some (.int nb), some (.bool tw), some (.ref (S.length + 3)), some (.int j), none] none [.list (vInts (nI (fullOf sz)))]).length = S.length + 4 := by simp [tS]
  refine ⟨Ex.assign (v := .int j) (hj ▸ Ev.bin (Ev.top (v := .int nb) rfl 0 (by kernel_rfl) rfl rfl) (tk_len rfl) (Bop.mod (by omega))) (Sto.top (vs' := [some (.int nb), some (.bool tw), some (.ref (S.length + 3)), some (.int j), none]) rfl 3 (by kernel_rfl) rfl tNs_nd rfl rfl), Ex.assign (v := .ref (S.length + 4)) (S1 := tS S z [some (.int nb), some (.bool tw), some (.ref (S.length + 3)), some (.int j), none] none [.list (vInts (nI (fullOf sz))), dO a [((((fullOf sz).getD j 0 : Nat) : Int), (k : Int))]]) (Ev.to (Ev.dict1 (S1 := tS S z [some (.int nb), some (.bool tw), some (.ref (S.length + 3)), some (.int j), none] none [.list (vInts (nI (fullOf sz))), dO a []]) (S2 := tS S z [some (.int nb), some (.bool tw), some (.ref (S.length + 3)), some (.int j), none] none [.list (vInts (nI (fullOf sz))), dO a []]) (k := (((fullOf sz).getD j 0 : Nat) : Int)) (v := (k : Int)) ?_ ?_ ?_) (by rw [hlen]) ?_) Sto.left⟩
  · rw [tS_more]
    exact tk_full rfl hjl (hat _ _)
  · exact hk ▸ Ev.bin (Ev.bin (Ev.top (v := .int nb) rfl 0 (by kernel_rfl) rfl rfl) Ev.int (Bop.fdiv (by decide) (by decide))) (tk_size A f1 (tk_full rfl hjl (hat _ _))) (Bop.mod (by omega))
  · rw [hlen]; exact top_more (i := 3)
  · rw [hlen]; exact set_more (i := 3)
end
end Mine
namespace Mine
section
variable {a : LA} {n : Nat} {S g : List O} {z : Nat} {sz : List Nat}
theorem full_le (sz : List Nat) : (fullOf sz).length ≤ 4 := by
  unfold fullOf
  exact Nat.le_trans (List.length_filter_le _ _) (by simp)
theorem full_ne {sz : List Nat} {i j : Nat} (hi : i < (fullOf sz).length) (hj : j < (fullOf sz).length) (h : i ≠ j) : (fullOf sz).getD i 0 ≠ (fullOf sz).getD j 0 := by
  have e : ∀ {k}, k < (fullOf sz).length → (fullOf sz)[k]? = some ((fullOf sz).getD k 0) := fun {k} hk => by simp [hk]
  intro q
  have h1 := e hi
  rw [q] at h1
  exact h (nodup_get (full_nd sz) h1 (e hj))
theorem taken_two (A : TakC S z sz) {nb : Int} {tw : Bool} {j : Nat} {k : Int} (hj : j < (fullOf sz).length) : ∃ l' vb,
    Ex (gl a) n (tE S) (((bodyD (stAt 61))[3]?).getD noSt) (tS S z [some (.int nb), some (.bool tw), some (.ref (S.length + 3)), some (.int j), none] (some (.ref (S.length + 4))) [.list (vInts (nI (fullOf sz))), dO a [((((fullOf sz).getD j 0 : Nat) : Int), k)]]) .next (tS S z [some (.int nb), some (.bool tw), some (.ref (S.length + 3)), some (.int j), vb] (some (.ref (S.length + 4))) [.list (vInts (nI (fullOf sz))), dO a l']) ∧
    (l' = [((((fullOf sz).getD j 0 : Nat) : Int), k)] ∨ tw = true ∧ ∃ r2 q : Nat, r2 < 4 ∧ r2 ≠ (fullOf sz).getD j 0 ∧ q < sz.getD r2 0 ∧ l' = [((((fullOf sz).getD j 0 : Nat) : Int), k), ((r2 : Int), (q : Int))]) := by
  have htwo : ∀ p, Ev (gl a) n (tE S) (.Name "two" p) (tS S z [some (.int nb), some (.bool tw), some (.ref (S.length + 3)), some (.int j), none] (some (.ref (S.length + 4))) [.list (vInts (nI (fullOf sz))), dO a [((((fullOf sz).getD j 0 : Nat) : Int), k)]]) (.bool tw) (tS S z [some (.int nb), some (.bool tw), some (.ref (S.length + 3)), some (.int j), none] (some (.ref (S.length + 4))) [.list (vInts (nI (fullOf sz))), dO a [((((fullOf sz).getD j 0 : Nat) : Int), k)]]) := fun p => Ev.top rfl 1 (by kernel_rfl) rfl rfl
  have hnum : ∀ p vb, Ev (gl a) n (tE S) (.Name "number" p) (tS S z [some (.int nb), some (.bool tw), some (.ref (S.length + 3)), some (.int j), vb] (some (.ref (S.length + 4))) [.list (vInts (nI (fullOf sz))), dO a [((((fullOf sz).getD j 0 : Nat) : Int), k)]]) (.int nb) (tS S z [some (.int nb), some (.bool tw), some (.ref (S.length + 3)), some (.int j), vb] (some (.ref (S.length + 4))) [.list (vInts (nI (fullOf sz))), dO a [((((fullOf sz).getD j 0 : Nat) : Int), k)]]) := fun p vb => Ev.top rfl 0 (by kernel_rfl) rfl rfl
  have hat : ∀ p, Ev (gl a) n (tE S) (.Name "at" p) (tS S z [some (.int nb), some (.bool tw), some (.ref (S.length + 3)), some (.int j), none] (some (.ref (S.length + 4))) [.list (vInts (nI (fullOf sz))), dO a [((((fullOf sz).getD j 0 : Nat) : Int), k)]]) (.int j) (tS S z [some (.int nb), some (.bool tw), some (.ref (S.length + 3)), some (.int j), none] (some (.ref (S.length + 4))) [.list (vInts (nI (fullOf sz))), dO a [((((fullOf sz).getD j 0 : Nat) : Int), k)]]) := fun p => Ev.top rfl 3 (by kernel_rfl) rfl rfl
  have hle := full_le sz
  cases tw with
  | false => exact ⟨_, none, Ex.if_f (Tst.and_f (Tst.plain (htwo _) Tru.bool)) Exs.nil, .inl rfl⟩
  | true =>
    have c1 : Cop (gl a) n .Eq (.int ((nb.fdiv 16).fmod 2)) (.int 1) (tS S z [some (.int nb), some (.bool true), some (.ref (S.length + 3)), some (.int j), none] (some (.ref (S.length + 4))) [.list (vInts (nI (fullOf sz))), dO a [((((fullOf sz).getD j 0 : Nat) : Int), k)]]) (.bool ((nb.fdiv 16).fmod 2 == 1)) _ := Cop.eqi
    have c2 : Cop (gl a) n .Gt (.int (fullOf sz).length) (.int 1) (tS S z [some (.int nb), some (.bool true), some (.ref (S.length + 3)), some (.int j), none] (some (.ref (S.length + 4))) [.list (vInts (nI (fullOf sz))), dO a [((((fullOf sz).getD j 0 : Nat) : Int), k)]]) (.bool (decide ((1 : Int) < (fullOf sz).length))) _ := Cop.gti
    cases h1 : ((nb.fdiv 16).fmod 2 == 1) with
    | false =>
      rw [h1] at c1
      exact ⟨_, none, Ex.if_f (Tst.and_t (Tst.plain (htwo _) Tru.bool) (Tst.and_f (Tst.cmp (Ev.bin (Ev.bin (hnum _ _) Ev.int (Bop.fdiv (by decide) (by decide))) Ev.int (Bop.mod (by decide))) Ev.int c1))) Exs.nil, .inl rfl⟩
    | true =>
      rw [h1] at c1
      cases h2 : decide ((1 : Int) < (fullOf sz).length) with
      | false =>
        rw [h2] at c2
        exact ⟨_, none, Ex.if_f (Tst.and_t (Tst.plain (htwo _) Tru.bool) (Tst.and_t (Tst.cmp (Ev.bin (Ev.bin (hnum _ _) Ev.int (Bop.fdiv (by decide) (by decide))) Ev.int (Bop.mod (by decide))) Ev.int c1) (Tst.and_f (Tst.cmp (tk_len rfl) Ev.int c2)))) Exs.nil, .inl rfl⟩
      | true =>
        rw [h2] at c2
        have hl2 : 1 < (fullOf sz).length := by have := of_decide_eq_true h2; omega
        obtain ⟨i, hi, hil⟩ := fmod_at ((j : Int) + 1) (fullOf sz).length (by omega)
        have hij : i ≠ j := by
          rw [Int.fmod_eq_emod_of_nonneg _ (by omega)] at hi
          rintro rfl
          by_cases q : i + 1 < (fullOf sz).length
          · rw [Int.emod_eq_of_lt (by omega) (by omega)] at hi; omega
          · have e : (i : Int) + 1 = (fullOf sz).length := by omega
            rw [e, Int.emod_self] at hi; omega
        obtain ⟨f1, f2⟩ := full_at hil
        have hle2 := A.le f1
        obtain ⟨q, hq, hql⟩ := fmod_at (nb.fdiv 32) (sz.getD ((fullOf sz).getD i 0) 0) f2
        have hne := full_ne hil hj hij
        refine ⟨[((((fullOf sz).getD j 0 : Nat) : Int), k)] ++ [((((fullOf sz).getD i 0 : Nat) : Int), (q : Int))], some (.int ((fullOf sz).getD i 0 : Nat)), Ex.if_t (Tst.and_t (Tst.plain (htwo _) Tru.bool) (Tst.and_t (Tst.cmp (Ev.bin (Ev.bin (hnum _ _) Ev.int (Bop.fdiv (by decide) (by decide))) Ev.int (Bop.mod (by decide))) Ev.int c1) (Tst.and_t (Tst.cmp (tk_len rfl) Ev.int c2) Tst.and_nil))) ?_, .inr ⟨rfl, (fullOf sz).getD i 0, q, f1, hne, hql, rfl⟩⟩
        refine Exs.cons (Ex.assign (v := .int ((fullOf sz).getD i 0 : Nat)) (tk_full rfl hil (hi ▸ Ev.bin (Ev.bin (hat _) Ev.int Bop.add) (tk_len rfl) (Bop.mod (by omega)))) (Sto.top (vs' := [some (.int nb), some (.bool true), some (.ref (S.length + 3)), some (.int j), some (.int ((fullOf sz).getD i 0 : Nat))]) rfl 4 (by kernel_rfl) rfl tNs_nd rfl rfl)) (Exs.cons (Ex.to (Ex.setDict (v := (q : Int)) (a := S.length + 4) (k := (((fullOf sz).getD i 0 : Nat) : Int)) (hq ▸ Ev.bin (Ev.bin (hnum _ _) Ev.int (Bop.fdiv (by decide) (by decide))) (tk_size A f1 (Ev.top (v := .int ((fullOf sz).getD i 0 : Nat)) rfl 4 (by kernel_rfl) rfl rfl)) (Bop.mod (by omega))) (Ev.cel (v := .ref (S.length + 4)) (by kernel_rfl) (by rfl) (top_more (i := 1))) (Ev.top (v := .int ((fullOf sz).getD i 0 : Nat)) rfl 4 (by kernel_rfl) rfl rfl) (top_more (i := 3)) ?_ (sizeOk (by simp))) ?_) Exs.nil)
        · intro hm
          have h3 : (((fullOf sz).getD i 0 : Nat) : Int) = (((fullOf sz).getD j 0 : Nat) : Int) := List.mem_singleton.mp hm
          exact hne (by omega)
        · exact set_more (i := 3)
end
end Mine
namespace Mine
noncomputable def takeF (l : List (Int × Int)) (sz : List Nat) : V → Option V
  | .int r => some (.int ((l.lookup r).getD (sz.getD r.toNat 0 : Nat)))
  | _ => none
theorem takeF_one {sz : List Nat} {r k : Nat} (h : sz.length = 4) (hr : r < 4) : ((List.range 4).map fun j : Nat => V.int ((0 : Int) + j)).filterMap (takeF [((r : Int), (k : Int))] sz) = vInts (nI (sz.set r k)) := by
  obtain ⟨x, y, z, w, rfl⟩ := four h
  match r, hr with
  | 0, _ => rfl
  | 1, _ => rfl
  | 2, _ => rfl
  | 3, _ => rfl
theorem takeF_two {sz : List Nat} {r k o q : Nat} (h : sz.length = 4) (hr : r < 4) (ho : o < 4) (hne : o ≠ r) : ((List.range 4).map fun j : Nat => V.int ((0 : Int) + j)).filterMap (takeF [((r : Int), (k : Int)), ((o : Int), (q : Int))] sz) = vInts (nI ((sz.set r k).set o q)) := by
  obtain ⟨x, y, z, w, rfl⟩ := four h
  match r, o, hr, ho with
  | 0, 0, _, _ => exact absurd rfl hne
  | 0, 1, _, _ => rfl
  | 0, 2, _, _ => rfl
  | 0, 3, _, _ => rfl
  | 1, 0, _, _ => rfl
  | 1, 1, _, _ => exact absurd rfl hne
  | 1, 2, _, _ => rfl
  | 1, 3, _, _ => rfl
  | 2, 0, _, _ => rfl
  | 2, 1, _, _ => rfl
  | 2, 2, _, _ => exact absurd rfl hne
  | 2, 3, _, _ => rfl
  | 3, 0, _, _ => rfl
  | 3, 1, _, _ => rfl
  | 3, 2, _, _ => rfl
  | 3, 3, _, _ => exact absurd rfl hne
section
variable {a : LA} {n : Nat} {S g : List O} {z : Nat} {sz : List Nat}
theorem taken_ret (A : TakC S z sz) (hf : framesOk S) {vs : List (Option V)} (hvs : vs.length = 5) {l : List (Int × Int)} {x : List V} : Ex (gl a) n (tE S) (((bodyD (stAt 61))[4]?).getD noSt) (tS S z vs (some (.ref (S.length + 4))) [.list x, dO a l]) (.ret (.ref (S.length + 5))) (tS S z vs (some (.ref (S.length + 4))) [.list x, dO a l, .list (((List.range 4).map fun j : Nat => V.int ((0 : Int) + j)).filterMap (takeF l sz))]) := by
  have hf0 : framesOk (tS S z vs (some (.ref (S.length + 4))) [.list x, dO a l]) := by
    rw [show tS S z vs (some (.ref (S.length + 4))) [.list x, dO a l] = S ++ [.frame tNs vs] ++ [.cell (some (.ref z))] ++ [.cell (some (.ref (S.length + 4)))] ++ [.list x] ++ [dO a l] by simp [tS]]
    exact ((((hf.add fun ns vs e => by cases e; exact Nat.le_of_eq hvs).add fun ns vs e => by cases e).add fun ns vs e => by cases e).add fun ns vs e => by cases e).add fun ns vs e => by cases e
  have hlen : (tS S z vs (some (.ref (S.length + 4))) [.list x, dO a l]).length = S.length + 5 := by simp [tS]
  refine Ex.ret (Ev.to (Ev.compAll (S1 := tS S z vs (some (.ref (S.length + 4))) [.list x, dO a l]) (c := .rng 0 4) (cs := [(("sizes" : Str), S.length + 1), (("left" : Str), S.length + 2)]) [(".0" : Str), ("row" : Str)] 1 (takeF l sz) (Iti.range1 (Ev.blt (by kernel_rfl) (by kernel_rfl) (boot_all (by decide +kernel)) (by decide)) Ev.int (by decide) (by decide)) rfl hf0 id (Nat.le_refl _) (fun v hv y hy => ?_) (by simp) (by kernel_rfl) rfl (by decide +kernel) (fun v hv acc w hw hj => ?_) (by rfl) (by decide +kernel) (by kernel_rfl) (by decide +kernel)) (by rw [hlen]) (by rw [tS_more]; rfl))
  · obtain ⟨j, _, rfl⟩ := List.mem_map.mp hv
    cases hy
    trivial
  · obtain ⟨r, hr, rfl⟩ := List.mem_map.mp hv
    have hr4 := List.mem_range.mp hr
    have hle := A.le hr4
    have e0 : ((0 : Int) + (r : Int)) = (r : Int) := by omega
    rw [e0] at hj ⊢
    refine Turn.all rfl ?_
    show Ev _ _ _ _ _ (.int ((l.lookup (r : Int)).getD (sz.getD r 0 : Nat))) _
    have hd : (tS S z vs (some (.ref (S.length + 4))) [.list x, dO a l] ++ [O.list acc, O.frame [(".0" : Str), ("row" : Str)] w])[S.length + 4]? = some (dO a l) := by rw [tS_more]; exact top_more (i := 3)
    exact Ev.meth _ (Ev.cel (v := .ref (S.length + 4)) (by kernel_rfl) (by rfl) (by rw [tS_more]; exact top_more (i := 1))) (Mth.dict PySem.F.slot_dict_get PySem.F.type_dict_get hd) (Evs.cons (Ev.loc (v := .int (r : Int)) 1 (by kernel_rfl) (top_more (i := 0)) rfl hj) (Evs.cons (Ev.sub (Ev.cel (v := .ref z) (by kernel_rfl) (by rfl) (by rw [tS_more]; exact top_more (i := 0))) (Ev.loc (v := .int (r : Int)) 1 (by kernel_rfl) (top_more (i := 0)) rfl hj) (Itm.list (v := .int (sz.getD r 0)) (by rw [tS_more]; exact at_old A.hz) (by omega) (nI_at (by rw [A.len]; omega)) (by omega))) Evs.nil)) (Cal.dictGet hd) rfl
theorem Cal.taken (A : TakC S z sz) (hf : framesOk S) {nb : Int} {tw : Bool} (hp : 0 < (fullOf sz).length) : ∃ m, MoveOf sz tw m ∧ Cal (gl a) (n + 1) (.ext (.ref 151)) [.ref z, .int nb, .bool tw] S (.ref S.length) (S ++ [.list (vInts (nI m))]) := by
  obtain ⟨j, k, hj, hk, x1, x1'⟩ := taken_one (a := a) (n := n) A (nb := nb) (tw := tw) hp
  obtain ⟨l', vb, x2, h2⟩ := taken_two (a := a) (n := n) A (nb := nb) (tw := tw) (k := (k : Int)) hj
  have x0 := take_full (a := a) (n := n) A (nb := nb) (tw := tw) hf
  have x3 := taken_ret (a := a) (n := n) A hf (vs := [some (.int nb), some (.bool tw), some (.ref (S.length + 3)), some (.int j), vb]) rfl (l := l') (x := vInts (nI (fullOf sz)))
  obtain ⟨f1, f2⟩ := full_at hj
  have hm : ∃ m, MoveOf sz tw m ∧ ((List.range 4).map fun j : Nat => V.int ((0 : Int) + j)).filterMap (takeF l' sz) = vInts (nI m) := by
    rcases h2 with rfl | ⟨ht, r2, q, g1, g2, g3, rfl⟩
    · exact ⟨_, .inl ⟨_, k, f1, hk, rfl⟩, takeF_one A.len f1⟩
    · refine ⟨_, .inr ⟨ht, ?_⟩, takeF_two A.len f1 g1 g2⟩
      rcases Nat.lt_or_ge ((fullOf sz).getD j 0) r2 with h | h
      · exact ⟨_, r2, k, q, h, g1, hk, g3, rfl⟩
      · exact ⟨r2, _, q, k, by omega, f1, g3, hk, List.set_comm _ _ (by omega)⟩
  obtain ⟨m, hmv, he⟩ := hm
  rw [he] at x3
  refine ⟨m, hmv, ?_⟩
  have hx : Exs (gl a) n (tE S) (bodyD (stAt 61)) (tS S z [some (.int nb), some (.bool tw), none, none, none] none []) (.ret (.ref (S.length + 5))) (tS S z [some (.int nb), some (.bool tw), some (.ref (S.length + 3)), some (.int j), vb] (some (.ref (S.length + 4))) [.list (vInts (nI (fullOf sz))), dO a l', .list (vInts (nI m))]) := by
    exact Exs.cons x0 (Exs.cons x1 (Exs.cons x1' (Exs.cons x2 (Exs.stop x3))))
  have hstate : S ++ [O.frame tNs (tNs.map fun x => (([("sizes" : Str), ("number" : Str), ("two" : Str)] : List Str).zip [V.ref z, V.int nb, V.bool tw]).lookup x)] ++ (List.range (cellNames (scopeD (stAt 61)).names).length).map (fun j => O.cell (((cellNames (scopeD (stAt 61)).names)[j]?).bind fun x => (([("sizes" : Str), ("number" : Str), ("two" : Str)] : List Str).zip [V.ref z, V.int nb, V.bool tw]).lookup x)) = tS S z [some (.int nb), some (.bool tw), none, none, none] none [] := by
    have h1 : (tNs.map fun x => (([("sizes" : Str), ("number" : Str), ("two" : Str)] : List Str).zip [V.ref z, V.int nb, V.bool tw]).lookup x) = [some (.int nb), some (.bool tw), none, none, none] := by kernel_rfl
    have h2 : (List.range (cellNames (scopeD (stAt 61)).names).length).map (fun j => O.cell (((cellNames (scopeD (stAt 61)).names)[j]?).bind fun x => (([("sizes" : Str), ("number" : Str), ("two" : Str)] : List Str).zip [V.ref z, V.int nb, V.bool tw]).lookup x)) = [O.cell (some (.ref z)), O.cell none] := by kernel_rfl
    rw [h1, h2, List.append_assoc]; rfl
  refine Cal.closed hf fun hc => ?_
  refine (Cal.fnCT (S1 := tS S z [some (.int nb), some (.bool tw), some (.ref (S.length + 3)), some (.int j), vb] (some (.ref (S.length + 4))) [.list (vInts (nI (fullOf sz))), dO a l', .list (vInts (nI m))]) (fl := .ret (.ref (S.length + 5))) [("sizes" : Str), ("number" : Str), ("two" : Str)] tNs rfl (by kernel_rfl) (fun xs h => match xs, h with | [x1, x2, x3], _ => rfl) rfl (by decide +kernel) (by decide +kernel) (by decide +kernel) (by decide +kernel) (by decide +kernel) (by kernel_rfl) (by kernel_rfl) (by kernel_rfl) ?_).cut (part_res (r := S.length + 5) (by simp [tS]) hc (top_more (i := 4)) (okOB_of okOB_ints) (by omega)) (fun i hi => getD_range' hi) ?_ ?_
  · rw [hstate]; exact hx
  · show V.ref (at0 (List.range S.length ++ [S.length + 5]) S.length) = .ref (S.length + 5)
    rw [at0_of (show (List.range S.length ++ [S.length + 5])[S.length]? = some (S.length + 5) by simp)]
  · show S.length < (S ++ [_]).length
    simp
end
end Mine
namespace Mine
/-- the mark for a sign -/
noncomputable def MarkOk (lo : Nat) (sg : Str) (t : Tok) (mk : Str) (u : Tok) : Prop := (sg = "<" ∧ mk = "&lt;" ∧ lo ≤ u) ∨ (sg = ">" ∧ mk = "&gt;" ∧ lo ≤ u) ∨ (sg ≠ "<" ∧ sg ≠ ">" ∧ mk = sg ∧ u = t)
section
variable {M : Model} {A : Around} {X : Value → Shared → Prop} {s : Shared} {env : Env}
/-- a method's call, of an expression told by what it does -/
theorem meth_e {e o : Expr} {name : Str} {apos pos : Pos} {args : List Expr} {pl : Sem Bool} {Q : Value → Shared → Prop}
    (h : wpAny M A (eval o env) (fun ov s1 => wpAny M A (getMethod ov name pl) (fun fx s2 => wpAny M A (callWith pos fx.1 fx.2 (backTo pos (starEach args env)) []) Q X s2) X s1) X s)
    (he : eval e env = (do
      let ov ← eval o env
      standAt apos.atName
      let (f, first) ← holding [ov] (getMethod ov name pl)
      callWith pos f first (backTo pos (starEach args env)) [])) : wpAny M A (eval e env) Q X s := by
  rw [he]
  refine wpAny_bind (wpAny_mono h (fun ov s1 h1 => wpAny_bind (wpAny_standAt (wpAny_bind (wpAny_holding (wpAny_mono h1 (fun fx s2 h2 => ?_) fun _ _ x => x))))) fun _ _ x => x)
  exact h2
end
section
variable {G : Glo} {n : Nat} {E : AEnv} {S : List O}
theorem mark_ev {sg : Str} {t : Tok} (hsign : ∀ p, Ev G n E (.Name "sign" p) S (.ext (.str sg t)) S) {p1 p2 p3 p4 p5 p6 p7 p8 p9 : Pos} {e : Expr} (pl : Env → Sem Bool)
    (hc : ∀ env, eval e env = (do
          let ov ← eval (Expr.Dict [some (.Constant (.str "<") 0 p1), some (.Constant (.str ">") 0 p2)] [.Constant (.str "&lt;") 0 p3, .Constant (.str "&gt;") 0 p4] p5) env
          standAt p6.atName
          let (f, first) ← holding [ov] (getMethod ov "get" (pl env))
          callWith p9 f first (backTo p9 (starEach [.Name "sign" p7, .Name "sign" p8] env)) []))
    {A : Around} {env : Env} {ρ : List Addr} {s : Shared} {Q : Value → Shared → Prop} (hA : GoodA A n) (hE : EnvOk E env ρ) (hS : Sim G ρ S s)
    (k : ∀ ρ' s' mk u, Ext ρ ρ' s s' → Sim G ρ' S s' → MarkOk G.lo sg t mk u → Q (.str mk u) s') :
    wpAny (model G.prog G.w) A (eval e env) Q (fun _ _ => False) s := by
  obtain ⟨hh, gg, dd, tt, oo⟩ := s
  refine meth_e ?_ (hc env)
  refine @wpAny_Dict_walk G.prog G.w _ _ (PySem.strKind G.prog G.w) A (fun _ _ => False) ⟨hh, gg, dd, tt, oo⟩ env [some (.Constant (.str "<") 0 p1), some (.Constant (.str ">") 0 p2)] [.Constant (.str "&lt;") 0 p3, .Constant (.str "&gt;") 0 p4] p5 _ rfl rfl (List.cons_ne_nil _ _) (by show (2 : Nat) ≤ 15; decide) ?_
  refine pairTrees_cons_walk (wpAny_Constant_str (wpAny_Constant_str (pairTrees_cons_walk (wpAny_Constant_str (wpAny_Constant_str (pairTrees_nil_walk ?_))))))
  have hd0 : (hh.push { cls := .type "dict", data := .dict #[] }).DictOf (PySem.strKind G.prog G.w) hh.objs.size [] := Heap.dictOf_iff.mpr ⟨_, Heap.get?_push_size hh rfl, #[], 0, ⟨rfl, rfl, rfl⟩, rfl, (fun _ he => by simp at he), Pairs.nil, List.nodup_nil⟩
  refine ⟨[("<", .str "&lt;" (tt + 1)), (">", .str "&gt;" (tt + 3))], ⟨PySem.strKind_is _ _ _ _, rfl, PySem.strKind_is _ _ _ _, rfl, trivial⟩, hd0, fun h' hd hs => ?_⟩
  show wpAny _ _ (getMethod (.ref hh.objs.size) "get" (pl env)) _ _ ⟨h', gg, dd, tt + 1 + 1 + 1 + 1 + 2, oo⟩
  replace hs : Heap.SameBut hh.objs.size (hh.push { cls := .type "dict", data := .dict #[] }) h' := hs
  replace hd : h'.DictOf (PySem.strKind G.prog G.w) hh.objs.size (merged [] ([(("<" : Str), Value.str "&lt;" (tt + 1)), ((">" : Str), Value.str "&gt;" (tt + 3))] : List (Str × Value))) := hd
  have hm : merged [] ([(("<" : Str), Value.str "&lt;" (tt + 1)), ((">" : Str), Value.str "&gt;" (tt + 3))] : List (Str × Value)) = ([(("<" : Str), Value.str "&lt;" (tt + 1)), ((">" : Str), Value.str "&gt;" (tt + 3))] : List (Str × Value)) := by kernel_rfl
  rw [hm] at hd
  have kp : ∀ b o, hh.get? b = some o → h'.get? b = some o := fun b o e => (hs.2 b (Nat.ne_of_lt (Heap.lt_size e))).trans (Heap.get?_push_of_some _ e)
  have hS1 : ∀ tk, G.lo ≤ tk → Sim G ρ S ⟨h', gg, dd, tk, oo⟩ := fun tk ht => hS.keeps (s' := ⟨h', gg, dd, tk, oo⟩) kp rfl rfl ht
  have hT := hS.toks
  have hnd : h'.NoDictAt (.ref hh.objs.size) := by
    obtain ⟨o, es, ep, ho, hx, _⟩ := hd
    exact ⟨o, ho, hx.2.1⟩
  have hmods : (hh.objs.size == sysModules) = false := beq_eq_false_iff_ne.mpr fun q => by have := hS.big; rw [q] at this; exact absurd this (by decide)
  refine getMethod_builtin hd.typeIs PySem.F.plainAttrs_dict PySem.F.slot_dict_get PySem.F.type_dict_get (fun b q => by cases q; exact hnd) ?_
  refine callWith_method1 (spliced_more (hsign p7 A env ρ _ hA hE (hS1 (tt + 1 + 1 + 1 + 1 + 2) (Nat.le_trans hT (by show tt ≤ _; omega))) _ fun ρ1 s1 v1 x1 hs1 r1 => spliced_more (hsign p8 A env ρ1 s1 hA (hE.mono x1.pre) hs1 _ fun ρ2 s2 v2 x2 hs2 r2 => spliced_none ?_)))
  cases r1; cases r2
  obtain ⟨o', ho', hd'⟩ := Heap.dictOf_iff.mp hd
  have hoff : hh.objs.size ∉ ρ := fun q => by
    obtain ⟨o, e⟩ := hS.live q
    exact absurd (Heap.lt_size e) (Nat.lt_irrefl _)
  have e1 := x1.keep _ _ hoff ho'
  have e2 := x2.keep _ _ (x1.off hoff ho') e1
  have hd2 : s2.heap.DictOf (PySem.strKind G.prog G.w) hh.objs.size ([(("<" : Str), Value.str "&lt;" (tt + 1)), ((">" : Str), Value.str "&gt;" (tt + 3))] : List (Str × Value)) := Heap.dictOf_iff.mpr ⟨o', e2, hd'⟩
  have X : Ext ρ ρ2 ⟨hh, gg, dd, tt, oo⟩ s2 := ((Ext.keeps (s' := ⟨h', gg, dd, tt + 1 + 1 + 1 + 1 + 2, oo⟩) kp).trans x1).trans x2
  refine call_meetsIn PySem.F.slot_dict_get hd2.typeIs PySem.F.entry_dict_get (PySem.F.args_dict_get_3 _ _ _) (meets_dict_get_default (PySem.strKind G.prog G.w) hh.objs.size (PySem.strKind_is _ _ sg t) hmods (.str sg t)) ⟨_, hd2.mapOf, ?_⟩
  have fin : ∀ tk mk u, s2.toks ≤ tk → MarkOk G.lo sg t mk u → Q (.str mk u) ⟨s2.heap, s2.gens, s2.drawn, tk, s2.os⟩ := fun tk mk u h1 h2 => k ρ2 _ mk u (X.trans (Ext.same rfl)) (hs2.same rfl rfl rfl (Nat.le_trans hs2.toks h1)) h2
  by_cases q1 : sg = "<"
  · subst q1
    show Q (((valueAt ([(("<" : Str), Value.str "&lt;" (tt + 1)), ((">" : Str), Value.str "&gt;" (tt + 3))] : List (Str × Value)) "<").getD (.str "<" t))) _
    rw [show valueAt ([(("<" : Str), Value.str "&lt;" (tt + 1)), ((">" : Str), Value.str "&gt;" (tt + 3))] : List (Str × Value)) "<" = some (.str "&lt;" (tt + 1)) by kernel_rfl]
    exact fin _ _ _ (by omega) (.inl ⟨rfl, rfl, Nat.le_trans hT (by show tt ≤ _; omega)⟩)
  · by_cases q2 : sg = ">"
    · subst q2
      show Q (((valueAt ([(("<" : Str), Value.str "&lt;" (tt + 1)), ((">" : Str), Value.str "&gt;" (tt + 3))] : List (Str × Value)) ">").getD (.str ">" t))) _
      rw [show valueAt ([(("<" : Str), Value.str "&lt;" (tt + 1)), ((">" : Str), Value.str "&gt;" (tt + 3))] : List (Str × Value)) ">" = some (.str "&gt;" (tt + 3)) by kernel_rfl]
      exact fin _ _ _ (by omega) (.inr (.inl ⟨rfl, rfl, Nat.le_trans hT (by show tt ≤ _; omega)⟩))
    · have q1' : (("<" : Str) == sg) = false := beq_eq_false_iff_ne.mpr fun e => q1 e.symm
      have q2' : ((">" : Str) == sg) = false := beq_eq_false_iff_ne.mpr fun e => q2 e.symm
      have hv : valueAt ([(("<" : Str), Value.str "&lt;" (tt + 1)), ((">" : Str), Value.str "&gt;" (tt + 3))] : List (Str × Value)) sg = none := by
        unfold valueAt
        rw [List.find?_cons_of_neg (by simpa using fun e => q1 e.symm), List.find?_cons_of_neg (by simpa using fun e => q2 e.symm)]
        rfl
      rw [hv]
      exact fin _ _ _ (by omega) (.inr (.inr ⟨q1, q2, rfl, rfl⟩))
end
end Mine
namespace Mine
noncomputable def lNs : List Str := [("script" : Str), ("drawn" : Str), ("numbers" : Str), ("size" : Str), ("lost" : Str), ("most" : Str), ("pile" : Str), ("reads" : Str), ("turn" : Str), ("page" : Str), ("odd" : Str), ("seen" : Str)]
theorem lNs_nd : lNs.Nodup := by decide +kernel
noncomputable def lE : AEnv := ⟨scopeD (stAt 63), 3, [(("sizes" : Str), 11), (("good" : Str), 10), (("alone" : Str), 9), (("codes" : Str), 8), (("each" : Str), 7), (("mark" : Str), 6), (("sign" : Str), 5), (("judge" : Str), 4)]⟩
noncomputable def lS (P : Addr → Obj → Prop) (fr : List (Option V)) (jd sg mk ea co al go sz : Option V) (r : List O) : List O :=
  [.obj P, .obj (Tab 62), .obj (Tab 69), .frame lNs fr, .cell jd, .cell sg, .cell mk, .cell ea, .cell co, .cell al, .cell go, .cell sz] ++ r
noncomputable def lawB (i : Nat) : Stmt := ((bodyD (stAt 63))[i]?).getD noSt
theorem RVs.norm {ρ : List Addr} {vs : List V} {xs : List Value} (h : RVs ρ vs xs) : RVs ρ (vs.map normV) xs := by
  induction h with
  | nil => exact .nil
  | cons a _ ih => exact .cons a.norm ih
theorem Cal.unnorm {G : Glo} {n : Nat} {f : V} {vs ws : List V} {S S' : List O} {v : V} (h : Cal G n f ws S v S') (e : vs.map normV = ws) : Cal G n f vs S v S' := fun A ρ s g xs hA hS rf r => h A ρ s g xs hA hS rf (e ▸ r.norm)
section
variable (a : LA) (n : Nat)
/-- the calls of _law_numbers and _law_figures -/
noncomputable def callG (f : Value) (vs : List V) (S : List O) : Option {p : V × List O // Cal (gl a) (n + 2) (.ext f) vs S p.1 p.2 ∧ isKept (gl a).K f = true} := match f, vs with
  | .ref d, [v] => onStr (normV v) fun x hx => onIf (d = 134) fun h => (numsR a (n + 1) x).map fun r => ⟨(.ref S.length, S ++ [.list (vInts r.1)]), by
      have := Cal.on r.2 (fun v hv => by rw [List.mem_singleton.mp hv]; trivial) S
      rw [List.map_singleton, mapO_id (m := 0) (fun k hk => absurd hk (Nat.not_lt_zero _)) (okOB_of okOB_ints)] at this
      have key := Cal.unnorm (vs := [v]) this (by rw [List.map_singleton, hx])
      exact h ▸ key, by rw [h]; kernel_rfl⟩
  | .ref d, [v, .int k] => onStr (normV v) fun x hx => onIf (d = 141) fun h => (figsR a n x k).map fun r => ⟨(.int r.1, S), by
      have := Cal.on r.2 (fun v hv => by
        rcases List.mem_cons.mp hv with rfl | hv
        · trivial
        · rw [List.mem_singleton.mp hv]; trivial) S
      rw [List.map_nil, List.append_nil] at this
      have key := Cal.unnorm (vs := [v, .int k]) this (by rw [List.map_cons, List.map_singleton, hx]; rfl)
      exact h ▸ key, by rw [h]; kernel_rfl⟩
  | _, _ => none
noncomputable def CG : Cx (gl a) (n + 2) := ⟨globR a, dictR a, callG a n⟩
end
theorem exs_of {G : Glo} {n : Nat} {E : AEnv} {st : List Stmt} {S : List O} {o : Option {p : Fl × List O // Exs G n E st S p.1 p.2}} {f : Fl} {S' : List O} (h : o.map (·.1) = some (f, S')) : Exs G n E st S f S' := by
  cases o with
  | none => cases h
  | some p =>
    obtain ⟨⟨f', S''⟩, hp⟩ := p
    cases h
    exact hp
section
variable {a : LA} {n : Nat} {t : Tok} {P : Addr → Obj → Prop}
noncomputable def codesL : List Nat := [0, 1, 5, 6, 25]
noncomputable def goodL : Bool → List Nat
  | true => [0, 3]
  | false => [0, 2, 4]
noncomputable def lostL : Bool → List Nat
  | true => [0, 75, 15, 90, 3, 78, 18, 93]
  | false => [0, 50, 100, 10, 60, 110, 20, 70, 120, 2, 52, 102, 12, 62, 112, 22, 72, 122, 4, 54, 104, 14, 64, 114, 24, 74, 124]
noncomputable def ruleL : Bool → List Nat
  | true => [1, 3]
  | false => [1, 2]
noncomputable def eachI : Bool → Int
  | true => 3
  | false => 2
noncomputable def mostI : Bool → Int
  | true => 2
  | false => 1
/-- behind the draw -/
noncomputable def rest0 (p q r s : Nat) (x y z : Int) : List O := [.any, .any, .list (vInts (nI [p, q, r, s])), .list [.int x, .int y, .int z], .any]
noncomputable def fr0 (l m : Option V) : List (Option V) := [some (.ref 0), some (.ref 14), some (.ref 15), none, l, m, none, none, none, none, none, none]
theorem codes_run {sg : Str} (h : sg ∈ signs) {j m : Str} {u : Tok} {e : Int} {p q r s : Nat} {x y z : Int} : Exs (gl a) (n + 2) lE [lawB 3]
    (lS P (fr0 none none) (some (.str j)) (some (.ext (.str sg t))) (some (.ext (.str m u))) (some (.int e)) none none none none (rest0 p q r s x y z)) .next
    (lS P (fr0 none none) (some (.str j)) (some (.ext (.str sg t))) (some (.ext (.str m u))) (some (.int e)) (some (.ref 17)) none none none (rest0 p q r s x y z ++ [.list (vInts (nI codesL))])) := by
  simp only [signs, List.mem_cons, List.not_mem_nil, or_false] at h
  rcases h with rfl | rfl | rfl | rfl | rfl <;> exact exs_of (o := exsR (lvl (CG a n) 30) lE [lawB 3] _) (by kernel_rfl)
theorem each_run {j : Str} (h : j ∈ judges) {sg m : Str} {u : Tok} {p q r s : Nat} {x y z : Int} : ∃ two, Exs (gl a) (n + 2) lE [lawB 2]
    (lS P (fr0 none none) (some (.str j)) (some (.ext (.str sg t))) (some (.ext (.str m u))) none none none none none (rest0 p q r s x y z)) .next
    (lS P (fr0 none none) (some (.str j)) (some (.ext (.str sg t))) (some (.ext (.str m u))) (some (.int (eachI two))) none none none none (rest0 p q r s x y z)) ∧ ∃ al : Int, Exs (gl a) (n + 2) lE [lawB 4, lawB 5, lawB 6, lawB 7]
    (lS P (fr0 none none) (some (.str j)) (some (.ext (.str sg t))) (some (.ext (.str m u))) (some (.int (eachI two))) (some (.ref 17)) none none none (rest0 p q r s x y z ++ [.list (vInts (nI codesL))])) .next
    (lS P (fr0 (some (.ref 19)) (some (.int (mostI two)))) (some (.str j)) (some (.ext (.str sg t))) (some (.ext (.str m u))) (some (.int (eachI two))) (some (.ref 17)) (some (.int al)) (some (.ref 18)) none (rest0 p q r s x y z ++ [.list (vInts (nI codesL)), .list (vInts (nI (goodL two))), .list (vInts (nI (lostL two))), .list (vInts (nI (ruleL two)))])) := by
  simp only [judges, List.mem_cons, List.not_mem_nil, or_false] at h
  rcases h with rfl | rfl | rfl | rfl | rfl | rfl
  · exact ⟨true, exs_of (o := exsR (lvl (CG a n) 30) lE [lawB 2] _) (by kernel_rfl), 23, exs_of (o := exsR (lvl (CG a n) 30) lE [lawB 4, lawB 5, lawB 6, lawB 7] _) (by kernel_rfl)⟩
  · exact ⟨false, exs_of (o := exsR (lvl (CG a n) 30) lE [lawB 2] _) (by kernel_rfl), 16, exs_of (o := exsR (lvl (CG a n) 30) lE [lawB 4, lawB 5, lawB 6, lawB 7] _) (by kernel_rfl)⟩
  · exact ⟨false, exs_of (o := exsR (lvl (CG a n) 30) lE [lawB 2] _) (by kernel_rfl), 17, exs_of (o := exsR (lvl (CG a n) 30) lE [lawB 4, lawB 5, lawB 6, lawB 7] _) (by kernel_rfl)⟩
  · exact ⟨false, exs_of (o := exsR (lvl (CG a n) 30) lE [lawB 2] _) (by kernel_rfl), 20, exs_of (o := exsR (lvl (CG a n) 30) lE [lawB 4, lawB 5, lawB 6, lawB 7] _) (by kernel_rfl)⟩
  · exact ⟨false, exs_of (o := exsR (lvl (CG a n) 30) lE [lawB 2] _) (by kernel_rfl), 21, exs_of (o := exsR (lvl (CG a n) 30) lE [lawB 4, lawB 5, lawB 6, lawB 7] _) (by kernel_rfl)⟩
  · exact ⟨false, exs_of (o := exsR (lvl (CG a n) 30) lE [lawB 2] _) (by kernel_rfl), 22, exs_of (o := exsR (lvl (CG a n) 30) lE [lawB 4, lawB 5, lawB 6, lawB 7] _) (by kernel_rfl)⟩
end
end Mine
namespace Mine
/-! texts as lists of signs: replace, split -/
noncomputable def cutsS (y : List Nat) : List Nat → Nat → Nat → List Nat
  | [], _, _ => []
  | c :: r, p, 0 => if (c :: r).take y.length = y then p :: cutsS y r (p + 1) (y.length - 1) else cutsS y r (p + 1) 0
  | _ :: r, p, s + 1 => cutsS y r (p + 1) s
noncomputable def gapsS (y : List Nat) : List Nat → Nat → List Nat → List (List Nat)
  | [], _, pre => [pre]
  | c :: r, 0, pre => if (c :: r).take y.length = y then pre :: gapsS y r (y.length - 1) [] else gapsS y r 0 (pre ++ [c])
  | _ :: r, s + 1, pre => gapsS y r s pre
noncomputable def repL (y z : List Nat) : List Nat → Nat → List Nat
  | [], _ => []
  | c :: r, 0 => if (c :: r).take y.length = y then z ++ repL y z r (y.length - 1) else c :: repL y z r 0
  | _ :: r, s + 1 => repL y z r s
noncomputable def joinL (z : List Nat) : List (List Nat) → List Nat
  | [] => []
  | [p] => p
  | p :: q :: r => p ++ z ++ joinL z (q :: r)
noncomputable def tl (x : Str) : List Nat := x.cps.toList
theorem tl_len (x : Str) : (tl x).length = x.length := by simp [tl, Str.length]
theorem tl_inj {x y : Str} (h : tl x = tl y) : x = y := by
  cases x; cases y
  simp only [tl, Str.mk.injEq] at h ⊢
  exact Array.toList_inj.mp h
open Builtin.Str StrLaws in
theorem occ_scan (x y : Str) (hw : 0 < y.length) : ∀ (l : List Nat) (p free : Nat) (acc : Array Nat), (tl x).drop p = l → p + l.length = x.length → acc.size ≤ p →
    (forIn (List.range' p (l.length + 1)) (acc, free) (occBody x y x.length (x.length + 1))).run.fst.toList = acc.toList ++ cutsS (tl y) l p (free - p)
  | [], p, free, acc, hd, hl, ha => by
    have hl' : p = x.length := by simpa using hl
    show (forIn [p] (acc, free) (occBody x y x.length (x.length + 1))).run.fst.toList = _
    rw [List.forIn_cons]
    have hc : ¬ (((acc.size < x.length + 1 ∧ free ≤ p) ∧ p + y.length ≤ x.length) ∧ subAt x y p = true) := by omega
    unfold occBody
    rw [if_neg hc]
    simp [cutsS]
  | c :: r, p, free, acc, hd, hl, ha => by
    have hl1 : p + (r.length + 1) = x.length := by simpa using hl
    have hdr : (tl x).drop (p + 1) = r := by
      have := congrArg List.tail hd
      simpa using this
    have hsub : subAt x y p = true ↔ (c :: r).take (tl y).length = tl y := by
      rw [subAt_eq]
      show ((List.drop p (tl x)).take y.length == tl y) = true ↔ _
      rw [hd, beq_iff_eq, tl_len]
    rw [show (c :: r).length + 1 = (r.length + 1) + 1 by simp, List.range'_succ, List.forIn_cons]
    by_cases hf : free ≤ p
    · have e0 : free - p = 0 := by omega
      rw [e0]
      by_cases hs : (c :: r).take (tl y).length = tl y
      · have hlen : y.length ≤ r.length + 1 := by
          have := congrArg List.length hs
          rw [List.length_take, tl_len] at this
          simp at this
          omega
        have hc : ((acc.size < x.length + 1 ∧ free ≤ p) ∧ p + y.length ≤ x.length) ∧ subAt x y p = true := ⟨⟨⟨by omega, hf⟩, by omega⟩, hsub.mpr hs⟩
        have ih := occ_scan x y hw r (p + 1) (p + y.length) (acc.push p) hdr (by omega) (by simp; omega)
        rw [show occBody x y x.length (x.length + 1) p (acc, free) = pure (ForInStep.yield (acc.push p, p + y.length)) by unfold occBody; rw [if_pos hc]]
        show (forIn (List.range' (p + 1) (r.length + 1)) (acc.push p, p + y.length) (occBody x y x.length (x.length + 1))).run.fst.toList = _
        rw [ih, cutsS, if_pos hs, Array.toList_push, tl_len, show p + y.length - (p + 1) = y.length - 1 by omega, List.append_assoc]
        rfl
      · have hc : ¬ (((acc.size < x.length + 1 ∧ free ≤ p) ∧ p + y.length ≤ x.length) ∧ subAt x y p = true) := fun h => hs (hsub.mp h.2)
        have ih := occ_scan x y hw r (p + 1) free acc hdr (by omega) (by omega)
        rw [show occBody x y x.length (x.length + 1) p (acc, free) = pure (ForInStep.yield (acc, free)) by unfold occBody; rw [if_neg hc]]
        show (forIn (List.range' (p + 1) (r.length + 1)) (acc, free) (occBody x y x.length (x.length + 1))).run.fst.toList = _
        rw [ih, cutsS, if_neg hs, show free - (p + 1) = 0 by omega]
    · have hc : ¬ (((acc.size < x.length + 1 ∧ free ≤ p) ∧ p + y.length ≤ x.length) ∧ subAt x y p = true) := fun h => hf h.1.1.2
      have ih := occ_scan x y hw r (p + 1) free acc hdr (by omega) (by omega)
      rw [show occBody x y x.length (x.length + 1) p (acc, free) = pure (ForInStep.yield (acc, free)) by unfold occBody; rw [if_neg hc]]
      show (forIn (List.range' (p + 1) (r.length + 1)) (acc, free) (occBody x y x.length (x.length + 1))).run.fst.toList = _
      rw [ih, show free - p = (free - (p + 1)) + 1 by omega, cutsS]
open Builtin.Str StrLaws in
theorem parts_gaps (x : Str) (y : List Nat) : ∀ (l : List Nat) (p s a : Nat) (pre : List Nat), (tl x).drop p = l → p + l.length = x.length → (s = 0 → a ≤ p ∧ pre = ((tl x).drop a).take (p - a)) → (0 < s → a = p + s ∧ pre = []) → 0 < y.length →
    (partsFrom x y.length a (cutsS y l p s)).map tl = gapsS y l s pre
  | [], p, s, a, pre, hd, hl, h0, h1, hy => by
    have hl' : p = x.length := by simpa using hl
    rw [cutsS, gapsS]
    show [tl (strSub x a x.length)] = [pre]
    rw [show tl (strSub x a x.length) = ((tl x).drop a).take (x.length - a) from strSub_toList x a x.length]
    rcases Nat.eq_zero_or_pos s with q | q
    · rw [(h0 q).2, hl']
    · obtain ⟨e1, e2⟩ := h1 q
      rw [e2, List.drop_of_length_le (by rw [tl_len]; omega), List.take_nil]
  | c :: r, p, s, a, pre, hd, hl, h0, h1, hy => by
    have hl1 : p + (r.length + 1) = x.length := by simpa using hl
    have hdr : (tl x).drop (p + 1) = r := by
      have := congrArg List.tail hd
      simpa using this
    cases s with
    | zero =>
      obtain ⟨e1, e2⟩ := h0 rfl
      rw [cutsS, gapsS]
      by_cases hs : (c :: r).take y.length = y
      · rw [if_pos hs, if_pos hs]
        show tl (strSub x a p) :: (partsFrom x y.length (p + y.length) (cutsS y r (p + 1) (y.length - 1))).map tl = _
        rw [show tl (strSub x a p) = ((tl x).drop a).take (p - a) from strSub_toList x a p, ← e2]
        congr 1
        refine parts_gaps x y r (p + 1) (y.length - 1) (p + y.length) [] hdr (by omega) (fun q => ⟨by omega, ?_⟩) (fun q => ⟨by omega, rfl⟩) hy
        rw [show p + 1 - (p + y.length) = 0 by omega]; rfl
      · rw [if_neg hs, if_neg hs]
        refine parts_gaps x y r (p + 1) 0 a (pre ++ [c]) hdr (by omega) (fun _ => ⟨by omega, ?_⟩) (fun q => absurd q (Nat.lt_irrefl _)) hy
        rw [e2, show p + 1 - a = (p - a) + 1 by omega, List.take_add_one, List.getElem?_drop, show a + (p - a) = p by omega]
        have : (tl x)[p]? = some c := by
          have := congrArg (fun l : List Nat => l[0]?) hd
          simpa using this
        rw [this]; rfl
    | succ s =>
      obtain ⟨e1, e2⟩ := h1 (Nat.succ_pos s)
      rw [cutsS, gapsS]
      refine parts_gaps x y r (p + 1) s a pre hdr (by omega) (fun q => ⟨by omega, ?_⟩) (fun q => ⟨by omega, e2⟩) hy
      rw [e2, show p + 1 - a = 0 by omega]; rfl
open Builtin.Str StrLaws in
theorem parts_of (x y : Str) (hw : 0 < y.length) : (partsBetween x (occurrences x y 0 x.length (x.length + 1)) y.length).map tl = gapsS (tl y) (tl x) 0 [] := by
  have h1 : occurrences x y 0 x.length (x.length + 1) = cutsS (tl y) (tl x) 0 0 := by
    rw [occ_eq]
    have := occ_scan x y hw (tl x) 0 0 #[] rfl (by rw [tl_len]; omega) (by simp)
    rw [tl_len] at this
    simpa using this
  rw [partsBetween_eq, h1]
  have := parts_gaps x (tl y) (tl x) 0 0 0 [] rfl (by rw [tl_len]; omega) (fun _ => ⟨Nat.le_refl _, rfl⟩) (fun q => absurd q (Nat.lt_irrefl _)) (by rw [tl_len]; exact hw)
  rw [tl_len] at this
  exact this
theorem gaps_ne (y : List Nat) : ∀ (l : List Nat) (s : Nat) (pre : List Nat), ∃ p r, gapsS y l s pre = p :: r
  | [], s, pre => ⟨_, _, by rw [gapsS]⟩
  | c :: r, 0, pre => by
    rw [gapsS]
    split
    · exact ⟨_, _, rfl⟩
    · exact gaps_ne y r 0 _
  | c :: r, s + 1, pre => by rw [gapsS]; exact gaps_ne y r s pre
theorem join_gaps (y z : List Nat) : ∀ (l : List Nat) (s : Nat) (pre : List Nat), joinL z (gapsS y l s pre) = pre ++ repL y z l s
  | [], s, pre => by rw [gapsS, repL, joinL, List.append_nil]
  | c :: r, 0, pre => by
    rw [gapsS, repL]
    split
    · obtain ⟨p, q, e⟩ := gaps_ne y r (y.length - 1) []
      have ih := join_gaps y z r (y.length - 1) []
      rw [e] at ih ⊢
      rw [joinL, ih]
      simp
    · rw [join_gaps y z r 0 (pre ++ [c])]
      simp
  | c :: r, s + 1, pre => by rw [gapsS, repL]; exact join_gaps y z r s pre
theorem tl_join (z : Str) : ∀ ps : List Str, tl (Str.join z ps) = joinL (tl z) (ps.map tl)
  | [] => rfl
  | [p] => rfl
  | p :: q :: r => by
    have ih := tl_join z (q :: r)
    show tl (p ++ z ++ Str.join z (q :: r)) = tl p ++ tl z ++ joinL (tl z) ((q :: r).map tl)
    rw [← ih]
    simp [tl, Str.cps_append]
theorem tl_replace (x y z : Str) (hw : 0 < y.length) : tl (Txt.replace x y z) = repL (tl y) (tl z) (tl x) 0 := by
  have h := join_gaps (tl y) (tl z) (tl x) 0 []
  rw [← parts_of x y hw, ← tl_join, List.nil_append] at h
  rw [← h]
  unfold Txt.replace
  have hy : (y.length == 0) = false := by simp; omega
  rw [hy, Bool.false_and, Bool.or_false]
  cases he : (Builtin.Str.occurrences x y 0 x.length (x.length + 1)).isEmpty with
  | false => rw [if_neg (by decide), StrLaws.glued_eq_join]
  | true =>
    rw [if_pos rfl, List.isEmpty_iff.mp he]
    show tl x = tl (Str.join z [Builtin.Str.strSub x 0 x.length])
    show tl x = tl (Builtin.Str.strSub x 0 x.length)
    rw [StrLaws.sub_whole]
theorem rep_skip (y z : List Nat) : ∀ (u l : List Nat), repL y z (u ++ l) u.length = repL y z l 0
  | [], l => rfl
  | c :: u, l => by
    show repL y z (c :: (u ++ l)) (u.length + 1) = _
    rw [repL, rep_skip y z u l]
theorem rep_hit (z : List Nat) (c : Nat) (y l : List Nat) : repL (c :: y) z (c :: (y ++ l)) 0 = z ++ repL (c :: y) z l 0 := by
  rw [repL, if_pos (by simp), show (c :: y).length - 1 = y.length by simp, rep_skip]
theorem rep_miss (z : List Nat) (c k : Nat) (y l : List Nat) (h : k ≠ c) : repL (c :: y) z (k :: l) 0 = k :: repL (c :: y) z l 0 := by
  rw [repL, if_neg]
  intro e
  simp at e
  exact h e.1
theorem rep_one (z : List Nat) (c : Nat) : ∀ l, repL [c] z l 0 = l.flatMap fun k => if k = c then z else [k]
  | [] => rfl
  | k :: l => by
    rw [List.flatMap_cons]
    by_cases h : k = c
    · subst h
      have := rep_hit z k [] l
      rw [List.nil_append] at this
      rw [this, rep_one z k l, if_pos rfl]
    · rw [rep_miss z c k [] l h, rep_one z c l, if_neg h]; rfl
end Mine
namespace Mine
/-! the pages -/
noncomputable def rep (k : Nat) (m : List Nat) : List Nat := (List.replicate k m).flatten
noncomputable def pageL (m : List Nat) (sz : List Nat) : List Nat := sz.flatMap fun k => 32 :: rep k m
theorem rep_len (k : Nat) (m : List Nat) : (rep k m).length = k * m.length := by simp [rep]
theorem rep_succ (k : Nat) (m : List Nat) : rep (k + 1) m = m ++ rep k m := by simp [rep, List.replicate_succ]
theorem tl_mul (x : Str) : ∀ {k : Nat}, k ≤ 4 → tl (Txt.mul x (k : Int)) = rep k (tl x)
  | 0, _ => rfl
  | 1, _ => by simp [rep]; rfl
  | 2, _ => by
    by_cases h : x.length = 0
    · have e : tl x = [] := List.length_eq_zero_iff.mp ((tl_len x).trans h)
      simp [Txt.mul, h, rep, e]
    · simp [Txt.mul, h, rep, tl, List.replicate_succ]
  | 3, _ => by
    by_cases h : x.length = 0
    · have e : tl x = [] := List.length_eq_zero_iff.mp ((tl_len x).trans h)
      simp [Txt.mul, h, rep, e]
    · simp [Txt.mul, h, rep, tl, List.replicate_succ]
  | 4, _ => by
    by_cases h : x.length = 0
    · have e : tl x = [] := List.length_eq_zero_iff.mp ((tl_len x).trans h)
      simp [Txt.mul, h, rep, e]
    · simp [Txt.mul, h, rep, tl, List.replicate_succ]
theorem joinL_nil : ∀ l : List (List Nat), joinL [] l = l.flatten
  | [] => rfl
  | [p] => by simp [joinL]
  | p :: q :: r => by
    have ih := joinL_nil (q :: r)
    rw [joinL, ih]
    simp
theorem tl_txtJoin (l : List Str) : tl (Txt.join "" l) = (l.map tl).flatten := by
  have : Txt.join "" l = Str.join "" l := StrLaws.glued_eq_join "" l
  rw [this, tl_join]
  exact joinL_nil _
/-- the pile's text -/
noncomputable def pileT (sg : Str) (sz : List Nat) : Str := Txt.join "" (accTexts ((nI sz).map (rowOf sg)))
noncomputable def pageT (mk : Str) (sz : List Nat) : Str := Txt.join "" (sz.map fun k : Nat => " " ++ Txt.mul mk (k : Int))
theorem tl_sp : tl (" " : Str) = [32] := by decide +kernel
theorem tl_app (x y : Str) : tl (x ++ y) = tl x ++ tl y := by simp [tl, Str.cps_append]
theorem tl_pile (sg : Str) {sz : List Nat} (h : ∀ k ∈ sz, k ≤ 4) : tl (pileT sg sz) = pageL (tl sg) sz := by
  unfold pileT
  rw [tl_txtJoin]
  unfold pageL accTexts
  induction sz with
  | nil => rfl
  | cons k t ih =>
    rw [List.flatMap_cons, ← ih fun j hj => h j (.tail _ hj)]
    have e : tl (Txt.join "" [(rowOf sg (k : Int)).1, (rowOf sg (k : Int)).2]) = 32 :: rep k (tl sg) := by
      rw [tl_txtJoin]
      show (tl (" " : Str) ++ (tl (Txt.mul sg (k : Int)) ++ [])) = _
      rw [tl_sp, tl_mul sg (h k (.head _)), List.append_nil]; rfl
    show tl (Txt.join "" [(rowOf sg (k : Int)).1, (rowOf sg (k : Int)).2]) ++ _ = _
    rw [e]
    rfl
theorem tl_page (mk : Str) {sz : List Nat} (h : ∀ k ∈ sz, k ≤ 4) : tl (pageT mk sz) = pageL (tl mk) sz := by
  unfold pageT
  rw [tl_txtJoin]
  unfold pageL
  induction sz with
  | nil => rfl
  | cons k t ih =>
    rw [List.flatMap_cons, ← ih fun j hj => h j (.tail _ hj)]
    show tl (" " ++ Txt.mul mk (k : Int)) ++ _ = _
    rw [tl_app, tl_sp, tl_mul mk (h k (.head _))]; rfl
theorem pageL_len (m : List Nat) {sz : List Nat} (h : ∀ k ∈ sz, k ≤ 4) : (pageL m sz).length ≤ sz.length * (1 + 4 * m.length) := by
  induction sz with
  | nil => simp [pageL]
  | cons k t ih =>
    have := ih fun j hj => h j (.tail _ hj)
    have hk : k * m.length ≤ 4 * m.length := Nat.mul_le_mul_right _ (h k (.head _))
    show (32 :: rep k m ++ pageL m t).length ≤ _
    rw [List.length_append, List.length_cons, rep_len, List.length_cons, Nat.add_mul]
    omega
theorem rep_flatMap (f : Nat → List Nat) (m : List Nat) : ∀ k, (rep k m).flatMap f = rep k (m.flatMap f)
  | 0 => rfl
  | k + 1 => by rw [rep_succ, rep_succ, List.flatMap_append, rep_flatMap f m k]
theorem page_flatMap (f : Nat → List Nat) (hf : f 32 = [32]) (m : List Nat) : ∀ sz, (pageL m sz).flatMap f = pageL (m.flatMap f) sz
  | [] => rfl
  | k :: t => by
    show (32 :: (rep k m ++ pageL m t)).flatMap f = 32 :: rep k (m.flatMap f) ++ pageL (m.flatMap f) t
    rw [List.flatMap_cons, List.flatMap_append, hf, rep_flatMap, page_flatMap f hf m t]; rfl
noncomputable def putF (d : Nat) (z : List Nat) (k : Nat) : List Nat := if k = d then z else [k]
theorem tl_esc (d : Nat) (z x : Str) : tl (escS ⟨#[d]⟩ z x) = (tl x).flatMap (putF d (tl z)) := by
  unfold escS
  have hc : Txt.contains x ⟨#[d]⟩ = decide (d ∈ tl x) := StrLaws.found_one x d
  rw [hc]
  by_cases h : d ∈ tl x
  · rw [decide_eq_true h]
    show tl (Txt.replace x ⟨#[d]⟩ z) = _
    rw [tl_replace x ⟨#[d]⟩ z Nat.zero_lt_one]
    exact rep_one (tl z) d (tl x)
  · rw [decide_eq_false h]
    show tl x = _
    generalize tl x = l at h
    induction l with
    | nil => rfl
    | cons k t ih =>
      rw [List.flatMap_cons, ← ih fun q => h (.tail _ q)]
      unfold putF
      rw [if_neg (fun e : k = d => h (by rw [e]; exact .head _))]; rfl
end Mine
namespace Mine
noncomputable def markS (sg : Str) : Str := bif sg == "<" then "&lt;" else bif sg == ">" then "&gt;" else sg
theorem mark_is {lo : Nat} {sg mk : Str} {t u : Tok} (h : MarkOk lo sg t mk u) : mk = markS sg := by
  unfold markS
  rcases h with ⟨rfl, rfl, _⟩ | ⟨rfl, rfl, _⟩ | ⟨h1, h2, rfl, _⟩
  · decide +kernel
  · decide +kernel
  · rw [beq_eq_false_iff_ne.mpr h1, beq_eq_false_iff_ne.mpr h2]; rfl
noncomputable def signC (sg : Str) : Nat := (tl sg).headD 0
structure SignOk (sg : Str) : Prop where
  one : tl sg = [signC sg]
  ne : signC sg ≠ 32
  mark : ((([signC sg].flatMap (putF 38 (tl "&amp;"))).flatMap (putF 60 (tl "&lt;"))).flatMap (putF 62 (tl "&gt;"))).flatMap (putF 13 (tl "&#xD;")) = tl (markS sg)
  len1 : ([signC sg].flatMap (putF 38 (tl "&amp;"))).length ≤ 5
  len2 : (([signC sg].flatMap (putF 38 (tl "&amp;"))).flatMap (putF 60 (tl "&lt;"))).length ≤ 5
  len3 : ((([signC sg].flatMap (putF 38 (tl "&amp;"))).flatMap (putF 60 (tl "&lt;"))).flatMap (putF 62 (tl "&gt;"))).length ≤ 5
  len4 : (tl (markS sg)).length ≤ 5
  hd : ∃ d m, tl (markS sg) = d :: m ∧ d ≠ 32
  nsp : Unicode.isSpace (signC sg) = false
theorem sign_ok {sg : Str} (h : sg ∈ signs) : SignOk sg := by
  simp only [signs, List.mem_cons, List.not_mem_nil, or_false] at h
  rcases h with rfl | rfl | rfl | rfl | rfl
  · exact ⟨by decide +kernel, by decide +kernel, by decide +kernel, by decide +kernel, by decide +kernel, by decide +kernel, by decide +kernel, ⟨42, [], by decide +kernel, by decide⟩, by decide +kernel⟩
  · exact ⟨by decide +kernel, by decide +kernel, by decide +kernel, by decide +kernel, by decide +kernel, by decide +kernel, by decide +kernel, ⟨47, [], by decide +kernel, by decide⟩, by decide +kernel⟩
  · exact ⟨by decide +kernel, by decide +kernel, by decide +kernel, by decide +kernel, by decide +kernel, by decide +kernel, by decide +kernel, ⟨38, [108, 116, 59], by decide +kernel, by decide⟩, by decide +kernel⟩
  · exact ⟨by decide +kernel, by decide +kernel, by decide +kernel, by decide +kernel, by decide +kernel, by decide +kernel, by decide +kernel, ⟨38, [103, 116, 59], by decide +kernel, by decide⟩, by decide +kernel⟩
  · exact ⟨by decide +kernel, by decide +kernel, by decide +kernel, by decide +kernel, by decide +kernel, by decide +kernel, by decide +kernel, ⟨61, [], by decide +kernel, by decide⟩, by decide +kernel⟩
theorem str_amp : ("&" : Str) = ⟨#[38]⟩ := by decide +kernel
theorem str_lt : ("<" : Str) = ⟨#[60]⟩ := by decide +kernel
theorem str_gt : (">" : Str) = ⟨#[62]⟩ := by decide +kernel
theorem str_cr : ("\r" : Str) = ⟨#[13]⟩ := by decide +kernel
section
variable {sg : Str} {sz : List Nat}
theorem len_of {x : Str} {m : List Nat} (h : tl x = pageL m sz) (h4 : sz.length = 4) (hs : ∀ k ∈ sz, k ≤ 4) (hm : m.length ≤ 5) : x.length ≤ 100 := by
  have := pageL_len m hs
  rw [← h, tl_len, h4] at this
  have : 4 * m.length ≤ 20 := by omega
  omega
/-- the page is the escaped text, and the texts between are short -/
theorem esc_pile (K : SignOk sg) (h4 : sz.length = 4) (hs : ∀ k ∈ sz, k ≤ 4) : escT (pileT sg sz) = pageT (markS sg) sz ∧ (pileT sg sz).length ≤ 100 ∧ (escS "&" "&amp;" (pileT sg sz)).length ≤ 100 ∧ (escS "<" "&lt;" (escS "&" "&amp;" (pileT sg sz))).length ≤ 100 ∧ (escS ">" "&gt;" (escS "<" "&lt;" (escS "&" "&amp;" (pileT sg sz)))).length ≤ 100 ∧ (pageT (markS sg) sz).length ≤ 100 := by
  have e0 : tl (pileT sg sz) = pageL [signC sg] sz := by rw [tl_pile sg hs, K.one]
  have e1 : tl (escS "&" "&amp;" (pileT sg sz)) = pageL ([signC sg].flatMap (putF 38 (tl "&amp;"))) sz := by
    rw [str_amp, tl_esc, e0, page_flatMap _ (by decide +kernel)]
  have e2 : tl (escS "<" "&lt;" (escS "&" "&amp;" (pileT sg sz))) = pageL (([signC sg].flatMap (putF 38 (tl "&amp;"))).flatMap (putF 60 (tl "&lt;"))) sz := by
    rw [← page_flatMap _ (by decide +kernel), ← e1, str_lt, tl_esc]
  have e3 : tl (escS ">" "&gt;" (escS "<" "&lt;" (escS "&" "&amp;" (pileT sg sz)))) = pageL ((([signC sg].flatMap (putF 38 (tl "&amp;"))).flatMap (putF 60 (tl "&lt;"))).flatMap (putF 62 (tl "&gt;"))) sz := by
    rw [← page_flatMap _ (by decide +kernel), ← e2, str_gt, tl_esc]
  have e4 : tl (escT (pileT sg sz)) = pageL (tl (markS sg)) sz := by
    rw [← K.mark, ← page_flatMap _ (by decide +kernel), ← e3]
    unfold escT
    rw [str_cr, tl_esc]
  have e5 : escT (pileT sg sz) = pageT (markS sg) sz := tl_inj (by rw [e4, tl_page _ hs])
  exact ⟨e5, len_of e0 h4 hs (by simp), len_of e1 h4 hs K.len1, len_of e2 h4 hs K.len2, len_of e3 h4 hs K.len3, len_of (tl_page _ hs) h4 hs K.len4⟩
end
end Mine
namespace Mine
theorem rep_rows (z : List Nat) (d : Nat) (m l : List Nat) : ∀ k, repL (d :: m) z (rep k (d :: m) ++ l) 0 = rep k z ++ repL (d :: m) z l 0
  | 0 => rfl
  | k + 1 => by
    have ih := rep_rows z d m l k
    rw [rep_succ, rep_succ, List.append_assoc]
    show repL (d :: m) z (d :: (m ++ (rep k (d :: m) ++ l))) 0 = _
    rw [rep_hit, ih, List.append_assoc]
theorem rep_page (z : List Nat) (d : Nat) (m : List Nat) (h : d ≠ 32) : ∀ sz, repL (d :: m) z (pageL (d :: m) sz) 0 = pageL z sz
  | [] => rfl
  | k :: t => by
    show repL (d :: m) z (32 :: (rep k (d :: m) ++ pageL (d :: m) t)) 0 = 32 :: rep k z ++ pageL z t
    rw [rep_miss z d 32 m _ fun e => h e.symm, rep_rows, rep_page z d m h t]; rfl
theorem gaps_run (u l : List Nat) (pre : List Nat) (h : 32 ∉ u) : gapsS [32] (u ++ l) 0 pre = gapsS [32] l 0 (pre ++ u) := by
  induction u generalizing pre with
  | nil => rw [List.append_nil]; rfl
  | cons c r ih =>
    show gapsS [32] (c :: (r ++ l)) 0 pre = _
    rw [gapsS, if_neg (fun e => h (by
      have : c = 32 := by simpa using e
      rw [this]; exact .head _)), ih _ fun q => h (.tail _ q), List.append_assoc]; rfl
theorem gaps_page {c : Nat} (h : c ≠ 32) : ∀ (sz : List Nat) (pre : List Nat), gapsS [32] (pageL [c] sz) 0 pre = pre :: sz.map fun k => rep k [c]
  | [], pre => by show gapsS [32] [] 0 pre = _; rw [gapsS]; rfl
  | k :: t, pre => by
    show gapsS [32] (32 :: (rep k [c] ++ pageL [c] t)) 0 pre = _
    rw [gapsS, if_pos (by simp), show ([32] : List Nat).length - 1 = 0 from rfl, gaps_run _ _ _ (by
      intro q
      have : 32 = c := by
        have := List.mem_flatten.mp q
        obtain ⟨l, h1, h2⟩ := this
        rw [(List.mem_replicate.mp h1).2] at h2
        exact List.mem_singleton.mp h2
      exact h this.symm)]
    rw [gaps_page h t, List.nil_append]; rfl
theorem map_tl_inj : ∀ {l l' : List Str}, l.map tl = l'.map tl → l = l'
  | [], [], _ => rfl
  | [], _ :: _, h => by simp at h
  | _ :: _, [], h => by simp at h
  | x :: l, y :: l', h => by
    simp only [List.map_cons, List.cons.injEq] at h
    rw [tl_inj h.1, map_tl_inj h.2]
theorem join_weight (l : List Str) : (l.map (·.length)).sum = (Txt.join "" l).length := by
  rw [← tl_len, tl_txtJoin, List.length_flatten, List.map_map]
  refine congrArg List.sum (List.map_congr_left fun x _ => (tl_len x).symm)
section
variable {sg : Str} {sz : List Nat}
theorem back_page (K : SignOk sg) (hs : ∀ k ∈ sz, k ≤ 4) : Txt.replace (pageT (markS sg) sz) (markS sg) sg = pileT sg sz := by
  obtain ⟨d, m, hm, hd⟩ := K.hd
  refine tl_inj ?_
  have hpos : 0 < (markS sg).length := by rw [← tl_len, hm]; exact Nat.succ_pos _
  rw [tl_replace _ _ _ hpos, tl_page _ hs, tl_pile sg hs, hm, rep_page _ d m hd]
theorem parts_pile (K : SignOk sg) (hs : ∀ k ∈ sz, k ≤ 4) : Builtin.Str.partsBetween (pileT sg sz) (Builtin.Str.occurrences (pileT sg sz) " " 0 (pileT sg sz).length ((pileT sg sz).length + 1)) (" " : Str).length = ("" : Str) :: sz.map fun k : Nat => Txt.mul sg (k : Int) := by
  refine map_tl_inj ?_
  rw [parts_of _ _ (by decide +kernel), tl_pile sg hs, tl_sp, K.one, gaps_page K.ne, List.map_cons, List.map_map]
  congr 1
  refine List.map_congr_left fun k hk => ?_
  show _ = tl (Txt.mul sg (k : Int))
  rw [tl_mul sg (hs k hk), K.one]
theorem occ_pile (K : SignOk sg) (h4 : sz.length = 4) (hs : ∀ k ∈ sz, k ≤ 4) : (Builtin.Str.occurrences (pileT sg sz) " " 0 (pileT sg sz).length ((pileT sg sz).length + 1)).isEmpty = false := by
  cases h : (Builtin.Str.occurrences (pileT sg sz) " " 0 (pileT sg sz).length ((pileT sg sz).length + 1)).isEmpty with
  | false => rfl
  | true =>
    have := parts_pile K hs
    rw [List.isEmpty_iff.mp h] at this
    have := congrArg List.length this
    simp [Builtin.Str.partsBetween, h4] at this
theorem rep_isSpace {c : Nat} (h : Unicode.isSpace c = false) : ∀ k, (rep k [c]).all Unicode.isSpace = (k == 0)
  | 0 => rfl
  | k + 1 => by rw [rep_succ]; simp [h]
theorem page_isSpace {c : Nat} (h : Unicode.isSpace c = false) : ∀ sz : List Nat, (pageL [c] sz).all Unicode.isSpace = (sz.sum == 0)
  | [] => rfl
  | k :: t => by
    show (32 :: (rep k [c] ++ pageL [c] t)).all Unicode.isSpace = _
    rw [List.all_cons, List.all_append, rep_isSpace h, page_isSpace h t, show Unicode.isSpace 32 = true by decide +kernel, List.sum_cons, Bool.true_and, Bool.eq_iff_iff]
    simp
theorem pile_isspace (K : SignOk sg) (h4 : sz.length = 4) (hs : ∀ k ∈ sz, k ≤ 4) : Txt.isspace (pileT sg sz) = (sz.sum == 0) := by
  have e : tl (pileT sg sz) = pageL [signC sg] sz := by rw [tl_pile sg hs, K.one]
  have hpos : 0 < (pileT sg sz).length := by
    rw [← tl_len, e]
    match sz, h4 with
    | k :: t, _ => exact Nat.succ_pos _
  unfold Txt.isspace
  rw [← page_isSpace K.nsp sz, ← e]
  simp [hpos, tl]
theorem pile_small (K : SignOk sg) (h4 : sz.length = 4) (hs : ∀ k ∈ sz, k ≤ 4) : small ((nI sz).map (rowOf sg)) ∧ 0 < preSum (rowLen ((nI sz).map (rowOf sg))) ((nI sz).map (rowOf sg)).length ∧ JoinOk "" (accTexts ((nI sz).map (rowOf sg))) = true := by
  have hl : ((nI sz).map (rowOf sg)).length = 4 := by simp [nI, h4]
  have h1 : (" " : Str).length = 1 := by decide +kernel
  have hm : ∀ k, k ∈ sz → (Txt.mul sg (k : Int)).length ≤ 4 := fun k hk => by
    rw [← tl_len, tl_mul sg (hs k hk), rep_len, K.one]
    have := hs k hk
    simp; omega
  have hsm : small ((nI sz).map (rowOf sg)) := by
    refine ⟨by omega, fun p hp => ?_⟩
    obtain ⟨x, hx, rfl⟩ := List.mem_map.mp hp
    obtain ⟨k, hk, rfl⟩ := List.mem_map.mp hx
    have := hm k hk
    exact ⟨by show (" " : Str).length ≤ 100; omega, by show (Txt.mul sg (k : Int)).length ≤ 100; omega⟩
  refine ⟨hsm, ?_, joinOk_of_weight ?_ (by decide +kernel)⟩
  · rw [hl]
    have hle := rowLen_le hsm
    have h0 : 1 ≤ rowLen ((nI sz).map (rowOf sg)) 0 := by
      match sz, h4 with
      | k :: t, _ =>
        rw [rowLen_at (p := rowOf sg (k : Int)) rfl]
        show (1 : Int) ≤ (" " : Str).length + _
        omega
    have a1 := (hle 1).1
    have a2 := (hle 2).1
    have a3 := (hle 3).1
    simp only [preSum]
    omega
  · rw [join_weight]
    have := (len_of (by rw [tl_pile sg hs, K.one]) h4 hs (m := [signC sg]) (by simp) : (pileT sg sz).length ≤ 100)
    have e : (accTexts ((nI sz).map (rowOf sg))).length = 4 := by rw [accTexts, List.length_map, hl]
    unfold pileT at this
    omega
theorem page_joinOk (K : SignOk sg) (h4 : sz.length = 4) (hs : ∀ k ∈ sz, k ≤ 4) : JoinOk "" (sz.map fun k : Nat => " " ++ Txt.mul (markS sg) (k : Int)) = true := by
  refine joinOk_of_weight ?_ (by decide +kernel)
  rw [join_weight]
  have := (len_of (tl_page (markS sg) hs) h4 hs K.len4 : (pageT (markS sg) sz).length ≤ 100)
  unfold pageT at this
  rw [List.length_map]
  omega
end
end Mine
namespace Mine
/-! the game -/
noncomputable def moves1 (sz : List Nat) : List (List Nat) := (List.range 4).flatMap fun r => (List.range (sz.getD r 0)).map fun k => sz.set r k
noncomputable def moves2 (sz : List Nat) : List (List Nat) := (List.range 4).flatMap fun o => (List.range o).flatMap fun r => (List.range (sz.getD r 0)).flatMap fun k => (List.range (sz.getD o 0)).map fun q => (sz.set r k).set o q
theorem moveOf_iff {sz m : List Nat} {two : Bool} : MoveOf sz two m ↔ m ∈ moves1 sz ∨ (two = true ∧ m ∈ moves2 sz) := by
  unfold MoveOf moves1 moves2
  simp only [List.mem_flatMap, List.mem_map, List.mem_range]
  constructor
  · rintro (⟨r, k, h1, h2, rfl⟩ | ⟨ht, r, o, k, q, h1, h2, h3, h4, rfl⟩)
    · exact .inl ⟨r, h1, k, h2, rfl⟩
    · exact .inr ⟨ht, o, h2, r, h1, k, h3, q, h4, rfl⟩
  · rintro (⟨r, h1, k, h2, rfl⟩ | ⟨ht, o, h2, r, h1, k, h3, q, h4, rfl⟩)
    · exact .inl ⟨r, k, h1, h2, rfl⟩
    · exact .inr ⟨ht, r, o, k, q, h1, h2, h3, h4, rfl⟩
noncomputable def isLost (two : Bool) (sz : List Nat) : Bool := (lostL two).contains (tot codesL sz)
noncomputable def oddN (two : Bool) (sz : List Nat) : List Nat := (List.range 3).filter fun p => (sz.map fun k => k / 2 ^ p % 2).sum % (bif two then 3 else 2) != 0
noncomputable def checkB (two : Bool) (sz : List Nat) : Bool :=
  ((oddN two sz).isEmpty == isLost two sz) && bif isLost two sz then (moves1 sz).all (fun m => !isLost two m) && (!two || (moves2 sz).all fun m => !isLost two m)
    else (moves1 sz).any (isLost two) || (two && (moves2 sz).any (isLost two))
theorem check_row (two : Bool) (x : Nat) (hx : x < 5) : ((List.range 5).all fun y => (List.range 5).all fun z => (List.range 5).all fun w => checkB two [x, y, z, w]) = true := by
  match two, x, hx with
  | true, 0, _ => decide +kernel
  | true, 1, _ => decide +kernel
  | true, 2, _ => decide +kernel
  | true, 3, _ => decide +kernel
  | true, 4, _ => decide +kernel
  | false, 0, _ => decide +kernel
  | false, 1, _ => decide +kernel
  | false, 2, _ => decide +kernel
  | false, 3, _ => decide +kernel
  | false, 4, _ => decide +kernel
theorem check_all {two : Bool} {sz : List Nat} (h4 : sz.length = 4) (hs : ∀ k ∈ sz, k ≤ 4) : checkB two sz = true := by
  obtain ⟨x, y, z, w, rfl⟩ := four h4
  have hx := hs x (by simp)
  have hy := hs y (by simp)
  have hz := hs z (by simp)
  have hw := hs w (by simp)
  have h1 := check_row two x (by omega)
  have h2 := List.all_eq_true.mp h1 y (List.mem_range.mpr (by omega))
  have h3 := List.all_eq_true.mp h2 z (List.mem_range.mpr (by omega))
  exact List.all_eq_true.mp h3 w (List.mem_range.mpr (by omega))
theorem lost_iff {two : Bool} {sz : List Nat} : isLost two sz = true ↔ tot codesL sz ∈ lostL two := List.contains_iff_mem
section
variable {two : Bool} {sz m : List Nat} (h4 : sz.length = 4) (hs : ∀ k ∈ sz, k ≤ 4)
include h4 hs
theorem odd_lost : (oddN two sz).isEmpty = isLost two sz := by
  have := check_all (two := two) h4 hs
  unfold checkB at this
  rw [Bool.and_eq_true] at this
  exact eq_of_beq this.1
theorem move_there (h : tot codesL sz ∉ lostL two) : ∃ m, MoveOf sz two m ∧ tot codesL m ∈ lostL two := by
  have c := check_all (two := two) h4 hs
  have hl : isLost two sz = false := by rw [← Bool.not_eq_true, lost_iff]; exact h
  unfold checkB at c
  rw [Bool.and_eq_true, hl] at c
  have c2 : ((moves1 sz).any (isLost two) || (two && (moves2 sz).any (isLost two))) = true := c.2
  rw [Bool.or_eq_true, Bool.and_eq_true, List.any_eq_true, List.any_eq_true] at c2
  rcases c2 with ⟨m, h1, h2⟩ | ⟨ht, m, h1, h2⟩
  · exact ⟨m, moveOf_iff.mpr (.inl h1), lost_iff.mp h2⟩
  · exact ⟨m, moveOf_iff.mpr (.inr ⟨ht, h1⟩), lost_iff.mp h2⟩
theorem move_out (h : tot codesL sz ∈ lostL two) (hm : MoveOf sz two m) : tot codesL m ∉ lostL two := by
  have c := check_all (two := two) h4 hs
  have hl : isLost two sz = true := lost_iff.mpr h
  unfold checkB at c
  rw [Bool.and_eq_true, hl] at c
  have c2 : ((moves1 sz).all (fun m => !isLost two m) && (!two || (moves2 sz).all fun m => !isLost two m)) = true := c.2
  rw [Bool.and_eq_true, Bool.or_eq_true, List.all_eq_true, List.all_eq_true] at c2
  rw [← lost_iff]
  rcases moveOf_iff.mp hm with h1 | ⟨ht, h1⟩
  · have := c2.1 m h1
    simpa using this
  · rcases c2.2 with q | q
    · rw [ht] at q; cases q
    · have := q m h1
      simpa using this
end
theorem sum_set {sz : List Nat} {r k : Nat} (h : k < sz.getD r 0) : (sz.set r k).sum < sz.sum := by
  induction sz generalizing r with
  | nil => simp at h
  | cons x t ih =>
    cases r with
    | zero => simp at h ⊢; omega
    | succ r =>
      have := ih (r := r) (by simpa using h)
      simp only [List.set_cons_succ, List.sum_cons]
      omega
theorem set_small {sz : List Nat} {r k : Nat} (hs : ∀ j ∈ sz, j ≤ 4) (hk : k ≤ 4) : ∀ j ∈ sz.set r k, j ≤ 4 := fun j hj => by
  rcases List.mem_or_eq_of_mem_set hj with q | q
  · exact hs j q
  · rw [q]; exact hk
theorem getD_small {sz : List Nat} (hs : ∀ j ∈ sz, j ≤ 4) (r : Nat) : sz.getD r 0 ≤ 4 := by
  rw [List.getD_eq_getElem?_getD]
  cases e : sz[r]? with
  | none => exact Nat.zero_le 4
  | some k => exact hs k (List.mem_of_getElem? e)
/-- a move makes fewer of them -/
theorem move_less {sz m : List Nat} {two : Bool} (h4 : sz.length = 4) (hs : ∀ k ∈ sz, k ≤ 4) (h : MoveOf sz two m) : m.length = 4 ∧ (∀ k ∈ m, k ≤ 4) ∧ m.sum < sz.sum := by
  rcases h with ⟨r, k, hr, hk, rfl⟩ | ⟨_, r, o, k, q, hr, ho, hk, hq, rfl⟩
  · have := getD_small hs r
    exact ⟨by simp [h4], set_small hs (by omega), sum_set hk⟩
  · have h1 := getD_small hs r
    have h2 := getD_small hs o
    have e : (sz.set r k).getD o 0 = sz.getD o 0 := by
      rw [List.getD_eq_getElem?_getD, List.getD_eq_getElem?_getD, List.getElem?_set_ne (by omega)]
    have h3 := sum_set (sz := sz.set r k) (r := o) (k := q) (by rw [e]; exact hq)
    exact ⟨by simp [h4], set_small (set_small hs (by omega)) (by omega), Nat.lt_trans h3 (sum_set hk)⟩
theorem some_row {sz : List Nat} (h4 : sz.length = 4) (h : 0 < sz.sum) : 0 < (fullOf sz).length := by
  obtain ⟨x, y, z, w, rfl⟩ := four h4
  have : ∃ r, r < 4 ∧ 0 < [x, y, z, w].getD r 0 := by
    simp at h
    rcases Nat.eq_zero_or_pos x with hx | hx
    · rcases Nat.eq_zero_or_pos y with hy | hy
      · rcases Nat.eq_zero_or_pos z with hz | hz
        · exact ⟨3, by decide, by show 0 < w; omega⟩
        · exact ⟨2, by decide, hz⟩
      · exact ⟨1, by decide, hy⟩
    · exact ⟨0, by decide, hx⟩
  obtain ⟨r, h1, h2⟩ := this
  exact List.length_pos_of_mem (List.mem_filter.mpr ⟨List.mem_range.mpr h1, decide_eq_true h2⟩)
end Mine
namespace Mine
section
variable {M : Model} {A : Around} {X : Value → Shared → Prop} {s : Shared}
theorem newEnv_one {scope : Scope} {globals : Addr} {cl : List (Str × Addr)} {qual : Str} {outer : Env} {y : Str} {Q : Env → Shared → Prop} (hcf : ∀ m acc, cellsFrom m scope.names acc = (y, m) :: acc) (hpc : ∀ h, pushCells h scope.names = h.push { cls := .type "cell", data := .cell none })
    (h : Q (newEnv scope s.heap.objs.size globals ((y, s.heap.objs.size + 1) :: cl) qual none .none (some outer) builtinsNs) { s with heap := (s.heap.push { cls := .type "dict", data := .dict #[] }).push { cls := .type "cell", data := .cell none } }) :
    wpAny M A (newFunctionEnv scope globals cl [] qual none .none (some outer) builtinsNs) Q X s := by
  simp only [newFunctionEnv, Option.isSome_some, if_true]
  refine wpAny_bind (wpAny_alloc ?_)
  refine wpAny_bind (wpAny_layCells _ (fun name kind cells => by cases hkc : kind == NameKind.cell <;> simp [hkc]) _ _ _ _ ?_)
  rw [show ({ s with heap := s.heap.push { cls := .type "dict", data := .dict #[] } } : Shared).heap.objs.size = s.heap.objs.size + 1 from Heap.size_push .., hcf, hpc]
  exact wpAny_bind (wpAny_pure (wpAny_pure h))
end
section
variable {G : Glo} {n : Nat} {E : AEnv} {S S1 S2 S3 S4 : List O}
theorem comp_block1 {elt iter : Expr} {x y : Str} {px : Pos} {ifs : List Expr} {gens : List Comprehension} {scope : Scope} {pos : Pos} {c : Src} {cs : List (Str × Nat)} {ns : List Str} {use : Option (Value → Sem Unit)} {A : Around} {env : Env} {ρ : List Addr} {s : Shared} {Q : Value → Shared → Prop}
    (hA : GoodA A n) (hE : EnvOk E env ρ) (hS : Sim G ρ S s) (hi : Iti G n E iter S c S1) (hg : gens[0]? = some ⟨.Name x px, iter, ifs, 0⟩) (hcs : closN E.cells scope.names [] = some cs)
    (hcf : ∀ m acc, cellsFrom m scope.names acc = (y, m) :: acc) (hpc : ∀ h, pushCells h scope.names = h.push { cls := .type "cell", data := .cell none }) (hkind : scope.kind = .function) (hnames : ∀ y ∈ scope.names, y.2 = .local → scope.names.lookup y.1 = some .local)
    (hL : CompN G n ⟨relA scope E.scope, S1.length + 1, (y, S1.length + 2) :: cs⟩ elt gens S1.length 0 c (S1 ++ [.list [], blank ns, .cell none]) S2) (hf : ∀ (env : Env) x, foldedSetIterable iter env x = pure x)
    (hQ : ∀ ρ' s' aD aC, Ext ρ ρ' s s' → Sim G ρ' S2 s' → ρ'[S1.length]? = some aD → ρ'[S1.length + 1]? = some aC → compPost (model G.prog G.w) A (fun _ _ => False) use Q (.ref aD) aC (.ok .next) s') :
    wpAny (model G.prog G.w) A (comprehension (.ListComp elt gens scope pos) scope env (firstIterPos gens pos) (newList []) false (eval iter env) use) Q (fun _ _ => False) s := by
  obtain ⟨gs, hgs⟩ : ∃ gs, gens = ⟨.Name x px, iter, ifs, 0⟩ :: gs := by
    cases gens with
    | nil => cases hg
    | cons g gs => cases hg; exact ⟨gs, rfl⟩
  obtain ⟨cl, hcl, hclok⟩ := closure_ok hE hcs
  refine wpAny_comprehension_free (g := ⟨.Name x px, iter, ifs, 0⟩) (gs := gs) (by rw [hgs]; rfl) (hf env) hcl hkind hnames ?_
  refine hi A env ρ s _ hA hE hS fun ρ1 s1 I x1 hS1 hI hIs hIb hit => ?_
  refine wpAny_newObj_type ?_
  refine newEnv_one hcf hpc ?_
  obtain ⟨hh, gg, dd, tt, oo⟩ := s1
  have e0 : (hh.push { cls := .type "list", data := .seq ([] : List Value).toArray }).objs.size = hh.objs.size + 1 := Heap.size_push ..
  have hS2 : Sim G (ρ1 ++ [hh.objs.size]) (S1 ++ [.list []]) ⟨hh.push { cls := .type "list", data := .seq ([] : List Value).toArray }, gg, dd, tt, oo⟩ := hS1.push rfl rfl ⟨_, 0, rfl, .nil⟩ rfl rfl hS1.toks
  have hS3 := hS2.push (s' := ⟨(hh.push { cls := .type "list", data := .seq ([] : List Value).toArray }).push { cls := .type "dict", data := .dict #[] }, gg, dd, tt, oo⟩) (o := blank ns) rfl rfl ⟨#[], 0, fun _ => none, rfl, (fun e he => absurd he (by simp)), (fun _ => rfl), blank_ok fun x => rfl⟩ rfl rfl hS1.toks
  have hS4 := hS3.push (s' := ⟨((hh.push { cls := .type "list", data := .seq ([] : List Value).toArray }).push { cls := .type "dict", data := .dict #[] }).push { cls := .type "cell", data := .cell none }, gg, dd, tt, oo⟩) (o := .cell none) rfl rfl ⟨none, rfl, rfl⟩ rfl rfl hS1.toks
  have e1 : ((hh.push { cls := .type "list", data := .seq ([] : List Value).toArray }).push { cls := .type "dict", data := .dict #[] }).objs.size = hh.objs.size + 1 + 1 := by rw [Heap.size_push, e0]
  replace hS4 : Sim G (ρ1 ++ ([hh.objs.size] ++ [hh.objs.size + 1] ++ [hh.objs.size + 1 + 1])) (S1 ++ [.list [], blank ns, .cell none]) ⟨((hh.push { cls := .type "list", data := .seq ([] : List Value).toArray }).push { cls := .type "dict", data := .dict #[] }).push { cls := .type "cell", data := .cell none }, gg, dd, tt, oo⟩ := by
    have := hS4
    rw [show ({ heap := (hh.push { cls := .type "list", data := .seq ([] : List Value).toArray }).push { cls := .type "dict", data := .dict #[] }, gens := gg, drawn := dd, toks := tt, os := oo } : Shared).heap.objs.size = hh.objs.size + 1 + 1 from e1, show ({ heap := hh.push { cls := .type "list", data := .seq ([] : List Value).toArray }, gens := gg, drawn := dd, toks := tt, os := oo } : Shared).heap.objs.size = hh.objs.size + 1 from e0] at this
    simpa [List.append_assoc] using this
  have kp : ∀ b o, hh.get? b = some o → (((hh.push { cls := .type "list", data := .seq ([] : List Value).toArray }).push { cls := .type "dict", data := .dict #[] }).push { cls := .type "cell", data := .cell none }).get? b = some o := fun b o e => Heap.get?_push_of_some _ (Heap.get?_push_of_some _ (Heap.get?_push_of_some _ e))
  have X1 : Ext ρ1 (ρ1 ++ ([hh.objs.size] ++ [hh.objs.size + 1] ++ [hh.objs.size + 1 + 1])) ⟨hh, gg, dd, tt, oo⟩ ⟨((hh.push { cls := .type "list", data := .seq ([] : List Value).toArray }).push { cls := .type "dict", data := .dict #[] }).push { cls := .type "cell", data := .cell none }, gg, dd, tt, oo⟩ := by
    refine ⟨List.prefix_append _ _, fun b o _ e => kp b o e, fun b hb hn => ?_⟩
    have hge : hh.objs.size ≤ b := by
      rcases List.mem_append.mp hb with h | h
      · exact absurd h hn
      · simp at h
        rcases h with rfl | rfl | rfl
        · exact Nat.le_refl _
        · exact Nat.le_succ _
        · exact Nat.le_trans (Nat.le_succ _) (Nat.le_succ _)
    show hh.get? b = none
    cases q : hh.get? b with
    | none => rfl
    | some o => exact absurd (Heap.lt_size q) (Nat.not_lt.mpr hge)
  have pD : (ρ1 ++ ([hh.objs.size] ++ [hh.objs.size + 1] ++ [hh.objs.size + 1 + 1]))[S1.length]? = some hh.objs.size := by rw [← hS1.len]; simp
  have pC : (ρ1 ++ ([hh.objs.size] ++ [hh.objs.size + 1] ++ [hh.objs.size + 1 + 1]))[S1.length + 1]? = some (hh.objs.size + 1) := by rw [← hS1.len]; simp
  have pK : (ρ1 ++ ([hh.objs.size] ++ [hh.objs.size + 1] ++ [hh.objs.size + 1 + 1]))[S1.length + 2]? = some (hh.objs.size + 1 + 1) := by rw [← hS1.len]; simp
  have hE' : EnvOk ⟨relA scope E.scope, S1.length + 1, (y, S1.length + 2) :: cs⟩ { newEnv scope (hh.objs.size + 1) env.globals ((y, hh.objs.size + 1 + 1) :: cl) env.qual none .none (some env) builtinsNs with scope := relabel scope env } (ρ1 ++ ([hh.objs.size] ++ [hh.objs.size + 1] ++ [hh.objs.size + 1 + 1])) := by
    refine ⟨relabel_eq hE.scope, hkind, pC, fun v m hv => ?_, hE.glob, hE.blt⟩
    rw [List.lookup_cons] at hv
    show ∃ a, List.lookup v ((y, hh.objs.size + 1 + 1) :: cl) = some a ∧ _
    rw [List.lookup_cons]
    cases q : v == y with
    | true => rw [q] at hv; cases hv; exact ⟨_, rfl, pK⟩
    | false =>
      rw [q] at hv
      obtain ⟨a, h1, h2⟩ := hclok v m hv
      exact ⟨a, h1, get_mono (x1.pre.trans X1.pre) h2⟩
  obtain ⟨o, ho⟩ := hit.live
  have hIo : I ∉ ρ1 ++ ([hh.objs.size] ++ [hh.objs.size + 1] ++ [hh.objs.size + 1 + 1]) := X1.off hI ho
  have loop : codeAny (model G.prog G.w) A (.compLoop (.ListComp elt gens scope pos) 0 (.ref I) (.ref hh.objs.size) { newEnv scope (hh.objs.size + 1) env.globals ((y, hh.objs.size + 1 + 1) :: cl) env.qual none .none (some env) builtinsNs with scope := relabel scope env }) (compPost (model G.prog G.w) A (fun _ _ => False) use Q (.ref hh.objs.size) (hh.objs.size + 1)) ⟨((hh.push { cls := .type "list", data := .seq ([] : List Value).toArray }).push { cls := .type "dict", data := .dict #[] }).push { cls := .type "cell", data := .cell none }, gg, dd, tt, oo⟩ := by
    refine comp_loop (ρ₁ := ρ) (s₁ := s) hA hE' pD hL (List.prefix_refl _) hIs hIb (x1.trans X1) hS4 hIo (hit.ext X1 hI) fun ρ' s' hp' x' hS' => ?_
    exact hQ ρ' s' _ _ x' hS' (get_mono hp' pD) (get_mono hp' pC)
  have := comp_start hg rfl loop (it_again (hit.ext X1 hI) loop)
  show codeAny _ _ _ (compPost _ _ _ use Q _ (hh.push { cls := .type "list", data := .seq ([] : List Value).toArray }).objs.size) _
  rw [e0]
  exact this
end
end Mine
namespace Mine
section
variable {G : Glo} {n : Nat} {E E' : AEnv} {S S1 S2 S3 S4 : List O}
theorem Ex.assignComp1 {elt iter : Expr} {x y z : Str} {px py spos : Pos} {ifs : List Expr} {gs : List Comprehension} {scope : Scope} {pos : Pos} {c : Src} {cs : List (Str × Nat)} (ns : List Str) {σ : List Nat} {ns' : List Str} {vs' : List (Option V)}
    (hi : Iti G n E iter S c S1) (hL : CompN G n ⟨relA scope E.scope, S1.length + 1, (z, S1.length + 2) :: cs⟩ elt (⟨.Name x px, iter, ifs, 0⟩ :: gs) S1.length 0 c (S1 ++ [.list [], blank ns, .cell none]) S2)
    (hst : Sto G E y (.ref S1.length) S2 S3)
    (hF : S3[S1.length + 1]? = some (.frame ns' vs')) (P : Part σ S4 S3) (hσ : ∀ i, i < S.length → σ[i]? = some i) (hC : S1.length + 1 ∉ σ) (hl : S.length ≤ S1.length)
    (hsw : ∀ env : Env, env.scope = E.scope → swapsWith (.ListComp elt (⟨.Name x px, iter, ifs, 0⟩ :: gs) scope pos) (some (.Name y py)) spos.line env = pure true)
    (hcs : closN E.cells scope.names [] = some cs) (hcf : ∀ m acc, cellsFrom m scope.names acc = (z, m) :: acc) (hpc : ∀ h, pushCells h scope.names = h.push { cls := .type "cell", data := .cell none }) (hkind : scope.kind = .function) (hnames : ∀ y ∈ scope.names, y.2 = .local → scope.names.lookup y.1 = some .local)
    (hf : ∀ (env : Env) x, foldedSetIterable iter env x = pure x) : Ex G n E (.Assign [.Name y py] (.ListComp elt (⟨.Name x px, iter, ifs, 0⟩ :: gs) scope pos) spos) S .next S4 := by
  intro A env ρ s hA hE hS Q k
  rw [exec_Assign_Name_used _ _ _ _ (hsw env hE.scope)]
  refine wpAny_bind (wpAny_standAt (wpAny_bind ?_))
  show wpAny _ A (do let _ ← comprehension (.ListComp elt (⟨.Name x px, iter, ifs, 0⟩ :: gs) scope pos) scope env (firstIterPos (⟨.Name x px, iter, ifs, 0⟩ :: gs) pos) (newList []) false (eval iter env) (some (PySem.assign (.Name y py) env))) _ _ s
  refine wpAny_bind (wpAny_mono (comp_block1 (use := some (PySem.assign (.Name y py) env)) (Q := fun _ s' => Q .next s') hA hE hS hi rfl hcs hcf hpc hkind hnames hL hf fun ρ' s' aD aC x' hS' hD hC' => ?_) (fun _ s' hq => wpAny_pure (wpAny_pure hq)) fun _ _ e => e)
  show wpAny _ A (PySem.assign (.Name y py) env (.ref aD)) _ _ _
  refine wpAny_assign_Name (hst A env ρ' s' (.ref aD) (hE.mono x'.pre) hS' ⟨aD, hD, rfl⟩ _ fun ρ2 s2 _ x2 hS2 _ => ?_)
  have hC2 := get_mono x2.pre hC'
  obtain ⟨b, ob, h1, h2, h3⟩ := hS2.own _ _ hF
  rw [hC2] at h1; cases h1
  obtain ⟨m, hm, _⟩ := ns_of h2 h3
  refine ⟨m, hm, fun h' hs => ?_⟩
  obtain ⟨x3, H3⟩ := comp_drop P hS hS2 (x'.trans x2) hσ hC2 hC (by omega) hs
  exact k _ _ _ x3 H3 rfl
/-- the turns, the target in a cell -/
theorem compN_cell {elt it : Expr} {x : Str} {px : Pos} {ifs : List Expr} {w : List (Option V)} {ns : List Str} (hx : E'.scope.names.lookup x = some .cell) (hc : E'.cells.lookup x = some (S.length + 2)) (F : V → Option V) : ∀ (vs : List V) (c : Src) (acc : List V) (cv : Option V) (g : List O), ItemsOf S c vs → acc.length + vs.length ≤ 1000 → (∀ o ∈ g, ∃ xs, o = .list xs) →
    (∀ v ∈ vs, ∀ acc g, (∀ o ∈ g, ∃ xs, o = .list xs) → ∃ b g2, (∀ o ∈ g2, ∃ xs, o = .list xs) ∧ Tsts G n E' ifs (S ++ O.list acc :: O.frame ns w :: O.cell (some v) :: g) b (S ++ O.list acc :: O.frame ns w :: O.cell (some v) :: g2) ∧ (b = false → F v = none) ∧ (b = true → ∃ y, F v = some y ∧ Ev G n E' elt (S ++ O.list acc :: O.frame ns w :: O.cell (some v) :: g2) y (S ++ O.list acc :: O.frame ns w :: O.cell (some v) :: g2))) →
    ∃ cv' g', (∀ o ∈ g', ∃ xs, o = .list xs) ∧ CompN G n E' elt [⟨.Name x px, it, ifs, 0⟩] S.length 0 c (S ++ O.list acc :: O.frame ns w :: O.cell cv :: g) (S ++ O.list (acc ++ vs.filterMap F) :: O.frame ns w :: O.cell cv' :: g')
  | [], c, acc, cv, g, hi, hl, hg, h => ⟨cv, g, hg, by rw [List.filterMap_nil, List.append_nil]; exact .done rfl (hi.nil _)⟩
  | v :: vs, c, acc, cv, g, hi, hl, hg, h => by
    obtain ⟨c', hn, hi'⟩ := hi.cons
    have hst : Sto G E' x v (S ++ O.list acc :: O.frame ns w :: O.cell cv :: g) (S ++ O.list acc :: O.frame ns w :: O.cell (some v) :: g) := by
      have := Sto.cel (G := G) (E := E') (v := v) (S := S ++ O.list acc :: O.frame ns w :: O.cell cv :: g) (v₀ := cv) hx hc (top_more (i := 1))
      have e : (S ++ O.list acc :: O.frame ns w :: O.cell cv :: g).set (S.length + 2) (.cell (some v)) = S ++ O.list acc :: O.frame ns w :: O.cell (some v) :: g := set_more (i := 1)
      rwa [e] at this
    obtain ⟨b, g2, hg2, h1, h2, h3⟩ := h v (.head _) acc g hg
    cases b with
    | false =>
      obtain ⟨cv', g', hg', ih⟩ := compN_cell (it := it) (px := px) hx hc F vs c' acc (some v) g2 hi' (by simp at hl; omega) hg2 fun u hu => h u (.tail _ hu)
      refine ⟨cv', g', hg', ?_⟩
      rw [List.filterMap_cons, h2 rfl]
      exact .skip rfl (hn _) hst h1 ih
    | true =>
      obtain ⟨y, hy, hev⟩ := h3 rfl
      obtain ⟨cv', g', hg', ih⟩ := compN_cell (it := it) (px := px) hx hc F vs c' (acc ++ [y]) (some v) g2 hi' (by simp at hl ⊢; omega) hg2 fun u hu => h u (.tail _ hu)
      refine ⟨cv', g', hg', ?_⟩
      rw [List.filterMap_cons, hy]
      rw [List.append_assoc] at ih
      exact .emit rfl rfl (hn _) hst h1 hev (top_at _ _) (sizeOk (by simp at hl; omega)) (by rw [set_top]; exact ih)
end
end Mine
namespace Mine
open Builtin Builtin.Str in
theorem gives_replace_same (x y : Str) (t u : Tok) (hu : u ≠ 0) : GivesAt (fun _ => True) («str.replace» ⟨[.str x t, .str y u, .str y u], []⟩) (.val (.str x t)) := by
  show GivesAt _ (if ((occurrences x y 0 x.length (x.length + 1)).isEmpty || (y.length == 0 && y.length == 0)) = true then (do rule "str.replace.nothing"; ret (.str x t)) else
          (do let same ← isSame (.str y u) (.str y u)
              if same = true then (do rule "str.replace.old-is-new"; ret (.str x t)) else
              if tooLong (x.length + (occurrences x y 0 x.length (x.length + 1)).length * y.length) = true then unsupported "str.replace:memory" else
              retStr (glued y (partsBetween x (occurrences x y 0 x.length (x.length + 1)) y.length)))) _
  intro prog w A R s _ hq
  split
  · exact wpAny_bind (wpAny_rule (wpAny_pure hq))
  · refine wpAny_bind ?_
    show wpAny _ _ (isSame.created (y == y) u u) _ _ _
    unfold isSame.created
    have h0 : (u == 0 || u == 0) = false := by simp [hu]
    have h1 : (u == u) = true := by simp
    simp only [h0, h1, Bool.false_eq_true, if_false, if_true]
    exact wpAny_pure (wpAny_bind (wpAny_rule (wpAny_pure hq)))
section
variable {G : Glo} {n : Nat} {E : AEnv} {S : List O}
theorem Cal.replace {x mk sg : Str} {u t : Tok} (hu : u ≠ 0) (ht : t ≠ 0) (h : (mk = sg ∧ u = t) ∨ ((mk == sg) = false ∧ u ≠ t)) (hb : x.length ≤ 1000 ∧ sg.length ≤ 10) : Cal G n (.ext (.builtin "str.replace")) [.str x, .ext (.str mk u), .ext (.str sg t)] S (.str (Txt.replace x mk sg)) S := by
  rintro A ρ s g ys hA hS rfl r
  cases r with
  | cons r1 r2 => cases r2 with
    | cons r2 r3 => cases r3 with
      | cons r3 r4 => cases r4 with
        | nil =>
          obtain ⟨t0, rfl⟩ := r1
          cases r2; cases r3
          rcases h with ⟨rfl, rfl⟩ | ⟨h1, h2⟩
          · intro Q k
            refine call_givesAt PySem.F.slot_str_replace (typeIs_str _ _ _) PySem.F.entry_str_replace (PySem.F.args_str_replace_3 _ _ _) (gives_replace_same x mk t0 u hu) trivial ?_
            exact k ρ s _ Ext.refl hS (by rw [Txt.replace_self]; exact ⟨t0, rfl⟩)
          · refine Run.mk hS fun Q k => PySem.SC.replace hu ht h2 h1 ?_ fun t' tk => k ρ _ _ (Ext.same rfl) (fun hh => hS.same rfl rfl rfl hh) ⟨_, rfl⟩
            have h3 : (x.length + 1) * sg.length ≤ (x.length + 1) * 10 := Nat.mul_le_mul_left _ hb.2
            have := hb.1
            omega
end
end Mine
namespace Mine
structure LP where
  P : Addr → Obj → Prop
  sg : Str
  mark : Str
  t : Tok
  u : Tok
  two : Bool
  nx : Int
  ny : Int
  nz : Int
noncomputable def lF (two : Bool) (f3 f7 f8 f9 f10 f11 : Option V) : List (Option V) := [some (.ref 0), some (.ref 14), some (.ref 15), f3, some (.ref 19), some (.int (mostI two)), some (.ref 22), f7, f8, f9, f10, f11]
/-- the state in law's turns -/
structure LawAt (a : LA) (p : LP) (T : List O) (rows : List (Str × Str)) (f3 f7 f8 f9 f10 f11 sz : Option V) : Prop where
  frm : T[3]? = some (.frame lNs (lF p.two f3 f7 f8 f9 f10 f11))
  o0 : T[0]? = some (.obj p.P)
  c5 : T[5]? = some (.cell (some (.ext (.str p.sg p.t))))
  c6 : T[6]? = some (.cell (some (.ext (.str p.mark p.u))))
  c7 : T[7]? = some (.cell (some (.int (eachI p.two))))
  c8 : T[8]? = some (.cell (some (.ref 17)))
  c11 : T[11]? = some (.cell sz)
  t1 : T[1]? = some (.obj (Tab 62))
  t2 : T[2]? = some (.obj (Tab 69))
  l15 : T[15]? = some (.list [.int p.nx, .int p.ny, .int p.nz])
  l17 : T[17]? = some (.list (vInts (nI codesL)))
  l19 : T[19]? = some (.list (vInts (nI (lostL p.two))))
  d21 : T[21]? = some (.obj (AccD a.w.params))
  acc : ∃ xs, T[22]? = some (.acc 99 21 xs) ∧ RowsAt T xs rows
  ok : framesOk T
noncomputable def Kp3 (T T' : List O) : Prop := ∀ k o, k ≠ 3 → k ≠ 11 → k ≠ 22 → T[k]? = some o → T'[k]? = some o
theorem Kp3.trans {T T1 T2 : List O} (h : Kp3 T T1) (k : Kp3 T1 T2) : Kp3 T T2 := fun i o h1 h2 h3 e => k i o h1 h2 h3 (h i o h1 h2 h3 e)
section
variable {a : LA} {p : LP} {T T' : List O} {rows rows' : List (Str × Str)} {f3 f7 f8 f9 f10 f11 sz g3 g7 g8 g9 g10 g11 sz' : Option V}
theorem LawAt.away (h : LawAt a p T rows f3 f7 f8 f9 f10 f11 sz) {k : Nat} {x : O} (e : T[k]? = some x) (h1 : ∀ C d xs, x ≠ .acc C d xs) (h2 : ∀ ns vs, x ≠ .frame ns vs) (h3 : ∀ v, x ≠ .cell v) : k ≠ 3 ∧ k ≠ 11 ∧ k ≠ 22 := by
  obtain ⟨xs, ha, _⟩ := h.acc
  exact ⟨fun q => by rw [q, h.frm] at e; cases e; exact h2 _ _ rfl, fun q => by rw [q, h.c11] at e; cases e; exact h3 _ rfl, fun q => by rw [q, ha] at e; cases e; exact h1 _ _ _ rfl⟩
theorem LawAt.list (h : LawAt a p T rows f3 f7 f8 f9 f10 f11 sz) (kp : Kp3 T T') {k : Nat} {xs : List V} (e : T[k]? = some (.list xs)) : T'[k]? = some (.list xs) :=
  let ⟨q1, q2, q3⟩ := h.away e nofun nofun nofun; kp k _ q1 q2 q3 e
theorem LawAt.rowsKp (h : LawAt a p T rows f3 f7 f8 f9 f10 f11 sz) (kp : Kp3 T T') {xs : List V} {rs : List (Str × Str)} (hr : RowsAt T xs rs) : RowsAt T' xs rs :=
  ⟨hr.1, fun j p e => let ⟨r, h1, h2⟩ := hr.2 j p e; let ⟨q1, q2, q3⟩ := h.away h2 nofun nofun nofun; ⟨r, h1, kp r _ q1 q2 q3 h2⟩⟩
theorem LawAt.step (h : LawAt a p T rows f3 f7 f8 f9 f10 f11 sz) (kp : Kp3 T T') (hf : T'[3]? = some (.frame lNs (lF p.two g3 g7 g8 g9 g10 g11))) (hs : T'[11]? = some (.cell sz')) (ha : ∃ xs, T'[22]? = some (.acc 99 21 xs) ∧ RowsAt T' xs rows') (hk : framesOk T') : LawAt a p T' rows' g3 g7 g8 g9 g10 g11 sz' :=
  ⟨hf, kp 0 _ (by decide) (by decide) (by decide) h.o0, kp 5 _ (by decide) (by decide) (by decide) h.c5, kp 6 _ (by decide) (by decide) (by decide) h.c6, kp 7 _ (by decide) (by decide) (by decide) h.c7, kp 8 _ (by decide) (by decide) (by decide) h.c8, hs, kp 1 _ (by decide) (by decide) (by decide) h.t1, kp 2 _ (by decide) (by decide) (by decide) h.t2, kp 15 _ (by decide) (by decide) (by decide) h.l15, kp 17 _ (by decide) (by decide) (by decide) h.l17, kp 19 _ (by decide) (by decide) (by decide) h.l19, kp 21 _ (by decide) (by decide) (by decide) h.d21, ha, hk⟩
/-- a new frame -/
theorem LawAt.frame (h : LawAt a p T rows f3 f7 f8 f9 f10 f11 sz) (g3 g7 g8 g9 g10 g11 : Option V) : LawAt a p (T.set 3 (.frame lNs (lF p.two g3 g7 g8 g9 g10 g11))) rows g3 g7 g8 g9 g10 g11 sz ∧ Kp3 T (T.set 3 (.frame lNs (lF p.two g3 g7 g8 g9 g10 g11))) := by
  have kp : Kp3 T (T.set 3 (.frame lNs (lF p.two g3 g7 g8 g9 g10 g11))) := fun k x h1 _ _ e => by rw [List.getElem?_set_ne (fun q => h1 q.symm)]; exact e
  obtain ⟨xs, ha, hr⟩ := h.acc
  exact ⟨h.step kp (set_here h.frm) (keep_set h.c11 h.frm nofun) ⟨xs, keep_set ha h.frm nofun, h.rowsKp kp hr⟩ (h.ok.set fun ns vs e => by cases e; exact Nat.le_refl 12), kp⟩
/-- the sizes' cell -/
theorem LawAt.sizes (h : LawAt a p T rows f3 f7 f8 f9 f10 f11 sz) (v : Option V) : LawAt a p (T.set 11 (.cell v)) rows f3 f7 f8 f9 f10 f11 v ∧ Kp3 T (T.set 11 (.cell v)) := by
  have kp : Kp3 T (T.set 11 (.cell v)) := fun k x _ h2 _ e => by rw [List.getElem?_set_ne (fun q => h2 q.symm)]; exact e
  obtain ⟨xs, ha, hr⟩ := h.acc
  exact ⟨h.step kp (keep_set h.frm h.c11 nofun) (set_here h.c11) ⟨xs, keep_set ha h.c11 nofun, h.rowsKp kp hr⟩ (h.ok.set fun ns vs e => by cases e), kp⟩
/-- something behind -/
theorem LawAt.add (h : LawAt a p T rows f3 f7 f8 f9 f10 f11 sz) {x : O} (hx : ∀ ns vs, x ≠ .frame ns vs) : LawAt a p (T ++ [x]) rows f3 f7 f8 f9 f10 f11 sz ∧ Kp3 T (T ++ [x]) := by
  have kp : Kp3 T (T ++ [x]) := fun k x _ _ _ e => at_old e
  obtain ⟨xs, ha, hr⟩ := h.acc
  exact ⟨h.step kp (at_old h.frm) (at_old h.c11) ⟨xs, at_old ha, hr.more⟩ (h.ok.add fun ns vs e => absurd e (hx ns vs)), kp⟩
variable {n : Nat}
theorem lname {x : Str} {pos : Pos} (j : Nat) {v : V} (h : LawAt a p T rows f3 f7 f8 f9 f10 f11 sz) (hk : lE.scope.names.lookup x = some .local) (hn : lNs[j]? = some x) (hv : (lF p.two f3 f7 f8 f9 f10 f11)[j]? = some (some v)) (hd : (x == ("__debug__" : Str)) = false := by decide) : Ev (gl a) n lE (.Name x pos) T v T := Ev.loc j hk h.frm hn hv hd
theorem lsto {x : Str} (j : Nat) {v : V} (h : LawAt a p T rows f3 f7 f8 f9 f10 f11 sz) (hk : lE.scope.names.lookup x = some .local) (hn : lNs[j]? = some x) (hv : (lF p.two f3 f7 f8 f9 f10 f11).set j (some v) = lF p.two g3 g7 g8 g9 g10 g11) : Sto (gl a) lE x v T (T.set 3 (.frame lNs (lF p.two g3 g7 g8 g9 g10 g11))) := by
  have := Sto.loc (G := gl a) (E := lE) (v := v) j hk h.frm hn lNs_nd rfl
  rw [hv] at this
  exact this
end
end Mine
namespace Mine
noncomputable def tB (i : Nat) : Stmt := ((forB2 12 (bodyD (stAt 63)))[i]?).getD noSt
noncomputable def joinE : Stmt → Expr
  | .If (.Compare _ _ (.Call _ (e :: _) _ _ :: _) _) _ _ _ => e
  | _ => .Constant .none 0 ⟨0, 0, 0, 0⟩
structure TurnC (p : LP) (sz : List Nat) : Prop where
  K : SignOk p.sg
  mark : p.mark = markS p.sg
  tu : p.u ≠ 0
  tt : p.t ≠ 0
  tk : (p.mark = p.sg ∧ p.u = p.t) ∨ ((p.mark == p.sg) = false ∧ p.u ≠ p.t)
  h4 : sz.length = 4
  hs : ∀ k ∈ sz, k ≤ 4
noncomputable def rowsOf (p : LP) (sz : List Nat) : List (Str × Str) := (nI sz).map (rowOf p.sg)
noncomputable def pageF (m : Str) : V → Option V
  | .int k => some (.str (" " ++ Txt.mul m k))
  | _ => none
theorem pageF_all (m : Str) (sz : List Nat) : (vInts (nI sz)).filterMap (pageF m) = vStrs (sz.map fun k : Nat => " " ++ Txt.mul m (k : Int)) := by
  induction sz with
  | nil => rfl
  | cons k t ih =>
    show List.filterMap (pageF m) (.int (k : Int) :: vInts (nI t)) = _
    rw [List.filterMap_cons, ih]
    rfl
section
variable {a : LA} {n : Nat} {p : LP} {T : List O} {sz : List Nat} {f3 f7 f8 f9 f10 f11 : Option V} {z : Nat}
theorem turn0 (C : TurnC p sz) (h : LawAt a p T (rowsOf p sz) f3 f7 f8 f9 f10 f11 (some (.ref z))) : Ex (gl a) (n + 4) lE (tB 0) T .next (T.set 3 (.frame lNs (lF p.two f3 f7 f8 (some (.str (pageT p.mark sz))) f10 f11))) := by
  obtain ⟨xs, ha, hr⟩ := h.acc
  obtain ⟨hsm, hpos, hj⟩ := pile_small C.K C.h4 C.hs
  obtain ⟨e0, b0, b1, b2, b3, b4⟩ := esc_pile C.K C.h4 C.hs
  rw [C.mark, ← e0]
  exact Ex.assign (v := .str (escT (pileT p.sg sz))) (Ev.call (Ev.glo (v := .ref 120) (by kernel_rfl) (by kernel_rfl)) (Evs.cons (Ev.call (Ev.blt (v := .type "str") (by kernel_rfl) (by kernel_rfl) (boot_all (by decide +kernel)) (by decide)) (Evs.cons (lname 6 h (by kernel_rfl) rfl rfl) Evs.nil) (Cal.strAcc ha h.d21 h.t2 hr hsm hj h.ok) rfl) Evs.nil) (Cal.escape (Nat.le_trans b0 (by decide)) (Nat.le_trans b1 (by decide)) (Nat.le_trans b2 (by decide)) (Nat.le_trans b3 (by decide)) h.ok) (by kernel_rfl)) (lsto 9 h (by kernel_rfl) rfl rfl)
theorem turn1 (C : TurnC p sz) (hz : T[z]? = some (.list (vInts (nI sz)))) (h : LawAt a p T (rowsOf p sz) f3 f7 f8 (some (.str (pageT p.mark sz))) f10 f11 (some (.ref z))) : ∃ l, Ex (gl a) (n + 4) lE (tB 1) T .next (T ++ [.list l]) := by
  refine ⟨vStrs (sz.map fun k : Nat => " " ++ Txt.mul p.mark (k : Int)), ?_⟩
  have hlen : (vInts (nI sz)).length = 4 := by rw [nI_len, C.h4]
  have hm4 : ∀ k, k ∈ sz → (Txt.mul p.mark (k : Int)).length ≤ 100 := fun k hk => by
    rw [← tl_len, tl_mul p.mark (C.hs k hk), rep_len, C.mark]
    have h1 := C.hs k hk
    have h2 := C.K.len4
    have := Nat.mul_le_mul h1 h2
    omega
  have hcomp : Ev (gl a) (n + 4) lE (joinE (tB 1)) T (.ref T.length) (T ++ [.list (vStrs (sz.map fun k : Nat => " " ++ Txt.mul p.mark (k : Int)))]) := by
    rw [← pageF_all]
    refine Ev.compAll (S1 := T) (c := .lst z 0) (cs := [(("mark" : Str), 6)]) [(".0" : Str), ("size" : Str)] 1 (pageF p.mark) (Iti.of (Ev.cel (v := .ref z) (by kernel_rfl) (by rfl) h.c11) (Itr.list hz)) ⟨_, hz, rfl⟩ h.ok id (Nat.le_refl _) (fun v hv y hy => ?_) (by rw [hlen]; decide) (by kernel_rfl) rfl (by decide +kernel) (fun v hv acc w hw hj => ?_) (by rfl) (by decide +kernel) (by kernel_rfl) (by decide +kernel)
    · cases v <;> cases hy
      trivial
    · obtain ⟨k', hk', rfl⟩ := List.mem_map.mp hv
      obtain ⟨k, hk, rfl⟩ := List.mem_map.mp hk'
      have hk4 := C.hs k hk
      have h100 := hm4 k hk
      refine Turn.all rfl ?_
      have h1sp : (" " : Str).length = 1 := by decide +kernel
      have hml : p.mark.length ≤ 5 := by rw [← tl_len, C.mark]; exact C.K.len4
      show Ev _ _ _ _ _ (.str (" " ++ Txt.mul p.mark (k : Int))) _
      exact Ev.bin Ev.str (Ev.bin (a := .str p.mark) (Ev.norm (v := .ext (.str p.mark p.u)) (Ev.cel (by kernel_rfl) (by rfl) (at_old h.c6))) (Ev.loc (v := .int (k : Int)) 1 (by kernel_rfl) (top_more (i := 0)) rfl hj) (Bop.mulStr (mulOk_of ⟨by omega, by omega, by omega⟩))) (Bop.addStr (sizeOk (by omega)))
  have hne : Cop (gl a) (n + 4) .NotEq (.str (pageT p.mark sz)) (.str (pageT p.mark sz)) (T ++ [.list (vStrs (sz.map fun k : Nat => " " ++ Txt.mul p.mark (k : Int)))]) (.bool (pageT p.mark sz != pageT p.mark sz)) _ := Cop.nes
  rw [show (pageT p.mark sz != pageT p.mark sz) = false by simp] at hne
  have hj := page_joinOk C.K C.h4 C.hs
  rw [← C.mark] at hj
  exact Ex.if_f (Tst.cmp (lname 9 h (by kernel_rfl) rfl rfl) (Ev.meth _ Ev.str Mth.join (Evs.cons hcomp Evs.nil) (Cal.join (l := sz.map fun k : Nat => " " ++ Txt.mul p.mark (k : Int)) (by simp) hj) rfl) hne) Exs.nil
theorem turn2 (C : TurnC p sz) (hz : T[z]? = some (.list (vInts (nI sz)))) (h : LawAt a p T (rowsOf p sz) f3 f7 f8 f9 f10 f11 (some (.ref z))) : Ex (gl a) (n + 4) lE (tB 2) T .next T := by
  obtain ⟨xs, ha, hr⟩ := h.acc
  obtain ⟨hsm, hpos, hj⟩ := pile_small C.K C.h4 C.hs
  have hsp : Txt.isspace (Txt.join "" (accTexts (rowsOf p sz))) = (sz.sum == 0) := pile_isspace C.K C.h4 C.hs
  have hsum : ((nI sz).sum == 0) = (sz.sum == 0) := by
    rw [nI_sum, Bool.eq_iff_iff]; simp
  have hne : Cop (gl a) (n + 4) .IsNot (.bool (Txt.isspace (Txt.join "" (accTexts (rowsOf p sz))))) (.bool ((nI sz).sum == 0)) T (.bool (Txt.isspace (Txt.join "" (accTexts (rowsOf p sz))) != ((nI sz).sum == 0))) T := Cop.isnot
  rw [show (Txt.isspace (Txt.join "" (accTexts (rowsOf p sz))) != ((nI sz).sum == 0)) = false by rw [hsp, hsum]; simp] at hne
  exact Ex.if_f (Tst.cmp (Ev.meth0 _ (lname 6 h (by kernel_rfl) rfl rfl) (Mth.acc (f := .ref 89) (t := .type "function") ha h.d21 (by kernel_rfl) (by kernel_rfl) (by decide) (by decide +kernel)) (Cal.onlyws ha h.d21 h.t1 h.t2 hr hsm hpos hj h.ok) (by kernel_rfl)) (Ev.cmp (Ev.call (Ev.blt (v := .builtin "sum") (by kernel_rfl) (by kernel_rfl) (boot_all (by decide +kernel)) (by decide)) (Evs.cons (Ev.cel (v := .ref z) (by kernel_rfl) (by rfl) h.c11) Evs.nil) (Cal.sum hz) rfl) Ev.int Cop.eqi) hne) Exs.nil
end
end Mine
namespace Mine
noncomputable def compOf : Stmt → Expr
  | .Assign _ e _ => e
  | _ => .Constant .none 0 ⟨0, 0, 0, 0⟩
noncomputable def compScope (s : Stmt) : Scope := match compOf s with
  | .ListComp _ _ sc _ => sc
  | _ => { kind := .function, names := [], isGenerator := false, isCoroutine := false, more := [] }
noncomputable def compElt (s : Stmt) : Expr := match compOf s with
  | .ListComp e _ _ _ => e
  | e => e
noncomputable def compIter (s : Stmt) : Expr := match compOf s with
  | .ListComp _ (g :: _) _ _ => g.iter
  | e => e
noncomputable def compIfs (s : Stmt) : List Expr := match compOf s with
  | .ListComp _ (g :: _) _ _ => g.ifs
  | _ => []
noncomputable def compPx (s : Stmt) : Pos := match compOf s with
  | .ListComp _ (⟨.Name _ px, _, _, _⟩ :: _) _ _ => px
  | _ => ⟨0, 0, 0, 0⟩
noncomputable def sumArg : List Expr → Expr
  | .Compare (.BinOp (.Call _ (e :: _) _ _) _ _ _) _ _ _ :: _ => e
  | _ => .Constant .none 0 ⟨0, 0, 0, 0⟩
noncomputable def bitI (k p : Int) : Int := Builtin.bitAnd (k.fdiv (2 ^ p.toNat)) 1
theorem bit_at : ∀ {k p : Nat}, k ≤ 4 → p < 3 → bitI (k : Int) (p : Int) = ((k / 2 ^ p % 2 : Nat) : Int) := by
  have h : ∀ k, k < 5 → ∀ p, p < 3 → bitI ((k : Nat) : Int) ((p : Nat) : Int) = ((k / 2 ^ p % 2 : Nat) : Int) := by decide +kernel
  exact fun {k p} hk hp => h k (by omega) p hp
noncomputable def bitF (p : Int) : V → Option V
  | .int k => some (.int (bitI k p))
  | _ => none
noncomputable def bitsI (sz : List Nat) (p : Int) : List Int := sz.map fun k : Nat => bitI (k : Int) p
theorem bitF_all (sz : List Nat) (p : Int) : (vInts (nI sz)).filterMap (bitF p) = vInts (bitsI sz p) := by
  induction sz with
  | nil => rfl
  | cons k t ih =>
    show List.filterMap (bitF p) (.int (k : Int) :: vInts (nI t)) = _
    rw [List.filterMap_cons, ih]
    rfl
theorem bits_sum {sz : List Nat} {p : Nat} (hs : ∀ k ∈ sz, k ≤ 4) (hp : p < 3) : (bitsI sz (p : Int)).sum = (((sz.map fun k => k / 2 ^ p % 2).sum : Nat) : Int) := by
  induction sz with
  | nil => rfl
  | cons k t ih =>
    have := ih fun j hj => hs j (.tail _ hj)
    simp only [bitsI, List.map_cons, List.sum_cons] at this ⊢
    rw [this, bit_at (hs k (.head _)) hp]
    omega
noncomputable def oddC (two : Bool) (sz : List Nat) (p : Int) : Bool := (bitsI sz p).sum.fmod (eachI two) != 0
noncomputable def oddF (two : Bool) (sz : List Nat) : V → Option V
  | .int p => if oddC two sz p = true then some (.int p) else none
  | _ => none
theorem oddC_at {two : Bool} {sz : List Nat} {p : Nat} (hs : ∀ k ∈ sz, k ≤ 4) (hp : p < 3) : oddC two sz (p : Int) = ((sz.map fun k => k / 2 ^ p % 2).sum % (bif two then 3 else 2) != 0) := by
  unfold oddC
  rw [bits_sum hs hp]
  cases two with
  | true =>
    show ((((sz.map fun k => k / 2 ^ p % 2).sum : Nat) : Int).fmod 3 != 0) = ((sz.map fun k => k / 2 ^ p % 2).sum % 3 != 0)
    rw [Int.fmod_eq_emod_of_nonneg _ (by decide), Bool.eq_iff_iff, bne_iff_ne, bne_iff_ne]
    omega
  | false =>
    show ((((sz.map fun k => k / 2 ^ p % 2).sum : Nat) : Int).fmod 2 != 0) = ((sz.map fun k => k / 2 ^ p % 2).sum % 2 != 0)
    rw [Int.fmod_eq_emod_of_nonneg _ (by decide), Bool.eq_iff_iff, bne_iff_ne, bne_iff_ne]
    omega
theorem oddF_all {two : Bool} {sz : List Nat} (hs : ∀ k ∈ sz, k ≤ 4) : ((List.range 3).map fun j : Nat => V.int ((0 : Int) + j)).filterMap (oddF two sz) = vInts (nI (oddN two sz)) := by
  have h : ∀ l : List Nat, (∀ p ∈ l, p < 3) → (l.map fun j : Nat => V.int ((0 : Int) + j)).filterMap (oddF two sz) = vInts (nI (l.filter fun p => (sz.map fun k => k / 2 ^ p % 2).sum % (bif two then 3 else 2) != 0)) := by
    intro l
    induction l with
    | nil => intro _; rfl
    | cons k t ih =>
      intro hl
      rw [List.map_cons, List.filterMap_cons, ih fun p hp => hl p (.tail _ hp), List.filter_cons]
      have e : oddF two sz (V.int ((0 : Int) + k)) = if oddC two sz (k : Int) = true then some (.int k) else none := by
        show (if oddC two sz ((0 : Int) + k) = true then some (V.int ((0 : Int) + k)) else none) = _
        rw [Int.zero_add]
      rw [e, ← oddC_at hs (hl k (.head _))]
      cases oddC two sz (k : Int) with
      | true => rfl
      | false => rfl
  exact h _ fun p hp => List.mem_range.mp hp
section
variable {a : LA} {n : Nat} {p : LP} {T : List O} {sz : List Nat} {f3 f7 f8 f9 f10 f11 : Option V} {z : Nat}
theorem each_ne (two : Bool) : eachI two ≠ 0 := by cases two <;> decide
theorem framesOk.lists {S g : List O} (h : framesOk S) (hg : ∀ o ∈ g, ∃ xs, o = .list xs) : framesOk (S ++ g) := fun ns vs hm => by
  rcases List.mem_append.mp hm with q | q
  · exact h ns vs q
  · obtain ⟨xs, e⟩ := hg _ q; cases e
theorem turn3 (C : TurnC p sz) (hz : T[z]? = some (.list (vInts (nI sz)))) (h : LawAt a p T (rowsOf p sz) f3 f7 f8 f9 f10 f11 (some (.ref z))) : Ex (gl a) (n + 4) lE (tB 3) T .next (T.set 3 (.frame lNs (lF p.two f3 f7 f8 f9 (some (.ref T.length)) f11)) ++ [.list (vInts (nI (oddN p.two sz)))]) := by
  refine Ex.closed h.ok fun hc => ?_
  have hlen : (vInts (nI sz)).length = 4 := by rw [nI_len, C.h4]
  have hT := (h.frame f3 f7 f8 f9 (some (.ref T.length)) f11).1.ok
  have hturn : ∀ v ∈ (List.range 3).map fun j : Nat => V.int ((0 : Int) + j), ∀ (acc : List V) (g : List O), (∀ o ∈ g, ∃ xs, o = .list xs) → ∃ b g2, (∀ o ∈ g2, ∃ xs, o = .list xs) ∧ Tsts (gl a) (n + 4) ⟨relA (compScope (tB 3)) lE.scope, T.length + 1, [(("place" : Str), T.length + 2), (("sizes" : Str), 11), (("each" : Str), 7)]⟩ (compIfs (tB 3)) (T ++ O.list acc :: O.frame [(".0" : Str)] [none] :: O.cell (some v) :: g) b (T ++ O.list acc :: O.frame [(".0" : Str)] [none] :: O.cell (some v) :: g2) ∧ (b = false → oddF p.two sz v = none) ∧
      (b = true → ∃ y, oddF p.two sz v = some y ∧ Ev (gl a) (n + 4) ⟨relA (compScope (tB 3)) lE.scope, T.length + 1, [(("place" : Str), T.length + 2), (("sizes" : Str), 11), (("each" : Str), 7)]⟩ (compElt (tB 3)) (T ++ O.list acc :: O.frame [(".0" : Str)] [none] :: O.cell (some v) :: g2) y (T ++ O.list acc :: O.frame [(".0" : Str)] [none] :: O.cell (some v) :: g2)) := by
    intro v hv acc g hg
    obtain ⟨q, hq, rfl⟩ := List.mem_map.mp hv
    have e0 : ((0 : Int) + (q : Int)) = (q : Int) := by omega
    rw [e0]
    have hfr : framesOk (T ++ O.list acc :: O.frame [(".0" : Str)] [none] :: O.cell (some (.int (q : Int))) :: g) := by
      rw [show T ++ O.list acc :: O.frame [(".0" : Str)] [none] :: O.cell (some (.int (q : Int))) :: g = T ++ [O.list acc] ++ [O.frame [(".0" : Str)] [none]] ++ [O.cell (some (.int (q : Int)))] ++ g by simp]
      exact (((h.ok.add fun ns vs e => by cases e).add fun ns vs e => by cases e; exact Nat.le_refl 1).add fun ns vs e => by cases e).lists hg
    have hin : Ev (gl a) (n + 4) ⟨relA (compScope (tB 3)) lE.scope, T.length + 1, [(("place" : Str), T.length + 2), (("sizes" : Str), 11), (("each" : Str), 7)]⟩ (sumArg (compIfs (tB 3))) (T ++ O.list acc :: O.frame [(".0" : Str)] [none] :: O.cell (some (.int (q : Int))) :: g) (.ref (T ++ O.list acc :: O.frame [(".0" : Str)] [none] :: O.cell (some (.int (q : Int))) :: g).length) (T ++ O.list acc :: O.frame [(".0" : Str)] [none] :: O.cell (some (.int (q : Int))) :: g ++ [.list (vInts (bitsI sz (q : Int)))]) := by
      rw [← bitF_all]
      refine Ev.compAll (S1 := T ++ O.list acc :: O.frame [(".0" : Str)] [none] :: O.cell (some (.int (q : Int))) :: g) (c := .lst z 0) (cs := [(("place" : Str), T.length + 2)]) [(".0" : Str), ("size" : Str)] 1 (bitF (q : Int)) (Iti.of (Ev.cel (v := .ref z) (by kernel_rfl) (by rfl) (at_old h.c11)) (Itr.list (at_old hz))) ⟨_, at_old hz, rfl⟩ hfr id (Nat.le_refl _) (fun v hv y hy => ?_) (by rw [hlen]; decide) (by kernel_rfl) rfl (by decide +kernel) (fun v hv acc2 w hw hj => ?_) (by rfl) (by decide +kernel) (by kernel_rfl) (by decide +kernel)
      · cases v <;> cases hy
        trivial
      · obtain ⟨k', hk', rfl⟩ := List.mem_map.mp hv
        obtain ⟨k, hk, rfl⟩ := List.mem_map.mp hk'
        refine Turn.all rfl ?_
        show Ev _ _ _ _ _ (.int (bitI (k : Int) (q : Int))) _
        exact Ev.bin (Ev.bin (Ev.loc (v := .int (k : Int)) 1 (by kernel_rfl) (top_more (i := 0)) rfl hj) (Ev.cel (v := .int (q : Int)) (by kernel_rfl) (by rfl) (at_old (top_more (i := 1)))) (Bop.rsh (by omega))) Ev.int Bop.band
    have hcop : Cop (gl a) (n + 4) .NotEq (.int ((bitsI sz (q : Int)).sum.fmod (eachI p.two))) (.int 0) (T ++ O.list acc :: O.frame [(".0" : Str)] [none] :: O.cell (some (.int (q : Int))) :: (g ++ [.list (vInts (bitsI sz (q : Int)))])) (.bool (oddC p.two sz (q : Int))) _ := Cop.nei
    refine ⟨oddC p.two sz (q : Int), g ++ [.list (vInts (bitsI sz (q : Int)))], fun o ho => ?_, .one ?_, fun hb => ?_, fun hb => ?_⟩
    · rcases List.mem_append.mp ho with r | r
      · exact hg o r
      · exact ⟨_, List.mem_singleton.mp r⟩
    · exact Tst.cmp ((Ev.bin (Ev.call (Ev.blt (v := .builtin "sum") (by kernel_rfl) (by kernel_rfl) (boot_all (by decide +kernel)) (by decide)) (Evs.cons hin Evs.nil) (Cal.sum List.getElem?_concat_length) rfl) (Ev.cel (v := .int (eachI p.two)) (by kernel_rfl) (by rfl) (at_old (at_old h.c7))) (Bop.mod (each_ne _))).to rfl (by simp)) Ev.int hcop
    · show (if oddC p.two sz (q : Int) = true then some (V.int (q : Int)) else none) = none
      rw [hb]; rfl
    · refine ⟨.int (q : Int), ?_, Ev.cel (by kernel_rfl) (by rfl) (top_more (i := 1))⟩
      show (if oddC p.two sz (q : Int) = true then some (V.int (q : Int)) else none) = _
      rw [if_pos hb]
  obtain ⟨cv', g', hg', hL⟩ := compN_cell (it := compIter (tB 3)) (px := compPx (tB 3)) (w := [none]) (ns := [(".0" : Str)]) (x := ("place" : Str)) (by kernel_rfl) (by rfl) (oddF p.two sz) ((List.range 3).map fun j : Nat => V.int ((0 : Int) + j)) (.rng 0 3) [] none [] rfl (by decide) nofun hturn
  have hst : Sto (gl a) lE ("odd" : Str) (.ref T.length) (T ++ O.list (vInts (nI (oddN p.two sz))) :: O.frame [(".0" : Str)] [none] :: O.cell cv' :: g') (T.set 3 (.frame lNs (lF p.two f3 f7 f8 f9 (some (.ref T.length)) f11)) ++ O.list (vInts (nI (oddN p.two sz))) :: O.frame [(".0" : Str)] [none] :: O.cell cv' :: g') := by
    have := Sto.loc (G := gl a) (E := lE) (v := .ref T.length) (S := T ++ O.list (vInts (nI (oddN p.two sz))) :: O.frame [(".0" : Str)] [none] :: O.cell cv' :: g') (x := ("odd" : Str)) 10 (by kernel_rfl) (at_old h.frm) (by rfl) lNs_nd rfl
    have hset : (T ++ O.list (vInts (nI (oddN p.two sz))) :: O.frame [(".0" : Str)] [none] :: O.cell cv' :: g').set lE.fid (O.frame lNs ((lF p.two f3 f7 f8 f9 f10 f11).set 10 (some (V.ref T.length)))) = T.set 3 (.frame lNs (lF p.two f3 f7 f8 f9 (some (.ref T.length)) f11)) ++ O.list (vInts (nI (oddN p.two sz))) :: O.frame [(".0" : Str)] [none] :: O.cell cv' :: g' := List.set_append_left _ _ (List.getElem?_eq_some_iff.mp h.frm).1
    rwa [hset] at this
  rw [List.nil_append, oddF_all C.hs] at hL
  have hT2 : Mine.closed (T.set 3 (.frame lNs (lF p.two f3 f7 f8 f9 (some (.ref T.length)) f11)) ++ [O.list (vInts (nI (oddN p.two sz)))]) := by
    intro o ho
    rw [List.length_append, List.length_set]
    rcases List.mem_append.mp ho with q | q
    · rcases List.mem_or_eq_of_mem_set q with q | q
      · exact okO_mono (Nat.le_add_right _ _) (hc o q)
      · rw [q]
        intro u hu z hz
        have hu' : u ∈ (lF p.two f3 f7 f8 f9 f10 f11).set 10 (some (.ref T.length)) := hu
        rcases List.mem_or_eq_of_mem_set hu' with hu | hu
        · exact okV_mono (Nat.le_add_right _ _) (hc _ (List.mem_of_getElem? h.frm) u hu z hz)
        · rw [hu] at hz; cases hz; exact Nat.lt_succ_self T.length
    · rw [List.mem_singleton.mp q]
      intro y hy
      obtain ⟨v, hv, rfl⟩ := List.mem_map.mp hy
      trivial
  refine Ex.assignComp1 [(".0" : Str)] (S1 := T) (σ := List.range (T.length + 1)) (ns' := [(".0" : Str)]) (vs' := [none]) (Iti.range1 (Ev.blt (by kernel_rfl) (by kernel_rfl) (boot_all (by decide +kernel)) (by decide)) Ev.int (b := ((3 : Nat) : Int)) (range_small (by decide)) range_size) hL hst ?_ ?_ (fun i hi => List.getElem?_range (by omega)) (by simp) (Nat.le_refl _) (fun env he => by rw [swaps_comp he]; kernel_rfl) (by kernel_rfl) (by intro _ _; rfl) (by intro _; kernel_rfl) (by kernel_rfl) (by decide +kernel) (by intro _ _; rfl)
  · have e := top_more (S := T.set 3 (.frame lNs (lF p.two f3 f7 f8 f9 (some (.ref T.length)) f11))) (o := O.list (vInts (nI (oddN p.two sz)))) (l := O.frame [(".0" : Str)] [none] :: O.cell cv' :: g') (i := 0)
    rw [List.length_set] at e
    exact e
  · have := part_top (S1 := T.set 3 (.frame lNs (lF p.two f3 f7 f8 f9 (some (.ref T.length)) f11)) ++ O.list (vInts (nI (oddN p.two sz))) :: O.frame [(".0" : Str)] [none] :: O.cell cv' :: g') (T := T.set 3 (.frame lNs (lF p.two f3 f7 f8 f9 (some (.ref T.length)) f11)) ++ [O.list (vInts (nI (oddN p.two sz)))]) take_one (by simp) hT2
    rwa [List.length_append, List.length_set] at this
end
end Mine
namespace Mine
noncomputable def lenF : V → Option V
  | .str x => some (.int x.length)
  | _ => none
theorem lenF_all {sg : Str} (K : SignOk sg) {sz : List Nat} (hs : ∀ k ∈ sz, k ≤ 4) : (vStrs (sz.map fun k : Nat => Txt.mul sg (k : Int))).filterMap lenF = vInts (nI sz) := by
  induction sz with
  | nil => rfl
  | cons k t ih =>
    show List.filterMap lenF (.str (Txt.mul sg (k : Int)) :: vStrs (t.map fun k : Nat => Txt.mul sg (k : Int))) = _
    rw [List.filterMap_cons, ih fun j hj => hs j (.tail _ hj)]
    have e : (Txt.mul sg (k : Int)).length = k := by
      rw [← tl_len, tl_mul sg (hs k (.head _)), rep_len, K.one]
      simp
    show V.int ((Txt.mul sg (k : Int)).length : Int) :: _ = _
    rw [e]
    rfl
theorem kind_pos (x : Str) : 1 ≤ Builtin.Str.strKind x := by
  unfold Builtin.Str.strKind
  split
  · decide
  · split <;> decide
section
variable {a : LA} {n : Nat} {p : LP} {T : List O} {sz : List Nat} {f3 f7 f8 f9 f10 f11 : Option V} {z : Nat}
theorem turn4 (C : TurnC p sz) {o : Nat} {b : Bool} (hb : b = !isLost p.two sz) (ho : T[o]? = some (.list (vInts (nI (oddN p.two sz))))) (h : LawAt a p T (rowsOf p sz) f3 (some (.bool b)) f8 f9 (some (.ref o)) f11 (some (.ref z))) : Ex (gl a) (n + 4) lE (tB 4) T .next (T ++ [.list []]) := by
  have hne : Cop (gl a) (n + 4) .NotEq (.bool b) (.bool (!(vInts (nI (oddN p.two sz))).isEmpty)) (T ++ [.list []]) (.bool (b != !(vInts (nI (oddN p.two sz))).isEmpty)) _ := Cop.neb
  have e : (vInts (nI (oddN p.two sz))).isEmpty = isLost p.two sz := by
    rw [← odd_lost C.h4 C.hs]
    cases oddN p.two sz <;> rfl
  rw [e, hb, show ((!isLost p.two sz) != !isLost p.two sz) = false by simp] at hne
  rw [← e] at hne
  have hl := Cop.neList (G := gl a) (n := n + 4) (S := T ++ [.list []]) (i := o) (j := T.length) (at_old ho) List.getElem?_concat_length
  exact Ex.if_f (Tst.cmp (lname 7 h (by kernel_rfl) rfl rfl) (Ev.cmp (lname 10 h (by kernel_rfl) rfl rfl) (Ev.list Evs.nil (by decide)) hl) (by rw [e]; rw [e] at hne; rw [hb]; exact hne)) Exs.nil
theorem turn5 (hz : T[z]? = some (.list (vInts (nI sz)))) (h : LawAt a p T (rowsOf p sz) f3 f7 f8 f9 f10 f11 (some (.ref z))) : Ex (gl a) (n + 4) lE (tB 5) T (if sz.sum = 0 then .ret (.bool true) else .next) T := by
  have hsum : Cop (gl a) (n + 4) .Eq (.int (nI sz).sum) (.int 0) T (.bool ((nI sz).sum == 0)) T := Cop.eqi
  by_cases e : sz.sum = 0
  · rw [if_pos e]
    rw [show ((nI sz).sum == 0) = true by rw [nI_sum, e]; rfl] at hsum
    exact Ex.if_t (Tst.cmp (Ev.call (Ev.blt (v := .builtin "sum") (by kernel_rfl) (by kernel_rfl) (boot_all (by decide +kernel)) (by decide)) (Evs.cons (Ev.cel (v := .ref z) (by kernel_rfl) (by rfl) h.c11) Evs.nil) (Cal.sum hz) rfl) Ev.int hsum) (Exs.stop (Ex.ret Ev.bool))
  · rw [if_neg e]
    rw [show ((nI sz).sum == 0) = false by rw [nI_sum, beq_eq_false_iff_ne]; omega] at hsum
    exact Ex.if_f (Tst.cmp (Ev.call (Ev.blt (v := .builtin "sum") (by kernel_rfl) (by kernel_rfl) (boot_all (by decide +kernel)) (by decide)) (Evs.cons (Ev.cel (v := .ref z) (by kernel_rfl) (by rfl) h.c11) Evs.nil) (Cal.sum hz) rfl) Ev.int hsum) Exs.nil
theorem turn6 (C : TurnC p sz) (h : LawAt a p T (rowsOf p sz) f3 f7 f8 (some (.str (pageT p.mark sz))) f10 f11 (some (.ref z))) : ∃ l l2, Ex (gl a) (n + 4) lE (tB 6) T .next ((T ++ [O.list l] ++ [O.list l2]).set 3 (.frame lNs (lF p.two f3 f7 f8 (some (.str (pageT p.mark sz))) f10 (some (.ref (T.length + 2))))) ++ [.list (vInts (nI sz))]) := by
  refine ⟨vStrs (("" : Str) :: sz.map fun k : Nat => Txt.mul p.sg (k : Int)), vStrs (sz.map fun k : Nat => Txt.mul p.sg (k : Int)), ?_⟩
  obtain ⟨e0, b0, b1, b2, b3, b4⟩ := esc_pile C.K C.h4 C.hs
  have hlen : (vStrs (sz.map fun k : Nat => Txt.mul p.sg (k : Int))).length = 4 := by simp [vStrs, C.h4]
  have hm4 : ∀ k, k ∈ sz → (Txt.mul p.sg (k : Int)).length ≤ 4 := fun k hk => by
    rw [← tl_len, tl_mul p.sg (C.hs k hk), rep_len, C.K.one]
    have := C.hs k hk
    simpa using this
  rw [← lenF_all C.K C.hs]
  have hpage : (pageT p.mark sz).length ≤ 1000 := by rw [C.mark]; omega
  have hcall : Cal (gl a) (n + 4) (.ext (.builtin "str.replace")) [.str (pageT p.mark sz), .ext (.str p.mark p.u), .ext (.str p.sg p.t)] T (.str (pileT p.sg sz)) T := by
    have := Cal.replace (G := gl a) (n := n + 4) (S := T) (x := pageT p.mark sz) C.tu C.tt C.tk ⟨hpage, by rw [← tl_len, C.K.one]; simp⟩
    have e : Txt.replace (pageT p.mark sz) p.mark p.sg = pileT p.sg sz := by rw [C.mark]; exact back_page C.K C.hs
    rwa [e] at this
  have hp1 : 1 ≤ (pileT p.sg sz).length := by
    obtain ⟨x, y, z, w, rfl⟩ := four C.h4
    rw [← tl_len, tl_pile p.sg C.hs]
    simp [pageL]
  have hsplit : Cal (gl a) (n + 4) (.ext (.builtin "str.split")) [.str (pileT p.sg sz), .str " "] T (.ref T.length) (T ++ [O.list (vStrs (("" : Str) :: sz.map fun k : Nat => Txt.mul p.sg (k : Int)))]) := by
    refine Cal.split ?_ (by decide +kernel) (occ_pile C.K C.h4 C.hs) (sizeOk (by omega)) (parts_pile C.K C.hs) (sizeOk (by simp [C.h4]))
    rw [show Builtin.Str.strKind " " = 1 by decide +kernel, Bool.or_eq_false_iff, decide_eq_false_iff_not, decide_eq_false_iff_not]
    have h1 : (" " : Str).length = 1 := by decide +kernel
    have := kind_pos (pileT p.sg sz)
    omega
  have hcut : cutOf (vStrs (("" : Str) :: sz.map fun k : Nat => Txt.mul p.sg (k : Int))) (some 1) none = vStrs (sz.map fun k : Nat => Txt.mul p.sg (k : Int)) := cut_from (k := 1) (by simp [vStrs])
  have hget : (T ++ [O.list (vStrs (("" : Str) :: sz.map fun k : Nat => Txt.mul p.sg (k : Int)))] ++ [O.list (vStrs (sz.map fun k : Nat => Txt.mul p.sg (k : Int)))])[T.length + 1]? = some (O.list (vStrs (sz.map fun k : Nat => Txt.mul p.sg (k : Int)))) := by
    rw [List.append_assoc]; exact top_more (i := 0)
  have hit : Iti (gl a) (n + 4) lE (compIter (tB 6)) T (.lst (T.length + 1) 0) (T ++ [O.list (vStrs (("" : Str) :: sz.map fun k : Nat => Txt.mul p.sg (k : Int)))] ++ [O.list (vStrs (sz.map fun k : Nat => Txt.mul p.sg (k : Int)))]) := by
    refine Iti.of (v := .ref (T.length + 1)) ?_ (Itr.list hget)
    exact Ev.to (Ev.slice (Ev.meth _ (Ev.meth _ (lname 9 h (by kernel_rfl) rfl rfl) Mth.replace (Evs.cons (Ev.cel (v := .ext (.str p.mark p.u)) (by kernel_rfl) (by rfl) h.c6) (Evs.cons (Ev.cel (v := .ext (.str p.sg p.t)) (by kernel_rfl) (by rfl) h.c5) Evs.nil)) hcall rfl) Mth.split (Evs.cons Ev.str Evs.nil) hsplit rfl) (.some Ev.int) .none List.getElem?_concat_length (sizeOk (by simp [vStrs, C.h4]))) (by simp) (by rw [hcut])
  refine Ex.to (Ex.assignCompAll (S1 := T ++ [O.list (vStrs (("" : Str) :: sz.map fun k : Nat => Txt.mul p.sg (k : Int)))] ++ [O.list (vStrs (sz.map fun k : Nat => Txt.mul p.sg (k : Int)))]) (c := .lst (T.length + 1) 0) (cs := []) (vs := vStrs (sz.map fun k : Nat => Txt.mul p.sg (k : Int))) (fns := lNs) (fvs := lF p.two f3 f7 f8 (some (.str (pageT p.mark sz))) f10 f11) 11 [(".0" : Str), ("row" : Str)] 1 lenF hit ⟨_, hget, rfl⟩ h.ok (fun hc => ?_) (by simp) (fun v hv y hy => ?_) (by rw [hlen]; decide) (by kernel_rfl) rfl (by decide +kernel) (fun v hv acc w hw hj => ?_) (at_old (at_old h.frm)) (by kernel_rfl) rfl lNs_nd rfl (fun env he => by rw [swaps_comp he]; kernel_rfl) (by rfl) (by decide +kernel) (by kernel_rfl) (by decide +kernel)) ?_
  · have hv : ∀ m (l : List Str), ∀ y ∈ vStrs l, okV m y := fun m l y hy => by
      obtain ⟨x, _, rfl⟩ := List.mem_map.mp hy
      trivial
    exact Mine.closed.add (Mine.closed.add hc (o := O.list _) (hv _ _)) (o := O.list _) (hv _ _)
  · cases v <;> cases hy
    trivial
  · obtain ⟨x, hx, rfl⟩ := List.mem_map.mp hv
    obtain ⟨k, hk, rfl⟩ := List.mem_map.mp hx
    refine Turn.all rfl ?_
    exact Ev.call (Ev.blt (v := .builtin "len") (by kernel_rfl) (by kernel_rfl) (boot_all (by decide +kernel)) (by decide)) (Evs.cons (Ev.loc (v := .str (Txt.mul p.sg (k : Int))) 1 (by kernel_rfl) (top_more (i := 0)) rfl hj) Evs.nil) (Cal.lenStr (by have := hm4 k hk; omega)) rfl
  · simp
    rfl
end
end Mine
namespace Mine
section
variable {a : LA} {n : Nat} {p : LP} {T : List O} {sz : List Nat} {f3 f7 f8 f9 f10 f11 : Option V} {z w : Nat}
theorem each_three (two : Bool) : (eachI two == 3) = two := by cases two <;> decide
theorem most_one (two : Bool) : two = decide (1 < mostI two) := by cases two <;> decide
theorem at_turn (i : Nat) : ((i : Int).fdiv 2).fmod 3 = ((i / 2 % 3 : Nat) : Int) := by
  rw [Int.fmod_eq_emod_of_nonneg _ (by decide), Int.fdiv_eq_ediv_of_nonneg _ (by decide)]
  omega
theorem turn7 (C : TurnC p sz) {b : Bool} {i : Nat} (hb : b = !isLost p.two sz) (hp : sz.sum ≠ 0) (hw : T[w]? = some (.list (vInts (nI sz)))) (h : LawAt a p T (rowsOf p sz) f3 (some (.bool b)) (some (.int i)) f9 f10 (some (.ref w)) (some (.ref z))) : ∃ m, MoveOf sz p.two m ∧ (b = true → isLost p.two m = true) ∧ Ex (gl a) (n + 4) lE (tB 7) T .next ((T ++ [O.list (vInts (nI m))]).set 11 (.cell (some (.ref T.length)))) := by
  have hsto : ∀ m : List Nat, Sto (gl a) lE ("sizes" : Str) (.ref T.length) (T ++ [O.list (vInts (nI m))]) ((T ++ [O.list (vInts (nI m))]).set 11 (.cell (some (.ref T.length)))) := fun m => Sto.cel (G := gl a) (E := lE) (v := .ref T.length) (by kernel_rfl) (by rfl) (at_old h.c11)
  cases hB : b with
  | true =>
    rw [hB] at hb h
    have hl : isLost p.two sz = false := by cases q : isLost p.two sz <;> simp_all
    have A : AnsC T w 17 19 sz codesL (lostL p.two) := ⟨hw, h.l17, h.l19, C.h4, rfl, C.hs⟩
    obtain ⟨m, h1, h2, h3⟩ := Cal.answer (a := a) (n := n + 3) A (mo := mostI p.two) (most_one p.two) h.ok (move_there C.h4 C.hs (by rw [← lost_iff, hl]; decide))
    refine ⟨m, h1, fun _ => lost_iff.mpr h2, ?_⟩
    exact Ex.if_t (Tst.plain (lname 7 h (by kernel_rfl) rfl rfl) Tru.bool) (Exs.cons (Ex.assign (Ev.call (Ev.glo (v := .ref 146) (by kernel_rfl) (by kernel_rfl)) (Evs.cons (lname 11 h (by kernel_rfl) rfl rfl) (Evs.cons (Ev.cel (v := .ref 17) (by kernel_rfl) (by rfl) h.c8) (Evs.cons (lname 4 h (by kernel_rfl) rfl rfl) (Evs.cons (lname 5 h (by kernel_rfl) rfl rfl) Evs.nil)))) h3 (by kernel_rfl)) (hsto m)) Exs.nil)
  | false =>
    rw [hB] at hb h
    have A : TakC T w sz := ⟨hw, C.h4, C.hs⟩
    have key : ∀ nb : Int, ∃ m, MoveOf sz (eachI p.two == 3) m ∧ Cal (gl a) (n + 4) (.ext (.ref 151)) [.ref w, .int nb, .bool (eachI p.two == 3)] T (.ref T.length) (T ++ [.list (vInts (nI m))]) := fun nb => Cal.taken A h.ok (some_row C.h4 (by omega))
    have hx : ∃ nb, ([V.int p.nx, V.int p.ny, V.int p.nz])[i / 2 % 3]? = some (V.int nb) := by
      have : i / 2 % 3 < 3 := Nat.mod_lt _ (by decide)
      match i / 2 % 3, this with
      | 0, _ => exact ⟨_, rfl⟩
      | 1, _ => exact ⟨_, rfl⟩
      | 2, _ => exact ⟨_, rfl⟩
    obtain ⟨nb, hnb⟩ := hx
    obtain ⟨m, h1, h2⟩ := key nb
    rw [each_three] at h1
    refine ⟨m, h1, nofun, ?_⟩
    have hidx : ∀ p1 p2 p3 p4 p5 p6 p7, Ev (gl a) (n + 4) lE (.Subscript (.Name "numbers" p1) (.BinOp (.BinOp (.Name "turn" p2) .FloorDiv (.Constant (.int 2) 0 p3) p4) .Mod (.Constant (.int 3) 0 p5) p6) p7) T (.int nb) T := fun p1 p2 p3 p4 p5 p6 p7 => by
      have he : Ev (gl a) (n + 4) lE (.BinOp (.BinOp (.Name "turn" p2) .FloorDiv (.Constant (.int 2) 0 p3) p4) .Mod (.Constant (.int 3) 0 p5) p6) T (.int ((i / 2 % 3 : Nat) : Int)) T := by
        rw [← at_turn]
        exact Ev.bin (Ev.bin (lname 8 h (by kernel_rfl) rfl rfl) Ev.int (Bop.fdiv (by decide) (by decide))) Ev.int (Bop.mod (by decide))
      exact Ev.sub (lname 2 h (by kernel_rfl) rfl rfl) he (Itm.list h.l15 (by omega) hnb (by have : i / 2 % 3 < 3 := Nat.mod_lt _ (by decide); omega))
    exact Ex.if_f (Tst.plain (lname 7 h (by kernel_rfl) rfl rfl) Tru.bool) (Exs.cons (Ex.assign (Ev.call (Ev.glo (v := .ref 151) (by kernel_rfl) (by kernel_rfl)) (Evs.cons (lname 11 h (by kernel_rfl) rfl rfl) (Evs.cons (hidx _ _ _ _ _ _ _) (Evs.cons (Ev.cmp (Ev.cel (v := .int (eachI p.two)) (by kernel_rfl) (by rfl) h.c7) Ev.int Cop.eqi) Evs.nil))) h2 (by kernel_rfl)) (hsto m)) Exs.nil)
theorem rowsOf_old (sg : Str) (sz : List Nat) : (nI sz).map (rowOf sg) = (nI sz).map (rowOf sg) := rfl
theorem turn8 (C : TurnC p sz) {m : List Nat} (hm4 : m.length = 4) (hms : ∀ k ∈ m, k ≤ 4) (hw : T[w]? = some (.list (vInts (nI sz)))) (hz : T[z]? = some (.list (vInts (nI m)))) (h : LawAt a p T (rowsOf p sz) f3 f7 f8 f9 f10 (some (.ref w)) (some (.ref z))) : ∃ T', Ex (gl a) (n + 4) lE (tB 8) T .next T' ∧ LawAt a p T' (rowsOf p m) f3 f7 f8 f9 f10 (some (.ref w)) (some (.ref z)) ∧ Kp3 T T' := by
  obtain ⟨xs, ha, hr⟩ := h.acc
  have hsg : p.sg.length = 1 := by rw [← tl_len, C.K.one]; rfl
  obtain ⟨T', h1, h2, h3, h4⟩ := Cal.lay (a := a) (n := n + 2) (S0 := T) (i := 22) (d := 21) (sg := p.sg) (o := w) (w := z) (old := nI sz) (new := nI m) (by rw [← C.h4]; simp [nI]) (by rw [← hm4]; simp [nI]) (fun k hk => by
    obtain ⟨j, hj, rfl⟩ := List.mem_map.mp hk
    have := hms j hj
    exact mulOk_of ⟨by omega, by omega, by omega⟩) ha hr h.d21 hw hz h.ok
  have kp : Kp3 T T' := fun k o _ _ h22 e => h4 k o h22 e
  refine ⟨T', ?_, h.step kp (h4 3 _ (by decide) h.frm) (h4 11 _ (by decide) h.c11) h2 h3, kp⟩
  have hcal : Cal (gl a) (n + 4) (.ext (.ref 158)) [.ref 22, .ext (.str p.sg p.t), .ref w, .ref z] T .none T' := Cal.unnorm h1 rfl
  exact Ex.expr (Ev.call (Ev.glo (v := .ref 158) (by kernel_rfl) (by kernel_rfl)) (Evs.cons (lname 6 h (by kernel_rfl) rfl rfl) (Evs.cons (Ev.cel (v := .ext (.str p.sg p.t)) (by kernel_rfl) (by rfl) h.c5) (Evs.cons (lname 11 h (by kernel_rfl) rfl rfl) (Evs.cons (Ev.cel (v := .ref z) (by kernel_rfl) (by rfl) h.c11) Evs.nil)))) hcal (by kernel_rfl))
theorem turn9 {rows : List (Str × Str)} {b : Bool} {s : Option V} (h : LawAt a p T rows f3 (some (.bool b)) f8 f9 f10 f11 s) : Ex (gl a) (n + 4) lE (tB 9) T .next (T.set 3 (.frame lNs (lF p.two f3 (some (.bool (!b))) f8 f9 f10 f11))) :=
  Ex.assign (Ev.not (lname 7 h (by kernel_rfl) rfl rfl) Tru.bool) (lsto 7 h (by kernel_rfl) rfl rfl)
end
end Mine
namespace Mine
noncomputable def forP : Stmt → Pos
  | .For (.Name _ q) _ _ _ _ => q
  | _ => ⟨0, 0, 0, 0⟩
section
variable {a : LA} {n : Nat} {p : LP} {T : List O} {sz : List Nat} {f3 f7 f8 f9 f10 f11 : Option V} {z w : Nat}
theorem turn_body : forB2 12 (bodyD (stAt 63)) = [tB 0, tB 1, tB 2, tB 3, tB 4, tB 5, tB 6, tB 7, tB 8, tB 9] := by kernel_rfl
theorem Kp3.list {T T' : List O} (kp : Kp3 T T') {rows : List (Str × Str)} {s : Option V} (h : LawAt a p T rows f3 f7 f8 f9 f10 f11 s) {k : Nat} {xs : List V} (e : T[k]? = some (.list xs)) : T'[k]? = some (.list xs) := h.list kp e
/-- what stands at the end -/
noncomputable def EndS (p : LP) (T : List O) : Prop := T[0]? = some (.obj p.P) ∧ T[1]? = some (.obj (Tab 62)) ∧ T[2]? = some (.obj (Tab 69))
/-- one turn -/
theorem turn_all (C : TurnC p sz) {b : Bool} {i : Nat} (hb : b = !isLost p.two sz) (hz : T[z]? = some (.list (vInts (nI sz)))) (h : LawAt a p T (rowsOf p sz) f3 (some (.bool b)) (some (.int i)) f9 f10 f11 (some (.ref z))) :
    (∃ T', Exs (gl a) (n + 4) lE (forB2 12 (bodyD (stAt 63))) T (.ret (.bool true)) T' ∧ EndS p T') ∨
    (∃ T' m z' g9 g10 g11, Exs (gl a) (n + 4) lE (forB2 12 (bodyD (stAt 63))) T .next T' ∧ LawAt a p T' (rowsOf p m) f3 (some (.bool (!b))) (some (.int i)) g9 g10 g11 (some (.ref z')) ∧ T'[z']? = some (.list (vInts (nI m))) ∧ (!b) = (!isLost p.two m) ∧ TurnC p m ∧ m.sum < sz.sum) := by
  rw [turn_body]
  have x0 := turn0 (n := n) C h
  obtain ⟨h1, k1⟩ := h.frame f3 (some (.bool b)) (some (.int i)) (some (.str (pageT p.mark sz))) f10 f11
  have hz1 := h.list k1 hz
  generalize hT1 : T.set 3 (.frame lNs (lF p.two f3 (some (.bool b)) (some (.int i)) (some (.str (pageT p.mark sz))) f10 f11)) = T1 at x0 h1 hz1
  clear hT1 k1
  obtain ⟨l, x1⟩ := turn1 (n := n) C hz1 h1
  obtain ⟨h2, k2⟩ := h1.add (x := O.list l) nofun
  have hz2 := h1.list k2 hz1
  generalize hT2 : T1 ++ [O.list l] = T2 at x1 h2 hz2
  clear hT2 k2
  have x2 := turn2 (n := n) C hz2 h2
  have x3 := turn3 (n := n) C hz2 h2
  obtain ⟨h3, k3⟩ := h2.frame f3 (some (.bool b)) (some (.int i)) (some (.str (pageT p.mark sz))) (some (.ref T2.length)) f11
  obtain ⟨h4, k4⟩ := h3.add (x := O.list (vInts (nI (oddN p.two sz)))) nofun
  have hz4 := h2.list (k3.trans k4) hz2
  have ho4 : (T2.set 3 (.frame lNs (lF p.two f3 (some (.bool b)) (some (.int i)) (some (.str (pageT p.mark sz))) (some (.ref T2.length)) f11)) ++ [O.list (vInts (nI (oddN p.two sz)))])[T2.length]? = some (O.list (vInts (nI (oddN p.two sz)))) := by simp
  generalize hT4 : T2.set 3 (.frame lNs (lF p.two f3 (some (.bool b)) (some (.int i)) (some (.str (pageT p.mark sz))) (some (.ref T2.length)) f11)) ++ [O.list (vInts (nI (oddN p.two sz)))] = T4 at x3 h4 hz4 ho4
  clear hT4 k3 k4 h3
  have x4 := turn4 (n := n) C hb ho4 h4
  obtain ⟨h5, k5⟩ := h4.add (x := O.list []) nofun
  have hz5 := h4.list k5 hz4
  generalize hT5 : T4 ++ [O.list []] = T5 at x4 h5 hz5
  clear hT5 k5
  have x5 := turn5 (n := n) hz5 h5
  by_cases hs : sz.sum = 0
  · rw [if_pos hs] at x5
    exact .inl ⟨_, Exs.cons x0 (Exs.cons x1 (Exs.cons x2 (Exs.cons x3 (Exs.cons x4 (Exs.stop x5))))), h5.o0, h5.t1, h5.t2⟩
  · rw [if_neg hs] at x5
    obtain ⟨l1, l2, x6⟩ := turn6 (n := n) C h5
    obtain ⟨h6, k6⟩ := h5.add (x := O.list l1) nofun
    obtain ⟨h7, k7⟩ := h6.add (x := O.list l2) nofun
    obtain ⟨h8, k8⟩ := h7.frame f3 (some (.bool b)) (some (.int i)) (some (.str (pageT p.mark sz))) (some (.ref T2.length)) (some (.ref (T5.length + 2)))
    obtain ⟨h9, k9⟩ := h8.add (x := O.list (vInts (nI sz))) nofun
    have hw9 : ((T5 ++ [O.list l1] ++ [O.list l2]).set 3 (.frame lNs (lF p.two f3 (some (.bool b)) (some (.int i)) (some (.str (pageT p.mark sz))) (some (.ref T2.length)) (some (.ref (T5.length + 2))))) ++ [O.list (vInts (nI sz))])[T5.length + 2]? = some (O.list (vInts (nI sz))) := by
      have := List.getElem?_concat_length (l := (T5 ++ [O.list l1] ++ [O.list l2]).set 3 (.frame lNs (lF p.two f3 (some (.bool b)) (some (.int i)) (some (.str (pageT p.mark sz))) (some (.ref T2.length)) (some (.ref (T5.length + 2)))))) (a := O.list (vInts (nI sz)))
      rwa [List.length_set, show (T5 ++ [O.list l1] ++ [O.list l2]).length = T5.length + 2 by simp] at this
    generalize hT9 : (T5 ++ [O.list l1] ++ [O.list l2]).set 3 (.frame lNs (lF p.two f3 (some (.bool b)) (some (.int i)) (some (.str (pageT p.mark sz))) (some (.ref T2.length)) (some (.ref (T5.length + 2))))) ++ [O.list (vInts (nI sz))] = T9 at x6 h9 hw9
    clear hT9 k6 k7 k8 k9 h6 h7 h8
    generalize T5.length + 2 = w9 at h9 hw9
    obtain ⟨m, hm, hml, x7⟩ := turn7 (n := n) C hb hs hw9 h9
    obtain ⟨hm4, hms, hmlt⟩ := move_less C.h4 C.hs hm
    obtain ⟨h10, k10⟩ := h9.add (x := O.list (vInts (nI m))) nofun
    obtain ⟨h11, k11⟩ := h10.sizes (some (.ref T9.length))
    have hw11 := h9.list (k10.trans k11) hw9
    have hz11 := h10.list k11 (k := T9.length) List.getElem?_concat_length
    generalize hT11 : (T9 ++ [O.list (vInts (nI m))]).set 11 (.cell (some (.ref T9.length))) = T11 at x7 h11 hw11 hz11
    clear hT11 k10 k11 h10
    generalize T9.length = z9 at h11 hz11
    obtain ⟨T12, x8, h12, k12⟩ := turn8 (n := n) C hm4 hms hw11 hz11 h11
    have hz12 := h11.list k12 hz11
    have x9 := turn9 (n := n) h12
    obtain ⟨h13, k13⟩ := h12.frame f3 (some (.bool (!b))) (some (.int i)) (some (.str (pageT p.mark sz))) (some (.ref T2.length)) (some (.ref w9))
    refine .inr ⟨_, m, z9, _, _, _, Exs.cons x0 (Exs.cons x1 (Exs.cons x2 (Exs.cons x3 (Exs.cons x4 (Exs.cons x5 (Exs.cons x6 (Exs.cons x7 (Exs.cons x8 (Exs.cons x9 Exs.nil))))))))), h13, h12.list k13 hz12, ?_, ⟨C.K, C.mark, C.tu, C.tt, C.tk, hm4, hms⟩, hmlt⟩
    cases hB : b with
    | true => rw [hml hB]
    | false =>
      have hl : isLost p.two sz = true := by rw [hB] at hb; cases q : isLost p.two sz <;> simp_all
      have := move_out C.h4 C.hs (lost_iff.mp hl) hm
      rw [← lost_iff] at this
      cases q : isLost p.two m <;> simp_all
/-- the turns -/
theorem turns {p0 : Pos} : ∀ (k i : Nat) (T : List O) (sz : List Nat) (z : Nat) (f8 f9 f10 f11 : Option V) (b : Bool), i + k = 17 → sz.sum + i ≤ 16 → TurnC p sz → b = (!isLost p.two sz) → T[z]? = some (.list (vInts (nI sz))) → LawAt a p T (rowsOf p sz) f3 (some (.bool b)) f8 f9 f10 f11 (some (.ref z)) →
    ∃ T', Loop (gl a) (n + 4) lE (.Name "turn" p0) (forB2 12 (bodyD (stAt 63))) (.rng (i : Int) k) T (.ret (.bool true)) T' ∧ EndS p T'
  | 0, i, T, sz, z, f8, f9, f10, f11, b, hi, hs, _, _, _, _ => absurd hs (by omega)
  | k + 1, i, T, sz, z, f8, f9, f10, f11, b, hi, hs, C, hb, hz, h => by
    have hst := lsto (x := ("turn" : Str)) (v := .int (i : Int)) (g3 := f3) (g7 := some (.bool b)) (g8 := some (.int (i : Int))) (g9 := f9) (g10 := f10) (g11 := f11) 8 h (by kernel_rfl) rfl rfl
    obtain ⟨h1, k1⟩ := h.frame f3 (some (.bool b)) (some (.int (i : Int))) f9 f10 f11
    rcases turn_all (n := n) C hb (h.list k1 hz) h1 with ⟨T', x, hend⟩ | ⟨T', m, z', g9, g10, g11, x, h2, hz2, hb2, C2, hlt⟩
    · exact ⟨T', Loop.stop .rngN (Asg.name hst) x, hend⟩
    · obtain ⟨T'', y, hend⟩ := turns (p0 := p0) k (i + 1) T' m z' _ _ _ _ _ (by omega) (by omega) C2 hb2 hz2 h2
      exact ⟨T'', Loop.next .rngN (Asg.name hst) x y, hend⟩
theorem turns_run (C : TurnC p sz) {b : Bool} (hb : b = (!isLost p.two sz)) (hz : T[z]? = some (.list (vInts (nI sz)))) (h : LawAt a p T (rowsOf p sz) f3 (some (.bool b)) f8 f9 f10 f11 (some (.ref z))) : ∃ T', Ex (gl a) (n + 4) lE (lawB 12) T (.ret (.bool true)) T' ∧ EndS p T' := by
  have hs : sz.sum + 0 ≤ 16 := by
    obtain ⟨x, y, u, v, rfl⟩ := four C.h4
    have h1 := C.hs x (by simp)
    have h2 := C.hs y (by simp)
    have h3 := C.hs u (by simp)
    have h4 := C.hs v (by simp)
    simp
    omega
  obtain ⟨T', x, hend⟩ := turns (n := n) (p0 := forP (lawB 12)) 17 0 T sz z f8 f9 f10 f11 b rfl hs C hb hz h
  exact ⟨T', Ex.forI (Iti.range1 (Ev.blt (by kernel_rfl) (by kernel_rfl) (boot_all (by decide +kernel)) (by decide)) Ev.int (by decide) (by decide)) x rfl, hend⟩
end
end Mine
namespace Mine
noncomputable def startS (p : LP) (j : Str) (al : Int) (c d e f : Nat) : List O :=
  lS p.P (fr0 (some (.ref 19)) (some (.int (mostI p.two)))) (some (.str j)) (some (.ext (.str p.sg p.t))) (some (.ext (.str p.mark p.u))) (some (.int (eachI p.two))) (some (.ref 17)) (some (.int al)) (some (.ref 18)) none (rest0 c d e f p.nx p.ny p.nz ++ [.list (vInts (nI codesL)), .list (vInts (nI (goodL p.two))), .list (vInts (nI (lostL p.two))), .list (vInts (nI (ruleL p.two)))])
noncomputable def pileS (a : LA) (p : LP) (j : Str) (al : Int) (c d e f : Nat) : List O := (startS p j al c d e f ++ [O.obj (AccD a.w.params), O.acc 99 21 []]).set 3 (.frame lNs (lF p.two none none none none none none))
noncomputable def pushE : List Stmt → Expr
  | .Expr (.Call _ (_ :: e :: _) _ _) _ :: _ => e
  | _ => .Constant .none 0 ⟨0, 0, 0, 0⟩
noncomputable def sumC : Stmt → Expr
  | .Assign _ (.Compare (.Call _ (e :: _) _ _) _ _ _) _ => e
  | _ => .Constant .none 0 ⟨0, 0, 0, 0⟩
section
variable {a : LA} {n : Nat} {p : LP} {T : List O} {sz : List Nat} {f3 f7 f8 f9 f10 f11 : Option V} {z w : Nat} {j : Str} {al : Int} {c d e f : Nat}
theorem pile_ok : LawAt a p (pileS a p j al c d e f) (rowsOf p []) none none none none none none none := by
  refine ⟨rfl, rfl, rfl, rfl, rfl, rfl, rfl, rfl, rfl, rfl, rfl, rfl, rfl, ⟨[], rfl, rfl, nofun⟩, ?_⟩
  have h0 : framesOk (startS p j al c d e f ++ [O.obj (AccD a.w.params), O.acc 99 21 []]) := fun ns vs hm => by
    simp [startS, lS, rest0, O.any] at hm
    obtain ⟨rfl, rfl⟩ := hm
    exact Nat.le_refl 12
  exact h0.set fun ns vs e => by cases e; exact Nat.le_refl 12
theorem pile_run : Ex (gl a) (n + 4) lE (lawB 8) (startS p j al c d e f) .next (pileS a p j al c d e f) := by
  have h := Cal.accNew (a := a) (n := n + 3) (S := startS p j al c d e f)
  have hst : Sto (gl a) lE ("pile" : Str) (.ref 22) (startS p j al c d e f ++ [O.obj (AccD a.w.params), O.acc 99 21 []]) (pileS a p j al c d e f) := by
    have hF : (startS p j al c d e f ++ [O.obj (AccD a.w.params), O.acc 99 21 []])[lE.fid]? = some (.frame lNs (fr0 (some (.ref 19)) (some (.int (mostI p.two))))) := rfl
    exact Sto.loc (G := gl a) (E := lE) (v := .ref 22) (x := ("pile" : Str)) 6 (by kernel_rfl) hF (by rfl) lNs_nd rfl
  exact Ex.assign (Ev.call0 (Ev.glo (v := .ref 99) (by kernel_rfl) (by kernel_rfl)) h (by kernel_rfl)) hst
theorem push_loop {p0 : Pos} (K : SignOk p.sg) (hs : ∀ k ∈ sz, k ≤ 4) (h4 : sz.length = 4) : ∀ (l done : List Nat) (T : List O) (f3 : Option V), sz = done ++ l → T[14]? = some (.list (vInts (nI sz))) → LawAt a p T (rowsOf p done) f3 f7 f8 f9 f10 f11 none →
    ∃ T' f3', Loop (gl a) (n + 4) lE (.Name "size" p0) (forB2 9 (bodyD (stAt 63))) (.lst 14 done.length) T .next T' ∧ LawAt a p T' (rowsOf p sz) f3' f7 f8 f9 f10 f11 none ∧ T'[14]? = some (.list (vInts (nI sz)))
  | [], done, T, f3, e, h14, h => by
    rw [List.append_nil] at e
    subst e
    exact ⟨T, f3, Loop.done (.lstE h14 (by rw [List.getElem?_eq_none_iff]; simp [vInts, nI])), h, h14⟩
  | k :: l, done, T, f3, e, h14, h => by
    have hst := lsto (x := ("size" : Str)) (v := .int (k : Int)) (g3 := some (.int (k : Int))) (g7 := f7) (g8 := f8) (g9 := f9) (g10 := f10) (g11 := f11) 3 h (by kernel_rfl) rfl rfl
    obtain ⟨h1, k1⟩ := h.frame (some (.int (k : Int))) f7 f8 f9 f10 f11
    have h141 := h.list k1 h14
    generalize T.set 3 (.frame lNs (lF p.two (some (.int (k : Int))) f7 f8 f9 f10 f11)) = T1 at hst h1 h141
    obtain ⟨xs, ha, hr⟩ := h1.acc
    have hk4 : k ≤ 4 := hs k (by rw [e]; simp)
    have hd : done.length ≤ 4 := by rw [← h4, e]; simp
    have hx : xs.length ≤ sizeLine := by rw [hr.1]; exact sizeOk (by simp [rowsOf, nI]; omega)
    have hsg : p.sg.length = 1 := by rw [← tl_len, K.one]; rfl
    have hmul : Ev (gl a) (n + 4) lE (pushE (forB2 9 (bodyD (stAt 63)))) T1 (.str (Txt.mul p.sg (k : Int))) T1 := Ev.bin (a := .str p.sg) (Ev.norm (v := .ext (.str p.sg p.t)) (Ev.cel (by kernel_rfl) (by rfl) h1.c5)) (lname 3 h1 (by kernel_rfl) rfl rfl) (Bop.mulStr (mulOk_of ⟨by omega, by omega, by omega⟩))
    have kp : Kp3 T1 (T1.set 22 (.acc 99 21 (xs ++ [.ref T1.length])) ++ [.tup [.str " ", .str (Txt.mul p.sg (k : Int))]]) := fun i x _ _ q3 e => at_old (by rw [List.getElem?_set_ne (fun q => q3 q.symm)]; exact e)
    have hbody : Exs (gl a) (n + 4) lE (forB2 9 (bodyD (stAt 63))) T1 .next (T1.set 22 (.acc 99 21 (xs ++ [.ref T1.length])) ++ [.tup [.str " ", .str (Txt.mul p.sg (k : Int))]]) :=
      Exs.cons (Ex.expr (Ev.meth _ (lname 6 h1 (by kernel_rfl) rfl rfl) (Mth.acc (f := .ref 45) (t := .type "function") ha h1.d21 (by kernel_rfl) (by kernel_rfl) (by decide) (by decide +kernel)) (Evs.cons Ev.str (Evs.cons hmul Evs.nil)) (Cal.push ha h1.d21 hx h1.ok trivial trivial) (by kernel_rfl))) Exs.nil
    have hrows : rowsOf p (done ++ [k]) = rowsOf p done ++ [((" " : Str), Txt.mul p.sg (k : Int))] := by simp [rowsOf, nI, rowOf]
    have h2 : LawAt a p (T1.set 22 (.acc 99 21 (xs ++ [.ref T1.length])) ++ [.tup [.str " ", .str (Txt.mul p.sg (k : Int))]]) (rowsOf p (done ++ [k])) (some (.int (k : Int))) f7 f8 f9 f10 f11 none :=
      h1.step kp (at_old (keep_set h1.frm ha nofun)) (at_old (keep_set h1.c11 ha nofun)) (by rw [hrows]; exact ⟨_, at_old (set_here ha), hr.push ha⟩) ((h1.ok.set fun ns vs e => by cases e).add fun ns vs e => by cases e)
    obtain ⟨T', f3', x, h3, h143⟩ := push_loop (p0 := p0) K hs h4 l (done ++ [k]) _ _ (by rw [e]; simp) (h1.list kp h141) h2
    refine ⟨T', f3', Loop.next (.lstN h14 (v := .int (k : Int)) ?_) (Asg.name hst) hbody (by rw [List.length_append] at x; exact x), h3, h143⟩
    rw [e]; simp [vInts, nI]
theorem push_run (K : SignOk p.sg) (hs : ∀ k ∈ sz, k ≤ 4) (h4 : sz.length = 4) (h14 : T[14]? = some (.list (vInts (nI sz)))) (h : LawAt a p T (rowsOf p []) f3 f7 f8 f9 f10 f11 none) : ∃ T' f3', Ex (gl a) (n + 4) lE (lawB 9) T .next T' ∧ LawAt a p T' (rowsOf p sz) f3' f7 f8 f9 f10 f11 none ∧ T'[14]? = some (.list (vInts (nI sz))) := by
  obtain ⟨T', f3', x, h1, h2⟩ := push_loop (n := n) (p0 := forP (lawB 9)) K hs h4 sz [] T f3 rfl h14 h
  exact ⟨T', f3', Ex.forI (Iti.of (lname 1 h (by kernel_rfl) rfl rfl) (Itr.list h14)) x rfl, h1, h2⟩
theorem any_lost {cs ls sz : List Nat} : (nI ls).any (· == ((tot cs sz : Nat) : Int)) = ls.contains (tot cs sz) := by
  rw [Bool.eq_iff_iff, in_ls rfl, List.contains_iff_mem]
theorem sizes_run (h : LawAt a p T (rowsOf p sz) f3 f7 f8 f9 f10 f11 none) : Ex (gl a) (n + 4) lE (lawB 10) T .next (T.set 11 (.cell (some (.ref 14)))) :=
  Ex.assign (lname 1 h (by kernel_rfl) rfl rfl) (Sto.cel (by kernel_rfl) (by rfl) h.c11)
theorem reads_run {s : Option V} (h4 : sz.length = 4) (hs : ∀ k ∈ sz, k ≤ 4) (h14 : T[14]? = some (.list (vInts (nI sz)))) (h : LawAt a p T (rowsOf p sz) f3 f7 f8 f9 f10 f11 s) : Ex (gl a) (n + 4) lE (lawB 11) T .next ((T ++ [O.list (vInts (nI (sz.map (cd codesL))))]).set 3 (.frame lNs (lF p.two f3 (some (.bool (!isLost p.two sz))) f8 f9 f10 f11))) := by
  have hcomp : Ev (gl a) (n + 4) lE (sumC (lawB 11)) T (.ref T.length) (T ++ [O.list (vInts (nI (sz.map (cd codesL))))]) := by
    rw [← codeF_all]
    refine Ev.compAll (S1 := T) (c := .lst 14 0) (cs := [(("codes" : Str), 8)]) [(".0" : Str), ("size" : Str)] 1 (codeF codesL) (Iti.of (lname 1 h (by kernel_rfl) rfl rfl) (Itr.list h14)) ⟨_, h14, rfl⟩ h.ok id (Nat.le_refl _) (fun v hv y hy => ?_) (by rw [nI_len, h4]; decide) (by kernel_rfl) rfl (by decide +kernel) (fun v hv acc w hw hj => ?_) (by rfl) (by decide +kernel) (by kernel_rfl) (by decide +kernel)
    · cases v <;> cases hy
      trivial
    · obtain ⟨k', hk', rfl⟩ := List.mem_map.mp hv
      obtain ⟨k, hk, rfl⟩ := List.mem_map.mp hk'
      have := hs k hk
      refine Turn.all rfl ?_
      show Ev _ _ _ _ _ (.int (cd codesL k)) _
      exact Ev.sub (Ev.cel (v := .ref 17) (by kernel_rfl) (by rfl) (at_old h.c8)) (Ev.loc (v := .int (k : Int)) 1 (by kernel_rfl) (top_more (i := 0)) rfl hj) (Itm.list (at_old h.l17) (by omega) (nI_at (by show k < 5; omega)) (by omega))
  obtain ⟨h1, k1⟩ := h.add (x := O.list (vInts (nI (sz.map (cd codesL))))) nofun
  have hv : (!(nI (lostL p.two)).any (· == (nI (sz.map (cd codesL))).sum)) = !isLost p.two sz := by
    rw [nI_sum]
    exact congrArg _ any_lost
  rw [← hv]
  exact Ex.assign (Ev.cmp (Ev.call (Ev.blt (v := .builtin "sum") (by kernel_rfl) (by kernel_rfl) (boot_all (by decide +kernel)) (by decide)) (Evs.cons hcomp Evs.nil) (Cal.sum List.getElem?_concat_length) rfl) (lname 4 h1 (by kernel_rfl) rfl rfl) (Cop.nini h1.l19)) (lsto 7 h1 (by kernel_rfl) rfl rfl)
theorem law_tail (C : TurnC p [c, d, e, f]) : ∃ T', Exs (gl a) (n + 4) lE [lawB 8, lawB 9, lawB 10, lawB 11, lawB 12, lawB 13] (startS p j al c d e f) (.ret (.bool true)) T' ∧ EndS p T' := by
  have x8 := pile_run (a := a) (n := n) (p := p) (j := j) (al := al) (c := c) (d := d) (e := e) (f := f)
  obtain ⟨T1, f3, x9, h1, h14⟩ := push_run (n := n) (sz := [c, d, e, f]) C.K C.hs C.h4 (T := pileS a p j al c d e f) rfl pile_ok
  have x10 := sizes_run (n := n) h1
  obtain ⟨h2, k2⟩ := h1.sizes (some (.ref 14))
  have h142 := h1.list k2 h14
  have x11 := reads_run (n := n) C.h4 C.hs h142 h2
  obtain ⟨h3, k3⟩ := h2.add (x := O.list (vInts (nI ([c, d, e, f].map (cd codesL))))) nofun
  obtain ⟨h4, k4⟩ := h3.frame f3 (some (.bool (!isLost p.two [c, d, e, f]))) none none none none
  obtain ⟨T', x12, hend⟩ := turns_run (n := n) C rfl (h2.list (k3.trans k4) h142) h4
  exact ⟨T', Exs.cons x8 (Exs.cons x9 (Exs.cons x10 (Exs.cons x11 (Exs.stop x12)))), hend⟩
end
end Mine
namespace Mine
theorem execs_append (l1 l2 : List Stmt) (env : Env) : execs (l1 ++ l2) env = (do match ← execs l1 env with | .next => execs l2 env | f => pure f) := by
  induction l1 with
  | nil => rfl
  | cons x r ih =>
    rw [List.cons_append, execs_cons, execs_cons, bind_assoc]
    congr 1
    funext f
    cases f <;> first | exact ih | rfl
section
variable {G : Glo} {n : Nat} {E : AEnv} {S S1 S2 S3 : List O}
theorem Exs.append {l1 l2 : List Stmt} {f : Fl} (h1 : Exs G n E l1 S .next S1) (h2 : Exs G n E l2 S1 f S2) : Exs G n E (l1 ++ l2) S f S2 := by
  intro A env ρ s hA hE hS Q k
  rw [execs_append]
  refine wpAny_bind (h1 A env ρ s hA hE hS _ fun ρ1 s1 fl x1 hS1 r1 => ?_)
  cases r1
  exact h2 A env ρ1 s1 hA (hE.mono x1.pre) hS1 _ fun ρ2 s2 a2 p2 hS2 r2 => k ρ2 s2 a2 (x1.trans p2) hS2 r2
theorem call_go {f : Expr} {e : Expr} {r : List Expr} {pos : Pos} {fv : Value} {vs : List V} (h0 : Ev G n E f S (.ext fv) S1) (h1 : Evs G n E (e :: r) S1 vs S2) (hk : isKept G.K fv = true)
    (hc : ∀ env, eval (f.Call (e :: r) [] pos) env = (do callWith pos (← eval f env) [] (backTo pos (starEach (e :: r) env)) (backToKw pos (keywordEach [] env))))
    (hs : ∀ env, starEach (e :: r) env = (false, eval e env) :: starEach r env) (hp : ∀ env, (backTo pos (starEach r env)).any (·.1) = false)
    {A : Around} {env : Env} {ρ : List Addr} {s : Shared} {Q : Value → Shared → Prop} (hA : GoodA A n) (hE : EnvOk E env ρ) (hS : Sim G ρ S s)
    (k : ∀ ρ2 s2 xs, Ext ρ ρ2 s s2 → Sim G ρ2 S2 s2 → RVs ρ2 vs xs → wpAny (model G.prog G.w) A (call fv xs) Q (fun _ _ => False) s2) : wpAny (model G.prog G.w) A (eval (f.Call (e :: r) [] pos) env) Q (fun _ _ => False) s := by
  refine Call_ (h0 A env ρ s hA hE hS _ fun ρ1 s1 x p1 hS1 r1 => ?_) (hc env)
  cases r1
  obtain ⟨P, hP, hK⟩ := kept_of (G := G) hk (M := model G.prog G.w)
  have main : wpAny (model G.prog G.w) A (spliced (backTo pos (starEach (e :: r) env))) (fun xs s1 => P s1.heap ∧ wpAny (model G.prog G.w) A (call fv ([] ++ xs)) Q (fun _ _ => False) s1) (fun _ _ => False) s1 :=
    h1 A env ρ1 s1 pos hA (hE.mono p1.pre) hS1 _ fun ρ2 s2 xs p2 hS2 r2 => ⟨hP _ _ _ hS2, k ρ2 s2 xs (p1.trans p2) hS2 r2⟩
  rw [hs] at main ⊢
  exact callWith_of (P := P) (by show ((false || (backTo pos (starEach r env)).any (·.1)) || false) = false; rw [hp]; rfl) hK (evalArgs_plain main)
theorem enterC {name qual : Str} {params : Arguments} {body : List Stmt} {scope : Scope} {dV kV doc pm cdv ct oc : Value} {an od : Option Addr} {osl : Array (Option Value)} {f : Addr} {vs : List V} (pn ns : List Str) {A : Around} {ρ : List Addr} {s : Shared} {xs : List Value} {Q : Value → Shared → Prop}
    (ho : G.K.lookup f = some ⟨oc, od, .func (fnX name qual params body scope [] dV kV doc pm an cdv ct), osl⟩) (hcd : codeIn G.K cdv qual = true)
    (hbind : ∀ xs : List Value, xs.length = vs.length → bindArgs (fnX name qual params body scope [] dV kV doc pm an cdv ct) ⟨xs, []⟩ = pure (pn.zip xs))
    (hl : pn.length = vs.length) (hn : pn.Nodup) (hloc : ∀ x ∈ pn, scope.names.lookup x = some .local ∨ (scope.names.lookup x = some .cell ∧ x ∈ cellNames scope.names)) (hns : ∀ x ∈ ns, scope.names.lookup x = some .local) (hcn : ∀ x ∈ cellNames scope.names, scope.names.lookup x = some .cell) (hcu : (cellNames scope.names).Nodup)
    (hco : scope.isCoroutine = false) (hgen : scope.isGenerator = false) (hk : scope.kind = .function)
    (hA : GoodA A (n + 1)) (hS : Sim G ρ S s) (r : RVs ρ vs xs)
    (hb : ∀ A' env ρ' s', GoodA A' n → EnvOk ⟨scope, S.length, cellsFrom (S.length + 1) scope.names []⟩ env ρ' → Ext ρ ρ' s s' → Sim G ρ' (S ++ [.frame ns (ns.map fun x => (pn.zip vs).lookup x)] ++ (List.range (cellNames scope.names).length).map fun j => .cell (((cellNames scope.names)[j]?).bind fun x => (pn.zip vs).lookup x)) s' → wpAny (model G.prog G.w) A' (execs body env) (fun fl s'' => Q (valOf fl) s'') (fun _ _ => False) s') :
    wpAny (model G.prog G.w) A (call (.ref f) xs) Q (fun _ _ => False) s := by
  refine wpAny_call ?_
  have hlen : xs.length = vs.length := r.length
  have hz : ((pn.zip xs).map (·.1)) = pn := by rw [List.map_fst_zip (by omega)]
  have hzm : ∀ p ∈ pn.zip xs, p.1 ∈ pn := fun p hp => (List.of_mem_zip hp).1
  have e0 : ∀ m : Nat, cellsFrom m scope.names [] = (cellsFrom 0 scope.names []).map fun p => (p.1, p.2 + m) := fun m => by
    have := cells_move m scope.names 0 []
    rwa [Nat.zero_add] at this
  have hcell : ∀ {x : Str} {j : Nat}, (cellsFrom 0 scope.names []).lookup x = some j → (cellNames scope.names)[j]? = some x := fun {x j} h => by
    rcases cells_in (mem_look h) with h | ⟨i, h1, h2⟩
    · cases h
    · have : j = i := by simpa using h1
      rw [this]; exact h2
  refine codeAny_call_function (fd := fnX name qual params body scope [] dV kV doc pm an cdv ct) (body := body) (by have := hA.depth; omega) (G.X.keeps hS.keep _ _ ho) rfl hco hgen rfl (codeRec_of (G.X.keeps hS.keep) hcd) ?_
  rw [hbind xs hlen]
  refine wpAny_pure (wpAny_with_toks hS.toks (wpAny_newFunctionEnv_cells hk (fun p hp => ?_) fun env he s1 x ht => ?_))
  · rcases hloc _ (hzm p hp) with h | ⟨h, hm⟩
    · exact .inl h
    · obtain ⟨j, hj⟩ := List.getElem?_of_mem hm
      obtain ⟨k, hk⟩ := look_some (m := s.heap.objs.size + 1) (acc := []) (.inr hj)
      exact .inr ⟨h, by show ((cellsFrom (s.heap.objs.size + 1) scope.names []).lookup p.1).isSome = true; rw [hk]; rfl⟩
  replace he : env = callEnvC (fnX name qual params body scope [] dV kV doc pm an cdv ct) s.heap.objs.size f := he
  subst he
  refine ⟨(G.T.nolimit.keeps hS.keep).keeps x.toInCall.keep, codeAny_func ?_⟩
  obtain ⟨⟨⟨h', tk, es⟩, hns', kp, hfr⟩, hce, _, _⟩ := x
  subst es
  have hkl : ∀ y, (callEnvC (fnX name qual params body scope [] dV kV doc pm an cdv ct) s.heap.objs.size f).kindOf y = scope.names.lookup y := fun y => rfl
  obtain ⟨ob, es, ep, e1, e2, e3, e4⟩ := hns'
  have hS0 : ∀ t, G.lo ≤ t → Sim G (ρ ++ [s.heap.objs.size]) (S ++ [.frame ns (ns.map fun x => (pn.zip vs).lookup x)]) ⟨h', s.gens, s.drawn, t, s.os⟩ := fun t ht =>
    hS.add (s' := ⟨h', s.gens, s.drawn, t, s.os⟩) kp (get_size _) hS.big e1 ⟨es, ep, _, e2, e3, e4, fun i y hi => by
      rw [List.getElem?_map, hi]
      show ROp _ ((pn.zip vs).lookup y) _
      rw [bindL_at (by rw [hz]; exact hn) (hns y (List.mem_of_getElem? hi)), Option.or_none]
      exact zip_look (r.mono (List.prefix_append _ _))⟩ rfl rfl ht
  have hS1 : ∀ t, G.lo ≤ t → Sim G ((ρ ++ [s.heap.objs.size]) ++ (List.range (cellNames scope.names).length).map (s.heap.objs.size + 1 + ·)) ((S ++ [.frame ns (ns.map fun x => (pn.zip vs).lookup x)]) ++ (List.range (cellNames scope.names).length).map fun j => .cell (((cellNames scope.names)[j]?).bind fun x => (pn.zip vs).lookup x)) ⟨h', s.gens, s.drawn, t, s.os⟩ := fun t ht => by
    refine Sim.cells (cx := fun j => ((cellNames scope.names)[j]?).bind fun x => (pn.zip xs).lookup x) (L := s.heap.objs.size + 1) (fun b hb => ?_) (fun b hb => ?_) (Nat.lt_succ_of_lt hS.big) (hS0 t ht) _ fun j hj => ?_
    · rcases List.mem_append.mp hb with h | h
      · exact Nat.lt_succ_of_lt (hS.lt h)
      · rw [List.mem_singleton.mp h]; exact Nat.lt_succ_self _
    · cases q : G.h₀.get? b with
      | none => rfl
      | some o => exact absurd (Heap.lt_size (hS.keep _ _ q)) (Nat.not_lt.mpr (Nat.le_of_succ_le hb))
    · obtain ⟨y, hy⟩ : ∃ y, (cellNames scope.names)[j]? = some y := ⟨_, List.getElem?_eq_getElem hj⟩
      obtain ⟨k, hk⟩ := look_some (m := 0) (acc := []) (.inr hy)
      have hkj : k = j := nodup_get hcu (hcell hk) hy
      subst hkj
      have := hce y (s.heap.objs.size + 1 + k) (by
        show (cellsFrom (s.heap.objs.size + 1) scope.names []).lookup y = _
        rw [e0]; exact look_move.mpr ⟨k, hk, by omega⟩)
      rw [hy]
      refine ⟨?_, zip_look (r.mono (List.prefix_append _ _))⟩
      rw [bindC_at (by rw [hz]; exact hn) (by rw [hkl, hcn y (List.mem_of_getElem? hy)]; simp), Option.or_none] at this
      exact this
  have hE : EnvOk ⟨scope, S.length, cellsFrom (S.length + 1) scope.names []⟩ (callEnvC (fnX name qual params body scope [] dV kV doc pm an cdv ct) s.heap.objs.size f) ((ρ ++ [s.heap.objs.size]) ++ (List.range (cellNames scope.names).length).map (s.heap.objs.size + 1 + ·)) := by
    refine ⟨rfl, hk, ?_, fun y c hc => ?_, rfl, rfl⟩
    · show ((ρ ++ [s.heap.objs.size]) ++ _)[S.length]? = some s.heap.objs.size
      rw [← hS.len]; simp
    · replace hc : (cellsFrom (S.length + 1) scope.names []).lookup y = some c := hc
      rw [e0] at hc
      obtain ⟨j, hj, rfl⟩ := look_move.mp hc
      refine ⟨s.heap.objs.size + 1 + j, ?_, ?_⟩
      · show (cellsFrom (s.heap.objs.size + 1) scope.names []).lookup y = _
        rw [e0]; exact look_move.mpr ⟨j, hj, by omega⟩
      · have hlt := (List.getElem?_eq_some_iff.mp (hcell hj)).1
        rw [List.getElem?_append_right (by simp [hS.len])]
        have : j + (S.length + 1) - (ρ ++ [s.heap.objs.size]).length = j := by simp [hS.len]
        rw [this, List.getElem?_map, List.getElem?_range hlt]
        rfl
  have X0 : Ext ρ ((ρ ++ [s.heap.objs.size]) ++ (List.range (cellNames scope.names).length).map (s.heap.objs.size + 1 + ·)) s ⟨h', s.gens, s.drawn, tk, s.os⟩ := by
    refine ⟨by rw [List.append_assoc]; exact List.prefix_append _ _, fun b o _ e => kp b o e, fun b hb hn => ?_⟩
    have hge : s.heap.objs.size ≤ b := by
      rcases List.mem_append.mp hb with h | h
      · rcases List.mem_append.mp h with h | h
        · exact absurd h hn
        · rw [List.mem_singleton.mp h]; exact Nat.le_refl _
      · obtain ⟨j, _, rfl⟩ := List.mem_map.mp h
        exact Nat.le_trans (Nat.le_succ _) (Nat.le_add_right _ _)
    cases q : s.heap.get? b with
    | none => rfl
    | some o => exact absurd (Heap.lt_size q) (Nat.not_lt.mpr hge)
  refine wpAny_mono (hb _ _ _ _ (hA.deeper _) hE X0 (hS1 _ ht)) (fun fl s' h => ?_) fun _ _ x => x.elim
  cases fl <;> exact h
end
end Mine
namespace Mine
theorem nat_up {lo t u : Nat} (q : lo ≤ u) (h : lo = t + 1) : u ≠ 0 ∧ u ≠ t := by omega
theorem nat_pos {t : Nat} (h : 1 ≤ t) : t ≠ 0 := by omega
section
variable {a : LA} {n : Nat}
theorem law_body_eq : bodyD (stAt 63) = [lawB 0, lawB 1, lawB 2, lawB 3, lawB 4, lawB 5, lawB 6, lawB 7, lawB 8, lawB 9, lawB 10, lawB 11, lawB 12, lawB 13] := by kernel_rfl
theorem turnC_of {lo : Nat} {P : Addr → Obj → Prop} {sg mk : Str} {t u : Tok} {two : Bool} {x y z : Int} {c d e f : Nat} (h : sg ∈ signs) (hm : MarkOk lo sg t mk u) (hlo : lo = t + 1) (ht : 1 ≤ t) (h4 : ∀ k ∈ [c, d, e, f], k ≤ 4) : TurnC ⟨P, sg, mk, t, u, two, x, y, z⟩ [c, d, e, f] := by
  refine ⟨sign_ok h, mark_is hm, ?_, nat_pos ht, ?_, rfl, h4⟩
  · show u ≠ 0
    rcases hm with ⟨_, _, q⟩ | ⟨_, _, q⟩ | ⟨_, _, _, q⟩
    · exact (nat_up q hlo).1
    · exact (nat_up q hlo).1
    · rw [q]; exact nat_pos ht
  · show (mk = sg ∧ u = t) ∨ ((mk == sg) = false ∧ u ≠ t)
    rcases hm with ⟨rfl, rfl, q⟩ | ⟨rfl, rfl, q⟩ | ⟨_, _, q1, q2⟩
    · exact .inr ⟨by decide +kernel, (nat_up q hlo).2⟩
    · exact .inr ⟨by decide +kernel, (nat_up q hlo).2⟩
    · exact .inl ⟨q1, q2⟩
/-- behind the draw and the mark -/
theorem law_rest {P : Addr → Obj → Prop} {j sg mk : Str} {t u : Tok} {c d e f : Nat} {x y z : Int} (hj : j ∈ judges) (hsg : sg ∈ signs) {lo : Nat} (hm : MarkOk lo sg t mk u) (hlo : lo = t + 1) (ht : 1 ≤ t) (h4 : ∀ k ∈ [c, d, e, f], k ≤ 4) :
    ∃ p : LP, p.P = P ∧ ∃ T', Exs (gl a) (n + 4) lE [lawB 2, lawB 3, lawB 4, lawB 5, lawB 6, lawB 7, lawB 8, lawB 9, lawB 10, lawB 11, lawB 12, lawB 13]
      (lS P (fr0 none none) (some (.str j)) (some (.ext (.str sg t))) (some (.ext (.str mk u))) none none none none none (rest0 c d e f x y z)) (.ret (.bool true)) T' ∧ EndS p T' := by
  obtain ⟨two, x2, al, x4⟩ := each_run (a := a) (n := n + 2) (t := t) (P := P) hj (sg := sg) (m := mk) (u := u) (p := c) (q := d) (r := e) (s := f) (x := x) (y := y) (z := z)
  have x3 := codes_run (a := a) (n := n + 2) (t := t) (P := P) hsg (j := j) (m := mk) (u := u) (e := eachI two) (p := c) (q := d) (r := e) (s := f) (x := x) (y := y) (z := z)
  obtain ⟨T', x8, hend⟩ := law_tail (a := a) (n := n) (j := j) (al := al) (turnC_of (P := P) (two := two) (x := x) (y := y) (z := z) hsg hm hlo ht h4)
  exact ⟨_, rfl, T', Exs.append x2 (Exs.append x3 (Exs.append x4 x8)), hend⟩
end
end Mine
namespace Mine
noncomputable def fr00 : List (Option V) := [some (.ref 0), none, none, none, none, none, none, none, none, none, none, none]
theorem nat4 {zs : List Int} (h4 : zs.length = 4) (h5 : ∀ z ∈ zs, small5 z) : ∃ c d e f : Nat, zs = nI [c, d, e, f] ∧ ∀ k ∈ [c, d, e, f], k ≤ 4 := by
  obtain ⟨x, y, z, w, rfl⟩ := four h4
  obtain ⟨x0, x1⟩ := h5 x (by simp)
  obtain ⟨y0, y1⟩ := h5 y (by simp)
  obtain ⟨z0, z1⟩ := h5 z (by simp)
  obtain ⟨w0, w1⟩ := h5 w (by simp)
  refine ⟨x.toNat, y.toNat, z.toNat, w.toNat, ?_, fun k hk => ?_⟩
  · simp [nI]; omega
  · simp only [List.mem_cons, List.not_mem_nil, or_false] at hk
    rcases hk with rfl | rfl | rfl | rfl <;> omega
section
variable {a : LA} {n : Nat}
noncomputable def tgt0 : Stmt → List Expr
  | .Assign (.Tuple ts _ _ :: _) _ _ => ts
  | _ => []
theorem draw_asg {P : Addr → Obj → Prop} {jd sg : Str} {t : Tok} {r : List O} : Asgs (gl a) (n + 4) lE (tgt0 (lawB 0)) [.str jd, .ext (.str sg t), .ref 14, .ref 15] (lS P fr00 none none none none none none none none r) (lS P (fr0 none none) (some (.str jd)) (some (.ext (.str sg t))) none none none none none none r) := by
  have h1 : Sto (gl a) lE ("judge" : Str) (.str jd) (lS P fr00 none none none none none none none none r) (lS P fr00 (some (.str jd)) none none none none none none none r) := Sto.cel (c := 4) (v₀ := none) (by kernel_rfl) (by rfl) rfl
  have h2 : Sto (gl a) lE ("sign" : Str) (.ext (.str sg t)) (lS P fr00 (some (.str jd)) none none none none none none none r) (lS P fr00 (some (.str jd)) (some (.ext (.str sg t))) none none none none none none r) := Sto.cel (c := 5) (v₀ := none) (by kernel_rfl) (by rfl) rfl
  have h3 : Sto (gl a) lE ("drawn" : Str) (.ref 14) (lS P fr00 (some (.str jd)) (some (.ext (.str sg t))) none none none none none none r) (lS P [some (.ref 0), some (.ref 14), none, none, none, none, none, none, none, none, none, none] (some (.str jd)) (some (.ext (.str sg t))) none none none none none none r) := by
    have hF : (lS P fr00 (some (.str jd)) (some (.ext (.str sg t))) none none none none none none r)[lE.fid]? = some (.frame lNs fr00) := rfl
    exact Sto.loc (G := gl a) (E := lE) (v := .ref 14) 1 (by kernel_rfl) hF (by rfl) lNs_nd rfl
  have h4 : Sto (gl a) lE ("numbers" : Str) (.ref 15) (lS P [some (.ref 0), some (.ref 14), none, none, none, none, none, none, none, none, none, none] (some (.str jd)) (some (.ext (.str sg t))) none none none none none none r) (lS P (fr0 none none) (some (.str jd)) (some (.ext (.str sg t))) none none none none none none r) := by
    have hF : (lS P [some (.ref 0), some (.ref 14), none, none, none, none, none, none, none, none, none, none] (some (.str jd)) (some (.ext (.str sg t))) none none none none none none r)[lE.fid]? = some (.frame lNs [some (.ref 0), some (.ref 14), none, none, none, none, none, none, none, none, none, none]) := rfl
    exact Sto.loc (G := gl a) (E := lE) (v := .ref 15) 2 (by kernel_rfl) hF (by rfl) lNs_nd rfl
  exact .cons h1 (.cons h2 (.cons h3 (.cons h4 .nil)))
noncomputable def tgtE : Stmt → Expr
  | .Assign (e :: _) _ _ => e
  | _ => .Constant .none 0 ⟨0, 0, 0, 0⟩
theorem draw_tup {P : Addr → Obj → Prop} {jd sg : Str} {t : Tok} {o1 o2 o3 o4 : O} : Asg (gl a) (n + 4) lE (tgtE (lawB 0)) (.ref 16) (lS P fr00 none none none none none none none none [o1, o2, o3, o4, .tup [.str jd, .ext (.str sg t), .ref 14, .ref 15]]) (lS P (fr0 none none) (some (.str jd)) (some (.ext (.str sg t))) none none none none none none [o1, o2, o3, o4, .tup [.str jd, .ext (.str sg t), .ref 14, .ref 15]]) := by
  have e : (lS P fr00 none none none none none none none none [o1, o2, o3, o4, .tup [.str jd, .ext (.str sg t), .ref 14, .ref 15]])[16]? = some (.tup [.str jd, .ext (.str sg t), .ref 14, .ref 15]) := rfl
  exact Asg.tup e draw_asg
theorem mark_sto {P : Addr → Obj → Prop} {jd sg mk : Str} {t u : Tok} {r : List O} : Sto (gl a) lE ("mark" : Str) (.ext (.str mk u)) (lS P (fr0 none none) (some (.str jd)) (some (.ext (.str sg t))) none none none none none none r) (lS P (fr0 none none) (some (.str jd)) (some (.ext (.str sg t))) (some (.ext (.str mk u))) none none none none none r) := Sto.cel (c := 6) (v₀ := none) (by kernel_rfl) (by rfl) rfl
noncomputable def valE : Stmt → Expr
  | .Assign _ e _ => e
  | _ => .Constant .none 0 ⟨0, 0, 0, 0⟩
theorem mark_at {e : Expr} (he : e = valE (lawB 1)) {sg : Str} {t : Tok} {S : List O} (h5 : S[5]? = some (.cell (some (.ext (.str sg t))))) {A : Around} {env : Env} {ρ : List Addr} {s : Shared} {Q : Value → Shared → Prop} (hA : GoodA A n) (hE : EnvOk lE env ρ) (hS : Sim (gl a) ρ S s)
    (k : ∀ ρ' s' mk u, Ext ρ ρ' s s' → Sim (gl a) ρ' S s' → MarkOk a.lo sg t mk u → Q (.str mk u) s') : wpAny (model a.prog a.w) A (eval e env) Q (fun _ _ => False) s :=
  mark_ev (G := gl a) (n := n) (E := lE) (e := e) (fun p => Ev.cel (v := .ext (.str sg t)) (by kernel_rfl) (by rfl) h5) _ (by intro _; rw [he]; rfl) hA hE hS k
noncomputable def stP : Stmt → Pos
  | .Assign _ _ p => p
  | _ => ⟨0, 0, 0, 0⟩
noncomputable def tgP : Stmt → Pos
  | .Assign (.Name _ p :: _) _ _ => p
  | _ => ⟨0, 0, 0, 0⟩
theorem mark_st : lawB 1 = .Assign [.Name ("mark" : Str) (tgP (lawB 1))] (valE (lawB 1)) (stP (lawB 1)) := by kernel_rfl
theorem mark_swap (env : Env) (x : Expr) (l : Nat) : swapsWith (valE (lawB 1)) (some x) l env = pure false := by kernel_rfl
theorem mark_ex {st : Stmt} (hst : st = lawB 1) {P : Addr → Obj → Prop} {jd sg : Str} {t : Tok} {r : List O} {A : Around} {env : Env} {ρ : List Addr} {s : Shared} {Q : Flow → Shared → Prop} (hA : GoodA A (n + 4)) (hE : EnvOk lE env ρ) (hS : Sim (gl a) ρ (lS P (fr0 none none) (some (.str jd)) (some (.ext (.str sg t))) none none none none none none r) s)
    (k : ∀ ρ' s' mk u, Ext ρ ρ' s s' → MarkOk a.lo sg t mk u → Sim (gl a) ρ' (lS P (fr0 none none) (some (.str jd)) (some (.ext (.str sg t))) (some (.ext (.str mk u))) none none none none none r) s' → Q .next s') : wpAny (model a.prog a.w) A (exec st env) Q (fun _ _ => False) s := by
  rw [hst, mark_st]
  have hsw := fun x l => mark_swap env x l
  obtain ⟨e, he⟩ : ∃ e, e = valE (lawB 1) := ⟨_, rfl⟩
  generalize tgP (lawB 1) = q1
  generalize stP (lawB 1) = q2
  rw [← he] at hsw ⊢
  have h5 : (lS P (fr0 none none) (some (.str jd)) (some (.ext (.str sg t))) none none none none none none r)[5]? = some (.cell (some (.ext (.str sg t)))) := rfl
  have hQ : ∀ ρ5 s5 mk u, Ext ρ ρ5 s s5 → Sim (gl a) ρ5 (lS P (fr0 none none) (some (.str jd)) (some (.ext (.str sg t))) none none none none none none r) s5 → MarkOk a.lo sg t mk u → wpAny (model a.prog a.w) A (storeName env ("mark" : Str) (.str mk u)) (fun _ => Q .next) (fun _ _ => False) s5 :=
    fun ρ5 s5 mk u x5 hS5 hm => mark_sto (a := a) A env ρ5 s5 (.str mk u) (hE.mono x5.pre) hS5 rfl (fun _ => Q .next) fun ρ6 s6 _ x6 hS6 _ => k ρ6 s6 mk u (x5.trans x6) hm hS6
  have hk := mark_at (a := a) (n := n + 4) he (Q := fun v s₁ => wpAny (model a.prog a.w) A (storeName env ("mark" : Str) v) (fun _ => Q .next) (fun _ _ => False) s₁) h5 hA hE hS hQ
  exact wpAny_Assign_Name hk (hsw _ _)
end
end Mine
namespace Mine
section
variable {a : LA} {n : Nat}
theorem law_run {ob : Obj} {ns : List Int} (hob : IntsOf ob ns) (hl : ns.length ≤ 1000) {A : Around} {ρ : List Addr} {s : Shared} {g : Addr} {Q : Value → Shared → Prop} (hA : GoodA A (n + 5)) (hS : Sim (g0 a) ρ [.obj fun _ o => o = ob, .obj (Tab 62), .obj (Tab 69)] s) (hg : ρ[0]? = some g)
    (k : ∀ ρ' s' T l (h : 1 ≤ l), Ext ρ ρ' s s' → Sim (gl (a.at l h)) ρ' T s' → T[0]? = some (.obj fun _ o => o = ob) → T[1]? = some (.obj (Tab 62)) → T[2]? = some (.obj (Tab 69)) → Q (.bool true) s') :
    wpAny (model a.prog a.w) A (call (.ref 163) [.ref g]) Q (fun _ _ => False) s := by
  have hEq : (⟨scopeD (stAt 63), 3, cellsFrom 4 (scopeD (stAt 63)).names []⟩ : AEnv) = lE := by kernel_rfl
  have hf : (lNs.map fun x => (([("script" : Str)] : List Str).zip [V.ref 0]).lookup x) = fr00 := by kernel_rfl
  have hc : (List.range (cellNames (scopeD (stAt 63)).names).length).map (fun j => O.cell (((cellNames (scopeD (stAt 63)).names)[j]?).bind fun x => (([("script" : Str)] : List Str).zip [V.ref 0]).lookup x)) = [.cell none, .cell none, .cell none, .cell none, .cell none, .cell none, .cell none, .cell none] := by kernel_rfl
  refine enterC (G := g0 a) (n := n + 4) [("script" : Str)] lNs rfl (by kernel_rfl) (fun xs h => match xs, h with | [x1], _ => rfl) (vs := [.ref 0]) rfl (by decide +kernel) (by decide +kernel) (by decide +kernel) (by decide +kernel) (by decide +kernel) (by kernel_rfl) (by kernel_rfl) (by kernel_rfl) hA hS (.one ⟨g, hg, rfl⟩) fun A' env ρ1 s1 hA1 hE1 x1 hS1 => ?_
  replace hE1 : EnvOk lE env ρ1 := hEq ▸ hE1
  replace hS1 : Sim (g0 a) ρ1 (lS (fun _ o => o = ob) fr00 none none none none none none none none []) s1 := by
    have e : [O.obj fun _ o => o = ob, .obj (Tab 62), .obj (Tab 69)] ++ [.frame lNs (lNs.map fun x => (([("script" : Str)] : List Str).zip [V.ref 0]).lookup x)] ++ (List.range (cellNames (scopeD (stAt 63)).names).length).map (fun j => O.cell (((cellNames (scopeD (stAt 63)).names)[j]?).bind fun x => (([("script" : Str)] : List Str).zip [V.ref 0]).lookup x)) = lS (fun _ o => o = ob) fr00 none none none none none none none none [] := by
      rw [hf, hc]; rfl
    rw [← e]; exact hS1
  show wpAny _ _ (execs (bodyD (stAt 63)) env) _ _ _
  rw [law_body_eq]
  obtain ⟨st1, hst1⟩ : ∃ st, st = lawB 1 := ⟨_, rfl⟩
  rw [← hst1]
  refine wpAny_execs_cons (Assign_Tuple (call_go (Ev.glo (v := .ref 127) (by kernel_rfl) (by kernel_rfl)) (Evs.cons (Ev.loc (v := .ref 0) 0 (by kernel_rfl) (by rfl) (by rfl) (by rfl)) Evs.nil) (by kernel_rfl) (by intro _; rfl) (by intro _; rfl) (by intro _; rfl) hA1 hE1 hS1 fun ρ2 s2 xs x2 hS2 r2 => ?_) (by rfl) (by rfl))
  cases r2 with
  | cons r1 r2 =>
    cases r2
    obtain ⟨g2, hg2, rfl⟩ := r1
    refine draw_run (n := n + 3) (sc := 0) (ob := ob) rfl hob hl hA1 hS2 hg2 fun ρ3 s3 v t ht jd sg zs x y z f' x3 hlo hjd hsg hz4 hz5 rv hS3 => ?_
    obtain ⟨c, d, e, f, rfl, hk4⟩ := nat4 hz4 hz5
    have hE3 : EnvOk lE env ρ3 := hE1.mono (x2.trans x3).pre
    replace hS3 : Sim (gl (a.at (t + 1) ht)) ρ3 (lS (fun _ o => o = ob) fr00 none none none none none none none none [f', .any, .list (vInts (nI [c, d, e, f])), .list (vInts [x, y, z]), .tup [.str jd, .ext (.str sg t), .ref 14, .ref 15]]) s3 := hS3
    refine draw_tup (a := a.at (t + 1) ht) (n := n) A' env ρ3 s3 v hA1 hE3 hS3 rv _ fun ρ4 s4 _ x4 hS4 _ => ?_
    have hE4 : EnvOk lE env ρ4 := hE3.mono x4.pre
    have hS4' : Sim (gl (a.at (t + 1) ht)) ρ4 (lS (fun _ o => o = ob) (fr0 none none) (some (.str jd)) (some (.ext (.str sg t))) none none none none none none (rest0 c d e f x y z)) s4 := (hS4.forget 12).forget 16
    refine wpAny_execs_cons (mark_ex hst1 (a := a.at (t + 1) ht) (n := n) hA1 hE4 hS4' fun ρ6 s6 mk u x5 hm hS6 => ?_)
    have hE6 : EnvOk lE env ρ6 := hE4.mono x5.pre
    obtain ⟨p, hp, T', hx, h0, h1, h2⟩ := law_rest (a := a.at (t + 1) ht) (n := n) (P := fun _ o => o = ob) (x := x) (y := y) (z := z) hjd hsg hm rfl hlo hk4
    rw [hp] at h0
    refine hx A' env ρ6 s6 hA1 hE6 hS6 _ fun ρ7 s7 fl x7 hS7 r7 => ?_
    obtain ⟨v', rfl, rv'⟩ := r7
    cases rv'
    exact k ρ7 s7 T' (t + 1) ht (((((x1.trans x2).trans x3).trans x4).trans x5).trans x7) hS7 h0 h1 h2
end
end Mine
namespace Mine
theorem nat_big {l : Nat} (a : l ≠ 0) (b : l ≠ 1) (c : l ≠ 2) : 2 < l := by omega
noncomputable def notList : Value → Bool
  | .type s => s != "list"
  | _ => true
theorem kHeap_plain (P : Params) : ((kHeap P).all fun p => notList p.2.cls) = true := by kernel_rfl
theorem mem_of_look {a : Addr} {o : Obj} : ∀ {K : Frag}, K.lookup a = some o → (a, o) ∈ K
  | (b, x) :: r, h => by
    rw [List.lookup_cons] at h
    cases q : a == b with
    | true => rw [q] at h; cases h; rw [eq_of_beq q]; exact .head _
    | false => rw [q] at h; exact .tail _ (mem_of_look h)
theorem heap_in {P : Params} {h : Heap} {l : Addr} {ws : Array Value} (X : (kHead P).In h) (hL : h.IsList l ws) : (kHeap P).In (hideAll h [62, 69, l]) := by
  intro a o e
  have h62 : a ≠ 62 := fun q => by
    rw [q] at e
    have e1 : (kHeap P).lookup 62 = none := by kernel_rfl
    rw [e1] at e; cases e
  have h69 : a ≠ 69 := fun q => by
    rw [q] at e
    have e1 : (kHeap P).lookup 69 = none := by kernel_rfl
    rw [e1] at e; cases e
  have e2 : (kHead P).lookup a = some o := by
    show List.lookup a ((62, _) :: (69, _) :: kHeap P) = _
    rw [List.lookup_cons, beq_eq_false_iff_ne.mpr h62, List.lookup_cons, beq_eq_false_iff_ne.mpr h69]
    exact e
  have e3 := X a o e2
  have hal : a ≠ l := fun q => by
    subst q
    obtain ⟨o', h1, h2, _⟩ := hL
    rw [e3] at h1; cases h1
    have := List.all_eq_true.mp (kHeap_plain P) (a, o) (mem_of_look e)
    rw [h2] at this
    exact absurd this (by decide +kernel)
  exact hideAll_get _ e3 (by simp [h62, h69, hal])
section
variable {h : Heap} {l : Addr} {ws : Array Value}
theorem ns_apart {a : Addr} {m : Str → Option Value} (n : h.Ns a m) (hL : h.IsList l ws) : a ≠ l := fun q => by
  subst q
  obtain ⟨o, es, ep, h1, h2, _⟩ := n
  obtain ⟨o', g1, _, k, g2⟩ := hL
  rw [h1] at g1; cases g1
  rw [h2] at g2; cases g2
theorem ns_hide {a : Addr} {m : Str → Option Value} (n : h.Ns a m) (hL : h.IsList l ws) (h1 : a ≠ 62) (h2 : a ≠ 69) : (hideAll h [62, 69, l]).Ns a m := by
  have h3 := ns_apart n hL
  obtain ⟨o, es, ep, e, hr⟩ := n
  exact ⟨o, es, ep, hideAll_get _ e (by simp [h1, h2, h3]), hr⟩
theorem top_hide {p : Program} {loose : List Str} {mg mb : Str → Option Value} (T : TopRead p loose mg mb h) (hL : h.IsList l ws) : TopRead p loose mg mb (hideAll h [62, 69, l]) :=
  ⟨ns_hide T.g hL (by decide) (by decide), ns_hide T.b hL (by decide) (by decide), let ⟨mc, h1, h2⟩ := T.nolimit; ⟨mc, ns_hide h1 hL (by decide) (by decide), h2⟩, T.builtins, T.free⟩
end
section
variable {w : World} {s : Shared} {mg mb : Str → Option Value} {l : Addr} {ws : Array Value}
theorem file_is : ((PySem.Challenge.rw_xo0021_01.row.prog.main.file : Str) == ("/claim/cut.py" : Str)) = true := by kernel_rfl
theorem sup_is : (PySem.Challenge.rw_xo0021_01.row.prog.main.scope.names.lookup ("super" : Str)).isSome = false := by kernel_rfl
/-- the walk's ground -/
noncomputable def laOf {loose : List Str} {bm : Addr} {ob : Obj} (KX : (kHead w.params).In s.heap) (T : TopRead pQ loose mg mb s.heap) (B : BMod s.heap mainGlobals mg bm ob) (hL : s.heap.IsList l ws) (hb : (hideAll s.heap [62, 69, l]).get? bm = some ob) : LA :=
  ⟨PySem.Challenge.rw_xo0021_01.row.prog, w, pQ, loose, mg, mb, hideAll s.heap [62, 69, l], s.os, heap_in KX hL, top_hide T hL, bm, ob, ⟨ns_hide B.ns hL (by decide) (by decide), B.name, B.ne, hb, B.cls, B.dict, B.data⟩, hideAll_none _ (by simp), hideAll_none _ (by simp), file_is, 1, Nat.le_refl 1, sup_is⟩
theorem tab_of (KX : (kHead w.params).In s.heap) : s.heap.get? 62 = some ⟨.none, none, .fields #[], #[]⟩ ∧ s.heap.get? 69 = some ⟨.none, none, .fields #[], #[]⟩ := ⟨KX _ _ (by kernel_rfl), KX _ _ (by kernel_rfl)⟩
theorem bm_hide {bm : Addr} {ob : Obj} (KX : (kHead w.params).In s.heap) (B : BMod s.heap mainGlobals mg bm ob) (hL : s.heap.IsList l ws) : (hideAll s.heap [62, 69, l]).get? bm = some ob := by
  obtain ⟨t1, t2⟩ := tab_of KX
  have hd := B.data
  have ho := B.obj
  have a1 : bm ≠ 62 := fun q => by rw [q, t1] at ho; cases ho; cases hd
  have a2 : bm ≠ 69 := fun q => by rw [q, t2] at ho; cases ho; cases hd
  have a3 : bm ≠ l := fun q => by
    obtain ⟨o, h1, _, k, h2⟩ := hL
    rw [q, h1] at ho; cases ho
    rw [hd] at h2; cases h2
  exact hideAll_get _ ho (by simp [a1, a2, a3])
/-- where the walk begins -/
theorem sim_start {loose : List Str} {bm : Addr} {ob lo : Obj} (KX : (kHead w.params).In s.heap) (T : TopRead pQ loose mg mb s.heap) (B : BMod s.heap mainGlobals mg bm ob) (hL : s.heap.IsList l ws) (hb : (hideAll s.heap [62, 69, l]).get? bm = some ob) (hlo : s.heap.get? l = some lo) (hs : l ≠ sysModules) (hg : s.gens = #[]) :
    Sim (g0 (laOf KX T B hL hb)) [l, 62, 69] [.obj fun _ o => o = lo, .obj (Tab 62), .obj (Tab 69)] s := by
  obtain ⟨t1, t2⟩ := tab_of KX
  obtain ⟨o, h1, hc, k, h2⟩ := hL
  have hL : s.heap.IsList l ws := ⟨o, h1, hc, k, h2⟩
  have a1 : l ≠ 62 := fun q => by rw [q, t1] at h1; cases h1; cases h2
  have a2 : l ≠ 69 := fun q => by rw [q, t2] at h1; cases h1; cases h2
  refine ⟨fun b o e => of_hideAll _ e, rfl, by simp [a1, a2], fun i x hx => ?_, fun b hb' => ?_, fun b hb' => ?_, rfl, AllBare.of_eq hg, Nat.zero_le _⟩
  · match i, hx with
    | 0, hx => cases hx; exact ⟨l, lo, rfl, hlo, rfl⟩
    | 1, hx => cases hx; exact ⟨62, _, rfl, t1, rfl, #[], rfl, trivial⟩
    | 2, hx => cases hx; exact ⟨69, _, rfl, t2, rfl, #[], rfl, trivial⟩
    | n + 3, hx => simp at hx
  · refine hideAll_none _ ?_
    simp only [List.mem_cons, List.not_mem_nil, or_false] at hb' ⊢
    rcases hb' with q | q | q
    · exact .inr (.inr q)
    · exact .inl q
    · exact .inr (.inl q)
  · simp only [List.mem_cons, List.not_mem_nil, or_false] at hb'
    rcases hb' with q | q | q
    · obtain ⟨mc, n1, _⟩ := T.nolimit
      have b1 := ns_apart T.b hL
      have b2 := ns_apart n1 hL
      rw [q]
      have c0 : l ≠ 0 := fun e => b1 e.symm
      have c1 : l ≠ 1 := hs
      have c2 : l ≠ 2 := fun e => b2 e.symm
      exact nat_big c0 c1 c2
    · rw [q]; decide
    · rw [q]; decide
end
end Mine
namespace Mine
theorem reads_mem {R : WRecords} {cl : Str → Option Addr} {h : Heap} {l : Addr} {xs : List WData} {as : List Addr} (r : ReadsAllW R cl h [.ref l] [.list xs] as) : l ∈ as := by
  cases r with
  | cons r1 r2 => cases r1; simp
theorem ints_rv : ∀ {ws : List Value} {ns : List Int}, IntsAre ws ns → RVs [] (vInts ns) ws
  | _, _, .nil => .nil
  | _, _, .cons n t h => .cons ⟨t, rfl⟩ (ints_rv h)
theorem good_caller : GoodA callerA 5 := ⟨rfl, by decide, by decide⟩
section
variable {w : World} {s s' : Shared} {l : Addr} {ws : Array Value}
noncomputable def objOf (a : Addr) : Obj := (kMethC.lookup a).getD ⟨.none, none, .plain, #[]⟩
noncomputable def fldOf : Data → Array Value
  | .fields vs => vs
  | _ => #[]
theorem tab_code (KX : (kHead w.params).In s.heap) : isCodeTable s.heap 62 ∧ isCodeTable s.heap 69 :=
  ⟨⟨66, objOf 66, fldOf (objOf 66).data, KX 66 _ (by kernel_rfl), by kernel_rfl, by kernel_rfl, by kernel_rfl⟩, ⟨73, objOf 73, fldOf (objOf 73).data, KX 73 _ (by kernel_rfl), by kernel_rfl, by kernel_rfl, by kernel_rfl⟩⟩
/-- what the walk leaves of the old -/
theorem old_end {G : Glo} {T : List O} {ρ' : List Addr} {lo : Obj} (KX : (kHead w.params).In s.heap) (hh : G.h₀ = hideAll s.heap [62, 69, l]) (hlo : s.heap.get? l = some lo) (hp : [l, 62, 69] <+: ρ') (hS : Sim G ρ' T s') (e0 : T[0]? = some (.obj fun _ o => o = lo)) (e1 : T[1]? = some (.obj (Tab 62))) (e2 : T[2]? = some (.obj (Tab 69))) : OldK s.heap s'.heap := by
  obtain ⟨t1, t2⟩ := tab_of KX
  obtain ⟨c1, c2⟩ := tab_code KX
  obtain ⟨q1, ps1, g1, _⟩ := tab_at hS e1
  obtain ⟨q2, ps2, g2, _⟩ := tab_at hS e2
  obtain ⟨a0, ob, p0, p1, p2⟩ := hS.own _ _ e0
  have hl0 : ρ'[0]? = some l := get_mono hp rfl
  rw [hl0] at p0; cases p0
  replace p2 : ob = lo := p2
  subst p2
  have key : ∀ b o, s.heap.get? b = some o → b ≠ 62 → b ≠ 69 → s'.heap.get? b = some o := fun b o e n1 n2 => by
    by_cases n3 : b = l
    · subst n3; rw [hlo] at e; cases e; exact p1
    · exact hS.keep b o (hh ▸ hideAll_get _ e (by simp [n1, n2, n3]))
  refine ⟨fun b o e => ?_, fun b o e => ?_⟩
  · by_cases n1 : b = 62
    · subst n1
      rw [t1] at e; cases e
      exact .inr (.inl ⟨c1, rfl, #[], ps1, rfl, by rw [g1]; simp⟩)
    · by_cases n2 : b = 69
      · subst n2
        rw [t2] at e; cases e
        exact .inr (.inl ⟨c2, rfl, #[], ps2, rfl, by rw [g2]; simp⟩)
      · exact .inl (key b o e n1 n2)
  · by_cases n1 : b = 62
    · subst n1; exact ⟨_, g1⟩
    · by_cases n2 : b = 69
      · subst n2; exact ⟨_, g2⟩
      · exact ⟨_, key b o e n1 n2⟩
theorem good_end {cl : Str → Option Addr} {mean : ExcName → Option Value} {args : List WData} (hO : OldK s.heap s'.heap) (ho : s'.os = s.os) (hg : AllBare s'.gens) : GoodWG PySem.Challenge.rw_xo0021_01.row.claim cl mean args s (Except.ok (Flow.ret (.bool true))) s' :=
  ⟨.inl ⟨.bool true, .bool true, [], rfl, fun cls => by kernel_rfl, .bool true, by kernel_rfl, fun _ => ⟨List.nodup_nil, nofun⟩⟩, hO, ho, hg⟩
end
theorem walk0 : WalkO pQ pL (XL pQ []) (Hook.says pH) PySem.Challenge.rw_xo0021_01.row.toRowW pDK.1 pDK.2 fun f vs => PySem.call f vs := by
  w_on
  intro w s₀ s₁ mg mb G Y fa o pm cd doc dV kV ho hd hcd hD hmg hg args vals as hpre hlay hrd hwl hlo
  have KX : (kHead w.params).In s₁.heap := kIn_of Y
  have hrd0 := hrd
  have hlo0 := hlo
  wrow_args hpre hlay hrd hwl hlo
  rename_i ns hs hlay0 hL1 hr1 hl2 las las2 l ws as2 hL ra w1 r0 hI hr2 hc1 hc2
  have hl1 : l ≠ sysModules := fun q => by
    have := hlo0 l (reads_mem hrd0)
    rw [q] at this
    exact absurd this (by decide)
  have hn : pDK.1.name = ("law" : Str) := by kernel_rfl
  have e1 : mg ("law" : Str) = some (.ref 163) := mg_of KX G.T.g (by kernel_rfl)
  rw [hn, e1] at hmg
  cases hmg
  obtain ⟨bm, ob, B⟩ := bmod_of_top G.T
  have T := topRead_of G.T
  obtain ⟨lo, h1, h2, k, h3⟩ := id hL
  have hob : IntsOf lo ns := ⟨h2, ws.toArray, k, h3, ints_rv hI⟩
  have hb := bm_hide KX B hL
  have hS := sim_start KX T B hL hb h1 hl1 hg
  refine wpAny_mono (law_run (n := 0) (a := laOf KX T B hL hb) hob (by omega) good_caller hS rfl fun ρ' s' T' l' hl' x' hS' e0 e1 e2 => ?_) (fun _ _ q => q) fun _ _ q => q.elim
  exact good_end (old_end KX rfl h1 x'.pre hS' e0 e1 e2) hS'.os hS'.gens
theorem holds0 : PySem.Challenge.rw_xo0021_01.Holds := hd0 walk0
end Mine
theorem PySem.Challenge.cw_xo0021_01_holds : PySem.Challenge.rw_xo0021_01.Holds :=
  Mine.holds0
