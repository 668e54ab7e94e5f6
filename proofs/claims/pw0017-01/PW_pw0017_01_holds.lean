import PyProof.Rows.All
import Wide.All
import OpenK.AllK
import Wide.FinOn
import PySem.Challenge.RW_pw0017_01
open PySem PySem.W PyProof.Rows
set_option Elab.async false
set_option maxRecDepth 100000
set_option maxHeartbeats 8000000
namespace Mine
/-- a statement of the program's top -/
noncomputable def stAt (i : Nat) : Stmt := (PySem.Challenge.pw_pw0017_01.main.body[i]?).getD (.Pass ⟨0, 0, 0, 0⟩)
noncomputable def inCls (i j : Nat) : Stmt := match stAt i with
  | .ClassDef _ _ _ b .. => (b[j]?).getD (.Pass ⟨0, 0, 0, 0⟩)
  | s => s
/-- the object of a def -/
noncomputable def fnO (st : Stmt) (q : Str) (dv m : Value) (c : Addr) : Obj := match st with
  | .FunctionDef n ps b _ _ _ sc _ _ _ => { cls := .type "function", data := .func { name := n, qualname := q, params := ps, body := .stmts b, scope := sc, globals := 3, closure := [], defaults := dv, kwdefaults := .none, pyModule := m, code := .ref c } }
  | _ => { cls := .none, data := .plain }
/-- the objects that the top leaves -/
noncomputable def heapK : Params → Frag := fun P => [
(2,{cls:=Value.none,data:=Data.dict #[]}),
(3,{cls:=Value.type "dict",data:=Data.dict #[⟨PyData.keyHash P (Str.ofString "__name__"),Value.str (Str.ofString "__name__") 165,Value.str (Str.ofString "law_pw0017_01") 514⟩,⟨PyData.keyHash P (Str.ofString "__doc__"),Value.str (Str.ofString "__doc__") 166,Value.none⟩,⟨PyData.keyHash P (Str.ofString "__package__"),Value.str (Str.ofString "__package__") 167,Value.none⟩,⟨PyData.keyHash P (Str.ofString "__loader__"),Value.str (Str.ofString "__loader__") 168,Value.builtin "__main__.__loader__#opaque"⟩,⟨PyData.keyHash P (Str.ofString "__spec__"),Value.str (Str.ofString "__spec__") 169,Value.none⟩,⟨PyData.keyHash P (Str.ofString "__annotations__"),Value.str (Str.ofString "__annotations__") 170,Value.ref 6⟩,⟨PyData.keyHash P (Str.ofString "__builtins__"),Value.str (Str.ofString "__builtins__") 171,Value.ref 4⟩,⟨PyData.keyHash P (Str.ofString "__file__"),Value.str (Str.ofString "__file__") 173,Value.str (Str.ofString "/claim/cut.py") 172⟩,⟨PyData.keyHash P (Str.ofString "__cached__"),Value.str (Str.ofString "__cached__") 174,Value.none⟩,⟨PyData.keyHash P (Str.ofString "_wall"),Value.str (Str.ofString "_wall") 193,Value.ref 21⟩,⟨PyData.keyHash P (Str.ofString "sep"),Value.str (Str.ofString "sep") 195,Value.str (Str.ofString "/") 194⟩,⟨PyData.keyHash P (Str.ofString "_kind"),Value.str (Str.ofString "_kind") 206,Value.ref 28⟩,⟨PyData.keyHash P (Str.ofString "_c_path"),Value.str (Str.ofString "_c_path") 219,Value.ref 35⟩,⟨PyData.keyHash P (Str.ofString "_splitroot"),Value.str (Str.ofString "_splitroot") 228,Value.ref 42⟩,⟨PyData.keyHash P (Str.ofString "_normpath"),Value.str (Str.ofString "_normpath") 243,Value.ref 49⟩,⟨PyData.keyHash P (Str.ofString "normpath"),Value.str (Str.ofString "normpath") 251,Value.ref 56⟩,⟨PyData.keyHash P (Str.ofString "_Ignore"),Value.str (Str.ofString "_Ignore") 293,Value.ref 79⟩,⟨PyData.keyHash P (Str.ofString "ENDMARKER"),Value.str (Str.ofString "ENDMARKER") 297,Value.int 0 296⟩,⟨PyData.keyHash P (Str.ofString "LPAR"),Value.str (Str.ofString "LPAR") 299,Value.int 7 298⟩,⟨PyData.keyHash P (Str.ofString "RPAR"),Value.str (Str.ofString "RPAR") 301,Value.int 8 300⟩,⟨PyData.keyHash P (Str.ofString "LSQB"),Value.str (Str.ofString "LSQB") 303,Value.int 9 302⟩,⟨PyData.keyHash P (Str.ofString "RSQB"),Value.str (Str.ofString "RSQB") 305,Value.int 10 304⟩,⟨PyData.keyHash P (Str.ofString "COLON"),Value.str (Str.ofString "COLON") 307,Value.int 11 306⟩,⟨PyData.keyHash P (Str.ofString "COMMA"),Value.str (Str.ofString "COMMA") 309,Value.int 12 308⟩,⟨PyData.keyHash P (Str.ofString "SEMI"),Value.str (Str.ofString "SEMI") 311,Value.int 13 310⟩,⟨PyData.keyHash P (Str.ofString "PLUS"),Value.str (Str.ofString "PLUS") 313,Value.int 14 312⟩,⟨PyData.keyHash P (Str.ofString "MINUS"),Value.str (Str.ofString "MINUS") 315,Value.int 15 314⟩,⟨PyData.keyHash P (Str.ofString "STAR"),Value.str (Str.ofString "STAR") 317,Value.int 16 316⟩,⟨PyData.keyHash P (Str.ofString "SLASH"),Value.str (Str.ofString "SLASH") 319,Value.int 17 318⟩,⟨PyData.keyHash P (Str.ofString "VBAR"),Value.str (Str.ofString "VBAR") 321,Value.int 18 320⟩,⟨PyData.keyHash P (Str.ofString "AMPER"),Value.str (Str.ofString "AMPER") 323,Value.int 19 322⟩,⟨PyData.keyHash P (Str.ofString "LESS"),Value.str (Str.ofString "LESS") 325,Value.int 20 324⟩,⟨PyData.keyHash P (Str.ofString "GREATER"),Value.str (Str.ofString "GREATER") 327,Value.int 21 326⟩,⟨PyData.keyHash P (Str.ofString "EQUAL"),Value.str (Str.ofString "EQUAL") 329,Value.int 22 328⟩,⟨PyData.keyHash P (Str.ofString "DOT"),Value.str (Str.ofString "DOT") 331,Value.int 23 330⟩,⟨PyData.keyHash P (Str.ofString "PERCENT"),Value.str (Str.ofString "PERCENT") 333,Value.int 24 332⟩,⟨PyData.keyHash P (Str.ofString "LBRACE"),Value.str (Str.ofString "LBRACE") 335,Value.int 25 334⟩,⟨PyData.keyHash P (Str.ofString "RBRACE"),Value.str (Str.ofString "RBRACE") 337,Value.int 26 336⟩,⟨PyData.keyHash P (Str.ofString "EQEQUAL"),Value.str (Str.ofString "EQEQUAL") 339,Value.int 27 338⟩,⟨PyData.keyHash P (Str.ofString "NOTEQUAL"),Value.str (Str.ofString "NOTEQUAL") 341,Value.int 28 340⟩,⟨PyData.keyHash P (Str.ofString "LESSEQUAL"),Value.str (Str.ofString "LESSEQUAL") 343,Value.int 29 342⟩,⟨PyData.keyHash P (Str.ofString "GREATEREQUAL"),Value.str (Str.ofString "GREATEREQUAL") 345,Value.int 30 344⟩,⟨PyData.keyHash P (Str.ofString "TILDE"),Value.str (Str.ofString "TILDE") 347,Value.int 31 346⟩,⟨PyData.keyHash P (Str.ofString "CIRCUMFLEX"),Value.str (Str.ofString "CIRCUMFLEX") 349,Value.int 32 348⟩,⟨PyData.keyHash P (Str.ofString "LEFTSHIFT"),Value.str (Str.ofString "LEFTSHIFT") 351,Value.int 33 350⟩,⟨PyData.keyHash P (Str.ofString "RIGHTSHIFT"),Value.str (Str.ofString "RIGHTSHIFT") 353,Value.int 34 352⟩,⟨PyData.keyHash P (Str.ofString "DOUBLESTAR"),Value.str (Str.ofString "DOUBLESTAR") 355,Value.int 35 354⟩,⟨PyData.keyHash P (Str.ofString "PLUSEQUAL"),Value.str (Str.ofString "PLUSEQUAL") 357,Value.int 36 356⟩,⟨PyData.keyHash P (Str.ofString "MINEQUAL"),Value.str (Str.ofString "MINEQUAL") 359,Value.int 37 358⟩,⟨PyData.keyHash P (Str.ofString "STAREQUAL"),Value.str (Str.ofString "STAREQUAL") 361,Value.int 38 360⟩,⟨PyData.keyHash P (Str.ofString "SLASHEQUAL"),Value.str (Str.ofString "SLASHEQUAL") 363,Value.int 39 362⟩,⟨PyData.keyHash P (Str.ofString "PERCENTEQUAL"),Value.str (Str.ofString "PERCENTEQUAL") 365,Value.int 40 364⟩,⟨PyData.keyHash P (Str.ofString "AMPEREQUAL"),Value.str (Str.ofString "AMPEREQUAL") 367,Value.int 41 366⟩,⟨PyData.keyHash P (Str.ofString "VBAREQUAL"),Value.str (Str.ofString "VBAREQUAL") 369,Value.int 42 368⟩,⟨PyData.keyHash P (Str.ofString "CIRCUMFLEXEQUAL"),Value.str (Str.ofString "CIRCUMFLEXEQUAL") 371,Value.int 43 370⟩,⟨PyData.keyHash P (Str.ofString "LEFTSHIFTEQUAL"),Value.str (Str.ofString "LEFTSHIFTEQUAL") 373,Value.int 44 372⟩,⟨PyData.keyHash P (Str.ofString "RIGHTSHIFTEQUAL"),Value.str (Str.ofString "RIGHTSHIFTEQUAL") 375,Value.int 45 374⟩,⟨PyData.keyHash P (Str.ofString "DOUBLESTAREQUAL"),Value.str (Str.ofString "DOUBLESTAREQUAL") 377,Value.int 46 376⟩,⟨PyData.keyHash P (Str.ofString "DOUBLESLASH"),Value.str (Str.ofString "DOUBLESLASH") 379,Value.int 47 378⟩,⟨PyData.keyHash P (Str.ofString "DOUBLESLASHEQUAL"),Value.str (Str.ofString "DOUBLESLASHEQUAL") 381,Value.int 48 380⟩,⟨PyData.keyHash P (Str.ofString "AT"),Value.str (Str.ofString "AT") 383,Value.int 49 382⟩,⟨PyData.keyHash P (Str.ofString "ATEQUAL"),Value.str (Str.ofString "ATEQUAL") 385,Value.int 50 384⟩,⟨PyData.keyHash P (Str.ofString "RARROW"),Value.str (Str.ofString "RARROW") 387,Value.int 51 386⟩,⟨PyData.keyHash P (Str.ofString "ELLIPSIS"),Value.str (Str.ofString "ELLIPSIS") 389,Value.int 52 388⟩,⟨PyData.keyHash P (Str.ofString "COLONEQUAL"),Value.str (Str.ofString "COLONEQUAL") 391,Value.int 53 390⟩,⟨PyData.keyHash P (Str.ofString "EXCLAMATION"),Value.str (Str.ofString "EXCLAMATION") 393,Value.int 54 392⟩,⟨PyData.keyHash P (Str.ofString "NT_OFFSET"),Value.str (Str.ofString "NT_OFFSET") 395,Value.int 256 394⟩,⟨PyData.keyHash P (Str.ofString "EXACT_TOKEN_TYPES"),Value.str (Str.ofString "EXACT_TOKEN_TYPES") 492,Value.ref 84⟩,⟨PyData.keyHash P (Str.ofString "ISTERMINAL"),Value.str (Str.ofString "ISTERMINAL") 499,Value.ref 93⟩,⟨PyData.keyHash P (Str.ofString "ISNONTERMINAL"),Value.str (Str.ofString "ISNONTERMINAL") 506,Value.ref 100⟩,⟨PyData.keyHash P (Str.ofString "ISEOF"),Value.str (Str.ofString "ISEOF") 513,Value.ref 107⟩,⟨PyData.keyHash P (Str.ofString "_law_figures"),Value.str (Str.ofString "_law_figures") 525,Value.ref 114⟩,⟨PyData.keyHash P (Str.ofString "_law_rule"),Value.str (Str.ofString "_law_rule") 550,Value.ref 121⟩,⟨PyData.keyHash P (Str.ofString "_law_cut"),Value.str (Str.ofString "_law_cut") 556,Value.ref 126⟩,⟨PyData.keyHash P (Str.ofString "_law_said"),Value.str (Str.ofString "_law_said") 568,Value.ref 133⟩,⟨PyData.keyHash P (Str.ofString "_law_due"),Value.str (Str.ofString "_law_due") 592,Value.ref 140⟩,⟨PyData.keyHash P (Str.ofString "_law_asked"),Value.str (Str.ofString "_law_asked") 598,Value.ref 145⟩,⟨PyData.keyHash P (Str.ofString "_law_ahead"),Value.str (Str.ofString "_law_ahead") 604,Value.ref 150⟩,⟨PyData.keyHash P (Str.ofString "_law_along"),Value.str (Str.ofString "_law_along") 610,Value.ref 155⟩,⟨PyData.keyHash P (Str.ofString "_law_two"),Value.str (Str.ofString "_law_two") 619,Value.ref 162⟩,⟨PyData.keyHash P (Str.ofString "_law_truth"),Value.str (Str.ofString "_law_truth") 625,Value.ref 167⟩,⟨PyData.keyHash P (Str.ofString "_law_walk"),Value.str (Str.ofString "_law_walk") 631,Value.ref 172⟩,⟨PyData.keyHash P (Str.ofString "_law_places"),Value.str (Str.ofString "_law_places") 637,Value.ref 177⟩,⟨PyData.keyHash P (Str.ofString "law"),Value.str (Str.ofString "law") 643,Value.ref 182⟩] 84}),
(15,{cls:=Value.type "tuple",data:=Data.seq #[]}),
(17,{cls:=Value.type "tuple",data:=Data.seq #[Value.str (Str.ofString "k") 190]}),
(18,{cls:=Value.type "tuple",data:=Data.seq #[]}),
(20,{cls:=Value.type "code",data:=Data.fields #[Value.str (Str.ofString "_wall") 187,Value.str (Str.ofString "_wall") 188,Value.str (Str.ofString "/claim/cut.py") 189,Value.int 1 0,Value.int 1 0,Value.int 0 0,Value.int 0 0,Value.int 3 0,Value.ref 15,Value.bool true,Value.int 181 0,Value.ref 16,Value.none,Value.ref 17,Value.ref 18,Value.ref 19,Value.int 191 0,Value.int 1 0,Value.str (Str.ofString "/claim/cut.py") 192]}),
(21,fnO (stAt 0) (Str.ofString "_wall") Value.none (Value.str (Str.ofString "__main__") 164) 20),
(22,{cls:=Value.type "tuple",data:=Data.seq #[]}),
(24,{cls:=Value.type "tuple",data:=Data.seq #[Value.str (Str.ofString "name") 201,Value.str (Str.ofString "x") 202,Value.str (Str.ofString "t") 203]}),
(25,{cls:=Value.type "tuple",data:=Data.seq #[]}),
(27,{cls:=Value.type "code",data:=Data.fields #[Value.str (Str.ofString "_kind") 198,Value.str (Str.ofString "_kind") 199,Value.str (Str.ofString "/claim/cut.py") 200,Value.int 6 0,Value.int 2 0,Value.int 0 0,Value.int 0 0,Value.int 3 0,Value.ref 22,Value.bool true,Value.int 181 0,Value.ref 23,Value.none,Value.ref 24,Value.ref 25,Value.ref 26,Value.int 204 0,Value.int 6 0,Value.str (Str.ofString "/claim/cut.py") 205]}),
(28,fnO (stAt 3) (Str.ofString "_kind") Value.none (Value.str (Str.ofString "os.path") 196) 27),
(29,{cls:=Value.type "tuple",data:=Data.seq #[]}),
(31,{cls:=Value.type "tuple",data:=Data.seq #[Value.str (Str.ofString "name") 210,Value.str (Str.ofString "cname") 211,Value.str (Str.ofString "argname") 212,Value.str (Str.ofString "args") 213,Value.str (Str.ofString "kwargs") 214,Value.str (Str.ofString "x") 215,Value.str (Str.ofString "k") 216]}),
(32,{cls:=Value.type "tuple",data:=Data.seq #[]}),
(34,{cls:=Value.type "code",data:=Data.fields #[Value.str (Str.ofString "_c_path") 207,Value.str (Str.ofString "_c_path") 208,Value.str (Str.ofString "/claim/cut.py") 209,Value.int 27 0,Value.int 5 0,Value.int 0 0,Value.int 0 0,Value.int 3 0,Value.ref 29,Value.bool true,Value.int 181 0,Value.ref 30,Value.none,Value.ref 31,Value.ref 32,Value.ref 33,Value.int 217 0,Value.int 27 0,Value.str (Str.ofString "/claim/cut.py") 218]}),
(35,fnO (stAt 4) (Str.ofString "_c_path") Value.none (Value.str (Str.ofString "os.path") 196) 34),
(36,{cls:=Value.type "tuple",data:=Data.seq #[]}),
(38,{cls:=Value.type "tuple",data:=Data.seq #[Value.str (Str.ofString "p") 223,Value.str (Str.ofString "sep") 224,Value.str (Str.ofString "empty") 225]}),
(39,{cls:=Value.type "tuple",data:=Data.seq #[]}),
(41,{cls:=Value.type "code",data:=Data.fields #[Value.str (Str.ofString "_splitroot") 220,Value.str (Str.ofString "_splitroot") 221,Value.str (Str.ofString "/claim/cut.py") 222,Value.int 38 0,Value.int 1 0,Value.int 0 0,Value.int 0 0,Value.int 3 0,Value.ref 36,Value.bool true,Value.int 181 0,Value.ref 37,Value.none,Value.ref 38,Value.ref 39,Value.ref 40,Value.int 226 0,Value.int 38 0,Value.str (Str.ofString "/claim/cut.py") 227]}),
(42,fnO (stAt 5) (Str.ofString "_splitroot") Value.none (Value.str (Str.ofString "os.path") 196) 41),
(43,{cls:=Value.type "tuple",data:=Data.seq #[]}),
(45,{cls:=Value.type "tuple",data:=Data.seq #[Value.str (Str.ofString "path") 232,Value.str (Str.ofString "sep") 233,Value.str (Str.ofString "dot") 234,Value.str (Str.ofString "dotdot") 235,Value.str (Str.ofString "_") 236,Value.str (Str.ofString "initial_slashes") 237,Value.str (Str.ofString "comps") 238,Value.str (Str.ofString "new_comps") 239,Value.str (Str.ofString "comp") 240]}),
(46,{cls:=Value.type "tuple",data:=Data.seq #[]}),
(48,{cls:=Value.type "code",data:=Data.fields #[Value.str (Str.ofString "_normpath") 229,Value.str (Str.ofString "_normpath") 230,Value.str (Str.ofString "/claim/cut.py") 231,Value.int 47 0,Value.int 1 0,Value.int 0 0,Value.int 0 0,Value.int 3 0,Value.ref 43,Value.bool true,Value.int 181 0,Value.ref 44,Value.none,Value.ref 45,Value.ref 46,Value.ref 47,Value.int 241 0,Value.int 47 0,Value.str (Str.ofString "/claim/cut.py") 242]}),
(49,fnO (stAt 6) (Str.ofString "_normpath") Value.none (Value.str (Str.ofString "os.path") 196) 48),
(50,{cls:=Value.type "tuple",data:=Data.seq #[]}),
(52,{cls:=Value.type "tuple",data:=Data.seq #[Value.str (Str.ofString "args") 247,Value.str (Str.ofString "kwargs") 248]}),
(53,{cls:=Value.type "tuple",data:=Data.seq #[]}),
(55,{cls:=Value.type "code",data:=Data.fields #[Value.str (Str.ofString "normpath") 244,Value.str (Str.ofString "normpath") 245,Value.str (Str.ofString "/claim/cut.py") 246,Value.int 66 0,Value.int 0 0,Value.int 0 0,Value.int 0 0,Value.int 15 0,Value.ref 50,Value.bool true,Value.int 181 0,Value.ref 51,Value.none,Value.ref 52,Value.ref 53,Value.ref 54,Value.int 249 0,Value.int 66 0,Value.str (Str.ofString "/claim/cut.py") 250]}),
(56,fnO (stAt 7) (Str.ofString "normpath") Value.none (Value.str (Str.ofString "os.path") 196) 55),
(64,{cls:=Value.type "tuple",data:=Data.seq #[Value.none,Value.none]}),
(65,{cls:=Value.type "tuple",data:=Data.seq #[]}),
(68,{cls:=Value.type "code",data:=Data.fields #[Value.str (Str.ofString "__init__") 266,Value.str (Str.ofString "_Ignore.__init__") 267,Value.str (Str.ofString "/claim/cut.py") 268,Value.int 71 0,Value.int 3 0,Value.int 0 0,Value.int 0 0,Value.int 3 0,Value.ref 65,Value.bool true,Value.int 181 0,Value.ref 66,Value.none,Value.none,Value.none,Value.ref 67,Value.int 269 0,Value.int 71 0,Value.str (Str.ofString "/claim/cut.py") 270]}),
(69,fnO (inCls 9 0) (Str.ofString "_Ignore.__init__") (Value.ref 64) (Value.str (Str.ofString "cpy313.trace") 252) 68),
(70,{cls:=Value.type "tuple",data:=Data.seq #[]}),
(72,{cls:=Value.type "tuple",data:=Data.seq #[Value.str (Str.ofString "self") 275,Value.str (Str.ofString "filename") 276,Value.str (Str.ofString "modulename") 277,Value.str (Str.ofString "mod") 278,Value.str (Str.ofString "d") 279]}),
(73,{cls:=Value.type "tuple",data:=Data.seq #[]}),
(75,{cls:=Value.type "code",data:=Data.fields #[Value.str (Str.ofString "names") 272,Value.str (Str.ofString "_Ignore.names") 273,Value.str (Str.ofString "/claim/cut.py") 274,Value.int 76 0,Value.int 3 0,Value.int 0 0,Value.int 0 0,Value.int 3 0,Value.ref 70,Value.bool true,Value.int 181 0,Value.ref 71,Value.none,Value.ref 72,Value.ref 73,Value.ref 74,Value.int 280 0,Value.int 76 0,Value.str (Str.ofString "/claim/cut.py") 281]}),
(76,fnO (inCls 9 1) (Str.ofString "_Ignore.names") Value.none (Value.str (Str.ofString "cpy313.trace") 252) 75),
(77,{cls:=Value.type "tuple",data:=Data.seq #[Value.str (Str.ofString "_dirs") 283,Value.str (Str.ofString "_ignore") 284,Value.str (Str.ofString "_mods") 285]}),
(78,{cls:=Value.type "dict",data:=Data.dict #[⟨PyData.keyHash P (Str.ofString "__module__"),Value.str (Str.ofString "__module__") 261,Value.str (Str.ofString "cpy313.trace") 252⟩,⟨PyData.keyHash P (Str.ofString "__firstlineno__"),Value.str (Str.ofString "__firstlineno__") 265,Value.int 69 264⟩,⟨PyData.keyHash P (Str.ofString "__init__"),Value.str (Str.ofString "__init__") 271,Value.ref 69⟩,⟨PyData.keyHash P (Str.ofString "names"),Value.str (Str.ofString "names") 282,Value.ref 76⟩,⟨PyData.keyHash P (Str.ofString "__static_attributes__"),Value.str (Str.ofString "__static_attributes__") 286,Value.ref 77⟩,⟨PyData.keyHash P (Str.ofString "__dict__"),Value.str (Str.ofString "__dict__") 288,Value.ref 80⟩,⟨PyData.keyHash P (Str.ofString "__weakref__"),Value.str (Str.ofString "__weakref__") 290,Value.ref 81⟩,⟨PyData.keyHash P (Str.ofString "__doc__"),Value.str (Str.ofString "__doc__") 291,Value.none⟩] 4}),
(79,{cls:=Value.type "type",data:=Data.cls {name:=Str.ofString "_Ignore",bases:=[Value.type "object"],mro:=[Value.ref 79,Value.type "object"],ns:=78,qualname:=Str.ofString "_Ignore"},slots:=#[none,none,some (Value.str (Str.ofString "_Ignore") 254),some (Value.str (Str.ofString "_Ignore") 262),some (Value.builtin "object.__new__"),some (Value.bool true)]}),
(80,{cls:=Value.type "getset_descriptor",data:=Data.fields #[Value.str (Str.ofString "__dict__") 287,Value.ref 79,Value.builtin "function.__dict__",Value.builtin "function.__dict__#set"]}),
(81,{cls:=Value.type "getset_descriptor",data:=Data.fields #[Value.str (Str.ofString "__weakref__") 289,Value.ref 79,Value.builtin "ExceptionGroup.__weakref__",Value.none]}),
(84,{cls:=Value.type "dict",data:=Data.dict #[⟨PyData.keyHash P (Str.ofString "!"),Value.str (Str.ofString "!") 396,Value.int 54 392⟩,⟨PyData.keyHash P (Str.ofString "!="),Value.str (Str.ofString "!=") 398,Value.int 28 340⟩,⟨PyData.keyHash P (Str.ofString "%"),Value.str (Str.ofString "%") 400,Value.int 24 332⟩,⟨PyData.keyHash P (Str.ofString "%="),Value.str (Str.ofString "%=") 402,Value.int 40 364⟩,⟨PyData.keyHash P (Str.ofString "&"),Value.str (Str.ofString "&") 404,Value.int 19 322⟩,⟨PyData.keyHash P (Str.ofString "&="),Value.str (Str.ofString "&=") 406,Value.int 41 366⟩,⟨PyData.keyHash P (Str.ofString "("),Value.str (Str.ofString "(") 408,Value.int 7 298⟩,⟨PyData.keyHash P (Str.ofString ")"),Value.str (Str.ofString ")") 410,Value.int 8 300⟩,⟨PyData.keyHash P (Str.ofString "*"),Value.str (Str.ofString "*") 412,Value.int 16 316⟩,⟨PyData.keyHash P (Str.ofString "**"),Value.str (Str.ofString "**") 414,Value.int 35 354⟩,⟨PyData.keyHash P (Str.ofString "**="),Value.str (Str.ofString "**=") 416,Value.int 46 376⟩,⟨PyData.keyHash P (Str.ofString "*="),Value.str (Str.ofString "*=") 418,Value.int 38 360⟩,⟨PyData.keyHash P (Str.ofString "+"),Value.str (Str.ofString "+") 420,Value.int 14 312⟩,⟨PyData.keyHash P (Str.ofString "+="),Value.str (Str.ofString "+=") 422,Value.int 36 356⟩,⟨PyData.keyHash P (Str.ofString ","),Value.str (Str.ofString ",") 424,Value.int 12 308⟩,⟨PyData.keyHash P (Str.ofString "-"),Value.str (Str.ofString "-") 426,Value.int 15 314⟩,⟨PyData.keyHash P (Str.ofString "-="),Value.str (Str.ofString "-=") 428,Value.int 37 358⟩,⟨PyData.keyHash P (Str.ofString "->"),Value.str (Str.ofString "->") 430,Value.int 51 386⟩,⟨PyData.keyHash P (Str.ofString "."),Value.str (Str.ofString ".") 432,Value.int 23 330⟩,⟨PyData.keyHash P (Str.ofString "..."),Value.str (Str.ofString "...") 434,Value.int 52 388⟩,⟨PyData.keyHash P (Str.ofString "/"),Value.str (Str.ofString "/") 436,Value.int 17 318⟩,⟨PyData.keyHash P (Str.ofString "//"),Value.str (Str.ofString "//") 438,Value.int 47 378⟩,⟨PyData.keyHash P (Str.ofString "//="),Value.str (Str.ofString "//=") 440,Value.int 48 380⟩,⟨PyData.keyHash P (Str.ofString "/="),Value.str (Str.ofString "/=") 442,Value.int 39 362⟩,⟨PyData.keyHash P (Str.ofString ":"),Value.str (Str.ofString ":") 444,Value.int 11 306⟩,⟨PyData.keyHash P (Str.ofString ":="),Value.str (Str.ofString ":=") 446,Value.int 53 390⟩,⟨PyData.keyHash P (Str.ofString ";"),Value.str (Str.ofString ";") 448,Value.int 13 310⟩,⟨PyData.keyHash P (Str.ofString "<"),Value.str (Str.ofString "<") 450,Value.int 20 324⟩,⟨PyData.keyHash P (Str.ofString "<<"),Value.str (Str.ofString "<<") 452,Value.int 33 350⟩,⟨PyData.keyHash P (Str.ofString "<<="),Value.str (Str.ofString "<<=") 454,Value.int 44 372⟩,⟨PyData.keyHash P (Str.ofString "<="),Value.str (Str.ofString "<=") 456,Value.int 29 342⟩,⟨PyData.keyHash P (Str.ofString "="),Value.str (Str.ofString "=") 458,Value.int 22 328⟩,⟨PyData.keyHash P (Str.ofString "=="),Value.str (Str.ofString "==") 460,Value.int 27 338⟩,⟨PyData.keyHash P (Str.ofString ">"),Value.str (Str.ofString ">") 462,Value.int 21 326⟩,⟨PyData.keyHash P (Str.ofString ">="),Value.str (Str.ofString ">=") 464,Value.int 30 344⟩,⟨PyData.keyHash P (Str.ofString ">>"),Value.str (Str.ofString ">>") 465,Value.int 34 352⟩,⟨PyData.keyHash P (Str.ofString ">>="),Value.str (Str.ofString ">>=") 466,Value.int 45 374⟩,⟨PyData.keyHash P (Str.ofString "@"),Value.str (Str.ofString "@") 467,Value.int 49 382⟩,⟨PyData.keyHash P (Str.ofString "@="),Value.str (Str.ofString "@=") 468,Value.int 50 384⟩,⟨PyData.keyHash P (Str.ofString "["),Value.str (Str.ofString "[") 469,Value.int 9 302⟩,⟨PyData.keyHash P (Str.ofString "]"),Value.str (Str.ofString "]") 470,Value.int 10 304⟩,⟨PyData.keyHash P (Str.ofString "^"),Value.str (Str.ofString "^") 471,Value.int 32 348⟩,⟨PyData.keyHash P (Str.ofString "^="),Value.str (Str.ofString "^=") 472,Value.int 43 370⟩,⟨PyData.keyHash P (Str.ofString "{"),Value.str (Str.ofString "{") 473,Value.int 25 334⟩,⟨PyData.keyHash P (Str.ofString "|"),Value.str (Str.ofString "|") 474,Value.int 18 320⟩,⟨PyData.keyHash P (Str.ofString "|="),Value.str (Str.ofString "|=") 475,Value.int 42 368⟩,⟨PyData.keyHash P (Str.ofString "}"),Value.str (Str.ofString "}") 476,Value.int 26 336⟩,⟨PyData.keyHash P (Str.ofString "~"),Value.str (Str.ofString "~") 477,Value.int 31 346⟩] 48}),
(87,{cls:=Value.type "tuple",data:=Data.seq #[]}),
(89,{cls:=Value.type "tuple",data:=Data.seq #[Value.str (Str.ofString "x") 496]}),
(90,{cls:=Value.type "tuple",data:=Data.seq #[]}),
(92,{cls:=Value.type "code",data:=Data.fields #[Value.str (Str.ofString "ISTERMINAL") 493,Value.str (Str.ofString "ISTERMINAL") 494,Value.str (Str.ofString "/claim/cut.py") 495,Value.int 147 0,Value.int 1 0,Value.int 0 0,Value.int 0 0,Value.int 3 0,Value.ref 87,Value.bool true,Value.int 181 0,Value.ref 88,Value.none,Value.ref 89,Value.ref 90,Value.ref 91,Value.int 497 0,Value.int 147 0,Value.str (Str.ofString "/claim/cut.py") 498]}),
(93,fnO (stAt 62) (Str.ofString "ISTERMINAL") Value.none (Value.str (Str.ofString "cpy313.token") 294) 92),
(94,{cls:=Value.type "tuple",data:=Data.seq #[]}),
(96,{cls:=Value.type "tuple",data:=Data.seq #[Value.str (Str.ofString "x") 503]}),
(97,{cls:=Value.type "tuple",data:=Data.seq #[]}),
(99,{cls:=Value.type "code",data:=Data.fields #[Value.str (Str.ofString "ISNONTERMINAL") 500,Value.str (Str.ofString "ISNONTERMINAL") 501,Value.str (Str.ofString "/claim/cut.py") 502,Value.int 149 0,Value.int 1 0,Value.int 0 0,Value.int 0 0,Value.int 3 0,Value.ref 94,Value.bool true,Value.int 181 0,Value.ref 95,Value.none,Value.ref 96,Value.ref 97,Value.ref 98,Value.int 504 0,Value.int 149 0,Value.str (Str.ofString "/claim/cut.py") 505]}),
(100,fnO (stAt 63) (Str.ofString "ISNONTERMINAL") Value.none (Value.str (Str.ofString "cpy313.token") 294) 99),
(101,{cls:=Value.type "tuple",data:=Data.seq #[]}),
(103,{cls:=Value.type "tuple",data:=Data.seq #[Value.str (Str.ofString "x") 510]}),
(104,{cls:=Value.type "tuple",data:=Data.seq #[]}),
(106,{cls:=Value.type "code",data:=Data.fields #[Value.str (Str.ofString "ISEOF") 507,Value.str (Str.ofString "ISEOF") 508,Value.str (Str.ofString "/claim/cut.py") 509,Value.int 151 0,Value.int 1 0,Value.int 0 0,Value.int 0 0,Value.int 3 0,Value.ref 101,Value.bool true,Value.int 181 0,Value.ref 102,Value.none,Value.ref 103,Value.ref 104,Value.ref 105,Value.int 511 0,Value.int 151 0,Value.str (Str.ofString "/claim/cut.py") 512]}),
(107,fnO (stAt 64) (Str.ofString "ISEOF") Value.none (Value.str (Str.ofString "cpy313.token") 294) 106),
(108,{cls:=Value.type "tuple",data:=Data.seq #[]}),
(110,{cls:=Value.type "tuple",data:=Data.seq #[Value.str (Str.ofString "number") 519,Value.str (Str.ofString "bases") 520,Value.str (Str.ofString "figures") 521,Value.str (Str.ofString "base") 522]}),
(111,{cls:=Value.type "tuple",data:=Data.seq #[]}),
(113,{cls:=Value.type "code",data:=Data.fields #[Value.str (Str.ofString "_law_figures") 516,Value.str (Str.ofString "_law_figures") 517,Value.str (Str.ofString "/claim/cut.py") 518,Value.int 154 0,Value.int 2 0,Value.int 0 0,Value.int 0 0,Value.int 3 0,Value.ref 108,Value.bool true,Value.int 181 0,Value.ref 109,Value.none,Value.ref 110,Value.ref 111,Value.ref 112,Value.int 523 0,Value.int 154 0,Value.str (Str.ofString "/claim/cut.py") 524]}),
(114,fnO (stAt 66) (Str.ofString "_law_figures") Value.none (Value.str (Str.ofString "law_pw0017_01") 514) 113),
(115,{cls:=Value.type "tuple",data:=Data.seq #[]}),
(117,{cls:=Value.type "tuple",data:=Data.seq #[Value.str (Str.ofString "forms") 529,Value.str (Str.ofString "boxes") 530,Value.str (Str.ofString "some") 531,Value.str (Str.ofString "which") 532,Value.str (Str.ofString "signs") 533,Value.str (Str.ofString "said") 534,Value.str (Str.ofString "i") 535,Value.str (Str.ofString "far") 536,Value.str (Str.ofString "turn") 537,Value.str (Str.ofString "sign") 538,Value.str (Str.ofString "dots") 539,Value.str (Str.ofString "back") 540,Value.str (Str.ofString "mark") 541,Value.str (Str.ofString "about") 542,Value.str (Str.ofString "name") 543,Value.str (Str.ofString "text") 544,Value.str (Str.ofString "first") 545,Value.str (Str.ofString "other") 546,Value.str (Str.ofString "second") 547]}),
(118,{cls:=Value.type "tuple",data:=Data.seq #[]}),
(120,{cls:=Value.type "code",data:=Data.fields #[Value.str (Str.ofString "_law_rule") 526,Value.str (Str.ofString "_law_rule") 527,Value.str (Str.ofString "/claim/cut.py") 528,Value.int 160 0,Value.int 4 0,Value.int 0 0,Value.int 0 0,Value.int 3 0,Value.ref 115,Value.bool true,Value.int 181 0,Value.ref 116,Value.none,Value.ref 117,Value.ref 118,Value.ref 119,Value.int 548 0,Value.int 160 0,Value.str (Str.ofString "/claim/cut.py") 549]}),
(121,fnO (stAt 67) (Str.ofString "_law_rule") Value.none (Value.str (Str.ofString "law_pw0017_01") 514) 120),
(122,{cls:=Value.type "tuple",data:=Data.seq #[]}),
(125,{cls:=Value.type "code",data:=Data.fields #[Value.str (Str.ofString "_law_cut") 551,Value.str (Str.ofString "_law_cut") 552,Value.str (Str.ofString "/claim/cut.py") 553,Value.int 171 0,Value.int 1 0,Value.int 0 0,Value.int 0 0,Value.int 3 0,Value.ref 122,Value.bool true,Value.int 181 0,Value.ref 123,Value.none,Value.none,Value.none,Value.ref 124,Value.int 554 0,Value.int 171 0,Value.str (Str.ofString "/claim/cut.py") 555]}),
(126,fnO (stAt 68) (Str.ofString "_law_cut") Value.none (Value.str (Str.ofString "law_pw0017_01") 514) 125),
(127,{cls:=Value.type "tuple",data:=Data.seq #[]}),
(129,{cls:=Value.type "tuple",data:=Data.seq #[Value.str (Str.ofString "forms") 560,Value.str (Str.ofString "boxes") 561,Value.str (Str.ofString "name") 562,Value.str (Str.ofString "number") 563,Value.str (Str.ofString "symbols") 564,Value.str (Str.ofString "row") 565]}),
(130,{cls:=Value.type "tuple",data:=Data.seq #[]}),
(132,{cls:=Value.type "code",data:=Data.fields #[Value.str (Str.ofString "_law_said") 557,Value.str (Str.ofString "_law_said") 558,Value.str (Str.ofString "/claim/cut.py") 559,Value.int 183 0,Value.int 3 0,Value.int 0 0,Value.int 0 0,Value.int 3 0,Value.ref 127,Value.bool true,Value.int 181 0,Value.ref 128,Value.none,Value.ref 129,Value.ref 130,Value.ref 131,Value.int 566 0,Value.int 183 0,Value.str (Str.ofString "/claim/cut.py") 567]}),
(133,fnO (stAt 69) (Str.ofString "_law_said") Value.none (Value.str (Str.ofString "law_pw0017_01") 514) 132),
(134,{cls:=Value.type "tuple",data:=Data.seq #[]}),
(136,{cls:=Value.type "tuple",data:=Data.seq #[Value.str (Str.ofString "forms") 572,Value.str (Str.ofString "boxes") 573,Value.str (Str.ofString "some") 574,Value.str (Str.ofString "which") 575,Value.str (Str.ofString "signs") 576,Value.str (Str.ofString "said") 577,Value.str (Str.ofString "i") 578,Value.str (Str.ofString "far") 579,Value.str (Str.ofString "turn") 580,Value.str (Str.ofString "sign") 581,Value.str (Str.ofString "dots") 582,Value.str (Str.ofString "back") 583,Value.str (Str.ofString "mark") 584,Value.str (Str.ofString "about") 585,Value.str (Str.ofString "row") 586,Value.str (Str.ofString "first") 587,Value.str (Str.ofString "other") 588,Value.str (Str.ofString "second") 589]}),
(137,{cls:=Value.type "tuple",data:=Data.seq #[]}),
(139,{cls:=Value.type "code",data:=Data.fields #[Value.str (Str.ofString "_law_due") 569,Value.str (Str.ofString "_law_due") 570,Value.str (Str.ofString "/claim/cut.py") 571,Value.int 194 0,Value.int 4 0,Value.int 0 0,Value.int 0 0,Value.int 3 0,Value.ref 134,Value.bool true,Value.int 181 0,Value.ref 135,Value.none,Value.ref 136,Value.ref 137,Value.ref 138,Value.int 590 0,Value.int 194 0,Value.str (Str.ofString "/claim/cut.py") 591]}),
(140,fnO (stAt 70) (Str.ofString "_law_due") Value.none (Value.str (Str.ofString "law_pw0017_01") 514) 139),
(141,{cls:=Value.type "tuple",data:=Data.seq #[]}),
(144,{cls:=Value.type "code",data:=Data.fields #[Value.str (Str.ofString "_law_asked") 593,Value.str (Str.ofString "_law_asked") 594,Value.str (Str.ofString "/claim/cut.py") 595,Value.int 207 0,Value.int 3 0,Value.int 0 0,Value.int 0 0,Value.int 3 0,Value.ref 141,Value.bool true,Value.int 181 0,Value.ref 142,Value.none,Value.none,Value.none,Value.ref 143,Value.int 596 0,Value.int 207 0,Value.str (Str.ofString "/claim/cut.py") 597]}),
(145,fnO (stAt 71) (Str.ofString "_law_asked") Value.none (Value.str (Str.ofString "law_pw0017_01") 514) 144),
(146,{cls:=Value.type "tuple",data:=Data.seq #[]}),
(149,{cls:=Value.type "code",data:=Data.fields #[Value.str (Str.ofString "_law_ahead") 599,Value.str (Str.ofString "_law_ahead") 600,Value.str (Str.ofString "/claim/cut.py") 601,Value.int 212 0,Value.int 2 0,Value.int 0 0,Value.int 0 0,Value.int 3 0,Value.ref 146,Value.bool true,Value.int 181 0,Value.ref 147,Value.none,Value.none,Value.none,Value.ref 148,Value.int 602 0,Value.int 212 0,Value.str (Str.ofString "/claim/cut.py") 603]}),
(150,fnO (stAt 72) (Str.ofString "_law_ahead") Value.none (Value.str (Str.ofString "law_pw0017_01") 514) 149),
(151,{cls:=Value.type "tuple",data:=Data.seq #[]}),
(154,{cls:=Value.type "code",data:=Data.fields #[Value.str (Str.ofString "_law_along") 605,Value.str (Str.ofString "_law_along") 606,Value.str (Str.ofString "/claim/cut.py") 607,Value.int 214 0,Value.int 2 0,Value.int 0 0,Value.int 0 0,Value.int 3 0,Value.ref 151,Value.bool true,Value.int 181 0,Value.ref 152,Value.none,Value.none,Value.none,Value.ref 153,Value.int 608 0,Value.int 214 0,Value.str (Str.ofString "/claim/cut.py") 609]}),
(155,fnO (stAt 73) (Str.ofString "_law_along") Value.none (Value.str (Str.ofString "law_pw0017_01") 514) 154),
(156,{cls:=Value.type "tuple",data:=Data.seq #[]}),
(158,{cls:=Value.type "tuple",data:=Data.seq #[Value.str (Str.ofString "sign") 614,Value.str (Str.ofString "a") 615,Value.str (Str.ofString "b") 616]}),
(159,{cls:=Value.type "tuple",data:=Data.seq #[]}),
(161,{cls:=Value.type "code",data:=Data.fields #[Value.str (Str.ofString "_law_two") 611,Value.str (Str.ofString "_law_two") 612,Value.str (Str.ofString "/claim/cut.py") 613,Value.int 216 0,Value.int 3 0,Value.int 0 0,Value.int 0 0,Value.int 3 0,Value.ref 156,Value.bool true,Value.int 181 0,Value.ref 157,Value.none,Value.ref 158,Value.ref 159,Value.ref 160,Value.int 617 0,Value.int 216 0,Value.str (Str.ofString "/claim/cut.py") 618]}),
(162,fnO (stAt 74) (Str.ofString "_law_two") Value.none (Value.str (Str.ofString "law_pw0017_01") 514) 161),
(163,{cls:=Value.type "tuple",data:=Data.seq #[]}),
(166,{cls:=Value.type "code",data:=Data.fields #[Value.str (Str.ofString "_law_truth") 620,Value.str (Str.ofString "_law_truth") 621,Value.str (Str.ofString "/claim/cut.py") 622,Value.int 218 0,Value.int 3 0,Value.int 0 0,Value.int 0 0,Value.int 3 0,Value.ref 163,Value.bool true,Value.int 181 0,Value.ref 164,Value.none,Value.none,Value.none,Value.ref 165,Value.int 623 0,Value.int 218 0,Value.str (Str.ofString "/claim/cut.py") 624]}),
(167,fnO (stAt 75) (Str.ofString "_law_truth") Value.none (Value.str (Str.ofString "law_pw0017_01") 514) 166),
(168,{cls:=Value.type "tuple",data:=Data.seq #[]}),
(171,{cls:=Value.type "code",data:=Data.fields #[Value.str (Str.ofString "_law_walk") 626,Value.str (Str.ofString "_law_walk") 627,Value.str (Str.ofString "/claim/cut.py") 628,Value.int 235 0,Value.int 4 0,Value.int 0 0,Value.int 0 0,Value.int 3 0,Value.ref 168,Value.bool true,Value.int 181 0,Value.ref 169,Value.none,Value.none,Value.none,Value.ref 170,Value.int 629 0,Value.int 235 0,Value.str (Str.ofString "/claim/cut.py") 630]}),
(172,fnO (stAt 76) (Str.ofString "_law_walk") Value.none (Value.str (Str.ofString "law_pw0017_01") 514) 171),
(173,{cls:=Value.type "tuple",data:=Data.seq #[]}),
(176,{cls:=Value.type "code",data:=Data.fields #[Value.str (Str.ofString "_law_places") 632,Value.str (Str.ofString "_law_places") 633,Value.str (Str.ofString "/claim/cut.py") 634,Value.int 254 0,Value.int 1 0,Value.int 0 0,Value.int 0 0,Value.int 3 0,Value.ref 173,Value.bool true,Value.int 181 0,Value.ref 174,Value.none,Value.none,Value.none,Value.ref 175,Value.int 635 0,Value.int 254 0,Value.str (Str.ofString "/claim/cut.py") 636]}),
(177,fnO (stAt 77) (Str.ofString "_law_places") Value.none (Value.str (Str.ofString "law_pw0017_01") 514) 176),
(178,{cls:=Value.type "tuple",data:=Data.seq #[]}),
(181,{cls:=Value.type "code",data:=Data.fields #[Value.str (Str.ofString "law") 638,Value.str (Str.ofString "law") 639,Value.str (Str.ofString "/claim/cut.py") 640,Value.int 259 0,Value.int 1 0,Value.int 0 0,Value.int 0 0,Value.int 3 0,Value.ref 178,Value.bool true,Value.int 181 0,Value.ref 179,Value.none,Value.none,Value.none,Value.ref 180,Value.int 641 0,Value.int 259 0,Value.str (Str.ofString "/claim/cut.py") 642]}),
(182,fnO (stAt 78) (Str.ofString "law") Value.none (Value.str (Str.ofString "law_pw0017_01") 514) 181)]
noncomputable def heapA : List Addr := [2, 3, 15, 17, 18, 20, 21, 22, 24, 25, 27, 28, 29, 31, 32, 34, 35, 36, 38, 39, 41, 42, 43, 45, 46, 48, 49, 50, 52, 53, 55, 56, 64, 65, 68, 69, 70, 72, 73, 75, 76, 77, 78, 79, 80, 81, 84, 87, 89, 90, 92, 93, 94, 96, 97, 99, 100, 101, 103, 104, 106, 107, 108, 110, 111, 113, 114, 115, 117, 118, 120, 121, 122, 125, 126, 127, 129, 130, 132, 133, 134, 136, 137, 139, 140, 141, 144, 145, 146, 149, 150, 151, 154, 155, 156, 158, 159, 161, 162, 163, 166, 167, 168, 171, 172, 173, 176, 177, 178, 181, 182]
end Mine
open PySem PySem.Spec PySem.Calls PySem.W PyProof.Rows
set_option Elab.async false
set_option maxRecDepth 100000
set_option maxHeartbeats 1000000
set_option linter.unusedVariables false
namespace Mine

abbrev Bad := Addr → Prop

noncomputable def lookI : List (PyData × PyData) → Int → Option PyData
  | [], _ => none
  | (.int j, d) :: r, k => if j = k then some d else lookI r k
  | _ :: r, k => lookI r k

noncomputable def IsTupP (h : Heap) (a : Addr) (vs : Array Value) : Prop := ∃ n, h.get? a = some { cls := .type "tuple", data := .seq vs n }
theorem IsTupP.isTup {h : Heap} {a vs} (x : IsTupP h a vs) : IsTup h a vs := let ⟨n, e⟩ := x; ⟨_, e, rfl, n, rfl⟩

mutual
inductive Rep (B : Bad) (h : Heap) : Value → PyData → Prop
  | none : Rep B h .none .none
  | bool (b) : Rep B h (.bool b) (.bool b)
  | int (i t) : Rep B h (.int i t) (.int i)
  | str (x t) : Rep B h (.str x t) (.str x)
  | list {a vs xs} : ¬ B a → h.PlainList a vs → RepAll B h vs.toList xs → Rep B h (.ref a) (.list xs)
  | tuple {a vs xs} : ¬ B a → IsTupP h a vs → RepAll B h vs.toList xs → Rep B h (.ref a) (.tuple xs)
  | dict {a f kvs} : ¬ B a → (∃ o, h.get? a = some o ∧ o.ExactDict) → (a == sysModules) = false → h.IntMap a f → (∀ k, (f k).isSome = (lookI kvs k).isSome) → (∀ k d, lookI kvs k = some d → Rep B h ((f k).getD .none) d) → Rep B h (.ref a) (.dict kvs)
inductive RepAll (B : Bad) (h : Heap) : List Value → List PyData → Prop
  | nil : RepAll B h [] []
  | cons {v vs d ds} : Rep B h v d → RepAll B h vs ds → RepAll B h (v :: vs) (d :: ds)
end

theorem Rep.tr {B B' : Bad} {h h' : Heap} (H : ∀ b o, ¬ B b → h.get? b = some o → ¬ B' b ∧ h'.get? b = some o) {v d} (r : Rep B h v d) : Rep B' h' v d :=
  Rep.rec (motive_1 := fun v d _ => Rep B' h' v d) (motive_2 := fun vs ds _ => RepAll B' h' vs ds) .none .bool .int .str
    (fun hb p _ ih => .list (H _ _ hb p.choose_spec).1 ⟨_, (H _ _ hb p.choose_spec).2⟩ ih)
    (fun hb p _ ih => .tuple (H _ _ hb p.choose_spec).1 ⟨_, (H _ _ hb p.choose_spec).2⟩ ih)
    (fun hb p hm q h1 _ ih => .dict (H _ _ hb p.choose_spec.1).1 ⟨_, (H _ _ hb p.choose_spec.1).2, p.choose_spec.2⟩ hm (q.imp fun o q => q.imp fun es q => q.imp fun ep q => ⟨(H _ _ hb q.1).2, q.2⟩) h1 ih)
    .nil (fun _ _ a b => .cons a b) r
theorem RepAll.ind {B : Bad} {h : Heap} {P : List Value → List PyData → Prop} (hn : P [] []) (hc : ∀ v d vs ds, Rep B h v d → RepAll B h vs ds → P vs ds → P (v :: vs) (d :: ds)) {vs ds} (r : RepAll B h vs ds) : P vs ds :=
  RepAll.rec (motive_1 := fun _ _ _ => True) (motive_2 := fun vs ds _ => P vs ds) trivial (fun _ => trivial) (fun _ _ => trivial) (fun _ _ => trivial) (fun _ _ _ _ => trivial) (fun _ _ _ _ => trivial) (fun _ _ _ _ _ _ _ => trivial) hn (fun a b _ c => hc _ _ _ _ a b c) r
theorem RepAll.tr {B B' : Bad} {h h' : Heap} (H : ∀ b o, ¬ B b → h.get? b = some o → ¬ B' b ∧ h'.get? b = some o) {vs ds} (r : RepAll B h vs ds) : RepAll B' h' vs ds :=
  r.ind (P := fun vs ds => RepAll B' h' vs ds) .nil fun _ _ _ _ a _ b => .cons (a.tr H) b

mutual
noncomputable def noDict : PyData → Bool
  | .dict _ => false
  | .list xs => noDicts xs
  | .tuple xs => noDicts xs
  | _ => true
noncomputable def noDicts : List PyData → Bool
  | [] => true
  | x :: r => noDict x && noDicts r
end

theorem RepAll.length {B : Bad} {h : Heap} {vs ds} (r : RepAll B h vs ds) : vs.length = ds.length :=
  r.ind (P := fun vs ds => vs.length = ds.length) rfl fun _ _ _ _ _ _ e => congrArg (· + 1) e
theorem RepAll.append {B : Bad} {h : Heap} {vs ds us es} (r : RepAll B h vs ds) (q : RepAll B h us es) : RepAll B h (vs ++ us) (ds ++ es) :=
  r.ind (P := fun vs ds => RepAll B h (vs ++ us) (ds ++ es)) q fun _ _ _ _ a _ b => .cons a b
theorem RepAll.get {B : Bad} {h : Heap} {vs ds} {i : Nat} {d} (r : RepAll B h vs ds) (e : ds[i]? = some d) : ∃ v, vs[i]? = some v ∧ Rep B h v d := by
  refine r.ind (P := fun vs ds => ∀ (i : Nat) d, ds[i]? = some d → ∃ v, vs[i]? = some v ∧ Rep B h v d) (fun i d e => by cases e) (fun v d vs ds a _ ih i d' e => ?_) i d e
  cases i with
  | zero => cases e; exact ⟨v, rfl, a⟩
  | succ i => exact ih i d' e
theorem RepAll.get' {B : Bad} {h : Heap} {vs ds} {i : Nat} {v} (r : RepAll B h vs ds) (e : vs[i]? = some v) : ∃ d, ds[i]? = some d ∧ Rep B h v d := by
  refine r.ind (P := fun vs ds => ∀ (i : Nat) v, vs[i]? = some v → ∃ d, ds[i]? = some d ∧ Rep B h v d) (fun i d e => by cases e) (fun v d vs ds a _ ih i d' e => ?_) i v e
  cases i with
  | zero => cases e; exact ⟨d, rfl, a⟩
  | succ i => exact ih i d' e
theorem RepAll.take {B : Bad} {h : Heap} {vs ds} (n : Nat) (r : RepAll B h vs ds) : RepAll B h (vs.take n) (ds.take n) := by
  refine r.ind (P := fun vs ds => ∀ n, RepAll B h (vs.take n) (ds.take n)) (fun n => by cases n <;> exact .nil) (fun v d vs ds a _ ih n => ?_) n
  cases n with
  | zero => exact .nil
  | succ n => exact .cons a (ih n)
theorem RepAll.drop {B : Bad} {h : Heap} {vs ds} (n : Nat) (r : RepAll B h vs ds) : RepAll B h (vs.drop n) (ds.drop n) := by
  refine r.ind (P := fun vs ds => ∀ n, RepAll B h (vs.drop n) (ds.drop n)) (fun n => by cases n <;> exact .nil) (fun v d vs ds a b ih n => ?_) n
  cases n with
  | zero => exact .cons a b
  | succ n => exact ih n

theorem Rep.reads {B : Bad} {h : Heap} {v d} (r : Rep B h v d) (e : noDict d = true) : ∃ as, Reads h v d as :=
  Rep.rec (motive_1 := fun v d _ => noDict d = true → ∃ as, Reads h v d as) (motive_2 := fun vs ds _ => noDicts ds = true → ∃ as, ReadsAll h vs ds as)
    (fun _ => ⟨_, .none⟩) (fun b _ => ⟨_, .bool b⟩) (fun i t _ => ⟨_, .int i t⟩) (fun x t _ => ⟨_, .str x t⟩)
    (fun _ p _ ih e => (ih e).elim fun _ r => ⟨_, .list p.choose_spec rfl rfl r⟩)
    (fun _ p _ ih e => (ih e).elim fun _ r => ⟨_, .tuple p.choose_spec rfl rfl r⟩)
    (fun _ _ _ _ _ _ _ e => Bool.noConfusion (e : false = true))
    (fun _ => ⟨_, .nil⟩)
    (fun {v vs d ds} _ _ a b e => have e' : (noDict d && noDicts ds) = true := e; (a (Bool.and_eq_true_iff.mp e').1).elim fun _ ra => (b (Bool.and_eq_true_iff.mp e').2).elim fun _ rr => ⟨_, .cons ra rr⟩) r e

/-- the facts of the program's top that every heap bears -/
structure Wd (w : World) (h : Heap) : Prop where
  K : (Mine.heapK w.params).In h
  T : ∃ p loose mg mb, TopRead p loose mg mb h
theorem Wd.keeps {w : World} {h h' : Heap} (W : Wd w h) (k : h.StaysIn h') : Wd w h' :=
  ⟨W.K.keeps k, let ⟨p, l, mg, mb, T⟩ := W.T; ⟨p, l, mg, mb, T.keeps k⟩⟩
theorem Wd.nolimit {w : World} {h : Heap} (W : Wd w h) : h.NoLimit := let ⟨_, _, _, _, T⟩ := W.T; T.nolimit

inductive Sl where
  | fro (d : PyData)
  | own (xs : List PyData)
  | bor (xs : List PyData)
abbrev Sg := List (Option Sl)
noncomputable def Sg.at (σ : Sg) (i : Nat) : Option Sl := (σ[i]?).join

structure Fx where
  prog : Program
  w : World
  A : Around
  n : Nat
  s₀ : Shared
  env : Env
  tbl : List Str
  O : Bad

structure Fx.OK (X : Fx) : Prop where
  hh : X.A.handled = none
  dep : X.A.depth + X.n < recursionLimit
  uni : X.A.units + 10 * X.n + 200 < cLine
  wd : Wd X.w X.s₀.heap
  kind : X.env.scope.kind = .function
  globals : X.env.globals = mainGlobals
  builtins : X.env.builtins = builtinsNs
  nodup : X.tbl.Nodup
  good : ∀ x ∈ X.tbl, (x == ("__debug__" : Str)) = false ∧ (x == ("__classdict__" : Str)) = false
  oall : ∀ a, X.O a → (X.s₀.heap.get? a).isSome
  inj : ∀ x y c, X.env.cells.lookup x = some c → X.env.cells.lookup y = some c → x = y

/-- a state, what this frame may change (M), what no datum may lie at (B) -/
structure St where
  s : Shared
  M : Bad
  B : Bad
abbrev St.h (S : St) : Heap := S.s.heap

structure Tr (S S' : St) : Prop where
  keep : ∀ b o, ¬ S.M b → S.h.get? b = some o → S'.h.get? b = some o
  bsub : ∀ b, S'.B b → S.B b ∨ S.h.get? b = none
  msub : ∀ b, S'.M b → S.M b ∨ S.h.get? b = none
  bkeep : ∀ b o, S.B b → ¬ S.M b → S.h.get? b = some o → S'.B b
  sub : ∀ b, S.M b → S.B b
  os : S'.s.os = S.s.os
  gens : S'.s.gens = S.s.gens
  live : ∀ b o, S.M b → S.h.get? b = some o → ∃ o', S'.h.get? b = some o'
theorem Tr.refl {S : St} (hs : ∀ b, S.M b → S.B b) : Tr S S := ⟨fun _ _ _ e => e, fun _ h => .inl h, fun _ h => .inl h, fun _ _ h _ _ => h, hs, rfl, rfl, fun _ o _ e => ⟨o, e⟩⟩
theorem Tr.trans {S S' S'' : St} (x : Tr S S') (y : Tr S' S'') : Tr S S'' where
  keep := fun b o hm e => y.keep b o (fun h' => (x.msub b h').elim hm fun q => by rw [q] at e; cases e) (x.keep b o hm e)
  bsub := fun b h => by
    rcases y.bsub b h with q | q
    · exact x.bsub b q
    · by_cases hm : S.M b
      · exact .inl (x.sub b hm)
      · cases e : S.h.get? b with
        | none => exact .inr rfl
        | some o => rw [x.keep b o hm e] at q; cases q
  msub := fun b h => by
    rcases y.msub b h with q | q
    · exact x.msub b q
    · by_cases hm : S.M b
      · exact .inl hm
      · cases e : S.h.get? b with
        | none => exact .inr rfl
        | some o => rw [x.keep b o hm e] at q; cases q
  bkeep := fun b o h hm e => y.bkeep b o (x.bkeep b o h hm e) (fun h' => (x.msub b h').elim hm fun q => by rw [q] at e; cases e) (x.keep b o hm e)
  sub := x.sub
  os := y.os.trans x.os
  gens := y.gens.trans x.gens
  live := fun b o hm e => by
    obtain ⟨o', e'⟩ := x.live b o hm e
    by_cases q : S'.M b
    · exact y.live b o' q e'
    · exact ⟨o', y.keep b o' q e'⟩
theorem Tr.free {S S' : St} (x : Tr S S') {b : Addr} (h : S'.h.get? b = none) : S.h.get? b = none := by
  cases e : S.h.get? b with
  | none => rfl
  | some o =>
    by_cases q : S.M b
    · obtain ⟨o', e'⟩ := x.live b o q e; rw [h] at e'; cases e'
    · have := x.keep b o q e; rw [h] at this; cases this

theorem Tr.rep {S S' : St} (x : Tr S S') {v d} (r : Rep S.B S.h v d) : Rep S'.B S'.h v d :=
  Rep.tr (fun b o hb e => ⟨fun q => (x.bsub b q).elim hb fun z => (by rw [z] at e; cases e), x.keep b o (fun m => hb (x.sub b m)) e⟩) r
theorem Tr.repAll {S S' : St} (x : Tr S S') {vs ds} (r : RepAll S.B S.h vs ds) : RepAll S'.B S'.h vs ds :=
  RepAll.tr (fun b o hb e => ⟨fun q => (x.bsub b q).elim hb fun z => (by rw [z] at e; cases e), x.keep b o (fun m => hb (x.sub b m)) e⟩) r

noncomputable def VarAt (X : Fx) (h : Heap) (m : Str → Option Value) (x : Str) (v : Option Value) : Prop :=
  (X.env.kindOf x = some .local ∧ m x = v) ∨ ∃ c, (X.env.kindOf x = some .cell ∨ X.env.kindOf x = some .free) ∧ X.env.cells.lookup x = some c ∧ h.IsCell c v

noncomputable def SlOK (X : Fx) (S : St) (v : Option Value) : Option Sl → Prop
  | none => True
  | some (.fro d) => ∃ u, v = some u ∧ Rep S.B S.h u d
  | some (.own xs) => ∃ a vs, v = some (.ref a) ∧ S.M a ∧ S.h.PlainList a vs ∧ RepAll S.B S.h vs.toList xs
  | some (.bor xs) => ∃ a vs, v = some (.ref a) ∧ X.s₀.heap.PlainList a vs ∧ RepAll S.B S.h vs.toList xs

structure RelV (X : Fx) (σ : Sg) (S : St) (m : Str → Option Value) (vals : Nat → Option Value) : Prop where
  ok : X.OK
  keep : X.s₀.heap.StaysIn S.h
  os : S.s.os = X.s₀.os
  gens : S.s.gens = X.s₀.gens
  ns : S.h.Ns X.env.locals m
  mL : S.M X.env.locals
  mnew : ∀ a, S.M a → X.s₀.heap.get? a = none
  sub : ∀ a, S.M a → S.B a
  out : ∀ a, X.O a → S.B a
  ball : ∀ a, S.B a → (S.h.get? a).isSome
  mcell : ∀ x c, X.env.cells.lookup x = some c → S.B c ∧ (X.s₀.heap.get? c = none → S.M c)
  acell : ∀ x c, X.env.cells.lookup x = some c → ∃ v, S.h.IsCell c v
  var : ∀ i x, X.tbl[i]? = some x → VarAt X S.h m x (vals i)
  slot : ∀ i, SlOK X S (vals i) (σ.at i)
  apart : ∀ i j xs ys, σ.at i = some (.own xs) → σ.at j = some (.own ys) → vals i = vals j → i = j

noncomputable def Rel (X : Fx) (σ : Sg) (S : St) : Prop := ∃ m vals, RelV X σ S m vals
theorem Rel.ok {X : Fx} {σ : Sg} {S : St} (R : Rel X σ S) : X.OK := let ⟨_, _, r⟩ := R; r.ok
theorem Rel.wd {X : Fx} {σ : Sg} {S : St} (R : Rel X σ S) : Wd X.w S.h := let ⟨_, _, r⟩ := R; r.ok.wd.keeps r.keep
theorem Rel.sub {X : Fx} {σ : Sg} {S : St} (R : Rel X σ S) : ∀ a, S.M a → S.B a := let ⟨_, _, r⟩ := R; r.sub
theorem Rel.ball {X : Fx} {σ : Sg} {S : St} (R : Rel X σ S) : ∀ a, S.B a → (S.h.get? a).isSome := let ⟨_, _, r⟩ := R; r.ball
theorem Rel.tr {X : Fx} {σ : Sg} {S : St} (R : Rel X σ S) : Tr S S := Tr.refl R.sub

theorem SlOK.tr {X : Fx} {S S' : St} {v : Option Value} {sl : Option Sl} (h : SlOK X S v sl) (B : ∀ u d, Rep S.B S.h u d → Rep S'.B S'.h u d) (BA : ∀ u d, RepAll S.B S.h u d → RepAll S'.B S'.h u d)
    (hM : ∀ a o, S.M a → S.h.get? a = some o → (∃ xs, sl = some (.own xs)) → v = some (.ref a) → S'.M a ∧ S'.h.get? a = some o) : SlOK X S' v sl := by
  match sl, h with
  | none, _ => trivial
  | some (.fro d), ⟨u, e, r⟩ => exact ⟨u, e, B _ _ r⟩
  | some (.own xs), ⟨a, vs, e, m, ⟨n, p⟩, r⟩ =>
    obtain ⟨m', p'⟩ := hM a _ m p ⟨xs, rfl⟩ e
    exact ⟨a, vs, e, m', ⟨n, p'⟩, BA _ _ r⟩
  | some (.bor xs), ⟨a, vs, e, p, r⟩ => exact ⟨a, vs, e, p, BA _ _ r⟩

/-- the heap grows, what is mine and bad stays -/
structure Grow (s s' : Shared) : Prop where
  keep : s.heap.StaysIn s'.heap
  os : s'.os = s.os
  gens : s'.gens = s.gens
theorem Grow.refl (s : Shared) : Grow s s := ⟨fun _ _ e => e, rfl, rfl⟩
theorem Grow.trans {s s' s'' : Shared} (x : Grow s s') (y : Grow s' s'') : Grow s s'' := ⟨fun b o e => y.keep b o (x.keep b o e), y.os.trans x.os, y.gens.trans x.gens⟩
theorem Grow.tok {s : Shared} (t : Nat) : Grow s { s with toks := t } := ⟨fun _ _ e => e, rfl, rfl⟩
theorem Grow.push {s : Shared} (o : Obj) : Grow s { s with heap := s.heap.push o } := ⟨fun _ _ e => Heap.get?_push_of_some _ e, rfl, rfl⟩

theorem Grow.tr {S : St} {s' : Shared} (hs : ∀ a, S.M a → S.B a) (g : Grow S.s s') : Tr S ⟨s', S.M, S.B⟩ := ⟨fun b o _ e => g.keep b o e, fun _ h => .inl h, fun _ h => .inl h, fun _ _ h _ _ => h, hs, g.os, g.gens, fun b o _ e => ⟨o, g.keep b o e⟩⟩

theorem cell_keeps {h h' : Heap} {c : Addr} {v : Option Value} (x : h.IsCell c v) (k : ∀ o, h.get? c = some o → h'.get? c = some o) : h'.IsCell c v := let ⟨o, e, r⟩ := x; ⟨o, k o e, r⟩

theorem RelV.tr {X : Fx} {σ : Sg} {S : St} {m : Str → Option Value} {vals : Nat → Option Value} (r : RelV X σ S m vals) : Tr S S := Tr.refl r.sub
theorem RelV.rel {X : Fx} {σ : Sg} {S : St} {m : Str → Option Value} {vals : Nat → Option Value} (r : RelV X σ S m vals) : Rel X σ S := ⟨m, vals, r⟩
theorem RelV.grow {X : Fx} {σ : Sg} {S : St} {s' : Shared} {m : Str → Option Value} {vals : Nat → Option Value} (r : RelV X σ S m vals) (g : Grow S.s s') : RelV X σ ⟨s', S.M, S.B⟩ m vals := by
  have T := g.tr r.sub
  refine ⟨r.ok, fun b o e => g.keep b o (r.keep b o e), g.os.trans r.os, g.gens.trans r.gens, r.ns.keeps g.keep, r.mL, r.mnew, r.sub, r.out, fun a ha => ?_, r.mcell, fun x c hc => let ⟨v, q⟩ := r.acell x c hc; ⟨v, cell_keeps q fun o e => g.keep c o e⟩, fun i x hx => ?_, fun i => ?_, r.apart⟩
  · obtain ⟨o, ho⟩ := Option.isSome_iff_exists.mp (r.ball a ha)
    exact Option.isSome_iff_exists.mpr ⟨o, g.keep a o ho⟩
  · rcases r.var i x hx with q | ⟨c, k, l, q⟩
    · exact .inl q
    · exact .inr ⟨c, k, l, cell_keeps q fun o e => g.keep c o e⟩
  · exact (r.slot i).tr (fun _ _ => T.rep) (fun _ _ => T.repAll) fun a o ha ho _ _ => ⟨ha, g.keep a o ho⟩
theorem Rel.grow {X : Fx} {σ : Sg} {S : St} {s' : Shared} (R : Rel X σ S) (g : Grow S.s s') : Rel X σ ⟨s', S.M, S.B⟩ := let ⟨m, vals, r⟩ := R; ⟨m, vals, r.grow g⟩

/-- an expression's value -/
structure Ev (X : Fx) (e : Expr) (σ : Sg) (d : PyData) (σ' : Sg) : Prop where of ::
  go : ∀ S m vals, RelV X σ S m vals → wpAny (model X.prog X.w) X.A (eval e X.env) (fun v s' => ∃ S', S'.s = s' ∧ RelV X σ' S' m vals ∧ Tr S S' ∧ Rep S'.B s'.heap v d) (fun _ _ => False) S.s

inductive Fl where
  | next (σ : Sg)
  | cont (σ : Sg)
  | ret (d : PyData)

noncomputable def FlOK (X : Fx) (S : St) (fl : Flow) : Fl → Prop
  | .next σ => fl = .next ∧ Rel X σ S
  | .cont σ => fl = .cont ∧ Rel X σ S
  | .ret d => ∃ v σ, fl = .ret v ∧ Rel X σ S ∧ Rep S.B S.h v d

structure Ex (X : Fx) (st : Stmt) (σ : Sg) (f : Fl) : Prop where of ::
  go : ∀ S, Rel X σ S → wpAny (model X.prog X.w) X.A (exec st X.env) (fun fl s' => ∃ S', S'.s = s' ∧ Tr S S' ∧ FlOK X S' fl f) (fun _ _ => False) S.s
structure Exs (X : Fx) (sts : List Stmt) (σ : Sg) (f : Fl) : Prop where of ::
  go : ∀ S, Rel X σ S → wpAny (model X.prog X.w) X.A (execs sts X.env) (fun fl s' => ∃ S', S'.s = s' ∧ Tr S S' ∧ FlOK X S' fl f) (fun _ _ => False) S.s
/-- a test's truth -/
structure Tt (X : Fx) (e : Expr) (σ : Sg) (b : Bool) (σ' : Sg) : Prop where of ::
  go : ∀ S m vals, RelV X σ S m vals → wpAny (model X.prog X.w) X.A (isTrue e X.env (eval e X.env)) (fun v s' => ∃ S', S'.s = s' ∧ RelV X σ' S' m vals ∧ Tr S S' ∧ v = b) (fun _ _ => False) S.s

/-- a call of a def -/
structure Fn (prog : Program) (w : World) (f : Addr) (args : List PyData) (res : PyData) (n : Nat) : Prop where of ::
  go : ∀ (A : Around) (s : Shared) (B : Bad) (vs : List Value) (R : Result → Shared → Prop), A.handled = none → A.depth + n < recursionLimit → A.units + 10 * n + 200 < cLine → Wd w s.heap → (∀ a, B a → (s.heap.get? a).isSome) →
    RepAll B s.heap vs args → (∀ v s', Grow s s' → Rep B s'.heap v res → R (.ok (.ret v)) s') → codeAny (model prog w) A (.call (.ref f) ⟨vs, []⟩) R s
end Mine
open PySem PySem.Spec PySem.Calls PySem.W PyProof.Rows
set_option Elab.async false
set_option maxRecDepth 100000
set_option maxHeartbeats 1000000
set_option linter.unusedVariables false
namespace Mine
variable {X : Fx} {σ σ1 σ2 σ3 : Sg} {pos : Pos} {k : Nat}

theorem fin_grow {σ : Sg} {S : St} {s' : Shared} {v : Value} {d : PyData} {m : Str → Option Value} {vals : Nat → Option Value} (R : RelV X σ S m vals) (g : Grow S.s s') (r : Rep S.B s'.heap v d) : ∃ S', S'.s = s' ∧ RelV X σ S' m vals ∧ Tr S S' ∧ Rep S'.B s'.heap v d :=
  ⟨⟨s', S.M, S.B⟩, rfl, R.grow g, g.tr R.sub, r⟩

theorem ev_int {i : Int} : Ev X (.Constant (.int i) k pos) σ (.int i) σ := .of fun _ _ _ R => wpAny_Constant_int (fin_grow R (.tok _) (.int _ _))
theorem ev_str {x : Str} : Ev X (.Constant (.str x) k pos) σ (.str x) σ := .of fun _ _ _ R => wpAny_Constant_str (fin_grow R (.tok _) (.str _ _))
theorem ev_none : Ev X (.Constant .none k pos) σ .none σ := .of fun _ _ _ R => wpAny_Constant_none (fin_grow R (.refl _) .none)

/-- a frozen name -/
theorem load_var {i : Nat} {x : Str} {S : St} {m : Str → Option Value} {vals : Nat → Option Value} {v : Value} {Q : Value → Shared → Prop} {E : Value → Shared → Prop} (r : RelV X σ S m vals) (hx : X.tbl[i]? = some x) (hv : vals i = some v) (h : Q v S.s) :
    wpAny (model X.prog X.w) X.A (eval (.Name x pos) X.env) Q E S.s := by
  have hg := r.ok.good x (List.mem_of_getElem? hx)
  refine wpAny_Name ?_ hg.1
  rcases r.var i x hx with ⟨hk, hm⟩ | ⟨c, hk | hk, hc, hi⟩
  · exact wpAny_loadName_local r.ok.kind hk r.ns (hm.trans hv) h
  · exact wpAny_loadName_cell r.ok.kind hk hc (hv ▸ hi) h
  · exact wpAny_loadName_free r.ok.kind hk hc (hv ▸ hi) h hg.2

theorem ev_name (i : Nat) {x : Str} {d : PyData} (hx : X.tbl[i]? = some x) (hs : σ.at i = some (.fro d)) : Ev X (.Name x pos) σ d σ := by
  refine .of ?_; intro S m vals r
  have q := r.slot i
  rw [hs] at q
  obtain ⟨u, hu, hr⟩ := q
  exact load_var r hx hu (fin_grow r (.refl _) hr)

theorem at_set {σ : Sg} {i j : Nat} {sl : Option Sl} (hi : i < σ.length) : Sg.at (σ.set i sl) j = if j = i then sl else σ.at j := by
  unfold Sg.at
  by_cases h : i = j
  · subst h; simp [hi]
  · rw [List.getElem?_set_ne h, if_neg (Ne.symm h)]

/-- a list of one's own, read as a whole: from now on it is data -/
theorem RelV.freeze {S : St} {i : Nat} {xs : List PyData} {m : Str → Option Value} {vals : Nat → Option Value} (r : RelV X σ S m vals) (hs : σ.at i = some (.own xs)) :
    ∃ S' a, S'.s = S.s ∧ RelV X (σ.set i (some (.fro (.list xs)))) S' m vals ∧ Tr S S' ∧ vals i = some (.ref a) ∧ Rep S'.B S'.h (.ref a) (.list xs) := by
  have hil : i < σ.length := by
    rcases Nat.lt_or_ge i σ.length with h | h
    · exact h
    · unfold Sg.at at hs; rw [List.getElem?_eq_none h] at hs; cases hs
  have q := r.slot i
  rw [hs] at q
  obtain ⟨a, vs, ha, hm, hp, hr⟩ := q
  obtain ⟨n, hp⟩ := hp
  -- the list's address is neither the frame's nor a cell's
  have haL : a ≠ X.env.locals := by
    rintro rfl
    obtain ⟨o, es, ep, ho, hd, _⟩ := r.ns
    rw [ho] at hp; cases hp; cases hd
  have T : Tr S ⟨S.s, fun b => S.M b ∧ b ≠ a, fun b => S.B b ∧ b ≠ a⟩ := ⟨fun _ _ _ e => e, fun _ h => .inl h.1, fun _ h => .inl h.1, fun b o hb hnm _ => ⟨hb, fun e => hnm (e ▸ hm)⟩, r.sub, rfl, rfl, fun _ o _ e => ⟨o, e⟩⟩
  refine ⟨⟨S.s, fun b => S.M b ∧ b ≠ a, fun b => S.B b ∧ b ≠ a⟩, a, rfl, ⟨r.ok, r.keep, r.os, r.gens, r.ns, ⟨r.mL, Ne.symm haL⟩, fun b hb => r.mnew b hb.1, fun b hb => ⟨r.sub b hb.1, hb.2⟩, fun b hb => ⟨r.out b hb, ?_⟩, fun b hb => r.ball b hb.1, fun x c hc => ?_, r.acell, r.var, fun j => ?_, fun j k' us ws h1 h2 h3 => ?_⟩, T, ha, ?_⟩
  · rintro rfl
    have := r.ok.oall b hb
    rw [r.mnew b hm] at this; cases this
  · have hca : c ≠ a := by
      rintro rfl
      obtain ⟨v, o, ho, hd⟩ := r.acell x c hc
      rw [ho] at hp; cases hp; cases hd
    exact ⟨⟨(r.mcell x c hc).1, hca⟩, fun h => ⟨(r.mcell x c hc).2 h, hca⟩⟩
  · rw [at_set hil]
    by_cases hj : j = i
    · subst hj
      rw [if_pos rfl]
      exact ⟨_, ha, .list (fun h => h.2 rfl) ⟨n, hp⟩ (T.repAll hr)⟩
    · rw [if_neg hj]
      refine (r.slot j).tr (fun _ _ => T.rep) (fun _ _ => T.repAll) fun b o hb ho ⟨ys, hys⟩ hv => ⟨⟨hb, fun e => ?_⟩, ho⟩
      subst e
      exact hj (r.apart j i ys xs hys hs (hv.trans ha.symm))
  · rw [at_set hil] at h1 h2
    by_cases hj : j = i
    · subst hj; rw [if_pos rfl] at h1; cases h1
    · by_cases hk : k' = i
      · subst hk; rw [if_pos rfl] at h2; cases h2
      · rw [if_neg hj] at h1; rw [if_neg hk] at h2; exact r.apart j k' us ws h1 h2 h3
  · exact .list (fun h => h.2 rfl) ⟨n, hp⟩ (T.repAll hr)

theorem ev_name_own (i : Nat) {x : Str} {xs : List PyData} (hx : X.tbl[i]? = some x) (hs : σ.at i = some (.own xs)) : Ev X (.Name x pos) σ (.list xs) (σ.set i (some (.fro (.list xs)))) := by
  refine .of ?_; intro S m vals R
  obtain ⟨S', a, e, r, T, hv, hr⟩ := R.freeze hs
  have := load_var (pos := pos) (Q := fun v s' => ∃ S', S'.s = s' ∧ RelV X (σ.set i (some (.fro (.list xs)))) S' m vals ∧ Tr S S' ∧ Rep S'.B s'.heap v (.list xs)) (E := fun _ _ => False) r hx hv ⟨S', rfl, r, T, hr⟩
  rw [e] at this
  exact this
end Mine
open PySem PySem.Spec PySem.Calls PySem.W PyProof.Rows
set_option Elab.async false
set_option maxRecDepth 100000
set_option maxHeartbeats 1000000
set_option linter.unusedVariables false
namespace Mine
variable {X : Fx} {σ σ1 σ2 σ3 : Sg} {pos p2 : Pos} {k : Nat}

/-- what a tree of the machine yields upon given data, making things alone -/
structure OpOK (X : Fx) (t : Value → Value → Sem Value) (da db d : PyData) : Prop where of ::
  go : ∀ σ S va vb, Rel X σ S → Rep S.B S.h va da → Rep S.B S.h vb db → wpAny (model X.prog X.w) X.A (t va vb) (fun v s' => Grow S.s s' ∧ Rep S.B s'.heap v d) (fun _ _ => False) S.s
abbrev BinOK (X : Fx) (op : Operator) := OpOK X (binaryOp op)
abbrev CmpOK (X : Fx) (op : CmpOp) := OpOK X (compareOp op)

theorem ev_bin {l r : Expr} {op : Operator} {da db d : PyData} (hl : Ev X l σ da σ1) (hr : Ev X r σ1 db σ2) (h : BinOK X op da db d) : Ev X (.BinOp l op r pos) σ d σ2 := .of fun S m vals R =>
  wpAny_BinOp (wpAny_mono (hl.go S m vals R) (fun va s1 h1 => by
    obtain ⟨S1, rfl, R1, T1, r1⟩ := h1
    refine wpAny_mono (hr.go S1 m vals R1) (fun vb s2 h2 => ?_) fun _ _ f => f
    obtain ⟨S2, rfl, R2, T2, r2⟩ := h2
    exact wpAny_mono (h.go σ2 S2 va vb R2.rel (T2.rep r1) r2) (fun v s3 h3 => ⟨⟨s3, S2.M, S2.B⟩, rfl, R2.grow h3.1, (T1.trans T2).trans (h3.1.tr R2.sub), h3.2⟩) fun _ _ f => f) fun _ _ f => f)

theorem ev_cmp {l r : Expr} {op : CmpOp} {da db d : PyData} (hl : Ev X l σ da σ1) (hr : Ev X r σ1 db σ2) (h : CmpOK X op da db d) (hm : behindInMarks op r = false := by with_unfolding_all rfl) : Ev X (.Compare l [op] [r] pos) σ d σ2 := .of fun S m vals R =>
  wpAny_Compare1 (wpAny_mono (hl.go S m vals R) (fun va s1 h1 => by
    obtain ⟨S1, rfl, R1, T1, r1⟩ := h1
    refine wpAny_mono (hr.go S1 m vals R1) (fun vb s2 h2 => ?_) fun _ _ f => f
    obtain ⟨S2, rfl, R2, T2, r2⟩ := h2
    exact wpAny_mono (h.go σ2 S2 va vb R2.rel (T2.rep r1) r2) (fun v s3 h3 => ⟨⟨s3, S2.M, S2.B⟩, rfl, R2.grow h3.1, (T1.trans T2).trans (h3.1.tr R2.sub), h3.2⟩) fun _ _ f => f) fun _ _ f => f) hm

theorem rep_int {B : Bad} {h : Heap} {v : Value} {i : Int} (r : Rep B h v (.int i)) : ∃ t, v = .int i t := by cases r; exact ⟨_, rfl⟩
theorem rep_str {B : Bad} {h : Heap} {v : Value} {x : Str} (r : Rep B h v (.str x)) : ∃ t, v = .str x t := by cases r; exact ⟨_, rfl⟩
theorem rep_bool {B : Bad} {h : Heap} {v : Value} {b : Bool} (r : Rep B h v (.bool b)) : v = .bool b := by cases r; rfl
theorem rep_list {B : Bad} {h : Heap} {v : Value} {xs : List PyData} (r : Rep B h v (.list xs)) : ∃ a vs, v = .ref a ∧ ¬ B a ∧ h.PlainList a vs ∧ RepAll B h vs.toList xs := by cases r; exact ⟨_, _, rfl, by assumption, by assumption, by assumption⟩
theorem rep_tuple {B : Bad} {h : Heap} {v : Value} {xs : List PyData} (r : Rep B h v (.tuple xs)) : ∃ a vs, v = .ref a ∧ ¬ B a ∧ IsTupP h a vs ∧ RepAll B h vs.toList xs := by cases r; exact ⟨_, _, rfl, by assumption, by assumption, by assumption⟩

section
variable {a b : Int}
theorem b_add : BinOK X .Add (.int a) (.int b) (.int (a + b)) := .of fun _ _ _ _ _ ra rb => by
  obtain ⟨t, rfl⟩ := rep_int ra; obtain ⟨u, rfl⟩ := rep_int rb; exact add_int ⟨.tok _, .int _ _⟩
theorem b_sub : BinOK X .Sub (.int a) (.int b) (.int (a - b)) := .of fun _ _ _ _ _ ra rb => by
  obtain ⟨t, rfl⟩ := rep_int ra; obtain ⟨u, rfl⟩ := rep_int rb; exact sub_int ⟨.tok _, .int _ _⟩
theorem b_mul (h : b.natAbs < 2 ^ 64 ∨ a.natAbs < 2 ^ 64) : BinOK X .Mult (.int a) (.int b) (.int (a * b)) := .of fun _ _ _ _ _ ra rb => by
  obtain ⟨t, rfl⟩ := rep_int ra; obtain ⟨u, rfl⟩ := rep_int rb
  refine mul_int ⟨.tok _, .int _ _⟩ ?_
  rcases h with h | h
  · exact IntMulOk.of_right (PySem.intBits_le_64 (by omega) (by omega))
  · exact IntMulOk.of_left (PySem.intBits_le_64 (by omega) (by omega))
theorem b_floordiv (h0 : b ≠ 0) (hs : b.natAbs < 1073741824) : BinOK X .FloorDiv (.int a) (.int b) (.int (a.fdiv b)) := .of fun _ _ _ _ _ ra rb => by
  obtain ⟨t, rfl⟩ := rep_int ra; obtain ⟨u, rfl⟩ := rep_int rb; exact floordiv_int h0 ⟨.tok _, .int _ _⟩ (.inl (PyProof.noPylong_small hs))
theorem b_mod (h0 : b ≠ 0) (hs : b.natAbs < 1073741824) : BinOK X .Mod (.int a) (.int b) (.int (a.fmod b)) := .of fun _ _ _ _ _ ra rb => by
  obtain ⟨t, rfl⟩ := rep_int ra; obtain ⟨u, rfl⟩ := rep_int rb; exact mod_int h0 ⟨.tok _, .int _ _⟩
theorem b_pow (h0 : 0 ≤ b) (hb : b ≤ 1000000) (ha : a.natAbs < 2 ^ 64) : BinOK X .Pow (.int a) (.int b) (.int (a ^ b.toNat)) := .of fun _ _ _ _ _ ra rb => by
  obtain ⟨t, rfl⟩ := rep_int ra; obtain ⟨u, rfl⟩ := rep_int rb; exact pow_int_small h0 hb ha ⟨.tok _, .int _ _⟩
theorem b_and : BinOK X .BitAnd (.int a) (.int b) (.int (Builtin.bitAnd a b)) := .of fun _ _ _ _ _ ra rb => by
  obtain ⟨t, rfl⟩ := rep_int ra; obtain ⟨u, rfl⟩ := rep_int rb; exact and_int ⟨.tok _, .int _ _⟩
theorem b_or : BinOK X .BitOr (.int a) (.int b) (.int (Builtin.bitOr a b)) := .of fun _ _ _ _ _ ra rb => by
  obtain ⟨t, rfl⟩ := rep_int ra; obtain ⟨u, rfl⟩ := rep_int rb; exact or_int ⟨.tok _, .int _ _⟩
theorem b_xor : BinOK X .BitXor (.int a) (.int b) (.int (Builtin.bitXor a b)) := .of fun _ _ _ _ _ ra rb => by
  obtain ⟨t, rfl⟩ := rep_int ra; obtain ⟨u, rfl⟩ := rep_int rb; exact xor_int ⟨.tok _, .int _ _⟩
theorem c_eqi : CmpOK X .Eq (.int a) (.int b) (.bool (a == b)) := .of fun _ _ _ _ _ ra rb => by
  obtain ⟨t, rfl⟩ := rep_int ra; obtain ⟨u, rfl⟩ := rep_int rb; exact PyProof.Rows.eq_int ⟨.refl _, .bool _⟩
theorem c_nei : CmpOK X .NotEq (.int a) (.int b) (.bool (a != b)) := .of fun _ _ _ _ _ ra rb => by
  obtain ⟨t, rfl⟩ := rep_int ra; obtain ⟨u, rfl⟩ := rep_int rb; exact PyProof.Rows.ne_int ⟨.refl _, .bool _⟩
theorem c_lt : CmpOK X .Lt (.int a) (.int b) (.bool (decide (a < b))) := .of fun _ _ _ _ _ ra rb => by
  obtain ⟨t, rfl⟩ := rep_int ra; obtain ⟨u, rfl⟩ := rep_int rb; exact PyProof.Rows.lt_int ⟨.refl _, .bool _⟩
theorem c_gt : CmpOK X .Gt (.int a) (.int b) (.bool (decide (b < a))) := .of fun _ _ _ _ _ ra rb => by
  obtain ⟨t, rfl⟩ := rep_int ra; obtain ⟨u, rfl⟩ := rep_int rb; exact PyProof.Rows.gt_int ⟨.refl _, .bool _⟩
theorem c_ge : CmpOK X .GtE (.int a) (.int b) (.bool (decide (b ≤ a))) := .of fun _ _ _ _ _ ra rb => by
  obtain ⟨t, rfl⟩ := rep_int ra; obtain ⟨u, rfl⟩ := rep_int rb; exact PyProof.Rows.ge_int ⟨.refl _, .bool _⟩
end
section
variable {x y : Str}
theorem b_adds (hs : x.length + y.length ≤ sizeLine) : BinOK X .Add (.str x) (.str y) (.str (x ++ y)) := .of fun _ _ _ _ _ ra rb => by
  obtain ⟨t, rfl⟩ := rep_str ra; obtain ⟨u, rfl⟩ := rep_str rb; exact SB.add (fun _ _ => ⟨.tok _, .str _ _⟩) hs
theorem b_muls {n : Int} (h : MulOk x n) : BinOK X .Mult (.str x) (.int n) (.str (Txt.mul x n)) := .of fun _ _ _ _ _ ra rb => by
  obtain ⟨t, rfl⟩ := rep_str ra; obtain ⟨u, rfl⟩ := rep_int rb; exact SB.mul h (fun _ _ => ⟨.tok _, .str _ _⟩)
theorem c_eqs : CmpOK X .Eq (.str x) (.str y) (.bool (x == y)) := .of fun _ _ _ _ _ ra rb => by
  obtain ⟨t, rfl⟩ := rep_str ra; obtain ⟨u, rfl⟩ := rep_str rb; exact PyProof.Rows.eq_str ⟨.refl _, .bool _⟩
theorem c_nes : CmpOK X .NotEq (.str x) (.str y) (.bool (x != y)) := .of fun _ _ _ _ _ ra rb => by
  obtain ⟨t, rfl⟩ := rep_str ra; obtain ⟨u, rfl⟩ := rep_str rb; exact PyProof.Rows.ne_str ⟨.refl _, .bool _⟩
end

theorem fresh_none (h : Heap) : h.get? h.objs.size = none := by
  cases e : h.get? h.objs.size with
  | none => rfl
  | some o => exact absurd (Heap.lt_size e) (Nat.lt_irrefl _)
theorem Rel.fresh {S : St} (R : Rel X σ S) : ¬ S.B S.h.objs.size := fun h => by
  have := R.ball _ h
  rw [fresh_none] at this; cases this
theorem RepAll.grow {B : Bad} {s s' : Shared} {vs ds} (r : RepAll B s.heap vs ds) (g : Grow s s') : RepAll B s'.heap vs ds := RepAll.tr (fun b o hb e => ⟨hb, g.keep b o e⟩) r
theorem Rep.grow {B : Bad} {s s' : Shared} {v d} (r : Rep B s.heap v d) (g : Grow s s') : Rep B s'.heap v d := Rep.tr (fun b o hb e => ⟨hb, g.keep b o e⟩) r

/-- a new list -/
theorem rep_newList {S : St} {σ : Sg} (R : Rel X σ S) {vs : List Value} {ds : List PyData} (r : RepAll S.B S.h vs ds) :
    Rep S.B (S.h.push { cls := .type "list", data := .seq vs.toArray }) (.ref S.h.objs.size) (.list ds) :=
  .list R.fresh ⟨0, Heap.get?_push_size _ rfl⟩ (by simpa using r.grow (.push _))
theorem rep_newTuple {S : St} {σ : Sg} (R : Rel X σ S) {vs : List Value} {ds : List PyData} (r : RepAll S.B S.h vs ds) :
    Rep S.B (S.h.push { cls := .type "tuple", data := .seq vs.toArray }) (.ref S.h.objs.size) (.tuple ds) :=
  .tuple R.fresh ⟨0, Heap.get?_push_size _ rfl⟩ (by simpa using r.grow (.push _))

theorem b_addl {xs ys : List PyData} (hs : xs.length + ys.length ≤ sizeLine) : BinOK X .Add (.list xs) (.list ys) (.list (xs ++ ys)) := .of fun σ S _ _ R ra rb => by
  obtain ⟨a, vs, rfl, ha, ⟨n, pa⟩, qa⟩ := rep_list ra
  obtain ⟨b, us, rfl, hb, ⟨n2, pb⟩, qb⟩ := rep_list rb
  have hl : vs.size + us.size ≤ sizeLine := by
    have h1 := qa.length; have h2 := qb.length
    rw [Array.length_toList] at h1 h2; omega
  refine concat_meets ⟨_, pa, rfl⟩ ⟨_, pb, rfl⟩ noFill_list_add seq_list_add PySem.F.slot_list_add PySem.F.entry_list_add (PySem.F.args_list_add_2 _ _) (list_addW a b vs us n n2 none none #[] #[] hl) ⟨pa, pb, ?_⟩
  have e : vs ++ us = (vs.toList ++ us.toList).toArray := by simp
  rw [e]
  exact ⟨.push _, rep_newList R (qa.append qb)⟩

/-- == of data -/
theorem c_eqd {da db : PyData} (ha : SeqAt.shaped da = true) (hb : SeqAt.shaped db = true) (na : noDict da = true) (nb : noDict db = true) : CmpOK X .Eq da db (.bool (PyData.eqv da db)) := .of fun _ S _ _ R ra rb => by
  obtain ⟨as, ra⟩ := ra.reads na; obtain ⟨bs, rb⟩ := rb.reads nb
  have := R.ok.uni
  exact SeqAt.compareEq_shaped ra rb ha hb (by omega) ⟨.refl _, .bool _⟩
theorem c_ned {da db : PyData} (ha : SeqAt.shaped da = true) (hb : SeqAt.shaped db = true) (na : noDict da = true) (nb : noDict db = true) : CmpOK X .NotEq da db (.bool (!PyData.eqv da db)) := .of fun _ S _ _ R ra rb => by
  obtain ⟨as, ra⟩ := ra.reads na; obtain ⟨bs, rb⟩ := rb.reads nb
  have := R.ok.uni
  exact SeqAt.compareNe_shaped ra rb ha hb (by omega) ⟨.refl _, .bool _⟩

/-- several expressions, one after the other -/
structure Evs (X : Fx) (es : List Expr) (σ : Sg) (ds : List PyData) (σ' : Sg) : Prop where of ::
  go : ∀ S p m vals, RelV X σ S m vals → wpAny (model X.prog X.w) X.A (spliced (backTo p (starEach es X.env))) (fun vs s' => ∃ S', S'.s = s' ∧ RelV X σ' S' m vals ∧ Tr S S' ∧ RepAll S'.B s'.heap vs ds) (fun _ _ => False) S.s

theorem starEach_cons {e : Expr} {es : List Expr} {env : Env} (h : isStarred e = false) : starEach (e :: es) env = (false, eval e env) :: starEach es env := by
  cases e <;> first | rfl | cases h

theorem evs_nil : Evs X [] σ [] σ := .of fun S p m vals R => spliced_nil ⟨S, rfl, R, R.tr, .nil⟩
theorem evs_cons {e : Expr} {es : List Expr} {d : PyData} {ds : List PyData} (h1 : Ev X e σ d σ1) (h2 : Evs X es σ1 ds σ2) (hs : isStarred e = false := by rfl) : Evs X (e :: es) σ (d :: ds) σ2 := .of fun S p m vals R => by
  rw [starEach_cons hs]
  show wpAny _ _ (spliced ((false, eval e X.env) :: backTo p (starEach es X.env))) _ _ _
  refine spliced_cons (wpAny_mono (h1.go S m vals R) (fun v s1 q => ?_) fun _ _ f => f)
  obtain ⟨S1, rfl, R1, T1, r1⟩ := q
  refine wpAny_mono (h2.go S1 p m vals R1) (fun vs s2 q => ?_) fun _ _ f => f
  obtain ⟨S2, rfl, R2, T2, r2⟩ := q
  exact ⟨S2, rfl, R2, T1.trans T2, .cons (T2.rep r1) r2⟩

theorem ev_list {es : List Expr} {ds : List PyData} (h : Evs X es σ ds σ1) (hs : ds.length ≤ sizeLine) : Ev X (.List es pos) σ (.list ds) σ1 := .of fun S m vals R =>
  wpAny_List (wpAny_mono (h.go S pos m vals R) (fun vs s1 q => by
    obtain ⟨S1, rfl, R1, T1, r1⟩ := q
    exact ⟨by rw [r1.length]; exact hs, ⟨_, S1.M, S1.B⟩, rfl, R1.grow (.push _), T1.trans (Grow.tr R1.sub (.push _)), rep_newList R1.rel r1⟩) fun _ _ f => f)
theorem ev_tuple {es : List Expr} {ds : List PyData} (h : Evs X es σ ds σ1) (hs : ds.length ≤ sizeLine) : Ev X (.Tuple es k pos) σ (.tuple ds) σ1 := .of fun S m vals R =>
  wpAny_Tuple (wpAny_mono (h.go S pos m vals R) (fun vs s1 q => by
    obtain ⟨S1, rfl, R1, T1, r1⟩ := q
    exact ⟨by rw [r1.length]; exact hs, ⟨_, S1.M, S1.B⟩, rfl, R1.grow (.push _), T1.trans (Grow.tr R1.sub (.push _)), rep_newTuple R1.rel r1⟩) fun _ _ f => f)

/-- tests -/
theorem tt_cmp {l r : Expr} {op : CmpOp} {da db : PyData} {b : Bool} (hl : Ev X l σ da σ1) (hr : Ev X r σ1 db σ2) (h : CmpOK X op da db (.bool b)) (hm : behindInMarks op r = false := by with_unfolding_all rfl) : Tt X (.Compare l [op] [r] pos) σ b σ2 := .of fun S m vals R =>
  wpAny_isTrue_Compare1 (wpAny_mono (hl.go S m vals R) (fun va s1 h1 => by
    obtain ⟨S1, rfl, R1, T1, r1⟩ := h1
    refine wpAny_mono (hr.go S1 m vals R1) (fun vb s2 h2 => ?_) fun _ _ f => f
    obtain ⟨S2, rfl, R2, T2, r2⟩ := h2
    refine wpAny_mono (h.go σ2 S2 va vb R2.rel (T2.rep r1) r2) (fun v s3 h3 => ?_) fun _ _ f => f
    obtain ⟨g, r3⟩ := h3
    cases rep_bool r3
    exact wpAny_truthy_bool ⟨⟨s3, S2.M, S2.B⟩, rfl, R2.grow g, (T1.trans T2).trans (g.tr R2.sub), rfl⟩) fun _ _ f => f) hm
theorem tt_not {e : Expr} {b : Bool} (h : Tt X e σ b σ1) : Tt X (.UnaryOp .Not e pos) σ (!b) σ1 := .of fun S m vals R => by
  show wpAny _ _ (do return !(← isTrue e X.env (eval e X.env))) _ _ _
  exact wpAny_bind (wpAny_mono (h.go S m vals R) (fun v s1 ⟨S1, e1, R1, T1, hv⟩ => wpAny_pure ⟨S1, e1, R1, T1, by rw [hv]⟩) fun _ _ f => f)
theorem tt_val {e : Expr} {b : Bool} (h : Ev X e σ (.bool b) σ1) (he : ∀ env whole, isTrue e env whole = (do let v ← whole; standAt e.pos; holding [v] (truthy v)) := by intros; rfl) : Tt X e σ b σ1 := .of fun S m vals R =>
  wpAny_isTrue_value (wpAny_mono (h.go S m vals R) (fun v s1 ⟨S1, e1, R1, T1, r1⟩ => by cases rep_bool r1; exact wpAny_truthy_bool ⟨S1, e1, R1, T1, rfl⟩) fun _ _ f => f) (he _ _)

theorem ev_ifexp {t e1 e2 : Expr} {b : Bool} {d : PyData} (ht : Tt X t σ b σ1) (h1 : b = true → Ev X e1 σ1 d σ2) (h2 : b = false → Ev X e2 σ1 d σ2) : Ev X (.IfExp t e1 e2 pos) σ d σ2 := .of fun S m vals R =>
  wpAny_IfExp (wpAny_mono (ht.go S m vals R) (fun v s1 h => by
    obtain ⟨S1, rfl, R1, T1, rfl⟩ := h
    have fin : ∀ e, Ev X e σ1 d σ2 → wpAny (model X.prog X.w) X.A (eval e X.env) (fun v s' => ∃ S', S'.s = s' ∧ RelV X σ2 S' m vals ∧ Tr S S' ∧ Rep S'.B s'.heap v d) (fun _ _ => False) S1.s := fun e he =>
      wpAny_mono (he.go S1 m vals R1) (fun v s2 ⟨S2, e2, R2, T2, r2⟩ => ⟨S2, e2, R2, T1.trans T2, r2⟩) fun _ _ f => f
    cases v
    · exact fin _ (h2 rfl)
    · exact fin _ (h1 rfl)) fun _ _ f => f)
end Mine
open PySem PySem.Spec PySem.Calls PySem.W PyProof.Rows
set_option Elab.async false
set_option maxRecDepth 100000
set_option maxHeartbeats 1000000
set_option linter.unusedVariables false
namespace Mine
variable {X : Fx} {σ σ1 σ2 σ3 : Sg} {pos p2 : Pos} {k : Nat}

/-- a place that is no slice -/
noncomputable def noSlice : Expr → Bool
  | .Slice .. => false
  | _ => true
theorem sub_plain {slice : Expr} (h : noSlice slice = true) (o i : Value) : subscripted slice false o i = operate [o, i] (getItem o i) := by
  cases slice <;> first | rfl | cases h
theorem plain_type {h : Heap} {a : Addr} {vs : Array Value} {s : Shared} (e : s.heap = h) (p : h.PlainList a vs) : s.TypeIs (.ref a) "list" := by
  subst e; exact p.isList.typeIs

theorem ev_item {value slice : Expr} {ds : List PyData} {i : Int} {d : PyData} (h1 : Ev X value σ (.list ds) σ1) (h2 : Ev X slice σ1 (.int i) σ2) (h0 : 0 ≤ i) (hi : i < 2 ^ 63) (hx : ds[i.toNat]? = some d) (hn : noSlice slice = true := by rfl) :
    Ev X (.Subscript value slice pos) σ d σ2 := .of fun S m vals R =>
  Subscript_ (wpAny_mono (h1.go S m vals R) (fun v s1 q => by
    obtain ⟨S1, rfl, R1, T1, r1⟩ := q
    refine wpAny_mono (h2.go S1 m vals R1) (fun u s2 q => ?_) fun _ _ f => f
    obtain ⟨S2, rfl, R2, T2, r2⟩ := q
    obtain ⟨t, rfl⟩ := rep_int r2
    obtain ⟨a, vs, rfl, ha, pl, rs⟩ := rep_list (T2.rep r1)
    obtain ⟨y, hy, ry⟩ := rs.get hx
    exact tail_any pl.isList.typeIs slot_list_getitem.lookup (wpAny_getItem_list pl.isList h0 hi (by simpa using hy) ⟨S2, rfl, R2, T1.trans T2, ry⟩) (sub_plain hn _ _)) fun _ _ f => f)

/-- the same where reckoning the place changes nothing at all: an own list keeps its address -/
structure Ev0 (X : Fx) (e : Expr) (σ : Sg) (d : PyData) : Prop where of ::
  go : ∀ S m vals, RelV X σ S m vals → wpAny (model X.prog X.w) X.A (eval e X.env) (fun v s' => RelV X σ ⟨s', S.M, S.B⟩ m vals ∧ Grow S.s s' ∧ Rep S.B s'.heap v d) (fun _ _ => False) S.s
theorem Ev0.ev {e : Expr} {d : PyData} (h : Ev0 X e σ d) : Ev X e σ d σ := .of fun S m vals r =>
  wpAny_mono (h.go S m vals r) (fun v s' ⟨r', g, q⟩ => ⟨⟨s', S.M, S.B⟩, rfl, r', g.tr r.sub, q⟩) fun _ _ f => f
theorem ev0_int {i : Int} : Ev0 X (.Constant (.int i) k pos) σ (.int i) := .of fun _ _ _ r => wpAny_Constant_int ⟨r.grow (.tok _), .tok _, .int _ _⟩
theorem ev0_name (i : Nat) {x : Str} {d : PyData} (hx : X.tbl[i]? = some x) (hs : σ.at i = some (.fro d)) : Ev0 X (.Name x pos) σ d := .of fun S m vals r => by
  have q := r.slot i
  rw [hs] at q
  obtain ⟨u, hu, hr⟩ := q
  exact load_var r hx hu ⟨r, .refl _, hr⟩
theorem ev0_item {value slice : Expr} {ds : List PyData} {i : Int} {d : PyData} (h1 : Ev0 X value σ (.list ds)) (h2 : Ev0 X slice σ (.int i)) (h0 : 0 ≤ i) (hi : i < 2 ^ 63) (hx : ds[i.toNat]? = some d) (hn : noSlice slice = true := by rfl) :
    Ev0 X (.Subscript value slice pos) σ d := .of fun S m vals r =>
  Subscript_ (wpAny_mono (h1.go S m vals r) (fun v s1 q => by
    obtain ⟨R1, g1, r1⟩ := q
    refine wpAny_mono (h2.go _ m vals R1) (fun u s2 q => ?_) fun _ _ f => f
    obtain ⟨R2, g2, r2⟩ := q
    obtain ⟨t, rfl⟩ := rep_int r2
    obtain ⟨a, vs, rfl, ha, pl, rs⟩ := rep_list (r1.grow g2)
    obtain ⟨y, hy, ry⟩ := rs.get hx
    exact tail_any pl.isList.typeIs slot_list_getitem.lookup (wpAny_getItem_list pl.isList h0 hi (by simpa using hy) ⟨R2, g1.trans g2, ry⟩) (sub_plain hn _ _)) fun _ _ f => f)
/-- item of an own or borrowed list, at a place that is reckoned without change -/
noncomputable def Sl.items? : Option Sl → Option (List PyData)
  | some (.own xs) => some xs
  | some (.bor xs) => some xs
  | _ => none
theorem RelV.items {S : St} {m : Str → Option Value} {vals : Nat → Option Value} {j : Nat} {ds : List PyData} (r : RelV X σ S m vals) (hs : Sl.items? (σ.at j) = some ds) : ∃ a vs, vals j = some (.ref a) ∧ S.h.PlainList a vs ∧ RepAll S.B S.h vs.toList ds := by
  have q := r.slot j
  revert q hs
  cases σ.at j with
  | none => intro h; cases h
  | some sl => cases sl with
    | fro d => intro h; cases h
    | own xs => intro h q; cases h; obtain ⟨a, vs, h1, _, h3, h4⟩ := q; exact ⟨a, vs, h1, h3, h4⟩
    | bor xs => intro h q; cases h; obtain ⟨a, vs, h1, ⟨n, h3⟩, h4⟩ := q; exact ⟨a, vs, h1, ⟨n, r.keep _ _ h3⟩, h4⟩
theorem ev0_item_own (j : Nat) {x : Str} {slice : Expr} {ds : List PyData} {i : Int} {d : PyData} (hx' : X.tbl[j]? = some x) (hs : Sl.items? (σ.at j) = some ds) (h2 : Ev0 X slice σ (.int i)) (h0 : 0 ≤ i) (hi : i < 2 ^ 63) (hx : ds[i.toNat]? = some d) (hn : noSlice slice = true := by rfl) :
    Ev0 X (.Subscript (.Name x p2) slice pos) σ d := .of fun S m vals r => by
  obtain ⟨a, vs, ha, _, _⟩ := r.items hs
  refine Subscript_ (load_var r hx' ha ?_)
  refine wpAny_mono (h2.go S m vals r) (fun u s2 q => ?_) fun _ _ f => f
  obtain ⟨R2, g2, r2⟩ := q
  obtain ⟨t, rfl⟩ := rep_int r2
  obtain ⟨a', us, ha', pl, rs⟩ := R2.items hs
  rw [ha] at ha'; cases ha'
  obtain ⟨y, hy, ry⟩ := rs.get hx
  exact tail_any pl.isList.typeIs slot_list_getitem.lookup (wpAny_getItem_list pl.isList h0 hi (by simpa using hy) ⟨R2, g2, ry⟩) (sub_plain hn _ _)

/-- a letter of a text -/
theorem seqIndex_nn {i : Int} {n : Nat} (h0 : 0 ≤ i) (h : i.toNat < n) : seqIndex? i n = some i.toNat := by
  have h1 : ¬ i < 0 := Int.not_lt.mpr h0
  have h2 : i < n := (Int.toNat_lt h0).mp h
  unfold seqIndex?
  rw [if_neg h1, if_pos (by rw [decide_eq_true h0, decide_eq_true h2]; rfl)]
theorem idx_in {i : Int} (h0 : 0 ≤ i) (hi : i < 2 ^ 63) : (decide (i < -(2 ^ 63 : Int)) || decide (i ≥ 2 ^ 63)) = false := by
  rw [decide_eq_false (Int.not_lt.mpr (Int.le_trans (by decide) h0)), decide_eq_false (Int.not_le.mpr hi)]; rfl
theorem ev_char {value slice : Expr} {x : Str} {i : Int} {c : Nat} (h1 : Ev X value σ (.str x) σ1) (h2 : Ev X slice σ1 (.int i) σ2) (h0 : 0 ≤ i) (hi : i < 2 ^ 63) (hc : x.cps[i.toNat]? = some c) (hn : noSlice slice = true := by rfl) :
    Ev X (.Subscript value slice pos) σ (.str ⟨#[c]⟩) σ2 := .of fun S m vals R =>
  Subscript_ (wpAny_mono (h1.go S m vals R) (fun v s1 q => by
    obtain ⟨S1, rfl, R1, T1, r1⟩ := q
    refine wpAny_mono (h2.go S1 m vals R1) (fun u s2 q => ?_) fun _ _ f => f
    obtain ⟨S2, rfl, R2, T2, r2⟩ := q
    obtain ⟨t, rfl⟩ := rep_int r2
    obtain ⟨y, rfl⟩ := rep_str (T2.rep r1)
    have hlt : i.toNat < x.length := (Array.getElem?_eq_some_iff.mp hc).1
    refine tail_any (typeIs_str _ _ _) PySem.F.slot_str_getitem.lookup (PyProof.Rows.getItem_str (c := c) ?_ ?_ ⟨⟨_, S2.M, S2.B⟩, rfl, R2.grow (.tok _), (T1.trans T2).trans (Grow.tr R2.sub (.tok _)), .str _ _⟩) (sub_plain hn _ _)
    · exact idx_in h0 hi
    · rw [seqIndex_nn h0 hlt]; exact hc) fun _ _ f => f)

/-- slices -/
structure EvP (X : Fx) (e : Option Expr) (σ : Sg) (i : Option Int) (σ' : Sg) : Prop where of ::
  go : ∀ S m vals, RelV X σ S m vals → wpAny (model X.prog X.w) X.A (evalPart e X.env) (fun v s' => ∃ S', S'.s = s' ∧ RelV X σ' S' m vals ∧ Tr S S' ∧ IsPart v i) (fun _ _ => False) S.s
theorem evp_none : EvP X none σ none σ := .of fun S m vals R => wpAny_evalPart_none ⟨S, rfl, R, R.tr, .none⟩
theorem evp_some {e : Expr} {i : Int} (h : Ev X e σ (.int i) σ1) : EvP X (some e) σ (some i) σ1 := .of fun S m vals R =>
  wpAny_evalPart_some (wpAny_mono (h.go S m vals R) (fun v s' ⟨S1, e1, R1, T1, r1⟩ => by obtain ⟨t, rfl⟩ := rep_int r1; exact ⟨S1, e1, R1, T1, .int _ _⟩) fun _ _ f => f)

noncomputable def pickD (ds : List PyData) (lo hi st : Option Int) : List PyData :=
  (sliceRange (sliceBounds lo hi st ds.length).1 (sliceBounds lo hi st ds.length).2.1 (sliceBounds lo hi st ds.length).2.2).filterMap (ds[·]?)
theorem RepAll.pick {B : Bad} {h : Heap} {vs : List Value} {ds : List PyData} (r : RepAll B h vs ds) : ∀ is : List Nat, RepAll B h (is.filterMap (vs[·]?)) (is.filterMap (ds[·]?))
  | [] => .nil
  | i :: is => by
    cases hv : vs[i]? with
    | none =>
      have : ds[i]? = none := by rw [List.getElem?_eq_none_iff] at hv ⊢; rw [← r.length]; exact hv
      simpa [List.filterMap_cons, hv, this] using r.pick is
    | some v =>
      obtain ⟨d, hd, rd⟩ := r.get' hv
      simpa [List.filterMap_cons, hv, hd] using RepAll.cons rd (r.pick is)
theorem ev_slice {value : Expr} {lo hi st : Option Expr} {l u s : Option Int} {ds : List PyData} {σ4 : Sg} (h1 : Ev X value σ (.list ds) σ1) (hl : EvP X lo σ1 l σ2) (hu : EvP X hi σ2 u σ3) (hst : EvP X st σ3 s σ4) (h0 : s ≠ some 0) (hsz : ds.length ≤ sizeLine) :
    Ev X (.Subscript value (.Slice lo hi st p2) pos) σ (.list (pickD ds l u s)) σ4 := .of fun S m vals R =>
  Subscript_ (wpAny_mono (h1.go S m vals R) (fun v s1 q => by
    obtain ⟨S1, rfl, R1, T1, r1⟩ := q
    refine wpAny_Slice (wpAny_mono (hl.go S1 m vals R1) (fun vl s2 q => ?_) fun _ _ f => f)
    obtain ⟨S2, rfl, R2, T2, il⟩ := q
    refine wpAny_mono (hu.go S2 m vals R2) (fun vu s3 q => ?_) fun _ _ f => f
    obtain ⟨S3, rfl, R3, T3, iu⟩ := q
    refine wpAny_mono (hst.go S3 m vals R3) (fun vst s4 q => ?_) fun _ _ f => f
    obtain ⟨S4, rfl, R4, T4, ist⟩ := q
    have T14 := (T2.trans T3).trans T4
    have g := Grow.push (s := S4.s) { cls := .type "slice", data := .fields #[vl, vu, vst] }
    obtain ⟨a, vs, rfl, ha, pl, rs⟩ := rep_list ((T14.rep r1).grow g)
    have hsz' : vs.size ≤ sizeLine := by have := rs.length; rw [Array.length_toList] at this; omega
    have fin : wpAny (model X.prog X.w) X.A (getItem (.ref a) (.ref S4.s.heap.objs.size)) (fun v s' => ∃ S', S'.s = s' ∧ RelV X σ4 S' m vals ∧ Tr S S' ∧ Rep S'.B s'.heap v (.list (pickD ds l u s))) (fun _ _ => False) { S4.s with heap := S4.s.heap.push { cls := .type "slice", data := .fields #[vl, vu, vst] } } := by
      refine wpAny_getItem_list_slice pl.isList (Heap.IsSliceOf.new _ _ _ _) il iu ist h0 ?_ hsz'
      have R5 := R4.grow g
      refine ⟨⟨_, S4.M, S4.B⟩, rfl, R5.grow (.push _), ((T1.trans T14).trans (g.tr R4.sub)).trans (Grow.tr (S := ⟨_, S4.M, S4.B⟩) R4.sub (.push _)), ?_⟩
      have e : slicePick vs l u s = ((sliceRange (sliceBounds l u s ds.length).1 (sliceBounds l u s ds.length).2.1 (sliceBounds l u s ds.length).2.2).filterMap (vs.toList[·]?)).toArray := by
        unfold slicePick
        have hl := rs.length
        rw [Array.length_toList] at hl
        rw [hl]
        simp [Array.getElem?_toList]
      rw [e]
      exact rep_newList (S := ⟨_, S4.M, S4.B⟩) R5.rel (rs.pick _)
    cases st with
    | none => exact tail_any pl.isList.typeIs slot_list_getitem.lookup fin rfl
    | some e => exact tail_any pl.isList.typeIs slot_list_getitem.lookup fin rfl) fun _ _ f => f)

theorem part_val {v : Value} {i : Option Int} (h : IsPart v i) : ∃ l : Option (Int × Tok), v = partValue l ∧ l.map (·.1) = i := by
  cases h with
  | none => exact ⟨none, rfl, rfl⟩
  | int i t => exact ⟨some (i, t), rfl, rfl⟩
theorem ev_sliceS {value : Expr} {lo hi : Option Expr} {l u : Option Int} {x : Str} (h1 : Ev X value σ (.str x) σ1) (hl : EvP X lo σ1 l σ2) (hu : EvP X hi σ2 u σ3) (hsz : x.length ≤ sizeLine) :
    Ev X (.Subscript value (.Slice lo hi none p2) pos) σ (.str (Txt.slice x l u)) σ3 := .of fun S m vals R =>
  Subscript_ (wpAny_mono (h1.go S m vals R) (fun v s1 q => by
    obtain ⟨S1, rfl, R1, T1, r1⟩ := q
    refine wpAny_Slice (wpAny_mono (hl.go S1 m vals R1) (fun vl s2 q => ?_) fun _ _ f => f)
    obtain ⟨S2, rfl, R2, T2, il⟩ := q
    refine wpAny_mono (hu.go S2 m vals R2) (fun vu s3 q => ?_) fun _ _ f => f
    obtain ⟨S3, rfl, R3, T3, iu⟩ := q
    refine wpAny_evalPart_none ?_
    have g := Grow.push (s := S3.s) { cls := .type "slice", data := .fields #[vl, vu, .none] }
    obtain ⟨y, rfl⟩ := rep_str r1
    obtain ⟨l', rfl, rfl⟩ := part_val il
    obtain ⟨u', rfl, rfl⟩ := part_val iu
    refine tail_any (typeIs_str _ _ _) PySem.F.slot_str_getitem.lookup (wpAny_getItem_str_slice (l := l') (u := u') (st := none) ⟨_, Heap.get?_push_size _ rfl, rfl, rfl⟩ rfl
      (post_val_or_str ⟨Nat.le_trans (Txt.slice_le x _ _) hsz, fun t' k => ⟨⟨_, S3.M, S3.B⟩, rfl, (R3.grow g).grow (.tok _), (((T1.trans T2).trans T3).trans (g.tr R3.sub)).trans (Grow.tr (S := ⟨_, S3.M, S3.B⟩) R3.sub (.tok _)), .str _ _⟩⟩)) rfl) fun _ _ f => f)
theorem ev_neg {e : Expr} {i : Int} (h : Ev X e σ (.int i) σ1) : Ev X (.UnaryOp .USub e pos) σ (.int (-i)) σ1 := .of fun S m vals R => by
  show wpAny _ _ (do let v ← eval e X.env; standAt pos; holding [v] (unaryOp .USub v)) _ _ _
  refine wpAny_bind (wpAny_mono (h.go S m vals R) (fun v s1 q => wpAny_bind (wpAny_standAt (wpAny_holding ?_))) fun _ _ f => f)
  obtain ⟨S1, rfl, R1, T1, r1⟩ := q
  obtain ⟨t, rfl⟩ := rep_int r1
  exact PyProof.Rows.neg_int ⟨⟨_, S1.M, S1.B⟩, rfl, R1.grow (.tok _), T1.trans (Grow.tr R1.sub (.tok _)), .int _ _⟩
end Mine
open PySem PySem.Spec PySem.Calls PySem.W PyProof.Rows
set_option Elab.async false
set_option maxRecDepth 100000
set_option maxHeartbeats 1000000
set_option linter.unusedVariables false
namespace Mine
variable {X : Fx} {σ σ1 σ2 σ3 : Sg} {pos p2 : Pos} {k : Nat}

/-- a name that this frame may store -/
noncomputable def Sto (X : Fx) (x : Str) : Prop := X.env.kindOf x = some .local ∨ (X.env.kindOf x = some .cell ∧ ∃ c, X.env.cells.lookup x = some c ∧ X.s₀.heap.get? c = none)

theorem ns_ne_plain {h : Heap} {L a : Addr} {m : Str → Option Value} {vs : Array Value} (hn : h.Ns L m) (p : h.PlainList a vs) : a ≠ L := by
  rintro rfl
  obtain ⟨o, es, ep, ho, hd, _⟩ := hn
  obtain ⟨n, p⟩ := p
  rw [ho] at p; cases p; cases hd
theorem cell_ne_plain {h : Heap} {c a : Addr} {v : Option Value} {vs : Array Value} (hc : h.IsCell c v) (p : h.PlainList a vs) : a ≠ c := by
  rintro rfl
  obtain ⟨o, ho, hd⟩ := hc
  obtain ⟨n, p⟩ := p
  rw [ho] at p; cases p; cases hd
theorem cell_ne_ns {h : Heap} {c L : Addr} {v : Option Value} {m : Str → Option Value} (hc : h.IsCell c v) (hn : h.Ns L m) : L ≠ c := by
  rintro rfl
  obtain ⟨o, ho, hd⟩ := hc
  obtain ⟨o', es, ep, ho', hd', _⟩ := hn
  rw [ho] at ho'; cases ho'; rw [hd] at hd'; cases hd'
theorem tbl_inj {x : Str} {i j : Nat} (h : X.tbl.Nodup) (hi : X.tbl[i]? = some x) (hj : X.tbl[j]? = some x) : i = j := by
  have hi' := (List.getElem?_eq_some_iff.mp hi)
  have hj' := (List.getElem?_eq_some_iff.mp hj)
  obtain ⟨h1, e1⟩ := hi'; obtain ⟨h2, e2⟩ := hj'
  have key := List.pairwise_iff_getElem.mp h
  rcases Nat.lt_trichotomy i j with q | q | q
  · exact absurd (e1.trans e2.symm) (key i j h1 h2 q)
  · exact q
  · exact absurd (e2.trans e1.symm) (key j i h2 h1 q)

/-- the new slot's own fact -/
noncomputable def NewSl (X : Fx) (S : St) (v : Value) : Sl → Prop
  | .fro d => Rep S.B S.h v d
  | .own xs => ∃ a vs, v = .ref a ∧ S.M a ∧ S.h.PlainList a vs ∧ RepAll S.B S.h vs.toList xs
  | .bor _ => False

theorem store_var {i : Nat} {x : Str} {v : Value} {S : St} {m : Str → Option Value} {vals : Nat → Option Value} {sl : Sl} {E : Value → Shared → Prop} (r : RelV X σ S m vals) (hx : X.tbl[i]? = some x) (hst : Sto X x) (hi : i < σ.length) (hn : NewSl X S v sl)
    (hap : ∀ xs, sl = .own xs → ∀ j ys, σ.at j = some (.own ys) → vals j ≠ some v) :
    wpAny (model X.prog X.w) X.A (storeName X.env x v) (fun _ s' => ∃ S', S'.s = s' ∧ Rel X (σ.set i (some sl)) S' ∧ Tr S S') E S.s := by
  -- what both roads share
  have main : ∀ (s' : Shared) (m' : Str → Option Value) (c : Addr), S.M c → Heap.SameBut c S.h s'.heap → s'.os = S.s.os → s'.gens = S.s.gens → s'.heap.Ns X.env.locals m' → (∃ o, s'.heap.get? c = some o) → (∀ a vs, S.h.PlainList a vs → a ≠ c) →
      (∀ y c', X.env.cells.lookup y = some c' → ∃ u, s'.heap.IsCell c' u) → (∀ j y, X.tbl[j]? = some y → VarAt X s'.heap m' y (if j = i then some v else vals j)) →
      ∃ S', S'.s = s' ∧ Rel X (σ.set i (some sl)) S' ∧ Tr S S' := by
    intro s' m' c hc hs hos hg hns hco hpl hcells hvar
    have T : Tr S ⟨s', S.M, S.B⟩ := ⟨fun b o hb e => (hs.2 b (fun q => hb (q ▸ hc))).trans e, fun _ h => .inl h, fun _ h => .inl h, fun _ _ h _ _ => h, r.sub, hos, hg, fun b o _ e => by
      by_cases q : b = c
      · rw [q]; exact hco
      · exact ⟨o, (hs.2 b q).trans e⟩⟩
    refine ⟨⟨s', S.M, S.B⟩, rfl, ⟨m', fun j => if j = i then some v else vals j, r.ok, fun b o e => ?_, hos.trans r.os, hg.trans r.gens, hns, r.mL, r.mnew, r.sub, r.out, fun a ha => ?_, r.mcell, hcells, hvar, fun j => ?_, fun j k' us ws h1 h2 h3 => ?_⟩, T⟩
    · refine (hs.2 b fun q => ?_).trans (r.keep b o e)
      rw [q, r.mnew c hc] at e; cases e
    · by_cases q : a = c
      · obtain ⟨o, ho⟩ := hco; rw [q]; exact Option.isSome_iff_exists.mpr ⟨o, ho⟩
      · have := r.ball a ha; rwa [← hs.2 a q] at this
    · rw [at_set hi]
      by_cases hj : j = i
      · rw [if_pos hj, if_pos hj]
        match sl, hn with
        | .fro d, hn => exact ⟨v, rfl, T.rep hn⟩
        | .own xs, ⟨a, vs, e, hM, ⟨n, hp⟩, hr⟩ => exact ⟨a, vs, by rw [e], hM, ⟨n, (hs.2 a (hpl a vs ⟨n, hp⟩)).trans hp⟩, T.repAll hr⟩
      · rw [if_neg hj, if_neg hj]
        refine (r.slot j).tr (fun _ _ => T.rep) (fun _ _ => T.repAll) fun a o ha ho ⟨ys, hys⟩ hv => ⟨ha, (hs.2 a ?_).trans ho⟩
        have q := r.slot j
        rw [hys] at q
        obtain ⟨a', vs, e', _, hp, _⟩ := q
        rw [hv] at e'; cases e'
        exact hpl _ vs hp
    · rw [at_set hi] at h1 h2
      by_cases hj : j = i
      · by_cases hk : k' = i
        · rw [hj, hk]
        · rw [if_pos hj] at h1
          cases h1
          rw [if_pos hj, if_neg hk] at h3; rw [if_neg hk] at h2
          exact absurd h3.symm (hap us rfl k' ws h2)
      · by_cases hk : k' = i
        · rw [if_pos hk] at h2; cases h2
          rw [if_neg hj, if_pos hk] at h3; rw [if_neg hj] at h1
          exact absurd h3 (hap ws rfl j us h1)
        · rw [if_neg hj] at h1 h3; rw [if_neg hk] at h2 h3; exact r.apart j k' us ws h1 h2 h3
  rcases hst with hk | ⟨hk, c, hc, hnew⟩
  · refine wpAny_storeName_local hk r.ns (fun h' hn' hs' => ?_) (by rw [r.ok.kind]; rfl)
    refine main _ (fun y => if y = x then some v else m y) X.env.locals r.mL hs' rfl rfl hn' (let ⟨o, _, _, ho, _⟩ := hn'; ⟨o, ho⟩) (fun a vs p => ns_ne_plain r.ns p) (fun y c' hc' => ?_) fun j y hy => ?_
    · obtain ⟨u, q⟩ := r.acell y c' hc'
      exact ⟨u, cell_keeps q fun o e => (hs'.2 c' (Ne.symm (cell_ne_ns q r.ns))).trans e⟩
    · by_cases hj : j = i
      · subst hj
        rw [hx] at hy; cases hy
        rw [if_pos rfl]
        exact .inl ⟨hk, by simp⟩
      · rw [if_neg hj]
        have hyx : y ≠ x := fun q => hj (tbl_inj r.ok.nodup hy (q ▸ hx))
        rcases r.var j y hy with ⟨q1, q2⟩ | ⟨c', q1, q2, q3⟩
        · exact .inl ⟨q1, by simp only [if_neg hyx]; exact q2⟩
        · exact .inr ⟨c', q1, q2, cell_keeps q3 fun o e => (hs'.2 c' (Ne.symm (cell_ne_ns q3 r.ns))).trans e⟩
  · obtain ⟨u₀, q₀⟩ := r.acell x c hc
    refine wpAny_storeName_cell r.ok.kind hk hc q₀ fun h' hc' hs' => ?_
    refine main _ m c ((r.mcell x c hc).2 hnew) hs' rfl rfl (r.ns.sameBut hs' (cell_ne_ns q₀ r.ns)) (let ⟨o, ho, _⟩ := hc'; ⟨o, ho⟩) (fun a vs p => cell_ne_plain q₀ p) (fun y c' hy => ?_) fun j y hy => ?_
    · by_cases q : c' = c
      · subst q; exact ⟨_, hc'⟩
      · obtain ⟨u, q1⟩ := r.acell y c' hy
        exact ⟨u, cell_keeps q1 fun o e => (hs'.2 c' q).trans e⟩
    · by_cases hj : j = i
      · subst hj
        rw [hx] at hy; cases hy
        rw [if_pos rfl]
        exact .inr ⟨c, .inl hk, hc, hc'⟩
      · rw [if_neg hj]
        have hyx : y ≠ x := fun q => hj (tbl_inj r.ok.nodup hy (q ▸ hx))
        rcases r.var j y hy with q | ⟨c', q1, q2, q3⟩
        · exact .inl q
        · have : c' ≠ c := fun q => hyx (r.ok.inj y x c (q ▸ q2) hc)
          exact .inr ⟨c', q1, q2, cell_keeps q3 fun o e => (hs'.2 c' this).trans e⟩

/-- a target takes a datum -/
structure As (X : Fx) (t : Expr) (σ : Sg) (d : PyData) (σ' : Sg) : Prop where of ::
  go : ∀ S v, Rel X σ S → Rep S.B S.h v d → wpAny (model X.prog X.w) X.A (assign t X.env v) (fun _ s' => ∃ S', S'.s = s' ∧ Rel X σ' S' ∧ Tr S S') (fun _ _ => False) S.s
theorem as_name (i : Nat) {x : Str} {d : PyData} (hx : X.tbl[i]? = some x) (hst : Sto X x) (hi : i < σ.length) : As X (.Name x pos) σ d (σ.set i (some (.fro d))) := .of fun S v ⟨m, vals, r⟩ hr =>
  wpAny_assign_Name (store_var r hx hst hi hr fun xs h => by cases h)

/-- several targets -/
noncomputable def Ass (X : Fx) (ts : List Expr) (σ : Sg) (ds : List PyData) (σ' : Sg) : Prop :=
  (assignEach ts X.env).length = ds.length ∧ (assignEach ts X.env).findIdx? (·.1) = none ∧
  ∀ S vs, Rel X σ S → RepAll S.B S.h vs ds → wpAny (model X.prog X.w) X.A (assignInOrder ((assignEach ts X.env).map (·.2)) vs) (fun _ s' => ∃ S', S'.s = s' ∧ Rel X σ' S' ∧ Tr S S') (fun _ _ => False) S.s
theorem assignEach_cons {t : Expr} {ts : List Expr} {env : Env} (h : isStarred t = false) : assignEach (t :: ts) env = (false, assign t env) :: assignEach ts env := by
  cases t <;> first | rfl | cases h
theorem ass_nil : Ass X [] σ [] σ := ⟨rfl, rfl, fun S vs R r => by cases r; exact wpAny_assignInOrder_none ⟨S, rfl, R, R.tr⟩⟩
theorem ass_cons {t : Expr} {ts : List Expr} {d : PyData} {ds : List PyData} (h1 : As X t σ d σ1) (h2 : Ass X ts σ1 ds σ2) (hs : isStarred t = false := by rfl) : Ass X (t :: ts) σ (d :: ds) σ2 := by
  refine ⟨by rw [assignEach_cons hs]; simp [h2.1], by rw [assignEach_cons hs]; simp [List.findIdx?_cons, h2.2.1], fun S vs R r => ?_⟩
  rw [assignEach_cons hs]
  cases r with
  | cons r1 r2 =>
    refine wpAny_assignInOrder_more (wpAny_mono (h1.go S _ R r1) (fun _ s1 q => ?_) fun _ _ f => f)
    obtain ⟨S1, rfl, R1, T1⟩ := q
    exact wpAny_mono (h2.2.2 S1 _ R1 (T1.repAll r2)) (fun _ s2 ⟨S2, e, R2, T2⟩ => ⟨S2, e, R2, T1.trans T2⟩) fun _ _ f => f


theorem IsTupP.isTuple {h : Heap} {a vs} (x : IsTupP h a vs) : h.IsTuple a vs := let ⟨n, e⟩ := x; ⟨_, e, rfl, n, rfl⟩
/-- ExtBut of a fresh place: the heap grows -/
theorem Grow.ofExt {s : Shared} {h' : Heap} (x : Heap.ExtBut s.heap.objs.size s.heap h') : Grow s { s with heap := h' } := ⟨fun b o e => x b o (Nat.ne_of_lt (Heap.lt_size e)) e, rfl, rfl⟩

theorem as_list {ts : List Expr} {ds : List PyData} (h : Ass X ts σ ds σ1) : As X (.Tuple ts k pos) σ (.list ds) σ1 := .of fun S v R r => by
  obtain ⟨a, vs, rfl, ha, pl, rs⟩ := rep_list r
  show wpAny _ _ (do standAt pos; unpack (.ref a) (assignEach ts X.env)) _ _ _
  refine wpAny_bind (wpAny_standAt ?_)
  unfold unpack
  have hl := rs.length
  rw [Array.length_toList] at hl
  rw [h.1, h.2.1, ← hl]
  refine wpAny_bind (wpAny_holding (kun_itemsOf R.ok.hh pl.isList fun h' hx => ?_))
  have g := Grow.ofExt hx
  exact wpAny_mono (h.2.2 ⟨_, S.M, S.B⟩ _ (R.grow g) (rs.grow g)) (fun _ s2 ⟨S2, e, R2, T2⟩ => ⟨S2, e, R2, (g.tr R.sub).trans T2⟩) fun _ _ f => f
theorem as_tuple {ts : List Expr} {ds : List PyData} (h : Ass X ts σ ds σ1) : As X (.Tuple ts k pos) σ (.tuple ds) σ1 := .of fun S v R r => by
  obtain ⟨a, vs, rfl, ha, pl, rs⟩ := rep_tuple r
  have hl := rs.length
  rw [Array.length_toList] at hl
  refine wpAny_assign_Tuple R.ok.hh pl.isTuple (by rw [h.1, hl]) h.2.1 fun h' hx => ?_
  have g := Grow.ofExt hx
  exact wpAny_mono (h.2.2 ⟨_, S.M, S.B⟩ _ (R.grow g) (rs.grow g)) (fun _ s2 ⟨S2, e, R2, T2⟩ => ⟨S2, e, R2, (g.tr R.sub).trans T2⟩) fun _ _ f => f

/-- statements -/
theorem ex_assign (i : Nat) {x : Str} {value : Expr} {d : PyData} (h : Ev X value σ d σ1) (hx : X.tbl[i]? = some x) (hst : Sto X x) (hi : i < σ1.length) (hs : swapsWith value (some (.Name x p2)) pos.line X.env = pure false := by rfl) :
    Ex X (.Assign [.Name x p2] value pos) σ (.next (σ1.set i (some (.fro d)))) := .of fun S ⟨m, vals, R⟩ =>
  wpAny_Assign_Name (wpAny_mono (h.go S m vals R) (fun v s1 q => by
    obtain ⟨S1, rfl, r, T1, r1⟩ := q
    exact wpAny_mono (store_var (sl := .fro d) r hx hst hi r1 fun xs h => by cases h) (fun _ s2 ⟨S2, e, R2, T2⟩ => ⟨S2, e, T1.trans T2, rfl, R2⟩) fun _ _ f => f) fun _ _ f => f) hs
theorem ex_unpack {ts : List Expr} {value : Expr} {d : PyData} (h : Ev X value σ d σ1) (ha : As X (.Tuple ts k p2) σ1 d σ2) (hs : swapsWithSole [.Tuple ts k p2] value pos.line X.env = pure false := by rfl) (hw : swappedStores [.Tuple ts k p2] value X.env = pure none := by rfl) :
    Ex X (.Assign [.Tuple ts k p2] value pos) σ (.next σ2) := .of fun S ⟨m, vals, R⟩ =>
  Assign_Tuple (wpAny_mono (h.go S m vals R) (fun v s1 q => by
    obtain ⟨S1, rfl, R1, T1, r1⟩ := q
    exact wpAny_mono (ha.go S1 v R1.rel r1) (fun _ s2 ⟨S2, e, R2, T2⟩ => ⟨S2, e, T1.trans T2, rfl, R2⟩) fun _ _ f => f) fun _ _ f => f) hs hw
theorem ex_return {e : Expr} {d : PyData} (h : Ev X e σ d σ1) : Ex X (.Return (some e) pos) σ (.ret d) := .of fun S ⟨m, vals, R⟩ =>
  wpAny_Return_some (wpAny_mono (h.go S m vals R) (fun v s1 ⟨S1, e1, R1, T1, r1⟩ => by subst e1; exact ⟨S1, rfl, T1, v, σ1, rfl, R1.rel, r1⟩) fun _ _ f => f)
theorem ex_if {t : Expr} {b1 b2 : List Stmt} {b : Bool} {f : Fl} (ht : Tt X t σ b σ1) (h1 : b = true → Exs X b1 σ1 f) (h2 : b = false → Exs X b2 σ1 f) : Ex X (.If t b1 b2 pos) σ f := .of fun S ⟨m, vals, R⟩ =>
  wpAny_If (wpAny_mono (ht.go S m vals R) (fun v s1 q => by
    obtain ⟨S1, rfl, R1, T1, rfl⟩ := q
    have fin : ∀ b, Exs X b σ1 f → wpAny (model X.prog X.w) X.A (execs b X.env) (fun fl s' => ∃ S', S'.s = s' ∧ Tr S S' ∧ FlOK X S' fl f) (fun _ _ => False) S1.s := fun b hb =>
      wpAny_mono (hb.go S1 R1.rel) (fun v s2 ⟨S2, e2, T2, r2⟩ => ⟨S2, e2, T1.trans T2, r2⟩) fun _ _ f => f
    cases v
    · exact fin _ (h2 rfl)
    · exact fin _ (h1 rfl)) fun _ _ f => f)
theorem ex_cont : Ex X (.Continue pos) σ (.cont σ) := .of fun S R => wpAny_Continue ⟨S, rfl, R.tr, rfl, R⟩
theorem exs_nil : Exs X [] σ (.next σ) := .of fun S R => wpAny_execs_nil ⟨S, rfl, R.tr, rfl, R⟩
theorem exs_cons {st : Stmt} {sts : List Stmt} {f : Fl} (h1 : Ex X st σ (.next σ1)) (h2 : Exs X sts σ1 f) : Exs X (st :: sts) σ f := .of fun S R =>
  wpAny_execs_cons (wpAny_mono (h1.go S R) (fun fl s1 q => by
    obtain ⟨S1, rfl, T1, rfl, R1⟩ := q
    exact wpAny_mono (h2.go S1 R1) (fun v s2 ⟨S2, e2, T2, r2⟩ => ⟨S2, e2, T1.trans T2, r2⟩) fun _ _ f => f) fun _ _ f => f)
theorem exs_ret {st : Stmt} {sts : List Stmt} {d : PyData} (h1 : Ex X st σ (.ret d)) : Exs X (st :: sts) σ (.ret d) := .of fun S R =>
  wpAny_execs_cons (wpAny_mono (h1.go S R) (fun fl s1 q => by
    obtain ⟨S1, rfl, T1, v, σ1, rfl, R1, r1⟩ := q
    exact ⟨S1, rfl, T1, v, σ1, rfl, R1, r1⟩) fun _ _ f => f)
theorem exs_cont {st : Stmt} {sts : List Stmt} (h1 : Ex X st σ (.cont σ1)) : Exs X (st :: sts) σ (.cont σ1) := .of fun S R =>
  wpAny_execs_cons (wpAny_mono (h1.go S R) (fun fl s1 q => by
    obtain ⟨S1, rfl, T1, rfl, R1⟩ := q
    exact ⟨S1, rfl, T1, rfl, R1⟩) fun _ _ f => f)
end Mine
open PySem PySem.Spec PySem.Calls PySem.W PyProof.Rows
set_option Elab.async false
set_option maxRecDepth 100000
set_option maxHeartbeats 1000000
set_option linter.unusedVariables false
namespace Mine
variable {X : Fx} {σ σ1 σ2 σ3 : Sg} {pos p2 p3 : Pos} {k : Nat}

/-- a new list, owned -/
theorem RelV.allocOwn {S : St} {m : Str → Option Value} {vals : Nat → Option Value} (r : RelV X σ S m vals) {vs : List Value} {xs : List PyData} (q : RepAll S.B S.h vs xs) :
    ∃ S' a us, S'.s = { S.s with heap := S.h.push { cls := .type "list", data := .seq vs.toArray } } ∧ a = S.h.objs.size ∧ RelV X σ S' m vals ∧ Tr S S' ∧ S'.M a ∧ S'.h.PlainList a us ∧ RepAll S'.B S'.h us.toList xs ∧ (∀ j ys, σ.at j = some (.own ys) → vals j ≠ some (.ref a)) := by
  have hfr : S.h.get? S.h.objs.size = none := fresh_none _
  let S' : St := ⟨{ S.s with heap := S.h.push { cls := .type "list", data := .seq vs.toArray } }, fun b => S.M b ∨ b = S.h.objs.size, fun b => S.B b ∨ b = S.h.objs.size⟩
  have T : Tr S S' := ⟨fun b o _ e => Heap.get?_push_of_some _ e, fun b h => h.imp id fun q => by rw [q]; exact hfr, fun b h => h.imp id fun q => by rw [q]; exact hfr, fun _ _ h _ _ => .inl h, r.sub, rfl, rfl, fun b o _ e => ⟨o, Heap.get?_push_of_some _ e⟩⟩
  have keep : S.h.StaysIn S'.h := fun b o e => Heap.get?_push_of_some _ e
  have nw : X.s₀.heap.get? S.h.objs.size = none := by
    cases e : X.s₀.heap.get? S.h.objs.size with
    | none => rfl
    | some o => have := r.keep _ _ e; rw [hfr] at this; cases this
  refine ⟨S', S.h.objs.size, vs.toArray, rfl, rfl, ⟨r.ok, fun b o e => keep b o (r.keep b o e), r.os, r.gens, r.ns.keeps keep, .inl r.mL, fun a ha => ha.elim (r.mnew a) fun q => by rw [q]; exact nw, fun a ha => ha.imp (r.sub a) id, fun a ha => .inl (r.out a ha), fun a ha => ?_, fun x c hc => ⟨.inl (r.mcell x c hc).1, fun h => .inl ((r.mcell x c hc).2 h)⟩,
    fun x c hc => let ⟨v, q⟩ := r.acell x c hc; ⟨v, cell_keeps q fun o e => keep c o e⟩, fun i x hx => ?_, fun i => ?_, r.apart⟩, T, .inr rfl, ⟨0, Heap.get?_push_size _ rfl⟩, by simpa using T.repAll q, fun j ys hj hv => ?_⟩
  · rcases ha with ha | rfl
    · obtain ⟨o, ho⟩ := Option.isSome_iff_exists.mp (r.ball a ha)
      exact Option.isSome_iff_exists.mpr ⟨o, keep a o ho⟩
    · exact Option.isSome_iff_exists.mpr ⟨_, Heap.get?_push_size _ rfl⟩
  · rcases r.var i x hx with q | ⟨c, k, l, q⟩
    · exact .inl q
    · exact .inr ⟨c, k, l, cell_keeps q fun o e => keep c o e⟩
  · exact (r.slot i).tr (fun _ _ => T.rep) (fun _ _ => T.repAll) fun a o ha ho _ _ => ⟨.inl ha, keep a o ho⟩
  · have q := r.slot j
    rw [hj] at q
    obtain ⟨a, us, e, _, ⟨n, hp⟩, _⟩ := q
    rw [hv] at e; cases e
    rw [hfr] at hp; cases hp

structure EvF (X : Fx) (e : Expr) (σ : Sg) (xs : List PyData) (σ' : Sg) : Prop where of ::
  go : ∀ S m vals, RelV X σ S m vals → wpAny (model X.prog X.w) X.A (eval e X.env) (fun v s' => ∃ S' a us, S'.s = s' ∧ v = .ref a ∧ RelV X σ' S' m vals ∧ Tr S S' ∧ S'.M a ∧ S'.h.PlainList a us ∧ RepAll S'.B S'.h us.toList xs ∧ (∀ j ys, σ'.at j = some (.own ys) → vals j ≠ some (.ref a))) (fun _ _ => False) S.s
theorem evf_list {es : List Expr} {ds : List PyData} (h : Evs X es σ ds σ1) (hs : ds.length ≤ sizeLine) : EvF X (.List es pos) σ ds σ1 := .of fun S m vals R =>
  wpAny_List (wpAny_mono (h.go S pos m vals R) (fun vs s1 q => by
    obtain ⟨S1, rfl, R1, T1, r1⟩ := q
    obtain ⟨S', a, us, e, ea, R', T', hM, hp, hr, ha⟩ := R1.allocOwn r1
    exact ⟨by rw [r1.length]; exact hs, S', a, us, e, by rw [ea], R', T1.trans T', hM, hp, hr, ha⟩) fun _ _ f => f)
theorem evf_add {l r : Expr} {xs ys : List PyData} (hl : Ev X l σ (.list xs) σ1) (hr : Ev X r σ1 (.list ys) σ2) (hs : xs.length + ys.length ≤ sizeLine) : EvF X (.BinOp l .Add r pos) σ (xs ++ ys) σ2 := .of fun S m vals R =>
  wpAny_BinOp (wpAny_mono (hl.go S m vals R) (fun va s1 h1 => by
    obtain ⟨S1, rfl, R1, T1, r1⟩ := h1
    refine wpAny_mono (hr.go S1 m vals R1) (fun vb s2 h2 => ?_) fun _ _ f => f
    obtain ⟨S2, rfl, R2, T2, r2⟩ := h2
    obtain ⟨a, vs, rfl, ha, ⟨n, pa⟩, qa⟩ := rep_list (T2.rep r1)
    obtain ⟨b, us, rfl, hb, ⟨n2, pb⟩, qb⟩ := rep_list r2
    have hl : vs.size + us.size ≤ sizeLine := by
      have h1 := qa.length; have h2 := qb.length
      rw [Array.length_toList] at h1 h2; omega
    refine concat_meets ⟨_, pa, rfl⟩ ⟨_, pb, rfl⟩ noFill_list_add seq_list_add PySem.F.slot_list_add PySem.F.entry_list_add (PySem.F.args_list_add_2 _ _) (list_addW a b vs us n n2 none none #[] #[] hl) ⟨pa, pb, ?_⟩
    have e : vs ++ us = (vs.toList ++ us.toList).toArray := by simp
    rw [e]
    obtain ⟨S', a', us', e', ea, R', T', hM, hp, hr', ha'⟩ := R2.allocOwn (qa.append qb)
    exact ⟨S', a', us', e', by rw [ea], R', (T1.trans T2).trans T', hM, hp, hr', ha'⟩) fun _ _ f => f)
theorem ex_assign_own (i : Nat) {x : Str} {value : Expr} {xs : List PyData} (h : EvF X value σ xs σ1) (hx : X.tbl[i]? = some x) (hst : Sto X x) (hi : i < σ1.length) (hs : swapsWith value (some (.Name x p2)) pos.line X.env = pure false := by rfl) :
    Ex X (.Assign [.Name x p2] value pos) σ (.next (σ1.set i (some (.own xs)))) := .of fun S ⟨m, vals, R⟩ =>
  wpAny_Assign_Name (wpAny_mono (h.go S m vals R) (fun v s1 q => by
    obtain ⟨S1, a, us, rfl, rfl, r, T1, hM, hp, hr, ha⟩ := q
    exact wpAny_mono (store_var (sl := .own xs) r hx hst hi ⟨a, us, rfl, hM, hp, hr⟩ fun _ _ j ys hj => ha j ys hj) (fun _ s2 ⟨S2, e, R2, T2⟩ => ⟨S2, e, T1.trans T2, rfl, R2⟩) fun _ _ f => f) fun _ _ f => f) hs

/-- a list of one's own is changed in its place -/
theorem RelV.updOwn {S : St} {m : Str → Option Value} {vals : Nat → Option Value} (r : RelV X σ S m vals) {j : Nat} {ys ys' : List PyData} {a : Addr} {h' : Heap} {us' : Array Value} (hj : σ.at j = some (.own ys)) (hv : vals j = some (.ref a)) (hs : Heap.SameBut a S.h h') (hp : h'.PlainList a us') (hr : RepAll S.B S.h us'.toList ys') :
    RelV X (σ.set j (some (.own ys'))) ⟨{ S.s with heap := h' }, S.M, S.B⟩ m vals ∧ Tr S ⟨{ S.s with heap := h' }, S.M, S.B⟩ := by
  have q := r.slot j
  rw [hj] at q
  obtain ⟨a', us, ha, hM, hpl, hrr⟩ := q
  rw [hv] at ha; cases ha
  have hil : j < σ.length := by
    rcases Nat.lt_or_ge j σ.length with h | h
    · exact h
    · unfold Sg.at at hj; rw [List.getElem?_eq_none h] at hj; cases hj
  have T : Tr S ⟨{ S.s with heap := h' }, S.M, S.B⟩ := ⟨fun b o hb e => (hs.2 b fun q => hb (q ▸ hM)).trans e, fun _ h => .inl h, fun _ h => .inl h, fun _ _ h _ _ => h, r.sub, rfl, rfl, fun b o _ e => by
    by_cases q : b = a
    · obtain ⟨n, hp⟩ := hp; rw [q]; exact ⟨_, hp⟩
    · exact ⟨o, (hs.2 b q).trans e⟩⟩
  refine ⟨⟨r.ok, fun b o e => (hs.2 b fun q => ?_).trans (r.keep b o e), r.os, r.gens, r.ns.sameBut hs (Ne.symm (ns_ne_plain r.ns hpl)), r.mL, r.mnew, r.sub, r.out, fun b hb => ?_, r.mcell, fun x c hc => ?_, fun i x hx => ?_, fun i => ?_, fun i i' us' ws h1 h2 h3 => ?_⟩, T⟩
  · rw [q, r.mnew a hM] at e; cases e
  · by_cases q : b = a
    · obtain ⟨n, hp⟩ := hp; rw [q]; exact Option.isSome_iff_exists.mpr ⟨_, hp⟩
    · have := r.ball b hb; rwa [← hs.2 b q] at this
  · obtain ⟨v, q⟩ := r.acell x c hc
    exact ⟨v, cell_keeps q fun o e => (hs.2 c (Ne.symm (cell_ne_plain q hpl))).trans e⟩
  · rcases r.var i x hx with q | ⟨c, k, l, q⟩
    · exact .inl q
    · exact .inr ⟨c, k, l, cell_keeps q fun o e => (hs.2 c (Ne.symm (cell_ne_plain q hpl))).trans e⟩
  · rw [at_set hil]
    by_cases hi : i = j
    · rw [if_pos hi, hi]
      exact ⟨a, us', hv, hM, hp, T.repAll hr⟩
    · rw [if_neg hi]
      refine (r.slot i).tr (fun _ _ => T.rep) (fun _ _ => T.repAll) fun b o hb ho ⟨zs, hzs⟩ hvb => ⟨hb, (hs.2 b fun q => hi (r.apart i j zs ys hzs hj (hvb.trans (q ▸ hv.symm)))).trans ho⟩
  · rw [at_set hil] at h1 h2
    by_cases hi : i = j
    · by_cases hk : i' = j
      · rw [hi, hk]
      · rw [if_neg hk] at h2
        exact hi ▸ (r.apart j i' ys ws hj h2 (hi ▸ h3))
    · rw [if_neg hi] at h1
      by_cases hk : i' = j
      · rw [hk]; exact r.apart i j us' ys h1 hj (hk ▸ h3)
      · rw [if_neg hk] at h2; exact r.apart i i' us' ws h1 h2 h3

/-- method calls upon a value of a built-in type -/
theorem backTo_plain {es : List Expr} {env : Env} (p : Pos) (h : es.all (fun e => !isStarred e) = true) : (backTo p (starEach es env)).any (·.1) = false ∧ (backTo p (starEach es env)).all (fun x => !x.1) = true := by
  induction es with
  | nil => exact ⟨rfl, rfl⟩
  | cons e es ih =>
    simp only [List.all_cons, Bool.and_eq_true, Bool.not_eq_true'] at h
    rw [starEach_cons h.1]
    have := ih h.2
    exact ⟨this.1, this.2⟩
theorem args_of {f : Value} {es : List Expr} {ds : List PyData} {p : Pos} {S : St} {m : Str → Option Value} {vals : Nat → Option Value} {Q : Args → Shared → Prop} (h : Evs X es σ ds σ1) (r : RelV X σ S m vals) (hn : es.all (fun e => !isStarred e) = true)
    (hQ : ∀ vs S', RelV X σ1 S' m vals → Tr S S' → RepAll S'.B S'.h vs ds → Q ⟨vs, []⟩ S'.s) : wpAny (model X.prog X.w) X.A (evalArgs f true (backTo p (starEach es X.env)) []) Q (fun _ _ => False) S.s := by
  have hm : wpAny (model X.prog X.w) X.A (spliced (backTo p (starEach es X.env))) (fun vs s' => Q ⟨vs, []⟩ s') (fun _ _ => False) S.s :=
    wpAny_mono (h.go S p m vals r) (fun vs s' ⟨S', e, R', T', q⟩ => by subst e; exact hQ vs S' R' T' q) fun _ _ f => f
  cases es with
  | nil =>
    exact fun Γ p hΓ => PySem.evalArgs_none (hm Γ p hΓ) Γ p hΓ
  | cons e es =>
    simp only [List.all_cons, Bool.and_eq_true, Bool.not_eq_true'] at hn
    rw [starEach_cons hn.1] at hm ⊢
    exact evalArgs_plain hm

theorem ev_method {o : Expr} {name : Str} {args : List Expr} {T id : String} {d0 d : PyData} {ds : List PyData} (ho : Ev X o σ d0 σ1) (ha : Evs X args σ1 ds σ2)
    (hbase : attributeBase o name X.env (eval o X.env) = eval o X.env) (hline : (p2.endLine == pos.line) = true) (hn : args.all (fun e => !isStarred e) = true) (hlen : args.length < 20)
    (pa : PlainAttrs T) (slot : Slot T name id) (hty : typeOf (.builtin id) = pure (.type "method_descriptor"))
    (ht : ∀ (B : Bad) (h : Heap) (v : Value) (s : Shared), s.heap = h → Rep B h v d0 → s.TypeIs v T ∧ (∀ a, v = .ref a → ∃ ob, s.heap.get? a = some ob ∧ ob.dict = none))
    (hc : ∀ S v vs, Rel X σ2 S → Rep S.B S.h v d0 → RepAll S.B S.h vs ds → wpAny (model X.prog X.w) X.A (call (.builtin id) (v :: vs)) (fun u s' => Grow S.s s' ∧ Rep S.B s'.heap u d) (fun _ _ => False) S.s) :
    Ev X (.Call (.Attribute o name p2) args [] pos) σ d σ2 := .of fun S m vals R => by
  obtain ⟨b1, b2⟩ := backTo_plain (env := X.env) pos hn
  refine wpAny_Call_method hbase ?_ hline pa slot hty (wpAny_mono (ho.go S m vals R) (fun v s1 q => ?_) fun _ _ f => f)
  · rw [b2]
    simp only [List.length_nil, Nat.add_zero, Bool.true_and]
    refine Bool.and_eq_true_iff.mpr ⟨rfl, ?_⟩
    simp; omega
  · obtain ⟨S1, rfl, R1, T1, r1⟩ := q
    have := ht _ _ _ _ rfl r1
    refine ⟨this.1, this.2, callWith_builtin b1 (args_of ha R1 hn fun vs S2 R2 T2 q => ?_)⟩
    exact wpAny_mono (hc S2 v vs R2.rel (T2.rep r1) q) (fun u s3 ⟨g, r3⟩ => ⟨⟨s3, S2.M, S2.B⟩, rfl, R2.grow g, (T1.trans T2).trans (g.tr R2.sub), r3⟩) fun _ _ f => f

/-- x.append(e), x a list of one's own -/
theorem ev_append (j : Nat) {x : Str} {e : Expr} {d : PyData} {xs ys : List PyData} (hx : X.tbl[j]? = some x) (hs : σ.at j = some (.own xs)) (h : Ev X e σ d σ1) (hs1 : σ1.at j = some (.own ys)) (hz : ys.length ≤ sizeLine) (hline : (p2.endLine == pos.line) = true) (hn : isStarred e = false := by rfl) :
    Ev X (.Call (.Attribute (.Name x p3) "append" p2) [e] [] pos) σ .none (σ1.set j (some (.own (ys ++ [d])))) := .of fun S m vals R => by
  have htr : backTo pos (starEach [e] X.env) = [(false, eval e X.env)] := by rw [starEach_cons hn]; rfl
  have q := R.slot j
  rw [hs] at q
  obtain ⟨a, us, ha, hM, ⟨n, hp⟩, hr⟩ := q
  refine wpAny_Call_append rfl (by rw [htr]; rfl) hline htr (load_var R hx ha ⟨a, us, rfl, ⟨_, n, hp, rfl, rfl, rfl⟩, ?_⟩)
  refine wpAny_mono (h.go S m vals R) (fun v s1 q => ?_) fun _ _ f => f
  obtain ⟨S1, rfl, R1, T1, r1⟩ := q
  have q := R1.slot j
  rw [hs1] at q
  obtain ⟨a', us', ha', hM', hp', hr'⟩ := q
  rw [ha] at ha'; cases ha'
  have hz' : us'.size ≤ sizeLine := by have := hr'.length; rw [Array.length_toList] at this; omega
  refine wpAny_list_append_plain hp' (fun h' hp'' hs' => ?_) hz'
  obtain ⟨R2, T2⟩ := R1.updOwn hs1 ha hs' hp'' (ys' := ys ++ [d]) (by simpa using hr'.append (.cons r1 .nil))
  exact ⟨_, rfl, R2, T1.trans T2, .none⟩
/-- x.pop() -/
theorem ev_pop (j : Nat) {x : Str} {d : PyData} {ys : List PyData} (hx : X.tbl[j]? = some x) (hs : σ.at j = some (.own (ys ++ [d]))) (hz : ys.length < sizeLine) (hline : (p2.endLine == pos.line) = true) :
    Ev X (.Call (.Attribute (.Name x p3) "pop" p2) [] [] pos) σ d (σ.set j (some (.own ys))) := .of fun S m vals R => by
  have q := R.slot j
  rw [hs] at q
  obtain ⟨a, us, ha, hM, ⟨n, hp⟩, hr⟩ := q
  refine wpAny_Call_method (T := "list") (id := "list.pop") rfl rfl hline PySem.F.plainAttrs_list PySem.F.slot_list_pop PySem.F.type_list_pop (load_var R hx ha ⟨⟨_, hp, rfl⟩, fun b e => by cases e; exact ⟨_, hp, rfl⟩, ?_⟩)
  refine callWith_builtin rfl (PySem.evalArgs_none ?_)
  have hl := hr.length
  rw [Array.length_toList, List.length_append, List.length_singleton] at hl
  obtain ⟨y, hy, ry⟩ := hr.get (i := ys.length) (d := d) (by simp)
  have hy' : us[us.size - 1]? = some y := by rw [hl]; simpa using hy
  refine call_meets PySem.F.slot_list_pop ⟨_, hp, rfl⟩ PySem.F.entry_list_pop (PySem.F.args_list_pop_1 _) (PySem.MeetsSeq.list_pop_last a us n y hy' (by omega)) ⟨hp, ?_⟩
  have e1 : us.eraseIdxIfInBounds (us.size - 1) = us.pop := by
    unfold Array.eraseIdxIfInBounds
    rw [dif_pos (by omega)]
    apply Array.ext'
    rw [Array.toList_eraseIdx, Array.toList_pop, List.eraseIdx_eq_dropLast (by simp; omega)]
  have hs' := Heap.SameBut.update S.h a (Obj.mapSeq fun xs => xs.eraseIdxIfInBounds (us.size - 1))
  have hp' : ((S.h.update a (Obj.mapSeq fun xs => xs.eraseIdxIfInBounds (us.size - 1)))).PlainList a us.pop := by
    refine ⟨if us.pop.size == us.size then n else n + 1, (Heap.get?_update_self _ hp rfl).trans ?_⟩
    simp only [Obj.mapSeq, e1]
  obtain ⟨R2, T2⟩ := R.updOwn hs ha hs' hp' (ys' := ys) (by
    have := hr.take ys.length
    rw [List.take_left] at this
    rw [Array.toList_pop, List.dropLast_eq_take, Array.length_toList, hl]
    simpa using this)
  exact ⟨_, rfl, R2, T2, T2.rep ry⟩
theorem ex_expr {e : Expr} {d : PyData} (h : Ev X e σ d σ1) (hs : swapsWith e none pos.line X.env = pure false := by rfl) : Ex X (.Expr e pos) σ (.next σ1) := .of fun S ⟨m, vals, R⟩ => by
  refine wpAny_Expr_any (wpAny_mono (h.go S m vals R) (fun v s1 ⟨S1, e1, R1, T1, r1⟩ => ⟨S1, e1, T1, rfl, R1.rel⟩) fun _ _ f => f) ?_ hs
  unfold interactive
  rw [R.ok.kind]; rfl
end Mine
open PySem PySem.Spec PySem.Calls PySem.W PyProof.Rows
set_option Elab.async false
set_option maxRecDepth 100000
set_option maxHeartbeats 1000000
set_option linter.unusedVariables false
namespace Mine
variable {X : Fx}
inductive ForR (X : Fx) (t : Expr) (body : List Stmt) : List PyData → Sg → Sg → Prop
  | nil {σ} : ForR X t body [] σ σ
  | cons {d ds σ σ1 σ2 σ3} : As X t σ d σ1 → (Exs X body σ1 (.next σ2) ∨ Exs X body σ1 (.cont σ2)) → ForR X t body ds σ2 σ3 → ForR X t body (d :: ds) σ σ3
inductive WhR (X : Fx) (test : Expr) (body : List Stmt) : Nat → Sg → Sg → Prop
  | done {σ σ1} : Tt X test σ false σ1 → WhR X test body 0 σ σ1
  | step {n σ σ1 σ2 σ3} : Tt X test σ true σ1 → Exs X body σ1 (.next σ2) → WhR X test body n σ2 σ3 → WhR X test body (n + 1) σ σ3

variable {σ σ1 σ2 σ3 : Sg} {pos p2 p3 : Pos} {k : Nat}

/-- everything but W stays -/
structure KB (W : Bad) (s s' : Shared) : Prop where
  keep : ∀ b o, ¬ W b → s.heap.get? b = some o → s'.heap.get? b = some o
  all : ∀ b, W b → ∃ o, s'.heap.get? b = some o ∧ ∀ v, o.data ≠ .cell v
  os : s'.os = s.os
  gens : s'.gens = s.gens

noncomputable def WBad (W : Bad) (S : St) : Prop := ∀ b, W b → S.B b ∧ ¬ S.M b ∧ (∃ o, S.h.get? b = some o ∧ ∀ v, o.data ≠ .cell v)

theorem KB.wbad {W : Bad} {S : St} {s' : Shared} (g : KB W S.s s') (hW : WBad W S) : WBad W ⟨s', S.M, S.B⟩ := fun b hb => ⟨(hW b hb).1, (hW b hb).2.1, g.all b hb⟩
theorem RelV.kb {S : St} {s' : Shared} {m : Str → Option Value} {vals : Nat → Option Value} {W : Bad} (r : RelV X σ S m vals) (g : KB W S.s s') (hW : WBad W S) (h0 : ∀ b, W b → X.s₀.heap.get? b = none) : RelV X σ ⟨s', S.M, S.B⟩ m vals := by
  have nM : ∀ b, S.M b → ¬ W b := fun b hm hw => (hW b hw).2.1 hm
  have nc : ∀ c v, S.h.IsCell c v → ¬ W c := fun c v ⟨o, ho, hd⟩ hw => by
    obtain ⟨o', ho', hn⟩ := (hW c hw).2.2
    rw [ho] at ho'; cases ho'; exact hn _ hd
  have RP : ∀ u d, Rep S.B S.h u d → Rep S.B s'.heap u d := fun u d => Rep.tr fun b o hb e => ⟨hb, g.keep b o (fun hw => hb (hW b hw).1) e⟩
  have RA : ∀ u d, RepAll S.B S.h u d → RepAll S.B s'.heap u d := fun u d => RepAll.tr fun b o hb e => ⟨hb, g.keep b o (fun hw => hb (hW b hw).1) e⟩
  refine ⟨r.ok, fun b o e => g.keep b o (fun hw => ?_) (r.keep b o e), g.os.trans r.os, g.gens.trans r.gens, ?_, r.mL, r.mnew, r.sub, r.out, fun a ha => ?_, r.mcell, fun x c hc => ?_, fun i x hx => ?_, fun i => ?_, r.apart⟩
  · rw [h0 b hw] at e; cases e
  · obtain ⟨o, es, ep, ho, q⟩ := r.ns; exact ⟨o, es, ep, g.keep _ o (nM _ r.mL) ho, q⟩
  · by_cases hw : W a
    · obtain ⟨o, ho, _⟩ := g.all a hw; exact Option.isSome_iff_exists.mpr ⟨o, ho⟩
    · obtain ⟨o, ho⟩ := Option.isSome_iff_exists.mp (r.ball a ha)
      exact Option.isSome_iff_exists.mpr ⟨o, g.keep a o hw ho⟩
  · obtain ⟨v, q⟩ := r.acell x c hc
    exact ⟨v, cell_keeps q fun o e => g.keep c o (nc c v q) e⟩
  · rcases r.var i x hx with q | ⟨c, k, l, q⟩
    · exact .inl q
    · exact .inr ⟨c, k, l, cell_keeps q fun o e => g.keep c o (nc c _ q) e⟩
  · exact (r.slot i).tr RP RA fun a o ha ho _ _ => ⟨ha, g.keep a o (nM a ha) ho⟩
theorem Rel.kb {S : St} {s' : Shared} {W : Bad} (R : Rel X σ S) (g : KB W S.s s') (hW : WBad W S) (h0 : ∀ b, W b → X.s₀.heap.get? b = none) : Rel X σ ⟨s', S.M, S.B⟩ := let ⟨m, vals, r⟩ := R; ⟨m, vals, r.kb g hW h0⟩
theorem Tr.kb {S0 S : St} {s' : Shared} {W : Bad} (T : Tr S0 S) (g : KB W S.s s') (h0 : ∀ b, W b → S0.h.get? b = none) : Tr S0 ⟨s', S.M, S.B⟩ :=
  ⟨fun b o hm e => g.keep b o (fun hw => by rw [h0 b hw] at e; cases e) (T.keep b o hm e), T.bsub, T.msub, T.bkeep, T.sub, g.os.trans T.os, g.gens.trans T.gens, fun b o hm e => let ⟨o', e'⟩ := T.live b o hm e; ⟨o', g.keep b o' (fun hw => by rw [h0 b hw] at e; cases e) e'⟩⟩
/-- the iterator is done: nobody looks at it any more -/
structure KB0 (W : Bad) (s s' : Shared) : Prop where
  keep : ∀ b o, ¬ W b → s.heap.get? b = some o → s'.heap.get? b = some o
  os : s'.os = s.os
  gens : s'.gens = s.gens
theorem RelV.kb0 {S : St} {s' : Shared} {m : Str → Option Value} {vals : Nat → Option Value} {W : Bad} (r : RelV X σ S m vals) (g : KB0 W S.s s') (hW : WBad W S) (h0 : ∀ b, W b → X.s₀.heap.get? b = none) : RelV X σ ⟨s', S.M, fun b => S.B b ∧ ¬ W b⟩ m vals := by
  have nM : ∀ b, S.M b → ¬ W b := fun b hm hw => (hW b hw).2.1 hm
  have nc : ∀ c v, S.h.IsCell c v → ¬ W c := fun c v ⟨o, ho, hd⟩ hw => by
    obtain ⟨o', ho', hn⟩ := (hW c hw).2.2
    rw [ho] at ho'; cases ho'; exact hn _ hd
  have RP : ∀ u d, Rep S.B S.h u d → Rep (fun b => S.B b ∧ ¬ W b) s'.heap u d := fun u d => Rep.tr fun b o hb e => ⟨fun q => hb q.1, g.keep b o (fun hw => hb (hW b hw).1) e⟩
  have RA : ∀ u d, RepAll S.B S.h u d → RepAll (fun b => S.B b ∧ ¬ W b) s'.heap u d := fun u d => RepAll.tr fun b o hb e => ⟨fun q => hb q.1, g.keep b o (fun hw => hb (hW b hw).1) e⟩
  refine ⟨r.ok, fun b o e => g.keep b o (fun hw => ?_) (r.keep b o e), g.os.trans r.os, g.gens.trans r.gens, ?_, r.mL, r.mnew, fun a ha => ⟨r.sub a ha, nM a ha⟩, fun a ha => ⟨r.out a ha, fun hw => ?_⟩, fun a ha => ?_, fun x c hc => ?_, fun x c hc => ?_, fun i x hx => ?_, fun i => ?_, r.apart⟩
  · rw [h0 b hw] at e; cases e
  · obtain ⟨o, es, ep, ho, q⟩ := r.ns; exact ⟨o, es, ep, g.keep _ o (nM _ r.mL) ho, q⟩
  · have := r.ok.oall a ha; rw [h0 a hw] at this; cases this
  · obtain ⟨o, ho⟩ := Option.isSome_iff_exists.mp (r.ball a ha.1)
    exact Option.isSome_iff_exists.mpr ⟨o, g.keep a o ha.2 ho⟩
  · obtain ⟨v, q⟩ := r.acell x c hc
    exact ⟨⟨(r.mcell x c hc).1, nc c v q⟩, (r.mcell x c hc).2⟩
  · obtain ⟨v, q⟩ := r.acell x c hc
    exact ⟨v, cell_keeps q fun o e => g.keep c o (nc c v q) e⟩
  · rcases r.var i x hx with q | ⟨c, k, l, q⟩
    · exact .inl q
    · exact .inr ⟨c, k, l, cell_keeps q fun o e => g.keep c o (nc c _ q) e⟩
  · exact (r.slot i).tr RP RA fun a o ha ho _ _ => ⟨ha, g.keep a o (nM a ha) ho⟩
theorem Rel.kb0 {S : St} {s' : Shared} {W : Bad} (R : Rel X σ S) (g : KB0 W S.s s') (hW : WBad W S) (h0 : ∀ b, W b → X.s₀.heap.get? b = none) : Rel X σ ⟨s', S.M, fun b => S.B b ∧ ¬ W b⟩ := let ⟨m, vals, r⟩ := R; ⟨m, vals, r.kb0 g hW h0⟩
theorem Tr.kb0 {S0 S : St} {s' : Shared} {W : Bad} (T : Tr S0 S) (g : KB0 W S.s s') (h0 : ∀ b, W b → S0.h.get? b = none) : Tr S0 ⟨s', S.M, fun b => S.B b ∧ ¬ W b⟩ :=
  ⟨fun b o hm e => g.keep b o (fun hw => by rw [h0 b hw] at e; cases e) (T.keep b o hm e), fun b h => T.bsub b h.1, T.msub, fun b o h1 h2 e => ⟨T.bkeep b o h1 h2 e, fun hw => by rw [h0 b hw] at e; cases e⟩, T.sub, g.os.trans T.os, g.gens.trans T.gens, fun b o hm e => let ⟨o', e'⟩ := T.live b o hm e; ⟨o', g.keep b o' (fun hw => by rw [h0 b hw] at e; cases e) e'⟩⟩
theorem kb_rep {S : St} {s' : Shared} {W : Bad} (g : KB W S.s s') (hW : WBad W S) {v d} (r : Rep S.B S.h v d) : Rep S.B s'.heap v d := Rep.tr (fun b o hb e => ⟨hb, g.keep b o (fun hw => hb (hW b hw).1) e⟩) r
theorem kb_repAll {S : St} {s' : Shared} {W : Bad} (g : KB W S.s s') (hW : WBad W S) {v d} (r : RepAll S.B S.h v d) : RepAll S.B s'.heap v d := RepAll.tr (fun b o hb e => ⟨hb, g.keep b o (fun hw => hb (hW b hw).1) e⟩) r

theorem isTupT_inv {t : Expr} (h : isTupleDisplay t = true) : ∃ es k p, t = .Tuple es k p := by
  unfold isTupleDisplay at h
  split at h
  · exact ⟨_, _, _, rfl⟩
  · cases h
structure Itr (X : Fx) (tup : Bool) (it : Value) (ds : List PyData) (W : Bad) (P : Nat → St → Prop) : Prop where
  tr : ∀ i S S', P i S → Tr S S' → P i S'
  bad : ∀ i S, P i S → WBad W S
  item : ∀ i d S, ds[i]? = some d → P i S → (∀ a, S.B a → (S.h.get? a).isSome) → wpAny (model X.prog X.w) X.A (pyNext it) (fun r s' => ∃ v, r = some v ∧ KB W S.s s' ∧ Rep S.B s'.heap v d ∧ ∀ t, (tup = true → isTupleDisplay t = true) → wpAny (model X.prog X.w) X.A (letOwnedTupleGo t it v) (fun _ s'' => P (i + 1) ⟨s'', S.M, S.B⟩ ∧ KB W s' s'') (fun _ _ => False) s') (fun _ _ => False) S.s
  done : ∀ S, P ds.length S → wpAny (model X.prog X.w) X.A (pyNext it) (fun r s' => r = none ∧ KB0 W S.s s') (fun _ _ => False) S.s
  self : ∀ i S Q, P i S → Q it S.s → wpAny (model X.prog X.w) X.A (pyIter it) Q (fun _ _ => False) S.s

/-- what is iterated over -/
structure EvI (X : Fx) (tup : Bool) (e : Expr) (σ : Sg) (ds : List PyData) (σ' : Sg) : Prop where of ::
  go : ∀ S m vals, RelV X σ S m vals → wpAny (model X.prog X.w) X.A (eval e X.env) (fun x s1 => wpAny (model X.prog X.w) X.A (pyIter x) (fun it s2 => ∃ S' W P, S'.s = s2 ∧ RelV X σ' S' m vals ∧ Tr S S' ∧ Itr X tup it ds W P ∧ P 0 S' ∧ ∀ b, W b → S.h.get? b = none) (fun _ _ => False) s1) (fun _ _ => False) S.s

theorem noE {α : Type} {M : Model} {A : Around} {t : Sem α} {Q : α → Shared → Prop} {E : Value → Shared → Prop} {s : Shared} (h : wpAny M A t Q (fun _ _ => False) s) : wpAny M A t Q E s := wpAny_mono h (fun _ _ x => x) fun _ _ f => f.elim

theorem forLoop_own {prog : Program} {w : World} {A : Around} {R : Result → Shared → Prop} {s : Shared} {t : Expr} {it : Value} {body : List Stmt} {env : Env} (I : Nat → Shared → Prop)
    (turn : ∀ n s, I n s → wpAny (model prog w) A (pyNext it) (fun r s1 => match r with
      | none => R (.ok .next) s1
      | some v => wpAny (model prog w) A (letOwnedTupleGo t it v) (fun _ s2 => wpAny (model prog w) A (assign t env v) (fun _ s3 => wpAny (model prog w) A (execs body env) (fun f s4 => match f with
          | .next | .cont => ∃ m, m < n ∧ I m s4
          | .brk => R (.ok .next) s4
          | .ret v => R (.ok (.ret v)) s4) (fun _ _ => False) s3) (fun _ _ => False) s2) (fun _ _ => False) s1) (fun _ _ => False) s)
    (n : Nat) (h : I n s) : codeAny (model prog w) A (.forLoop t it body [] env) R s := by
  refine codeAny_loop' rfl I (fun n s hI => ?_) n h
  show wpAny _ _ ((forTurn t it body [] env).onRaise (fun x => do noteFrame x env; theTreesLotGoes x)) _ _ s
  refine wpAny_noted (noE ?_)
  simp only [forTurn]
  refine wpAny_bind (wpAny_standAt (wpAny_bind (wpAny_onRaise (wpAny_mono (turn n s hI) (fun r s1 h1 => ?_) fun _ _ f => f.elim))))
  cases r with
  | none => exact wpAny_pure (.inr ⟨rfl, codeAny_block (wpAny_execs_nil h1)⟩)
  | some v =>
    refine wpAny_bind (wpAny_mono h1 (fun _ s2 h2 => wpAny_bind (wpAny_mono h2 (fun _ s3 h3 => wpAny_bind (wpAny_mono h3 (fun f s4 h4 => ?_) fun _ _ f => f)) fun _ _ f => f)) fun _ _ f => f)
    cases f with
    | next => exact wpAny_pure (.inl ⟨rfl, h4⟩)
    | cont => exact wpAny_pure (.inl ⟨rfl, h4⟩)
    | brk => exact wpAny_pure h4
    | ret v => exact wpAny_pure h4

theorem ex_for {t iter : Expr} {body : List Stmt} {ds : List PyData} {tup : Bool} (hi : EvI X tup iter σ ds σ1) (hb : ForR X t body ds σ1 σ2) (htt : tup = true → isTupleDisplay t = true) (hs : ∀ x, foldedSetIterable iter X.env x = pure x := by intro _; rfl) : Ex X (.For t iter body [] pos) σ (.next σ2) := .of fun S ⟨m, vals, R⟩ => by
  refine wpAny_For (wpAny_mono (hi.go S m vals R) (fun x s1 q => wpAny_mono q (fun it s2 q => ?_) fun _ _ f => f) fun _ _ f => f) hs
  obtain ⟨S1, W, P, rfl, R1, T1, I1, P0, hW0⟩ := q
  have h0 : ∀ b, W b → X.s₀.heap.get? b = none := fun b hw => by
    cases e : X.s₀.heap.get? b with
    | none => rfl
    | some o => have := R.keep b o e; rw [hW0 b hw] at this; cases this
  refine forLoop_own (fun n s => ∃ S' σ' i, S'.s = s ∧ Rel X σ' S' ∧ P i S' ∧ Tr S S' ∧ i ≤ ds.length ∧ ForR X t body (ds.drop i) σ' σ2 ∧ n = ds.length + 1 - i) (fun n s h => ?_) (ds.length + 1) ⟨S1, σ1, 0, rfl, R1.rel, P0, T1, Nat.zero_le _, hb, rfl⟩
  obtain ⟨S', σ', i, rfl, R', P', T', hle, F', rfl⟩ := h
  cases hd : ds[i]? with
  | none =>
    have hi : i = ds.length := Nat.le_antisymm hle (by simpa using hd)
    subst hi
    refine wpAny_mono (I1.done S' P') (fun r s3 q => ?_) fun _ _ f => f
    obtain ⟨rfl, g⟩ := q
    rw [List.drop_length] at F'
    cases F'
    exact ⟨⟨s3, S'.M, fun b => S'.B b ∧ ¬ W b⟩, rfl, T'.kb0 g hW0, rfl, R'.kb0 g (I1.bad _ _ P') h0⟩
  | some d =>
    have hlt : i < ds.length := (List.getElem?_eq_some_iff.mp hd).1
    refine wpAny_mono (I1.item i d S' hd P' R'.ball) (fun r s3 q => ?_) fun _ _ f => f
    obtain ⟨v, rfl, g, r3, hgo⟩ := q
    have hW3 : WBad W ⟨s3, S'.M, S'.B⟩ := g.wbad (I1.bad _ _ P')
    have R3 := R'.kb g (I1.bad _ _ P') h0
    have T3 := T'.kb g hW0
    refine wpAny_mono (hgo t htt) (fun _ s4 q => ?_) fun _ _ f => f
    obtain ⟨P4, g4⟩ := q
    have R4 := Rel.kb (S := ⟨s3, S'.M, S'.B⟩) R3 g4 hW3 h0
    have T4 := Tr.kb T3 g4 hW0
    have r4 := kb_rep (S := ⟨s3, S'.M, S'.B⟩) g4 hW3 r3
    rw [List.drop_eq_getElem_cons hlt] at F'
    have e : ds[i] = d := by rw [List.getElem?_eq_getElem hlt] at hd; exact Option.some.inj hd
    rw [e] at F'
    cases F' with
    | cons ha hbd hrest =>
      refine wpAny_mono (ha.go ⟨s4, S'.M, S'.B⟩ v R4 r4) (fun _ s5 q => ?_) fun _ _ f => f
      obtain ⟨S5, rfl, R5, T5⟩ := q
      rcases hbd with hbd | hbd
      · refine wpAny_mono (hbd.go S5 R5) (fun fl s6 q => ?_) fun _ _ f => f
        obtain ⟨S6, rfl, T6, rfl, R6⟩ := q
        exact ⟨ds.length + 1 - (i + 1), by omega, S6, _, i + 1, rfl, R6, I1.tr _ _ _ (I1.tr _ _ _ P4 T5) T6, (T4.trans T5).trans T6, hlt, hrest, rfl⟩
      · refine wpAny_mono (hbd.go S5 R5) (fun fl s6 q => ?_) fun _ _ f => f
        obtain ⟨S6, rfl, T6, rfl, R6⟩ := q
        exact ⟨ds.length + 1 - (i + 1), by omega, S6, _, i + 1, rfl, R6, I1.tr _ _ _ (I1.tr _ _ _ P4 T5) T6, (T4.trans T5).trans T6, hlt, hrest, rfl⟩

theorem ex_while {test : Expr} {body : List Stmt} {n : Nat} (h : WhR X test body n σ σ1) : Ex X (.While test body [] pos) σ (.next σ1) := .of fun S R => by
  refine wpAny_While (codeAny_whileLoop (fun n s => ∃ S' σ', S'.s = s ∧ Rel X σ' S' ∧ Tr S S' ∧ WhR X test body n σ' σ1) (fun n s q => ?_) n ⟨S, σ, rfl, R, R.tr, h⟩)
  obtain ⟨S', σ', rfl, ⟨m, vals, R'⟩, T', W'⟩ := q
  cases W' with
  | done ht =>
    refine noE (wpAny_mono (ht.go S' m vals R') (fun b s2 q => ?_) fun _ _ f => f)
    obtain ⟨S2, rfl, R2, T2, rfl⟩ := q
    exact wpAny_execs_nil ⟨S2, rfl, T'.trans T2, rfl, R2.rel⟩
  | step ht hb hw =>
    refine noE (wpAny_mono (ht.go S' m vals R') (fun b s2 q => ?_) fun _ _ f => f)
    obtain ⟨S2, rfl, R2, T2, rfl⟩ := q
    refine noE (wpAny_mono (hb.go S2 R2.rel) (fun fl s3 q => ?_) fun _ _ f => f)
    obtain ⟨S3, rfl, T3, rfl, R3⟩ := q
    exact ⟨_, Nat.lt_succ_self _, S3, _, rfl, R3, (T'.trans T2).trans T3, hw⟩


theorem itr_list {I ax : Addr} {items : Array Value} {ds : List PyData} (hh : X.A.handled = none) :
    Itr X false (.ref I) ds (fun b => b = I) (fun i S => S.h.IsListIter I ax i ∧ S.h.IsList ax items ∧ ¬ S.B ax ∧ ax ≠ I ∧ RepAll S.B S.h items.toList ds ∧ S.B I ∧ ¬ S.M I) where
  tr := fun i S S' ⟨h1, h2, h3, h4, h5, h6, h7⟩ T => by
    obtain ⟨o, ho, q⟩ := h1
    obtain ⟨o2, ho2, q2⟩ := h2
    exact ⟨⟨o, T.keep I o h7 ho, q⟩, ⟨o2, T.keep ax o2 (fun m => h3 (T.sub _ m)) ho2, q2⟩, fun b => (T.bsub ax b).elim h3 fun z => (by rw [z] at ho2; cases ho2), h4, T.repAll h5, T.bkeep I o h6 h7 ho, fun m => (T.msub I m).elim h7 fun z => (by rw [z] at ho; cases ho)⟩
  bad := fun i S ⟨h1, h2, h3, h4, h5, h6, h7⟩ b hb => by
    cases hb
    obtain ⟨o, ho, hc, hd⟩ := h1
    exact ⟨h6, h7, o, ho, fun v e => by rw [hd] at e; cases e⟩
  item := fun i d S hd ⟨h1, h2, h3, h4, h5, h6, h7⟩ _ => by
    obtain ⟨v, hv, rv⟩ := h5.get hd
    refine wpAny_pyNext_list_item h1 h2 (by simpa using hv) fun h' hit' hs' => ?_
    have g : KB (fun b => b = I) S.s { S.s with heap := h' } := ⟨fun b o hb e => (hs'.2 b hb).trans e, fun b hb => by cases hb; obtain ⟨o, ho, hc, hd⟩ := hit'; exact ⟨o, ho, fun v e => by rw [hd] at e; cases e⟩, rfl, rfl⟩
    have hW : WBad (fun b => b = I) S := fun b hb => by
      cases hb
      obtain ⟨o, ho, hc, hd⟩ := h1
      exact ⟨h6, h7, o, ho, fun v e => by rw [hd] at e; cases e⟩
    have P' : h'.IsListIter I ax (i + 1) ∧ h'.IsList ax items ∧ ¬ S.B ax ∧ ax ≠ I ∧ RepAll S.B h' items.toList ds ∧ S.B I ∧ ¬ S.M I := ⟨hit', h2.extBut hs'.extBut h4, h3, h4, kb_repAll g hW h5, h6, h7⟩
    exact ⟨v, rfl, g, kb_rep g hW rv, fun t _ => letGo_listiter hit' ⟨P', ⟨fun _ _ _ e => e, g.all, rfl, rfl⟩⟩⟩
  done := fun S ⟨h1, h2, h3, h4, h5, h6, h7⟩ => by
    have hl := h5.length
    rw [Array.length_toList] at hl
    exact wpAny_pyNext_list_end hh h1 h2 (by simp [hl]) fun h' he => ⟨rfl, ⟨fun b o hb e => he b o hb e, rfl, rfl⟩⟩
  self := fun i S Q ⟨h1, h2, h3, h4, h5, h6, h7⟩ hQ => wpAny_pyIter_listiter h1 hQ
end Mine
open PySem PySem.Spec PySem.Calls PySem.W PyProof.Rows
set_option Elab.async false
set_option maxRecDepth 100000
set_option maxHeartbeats 1000000
set_option linter.unusedVariables false
namespace Mine
variable {X : Fx} {σ σ1 σ2 σ3 : Sg} {pos p2 p3 : Pos} {k : Nat}

noncomputable abbrev KK (X : Fx) : Frag := Mine.heapK X.w.params
/-- a name of the top -/
noncomputable def Glb (X : Fx) (x : Str) (v : Value) : Prop := X.env.kindOf x = some .globalImplicit ∧ (x == ("__debug__" : Str)) = false ∧ nsIn (KK X) mainGlobals x = some (some v)
/-- a name of the built-ins -/
noncomputable def Blt (X : Fx) (x : Str) (v : Value) : Prop := X.env.kindOf x = some .globalImplicit ∧ (x == ("__debug__" : Str)) = false ∧ nsIn (KK X) mainGlobals x = some none ∧ bootBuiltins x = some v ∧ x ≠ "__name__"

theorem load_glob {x : Str} {v : Value} {S : St} {m : Str → Option Value} {vals : Nat → Option Value} {Q : Value → Shared → Prop} {E : Value → Shared → Prop} (r : RelV X σ S m vals) (hg : Glb X x v) (h : Q v S.s) :
    wpAny (model X.prog X.w) X.A (eval (.Name x pos) X.env) Q E S.s := by
  have W := r.rel.wd
  obtain ⟨_, _, mg, mb, T⟩ := W.T
  refine Name_function_global r.ok.kind hg.1 (loadGlobal_global (env := X.env) (mg := mg) ?_ (mg_of W.K T.g hg.2.2) h) hg.2.1
  rw [r.ok.globals]; exact T.g
theorem load_blt {x : Str} {v : Value} {S : St} {m : Str → Option Value} {vals : Nat → Option Value} {Q : Value → Shared → Prop} {E : Value → Shared → Prop} (r : RelV X σ S m vals) (hg : Blt X x v) (h : Q v S.s) :
    wpAny (model X.prog X.w) X.A (eval (.Name x pos) X.env) Q E S.s := by
  have W := r.rel.wd
  obtain ⟨_, _, mg, mb, T⟩ := W.T
  refine Name_function_global r.ok.kind hg.1 (loadGlobal_builtin (env := X.env) (mg := mg) (mb := mb) ?_ (mg_none_of W.K T.g hg.2.2.1) ?_ ((T.builtins x hg.2.2.2.2).trans hg.2.2.2.1) h) hg.2.1
  · rw [r.ok.globals]; exact T.g
  · rw [r.ok.builtins]; exact T.b

theorem ev_glob_int {x : Str} {i : Int} {t : Tok} (hg : Glb X x (.int i t)) : Ev X (.Name x pos) σ (.int i) σ := .of fun S m vals r => load_glob r hg (fin_grow r (.refl _) (.int _ _))
theorem ev_glob_str {x y : Str} {t : Tok} (hg : Glb X x (.str y t)) : Ev X (.Name x pos) σ (.str y) σ := .of fun S m vals r => load_glob r hg (fin_grow r (.refl _) (.str _ _))

theorem tree_Call_Name {M : Model} {A : Around} {E : Value → Shared → Prop} {s : Shared} {env : Env} {x : Str} {args : List Expr} {Q : Value → Shared → Prop}
    (h : wpAny M A (eval (.Name x p2) env) (fun f s1 => wpAny M A (callWith pos f [] (backTo pos (starEach args env)) []) Q E s1) E s) : wpAny M A (eval (.Call (.Name x p2) args [] pos) env) Q E s := wpAny_Call_ofName h

/-- a call of a built-in function or type by its name -/
structure CallOK (X : Fx) (σ : Sg) (f : Value) (ds : List PyData) (d : PyData) : Prop where of ::
  go : ∀ S vs, Rel X σ S → RepAll S.B S.h vs ds → wpAny (model X.prog X.w) X.A (call f vs) (fun v s' => Grow S.s s' ∧ Rep S.B s'.heap v d) (fun _ _ => False) S.s
theorem ev_bfun {x : Str} {id : String} {args : List Expr} {ds : List PyData} {d : PyData} (hg : Blt X x (.builtin id)) (ha : Evs X args σ ds σ1) (hc : CallOK X σ1 (.builtin id) ds d) (hn : args.all (fun e => !isStarred e) = true := by rfl) :
    Ev X (.Call (.Name x p2) args [] pos) σ d σ1 := .of fun S m vals R =>
  tree_Call_Name (load_blt R hg (callWith_builtin (backTo_plain pos hn).1 (args_of ha R hn fun vs S2 R2 T2 q =>
    wpAny_mono (hc.go S2 vs R2.rel q) (fun u s3 ⟨g, r3⟩ => ⟨⟨s3, S2.M, S2.B⟩, rfl, R2.grow g, T2.trans (g.tr R2.sub), r3⟩) fun _ _ f => f)))
theorem ev_btype {x : Str} {T : String} {args : List Expr} {ds : List PyData} {d : PyData} (hg : Blt X x (.type T)) (ha : Evs X args σ ds σ1) (hc : CallOK X σ1 (.type T) ds d) (hn : args.all (fun e => !isStarred e) = true := by rfl) :
    Ev X (.Call (.Name x p2) args [] pos) σ d σ1 := .of fun S m vals R =>
  tree_Call_Name (load_blt R hg (PySem.callWith_type (backTo_plain pos hn).1 (args_of ha R hn fun vs S2 R2 T2 q =>
    wpAny_mono (hc.go S2 vs R2.rel q) (fun u s3 ⟨g, r3⟩ => ⟨⟨s3, S2.M, S2.B⟩, rfl, R2.grow g, T2.trans (g.tr R2.sub), r3⟩) fun _ _ f => f)))

theorem one_of {B : Bad} {h : Heap} {vs : List Value} {d : PyData} (r : RepAll B h vs [d]) : ∃ v, vs = [v] ∧ Rep B h v d := by
  cases r with | cons a b => cases b; exact ⟨_, rfl, a⟩
theorem two_of {B : Bad} {h : Heap} {vs : List Value} {d e : PyData} (r : RepAll B h vs [d, e]) : ∃ v u, vs = [v, u] ∧ Rep B h v d ∧ Rep B h u e := by
  cases r with | cons a b => obtain ⟨u, rfl, q⟩ := one_of b; exact ⟨_, _, rfl, a, q⟩

theorem call_len {xs : List PyData} (hs : xs.length < 2 ^ 63) : CallOK X σ (.builtin "len") [.list xs] (.int xs.length) := .of fun S vs R r => by
  obtain ⟨v, rfl, rv⟩ := one_of r
  obtain ⟨a, us, rfl, _, pl, rs⟩ := rep_list rv
  have hl := rs.length
  rw [Array.length_toList] at hl
  refine len_list pl.isList (by rw [hl]; omega) ?_
  rw [hl]
  exact ⟨.tok _, .int _ _⟩
theorem call_lenS {x : Str} (hs : x.length < 2 ^ 63) : CallOK X σ (.builtin "len") [.str x] (.int x.length) := .of fun S vs R r => by
  obtain ⟨v, rfl, rv⟩ := one_of r
  obtain ⟨t, rfl⟩ := rep_str rv
  exact P.len_str (by omega) ⟨.tok _, .int _ _⟩
theorem call_str {i : Int} (hs : i.natAbs.log2 < 1920) : CallOK X σ (.type "str") [.int i] (.str (Str.ofString (toString i))) := .of fun S vs R r => by
  obtain ⟨v, rfl, rv⟩ := one_of r
  obtain ⟨t, rfl⟩ := rep_int rv
  exact PySem.P.str_of_int hs ⟨.tok _, .str _ _⟩
theorem call_int {x : Str} {n : Int} (hn : PySem.intText? x = some n) (hl : x.length ≤ 640) : CallOK X σ (.type "int") [.str x] (.int n) := .of fun S vs R r => by
  obtain ⟨v, rfl, rv⟩ := one_of r
  obtain ⟨t, rfl⟩ := rep_str rv
  exact KIN.call_text hn hl ⟨.tok _, .int _ _⟩

theorem ints_of {B : Bad} {h : Heap} : ∀ {vs : List Value} {ns : List Int}, RepAll B h vs (ns.map .int) → IntsAre vs ns
  | _, [], r => by cases r; exact .nil
  | _, n :: ns, r => by
    cases r with | cons a b => obtain ⟨t, rfl⟩ := rep_int a; exact .cons n t (ints_of b)

theorem call_min {ns : List Int} {n : Int} (hm : n ∈ ns) (hle : ∀ a ∈ ns, n ≤ a) : CallOK X σ (.builtin "min") [.list (ns.map .int)] (.int n) := .of fun S vs R r => by
  obtain ⟨v, rfl, rv⟩ := one_of r
  obtain ⟨a, us, rfl, _, pl, rs⟩ := rep_list rv
  have hi := ints_of rs
  obtain ⟨xs, e⟩ := hi.allInts.items
  have hns : ns = xs.toList.map (·.1) := by rw [← hi.numsOf, ← nums_intItems, ← e]
  have hne : 0 < ns.length := List.length_pos_of_mem hm
  have hsz : 0 < xs.size := by rw [hns, List.length_map, Array.length_toList] at hne; exact hne
  have pl' := pl.isList
  rw [show us = intItems xs by rw [← e]] at pl'
  refine min_intList R.ok.hh pl' hsz fun v h' tk hv hk => ?_
  obtain ⟨t, rfl⟩ := intItems_at hv
  obtain ⟨h1, h2⟩ := argBest_lt (numAt xs) (xs.size - 1)
  have key : numAt xs (argBest (fun i j => decide (numAt xs i < numAt xs j)) (xs.size - 1)) = n := by
    apply Int.le_antisymm
    · rw [hns] at hm
      obtain ⟨j, hj, rfl⟩ := mem_getD hm
      rw [List.length_map, Array.length_toList] at hj
      rw [← numAt_eq]; exact h2 j (by omega)
    · refine hle _ ?_
      rw [hns, numAt_eq]; exact getD_mem (by rw [List.length_map, Array.length_toList]; omega)
  rw [key]
  exact ⟨⟨hk, rfl, rfl⟩, .int _ _⟩

theorem call_sum {ns : List Int} : CallOK X σ (.builtin "sum") [.list (ns.map .int)] (.int (preSum (fun i => ns.getD i 0) ns.length)) := .of fun S vs R r => by
  obtain ⟨v, rfl, rv⟩ := one_of r
  obtain ⟨a, us, rfl, _, pl, rs⟩ := rep_list rv
  have hi := ints_of rs
  have hl := hi.length
  rw [Array.length_toList] at hl
  have hlt : a ≠ S.s.heap.objs.size := by obtain ⟨n, e⟩ := pl; exact Nat.ne_of_lt (Heap.lt_size e)
  refine call_sum_walkG (wpAny_pyIter_list pl.isList ?_)
  refine ⟨S.s.heap.objs.size, [S.s.heap.objs.size, a], [S.s.heap.objs.size], us.size, _, _, fun i => ns.getD i 0, rfl, Walks.list (A := X.A.in1) R.ok.hh _ a hlt us, ⟨⟨_, Heap.get?_push_size _ rfl, rfl, rfl⟩, pl.isList.push _⟩, fun b hb => ?_, fun i v hv => ?_, fun h' tk t' hk => ?_⟩
  · have : a < S.s.heap.objs.size := by obtain ⟨n, e⟩ := pl; exact Heap.lt_size e
    rw [Heap.size_push]
    simp at hb
    rcases hb with rfl | rfl
    · exact Nat.lt_succ_self _
    · exact Nat.lt_succ_of_lt this
  · have hv' : us.toList[i]? = some v := by simpa using hv
    obtain ⟨d, hd, rd⟩ := rs.get' hv'
    rw [List.getElem?_map] at hd
    cases hn : ns[i]? with
    | none => rw [hn] at hd; cases hd
    | some n =>
      rw [hn] at hd; cases hd
      obtain ⟨t, rfl⟩ := rep_int rd
      exact ⟨t, by simp [List.getD, hn]⟩
  · rw [hl]
    refine ⟨⟨fun b o e => hk b o (fun q => ?_) (Heap.get?_push_of_some _ e), rfl, rfl⟩, .int _ _⟩
    simp at q; subst q
    exact absurd (Heap.lt_size e) (Nat.lt_irrefl _)

/-- a call of a def of the text -/
theorem ev_call {x : Str} {f : Addr} {args : List Expr} {ds : List PyData} {d : PyData} {n : Nat} (hg : Glb X x (.ref f)) (ha : Evs X args σ ds σ1) (hf : Fn X.prog X.w f ds d n) (hn' : n ≤ X.n) (hfo : ∃ o fd, (KK X).lookup f = some o ∧ o.data = .func fd) (hn : args.all (fun e => !isStarred e) = true := by rfl) :
    Ev X (.Call (.Name x p2) args [] pos) σ d σ1 := .of fun S m vals R => by
  obtain ⟨o, fd, ho, hd⟩ := hfo
  refine tree_Call_Name (load_glob R hg (callWith_function (o := o) (fd := fd) (args_of ha R hn fun vs S2 R2 T2 q => ⟨⟨R2.rel.wd.K _ _ ho, hd⟩, ?_⟩)))
  have h1 := R.ok.dep
  have h2 := R.ok.uni
  refine wpAny_call (hf.go X.A S2.s S2.B vs _ R.ok.hh (by omega) (by omega) R2.rel.wd R2.ball q fun v s' g r => ?_)
  exact ⟨⟨s', S2.M, S2.B⟩, rfl, R2.grow g, T2.trans (g.tr R2.sub), r⟩
end Mine
open PySem PySem.Spec PySem.Calls PySem.W PyProof.Rows
set_option Elab.async false
set_option maxRecDepth 100000
set_option maxHeartbeats 1000000
set_option linter.unusedVariables false
namespace Mine
variable {X : Fx} {σ σ1 σ2 σ3 : Sg} {pos p2 p3 : Pos} {k : Nat}

theorem RelV.bad {S : St} {s' : Shared} {m : Str → Option Value} {vals : Nat → Option Value} {W : Bad} (r : RelV X σ S m vals) (g : Grow S.s s') (hW : ∀ b, W b → S.h.get? b = none ∧ ∃ o, s'.heap.get? b = some o) :
    RelV X σ ⟨s', S.M, fun b => S.B b ∨ W b⟩ m vals ∧ Tr S ⟨s', S.M, fun b => S.B b ∨ W b⟩ := by
  have T : Tr S ⟨s', S.M, fun b => S.B b ∨ W b⟩ := ⟨fun b o _ e => g.keep b o e, fun b h => h.imp id fun q => (hW b q).1, fun _ h => .inl h, fun _ _ h _ _ => .inl h, r.sub, g.os, g.gens, fun b o _ e => ⟨o, g.keep b o e⟩⟩
  refine ⟨⟨r.ok, fun b o e => g.keep b o (r.keep b o e), g.os.trans r.os, g.gens.trans r.gens, r.ns.keeps g.keep, r.mL, r.mnew, fun a ha => .inl (r.sub a ha), fun a ha => .inl (r.out a ha), fun a ha => ?_, fun x c hc => ⟨.inl (r.mcell x c hc).1, (r.mcell x c hc).2⟩, fun x c hc => let ⟨v, q⟩ := r.acell x c hc; ⟨v, cell_keeps q fun o e => g.keep c o e⟩, fun i x hx => ?_, fun i => ?_, r.apart⟩, T⟩
  · rcases ha with ha | ha
    · obtain ⟨o, ho⟩ := Option.isSome_iff_exists.mp (r.ball a ha)
      exact Option.isSome_iff_exists.mpr ⟨o, g.keep a o ho⟩
    · obtain ⟨o, ho⟩ := (hW a ha).2; exact Option.isSome_iff_exists.mpr ⟨o, ho⟩
  · rcases r.var i x hx with q | ⟨c, k, l, q⟩
    · exact .inl q
    · exact .inr ⟨c, k, l, cell_keeps q fun o e => g.keep c o e⟩
  · exact (r.slot i).tr (fun _ _ => T.rep) (fun _ _ => T.repAll) fun a o ha ho _ _ => ⟨ha, g.keep a o ho⟩
theorem RelV.nM {S : St} {m : Str → Option Value} {vals : Nat → Option Value} (r : RelV X σ S m vals) {b : Addr} (h : S.h.get? b = none) : ¬ S.M b := fun q => by
  have := r.ball b (r.sub b q); rw [h] at this; cases this

theorem evi_list {e : Expr} {ds : List PyData} (h : Ev X e σ (.list ds) σ1) : EvI X false e σ ds σ1 := .of fun S m vals R =>
  wpAny_mono (h.go S m vals R) (fun v s1 q => by
    obtain ⟨S1, rfl, R1, T1, r1⟩ := q
    obtain ⟨a, vs, rfl, ha, pl, rs⟩ := rep_list r1
    refine wpAny_pyIter_list pl.isList ?_
    have g := Grow.push (s := S1.s) { cls := .type "list_iterator", data := .fields #[.ref a, .int 0 0] }
    have hfr : S1.h.get? S1.h.objs.size = none := fresh_none _
    obtain ⟨R2, T2⟩ := R1.bad (W := fun b => b = S1.h.objs.size) g fun b hb => by cases hb; exact ⟨hfr, _, Heap.get?_push_size _ rfl⟩
    have hne : a ≠ S1.h.objs.size := by obtain ⟨n, e⟩ := pl; exact Nat.ne_of_lt (Heap.lt_size e)
    refine ⟨_, _, _, rfl, R2, T1.trans T2, itr_list (ax := a) (items := vs) R.ok.hh, ⟨⟨_, Heap.get?_push_size _ rfl, rfl, rfl⟩, pl.isList.push _, fun q => q.elim ha hne, hne, T2.repAll rs, .inr rfl, R1.nM hfr⟩, fun b hb => ?_⟩
    cases hb
    exact T1.free hfr) fun _ _ f => f

/-- range(n) -/
theorem letGo_range {prog : Program} {w : World} {A : Around} {s : Shared} {I : Addr} {x y z : Int} {Q : Unit → Shared → Prop} {E : Value → Shared → Prop} (hit : IsRangeIter s.heap I x y z) (t : Expr) (v : Value) (hQ : Q () s) :
    wpAny (model prog w) A (letOwnedTupleGo t (.ref I) v) Q E s := by
  unfold letOwnedTupleGo
  split
  · cases v <;> first | exact wpAny_pure hQ | exact wpAny_bind (wpAny_load hit (wpAny_pure hQ))
  · cases v <;> first | exact wpAny_pure hQ | exact wpAny_bind (wpAny_load hit (wpAny_pure hQ))
  · exact wpAny_pure hQ

noncomputable def intsTo (n : Nat) : List PyData := (List.range n).map fun (i : Nat) => .int (i : Int)
theorem itr_range {I : Addr} {n : Nat} (hh : X.A.handled = none) :
    Itr X false (.ref I) (intsTo n) (fun b => b = I) (fun i S => IsRangeIter S.h I (i : Nat) ((n : Int) - (i : Nat)) 1 ∧ S.B I ∧ ¬ S.M I) where
  tr := fun i S S' ⟨h1, h6, h7⟩ T => ⟨T.keep I _ h7 h1, T.bkeep I _ h6 h7 h1, fun m => (T.msub I m).elim h7 fun z => (by rw [h1] at z; cases z)⟩
  bad := fun i S ⟨h1, h6, h7⟩ b hb => by cases hb; exact ⟨h6, h7, _, h1, fun v e => by cases e⟩
  item := fun i d S hd ⟨h1, h6, h7⟩ _ => by
    have hlt : i < n := by
      have := (List.getElem?_eq_some_iff.mp hd).1
      simpa [intsTo] using this
    have ed : d = .int i := by
      rw [intsTo, List.getElem?_map, List.getElem?_range hlt] at hd
      exact (Option.some.inj hd).symm
    subst ed
    refine wpAny_pyNext_range_item h1 (by omega) fun h' hit' hs' => ?_
    have g : KB (fun b => b = I) S.s { S.s with heap := h', toks := S.s.toks + 1 } := ⟨fun b o hb e => (hs'.2 b hb).trans e, fun b hb => by cases hb; exact ⟨_, hit', fun v e => by cases e⟩, rfl, rfl⟩
    have P' : IsRangeIter h' I ((i + 1 : Nat) : Int) ((n : Int) - ((i + 1 : Nat) : Int)) 1 := by
      have e1 : ((i + 1 : Nat) : Int) = (i : Int) + 1 := by push_cast; rfl
      rw [e1, show (n : Int) - ((i : Int) + 1) = (n : Int) - i - 1 by omega]; exact hit'
    exact ⟨_, rfl, g, .int _ _, fun t _ => letGo_range hit' t _ ⟨⟨P', h6, h7⟩, ⟨fun _ _ _ e => e, g.all, rfl, rfl⟩⟩⟩
  done := fun S ⟨h1, h6, h7⟩ => wpAny_pyNext_range_end hh h1 (by simp [intsTo]) fun h' he => ⟨rfl, ⟨fun b o hb e => he b o hb e, rfl, rfl⟩⟩
  self := fun i S Q ⟨h1, h6, h7⟩ hQ => wpAny_pyIter_rangeiter h1 hQ
theorem evi_range {x : Str} {e : Expr} {n : Nat} (hg : Blt X x (.type "range")) (h : Ev X e σ (.int n) σ1) (hn : n < 2 ^ 62) (hs : isStarred e = false := by rfl) : EvI X false (.Call (.Name x p2) [e] [] pos) σ (intsTo n) σ1 := .of fun S m vals R => by
  have hst : [e].all (fun e => !isStarred e) = true := by simp [hs]
  refine tree_Call_Name (load_blt R hg (PySem.callWith_type (backTo_plain pos hst).1 (args_of (evs_cons h evs_nil hs) R hst fun vs S1 R1 T1 q => ?_)))
  obtain ⟨v, rfl, rv⟩ := one_of q
  obtain ⟨t, rfl⟩ := rep_int rv
  refine call_range_1 ?_
  have sm : Builtin.Range.small 0 (n : Int) 1 = true := small_one (by decide) (by decide) (by omega) (by omega)
  refine wpAny_pyIter_range (a := 0) (b := n) (c := 1) (t := S1.s.toks) (u := t) (v := S1.s.toks + 1) (IsRange.new _ _ _ _ _ _ _) sm ?_
  rw [rangeSize_one]
  have g1 := Grow.push (s := S1.s) { cls := .type "range", data := .fields #[.int 0 S1.s.toks, .int n t, .int 1 (S1.s.toks + 1)] }
  let s2 : Shared := { S1.s with heap := S1.s.heap.push { cls := .type "range", data := .fields #[.int 0 S1.s.toks, .int n t, .int 1 (S1.s.toks + 1)] }, toks := S1.s.toks + 1 + 1 }
  have g2 : Grow S1.s s2 := g1.trans (.tok _)
  let o3 : Obj := { cls := .type "range_iterator", data := .fields #[rawInt 0, rawInt (if 0 < (n : Int) then (n : Int) - 0 else 0), rawInt 1] }
  have g3 : Grow S1.s { s2 with heap := s2.heap.push o3 } := g2.trans (.push o3)
  have hfr : S1.h.get? s2.heap.objs.size = none := by
    cases e : S1.h.get? s2.heap.objs.size with
    | none => rfl
    | some o => have := g2.keep _ _ e; rw [fresh_none] at this; cases this
  have hI : ({ s2 with heap := s2.heap.push o3 } : Shared).heap.get? s2.heap.objs.size = some o3 := Heap.get?_push_size _ rfl
  obtain ⟨R2, T2⟩ := R1.bad (W := fun b => b = s2.heap.objs.size) g3 fun b hb => by cases hb; exact ⟨hfr, _, hI⟩
  refine ⟨_, _, _, rfl, R2, T1.trans T2, itr_range (I := s2.heap.objs.size) (n := n) R.ok.hh, ⟨?_, .inr rfl, R1.nM hfr⟩, fun b hb => by cases hb; exact T1.free hfr⟩
  have e : (if 0 < (n : Int) then (n : Int) - 0 else 0) = (n : Int) - ((0 : Nat) : Int) := by split <;> omega
  have hI' := hI
  simp only [o3, e] at hI'
  simp only [o3, e]
  exact hI'

/-- zip(a, b) -/
noncomputable def pairsD (xs ys : List PyData) : List PyData := List.zipWith (fun a b => .tuple [a, b]) xs ys
theorem itr_zip {z TI TO i1 i2 l1 l2 : Addr} {us ws : Array Value} {xs ys : List PyData} (hh : X.A.handled = none) (D : ZipApart z TI TO i1 i2 l1 l2) :
    Itr X true (.ref z) (pairsD xs ys) (fun b => b = z ∨ b = TI ∨ b = TO ∨ b = i1 ∨ b = i2)
      (fun i S => (IsZip S.h z TI TO .none ∧ IsPair S.h TI (.ref i1) (.ref i2) ∧ (∃ a b, IsPair S.h TO a b) ∧ S.h.IsListIter i1 l1 i ∧ S.h.IsListIter i2 l2 i ∧ S.h.IsList l1 us ∧ S.h.IsList l2 ws) ∧ (¬ S.B l1 ∧ ¬ S.B l2 ∧ RepAll S.B S.h us.toList xs ∧ RepAll S.B S.h ws.toList ys) ∧
        ∀ b, (b = z ∨ b = TI ∨ b = TO ∨ b = i1 ∨ b = i2) → S.B b ∧ ¬ S.M b) where
  tr := fun i S S' hp T => by
    obtain ⟨⟨hz, hTI, ⟨a, b, hTO⟩, h1, h2, hl1, hl2⟩, ⟨n1, n2, r1, r2⟩, hW⟩ := hp
    obtain ⟨o1, e1, q1⟩ := h1
    obtain ⟨o2, e2, q2⟩ := h2
    obtain ⟨o3, e3, q3⟩ := hl1
    obtain ⟨o4, e4, q4⟩ := hl2
    have al : ∀ b, (b = z ∨ b = TI ∨ b = TO ∨ b = i1 ∨ b = i2) → ∃ o, S.h.get? b = some o := by
      rintro b (rfl | rfl | rfl | rfl | rfl)
      · exact ⟨_, hz⟩
      · exact ⟨_, hTI⟩
      · exact ⟨_, hTO⟩
      · exact ⟨_, e1⟩
      · exact ⟨_, e2⟩
    refine ⟨⟨T.keep _ _ (hW z (.inl rfl)).2 hz, T.keep _ _ (hW TI (.inr (.inl rfl))).2 hTI, ⟨a, b, T.keep _ _ (hW TO (.inr (.inr (.inl rfl)))).2 hTO⟩, ⟨o1, T.keep _ _ (hW i1 (.inr (.inr (.inr (.inl rfl))))).2 e1, q1⟩, ⟨o2, T.keep _ _ (hW i2 (.inr (.inr (.inr (.inr rfl))))).2 e2, q2⟩, ⟨o3, T.keep _ _ (fun m => n1 (T.sub _ m)) e3, q3⟩, ⟨o4, T.keep _ _ (fun m => n2 (T.sub _ m)) e4, q4⟩⟩,
      ⟨fun q => (T.bsub _ q).elim n1 fun w => (by rw [w] at e3; cases e3), fun q => (T.bsub _ q).elim n2 fun w => (by rw [w] at e4; cases e4), T.repAll r1, T.repAll r2⟩, fun b hb => ?_⟩
    obtain ⟨o, ho⟩ := al b hb
    exact ⟨T.bkeep b o (hW b hb).1 (hW b hb).2 ho, fun m => (T.msub b m).elim (hW b hb).2 fun w => by rw [w] at ho; cases ho⟩
  bad := fun i S hp b hb => by
    obtain ⟨⟨hz, hTI, ⟨a, b', hTO⟩, h1, h2, hl1, hl2⟩, _, hW⟩ := hp
    refine ⟨(hW b hb).1, (hW b hb).2, ?_⟩
    obtain ⟨o1, e1, _, d1⟩ := h1
    obtain ⟨o2, e2, _, d2⟩ := h2
    rcases hb with rfl | rfl | rfl | rfl | rfl
    · exact ⟨_, hz, fun v e => by cases e⟩
    · exact ⟨_, hTI, fun v e => by cases e⟩
    · exact ⟨_, hTO, fun v e => by cases e⟩
    · exact ⟨_, e1, fun v e => by rw [d1] at e; cases e⟩
    · exact ⟨_, e2, fun v e => by rw [d2] at e; cases e⟩
  item := fun i d S hd hp hball => by
    obtain ⟨⟨hz, hTI, ⟨a, b, hTO⟩, h1, h2, hl1, hl2⟩, ⟨n1, n2, r1, r2⟩, hW⟩ := hp
    obtain ⟨dx, dy, ex, ey, rfl⟩ : ∃ dx dy, xs[i]? = some dx ∧ ys[i]? = some dy ∧ d = .tuple [dx, dy] := by
      unfold pairsD at hd
      rw [List.getElem?_zipWith] at hd
      cases hx : xs[i]? with
      | none => rw [hx] at hd; simp at hd
      | some dx => cases hy : ys[i]? with
        | none => rw [hx, hy] at hd; simp at hd
        | some dy => rw [hx, hy] at hd; exact ⟨dx, dy, rfl, rfl, (Option.some.inj hd).symm⟩
    obtain ⟨x, hx, rx⟩ := r1.get ex
    obtain ⟨y, hy, ry⟩ := r2.get ey
    have hWB : WBad (fun b => b = z ∨ b = TI ∨ b = TO ∨ b = i1 ∨ b = i2) S := fun b hb => by
      refine ⟨(hW b hb).1, (hW b hb).2, ?_⟩
      obtain ⟨o1, e1, _, d1⟩ := h1
      obtain ⟨o2, e2, _, d2⟩ := h2
      rcases hb with rfl | rfl | rfl | rfl | rfl
      · exact ⟨_, hz, fun v e => by cases e⟩
      · exact ⟨_, hTI, fun v e => by cases e⟩
      · exact ⟨_, hTO, fun v e => by cases e⟩
      · exact ⟨_, e1, fun v e => by rw [d1] at e; cases e⟩
      · exact ⟨_, e2, fun v e => by rw [d2] at e; cases e⟩
    refine wpAny_pyNext_zip_item D hz hTI hTO h1 h2 hl1 hl2 (by simpa using hx) (by simpa using hy) fun h' a1 a2 a3 a4 a5 a6 hk => ?_
    have hTI' : IsPair h' TI (.ref i1) (.ref i2) := hk _ _ D.TIz D.TITO D.TIi1 D.TIi2 hTI
    have all : ∀ (h'' : Heap) (f0 : Value), IsZip h'' z TI TO f0 → IsPair h'' TI (.ref i1) (.ref i2) → IsPair h'' TO x y → h''.IsListIter i1 l1 (i + 1) → h''.IsListIter i2 l2 (i + 1) → ∀ b, (b = z ∨ b = TI ∨ b = TO ∨ b = i1 ∨ b = i2) → ∃ o, h''.get? b = some o ∧ ∀ v, o.data ≠ .cell v := by
      intro h'' f0 c1 c2 c3 ⟨o1, e1, _, d1⟩ ⟨o2, e2, _, d2⟩ b hb
      rcases hb with rfl | rfl | rfl | rfl | rfl
      · exact ⟨_, c1, fun v e => by cases e⟩
      · exact ⟨_, c2, fun v e => by cases e⟩
      · exact ⟨_, c3, fun v e => by cases e⟩
      · exact ⟨_, e1, fun v e => by rw [d1] at e; cases e⟩
      · exact ⟨_, e2, fun v e => by rw [d2] at e; cases e⟩
    have g : KB (fun b => b = z ∨ b = TI ∨ b = TO ∨ b = i1 ∨ b = i2) S.s { S.s with heap := h' } :=
      ⟨fun b o hb e => hk b o (fun q => hb (.inl q)) (fun q => hb (.inr (.inr (.inl q)))) (fun q => hb (.inr (.inr (.inr (.inl q))))) (fun q => hb (.inr (.inr (.inr (.inr q))))) e, all h' _ a1 hTI' a2 a3 a4, rfl, rfl⟩
    have hT : ¬ S.B S.s.heap.objs.size := fun q => by have := hball _ q; rw [fresh_none] at this; cases this
    have rT : Rep S.B h' (.ref S.s.heap.objs.size) (.tuple [dx, dy]) := .tuple hT ⟨0, a5⟩ (.cons (kb_rep g hWB rx) (.cons (kb_rep g hWB ry) .nil))
    refine ⟨_, rfl, g, rT, fun t ht => ?_⟩
    obtain ⟨es, k0, p0, rfl⟩ := isTupT_inv (ht rfl)
    refine wpAny_letOwnedTupleGo_zip a1 fun h'' hz'' hs'' => ?_
    have g2 : KB (fun b => b = z ∨ b = TI ∨ b = TO ∨ b = i1 ∨ b = i2) { S.s with heap := h' } { S.s with heap := h'' } :=
      ⟨fun b o hb e => (hs''.2 b fun q => hb (.inl q)).trans e, all h'' _ hz'' (hs''.extBut _ _ D.TIz hTI') (hs''.extBut _ _ D.TOz a2) (a3.extBut hs''.extBut D.i1z) (a4.extBut hs''.extBut D.i2z), rfl, rfl⟩
    have hl1' : h'.IsList l1 us := hl1.at fun o e => hk _ o D.l1z D.l1TO D.l1i1 D.l1i2 e
    have hl2' : h'.IsList l2 ws := hl2.at fun o e => hk _ o D.l2z D.l2TO D.l2i1 D.l2i2 e
    refine ⟨⟨⟨hz'', hs''.extBut _ _ D.TIz hTI', ⟨x, y, hs''.extBut _ _ D.TOz a2⟩, a3.extBut hs''.extBut D.i1z, a4.extBut hs''.extBut D.i2z, hl1'.extBut hs''.extBut D.l1z, hl2'.extBut hs''.extBut D.l2z⟩, ⟨n1, n2, ?_, ?_⟩, hW⟩, g2⟩
    · exact kb_repAll (S := ⟨{ S.s with heap := h' }, S.M, S.B⟩) g2 (g.wbad hWB) (kb_repAll g hWB r1)
    · exact kb_repAll (S := ⟨{ S.s with heap := h' }, S.M, S.B⟩) g2 (g.wbad hWB) (kb_repAll g hWB r2)
  done := fun S hp => by
    obtain ⟨⟨hz, hTI, ⟨a, b, hTO⟩, h1, h2, hl1, hl2⟩, ⟨n1, n2, r1, r2⟩, hW⟩ := hp
    have q1 := r1.length
    have q2 := r2.length
    rw [Array.length_toList] at q1 q2
    have hend : us[(pairsD xs ys).length]? = none ∨ ws[(pairsD xs ys).length]? = none := by
      unfold pairsD
      rw [List.length_zipWith]
      simp only [Array.getElem?_eq_none_iff]
      omega
    refine wpAny_pyNext_zip_end hh D hz hTI hTO h1 h2 hl1 hl2 hend fun h' hk => ⟨rfl, ⟨fun b o hb e => hk b o (fun q => hb (.inl q)) (fun q => hb (.inr (.inr (.inl q)))) (fun q => hb (.inr (.inr (.inr (.inl q))))) (fun q => hb (.inr (.inr (.inr (.inr q))))) e, rfl, rfl⟩⟩
  self := fun i S Q ⟨⟨hz, _⟩, _⟩ hQ => wpAny_pyIter_zip hz hQ
end Mine
open PySem PySem.Spec PySem.Calls PySem.W PyProof.Rows
set_option Elab.async false
set_option maxRecDepth 100000
set_option maxHeartbeats 1000000
set_option linter.unusedVariables false
namespace Mine
variable {X : Fx} {σ σ1 σ2 σ3 : Sg} {pos p2 p3 : Pos} {k : Nat}

theorem neA {a b : Nat} (h : a ≠ b) : @Ne Addr a b := h

theorem evi_zip {x : Str} {e1 e2 : Expr} {xs ys : List PyData} (hg : Blt X x (.type "zip")) (h1 : Ev X e1 σ (.list xs) σ1) (h2 : Ev X e2 σ1 (.list ys) σ2) (hs1 : isStarred e1 = false := by rfl) (hs2 : isStarred e2 = false := by rfl) :
    EvI X true (.Call (.Name x p2) [e1, e2] [] pos) σ (pairsD xs ys) σ2 := .of fun S m vals R => by
  have hst : [e1, e2].all (fun e => !isStarred e) = true := by simp [hs1, hs2]
  refine tree_Call_Name (load_blt R hg (PySem.callWith_type (backTo_plain pos hst).1 (args_of (evs_cons h1 (evs_cons h2 evs_nil hs2) hs1) R hst fun vs S1 R1 T1 q => ?_)))
  obtain ⟨v, u, rfl, rv, ru⟩ := two_of q
  obtain ⟨a, us, rfl, ha, pa, ra⟩ := rep_list rv
  obtain ⟨b, ws, rfl, hb, pb, rb⟩ := rep_list ru
  refine call_zip_2 pa.isList pb.isList fun h' c1 c2 c3 c4 c5 c6 hk => ?_
  have g : Grow S1.s { S1.s with heap := h' } := ⟨hk, rfl, rfl⟩
  have la : @LT.lt Nat _ a S1.s.heap.objs.size := by obtain ⟨n, e⟩ := pa; exact Heap.lt_size e
  have lb : @LT.lt Nat _ b S1.s.heap.objs.size := by obtain ⟨n, e⟩ := pb; exact Heap.lt_size e
  generalize hN : S1.s.heap.objs.size = N at *
  have fr : ∀ c, (c = N + 4 ∨ c = N + 2 ∨ c = N + 3 ∨ c = N ∨ c = N + 1) → S1.h.get? c = none := fun (c : Nat) hc => new_of_ge (by show @LE.le Nat _ S1.s.heap.objs.size c; omega)
  have al : ∀ c, (c = N + 4 ∨ c = N + 2 ∨ c = N + 3 ∨ c = N ∨ c = N + 1) → ∃ o, h'.get? c = some o := by
    rintro c (rfl | rfl | rfl | rfl | rfl)
    · exact ⟨_, c1⟩
    · exact ⟨_, c2⟩
    · exact ⟨_, c3⟩
    · obtain ⟨o, e, _⟩ := c4; exact ⟨_, e⟩
    · obtain ⟨o, e, _⟩ := c5; exact ⟨_, e⟩
  have notW : ∀ c : Nat, c < N → (c = N + 4 ∨ c = N + 2 ∨ c = N + 3 ∨ c = N ∨ c = N + 1) → False := fun c h1 h2 => by omega
  refine wpAny_pyIter_zip c1 ?_
  obtain ⟨R2, T2⟩ := R1.bad (W := fun c => c = N + 4 ∨ c = N + 2 ∨ c = N + 3 ∨ c = N ∨ c = N + 1) g fun c hc => ⟨fr c hc, al c hc⟩
  have D : ZipApart (N + 4) (N + 2) (N + 3) N (N + 1) a b := by constructor <;> exact neA (by omega)
  refine ⟨_, _, _, rfl, R2, T1.trans T2, itr_zip (us := us) (ws := ws) (xs := xs) (ys := ys) R.ok.hh D, ⟨⟨c1, c2, ⟨_, _, c3⟩, c4, c5, pa.isList.at fun o e => hk _ o e, pb.isList.at fun o e => hk _ o e⟩, ⟨fun q => q.elim ha (fun z => notW a la z), fun q => q.elim hb (fun z => notW b lb z), T2.repAll ra, T2.repAll rb⟩, fun c hc => ⟨.inr hc, R1.nM (fr c hc)⟩⟩, fun c hc => T1.free (fr c hc)⟩

/-- enumerate(xs) -/
noncomputable def enumD : Nat → List PyData → List PyData
  | _, [] => []
  | n, d :: ds => .tuple [.int n, d] :: enumD (n + 1) ds
theorem enumD_get : ∀ (n : Nat) (ds : List PyData) (i : Nat), (enumD n ds)[i]? = (ds[i]?).map fun d => .tuple [.int ((n + i : Nat) : Int), d]
  | _, [], i => by simp [enumD]
  | n, d :: ds, 0 => by simp [enumD]
  | n, d :: ds, i + 1 => by simp only [enumD, List.getElem?_cons_succ]; rw [enumD_get (n + 1) ds i]; congr 1; funext d; congr 4; omega
theorem enumD_length (n : Nat) (ds : List PyData) : (enumD n ds).length = ds.length := by
  induction ds generalizing n with
  | nil => rfl
  | cons d ds ih => simp [enumD, ih]

theorem itr_enum {e it l : Addr} {us : Array Value} {xs : List PyData} (hh : X.A.handled = none) (hne : e ≠ it) (hle : l ≠ e) (hli : l ≠ it) :
    Itr X true (.ref e) (enumD 0 xs) (fun b => b = e ∨ b = it)
      (fun i S => ((∃ old, IsEnum S.h e it i old) ∧ S.h.IsListIter it l i ∧ S.h.IsList l us) ∧ (¬ S.B l ∧ RepAll S.B S.h us.toList xs) ∧ ∀ b, (b = e ∨ b = it) → S.B b ∧ ¬ S.M b) where
  tr := fun i S S' hp T => by
    obtain ⟨⟨⟨old, he⟩, h1, hl⟩, ⟨n1, r1⟩, hW⟩ := hp
    obtain ⟨o1, e1, q1⟩ := h1
    obtain ⟨o3, e3, q3⟩ := hl
    refine ⟨⟨⟨old, T.keep _ _ (hW e (.inl rfl)).2 he⟩, ⟨o1, T.keep _ _ (hW it (.inr rfl)).2 e1, q1⟩, ⟨o3, T.keep _ _ (fun m => n1 (T.sub _ m)) e3, q3⟩⟩, ⟨fun q => (T.bsub _ q).elim n1 fun w => (by rw [w] at e3; cases e3), T.repAll r1⟩, fun b hb => ?_⟩
    have : ∃ o, S.h.get? b = some o := by
      rcases hb with rfl | rfl
      · exact ⟨_, he⟩
      · exact ⟨_, e1⟩
    obtain ⟨o, ho⟩ := this
    exact ⟨T.bkeep b o (hW b hb).1 (hW b hb).2 ho, fun m => (T.msub b m).elim (hW b hb).2 fun w => by rw [w] at ho; cases ho⟩
  bad := fun i S hp b hb => by
    obtain ⟨⟨⟨old, he⟩, h1, hl⟩, _, hW⟩ := hp
    refine ⟨(hW b hb).1, (hW b hb).2, ?_⟩
    obtain ⟨o1, e1, _, d1⟩ := h1
    rcases hb with rfl | rfl
    · exact ⟨_, he, fun v e => by cases e⟩
    · exact ⟨_, e1, fun v e => by rw [d1] at e; cases e⟩
  item := fun i d S hd hp hball => by
    obtain ⟨⟨⟨old, he⟩, h1, hl⟩, ⟨n1, r1⟩, hW⟩ := hp
    rw [enumD_get] at hd
    cases ex : xs[i]? with
    | none => rw [ex] at hd; cases hd
    | some dx =>
      rw [ex] at hd
      have ed := (Option.some.inj hd).symm
      simp only [Nat.zero_add] at ed
      subst ed
      obtain ⟨x, hx, rx⟩ := r1.get ex
      have hWB : WBad (fun b => b = e ∨ b = it) S := fun b hb => by
        refine ⟨(hW b hb).1, (hW b hb).2, ?_⟩
        obtain ⟨o1, e1, _, d1⟩ := h1
        rcases hb with rfl | rfl
        · exact ⟨_, he, fun v e => by cases e⟩
        · exact ⟨_, e1, fun v e => by rw [d1] at e; cases e⟩
      refine wpAny_pyNext_enum_item he h1 hl (by simpa using hx) hne fun h' a1 a2 a3 a4 hk => ?_
      have g : KB (fun b => b = e ∨ b = it) S.s { S.s with heap := h', toks := S.s.toks + 1 } := ⟨fun b o hb ho => hk b o (fun q => hb (.inl q)) (fun q => hb (.inr q)) ho, fun b hb => by
        obtain ⟨o1, e1, _, d1⟩ := a2
        rcases hb with rfl | rfl
        · exact ⟨_, a1, fun v e => by cases e⟩
        · exact ⟨_, e1, fun v e => by rw [d1] at e; cases e⟩, rfl, rfl⟩
      have hT : ¬ S.B S.s.heap.objs.size := fun q => by have := hball _ q; rw [fresh_none] at this; cases this
      have rT : Rep S.B h' (.ref S.s.heap.objs.size) (.tuple [.int i, dx]) := .tuple hT ⟨0, a3⟩ (.cons (.int _ _) (.cons (kb_rep g hWB rx) .nil))
      refine ⟨_, rfl, g, rT, fun t ht => ?_⟩
      obtain ⟨es, k0, p0, rfl⟩ := isTupT_inv (ht rfl)
      refine wpAny_letOwnedTupleGo_enum a1 fun h'' he'' hs'' => ?_
      have g2 : KB (fun b => b = e ∨ b = it) { S.s with heap := h', toks := S.s.toks + 1 } { S.s with heap := h'', toks := S.s.toks + 1 } := ⟨fun b o hb ho => (hs''.2 b fun q => hb (.inl q)).trans ho, fun b hb => by
        obtain ⟨o1, e1, _, d1⟩ := a2.extBut hs''.extBut (Ne.symm hne)
        rcases hb with rfl | rfl
        · exact ⟨_, he'', fun v e => by cases e⟩
        · exact ⟨_, e1, fun v e => by rw [d1] at e; cases e⟩, rfl, rfl⟩
      have hl' : h'.IsList l us := hl.at fun o ho => hk _ o hle hli ho
      refine ⟨⟨⟨⟨x, ?_⟩, a2.extBut hs''.extBut (Ne.symm hne), hl'.extBut hs''.extBut hle⟩, ⟨n1, kb_repAll (S := ⟨{ S.s with heap := h', toks := S.s.toks + 1 }, S.M, S.B⟩) g2 (g.wbad hWB) (kb_repAll g hWB r1)⟩, hW⟩, g2⟩
      rw [show ((i + 1 : Nat) : Int) = (i : Int) + 1 by push_cast; rfl]; exact he''
  done := fun S hp => by
    obtain ⟨⟨⟨old, he⟩, h1, hl⟩, ⟨n1, r1⟩, hW⟩ := hp
    have q1 := r1.length
    rw [Array.length_toList] at q1
    refine wpAny_pyNext_enum_end hh he h1 hl (by rw [enumD_length]; simp [q1]) fun h' hk => ⟨rfl, ⟨fun b o hb ho => hk b o (fun q => hb (.inr q)) ho, rfl, rfl⟩⟩
  self := fun i S Q ⟨⟨⟨old, he⟩, _⟩, _⟩ hQ => wpAny_pyIter_enum he hQ
theorem evi_enum {x : Str} {e1 : Expr} {xs : List PyData} (hg : Blt X x (.type "enumerate")) (h1 : Ev X e1 σ (.list xs) σ1) (hs1 : isStarred e1 = false := by rfl) :
    EvI X true (.Call (.Name x p2) [e1] [] pos) σ (enumD 0 xs) σ1 := .of fun S m vals R => by
  have hst : [e1].all (fun e => !isStarred e) = true := by simp [hs1]
  refine tree_Call_Name (load_blt R hg (PySem.callWith_type (backTo_plain pos hst).1 (args_of (evs_cons h1 evs_nil hs1) R hst fun vs S1 R1 T1 q => ?_)))
  obtain ⟨v, rfl, rv⟩ := one_of q
  obtain ⟨a, us, rfl, ha, pa, ra⟩ := rep_list rv
  refine call_enumerate_list pa.isList fun h' c1 c2 c3 hk => ?_
  have g : Grow S1.s { S1.s with heap := h' } := ⟨hk, rfl, rfl⟩
  have la : @LT.lt Nat _ a S1.s.heap.objs.size := by obtain ⟨n, e⟩ := pa; exact Heap.lt_size e
  generalize hN : S1.s.heap.objs.size = N at *
  have fr : ∀ c, (c = N + 1 ∨ c = N) → S1.h.get? c = none := fun (c : Nat) hc => new_of_ge (by show @LE.le Nat _ S1.s.heap.objs.size c; omega)
  have notW : ∀ c : Nat, c < N → (c = N + 1 ∨ c = N) → False := fun c h1 h2 => by omega
  refine wpAny_pyIter_enum c1 ?_
  obtain ⟨R2, T2⟩ := R1.bad (W := fun c => c = N + 1 ∨ c = N) g fun c hc => ⟨fr c hc, by
    rcases hc with rfl | rfl
    · exact ⟨_, c1⟩
    · obtain ⟨o, e, _⟩ := c2; exact ⟨_, e⟩⟩
  refine ⟨_, _, _, rfl, R2, T1.trans T2, itr_enum (us := us) (xs := xs) (l := a) R.ok.hh (neA (by omega)) (neA (by omega)) (neA (by omega)), ⟨⟨⟨_, c1⟩, c2, pa.isList.at fun o e => hk _ o e⟩, ⟨fun q => q.elim ha (fun z => notW a la z), T2.repAll ra⟩, fun c hc => ⟨.inr hc, R1.nM (fr c hc)⟩⟩, fun c hc => T1.free (fr c hc)⟩
end Mine
open PySem PySem.Spec PySem.Calls PySem.W PyProof.Rows
set_option Elab.async false
set_option maxRecDepth 100000
set_option maxHeartbeats 1000000
set_option linter.unusedVariables false
namespace Mine
variable {X : Fx}

/-- the tests of a comprehension -/
inductive Tts (X : Fx) : List Expr → Sg → Bool → Sg → Prop
  | nil {σ} : Tts X [] σ true σ
  | one {c σ b σ1} : Tt X c σ b σ1 → Tts X [c] σ b σ1
/-- the turns of a comprehension: each from σ0 on -/
inductive CompR (X : Fx) (t : Expr) (ifs : List Expr) (elt : Expr) (σ0 : Sg) : List PyData → List (Option PyData) → Prop
  | nil : CompR X t ifs elt σ0 [] []
  | take {d ds r rs σa σb σc} : As X t σ0 d σa → Tts X ifs σa true σb → Ev X elt σb r σc → CompR X t ifs elt σ0 ds rs → CompR X t ifs elt σ0 (d :: ds) (some r :: rs)
  | skip {d ds rs σa σb} : As X t σ0 d σa → Tts X ifs σa false σb → CompR X t ifs elt σ0 ds rs → CompR X t ifs elt σ0 (d :: ds) (none :: rs)
theorem CompR.tail {X : Fx} {t : Expr} {ifs : List Expr} {elt : Expr} {σ0 : Sg} {d : PyData} {ds : List PyData} {o : Option PyData} {rs : List (Option PyData)} (h : CompR X t ifs elt σ0 (d :: ds) (o :: rs)) : CompR X t ifs elt σ0 ds rs := by
  cases h <;> assumption

variable {σ σ1 σ2 σ3 : Sg} {pos p2 p3 : Pos} {k : Nat}

theorem closure_of {scope : Scope} {env : Env} (h : ∀ p ∈ scope.names, p.2 = .free → ∃ c, env.cells.lookup p.1 = some c) :
    ∃ cl, closureFor scope env = pure cl ∧ (∀ x c, cl.lookup x = some c → env.cells.lookup x = some c) ∧ (∀ x, (x, NameKind.free) ∈ scope.names → cl.lookup x = env.cells.lookup x) := by
  have main : ∀ (names : List (Str × NameKind)) (acc : List (Str × Addr)), (∀ p ∈ names, p.2 = .free → ∃ c, env.cells.lookup p.1 = some c) → (∀ x c, acc.lookup x = some c → env.cells.lookup x = some c) →
      ∃ cl : List (Str × Addr), (forIn names acc (fun (x : Str × NameKind) (r : List (Str × Addr)) => (if (x.2 == .free) = true then do let a ← cellOf env x.1; pure (.yield ((x.1, a) :: r)) else pure (.yield r) : Sem (ForInStep (List (Str × Addr)))))) = pure cl ∧
        (∀ x c, cl.lookup x = some c → env.cells.lookup x = some c) ∧ (∀ x, ((x, NameKind.free) ∈ names ∨ acc.lookup x = env.cells.lookup x) → cl.lookup x = env.cells.lookup x) := by
    intro names
    induction names with
    | nil => exact fun acc _ ha => ⟨acc, rfl, ha, fun x hx => hx.elim (fun q => nomatch q) id⟩
    | cons p names ih =>
      intro acc hn ha
      obtain ⟨n, kd⟩ := p
      rw [List.forIn_cons]
      by_cases hk : kd = .free
      · subst hk
        obtain ⟨c, hc⟩ := hn _ List.mem_cons_self rfl
        simp only at hc
        have e : cellOf env n = pure c := by unfold cellOf; rw [hc]
        simp only [beq_self_eq_true, if_true, e, pure_bind]
        have ha' : ∀ x c', ((n, c) :: acc).lookup x = some c' → env.cells.lookup x = some c' := fun x c' hx => by
          rw [List.lookup_cons] at hx
          cases hb : x == n with
          | true => rw [hb] at hx; cases hx; rw [beq_iff_eq.mp hb]; exact hc
          | false => rw [hb] at hx; exact ha x c' hx
        obtain ⟨cl, h1, h2, h3⟩ := ih ((n, c) :: acc) (fun q hq => hn q (List.mem_cons_of_mem _ hq)) ha'
        refine ⟨cl, h1, h2, fun x hx => h3 x ?_⟩
        by_cases hb : x = n
        · right; subst hb; simp [List.lookup_cons, hc]
        · rcases hx with hx | hx
          · rcases List.mem_cons.mp hx with q | q
            · cases q; exact absurd rfl hb
            · exact .inl q
          · right
            have : (x == n) = false := by simpa using hb
            rw [List.lookup_cons, this]; exact hx
      · have hb : (kd == NameKind.free) = false := by simpa using hk
        simp only [hb, Bool.false_eq_true, if_false, pure_bind]
        obtain ⟨cl, h1, h2, h3⟩ := ih acc (fun q hq => hn q (List.mem_cons_of_mem _ hq)) ha
        refine ⟨cl, h1, h2, fun x hx => h3 x ?_⟩
        rcases hx with hx | hx
        · rcases List.mem_cons.mp hx with q | q
          · cases q; exact absurd rfl hk
          · exact .inl q
        · exact .inr hx
  obtain ⟨cl, h1, h2, h3⟩ := main scope.names [] h fun x c e => by simp at e
  refine ⟨cl, ?_, h2, fun x hx => h3 x (.inl hx)⟩
  unfold closureFor
  exact (congrArg (fun m : Sem (List (Str × Addr)) => m >>= fun r => pure r) h1).trans rfl

theorem compLoop_own {prog : Program} {w : World} {A : Around} {R : Result → Shared → Prop} {s : Shared} {elt t iter : Expr} {ifs : List Expr} {scope : Scope} {it acc : Value} {env : Env} (I : Nat → Shared → Prop)
    (turn : ∀ n s, I n s → wpAny (model prog w) A (pyNext it) (fun r s1 => match r with
      | none => R (.ok .next) s1
      | some v => wpAny (model prog w) A (letOwnedTupleGo t it v) (fun _ s2 => wpAny (model prog w) A (assign t env v) (fun _ s3 =>
          wpAny (model prog w) A (forIn ifs true fun c r => if r = true then do let ok ← isTrue c env (eval c env); pure (ForInStep.yield ok) else pure (ForInStep.yield r)) (fun ok s4 =>
            if ok = true then wpAny (model prog w) A (eval elt env) (fun x s5 => wpAny (model prog w) A (call (.builtin "list.append") [acc, x]) (fun _ s6 => ∃ m, m < n ∧ I m s6) (fun _ _ => False) s5) (fun _ _ => False) s4
            else ∃ m, m < n ∧ I m s4) (fun _ _ => False) s3) (fun _ _ => False) s2) (fun _ _ => False) s1) (fun _ _ => False) s)
    (n : Nat) (h : I n s) : codeAny (model prog w) A (.compLoop (.ListComp elt [⟨t, iter, ifs, 0⟩] scope pos) 0 it acc env) R s := by
  refine codeAny_loop rfl I (fun n s hI => ?_) n h
  show wpAny _ _ ((compTurn (.ListComp elt [⟨t, iter, ifs, 0⟩] scope pos) 0 it acc env).onRaise (fun x => do noteFrame x env; theTreesLotGoes x)) _ _ s
  refine wpAny_noted (noE ?_)
  rw [compTurn_list]
  refine wpAny_bind (wpAny_standAt (wpAny_bind (wpAny_mono (turn n s hI) (fun r s1 h1 => ?_) fun _ _ f => f)))
  cases r with
  | none => exact wpAny_pure h1
  | some v =>
    refine wpAny_bind (wpAny_mono h1 (fun _ s2 h2 => wpAny_bind (wpAny_mono h2 (fun _ s3 h3 => ?_) fun _ _ f => f)) fun _ _ f => f)
    refine wpAny_bind (wpAny_mono h3 (fun ok s4 h4 => ?_) fun _ _ f => f)
    cases ok with
    | true =>
      simp only [if_true] at h4 ⊢
      exact wpAny_bind (wpAny_bind (wpAny_mono h4 (fun x s5 h5 => wpAny_bind (wpAny_mono h5 (fun _ s6 h6 => wpAny_pure (wpAny_pure ⟨rfl, h6⟩)) fun _ _ f => f)) fun _ _ f => f))
    | false =>
      simp only [Bool.false_eq_true, if_false] at h4 ⊢
      exact wpAny_pure ⟨rfl, h4⟩

theorem tts_run {ifs : List Expr} {b : Bool} {S : St} {m : Str → Option Value} {vals : Nat → Option Value} (h : Tts X ifs σ b σ1) (r : RelV X σ S m vals) :
    wpAny (model X.prog X.w) X.A (forIn ifs true fun c r => if r = true then do let ok ← isTrue c X.env (eval c X.env); pure (ForInStep.yield ok) else pure (ForInStep.yield r))
      (fun ok s' => ok = b ∧ ∃ S', S'.s = s' ∧ RelV X σ1 S' m vals ∧ Tr S S') (fun _ _ => False) S.s := by
  cases h with
  | nil => rw [List.forIn_nil]; exact wpAny_pure ⟨rfl, S, rfl, r, r.tr⟩
  | one ht =>
    rw [List.forIn_cons]
    simp only [if_true]
    refine wpAny_bind (wpAny_bind (wpAny_mono (ht.go S m vals r) (fun ok s1 q => wpAny_pure ?_) fun _ _ f => f))
    obtain ⟨S1, e, R1, T1, rfl⟩ := q
    dsimp only
    rw [List.forIn_nil]
    exact wpAny_pure ⟨rfl, S1, e, R1, T1⟩

/-- a slot of the frame around, as a comprehension sees it -/
noncomputable def capSl : Option Sl → Option Sl
  | some (.own xs) => some (.bor xs)
  | x => x

theorem lookup_map_fst {α β : Type} (f : Str × α → Str × β) (hf : ∀ p, (f p).1 = p.1) : ∀ (l : List (Str × α)) (x : Str), (l.map f).lookup x = (l.lookup x).map fun k => (f (x, k)).2
  | [], _ => rfl
  | (n, k) :: r, x => by
    have e : f (n, k) = (n, (f (n, k)).2) := Prod.ext (hf (n, k)) rfl
    rw [List.map_cons, e, List.lookup_cons, List.lookup_cons]
    cases hx : x == n with
    | true => rw [beq_iff_eq.mp hx]; rfl
    | false => exact lookup_map_fst f hf r x
noncomputable def rlF (env : Env) (p : Str × NameKind) : Str × NameKind := if (p.2 == NameKind.free && env.scope.kind == .function && env.kindOf p.1 == some .cell) then (p.1, NameKind.cell) else p
theorem relabel_lookup (scope : Scope) (env : Env) (x : Str) : (relabel scope env).names.lookup x = (scope.names.lookup x).map fun k => (rlF env (x, k)).2 := by
  have e : (relabel scope env).names = scope.names.map (rlF env) := rfl
  rw [e]
  exact lookup_map_fst _ (fun p => by unfold rlF; split <;> rfl) _ _
theorem relabel_of {scope : Scope} {env : Env} {x : Str} {kd : NameKind} (h : scope.names.lookup x = some kd) (hk : kd ≠ .free) : (relabel scope env).names.lookup x = some kd := by
  rw [relabel_lookup, h]
  simp [rlF, hk]
theorem relabel_free {scope : Scope} {env : Env} {x : Str} (h : scope.names.lookup x = some .free) : (relabel scope env).names.lookup x = some .cell ∨ (relabel scope env).names.lookup x = some .free := by
  rw [relabel_lookup, h]
  simp only [Option.map_some, rlF]
  split
  · exact .inl rfl
  · exact .inr rfl

noncomputable def ocCells (oc : Option Str) (n : Addr) (cl : List (Str × Addr)) : List (Str × Addr) := match oc with
  | none => cl
  | some x => (x, n) :: cl
noncomputable def ocAs (oc : Option Str) (L : Addr) : List Addr := match oc with
  | none => [L]
  | some _ => [L, L + 1]
noncomputable def ocHeap (oc : Option Str) (h : Heap) : Heap := match oc with
  | none => h
  | some _ => h.push { cls := .type "cell", data := .cell none }
/-- a frame's heap without its own places -/
noncomputable def hid (s : Shared) (as : List Addr) : Shared := { s with heap := hideAll s.heap as }

structure CSub (X : Fx) (scope : Scope) (oc : Option Str) (env : Env) (s₀ : Shared) : Prop where
  scope : env.scope = relabel scope X.env
  cel : ∀ x, oc = some x → ∃ c, env.cells.lookup x = some c ∧ s₀.heap.get? c = none
theorem CSub.sto {X : Fx} {scope : Scope} {oc : Option Str} {env : Env} {s₀ : Shared} {tbl : List Str} {O : Bad} (h : CSub X scope oc env s₀) {x : Str} (hx : scope.names.lookup x = some .local) : Sto { X with s₀ := s₀, env := env, tbl := tbl, O := O } x :=
  .inl (by show env.scope.names.lookup x = _; rw [h.scope]; exact relabel_of hx (by decide))
theorem CSub.stoC {X : Fx} {scope : Scope} {oc : Option Str} {env : Env} {s₀ : Shared} {tbl : List Str} {O : Bad} (h : CSub X scope oc env s₀) {x : Str} (hx : scope.names.lookup x = some .cell) (ho : oc = some x) : Sto { X with s₀ := s₀, env := env, tbl := tbl, O := O } x :=
  .inr ⟨by show env.scope.names.lookup x = _; rw [h.scope]; exact relabel_of hx (by decide), h.cel x ho⟩
theorem CSub.glob {X : Fx} {scope : Scope} {oc : Option Str} {env : Env} {s₀ : Shared} (h : CSub X scope oc env s₀) {x : Str} (hx : scope.names.lookup x = some .globalImplicit) : env.kindOf x = some .globalImplicit := by
  show env.scope.names.lookup x = _; rw [h.scope]; exact relabel_of hx (by decide)

/-- what is static about a comprehension in a frame -/
structure CompOK (X : Fx) (scope : Scope) (tbl : List Str) (oc : Option Str) (σ1 σ0 : Sg) : Prop where
  kind : scope.kind = .function
  names : ∀ y ∈ scope.names, y.2 = .local → scope.names.lookup y.1 = some .local
  free : ∀ y ∈ scope.names, y.2 = .free → ∃ i : Nat, X.tbl[i]? = some y.1 ∧ X.env.kindOf y.1 ≠ some .local
  cf : ∀ n acc, cellsFrom n scope.names acc = ocCells oc n acc
  pf : ∀ h : Heap, pushCells h scope.names = ocHeap oc h
  nodup : tbl.Nodup
  good : ∀ x ∈ tbl, (x == ("__debug__" : Str)) = false ∧ (x == ("__classdict__" : Str)) = false
  cap : ∀ (j : Nat) x, tbl[j]? = some x → (scope.names.lookup x = some .local ∧ σ0.at j = none) ∨ (oc = some x ∧ scope.names.lookup x = some .cell ∧ σ0.at j = none) ∨
    (∃ i : Nat, X.tbl[i]? = some x ∧ scope.names.lookup x = some .free ∧ oc ≠ some x ∧ σ0.at j = capSl (σ1.at i))
  far : ∀ (j : Nat), tbl[j]? = none → σ0.at j = none

theorem RelV.kbC {S : St} {s' : Shared} {m : Str → Option Value} {vals : Nat → Option Value} {W : Bad} (r : RelV X σ S m vals) (g : ∀ b o, ¬ W b → S.h.get? b = some o → s'.heap.get? b = some o) (ga : ∀ b, W b → ∃ o, s'.heap.get? b = some o) (gos : s'.os = S.s.os) (ggens : s'.gens = S.s.gens)
    (hW : ∀ b, W b → S.B b ∧ ¬ S.M b) (hc : ∀ x c, X.env.cells.lookup x = some c → ¬ W c) (h0 : ∀ b, W b → X.s₀.heap.get? b = none) : RelV X σ ⟨s', S.M, S.B⟩ m vals := by
  have nM : ∀ b, S.M b → ¬ W b := fun b hm hw => (hW b hw).2 hm
  have RP : ∀ u d, Rep S.B S.h u d → Rep S.B s'.heap u d := fun u d => Rep.tr fun b o hb e => ⟨hb, g b o (fun hw => hb (hW b hw).1) e⟩
  have RA : ∀ u d, RepAll S.B S.h u d → RepAll S.B s'.heap u d := fun u d => RepAll.tr fun b o hb e => ⟨hb, g b o (fun hw => hb (hW b hw).1) e⟩
  refine ⟨r.ok, fun b o e => g b o (fun hw => ?_) (r.keep b o e), gos.trans r.os, ggens.trans r.gens, ?_, r.mL, r.mnew, r.sub, r.out, fun a ha => ?_, r.mcell, fun x c hx => ?_, fun i x hx => ?_, fun i => ?_, r.apart⟩
  · rw [h0 b hw] at e; cases e
  · obtain ⟨o, es, ep, ho, q⟩ := r.ns; exact ⟨o, es, ep, g _ o (nM _ r.mL) ho, q⟩
  · by_cases hw : W a
    · obtain ⟨o, ho⟩ := ga a hw; exact Option.isSome_iff_exists.mpr ⟨o, ho⟩
    · obtain ⟨o, ho⟩ := Option.isSome_iff_exists.mp (r.ball a ha)
      exact Option.isSome_iff_exists.mpr ⟨o, g a o hw ho⟩
  · obtain ⟨v, q⟩ := r.acell x c hx
    exact ⟨v, cell_keeps q fun o e => g c o (hc x c hx) e⟩
  · rcases r.var i x hx with q | ⟨c, k, l, q⟩
    · exact .inl q
    · exact .inr ⟨c, k, l, cell_keeps q fun o e => g c o (hc x c l) e⟩
  · exact (r.slot i).tr RP RA fun a o ha ho _ _ => ⟨ha, g a o (nM a ha) ho⟩

/-- entering a comprehension's frame for one turn -/
theorem RelV.inner {S : St} {m m' : Str → Option Value} {vals : Nat → Option Value} {scope : Scope} {tbl : List Str} {oc : Option Str} {σ0 : Sg} {env' : Env} {as : List Addr} {cl : List (Str × Addr)}
    (r : RelV X σ1 S m vals) (C : CompOK X scope tbl oc σ1 σ0)
    (he : env' = { scope := relabel scope X.env, locals := env'.locals, globals := X.env.globals, cells := ocCells oc (env'.locals + 1) cl, qual := X.env.qual, func := none, code := X.env.code, frame := X.env.frame, builtins := X.env.builtins })
    (has : as = ocAs oc env'.locals)
    (hcl1 : ∀ x c, cl.lookup x = some c → X.env.cells.lookup x = some c) (hcl2 : ∀ x, (x, NameKind.free) ∈ scope.names → cl.lookup x = X.env.cells.lookup x)
    (hns : S.h.Ns env'.locals m') (hcell : ∀ x, oc = some x → ∃ v, S.h.IsCell (env'.locals + 1) v)
    (hB : ∀ a ∈ as, S.B a) (hM : ∀ a ∈ as, ¬ S.M a) (h0 : ∀ a ∈ as, X.s₀.heap.get? a = none) (hcs : ∀ x c, X.env.cells.lookup x = some c → c ∉ as) :
    CSub X scope oc env' (hid S.s as) ∧ ∃ vals', RelV { X with s₀ := hid S.s as, env := env', tbl := tbl, O := fun b => S.B b ∧ b ∉ as } σ0 ⟨S.s, fun b => b ∈ as, S.B⟩ m' vals' := by
  have hL : env'.locals ∈ as := by rw [has]; cases oc <;> simp [ocAs]
  have hgh : ∀ b o, (hid S.s as).heap.get? b = some o → S.h.get? b = some o := fun b o e => of_hideAll as e
  have hhg : ∀ b o, S.h.get? b = some o → b ∉ as → (hid S.s as).heap.get? b = some o := fun b o e h => hideAll_get as e h
  have hnone : ∀ b, b ∈ as → (hid S.s as).heap.get? b = none := fun b h => hideAll_none as h
  have escope : env'.scope = relabel scope X.env := by rw [he]
  have ecells : env'.cells = ocCells oc (env'.locals + 1) cl := by conv => lhs; rw [he]
  have kindL : ∀ x, env'.kindOf x = (relabel scope X.env).names.lookup x := fun x => by show env'.scope.names.lookup x = _; rw [escope]
  have celL : ∀ x, oc = some x → env'.cells.lookup x = some (env'.locals + 1) := fun x hx => by rw [ecells, hx]; simp [ocCells]
  have celF : ∀ x, oc ≠ some x → env'.cells.lookup x = cl.lookup x := fun x hx => by
    rw [ecells]
    cases oc with
    | none => rfl
    | some y =>
      have : (x == y) = false := by simpa using fun e : x = y => hx (by rw [e])
      simp [ocCells, List.lookup_cons, this]
  have celAny : ∀ x c, env'.cells.lookup x = some c → (oc = some x ∧ c = env'.locals + 1) ∨ (oc ≠ some x ∧ cl.lookup x = some c) := fun x c h => by
    by_cases hx : oc = some x
    · rw [celL x hx] at h; exact .inl ⟨hx, (Option.some.inj h).symm⟩
    · rw [celF x hx] at h; exact .inr ⟨hx, h⟩
  have hown : ∀ x, oc = some x → env'.locals + 1 ∈ as := fun x hx => by rw [has, hx]; simp [ocAs]
  refine ⟨⟨escope, fun x hx => ⟨_, celL x hx, hnone _ (hown x hx)⟩⟩, ?_⟩
  -- values of the inner names
  let vals' : Nat → Option Value := fun j => match tbl[j]? with
    | none => none
    | some x => if scope.names.lookup x = some .local then m' x else match env'.cells.lookup x with
      | none => none
      | some c => match S.h.get? c with
        | some o => (match o.data with | .cell v => v | _ => none)
        | none => none
  have cv : ∀ c v, S.h.IsCell c v → (match S.h.get? c with | some o => (match o.data with | .cell v => v | _ => none) | none => none) = v := fun c v ⟨o, ho, hd⟩ => by rw [ho]; simp only [hd]
  refine ⟨vals', ⟨r.ok.hh, r.ok.dep, r.ok.uni, ?_, ?_, ?_, ?_, C.nodup, C.good, fun a ha => ?_, fun x y c hx hy => ?_⟩, hgh, rfl, rfl, hns, hL, hnone, hB, fun a ha => ha.1, r.ball, fun x c hc => ?_, fun x c hc => ?_, fun j x hx => ?_, fun j => ?_, fun i j xs ys h1 h2 _ => ?_⟩
  · exact r.ok.wd.keeps fun b o e => hhg b o (r.keep b o e) fun h => by rw [h0 b h] at e; cases e
  · show env'.scope.kind = _; rw [escope]; exact C.kind
  · show env'.globals = _; rw [he]; exact r.ok.globals
  · show env'.builtins = _; rw [he]; exact r.ok.builtins
  · obtain ⟨o, ho⟩ := Option.isSome_iff_exists.mp (r.ball a ha.1)
    exact Option.isSome_iff_exists.mpr ⟨o, hhg a o ho ha.2⟩
  · rcases celAny x c hx with ⟨a1, a2⟩ | ⟨a1, a2⟩ <;> rcases celAny y c hy with ⟨b1, b2⟩ | ⟨b1, b2⟩
    · rw [a1] at b1; exact Option.some.inj b1
    · exact absurd (hown x a1) (a2 ▸ hcs y c (hcl1 y c b2))
    · exact absurd (hown y b1) (b2 ▸ hcs x c (hcl1 x c a2))
    · exact r.ok.inj x y c (hcl1 x c a2) (hcl1 y c b2)
  · rcases celAny x c hc with ⟨a1, a2⟩ | ⟨a1, a2⟩
    · rw [a2]; exact ⟨hB _ (hown x a1), fun _ => hown x a1⟩
    · obtain ⟨b1, b2⟩ := r.mcell x c (hcl1 x c a2)
      refine ⟨b1, fun hn => ?_⟩
      have := r.acell x c (hcl1 x c a2)
      obtain ⟨v, o, ho, _⟩ := this
      rw [show ({ X with s₀ := hid S.s as, env := env', tbl := tbl, O := fun b => S.B b ∧ b ∉ as } : Fx).s₀.heap.get? c = some o from hhg c o ho (hcs x c (hcl1 x c a2))] at hn
      cases hn
  · rcases celAny x c hc with ⟨a1, a2⟩ | ⟨a1, a2⟩
    · rw [a2]; exact hcell x a1
    · exact r.acell x c (hcl1 x c a2)
  · have hx' : tbl[j]? = some x := hx
    have ev : vals' j = if scope.names.lookup x = some .local then m' x else match env'.cells.lookup x with
      | none => none
      | some c => match S.h.get? c with
        | some o => (match o.data with | .cell v => v | _ => none)
        | none => none := by simp only [vals', hx']
    rcases C.cap j x hx' with ⟨h1, h2⟩ | ⟨h1, h2, h3⟩ | ⟨i, h1, h2, h3, h4⟩
    · refine .inl ⟨?_, ?_⟩
      · show env'.kindOf x = _; rw [kindL]; exact relabel_of h1 (by decide)
      · rw [ev, if_pos h1]
    · obtain ⟨v, hv⟩ := hcell x h1
      refine .inr ⟨env'.locals + 1, .inl ?_, celL x h1, ?_⟩
      · show env'.kindOf x = _; rw [kindL]; exact relabel_of h2 (by decide)
      · rw [ev, if_neg (by rw [h2]; decide), celL x h1]
        simp only [cv _ _ hv]; exact hv
    · have hmem := PySem.mem_of_lookup h2
      obtain ⟨i', hi', hk'⟩ := C.free _ hmem rfl
      have hii : i' = i := tbl_inj r.ok.nodup hi' h1
      subst hii
      rcases r.var i' x h1 with q | ⟨c, kq, lq, q⟩
      · exact absurd q.1 hk'
      · have e1 : env'.cells.lookup x = some c := by rw [celF x h3, hcl2 x hmem]; exact lq
        refine .inr ⟨c, ?_, e1, ?_⟩
        · rcases relabel_free (env := X.env) h2 with z | z
          · left; show env'.kindOf x = _; rw [kindL]; exact z
          · right; show env'.kindOf x = _; rw [kindL]; exact z
        · rw [ev, if_neg (by rw [h2]; decide), e1]
          simp only [cv _ _ q]; exact q
  · cases hx : tbl[j]? with
    | none => rw [C.far j hx]; trivial
    | some x =>
      rcases C.cap j x hx with ⟨h1, h2⟩ | ⟨h1, h2, h3⟩ | ⟨i, h1, h2, h3, h4⟩
      · rw [h2]; trivial
      · rw [h3]; trivial
      · rw [h4]
        have hmem := PySem.mem_of_lookup h2
        obtain ⟨i', hi', hk'⟩ := C.free _ hmem rfl
        have hii : i' = i := tbl_inj r.ok.nodup hi' h1
        subst hii
        rcases r.var i' x h1 with q | ⟨c, kq, lq, q⟩
        · exact absurd q.1 hk'
        · have e1 : env'.cells.lookup x = some c := by rw [celF x h3, hcl2 x hmem]; exact lq
          have ev : vals' j = vals i' := by
            simp only [vals', hx]
            rw [if_neg (by rw [h2]; decide), e1]
            exact cv _ _ q
          rw [ev]
          have sl := r.slot i'
          revert sl
          cases σ1.at i' with
          | none => intro _; trivial
          | some sl => cases sl with
            | fro d => exact fun h => h
            | own xs =>
              rintro ⟨a, vs, ha, hMa, ⟨n, hp⟩, hr⟩
              exact ⟨a, vs, ha, ⟨n, hhg a _ hp fun q => hM a q hMa⟩, hr⟩
            | bor xs =>
              rintro ⟨a, vs, ha, ⟨n, hp⟩, hr⟩
              exact ⟨a, vs, ha, ⟨n, hhg a _ (r.keep _ _ hp) fun q => by rw [h0 a q] at hp; cases hp⟩, hr⟩
  · exfalso
    have noOwn : ∀ j xs, σ0.at j ≠ some (.own xs) := fun j xs h => by
      cases hx : tbl[j]? with
      | none => rw [C.far j hx] at h; cases h
      | some x =>
        rcases C.cap j x hx with ⟨_, h2⟩ | ⟨_, _, h3⟩ | ⟨i, _, _, _, h4⟩
        · rw [h2] at h; cases h
        · rw [h3] at h; cases h
        · rw [h4] at h
          revert h
          cases σ1.at i with
          | none => intro h; cases h
          | some sl => cases sl <;> (intro h; cases h)
    exact noOwn i xs h1
end Mine
open PySem PySem.Spec PySem.Calls PySem.W PyProof.Rows
set_option Elab.async false
set_option maxRecDepth 100000
set_option maxHeartbeats 1000000
set_option linter.unusedVariables false
namespace Mine
variable {X : Fx} {σ σ1 σ2 σ3 : Sg} {pos p2 p3 : Pos} {k : Nat}

theorem RelV.shrink {S : St} {m : Str → Option Value} {vals : Nat → Option Value} {B' : Bad} (r : RelV X σ S m vals) (h1 : ∀ b, B' b → S.B b) (h2 : ∀ b, S.M b → B' b) (h3 : ∀ b, X.O b → B' b) (h4 : ∀ x c, X.env.cells.lookup x = some c → B' c) : RelV X σ ⟨S.s, S.M, B'⟩ m vals :=
  ⟨r.ok, r.keep, r.os, r.gens, r.ns, r.mL, r.mnew, h2, h3, fun a ha => r.ball a (h1 a ha), fun x c hc => ⟨h4 x c hc, (r.mcell x c hc).2⟩, r.acell, r.var,
    fun i => (r.slot i).tr (fun _ _ => Rep.tr fun b o hb e => ⟨fun q => hb (h1 b q), e⟩) (fun _ _ => RepAll.tr fun b o hb e => ⟨fun q => hb (h1 b q), e⟩) fun a o ha ho _ _ => ⟨ha, ho⟩, r.apart⟩

theorem comp_core {elt t iter : Expr} {ifs : List Expr} {scope : Scope} {ds : List PyData} {rs : List (Option PyData)} {tbl : List Str} {oc : Option Str} {σ0 : Sg} {tup : Bool} {it : Value} {W : Bad} {P : Nat → St → Prop} {cl : List (Str × Addr)} {S S2 : St} {m : Str → Option Value} {vals : Nat → Option Value} {RR : Value → Addr → Result → Shared → Prop}
    (R : RelV X σ S m vals) (R2 : RelV X σ1 S2 m vals) (T2 : Tr S S2) (I : Itr X tup it ds W P) (P0 : P 0 S2) (hW0 : ∀ b, W b → S.h.get? b = none) (htt : tup = true → isTupleDisplay t = true) (C : CompOK X scope tbl oc σ1 σ0)
    (hcl1 : ∀ x c, cl.lookup x = some c → X.env.cells.lookup x = some c) (hcl2 : ∀ x, (x, NameKind.free) ∈ scope.names → cl.lookup x = X.env.cells.lookup x)
    (hturn : ∀ env' s₀ O, CSub X scope oc env' s₀ → CompR { X with s₀ := s₀, env := env', tbl := tbl, O := O } t ifs elt σ0 ds rs) (hsz : ds.length ≤ sizeLine)
    (hRR : ∀ D L s5 Bf, RelV X σ1 ⟨s5, S2.M, Bf⟩ m vals → Tr S ⟨s5, S2.M, Bf⟩ → Rep Bf s5.heap (.ref D) (.list (rs.filterMap id)) → (∃ m', s5.heap.Ns L m') → Bf L → ¬ S2.M L → X.s₀.heap.get? L = none → S.h.get? L = none → (∀ x c, X.env.cells.lookup x = some c → c ≠ L) → RR (.ref D) L (.ok .next) s5) :
    wpAny (model X.prog X.w) X.A (newList []) (fun acc s₃ => wpAny (model X.prog X.w) X.A (newFunctionEnv scope X.env.globals cl [] X.env.qual none .none (some X.env)) (fun cenv s₄ =>
      codeAny (model X.prog X.w) X.A (.compStart (.ListComp elt [⟨t, iter, ifs, 0⟩] scope pos) 0 it acc { cenv with scope := relabel scope X.env }) (RR acc cenv.locals) s₄) (fun _ _ => False) s₃) (fun _ _ => False) S2.s := by
  refine wpAny_newList ?_ (by decide)
  -- the comprehension's own places
  let D : Nat := S2.s.heap.objs.size
  let L : Nat := D + 1
  let h3 : Heap := S2.s.heap.push { cls := .type "list", data := .seq ([] : List Value).toArray }
  have sz3 : h3.objs.size = L := Heap.size_push _ _
  let as : List Addr := ocAs oc L
  let env' : Env := { scope := relabel scope X.env, locals := L, globals := X.env.globals, cells := ocCells oc (L + 1) cl, qual := X.env.qual, func := none, code := X.env.code, frame := X.env.frame, builtins := X.env.builtins }
  let h4 : Heap := ocHeap oc (h3.push { cls := .type "dict", data := .dict #[] })
  have keep34 : ∀ b o, h3.get? b = some o → h4.get? b = some o := fun b o e => by
    have e' : (h3.push { cls := .type "dict", data := .dict #[] }).get? b = some o := Heap.get?_push_of_some _ e
    show (ocHeap oc _).get? b = _
    cases oc with
    | none => exact e'
    | some x => exact Heap.get?_push_of_some _ e'
  have keep24 : ∀ b o, S2.h.get? b = some o → h4.get? b = some o := fun b o e => keep34 b o (Heap.get?_push_of_some _ e)
  have hD4 : h4.PlainList D #[] := ⟨0, keep34 _ _ (Heap.get?_push_size _ rfl)⟩
  have hL4 : h4.Ns L fun _ => none := by
    have q := Heap.Ns.new h3 (.type "dict")
    rw [sz3] at q
    show (ocHeap oc _).Ns L _
    cases oc with
    | none => exact q
    | some x => exact q.push _
  have hc4 : ∀ x, oc = some x → ∃ v, h4.IsCell (L + 1) v := fun x hx => by
    have sz4 : (h3.push { cls := .type "dict", data := .dict #[] }).objs.size = L + 1 := by rw [Heap.size_push, sz3]
    refine ⟨none, { cls := .type "cell", data := .cell none }, ?_, rfl⟩
    show (ocHeap oc _).get? (L + 1) = _
    rw [hx, ← sz4]
    exact Heap.get?_push_size _ rfl
  have has : ∀ a ∈ as, @LE.le Nat _ L a := fun a ha => by
    have : a ∈ ocAs oc L := ha
    cases oc with
    | none => simp [ocAs] at this; subst this; exact Nat.le_refl _
    | some x => simp [ocAs] at this; rcases this with rfl | rfl <;> omega
  have hLas : L ∈ as := by show L ∈ ocAs oc L; cases oc <;> simp [ocAs]
  have hcas : ∀ x, oc = some x → L + 1 ∈ as := fun x hx => by show L + 1 ∈ ocAs oc L; rw [hx]; simp [ocAs]
  have hasC : ∀ a ∈ as, a = L ∨ (∃ x, oc = some x ∧ a = L + 1) := fun a ha => by
    have q : a ∈ ocAs oc L := ha
    cases hoc : oc with
    | none => rw [hoc] at q; simp [ocAs] at q; exact .inl q
    | some x => rw [hoc] at q; simp [ocAs] at q; exact q.imp id fun q => ⟨x, rfl, q⟩
  have fr2 : ∀ a : Nat, D ≤ a → S2.h.get? a = none := fun a ha => new_of_ge ha
  have asD : ∀ a ∈ as, @Ne Addr a D := fun a ha => neA (by have := has a ha; omega)
  have as2 : ∀ a ∈ as, S2.h.get? a = none := fun a ha => fr2 a (by have := has a ha; omega)
  have x0 : ∀ a, S2.h.get? a = none → X.s₀.heap.get? a = none := fun a h => by
    cases e : X.s₀.heap.get? a with
    | none => rfl
    | some o => have := R2.keep a o e; rw [h] at this; cases this
  have nM2 : ∀ a, S2.h.get? a = none → ¬ S2.M a := fun a h => R2.nM h
  have ncell : ∀ x c, X.env.cells.lookup x = some c → ∀ a, S2.h.get? a = none → c ≠ a := fun x c hc a h e => by
    obtain ⟨v, o, ho, _⟩ := R2.acell x c hc
    rw [e, h] at ho; cases ho
  let Bo : Bad := fun b => S2.B b ∨ b = D ∨ b ∈ as
  let Mo : Bad := fun b => S2.M b ∨ b = D ∨ b ∈ as
  have bo : ∀ b, Bo b → S2.B b ∨ S2.h.get? b = none := fun b hb => hb.imp id fun q => q.elim (fun e => by rw [e]; exact fr2 D (Nat.le_refl _)) (as2 b)
  have subO : ∀ b, Mo b → Bo b := fun b hb => hb.imp (R2.sub b) id
  -- entering
  show wpAny _ _ (newFunctionEnv scope X.env.globals cl [] X.env.qual none .none (some X.env)) _ _ { S2.s with heap := h3 }
  have enter : ∀ (Q : Env → Shared → Prop), Q { scope := scope, locals := L, globals := X.env.globals, cells := ocCells oc (L + 1) cl, qual := X.env.qual, func := none, code := X.env.code, frame := X.env.frame, builtins := X.env.builtins } { S2.s with heap := h4 } →
      wpAny (model X.prog X.w) X.A (newFunctionEnv scope X.env.globals cl [] X.env.qual none .none (some X.env)) Q (fun _ _ => False) { S2.s with heap := h3 } := fun Q hQ => by
    simp only [newFunctionEnv, Option.isSome_some, if_true]
    refine wpAny_bind (wpAny_alloc ?_)
    refine wpAny_bind (wpAny_layCells _ (fun name kind cells => by cases hkc : kind == NameKind.cell <;> simp [hkc]) _ _ _ _ ?_)
    rw [show ({ S2.s with heap := h3.push { cls := .type "dict", data := .dict #[] } } : Shared).heap.objs.size = L + 1 by show (h3.push _).objs.size = _; rw [Heap.size_push, sz3]]
    rw [C.cf, C.pf]
    simp only [List.forIn_nil]
    refine wpAny_bind (wpAny_pure (wpAny_pure ?_))
    have e : ({ S2.s with heap := h3 } : Shared).heap.objs.size = L := sz3
    rw [e]
    exact hQ
  refine enter _ ?_
  show codeAny _ _ (.compStart _ 0 it (.ref D) env') (RR (.ref D) L) _
  -- the loop
  have hs4 : RelV X σ1 ⟨{ S2.s with heap := h4 }, S2.M, Bo⟩ m vals ∧ Tr S2 ⟨{ S2.s with heap := h4 }, S2.M, Bo⟩ := by
    refine R2.bad (W := fun b => b = D ∨ b ∈ as) (s' := { S2.s with heap := h4 }) ⟨keep24, rfl, rfl⟩ fun b hb => ?_
    rcases hb with rfl | hb
    · obtain ⟨n, e⟩ := hD4; exact ⟨fr2 _ (Nat.le_refl _), _, e⟩
    · refine ⟨as2 b hb, ?_⟩
      rcases hasC b hb with rfl | ⟨x, hx, rfl⟩
      · obtain ⟨o, _, _, e, _⟩ := hL4; exact ⟨o, e⟩
      · obtain ⟨v, o, e, _⟩ := hc4 x hx; exact ⟨o, e⟩
  have TM4 : Tr S2 ⟨{ S2.s with heap := h4 }, Mo, Bo⟩ := ⟨fun b o _ e => keep24 b o e, bo, fun b hb => hb.imp id fun q => q.elim (fun e => by rw [e]; exact fr2 D (Nat.le_refl _)) (as2 b), fun b o h _ _ => .inl h, R2.sub, rfl, rfl, fun b o _ e => ⟨o, keep24 b o e⟩⟩
  have loop : codeAny (model X.prog X.w) X.A (.compLoop (.ListComp elt [⟨t, iter, ifs, 0⟩] scope pos) 0 it (.ref D) env') (RR (.ref D) L) { S2.s with heap := h4 } := by
    refine compLoop_own (fun n s => ∃ i m' ys dn rr, n = ds.length + 1 - i ∧ i ≤ ds.length ∧ RelV X σ1 ⟨s, S2.M, Bo⟩ m vals ∧ P i ⟨s, Mo, Bo⟩ ∧ s.heap.PlainList D ys ∧ RepAll Bo s.heap ys.toList dn ∧ dn.length ≤ i ∧ s.heap.Ns L m' ∧ (∀ x, oc = some x → ∃ v, s.heap.IsCell (L + 1) v) ∧ Tr S ⟨s, S2.M, Bo⟩ ∧ dn ++ rr.filterMap id = rs.filterMap id ∧
        (∀ env' s₀ O, CSub X scope oc env' s₀ → CompR { X with s₀ := s₀, env := env', tbl := tbl, O := O } t ifs elt σ0 (ds.drop i) rr)) (fun n s hJ => ?_) (ds.length + 1)
      ⟨0, _, #[], [], rs, rfl, Nat.zero_le _, hs4.1, I.tr _ _ _ P0 TM4, hD4, .nil, Nat.le_refl _, hL4, hc4, T2.trans hs4.2, rfl, hturn⟩
    obtain ⟨i, m', ys, dn, rr, rfl, hle, Rs, Pi, hDs, hys, hdn, hLs, hcs, Ts, hrs, hct⟩ := hJ
    have hbad := I.bad _ _ Pi
    have hWB : WBad W ⟨s, S2.M, Bo⟩ := fun b hb => ⟨(hbad b hb).1, fun q => (hbad b hb).2.1 (.inl q), (hbad b hb).2.2⟩
    have hWx : ∀ b, W b → X.s₀.heap.get? b = none := fun b hb => by
      cases e : X.s₀.heap.get? b with
      | none => rfl
      | some o => have := R.keep b o e; rw [hW0 b hb] at this; cases this
    have hDW : ¬ W D := fun q => (hbad D q).2.1 (.inr (.inl rfl))
    have hasW : ∀ a ∈ as, ¬ W a := fun a ha q => (hbad a q).2.1 (.inr (.inr ha))
    have hDS : S.h.get? D = none := T2.free (fr2 D (Nat.le_refl _))
    have hasS : ∀ a ∈ as, S.h.get? a = none := fun a ha => T2.free (as2 a ha)
    cases hd : ds[i]? with
    | none =>
      have hi : i = ds.length := Nat.le_antisymm hle (by simpa using hd)
      subst hi
      refine wpAny_mono (I.done ⟨s, Mo, Bo⟩ Pi) (fun r s9 q => ?_) fun _ _ f => f
      obtain ⟨rfl, g⟩ := q
      have g' : KB0 W (⟨s, S2.M, Bo⟩ : St).s s9 := g
      have R9 := Rs.kb0 g' hWB hWx
      have T9 := Ts.kb0 g' hW0
      have e0 : rr = [] := by
        have := hct env' (hid s as) (fun b => Bo b ∧ b ∉ as)
          (RelV.inner (m' := m') Rs C (env' := env') (as := as) (cl := cl) rfl rfl hcl1 hcl2 hLs hcs (fun a ha => .inr (.inr ha)) (fun a ha q => nM2 a (as2 a ha) q) (fun a ha => x0 a (as2 a ha)) fun x c hc q => ncell x c hc c (as2 c q) rfl).1
        rw [List.drop_length] at this
        cases this; rfl
      rw [e0, List.filterMap_nil, List.append_nil] at hrs
      rw [hrs] at hys
      have nDW : ∀ b : Addr, b = D → ¬ W b := fun b e => e ▸ hDW
      refine hRR D L s9 (fun b => (Bo b ∧ ¬ W b) ∧ b ≠ D) (R9.shrink (fun b hb => hb.1) (fun b hb => ⟨R9.sub b hb, fun e => nM2 D (fr2 D (Nat.le_refl _)) (e ▸ hb)⟩) (fun b hb => ⟨R9.out b hb, fun e => ?_⟩) fun x c hc => ⟨(R9.mcell x c hc).1, ncell x c hc D (fr2 D (Nat.le_refl _))⟩) ?_ ?_ ?_ ⟨⟨.inr (.inr hLas), hasW L hLas⟩, asD L hLas⟩ (nM2 L (as2 L hLas)) (x0 L (as2 L hLas)) (hasS L hLas) fun x c hc => ncell x c hc L (as2 L hLas)
      · have := R.ok.oall b hb
        rw [e, x0 D (fr2 D (Nat.le_refl _))] at this; cases this
      · exact ⟨T9.keep, fun b hb => T9.bsub b hb.1, T9.msub, fun b o h1 h2 e => ⟨T9.bkeep b o h1 h2 e, fun q => by rw [q, hDS] at e; cases e⟩, T9.sub, T9.os, T9.gens, T9.live⟩
      · obtain ⟨n, e⟩ := hDs
        exact .list (fun q => q.2 rfl) ⟨n, g.keep _ _ hDW e⟩ (RepAll.tr (fun b o hb ho => ⟨fun q => hb q.1.1, g.keep b o (fun q => hb (hbad b q).1) ho⟩) hys)
      · obtain ⟨o, es, ep, e, q⟩ := hLs
        exact ⟨m', o, es, ep, g.keep _ _ (hasW L hLas) e, q⟩
    | some d =>
      have hlt : i < ds.length := (List.getElem?_eq_some_iff.mp hd).1
      have edrop : ds.drop i = d :: ds.drop (i + 1) := by
        rw [List.drop_eq_getElem_cons hlt]
        rw [List.getElem?_eq_getElem hlt] at hd
        rw [Option.some.inj hd]
      refine wpAny_mono (I.item i d ⟨s, Mo, Bo⟩ hd Pi Rs.ball) (fun r s1 q => ?_) fun _ _ f => f
      obtain ⟨v, rfl, g1, rv, hgo⟩ := q
      refine wpAny_mono (hgo t htt) (fun _ s2 q => ?_) fun _ _ f => f
      obtain ⟨P2, g2⟩ := q
      have hWB1 : WBad W ⟨s1, S2.M, Bo⟩ := KB.wbad (S := ⟨s, S2.M, Bo⟩) g1 hWB
      have R1' := RelV.kb (S := ⟨s, S2.M, Bo⟩) Rs g1 hWB hWx
      have R2' := RelV.kb (S := ⟨s1, S2.M, Bo⟩) R1' g2 hWB1 hWx
      have T2' := Tr.kb (S := ⟨s1, S2.M, Bo⟩) (Tr.kb (S := ⟨s, S2.M, Bo⟩) Ts g1 hW0) g2 hW0
      have kp : ∀ b o, ¬ W b → s.heap.get? b = some o → s2.heap.get? b = some o := fun b o hb e => g2.keep b o hb (g1.keep b o hb e)
      have rv2 : Rep Bo s2.heap v d := kb_rep (S := ⟨s1, S2.M, Bo⟩) g2 hWB1 rv
      have hys2 : RepAll Bo s2.heap ys.toList dn := RepAll.tr (fun b o hb ho => ⟨hb, kp b o (fun q => hb (hbad b q).1) ho⟩) hys
      have hDs2 : s2.heap.PlainList D ys := by obtain ⟨n, e⟩ := hDs; exact ⟨n, kp _ _ hDW e⟩
      have hLs2 : s2.heap.Ns L m' := by obtain ⟨o, es, ep, e, q⟩ := hLs; exact ⟨o, es, ep, kp _ _ (hasW L hLas) e, q⟩
      have hcs2 : ∀ x, oc = some x → ∃ v, s2.heap.IsCell (L + 1) v := fun x hx => by obtain ⟨v, o, e, q⟩ := hcs x hx; exact ⟨v, o, kp _ _ (hasW _ (hcas x hx)) e, q⟩
      obtain ⟨cs, vals', RI⟩ := RelV.inner (m' := m') R2' C (env' := env') (as := as) (cl := cl) rfl rfl hcl1 hcl2 hLs2 hcs2 (fun a ha => .inr (.inr ha)) (fun a ha q => nM2 a (as2 a ha) q) (fun a ha => x0 a (as2 a ha)) fun x c hc q => ncell x c hc c (as2 c q) rfl
      have hCR := hct env' (hid s2 as) (fun b => Bo b ∧ b ∉ as) cs
      rw [edrop] at hCR
      -- back from the inner frame
      have back : ∀ (S7 : St) (σ7 : Sg) (m7 : Str → Option Value) (vals7 : Nat → Option Value), RelV { X with s₀ := hid s2 as, env := env', tbl := tbl, O := fun b => Bo b ∧ b ∉ as } σ7 S7 m7 vals7 → Tr ⟨s2, fun b => b ∈ as, Bo⟩ S7 →
          RelV X σ1 ⟨S7.s, S2.M, Bo⟩ m vals ∧ P (i + 1) ⟨S7.s, Mo, Bo⟩ ∧ S7.s.heap.PlainList D ys ∧ RepAll Bo S7.s.heap ys.toList dn ∧ S7.s.heap.Ns L m7 ∧ (∀ x, oc = some x → ∃ v, S7.s.heap.IsCell (L + 1) v) ∧ Tr S ⟨S7.s, S2.M, Bo⟩ ∧ (∀ u r, Rep S7.B S7.h u r → Rep Bo S7.s.heap u r) := by
        intro S7 σ7 m7 vals7 R7 T7
        have kq : ∀ b o, b ∉ as → s2.heap.get? b = some o → S7.s.heap.get? b = some o := fun b o hb e => T7.keep b o hb e
        have bb : ∀ b, Bo b → S7.B b := fun b hb => by
          by_cases q : b ∈ as
          · rcases hasC b q with rfl | ⟨x, hx, rfl⟩
            · exact R7.sub _ R7.mL
            · refine (R7.mcell x (L + 1) ?_).1
              show (ocCells oc (L + 1) cl).lookup x = _
              rw [hx]; simp [ocCells]
          · obtain ⟨o, ho⟩ := Option.isSome_iff_exists.mp (R2'.ball b hb)
            exact T7.bkeep b o hb q ho
        refine ⟨RelV.kbC (S := ⟨s2, S2.M, Bo⟩) (W := fun b => b ∈ as) R2' (fun b o hb e => kq b o hb e) (fun b hb => ?_) T7.os T7.gens (fun b hb => ⟨.inr (.inr hb), nM2 b (as2 b hb)⟩) (fun x c hc q => ncell x c hc c (as2 c q) rfl) (fun b hb => x0 b (as2 b hb)), I.tr _ _ _ P2 ⟨fun b o hb e => kq b o (fun q => hb (.inr (.inr q))) e, fun b hb => .inl hb, fun b hb => .inl hb, fun _ _ h _ _ => h, subO, T7.os, T7.gens, fun b o hb e => ?_⟩, ?_, RepAll.tr (fun b o hb ho => ⟨hb, kq b o (fun q => hb (.inr (.inr q))) ho⟩) hys2, R7.ns, fun x hx => ?_, ⟨fun b o hb e => ?_, T2'.bsub, T2'.msub, T2'.bkeep, T2'.sub, T7.os.trans T2'.os, T7.gens.trans T2'.gens, fun b o hb e => ?_⟩, fun u r => Rep.tr fun b o hb ho => ⟨fun q => hb (bb b q), ho⟩⟩
        · obtain ⟨o, ho⟩ := Option.isSome_iff_exists.mp (R2'.ball b (.inr (.inr hb)))
          obtain ⟨o', ho'⟩ := T7.live b o hb ho
          exact ⟨o', ho'⟩
        · by_cases q : b ∈ as
          · obtain ⟨o', ho'⟩ := T7.live b o q e; exact ⟨o', ho'⟩
          · exact ⟨o, kq b o q e⟩
        · obtain ⟨n, e⟩ := hDs2; exact ⟨n, kq _ _ (fun q => asD D q rfl) e⟩
        · refine R7.acell x (L + 1) ?_
          show (ocCells oc (L + 1) cl).lookup x = _
          rw [hx]; simp [ocCells]
        · exact kq b o (fun q => by rw [hasS b q] at e; cases e) (T2'.keep b o hb e)
        · obtain ⟨o', ho'⟩ := T2'.live b o hb e
          exact ⟨o', kq b o' (fun q => by rw [hasS b q] at e; cases e) ho'⟩
      have hct' : ∀ o rr', rr = o :: rr' → ∀ env' s₀ O, CSub X scope oc env' s₀ → CompR { X with s₀ := s₀, env := env', tbl := tbl, O := O } t ifs elt σ0 (ds.drop (i + 1)) rr' := fun o rr' e env2 s02 O2 cs2 => by
        have := hct env2 s02 O2 cs2
        rw [edrop, e] at this
        exact this.tail
      clear hct
      cases hCR with
      | take ha htst hev hrest =>
        refine wpAny_mono (ha.go ⟨s2, fun b => b ∈ as, Bo⟩ v ⟨m', vals', RI⟩ rv2) (fun _ s3 q => ?_) fun _ _ f => f
        obtain ⟨S3, rfl, ⟨m3, vals3, R3⟩, T3⟩ := q
        refine wpAny_mono (tts_run htst R3) (fun ok s4 q => ?_) fun _ _ f => f
        obtain ⟨rfl, S4, rfl, R4, T4⟩ := q
        simp only [if_true]
        refine wpAny_mono (hev.go S4 m3 vals3 R4) (fun u s5 q => ?_) fun _ _ f => f
        obtain ⟨S5, rfl, R5, T5, ru⟩ := q
        obtain ⟨a1, a2, a3, a4, a5, a6, a7, a8⟩ := back S5 _ _ _ R5 ((T3.trans T4).trans T5)
        have ru' := a8 _ _ ru
        have hysz : ys.size ≤ sizeLine := by have := a4.length; rw [Array.length_toList] at this; omega
        refine wpAny_list_append_plain a3 (fun h6 hp6 hs6 => ?_) hysz
        have kd : ∀ b o, ¬ b = D → S5.s.heap.get? b = some o → h6.get? b = some o := fun b o hb e => (hs6.2 b hb).trans e
        have RA6 : ∀ u r, RepAll Bo S5.s.heap u r → RepAll Bo h6 u r := fun u r => RepAll.tr fun b o hb ho => ⟨hb, kd b o (fun q => hb (.inr (.inl q))) ho⟩
        have R6 : RelV X σ1 ⟨{ S5.s with heap := h6 }, S2.M, Bo⟩ m vals := RelV.kbC (S := ⟨S5.s, S2.M, Bo⟩) (W := fun b => b = D) a1 (fun b o hb e => kd b o hb e) (fun b hb => by cases hb; obtain ⟨n, e⟩ := hp6; exact ⟨_, e⟩) rfl rfl (fun b hb => by cases hb; exact ⟨.inr (.inl rfl), nM2 D (fr2 D (Nat.le_refl _))⟩) (fun x c hc => ncell x c hc D (fr2 D (Nat.le_refl _))) (fun b hb => by cases hb; exact x0 D (fr2 D (Nat.le_refl _)))
        have P6 : P (i + 1) ⟨{ S5.s with heap := h6 }, Mo, Bo⟩ := I.tr _ _ _ a2 ⟨fun b o hb e => kd b o (fun q => hb (.inr (.inl q))) e, fun b hb => .inl hb, fun b hb => .inl hb, fun _ _ h _ _ => h, subO, rfl, rfl, fun b o hb e => by
          by_cases q : b = D
          · obtain ⟨n, e⟩ := hp6; rw [q]; exact ⟨_, e⟩
          · exact ⟨o, kd b o q e⟩⟩
        have T6 : Tr S ⟨{ S5.s with heap := h6 }, S2.M, Bo⟩ := ⟨fun b o hb e => kd b o (fun q => by rw [q, hDS] at e; cases e) (a7.keep b o hb e), a7.bsub, a7.msub, a7.bkeep, a7.sub, a7.os, a7.gens, fun b o hb e => by
          obtain ⟨o', e'⟩ := a7.live b o hb e
          exact ⟨o', kd b o' (fun q => by rw [q, hDS] at e; cases e) e'⟩⟩
        have hL6 : h6.Ns L m3 := by obtain ⟨o, es, ep, e, q⟩ := a5; exact ⟨o, es, ep, kd _ _ (asD L hLas) e, q⟩
        exact ⟨ds.length + 1 - (i + 1), by omega, i + 1, _, ys.push u, dn ++ [_], _, rfl, hlt, R6, P6, hp6, by simpa using (RA6 _ _ a4).append (RA6 _ _ (.cons ru' .nil)), by simp; omega, hL6, fun x hx => by obtain ⟨v, o, e, q⟩ := a6 x hx; exact ⟨v, o, kd _ _ (asD _ (hcas x hx)) e, q⟩, T6, by simpa using hrs, hct' _ _ rfl⟩
      | skip ha htst hrest =>
        refine wpAny_mono (ha.go ⟨s2, fun b => b ∈ as, Bo⟩ v ⟨m', vals', RI⟩ rv2) (fun _ s3 q => ?_) fun _ _ f => f
        obtain ⟨S3, rfl, ⟨m3, vals3, R3⟩, T3⟩ := q
        refine wpAny_mono (tts_run htst R3) (fun ok s4 q => ?_) fun _ _ f => f
        obtain ⟨rfl, S4, rfl, R4, T4⟩ := q
        simp only [Bool.false_eq_true, if_false]
        obtain ⟨a1, a2, a3, a4, a5, a6, a7, a8⟩ := back S4 _ _ _ R4 (T3.trans T4)
        exact ⟨ds.length + 1 - (i + 1), by omega, i + 1, _, ys, dn, _, rfl, hlt, a1, a2, a3, a4, by omega, a5, a6, a7, by simpa using hrs, hct' _ _ rfl⟩
  exact codeAny_compStart_list loop (noE (I.self 0 ⟨{ S2.s with heap := h4 }, Mo, Bo⟩ _ (I.tr _ _ _ P0 TM4) loop))

theorem CompOK.closure {scope : Scope} {tbl : List Str} {oc : Option Str} {σ0 : Sg} (C : CompOK X scope tbl oc σ1 σ0) {S : St} {m : Str → Option Value} {vals : Nat → Option Value} (r : RelV X σ S m vals) :
    ∃ cl, closureFor scope X.env = pure cl ∧ (∀ x c, cl.lookup x = some c → X.env.cells.lookup x = some c) ∧ (∀ x, (x, NameKind.free) ∈ scope.names → cl.lookup x = X.env.cells.lookup x) :=
  closure_of fun p hp hf => by
    obtain ⟨i, hi, hk⟩ := C.free p hp hf
    rcases r.var i p.1 hi with q | ⟨c, _, hc, _⟩
    · exact absurd q.1 hk
    · exact ⟨c, hc⟩

/-- a list comprehension -/
theorem ev_comp {elt t iter : Expr} {ifs : List Expr} {scope : Scope} {ds : List PyData} {rs : List (Option PyData)} {rr : List PyData} (tbl : List Str) (oc : Option Str) (σ0 : Sg) {tup : Bool}
    (hi : EvI X tup iter σ ds σ1) (C : CompOK X scope tbl oc σ1 σ0)
    (hturn : ∀ env' s₀ O, CSub X scope oc env' s₀ → CompR { X with s₀ := s₀, env := env', tbl := tbl, O := O } t ifs elt σ0 ds rs) (hr : rs.filterMap id = rr) (hsz : ds.length ≤ sizeLine) (htt : tup = true → isTupleDisplay t = true) (hs : ∀ x, foldedSetIterable iter X.env x = pure x := by intro _; rfl) :
    Ev X (.ListComp elt [⟨t, iter, ifs, 0⟩] scope pos) σ (.list rr) σ1 := .of fun S m vals R => by
  obtain ⟨cl, hcl, hcl1, hcl2⟩ := C.closure R
  rw [eval_ListComp]
  refine wpAny_comprehension_free (use := none) rfl hs hcl C.kind C.names (wpAny_mono (hi.go S m vals R) (fun x s1 q => wpAny_mono q (fun it s2 q => ?_) fun _ _ f => f) fun _ _ f => f)
  obtain ⟨S2, W, P, rfl, R2, T2, I, P0, hW0⟩ := q
  refine comp_core (RR := fun acc L => compPost (model X.prog X.w) X.A (fun _ _ => False) none _ acc L) R R2 T2 I P0 hW0 htt C hcl1 hcl2 hturn hsz ?_
  intro D L s5 Bf R5 T5 rD ⟨m', hns⟩ hBL hML hx0 hSL hcl
  refine ⟨m', hns, fun h' hs' => ?_⟩
  have g : KB0 (fun b => b = L) s5 { s5 with heap := h' } := ⟨fun b o hb e => (hs'.2 b hb).trans e, rfl, rfl⟩
  have hWB : WBad (fun b => b = L) ⟨s5, S2.M, Bf⟩ := fun b hb => by
    cases hb
    obtain ⟨o, es, ep, e, hd, _⟩ := hns
    exact ⟨hBL, hML, o, e, fun v q => by rw [hd] at q; cases q⟩
  refine ⟨_, rfl, R5.kb0 g hWB fun b hb => by cases hb; exact hx0, T5.kb0 g fun b hb => by cases hb; exact hSL, ?_⟩
  rw [hr] at rD
  exact Rep.tr (fun b o hb e => ⟨fun q => hb q.1, g.keep b o (fun q => hb (by cases q; exact hBL)) e⟩) rD

/-- x = [.. for ..] -/
theorem ex_assign_comp (i : Nat) {x : Str} {elt t iter : Expr} {ifs : List Expr} {scope : Scope} {ds : List PyData} {rs : List (Option PyData)} {rr : List PyData} (tbl : List Str) (oc : Option Str) (σ0 : Sg) {tup : Bool}
    (hi : EvI X tup iter σ ds σ1) (C : CompOK X scope tbl oc σ1 σ0)
    (hturn : ∀ env' s₀ O, CSub X scope oc env' s₀ → CompR { X with s₀ := s₀, env := env', tbl := tbl, O := O } t ifs elt σ0 ds rs) (hr : rs.filterMap id = rr) (hsz : ds.length ≤ sizeLine) (htt : tup = true → isTupleDisplay t = true)
    (hx : X.tbl[i]? = some x) (hst : Sto X x) (hil : i < σ1.length) (hsw : swapsWith (.ListComp elt [⟨t, iter, ifs, 0⟩] scope p2) (some (.Name x p3)) pos.line X.env = pure true) (hs : ∀ x, foldedSetIterable iter X.env x = pure x := by intro _; rfl) :
    Ex X (.Assign [.Name x p3] (.ListComp elt [⟨t, iter, ifs, 0⟩] scope p2) pos) σ (.next (σ1.set i (some (.fro (.list rr))))) := .of fun S ⟨m, vals, R⟩ => by
  obtain ⟨cl, hcl, hcl1, hcl2⟩ := C.closure R
  rw [exec_Assign_Name_used _ _ _ _ hsw]
  refine wpAny_bind (wpAny_standAt (wpAny_bind ?_))
  show wpAny _ X.A (do let _ ← comprehension (.ListComp elt [⟨t, iter, ifs, 0⟩] scope p2) scope X.env _ (newList []) false (eval iter X.env) (some (assign (.Name x p3) X.env))) _ _ S.s
  refine wpAny_bind (wpAny_mono (wpAny_comprehension_free (use := some (assign (.Name x p3) X.env)) (Q := fun _ s' => ∃ S', S'.s = s' ∧ Tr S S' ∧ Rel X (σ1.set i (some (.fro (.list rr)))) S') rfl hs hcl C.kind C.names (wpAny_mono (hi.go S m vals R) (fun x s1 q => wpAny_mono q (fun it s2 q => ?_) fun _ _ f => f) fun _ _ f => f)) (fun _ s' q => wpAny_pure (wpAny_pure ?_)) fun _ _ f => f)
  · obtain ⟨S2, W, P, rfl, R2, T2, I, P0, hW0⟩ := q
    refine comp_core (RR := fun acc L => compPost (model X.prog X.w) X.A (fun _ _ => False) (some (assign (.Name _ p3) X.env)) _ acc L) R R2 T2 I P0 hW0 htt C hcl1 hcl2 hturn hsz ?_
    intro D L s5 Bf R5 T5 rD ⟨m', hns⟩ hBL hML hx0 hSL hcl
    rw [hr] at rD
    refine wpAny_assign_Name (wpAny_mono (store_var (sl := .fro (.list rr)) R5 hx hst hil rD fun xs h => by cases h) (fun _ s6 q => ?_) fun _ _ f => f)
    obtain ⟨S6, rfl, ⟨m6, vals6, R6⟩, T6⟩ := q
    obtain ⟨o, es, ep, e, hd, hrest⟩ := hns
    have e6 := T6.keep L o hML e
    refine ⟨m', ⟨o, es, ep, e6, hd, hrest⟩, fun h' hs' => ?_⟩
    have g : KB0 (fun b => b = L) S6.s { S6.s with heap := h' } := ⟨fun b o hb e => (hs'.2 b hb).trans e, rfl, rfl⟩
    have hWB : WBad (fun b => b = L) S6 := fun b hb => by
      cases hb
      exact ⟨T6.bkeep L o hBL hML e, fun q => (T6.msub L q).elim hML fun z => (by rw [e] at z; cases z), o, e6, fun v q => by rw [hd] at q; cases q⟩
    exact ⟨_, rfl, (T5.trans T6).kb0 g fun b hb => by cases hb; exact hSL, m6, vals6, R6.kb0 g hWB fun b hb => by cases hb; exact hx0⟩
  · obtain ⟨S', e, T', R'⟩ := q
    exact ⟨S', e, T', rfl, R'⟩
end Mine
open PySem PySem.Spec PySem.Calls PySem.W PyProof.Rows
set_option Elab.async false
set_option maxRecDepth 100000
set_option maxHeartbeats 1000000
set_option linter.unusedVariables false
namespace Mine
variable {X : Fx} {σ σ1 σ2 σ3 : Sg} {pos p2 p3 : Pos} {k : Nat}

theorem bindL_other {kd : Str → Option NameKind} {x : Str} : ∀ {bs : List (Str × Value)} {m : Str → Option Value}, x ∉ bs.map (·.1) → bindL kd bs m x = m x
  | [], _, _ => rfl
  | (n, v) :: r, m, h => by
    simp only [List.map_cons, List.mem_cons, not_or] at h
    unfold bindL
    rw [bindL_other h.2]
    split
    · simp [h.1]
    · rfl
theorem bindC_other {kd : Str → Option NameKind} {x : Str} : ∀ {bs : List (Str × Value)} {m : Str → Option Value}, x ∉ bs.map (·.1) → bindC kd bs m x = m x
  | [], _, _ => rfl
  | (n, v) :: r, m, h => by
    simp only [List.map_cons, List.mem_cons, not_or] at h
    unfold bindC
    rw [bindC_other h.2]
    split
    · rfl
    · simp [h.1]
theorem bindL_at {kd : Str → Option NameKind} {x : Str} {v : Value} (hk : kd x = some .local) : ∀ {bs : List (Str × Value)} {m : Str → Option Value}, (bs.map (·.1)).Nodup → (x, v) ∈ bs → bindL kd bs m x = some v
  | (n, u) :: r, m, hn, h => by
    simp only [List.map_cons, List.nodup_cons] at hn
    unfold bindL
    rcases List.mem_cons.mp h with e | h
    · cases e
      rw [bindL_other hn.1, if_pos hk]; simp
    · exact bindL_at hk hn.2 h
theorem bindC_at {kd : Str → Option NameKind} {x : Str} {v : Value} (hk : kd x = some .cell) : ∀ {bs : List (Str × Value)} {m : Str → Option Value}, (bs.map (·.1)).Nodup → (x, v) ∈ bs → bindC kd bs m x = some v
  | (n, u) :: r, m, hn, h => by
    simp only [List.map_cons, List.nodup_cons] at hn
    unfold bindC
    rcases List.mem_cons.mp h with e | h
    · cases e
      rw [bindC_other hn.1, if_neg (by rw [hk]; decide)]; simp
    · exact bindC_at hk hn.2 h

/-- what the frame of a call knows of itself -/
structure InF (sc : Scope) (env : Env) (s₀ : Shared) : Prop where
  scope : env.scope = sc
  cel : ∀ x, sc.names.lookup x = some .cell → ∃ c, env.cells.lookup x = some c ∧ s₀.heap.get? c = none
theorem InF.sto {sc : Scope} (h : InF sc X.env X.s₀) {x : Str} (hx : sc.names.lookup x = some .local) : Sto X x := .inl (by show X.env.scope.names.lookup x = _; rw [h.scope]; exact hx)
theorem InF.stoC {sc : Scope} (h : InF sc X.env X.s₀) {x : Str} (hx : sc.names.lookup x = some .cell) : Sto X x := .inr ⟨by show X.env.scope.names.lookup x = _; rw [h.scope]; exact hx, h.cel x hx⟩
theorem InF.kd {sc : Scope} {env : Env} {s₀ : Shared} (h : InF sc env s₀) {x : Str} {kd : NameKind} (hx : sc.names.lookup x = some kd) : env.kindOf x = some kd := by
  show env.scope.names.lookup x = _; rw [h.scope]; exact hx

theorem fn_intro {prog : Program} {w : World} {f : Addr} {args : List PyData} {res : PyData} {n : Nat} {o : Obj} {fd : FuncData} {body : List Stmt} (ps more : List Str)
    (ho : (Mine.heapK w.params).lookup f = some o) (hd : o.data = .func fd) (hbody : fd.body = .stmts body)
    (H : ∀ A s₀ env O, InF fd.scope env s₀ → Exs ⟨prog, w, A, n, s₀, env, ps ++ more, O⟩ body (args.map (fun d => some (.fro d)) ++ more.map (fun _ => none)) (.ret res))
    (hcd : codeIn (Mine.heapK w.params) fd.code fd.qualname = true) (hbind : ∀ vs, vs.length = args.length → bindArgs fd ⟨vs, []⟩ = pure (ps.zip vs)) (hpl : ps.length = args.length)
    (hclo : fd.closure = []) (hgl : fd.globals = mainGlobals) (hbl : fd.builtins = builtinsNs) (hk : fd.scope.kind = .function) (hco : fd.scope.isCoroutine = false) (hgen : fd.scope.isGenerator = false)
    (hnd : (ps ++ more).Nodup) (hgood : ∀ x ∈ ps ++ more, (x == ("__debug__" : Str)) = false ∧ (x == ("__classdict__" : Str)) = false)
    (hvar : ∀ x ∈ ps ++ more, fd.scope.names.lookup x = some .local ∨ fd.scope.names.lookup x = some .cell) : Fn prog w f args res (n + 1) := by
  refine .of ?_; intro A s B vs R hh hdep huni W hB hr hR
  have hvl : vs.length = args.length := hr.length
  refine codeAny_call_cells (fd := fd) (body := body) (binds := ps.zip vs) (by omega) (W.K _ _ ho) hd W.nolimit (codeRec_of W.K hcd) hbody (hbind vs hvl) hclo (fun x hx => ?_) (fun s₁ hC => ?_) hco hgen hk
  · have hm : x.1 ∈ ps ++ more := List.mem_append_left _ (List.of_mem_zip hx).1
    rcases hvar _ hm with q | q
    · exact .inl q
    · exact .inr ⟨q, cellsFrom_some _ _ _ (.inl q)⟩
  · generalize hE : callEnvC fd s.heap.objs.size f = env at hC ⊢
    have eL : env.locals = s.heap.objs.size := by rw [← hE]; rfl
    have eS : env.scope = fd.scope := by rw [← hE]; rfl
    have eK : ∀ x, env.kindOf x = fd.scope.names.lookup x := fun x => by rw [← hE]; rfl
    have eC : env.cells = cellsFrom (s.heap.objs.size + 1) fd.scope.names [] := by rw [← hE]; rfl
    have habove : ∀ x c, env.cells.lookup x = some c → s.heap.get? c = none := fun x c hc => new_of_ge (by
      have := hC.above x c (PySem.mem_of_lookup hc)
      rw [eL] at this
      exact Nat.le_of_lt this)
    have hinj : ∀ x y c, env.cells.lookup x = some c → env.cells.lookup y = some c → x = y := fun x y c h1 h2 => name_of_addr hC.apart (PySem.mem_of_lookup h1) (PySem.mem_of_lookup h2)
    let M : Bad := fun b => b = env.locals ∨ ∃ x, env.cells.lookup x = some b
    have hM0 : ∀ b, M b → s.heap.get? b = none := by
      rintro b (rfl | ⟨x, hx⟩)
      · rw [eL]; exact fresh_none _
      · exact habove x b hx
    let m := bindL env.kindOf (ps.zip vs) fun _ => none
    let cm := bindC env.kindOf (ps.zip vs) fun _ => none
    let X : Fx := ⟨prog, w, A.deeper env, n, s, env, ps ++ more, B⟩
    have hOK : X.OK := ⟨hh, by show A.depth + 1 + n < _; omega, by show A.units + 3 + 10 * n + 200 < _; omega, W, by show env.scope.kind = _; rw [eS]; exact hk, by show env.globals = _; rw [← hE]; exact hgl, by show env.builtins = _; rw [← hE]; exact hbl, hnd, hgood, hB, hinj⟩
    obtain ⟨hsame, hns, hkeep, hfresh⟩ := hC.toInCall
    have hzk : ((ps.zip vs).map (·.1)) = ps := by rw [List.map_fst_zip (by omega)]
    have hpn : ps.Nodup := (List.nodup_append.mp hnd).1
    let vals : Nat → Option Value := fun i => match (ps ++ more)[i]? with
      | none => none
      | some x => if fd.scope.names.lookup x = some .local then m x else cm x
    have hvals : ∀ i x, (ps ++ more)[i]? = some x → vals i = if fd.scope.names.lookup x = some .local then m x else cm x := fun i x hx => by simp only [vals, hx]
    have hrel : RelV X (args.map (fun d => some (.fro d)) ++ more.map (fun _ => none)) ⟨s₁, M, fun b => B b ∨ M b⟩ m vals := by
      refine ⟨hOK, hkeep, ?_, ?_, hns, .inl rfl, hM0, fun a ha => .inr ha, fun a ha => .inl ha, ?_, fun x c hc => ⟨.inr (.inr ⟨x, hc⟩), fun _ => .inr ⟨x, hc⟩⟩, fun x c hc => ⟨_, hC.cell x c hc⟩, fun i x hx => ?_, fun i => ?_, fun i j xs ys h1 => ?_⟩
      · obtain ⟨h, tk, rfl⟩ := hsame; rfl
      · obtain ⟨h, tk, rfl⟩ := hsame; rfl
      · rintro a (ha | rfl | ⟨x, hx⟩)
        · obtain ⟨o, e⟩ := Option.isSome_iff_exists.mp (hB a ha)
          exact Option.isSome_iff_exists.mpr ⟨o, hkeep a o e⟩
        · obtain ⟨o, es, ep, e, _⟩ := hns; exact Option.isSome_iff_exists.mpr ⟨o, e⟩
        · obtain ⟨o, e, _⟩ := hC.cell x a hx; exact Option.isSome_iff_exists.mpr ⟨o, e⟩
      · rcases hvar x (List.mem_of_getElem? hx) with q | q
        · exact .inl ⟨(eK x).trans q, by rw [hvals i x hx, if_pos q]⟩
        · obtain ⟨c, hc⟩ := Option.isSome_iff_exists.mp (cellsFrom_some _ (s.heap.objs.size + 1) [] (.inl q))
          rw [← eC] at hc
          refine .inr ⟨c, .inl ((eK x).trans q), hc, ?_⟩
          rw [hvals i x hx, if_neg (by rw [q]; decide)]
          exact hC.cell x c hc
      · by_cases hi : i < args.length
        · have e1 : Sg.at (args.map (fun d => some (Sl.fro d)) ++ more.map (fun _ => none)) i = some (.fro args[i]) := by
            unfold Sg.at
            rw [List.getElem?_append_left (by simpa using hi)]
            simp [hi]
          rw [e1]
          have hi2 : i < ps.length := by omega
          obtain ⟨v, hv, rv⟩ := hr.get (i := i) (d := args[i]) (by simp [hi])
          have hx : (ps ++ more)[i]? = some ps[i] := by rw [List.getElem?_append_left hi2]; simp [hi2]
          have hmem : (ps[i], v) ∈ ps.zip vs := by
            have : (ps.zip vs)[i]? = some (ps[i], v) := by rw [List.getElem?_zip_eq_some]; exact ⟨by simp [hi2], hv⟩
            exact List.mem_of_getElem? this
          refine ⟨v, ?_, Rep.tr (fun b o hb e => ⟨fun q => q.elim hb fun q => (by rw [hM0 b q] at e; cases e), hkeep b o e⟩) rv⟩
          rw [hvals i _ hx]
          split
          · rename_i q
            exact bindL_at ((eK _).trans q) (by rw [hzk]; exact hpn) hmem
          · rename_i q
            exact bindC_at ((eK _).trans ((hvar _ (List.mem_of_getElem? hx)).resolve_left q)) (by rw [hzk]; exact hpn) hmem
        · have e1 : Sg.at (args.map (fun d => some (Sl.fro d)) ++ more.map (fun _ => none)) i = none := by
            unfold Sg.at
            rw [List.getElem?_append_right (by simpa using hi)]
            rw [List.getElem?_map]
            cases more[i - (args.map (fun d => some (Sl.fro d))).length]? <;> rfl
          rw [e1]; trivial
      · exfalso
        unfold Sg.at at h1
        by_cases hi : i < args.length
        · rw [List.getElem?_append_left (by simpa using hi)] at h1
          simp [hi] at h1
        · rw [List.getElem?_append_right (by simpa using hi), List.getElem?_map] at h1
          cases hq : more[i - (args.map (fun d => some (Sl.fro d))).length]? <;> rw [hq] at h1 <;> cases h1
    refine wpAny_mono (noE ((H (A.deeper env) s env B ⟨eS, fun x hx => ?_⟩).go ⟨s₁, M, fun b => B b ∨ M b⟩ ⟨m, vals, hrel⟩)) (fun fl s' q => ?_) fun _ _ f => f
    · obtain ⟨c, hc⟩ := Option.isSome_iff_exists.mp (cellsFrom_some _ (s.heap.objs.size + 1) [] (.inl hx))
      rw [← eC] at hc
      exact ⟨c, hc, habove x c hc⟩
    · obtain ⟨S', rfl, T', v, σ', rfl, ⟨m', vals', R'⟩, rv⟩ := q
      exact hR v S'.s ⟨R'.keep, R'.os, R'.gens⟩ (Rep.tr (fun b o hb e => ⟨fun q => hb (R'.out b q), e⟩) rv)

noncomputable def kindsOK (names : List (Str × NameKind)) (xs : List Str) : Bool := xs.all fun x => names.lookup x == some .local || names.lookup x == some .cell
noncomputable def goodOK (xs : List Str) : Bool := xs.all fun x => !(x == ("__debug__" : Str)) && !(x == ("__classdict__" : Str))
noncomputable def distinct : List Str → Bool
  | [] => true
  | x :: r => !r.contains x && distinct r
theorem distinct_nodup : ∀ {l : List Str}, distinct l = true → l.Nodup
  | [], _ => .nil
  | x :: r, h => by
    simp only [distinct, Bool.and_eq_true, Bool.not_eq_true'] at h
    refine List.nodup_cons.mpr ⟨fun q => ?_, distinct_nodup h.2⟩
    have := List.contains_iff_mem.mpr q
    rw [h.1] at this
    cases this
theorem goodOK_of {xs : List Str} (h : goodOK xs = true) : ∀ x ∈ xs, (x == ("__debug__" : Str)) = false ∧ (x == ("__classdict__" : Str)) = false := fun x hx => by
  have := List.all_eq_true.mp h x hx
  simpa using this
noncomputable def isFn : ScopeKind → Bool
  | .function => true
  | _ => false
noncomputable def staticOK (K : Frag) (fd : FuncData) (ps more : List Str) : Bool :=
  codeIn K fd.code fd.qualname && fd.closure.isEmpty && decide (fd.globals = mainGlobals) && decide (fd.builtins = builtinsNs) && isFn fd.scope.kind && !fd.scope.isCoroutine && !fd.scope.isGenerator &&
  distinct (ps ++ more) && goodOK (ps ++ more) && kindsOK fd.scope.names (ps ++ more)

theorem fn_def {prog : Program} {w : World} {f : Addr} {args : List PyData} {res : PyData} {n : Nat} {o : Obj} {fd : FuncData} {body : List Stmt} {kd : ScopeKind} {nm : List (Str × NameKind)} {ig ic : Bool} {mo : List (Str × Const)} (ps more : List Str)
    (ho : (Mine.heapK w.params).lookup f = some o) (hd : o.data = .func fd) (hbody : fd.body = .stmts body)
    (hsc : fd.scope = ⟨kd, nm, ig, ic, mo⟩) (hst : staticOK (Mine.heapK w.params) fd ps more = true) (hbind : ∀ vs, vs.length = args.length → bindArgs fd ⟨vs, []⟩ = pure (ps.zip vs)) (hpl : ps.length = args.length)
    (H : ∀ A s₀ env O, InF ⟨kd, nm, ig, ic, mo⟩ env s₀ → Exs ⟨prog, w, A, n, s₀, env, ps ++ more, O⟩ body (args.map (fun d => some (.fro d)) ++ more.map (fun _ => none)) (.ret res)) : Fn prog w f args res (n + 1) := by
  rw [← hsc] at H
  simp only [staticOK, Bool.and_eq_true, Bool.not_eq_true', decide_eq_true_eq] at hst
  obtain ⟨⟨⟨⟨⟨⟨⟨⟨⟨h1, h2⟩, h3⟩, h4⟩, h5⟩, h6⟩, h7⟩, h8⟩, h9⟩, h10⟩ := hst
  refine fn_intro ps more ho hd hbody H h1 hbind hpl (by simpa using h2) h3 h4 (by cases e : fd.scope.kind <;> rw [e] at h5 <;> first | rfl | cases h5) h6 h7 (distinct_nodup h8) (goodOK_of h9) fun x hx => ?_
  have := List.all_eq_true.mp h10 x hx
  simpa using this

theorem len1 {α : Type} {vs : List α} (h : vs.length = 1) : ∃ a, vs = [a] := by
  obtain ⟨a, t, rfl⟩ := List.exists_cons_of_length_eq_add_one h
  obtain rfl := List.eq_nil_of_length_eq_zero (Nat.succ.inj h)
  exact ⟨a, rfl⟩
theorem len2 {α : Type} {vs : List α} (h : vs.length = 2) : ∃ a b, vs = [a, b] := by
  obtain ⟨a, t, rfl⟩ := List.exists_cons_of_length_eq_add_one h
  obtain ⟨b, rfl⟩ := len1 (Nat.succ.inj h)
  exact ⟨a, b, rfl⟩
theorem len3 {α : Type} {vs : List α} (h : vs.length = 3) : ∃ a b c, vs = [a, b, c] := by
  obtain ⟨a, t, rfl⟩ := List.exists_cons_of_length_eq_add_one h
  obtain ⟨b, c, rfl⟩ := len2 (Nat.succ.inj h)
  exact ⟨a, b, c, rfl⟩
theorem len4 {α : Type} {vs : List α} (h : vs.length = 4) : ∃ a b c d, vs = [a, b, c, d] := by
  obtain ⟨a, t, rfl⟩ := List.exists_cons_of_length_eq_add_one h
  obtain ⟨b, c, d, rfl⟩ := len3 (Nat.succ.inj h)
  exact ⟨a, b, c, d, rfl⟩
theorem len5 {α : Type} {vs : List α} (h : vs.length = 5) : ∃ a b c d e, vs = [a, b, c, d, e] := by
  obtain ⟨a, t, rfl⟩ := List.exists_cons_of_length_eq_add_one h
  obtain ⟨b, c, d, e, rfl⟩ := len4 (Nat.succ.inj h)
  exact ⟨a, b, c, d, e, rfl⟩
end Mine
open PySem PySem.Spec PySem.Calls PySem.W PyProof.Rows
set_option Elab.async false
set_option maxRecDepth 100000
set_option maxHeartbeats 1000000
set_option linter.unusedVariables false
namespace Mine
variable {X : Fx} {σ σ1 σ2 σ3 : Sg} {pos p2 p3 : Pos} {k : Nat}

/-- a slot forgotten -/
noncomputable def Wk (σ σ' : Sg) : Prop := ∀ i, σ'.at i = none ∨ σ'.at i = σ.at i
theorem Wk.refl (σ : Sg) : Wk σ σ := fun _ => .inr rfl
theorem wk_nil : Wk [] [] := Wk.refl _
theorem at_zero {o : Option Sl} {σ : Sg} : Sg.at (o :: σ) 0 = o := by simp [Sg.at]
theorem at_succ {o : Option Sl} {σ : Sg} {i : Nat} : Sg.at (o :: σ) (i + 1) = Sg.at σ i := by simp [Sg.at]
theorem wk_keep {o : Option Sl} (h : Wk σ σ1) : Wk (o :: σ) (o :: σ1) := fun i => by
  cases i with
  | zero => exact .inr (by rw [at_zero, at_zero])
  | succ i => rw [at_succ, at_succ]; exact h i
theorem wk_drop {o : Option Sl} (h : Wk σ σ1) : Wk (o :: σ) (none :: σ1) := fun i => by
  cases i with
  | zero => exact .inl (by rw [at_zero])
  | succ i => rw [at_succ, at_succ]; exact h i
theorem RelV.wk {S : St} {m : Str → Option Value} {vals : Nat → Option Value} (r : RelV X σ S m vals) (h : Wk σ σ1) : RelV X σ1 S m vals where
  ok := r.ok
  keep := r.keep
  os := r.os
  gens := r.gens
  ns := r.ns
  mL := r.mL
  mnew := r.mnew
  sub := r.sub
  out := r.out
  ball := r.ball
  mcell := r.mcell
  acell := r.acell
  var := r.var
  slot := fun i => by
    rcases h i with q | q
    · rw [q]; trivial
    · rw [q]; exact r.slot i
  apart := fun i j xs ys h1 h2 => by
    rcases h i with q | q <;> rcases h j with q' | q' <;> first | (rw [q] at h1; cases h1; done) | (rw [q'] at h2; cases h2; done) | skip
    rw [q] at h1; rw [q'] at h2
    exact r.apart i j xs ys h1 h2
theorem Rel.wk {S : St} (r : Rel X σ S) (h : Wk σ σ1) : Rel X σ1 S := let ⟨m, vals, r⟩ := r; ⟨m, vals, r.wk h⟩

theorem exs_wk {b : List Stmt} {f : Fl} (h : Wk σ σ1) (q : Exs X b σ1 f) : Exs X b σ f := .of fun S R => q.go S (R.wk h)
theorem exs_wk' {b : List Stmt} (q : Exs X b σ (.next σ1)) (h : Wk σ1 σ2) : Exs X b σ (.next σ2) := .of fun S R =>
  wpAny_mono (q.go S R) (fun fl s' ⟨S', e, T, e', R'⟩ => ⟨S', e, T, e', R'.wk h⟩) fun _ _ f => f
theorem exs_wkc {b : List Stmt} (q : Exs X b σ (.cont σ1)) (h : Wk σ1 σ2) : Exs X b σ (.cont σ2) := .of fun S R =>
  wpAny_mono (q.go S R) (fun fl s' ⟨S', e, T, e', R'⟩ => ⟨S', e, T, e', R'.wk h⟩) fun _ _ f => f
theorem as_wk {t : Expr} {d : PyData} (h : Wk σ σ1) (q : As X t σ1 d σ2) : As X t σ d σ2 := .of fun S v R => q.go S v (R.wk h)
theorem tt_wk {t : Expr} {b : Bool} (q : Tt X t σ b σ1) (h : Wk σ1 σ2) : Tt X t σ b σ2 := .of fun S m vals R =>
  wpAny_mono (q.go S m vals R) (fun fl s' ⟨S', e, R', T⟩ => ⟨S', e, R'.wk h, T⟩) fun _ _ f => f
theorem ev_wk {e : Expr} {d : PyData} (q : Ev X e σ d σ1) (h : Wk σ1 σ2) : Ev X e σ d σ2 := .of fun S m vals R =>
  wpAny_mono (q.go S m vals R) (fun fl s' ⟨S', e, R', T⟩ => ⟨S', e, R'.wk h, T⟩) fun _ _ f => f
theorem exs_cons_wk {st : Stmt} {sts : List Stmt} {f : Fl} (h1 : Ex X st σ (.next σ1)) (h : Wk σ1 σ2) (h2 : Exs X sts σ2 f) : Exs X (st :: sts) σ f := exs_cons h1 (exs_wk h h2)

inductive Turn (X : Fx) (t : Expr) (body : List Stmt) (σ : Sg) (d : PyData) (σ' : Sg) : Prop
  | next {s1 s2 : Sg} : As X t σ d s1 → Exs X body s1 (.next s2) → Wk s2 σ' → Turn X t body σ d σ'
  | cont {s1 s2 : Sg} : As X t σ d s1 → Exs X body s1 (.cont s2) → Wk s2 σ' → Turn X t body σ d σ'
theorem for_inv {t : Expr} {body : List Stmt} (I : Nat → Sg) : ∀ (ds : List PyData) (k : Nat), (∀ i d, ds[i]? = some d → Turn X t body (I (k + i)) d (I (k + i + 1))) →
    ForR X t body ds (I k) (I (k + ds.length))
  | [], k, _ => .nil
  | d :: ds, k, h => by
    have := for_inv (t := t) (body := body) I ds (k + 1) fun i d' hd => by
      have := h (i + 1) d' (by simpa using hd)
      rwa [show k + (i + 1) = k + 1 + i by omega] at this
    rw [show k + 1 + ds.length = k + (d :: ds).length by simp; omega] at this
    rcases h 0 d rfl with ⟨h1, h2, h3⟩ | ⟨h1, h2, h3⟩
    · exact .cons h1 (.inl (exs_wk' h2 h3)) this
    · exact .cons h1 (.inr (exs_wkc h2 h3)) this
inductive Turn2 (X : Fx) (t : Expr) (body : List Stmt) (σ σ' : Sg) : Prop
  | mk {s1 s2 : Sg} : Tt X t σ true s1 → Exs X body s1 (.next s2) → Wk s2 σ' → Turn2 X t body σ σ'
theorem wh_inv {t : Expr} {body : List Stmt} (I : Nat → Sg) : ∀ (n k : Nat), (∀ i, i < n → Turn2 X t body (I (k + i)) (I (k + i + 1))) → Tt X t (I (k + n)) false σ1 → WhR X t body n (I k) σ1
  | 0, k, _, h => .done h
  | n + 1, k, h, hd => by
    have := wh_inv (t := t) (body := body) I n (k + 1) (fun i hi => by
      have := h (i + 1) (by omega)
      rwa [show k + (i + 1) = k + 1 + i by omega] at this) (by rwa [show k + (n + 1) = k + 1 + n by omega] at hd)
    rcases h 0 (by omega) with ⟨h1, h2, h3⟩
    exact .step h1 (exs_wk' h2 h3) this
inductive TurnC (X : Fx) (t : Expr) (ifs : List Expr) (elt : Expr) (σ0 : Sg) (d : PyData) : Option PyData → Prop
  | take {σa σb σc r} : As X t σ0 d σa → Tts X ifs σa true σb → Ev X elt σb r σc → TurnC X t ifs elt σ0 d (some r)
  | skip {σa σb} : As X t σ0 d σa → Tts X ifs σa false σb → TurnC X t ifs elt σ0 d none
theorem turnC_one {t : Expr} {elt : Expr} {σ0 σa σb σc : Sg} {d r : PyData} {c : Expr} {b : Bool} (h1 : As X t σ0 d σa) (h2 : Tt X c σa b σb) (h3 : Ev X elt σb r σc) : TurnC X t [c] elt σ0 d (if b = true then some r else none) := by
  cases b
  · exact .skip h1 (.one h2)
  · exact .take h1 (.one h2) h3
/-- a comprehension, item by item -/
theorem comp_inv {t elt : Expr} {ifs : List Expr} {σ0 : Sg} : ∀ (ds : List PyData) (rs : List (Option PyData)), ds.length = rs.length → (∀ (i : Nat) d r, ds[i]? = some d → rs[i]? = some r → TurnC X t ifs elt σ0 d r) → CompR X t ifs elt σ0 ds rs
  | [], [], _, _ => .nil
  | [], _ :: _, h, _ => by cases h
  | _ :: _, [], h, _ => by cases h
  | d :: ds, r :: rs, hl, h => by
    have := comp_inv (t := t) (elt := elt) (ifs := ifs) (σ0 := σ0) ds rs (by simpa using hl) fun i d' r' hd hr => h (i + 1) d' r' (by simpa using hd) (by simpa using hr)
    cases h 0 d r rfl rfl with
    | take h1 h2 h3 => exact .take h1 h2 h3 this
    | skip h1 h2 => exact .skip h1 h2 this
/-- a comprehension over a mapped list -/
theorem comp_of {α : Type} {t elt : Expr} {ifs : List Expr} {σ0 : Sg} {g : α → PyData} {rf : α → Option PyData} (xs : List α) (h : ∀ x ∈ xs, TurnC X t ifs elt σ0 (g x) (rf x)) : CompR X t ifs elt σ0 (xs.map g) (xs.map rf) := by
  refine comp_inv _ _ (by simp) fun i d r hd hr => ?_
  rw [List.getElem?_map] at hd hr
  cases hx : xs[i]? with
  | none => rw [hx] at hd; cases hd
  | some x =>
    rw [hx] at hd hr
    cases hd; cases hr
    exact h x (List.mem_of_getElem? hx)

theorem ev_ifexp' {t e1 e2 : Expr} {b : Bool} {d1 d2 : PyData} (ht : Tt X t σ b σ1) (h1 : Ev X e1 σ1 d1 σ2) (h2 : Ev X e2 σ1 d2 σ2) : Ev X (.IfExp t e1 e2 pos) σ (if b = true then d1 else d2) σ2 := by
  refine ev_ifexp ht (fun h => ?_) fun h => ?_
  · rw [if_pos h]; exact h1
  · rw [if_neg (by rw [h]; decide)]; exact h2
end Mine
open PySem PySem.Spec PySem.Calls PySem.W PyProof.Rows
set_option Elab.async false
set_option maxRecDepth 100000
set_option maxHeartbeats 1000000
set_option linter.unusedVariables false
namespace Mine
variable {prog : Program} {w : World}

noncomputable def figs : Int → List Int → List Int
  | _, [] => []
  | n, b :: r => n.fmod b :: figs (n.fdiv b) r
noncomputable def figN (n : Int) (bs : List Int) (i : Nat) : Int := (bs.take i).foldl (fun n b => n.fdiv b) n
theorem figN_succ {n : Int} {bs : List Int} {i : Nat} {b : Int} (h : bs[i]? = some b) : figN n bs (i + 1) = (figN n bs i).fdiv b := by
  unfold figN
  have := List.take_succ (l := bs) (i := i)
  rw [this, h]
  simp
theorem figs_take {bs : List Int} : ∀ {n : Int} {i : Nat} {b : Int}, bs[i]? = some b → (figs n bs).take (i + 1) = (figs n bs).take i ++ [(figN n bs i).fmod b] := by
  induction bs with
  | nil => intro n i b h; simp at h
  | cons c bs ih =>
    intro n i b h
    cases i with
    | zero => simp at h; subst h; simp [figs, figN]
    | succ i =>
      have e : figN n (c :: bs) (i + 1) = figN (n.fdiv c) bs i := rfl
      rw [e, figs, List.take_succ_cons, List.take_succ_cons, ih (by simpa using h)]
      rfl
theorem figs_length : ∀ {bs : List Int} {n : Int}, (figs n bs).length = bs.length
  | [], _ => rfl
  | b :: bs, n => by simp [figs, figs_length]

theorem fn_figures {n : Int} {bs : List Int} (hb : ∀ b ∈ bs, 0 < b ∧ b < 100) (hl : bs.length < 100) : Fn prog w 114 [.int n, .list (bs.map .int)] (.list ((figs n bs).map .int)) 1 := by
  refine fn_def ["number", "bases"] ["figures", "base"] rfl rfl rfl rfl (by kernel_rfl) (fun vs h => ?_) rfl (fun A s₀ env O hF => ?_)
  · obtain ⟨a, b, rfl⟩ := len2 h; rfl
  · refine exs_cons (ex_assign_own 2 (evf_list evs_nil (by decide)) rfl (hF.sto (by kernel_rfl)) (by exact Nat.le_of_ble_eq_true rfl)) ?_
    refine exs_cons (ex_for (evi_list (ev_name 1 rfl rfl)) (for_inv (fun i => [some (.fro (.int (figN n bs i))), some (.fro (.list (bs.map .int))), some (.own (((figs n bs).take i).map .int)), none]) (bs.map .int) 0 fun i d hd => ?_) (by intro h; cases h)) ?_
    · rw [List.getElem?_map] at hd
      cases hbi : bs[i]? with
      | none => rw [hbi] at hd; cases hd
      | some b =>
        rw [hbi] at hd
        cases hd
        have hbb := hb b (List.mem_of_getElem? hbi)
        rw [Nat.zero_add]
        apply Turn.next
        · exact as_name 3 rfl (hF.sto (by kernel_rfl)) (by exact Nat.le_of_ble_eq_true rfl)
        · refine exs_cons (ex_expr (ev_append 2 rfl rfl (ev_bin (ev_name 0 rfl rfl) (ev_name 3 rfl rfl) (b_mod (by omega) (by omega))) rfl ?_ rfl)) ?_
          · have : sizeLine > 1000 := by decide
            have h2 := (List.getElem?_eq_some_iff.mp hbi).1
            simp; omega
          · refine exs_cons (ex_assign 0 (ev_bin (ev_name 0 rfl rfl) (ev_name 3 rfl rfl) (b_floordiv (by omega) (by omega))) rfl (hF.sto (by kernel_rfl)) (by exact Nat.le_of_ble_eq_true rfl)) exs_nil
        · rw [figN_succ hbi, figs_take hbi, List.map_append]
          exact wk_keep (wk_keep (wk_keep (wk_drop wk_nil)))
    · rw [List.length_map, Nat.zero_add]
      rw [List.take_of_length_le (by rw [figs_length]; exact Nat.le_refl _)]
      exact exs_ret (ex_return (ev_name_own 2 rfl rfl))
end Mine
open PySem PySem.Spec PySem.Calls PySem.W PyProof.Rows
set_option Elab.async false
set_option maxRecDepth 100000
set_option maxHeartbeats 1000000
set_option linter.unusedVariables false
namespace Mine
variable {X : Fx} {σ σ1 σ2 σ3 : Sg} {pos p2 p3 : Pos} {k : Nat}

noncomputable def notDebug (x : Str) : Bool := !(x == ("__debug__" : Str)) && !(x == ("__name__" : Str))
noncomputable def glbInt (K : Frag) (x : Str) : Option Int := match nsIn K mainGlobals x with
  | some (some (.int i _)) => some i
  | _ => none
noncomputable def glbRef (K : Frag) (x : Str) : Option Addr := match nsIn K mainGlobals x with
  | some (some (.ref a)) => some a
  | _ => none
noncomputable def glbStr (K : Frag) (x : Str) : Option Str := match nsIn K mainGlobals x with
  | some (some (.str y _)) => some y
  | _ => none
noncomputable def bltChk (K : Frag) (x : Str) : Bool := match nsIn K mainGlobals x with
  | some none => true
  | _ => false
theorem ev_gint {x : Str} {i : Int} (hk : X.env.kindOf x = some .globalImplicit) (hd : notDebug x = true) (h : glbInt (KK X) x = some i) : Ev X (.Name x pos) σ (.int i) σ := by
  unfold glbInt at h
  split at h
  · rename_i j t e
    cases h
    simp only [notDebug, Bool.and_eq_true, Bool.not_eq_true'] at hd
    exact ev_glob_int (t := t) ⟨hk, hd.1, e⟩
  · cases h
theorem ev_gstr {x y : Str} (hk : X.env.kindOf x = some .globalImplicit) (hd : notDebug x = true) (h : glbStr (KK X) x = some y) : Ev X (.Name x pos) σ (.str y) σ := by
  unfold glbStr at h
  split at h
  · rename_i j t e
    cases h
    simp only [notDebug, Bool.and_eq_true, Bool.not_eq_true'] at hd
    exact ev_glob_str (t := t) ⟨hk, hd.1, e⟩
  · cases h
theorem glb_ref {x : Str} {a : Addr} (hk : X.env.kindOf x = some .globalImplicit) (hd : notDebug x = true) (h : glbRef (KK X) x = some a) : Glb X x (.ref a) := by
  unfold glbRef at h
  split at h
  · rename_i e
    cases h
    simp only [notDebug, Bool.and_eq_true, Bool.not_eq_true'] at hd
    exact ⟨hk, hd.1, e⟩
  · cases h
theorem blt_of {x : Str} {v : Value} (hk : X.env.kindOf x = some .globalImplicit) (hd : notDebug x = true) (h : bltChk (KK X) x = true) (hb : bootBuiltins x = some v) : Blt X x v := by
  unfold bltChk at h
  split at h
  · rename_i e
    simp only [notDebug, Bool.and_eq_true, Bool.not_eq_true'] at hd
    exact ⟨hk, hd.1, e, hb, by simpa using hd.2⟩
  · cases h
theorem ev_fn {x : Str} {f : Addr} {args : List Expr} {ds : List PyData} {d : PyData} {n : Nat} (hk : X.env.kindOf x = some .globalImplicit) (ha : Evs X args σ ds σ1) (hf : Fn X.prog X.w f ds d n) (hn' : n ≤ X.n) (hd : notDebug x = true) (h : glbRef (KK X) x = some f) (hc : fnIn (KK X) f = true) (hn : args.all (fun e => !isStarred e) = true := by rfl) :
    Ev X (.Call (.Name x p2) args [] pos) σ d σ1 := by
  refine ev_call (glb_ref hk hd h) ha hf hn' ?_ hn
  unfold fnIn at hc
  split at hc
  · rename_i e; exact ⟨_, _, e, rfl⟩
  · cases hc

theorem Fn.le {prog : Program} {w : World} {f : Addr} {ds : List PyData} {d : PyData} {n m : Nat} (h : Fn prog w f ds d n) (hm : n ≤ m) : Fn prog w f ds d m := .of fun A s B vs R h1 h2 h3 => h.go A s B vs R h1 (by omega) (by omega)

/-- texts by their signs -/
noncomputable def S (l : List Nat) : Str := ⟨l.toArray⟩
theorem S_append (l m : List Nat) : S l ++ S m = S (l ++ m) := by
  show (⟨l.toArray ++ m.toArray⟩ : Str) = _
  simp [S]
theorem S_length (l : List Nat) : (S l).length = l.length := by simp [S, Str.length]
theorem S_inj {l m : List Nat} : S l = S m ↔ l = m := by
  constructor
  · intro h; simpa [S] using h
  · rintro rfl; rfl
theorem S_beq (l m : List Nat) : (S l == S m) = (l == m) := by
  rw [Bool.eq_iff_iff, beq_iff_eq, beq_iff_eq, S_inj]
theorem ev_strL {x : Str} {l : List Nat} (h : x = S l) : Ev X (.Constant (.str x) k pos) σ (.str (S l)) σ := h ▸ ev_str
theorem b_addsL {l m : List Nat} (hs : l.length + m.length ≤ 10000) : BinOK X .Add (.str (S l)) (.str (S m)) (.str (S (l ++ m))) := by
  rw [← S_append]
  refine b_adds ?_
  have : (10000 : Nat) ≤ sizeLine := by decide
  rw [S_length, S_length]; omega
theorem S_mul {c n : Nat} : Txt.mul (S [c]) n = S (List.replicate n c) := by
  unfold Txt.mul
  match n with
  | 0 => rfl
  | 1 => rfl
  | n + 2 =>
    have h1 : ¬ (((n + 2 : Nat) : Int) < 1) := by omega
    have h2 : ((((n + 2 : Nat) : Int) == 1) || ((S [c]).length == 0)) = false := by
      rw [S_length]
      simp; omega
    rw [if_neg h1, if_neg (by rw [h2]; decide)]
    have main : ∀ (m : Nat) (acc : Array Nat), (List.replicate m (S [c]).cps).foldl (· ++ ·) acc = acc ++ (List.replicate m c).toArray := by
      intro m
      induction m with
      | zero => intro acc; simp
      | succ m ih =>
        intro acc
        rw [List.replicate_succ, List.foldl_cons, ih, List.replicate_succ]
        apply Array.ext'
        simp [S]
    show (⟨_⟩ : Str) = ⟨_⟩
    rw [main, show (((n + 2 : Nat) : Int)).toNat = n + 2 by omega]
    simp
theorem b_mulsL {c n : Nat} {i : Int} (hi : i = n) (hn : n < 1000) : BinOK X .Mult (.str (S [c])) (.int i) (.str (S (List.replicate n c))) := by
  subst hi
  rw [← S_mul]
  refine b_muls ⟨?_, fun h1 h2 => ?_, fun h1 h2 => ?_⟩
  · simp; omega
  · rw [S_length]
    have h3 : (1 : Int) ≤ (2 ^ 63 - 1) / (n : Int) := by
      apply Int.le_ediv_of_mul_le
      · omega
      · omega
    simp only [List.length_cons, List.length_nil]
    omega
  · rw [S_length]
    have : ((n : Int)).toNat = n := by simp
    rw [this]
    simp only [List.length_cons, List.length_nil]
    unfold PySem.Builtin.Str.tooLong
    have : (10000 : Nat) ≤ sizeLine := by decide
    simp; omega

noncomputable def bi (b : Bool) : Int := cond b 1 0
theorem bi_nat (b : Bool) : bi b = (b.toNat : Int) := by cases b <;> rfl
theorem bi_nn (b : Bool) : 0 ≤ bi b := by cases b <;> decide
theorem bi_lt (b : Bool) : bi b < 2 ^ 63 := by cases b <;> decide
theorem bi_le (b : Bool) : bi b ≤ 1 := by cases b <;> decide

structure Fm where
  turn : Bool
  sign : Fin 8
  first : Bool
  other : Fin 8
  second : Bool
  mark : Bool
structure Bx where
  far : Bool
  turn : Bool
  sign : Fin 8
  dots : Fin 4
  back : Bool
  mark : Bool
  about : Bool
noncomputable def fin {n : Nat} (s : Fin n) : Int := (s.val : Int)
theorem fin_nn {n : Nat} (s : Fin n) : 0 ≤ fin s := by unfold fin; omega
theorem fin_lt {n : Nat} (s : Fin n) (h : n ≤ 1000) : fin s < 2 ^ 63 := by unfold fin; have := s.isLt; omega
noncomputable def Fm.d (f : Fm) : PyData := .list [.int (bi f.turn), .int (fin f.sign), .int (bi f.first), .int (fin f.other), .int (bi f.second), .int (bi f.mark)]
noncomputable def Bx.d (b : Bx) : PyData := .list [.int (bi b.far), .int (bi b.turn), .int (fin b.sign), .int (fin b.dots), .int (bi b.back), .int (bi b.mark), .int (bi b.about)]
structure Law where
  f0 : Fm
  f1 : Fm
  b0 : Bx
  b1 : Bx
noncomputable def Law.fm (L : Law) (w : Bool) : Fm := if w then L.f1 else L.f0
noncomputable def Law.bx (L : Law) (i : Bool) : Bx := if i then L.b1 else L.b0
noncomputable def Law.fd (L : Law) : PyData := .list [L.f0.d, L.f1.d]
noncomputable def Law.bd (L : Law) : PyData := .list [L.b0.d, L.b1.d]
theorem fd_at (L : Law) (w : Bool) : [L.f0.d, L.f1.d][(bi w).toNat]? = some (L.fm w).d := by cases w <;> rfl
theorem bd_at (L : Law) (w : Bool) : [L.b0.d, L.b1.d][(bi w).toNat]? = some (L.bx w).d := by cases w <;> rfl
end Mine
open PySem PySem.Spec PySem.Calls PySem.W PyProof.Rows
set_option Elab.async false
set_option maxRecDepth 100000
set_option maxHeartbeats 1000000
set_option linter.unusedVariables false
namespace Mine
variable {prog : Program} {w : World}

theorem fn_term {x : Int} : Fn prog w 93 [.int x] (.bool (decide (x < 256))) 1 := by
  refine fn_def ["x"] [] rfl rfl rfl rfl (by kernel_rfl) (fun vs h => ?_) rfl (fun A s₀ env O hF => ?_)
  · obtain ⟨a, rfl⟩ := len1 h; rfl
  · exact exs_ret (ex_return (ev_cmp (ev_name 0 rfl rfl) (ev_gint (hF.kd (by kernel_rfl)) (by kernel_rfl) (by kernel_rfl)) c_lt))
theorem fn_nont {x : Int} : Fn prog w 100 [.int x] (.bool (decide (256 ≤ x))) 1 := by
  refine fn_def ["x"] [] rfl rfl rfl rfl (by kernel_rfl) (fun vs h => ?_) rfl (fun A s₀ env O hF => ?_)
  · obtain ⟨a, rfl⟩ := len1 h; rfl
  · exact exs_ret (ex_return (ev_cmp (ev_name 0 rfl rfl) (ev_gint (hF.kd (by kernel_rfl)) (by kernel_rfl) (by kernel_rfl)) c_ge))
theorem fn_eof {x : Int} : Fn prog w 107 [.int x] (.bool (x == 0)) 1 := by
  refine fn_def ["x"] [] rfl rfl rfl rfl (by kernel_rfl) (fun vs h => ?_) rfl (fun A s₀ env O hF => ?_)
  · obtain ⟨a, rfl⟩ := len1 h; rfl
  · exact exs_ret (ex_return (ev_cmp (ev_name 0 rfl rfl) (ev_gint (hF.kd (by kernel_rfl)) (by kernel_rfl) (by kernel_rfl)) c_eqi))

noncomputable def twoB (s : Fin 8) (a b : Bool) : Bool := match s with
  | 0 => a && b
  | 1 => a || b
  | 2 => a ^^ b
  | 3 => !a && b
  | 4 => a && !b
  | 5 => a || !b
  | 6 => a ^^ b
  | 7 => !a || b
theorem two_at : ∀ (s : Fin 8) (a b : Bool), [PyData.int (Builtin.bitAnd (bi a) (bi b)), .int (Builtin.bitOr (bi a) (bi b)), .int (Builtin.bitXor (bi a) (bi b)), .int (Builtin.bitAnd (1 - bi a) (bi b)), .int (Builtin.bitAnd (bi a) (1 - bi b)), .int (Builtin.bitOr (bi a) (1 - bi b)), .int (Builtin.bitXor (bi a) (bi b)), .int (Builtin.bitOr (1 - bi a) (bi b))][(fin s).toNat]? = some (.int (bi (twoB s a b)))
  | 0, a, b | 1, a, b | 2, a, b | 3, a, b | 4, a, b | 5, a, b | 6, a, b | 7, a, b => by cases a <;> cases b <;> rfl
theorem fn_two {s : Fin 8} {a b : Bool} : Fn prog w 162 [.int (fin s), .int (bi a), .int (bi b)] (.int (bi (twoB s a b))) 1 := by
  refine fn_def ["sign", "a", "b"] [] rfl rfl rfl rfl (by kernel_rfl) (fun vs h => ?_) rfl (fun A s₀ env O hF => ?_)
  · obtain ⟨a, b, c, rfl⟩ := len3 h; rfl
  · refine exs_ret (ex_return (ev_item (ev_list (evs_cons (ev_bin (ev_name 1 rfl rfl) (ev_name 2 rfl rfl) b_and) (evs_cons (ev_bin (ev_name 1 rfl rfl) (ev_name 2 rfl rfl) b_or) (evs_cons (ev_bin (ev_name 1 rfl rfl) (ev_name 2 rfl rfl) b_xor)
      (evs_cons (ev_bin (ev_bin ev_int (ev_name 1 rfl rfl) b_sub) (ev_name 2 rfl rfl) b_and) (evs_cons (ev_bin (ev_name 1 rfl rfl) (ev_bin ev_int (ev_name 2 rfl rfl) b_sub) b_and) (evs_cons (ev_bin (ev_name 1 rfl rfl) (ev_bin ev_int (ev_name 2 rfl rfl) b_sub) b_or)
      (evs_cons (ev_bin (ev_name 1 rfl rfl) (ev_name 2 rfl rfl) b_xor) (evs_cons (ev_bin (ev_bin ev_int (ev_name 1 rfl rfl) b_sub) (ev_name 2 rfl rfl) b_or) evs_nil)))))))) (Nat.le_of_ble_eq_true rfl)) (ev_name 0 rfl rfl) (fin_nn s) (fin_lt s (by decide)) (two_at s a b)))

/-- the text of a rule -/
noncomputable def sgnL (s : Fin 8) : List Nat := match s with
  | 0 => [38] | 1 => [124] | 2 => [94] | 3 => [60] | 4 => [62] | 5 => [62, 61] | 6 => [33, 61] | 7 => [45, 62]
theorem sgn_at : ∀ (s : Fin 8), [PyData.str (S [38]), .str (S [124]), .str (S [94]), .str (S [60]), .str (S [62]), .str (S [62, 61]), .str (S [33, 61]), .str (S [45, 62])][(fin s).toNat]? = some (.str (S (sgnL s)))
  | 0 | 1 | 2 | 3 | 4 | 5 | 6 | 7 => rfl
noncomputable def mkL (b : Bool) : List Nat := [cond b 59 44]
theorem mk_at : ∀ b, (S [44, 59]).cps[(bi b).toNat]? = some (cond b 59 44)
  | true | false => rfl
/-- the name of the statement that box i speaks of, in rules with y for some -/
noncomputable def nmN (sm : Fin 4) (i : Bool) (ab : Bool) : Int := 6 - 2 * (fin sm + 2 ^ (bi i).toNat) + bi ab
noncomputable def nmL (sm : Fin 4) (i : Bool) (ab : Bool) : List Nat := (Str.ofString (toString (nmN sm i ab))).cps.toList
noncomputable def bitS (sm : Fin 4) (i : Bool) : Bool := sm.val / 2 ^ i.toNat % 2 == 1
noncomputable def boxT (b : Bx) (nm : List Nat) : List Nat := List.replicate (1 + b.far.toNat) 47 ++ List.replicate b.turn.toNat 126 ++ sgnL b.sign ++ List.replicate b.dots.val 46 ++ List.replicate b.back.toNat 126 ++ nm ++ mkL b.mark
noncomputable def saidT (L : Law) (sm : Fin 4) (i : Bool) : List Nat := if bitS sm i then [121] else boxT (L.bx i) (nmL sm i (L.bx i).about)
noncomputable def ruleT (L : Law) (sm : Fin 4) (wh : Bool) : List Nat :=
  (List.replicate (L.fm wh).turn.toNat 126 ++ sgnL (L.fm wh).sign ++ List.replicate (L.fm wh).first.toNat 126 ++ saidT L sm false) ++ sgnL (L.fm wh).other ++ List.replicate (L.fm wh).second.toNat 126 ++ saidT L sm true ++ mkL (L.fm wh).mark
theorem sgn_len (s : Fin 8) : (sgnL s).length ≤ 2 := by revert s; decide
theorem nm_len (sm : Fin 4) (i ab : Bool) : (nmL sm i ab).length ≤ 5 := by revert sm i ab; decide +kernel
theorem nm_eq (sm : Fin 4) (i ab : Bool) : Str.ofString (toString (nmN sm i ab)) = S (nmL sm i ab) := by simp [nmL, S]
theorem nm_small (sm : Fin 4) (i ab : Bool) : (nmN sm i ab).natAbs.log2 < 1920 := by
  revert sm i ab; decide +kernel
theorem bit_eq (sm : Fin 4) (i : Bool) : (((fin sm).fdiv (2 ^ (bi i).toNat)).fmod 2 == 1) = bitS sm i := by
  revert sm i; decide +kernel
theorem if_str {b : Bool} {x y : List Nat} : (if b = true then PyData.str (S x) else .str (S y)) = .str (S (if b then x else y)) := by cases b <;> rfl

theorem said_len (L : Law) (sm : Fin 4) (i : Bool) : (saidT L sm i).length ≤ 20 := by
  unfold saidT
  split
  · decide
  · have l1 := nm_len sm i (L.bx i).about
    have l2 := sgn_len (L.bx i).sign
    have l3 := Bool.toNat_le (L.bx i).far
    have l4 := Bool.toNat_le (L.bx i).turn
    have l5 := Bool.toNat_le (L.bx i).back
    have l7 := (L.bx i).dots.isLt
    simp [boxT, mkL]; omega
theorem fn_rule {L : Law} {sm : Fin 4} {wh : Bool} : Fn prog w 121 [L.fd, L.bd, .int (fin sm), .int (bi wh)] (.str (S (ruleT L sm wh))) 1 := by
  refine fn_def ["forms", "boxes", "some", "which"] ["signs", "said", "i", "far", "turn", "sign", "dots", "back", "mark", "about", "name", "text", "first", "other", "second"] rfl rfl rfl rfl (by kernel_rfl) (fun vs h => ?_) rfl (fun A s₀ env O hF => ?_)
  · obtain ⟨a, b, c, d, rfl⟩ := len4 h; rfl
  · have l1 := nm_len sm
    have l2 := sgn_len
    have l3 := Bool.toNat_le
    refine exs_cons (ex_assign 4 (ev_list (evs_cons (ev_strL (l := [38]) (by kernel_rfl)) (evs_cons (ev_strL (l := [124]) (by kernel_rfl)) (evs_cons (ev_strL (l := [94]) (by kernel_rfl)) (evs_cons (ev_strL (l := [60]) (by kernel_rfl)) (evs_cons (ev_strL (l := [62]) (by kernel_rfl)) (evs_cons (ev_strL (l := [62, 61]) (by kernel_rfl)) (evs_cons (ev_strL (l := [33, 61]) (by kernel_rfl)) (evs_cons (ev_strL (l := [45, 62]) (by kernel_rfl)) evs_nil)))))))) (Nat.le_of_ble_eq_true rfl)) rfl (hF.sto (by kernel_rfl)) (by exact Nat.le_of_ble_eq_true rfl)) ?_
    refine exs_cons (ex_assign_own 5 (evf_list evs_nil (by decide)) rfl (hF.sto (by kernel_rfl)) (by exact Nat.le_of_ble_eq_true rfl)) ?_
    refine exs_cons (ex_for (ds := [.int (bi false), .int (bi true)]) (evi_range (n := 2) (blt_of (hF.kd (by kernel_rfl)) (by kernel_rfl) (by kernel_rfl) (by kernel_rfl)) ev_int (by decide)) (for_inv (fun i => [some (.fro L.fd), some (.fro L.bd), some (.fro (.int (fin sm))), some (.fro (.int (bi wh))), some (.fro (.list [PyData.str (S [38]), .str (S [124]), .str (S [94]), .str (S [60]), .str (S [62]), .str (S [62, 61]), .str (S [33, 61]), .str (S [45, 62])])), some (.own (([false, true].take i).map fun i => .str (S (saidT L sm i)))), none, none, none, none, none, none, none, none, none, none, none, none, none]) [.int (bi false), .int (bi true)] 0 fun i d hd => ?_) (by intro h; cases h)) ?_
    · obtain ⟨j, rfl, rfl⟩ : ∃ j : Bool, i = j.toNat ∧ d = .int (bi j) := by
        match i, hd with
        | 0, hd => cases hd; exact ⟨false, rfl, rfl⟩
        | 1, hd => cases hd; exact ⟨true, rfl, rfl⟩
      rw [Nat.zero_add]
      have l4 := l3 (L.bx j).far
      have l5 := l3 (L.bx j).turn
      have l6 := l3 (L.bx j).back
      have l7 := (L.bx j).dots.isLt
      have l8 := l2 (L.bx j).sign
      have l9 := l1 j (L.bx j).about
      have p0 : (bi j).toNat ≤ 1 := by cases j <;> decide
      have hp : (0 : Int) ≤ bi j := bi_nn j
      have hp1 : bi j ≤ 1 := bi_le j
      have pw : ((2 : Int) ^ (bi j).toNat) = 1 ∨ ((2 : Int) ^ (bi j).toNat) = 2 := by cases j <;> decide
      apply Turn.next
      · exact as_name 6 rfl (hF.sto (by kernel_rfl)) (by exact Nat.le_of_ble_eq_true rfl)
      · refine exs_cons (ex_unpack (ev_item (ev_name 1 rfl rfl) (ev_name 6 rfl rfl) (bi_nn j) (bi_lt j) (bd_at L j)) (as_list (ass_cons (as_name 7 rfl (hF.sto (by kernel_rfl)) (by exact Nat.le_of_ble_eq_true rfl)) (ass_cons (as_name 8 rfl (hF.sto (by kernel_rfl)) (by exact Nat.le_of_ble_eq_true rfl)) (ass_cons (as_name 9 rfl (hF.sto (by kernel_rfl)) (by exact Nat.le_of_ble_eq_true rfl)) (ass_cons (as_name 10 rfl (hF.sto (by kernel_rfl)) (by exact Nat.le_of_ble_eq_true rfl)) (ass_cons (as_name 11 rfl (hF.sto (by kernel_rfl)) (by exact Nat.le_of_ble_eq_true rfl)) (ass_cons (as_name 12 rfl (hF.sto (by kernel_rfl)) (by exact Nat.le_of_ble_eq_true rfl)) (ass_cons (as_name 13 rfl (hF.sto (by kernel_rfl)) (by exact Nat.le_of_ble_eq_true rfl)) ass_nil))))))))) ?_
        refine exs_cons (ex_assign 14 (ev_bin (ev_bin ev_int (ev_bin ev_int (ev_bin (ev_name 2 rfl rfl) (ev_bin ev_int (ev_name 6 rfl rfl) (b_pow hp (by omega) (by decide))) b_add) (b_mul (.inr (by decide)))) b_sub) (ev_name 13 rfl rfl) b_add) rfl (hF.sto (by kernel_rfl)) (by exact Nat.le_of_ble_eq_true rfl)) ?_
        refine exs_cons (ex_assign 15 (ev_bin (ev_bin (ev_bin (ev_bin (ev_bin (ev_bin (ev_bin (ev_strL (l := [47]) (by kernel_rfl)) (ev_bin ev_int (ev_name 7 rfl rfl) b_add) (b_mulsL (n := 1 + (L.bx j).far.toNat) (by rw [bi_nat]; simp) (by omega)))
          (ev_bin (ev_strL (l := [126]) (by kernel_rfl)) (ev_name 8 rfl rfl) (b_mulsL (bi_nat _) (by omega))) (b_addsL (by simp; omega)))
          (ev_item (ev_name 4 rfl rfl) (ev_name 9 rfl rfl) (fin_nn _) (fin_lt _ (by decide)) (sgn_at _)) (b_addsL (by simp; omega)))
          (ev_bin (ev_strL (l := [46]) (by kernel_rfl)) (ev_name 10 rfl rfl) (b_mulsL (n := (L.bx j).dots.val) rfl (by omega))) (b_addsL (by simp; omega)))
          (ev_bin (ev_strL (l := [126]) (by kernel_rfl)) (ev_name 11 rfl rfl) (b_mulsL (bi_nat _) (by omega))) (b_addsL (by simp; omega)))
          (ev_btype (d := .str (S (nmL sm j (L.bx j).about))) (blt_of (hF.kd (by kernel_rfl)) (by kernel_rfl) (by kernel_rfl) (by kernel_rfl)) (evs_cons (ev_name 14 rfl rfl) evs_nil) (by rw [← nm_eq]; exact call_str (nm_small _ _ _))) (b_addsL (by simp; omega)))
          (ev_char (ev_strL (l := [44, 59]) (by kernel_rfl)) (ev_name 12 rfl rfl) (bi_nn _) (bi_lt _) (mk_at _)) (b_addsL (m := mkL (L.bx j).mark) (by simp [mkL]; omega))) rfl (hF.sto (by kernel_rfl)) (by exact Nat.le_of_ble_eq_true rfl)) ?_
        refine exs_cons (ex_expr (ev_append 5 rfl rfl (ev_ifexp' (tt_cmp (ev_bin (ev_bin (ev_name 2 rfl rfl) (ev_bin ev_int (ev_name 6 rfl rfl) (b_pow hp (by omega) (by decide))) (b_floordiv (by omega) (by omega))) ev_int (b_mod (by decide) (by decide))) ev_int c_eqi) (ev_strL (l := [121]) (by kernel_rfl)) (ev_name 15 rfl rfl)) rfl (by simp; have : sizeLine > 1000 := by decide
                                                                                                                                                                                                                                                                                                                                                  omega) rfl)) exs_nil
      · rw [bit_eq, if_str]
        have e : (([false, true].take j.toNat).map fun i => PyData.str (S (saidT L sm i))) ++ [.str (S (if bitS sm j = true then [121] else boxT (L.bx j) (nmL sm j (L.bx j).about)))] = (([false, true].take (j.toNat + 1)).map fun i => PyData.str (S (saidT L sm i))) := by
          cases j <;> rfl
        rw [← e]
        exact wk_keep (wk_keep (wk_keep (wk_keep (wk_keep (wk_keep (wk_drop (wk_drop (wk_drop (wk_drop (wk_drop (wk_drop (wk_drop (wk_drop (wk_drop (wk_drop (wk_keep (wk_keep (wk_keep wk_nil))))))))))))))))))
    · have l4 := l3 (L.fm wh).turn
      have l5 := l3 (L.fm wh).first
      have l6 := l3 (L.fm wh).second
      have l7 := l2 (L.fm wh).sign
      have l8 := l2 (L.fm wh).other
      have l9 := said_len L sm false
      have l10 := said_len L sm true
      refine exs_cons (ex_unpack (ev_item (ev_name 0 rfl rfl) (ev_name 3 rfl rfl) (bi_nn wh) (bi_lt wh) (fd_at L wh)) (as_list (ass_cons (as_name 8 rfl (hF.sto (by kernel_rfl)) (by exact Nat.le_of_ble_eq_true rfl)) (ass_cons (as_name 9 rfl (hF.sto (by kernel_rfl)) (by exact Nat.le_of_ble_eq_true rfl)) (ass_cons (as_name 16 rfl (hF.sto (by kernel_rfl)) (by exact Nat.le_of_ble_eq_true rfl)) (ass_cons (as_name 17 rfl (hF.sto (by kernel_rfl)) (by exact Nat.le_of_ble_eq_true rfl)) (ass_cons (as_name 18 rfl (hF.sto (by kernel_rfl)) (by exact Nat.le_of_ble_eq_true rfl)) (ass_cons (as_name 12 rfl (hF.sto (by kernel_rfl)) (by exact Nat.le_of_ble_eq_true rfl)) ass_nil)))))))) ?_
      refine exs_cons (ex_assign 15 (ev_bin (ev_bin (ev_bin (ev_bin (ev_strL (l := [126]) (by kernel_rfl)) (ev_name 8 rfl rfl) (b_mulsL (bi_nat _) (by omega)))
          (ev_item (ev_name 4 rfl rfl) (ev_name 9 rfl rfl) (fin_nn _) (fin_lt _ (by decide)) (sgn_at _)) (b_addsL (by simp; omega)))
          (ev_bin (ev_strL (l := [126]) (by kernel_rfl)) (ev_name 16 rfl rfl) (b_mulsL (bi_nat _) (by omega))) (b_addsL (by simp; omega)))
          (Ev0.ev (ev0_item_own (d := .str (S (saidT L sm false))) 5 rfl rfl ev0_int (by decide) (by decide) rfl)) (b_addsL (by simp; omega))) rfl (hF.sto (by kernel_rfl)) (by exact Nat.le_of_ble_eq_true rfl)) ?_
      exact exs_ret (ex_return (ev_bin (ev_bin (ev_bin (ev_bin (ev_name 15 rfl rfl)
          (ev_item (ev_name 4 rfl rfl) (ev_name 17 rfl rfl) (fin_nn _) (fin_lt _ (by decide)) (sgn_at _)) (b_addsL (by simp; omega)))
          (ev_bin (ev_strL (l := [126]) (by kernel_rfl)) (ev_name 18 rfl rfl) (b_mulsL (bi_nat _) (by omega))) (b_addsL (by simp; omega)))
          (Ev0.ev (ev0_item_own (d := .str (S (saidT L sm true))) 5 rfl rfl ev0_int (by decide) (by decide) rfl)) (b_addsL (by simp; omega)))
          (ev_char (ev_strL (l := [44, 59]) (by kernel_rfl)) (ev_name 12 rfl rfl) (bi_nn _) (bi_lt _) (mk_at _)) (b_addsL (m := mkL (L.fm wh).mark) (by simp [mkL]; omega))))
end Mine
open PySem PySem.Spec PySem.Calls PySem.W PyProof.Rows
set_option Elab.async false
set_option maxRecDepth 100000
set_option maxHeartbeats 1000000
set_option linter.unusedVariables false
namespace Mine
variable {X : Fx} {σ σ1 σ2 σ3 : Sg} {pos p2 p3 : Pos} {k : Nat}

/-- the signs of operators and their numbers -/
noncomputable def tokTab : List (List Nat × Int) := [([33], 54), ([33, 61], 28), ([37], 24), ([37, 61], 40), ([38], 19), ([38, 61], 41), ([40], 7), ([41], 8), ([42], 16), ([42, 42], 35), ([42, 42, 61], 46), ([42, 61], 38), ([43], 14), ([43, 61], 36), ([44], 12), ([45], 15), ([45, 61], 37), ([45, 62], 51), ([46], 23), ([46, 46, 46], 52), ([47], 17), ([47, 47], 47), ([47, 47, 61], 48), ([47, 61], 39), ([58], 11), ([58, 61], 53), ([59], 13), ([60], 20), ([60, 60], 33), ([60, 60, 61], 44), ([60, 61], 29), ([61], 22), ([61, 61], 27), ([62], 21), ([62, 61], 30), ([62, 62], 34), ([62, 62, 61], 45), ([64], 49), ([64, 61], 50), ([91], 9), ([93], 10), ([94], 32), ([94, 61], 43), ([123], 25), ([124], 18), ([124, 61], 42), ([125], 26), ([126], 31)]
noncomputable def ett (l : List Nat) : Option Int := tokTab.lookup l
noncomputable def entKey (e : DictEntry) : List Nat := match e.key with
  | .str x _ => x.cps.toList
  | _ => []
noncomputable def entVal (e : DictEntry) : Int := match e.val with
  | .int i _ => i
  | _ => 0
noncomputable def entOK (e : DictEntry) : Bool := match e.key, e.val with
  | .str _ _, .int _ _ => true
  | _, _ => false
noncomputable def FoundI (r : Option Value) : Option Int → Prop
  | none => r = none
  | some i => ∃ t, r = some (.int i t)
theorem find_ent {l : List Nat} : ∀ {es : List DictEntry}, es.all entOK = true → FoundI ((es.find? fun d => Value.isStrOf (S l) d.key).map (·.val)) ((es.map fun e => (entKey e, entVal e)).lookup l)
  | [], _ => rfl
  | e :: es, h => by
    simp only [List.all_cons, Bool.and_eq_true] at h
    obtain ⟨he, hes⟩ := h
    rw [List.map_cons, List.lookup_cons, List.find?_cons]
    obtain ⟨x, t, hk⟩ : ∃ x t, e.key = .str x t := by
      unfold entOK at he
      split at he
      · rename_i h1 h2; exact ⟨_, _, h1⟩
      · cases he
    obtain ⟨i, u, hv⟩ : ∃ i t, e.val = .int i t := by
      unfold entOK at he
      split at he
      · rename_i h1 h2; exact ⟨_, _, h2⟩
      · cases he
    have ek : entKey e = x.cps.toList := by unfold entKey; rw [hk]
    have ev : entVal e = i := by unfold entVal; rw [hv]
    rw [ek, ev, hk]
    have hx : Value.isStrOf (S l) (.str x t) = (l == x.cps.toList) := by
      show (x == S l) = _
      rw [Bool.eq_iff_iff, beq_iff_eq, beq_iff_eq]
      constructor
      · rintro rfl; simp [S]
      · rintro rfl; simp [S]
    rw [hx]
    cases hb : l == x.cps.toList with
    | true => simp only [Option.map_some]; rw [hv]; exact ⟨u, rfl⟩
    | false => exact find_ent hes

theorem tok_dict (P : Params) : ∃ es n, (Mine.heapK P).lookup 84 = some ⟨.type "dict", none, .dict es n, #[]⟩ ∧ KeysLit P es.toList ∧ es.toList.all entOK = true ∧ (es.toList.map fun e => (entKey e, entVal e)) = tokTab := by
  refine ⟨_, _, rfl, ?_, by kernel_rfl, by kernel_rfl⟩
  repeat (refine ⟨⟨_, _, rfl, rfl⟩, ?_⟩)
  exact trivial
theorem tok_map {prog : Program} {w : World} {h : Heap} (W : Wd w h) : ∃ f, h.MapOf (strKind prog w) 84 f ∧ ∀ l, FoundI (f (S l)) (ett l) := by
  obtain ⟨es, n, h1, h2, h3, h4⟩ := tok_dict w.params
  refine ⟨_, mapOf_K W.K h1 h2, fun l => ?_⟩
  have := find_ent (l := l) h3
  rw [h4] at this
  unfold findBy
  rw [← Array.find?_toList]
  exact this

theorem tt_inTok {l : Expr} {x : Str} {t : List Nat} (hl : Ev X l σ (.str (S t)) σ1) (hk : X.env.kindOf x = some .globalImplicit) (hd : notDebug x = true) (hg : glbRef (KK X) x = some 84) :
    Tt X (.Compare l [.In] [.Name x p2] pos) σ (ett t).isSome σ1 := .of fun S0 m vals R =>
  wpAny_isTrue_Compare1 (wpAny_mono (hl.go S0 m vals R) (fun va s1 h1 => by
    obtain ⟨S1, rfl, R1, T1, r1⟩ := h1
    obtain ⟨u, rfl⟩ := rep_str r1
    refine load_glob R1 (glb_ref hk hd hg) ?_
    obtain ⟨f, hm, hf⟩ := tok_map (prog := X.prog) R1.rel.wd
    refine wpAny_in_of (strKind_is X.prog X.w _ u) (by decide) hm ?_
    have e : (f (S t)).isSome = (ett t).isSome := by
      have := hf t
      cases hq : ett t with
      | none => rw [hq] at this; rw [show f (S t) = none from this]; rfl
      | some i => rw [hq] at this; obtain ⟨t', q⟩ := this; rw [q]; rfl
    rw [e]
    exact wpAny_truthy_bool ⟨⟨_, S1.M, S1.B⟩, rfl, R1.grow (.tok _), T1.trans (Grow.tr R1.sub (.tok _)), rfl⟩) fun _ _ f => f) (by with_unfolding_all rfl)
theorem ev_itemTok {slice : Expr} {x : Str} {t : List Nat} {i : Int} (h : Ev X slice σ (.str (S t)) σ1) (he : ett t = some i) (hk : X.env.kindOf x = some .globalImplicit) (hd : notDebug x = true) (hg : glbRef (KK X) x = some 84) (hn : noSlice slice = true := by rfl) :
    Ev X (.Subscript (.Name x p2) slice pos) σ (.int i) σ1 := .of fun S0 m vals R =>
  Subscript_ (load_glob R (glb_ref hk hd hg) (wpAny_mono (h.go S0 m vals R) (fun u s2 q => by
    obtain ⟨S1, rfl, R1, T1, r1⟩ := q
    obtain ⟨v, rfl⟩ := rep_str r1
    obtain ⟨f, hm, hf⟩ := tok_map (prog := X.prog) R1.rel.wd
    have hf := hf t
    rw [he] at hf
    obtain ⟨t', q⟩ := hf
    exact tail_any hm.typeIs slot_dict_getitem.lookup (wpAny_getItem_of (strKind_is X.prog X.w _ v) hm q ⟨⟨_, S1.M, S1.B⟩, rfl, R1.grow (.tok _), T1.trans (Grow.tr R1.sub (.tok _)), .int _ _⟩) (sub_plain hn _ _)) fun _ _ f => f))

theorem c_ini {a : Int} {ns : List Int} : CmpOK X .In (.int a) (.list (ns.map .int)) (.bool (ns.any (· == a))) := .of fun _ S0 _ _ _ ra rb => by
  obtain ⟨t, rfl⟩ := rep_int ra
  obtain ⟨b, vs, rfl, _, pl, rs⟩ := rep_list rb
  exact in_list_ints (vs := vs.toList) (by simpa using pl.isList) (ints_of rs) ⟨.refl _, .bool _⟩
end Mine
open PySem PySem.Spec PySem.Calls PySem.W PyProof.Rows
set_option Elab.async false
set_option maxRecDepth 100000
set_option maxHeartbeats 1000000
set_option linter.unusedVariables false
namespace Mine
variable {X : Fx} {σ σ1 σ2 σ3 : Sg} {pos p2 p3 : Pos} {k : Nat}

theorem clip_le (n : Nat) (i : Int) : clipAt n i ≤ n := by unfold clipAt; omega
theorem idx_plain (lo hi : Option Int) (n : Nat) : Builtin.Str.strSliceIndices lo hi 1 n = (List.range (hi.elim n (clipAt n) - lo.elim 0 (clipAt n))).map (lo.elim 0 (clipAt n) + ·) := by
  have e : Builtin.Str.strSliceIndices lo hi 1 n = sliceRange (sliceBounds lo hi none n).1 (sliceBounds lo hi none n).2.1 1 := by
    cases lo <;> cases hi <;> rfl
  rw [e, sliceBounds_plain, sliceRange_one]
theorem slice_S (l : List Nat) (lo hi : Option Int) : Txt.slice (S l) lo hi = S ((l.drop (lo.elim 0 (clipAt l.length))).take (hi.elim l.length (clipAt l.length) - lo.elim 0 (clipAt l.length))) := by
  unfold Txt.slice
  rw [idx_plain, S_length]
  have hb : hi.elim l.length (clipAt l.length) ≤ l.length := by cases hi <;> simp [clip_le]
  split
  · rename_i h
    simp only [beq_self_eq_true, Bool.true_and, beq_iff_eq, List.length_map, List.length_range] at h
    congr 1
    rw [List.take_of_length_le (by rw [List.length_drop]; omega)]
    rcases Nat.eq_zero_or_pos l.length with h0 | h0
    · have : l = [] := List.length_eq_zero_iff.mp h0
      subst this; simp
    · rw [show lo.elim 0 (clipAt l.length) = 0 by omega]; rfl
  · show (⟨_⟩ : Str) = ⟨_⟩
    congr 2
    have := pick_run (S l).cps (lo.elim 0 (clipAt l.length)) (hi.elim l.length (clipAt l.length) - lo.elim 0 (clipAt l.length))
    rw [this]
    simp [S]
theorem slice_nn (l : List Nat) (a b : Nat) : Txt.slice (S l) (some a) (some b) = S ((l.drop a).take (b - a)) := by
  rw [slice_S]
  simp only [Option.elim, clipAt_nat]
  congr 1
  rcases Nat.le_total a l.length with h | h
  · rw [Nat.min_eq_left h]
    rcases Nat.le_total b l.length with h' | h'
    · rw [Nat.min_eq_left h']
    · rw [Nat.min_eq_right h', List.take_of_length_le (by simp), List.take_of_length_le (by simp; omega)]
  · rw [Nat.min_eq_right h, List.drop_of_length_le (Nat.le_refl _), List.drop_of_length_le h]; simp
theorem slice_on (l : List Nat) (b : Nat) : Txt.slice (S l) none (some b) = S (l.take b) := by
  rw [slice_S]
  simp only [Option.elim, clipAt_nat, List.drop_zero, Nat.sub_zero]
  congr 1
  rcases Nat.le_total b l.length with h' | h'
  · rw [Nat.min_eq_left h']
  · rw [Nat.min_eq_right h', List.take_of_length_le (Nat.le_refl _), List.take_of_length_le h']
theorem slice_no (l : List Nat) (a : Nat) : Txt.slice (S l) (some a) none = S (l.drop a) := by
  rw [slice_S]
  simp only [Option.elim, clipAt_nat]
  congr 1
  rcases Nat.le_total a l.length with h | h
  · rw [Nat.min_eq_left h, List.take_of_length_le (by simp)]
  · rw [Nat.min_eq_right h, List.drop_of_length_le (Nat.le_refl _), List.drop_of_length_le h]; simp

theorem pick_list (ds : List PyData) (is : List Nat) : is.filterMap (ds[·]?) = is.filterMap (ds.toArray[·]?) := by
  congr 1; funext i; simp
theorem pickD_plain (ds : List PyData) (lo hi : Option Int) : pickD ds lo hi none = (ds.drop (lo.elim 0 (clipAt ds.length))).take (hi.elim ds.length (clipAt ds.length) - lo.elim 0 (clipAt ds.length)) := by
  unfold pickD
  rw [sliceBounds_plain]
  simp only [sliceRange_one]
  rw [pick_list, pick_run]
theorem pickD_no (ds : List PyData) (a : Nat) : pickD ds (some a) none none = ds.drop a := by
  rw [pickD_plain]
  simp only [Option.elim, clipAt_nat]
  rcases Nat.le_total a ds.length with h | h
  · rw [Nat.min_eq_left h, List.take_of_length_le (by simp)]
  · rw [Nat.min_eq_right h, List.drop_of_length_le (Nat.le_refl _), List.drop_of_length_le h]; simp
theorem pickD_on (ds : List PyData) (b : Nat) : pickD ds none (some b) none = ds.take b := by
  rw [pickD_plain]
  simp only [Option.elim, clipAt_nat, List.drop_zero, Nat.sub_zero]
  rcases Nat.le_total b ds.length with h' | h'
  · rw [Nat.min_eq_left h']
  · rw [Nat.min_eq_right h', List.take_of_length_le (Nat.le_refl _), List.take_of_length_le h']
theorem pickD_rev (ds : List PyData) : pickD ds none none (some (-1)) = ds.reverse := by
  unfold pickD sliceBounds
  simp only [Option.getD_some, show ¬ ((-1 : Int) > 0) by decide, if_false]
  have e : sliceRange ((ds.length : Int) - 1) (-1) (-1) = (List.range ds.length).map fun k => ds.length - 1 - k := by
    unfold sliceRange
    simp only [show ¬ ((-1 : Int) > 0) by decide, if_false]
    by_cases h : (ds.length : Int) - 1 > -1
    · have e2 : (((ds.length : Int) - 1 - (-1) - (-1) - 1) / (-(-1))).toNat = ds.length := by
        rw [show (-(-1) : Int) = 1 by rfl, Int.ediv_one]; omega
      rw [if_pos h, e2]
      apply List.map_congr_left
      intro k hk
      have := List.mem_range.mp hk
      omega
    · have : ds.length = 0 := by omega
      simp [this]
  rw [e]
  apply List.ext_getElem?
  intro i
  rw [List.filterMap_map]
  have main : ∀ n, n ≤ ds.length → ((List.range n).filterMap fun k => ds[ds.length - 1 - k]?) = ds.reverse.take n := by
    intro n hn
    induction n with
    | zero => simp
    | succ n ih =>
      rw [List.range_succ, List.filterMap_append, ih (by omega), List.take_add_one]
      congr 1
      rw [List.getElem?_reverse (by omega)]
      cases hq : ds[ds.length - 1 - n]? <;> simp [hq]
  have := main ds.length (Nat.le_refl _)
  rw [List.take_of_length_le (by simp)] at this
  exact congrArg (·[i]?) this

/-- slices, put plainly -/
theorem ev_from {value e : Expr} {ds : List PyData} {i : Int} {a : Nat} (h1 : Ev X value σ (.list ds) σ1) (h2 : Ev X e σ1 (.int i) σ2) (hi : i = a) (hsz : ds.length ≤ 10000) : Ev X (.Subscript value (.Slice (some e) none none p2) pos) σ (.list (ds.drop a)) σ2 := by
  subst hi
  rw [← pickD_no]
  exact ev_slice h1 (evp_some h2) evp_none evp_none (by simp) (Nat.le_trans hsz (by decide))
theorem ev_upto {value e : Expr} {ds : List PyData} {i : Int} {a : Nat} (h1 : Ev X value σ (.list ds) σ1) (h2 : Ev X e σ1 (.int i) σ2) (hi : i = a) (hsz : ds.length ≤ 10000) : Ev X (.Subscript value (.Slice none (some e) none p2) pos) σ (.list (ds.take a)) σ2 := by
  subst hi
  rw [← pickD_on]
  exact ev_slice h1 evp_none (evp_some h2) evp_none (by simp) (Nat.le_trans hsz (by decide))
theorem ev_rev {value e : Expr} {ds : List PyData} (h1 : Ev X value σ (.list ds) σ1) (h2 : Ev X e σ1 (.int (-1)) σ2) (hsz : ds.length ≤ 10000) : Ev X (.Subscript value (.Slice none none (some e) p2) pos) σ (.list ds.reverse) σ2 := by
  rw [← pickD_rev]
  exact ev_slice h1 evp_none evp_none (evp_some h2) (by simp) (Nat.le_trans hsz (by decide))
theorem ev_cut {value e f : Expr} {l : List Nat} {i j : Int} {a b : Nat} (h1 : Ev X value σ (.str (S l)) σ1) (h2 : Ev X e σ1 (.int i) σ2) (h3 : Ev X f σ2 (.int j) σ3) (hi : i = a) (hj : j = b) (hsz : l.length ≤ 10000) : Ev X (.Subscript value (.Slice (some e) (some f) none p2) pos) σ (.str (S ((l.drop a).take (b - a)))) σ3 := by
  subst hi hj
  rw [← slice_nn]
  exact ev_sliceS h1 (evp_some h2) (evp_some h3) (by rw [S_length]; exact Nat.le_trans hsz (by decide))
theorem ev_cutTo {value f : Expr} {l : List Nat} {j : Int} {b : Nat} (h1 : Ev X value σ (.str (S l)) σ1) (h3 : Ev X f σ1 (.int j) σ2) (hj : j = b) (hsz : l.length ≤ 10000) : Ev X (.Subscript value (.Slice none (some f) none p2) pos) σ (.str (S (l.take b))) σ2 := by
  subst hj
  rw [← slice_on]
  exact ev_sliceS h1 evp_none (evp_some h3) (by rw [S_length]; exact Nat.le_trans hsz (by decide))
theorem ev_cutFrom {value f : Expr} {l : List Nat} {j : Int} {b : Nat} (h1 : Ev X value σ (.str (S l)) σ1) (h3 : Ev X f σ1 (.int j) σ2) (hj : j = b) (hsz : l.length ≤ 10000) : Ev X (.Subscript value (.Slice (some f) none none p2) pos) σ (.str (S (l.drop b))) σ2 := by
  subst hj
  rw [← slice_no]
  exact ev_sliceS h1 (evp_some h3) evp_none (by rw [S_length]; exact Nat.le_trans hsz (by decide))
theorem ev_charL {value slice : Expr} {l : List Nat} {i : Int} {c : Nat} (h1 : Ev X value σ (.str (S l)) σ1) (h2 : Ev X slice σ1 (.int i) σ2) (h0 : 0 ≤ i) (hi : i < 2 ^ 63) (hc : l[i.toNat]? = some c) (hn : noSlice slice = true := by rfl) :
    Ev X (.Subscript value slice pos) σ (.str (S [c])) σ2 := ev_char h1 h2 h0 hi (by simpa [S] using hc) hn
theorem c_eqsL {l m : List Nat} : CmpOK X .Eq (.str (S l)) (.str (S m)) (.bool (l == m)) := by rw [← S_beq]; exact c_eqs
theorem call_lenL {l : List Nat} (h : l.length ≤ 10000) : CallOK X σ (.builtin "len") [.str (S l)] (.int (l.length : Nat)) := by
  have := call_lenS (X := X) (σ := σ) (x := S l) (by rw [S_length]; omega)
  rwa [S_length] at this
end Mine
open PySem PySem.Spec PySem.Calls PySem.W PyProof.Rows
set_option Elab.async false
set_option maxRecDepth 100000
set_option maxHeartbeats 1000000
set_option linter.unusedVariables false
namespace Mine
variable {X : Fx} {σ σ1 σ2 σ3 : Sg} {pos p2 p3 : Pos} {k : Nat}

noncomputable def capsG (caps : List (Option Nat)) (σ : Sg) : Sg := caps.map fun
  | none => none
  | some i => capSl (σ.at i)
noncomputable def freeChk (nm : List (Str × NameKind)) (xt : List Str) (y : Str × NameKind) : Bool := !(y.2 == .free) || (xt.contains y.1 && (nm.lookup y.1 == some .cell || nm.lookup y.1 == some .free))
noncomputable def capChk (xt : List Str) (names : List (Str × NameKind)) (oc : Option Str) (p : Str × Option Nat) : Bool := match p.2 with
  | none => names.lookup p.1 == some .local || (oc == some p.1 && names.lookup p.1 == some .cell)
  | some i => xt[i]? == some p.1 && names.lookup p.1 == some .free && !(oc == some p.1)
noncomputable def compChk (nm : List (Str × NameKind)) (xt : List Str) (scope : Scope) (tbl : List Str) (oc : Option Str) (caps : List (Option Nat)) : Bool :=
  isFn scope.kind && scope.names.all (fun y => !(y.2 == .local) || scope.names.lookup y.1 == some .local) && scope.names.all (freeChk nm xt) && distinct tbl && goodOK tbl && caps.length == tbl.length && (tbl.zip caps).all (capChk xt scope.names oc)

theorem compOK_mk {scope : Scope} {tbl : List Str} {oc : Option Str} (nm : List (Str × NameKind)) (caps : List (Option Nat)) (hkd : ∀ x, nm.lookup x = some .cell ∨ nm.lookup x = some .free → X.env.kindOf x ≠ some .local)
    (hc : compChk nm X.tbl scope tbl oc caps = true) (cf : ∀ n acc, cellsFrom n scope.names acc = ocCells oc n acc) (pf : ∀ h : Heap, pushCells h scope.names = ocHeap oc h) : CompOK X scope tbl oc σ1 (capsG caps σ1) := by
  simp only [compChk, Bool.and_eq_true, beq_iff_eq] at hc
  obtain ⟨⟨⟨⟨⟨⟨h1, h2⟩, h3⟩, h4⟩, h5⟩, h6⟩, h7⟩ := hc
  have hk1 : scope.kind = .function := by cases e : scope.kind <;> rw [e] at h1 <;> first | rfl | cases h1
  refine ⟨hk1, fun y hy hl => ?_, fun y hy hf => ?_, cf, pf, distinct_nodup h4, goodOK_of h5, fun j x hx => ?_, fun j hj => ?_⟩
  · have := List.all_eq_true.mp h2 y hy
    rw [hl] at this
    simpa using this
  · have := List.all_eq_true.mp h3 y hy
    unfold freeChk at this
    rw [hf] at this
    simp only [beq_self_eq_true, Bool.not_true, Bool.false_or, Bool.and_eq_true, Bool.or_eq_true, beq_iff_eq] at this
    obtain ⟨h8, h9⟩ := this
    obtain ⟨i, hi, he⟩ := List.getElem_of_mem (List.contains_iff_mem.mp h8)
    exact ⟨i, by rw [List.getElem?_eq_getElem hi, he], hkd _ h9⟩
  · have hj : j < tbl.length := (List.getElem?_eq_some_iff.mp hx).1
    have hz : (tbl.zip caps)[j]? = some (x, caps[j]) := by rw [List.getElem?_zip_eq_some]; exact ⟨hx, by simp⟩
    have := List.all_eq_true.mp h7 _ (List.mem_of_getElem? hz)
    have e0 : Sg.at (capsG caps σ1) j = match caps[j] with
      | none => none
      | some i => capSl (σ1.at i) := by
      unfold Sg.at capsG
      rw [List.getElem?_map, List.getElem?_eq_getElem (by omega)]
      cases caps[j] <;> rfl
    unfold capChk at this
    cases hcj : caps[j] with
    | none =>
      rw [hcj] at this e0
      simp only [Bool.or_eq_true, Bool.and_eq_true, beq_iff_eq] at this
      rcases this with q | ⟨q1, q2⟩
      · exact .inl ⟨q, e0⟩
      · exact .inr (.inl ⟨q1, q2, e0⟩)
    | some i =>
      rw [hcj] at this e0
      simp only [Bool.and_eq_true, beq_iff_eq, Bool.not_eq_true'] at this
      obtain ⟨⟨q1, q2⟩, q3⟩ := this
      exact .inr (.inr ⟨i, q1, q2, by simpa using q3, e0⟩)
  · unfold Sg.at capsG
    rw [List.getElem?_map, List.getElem?_eq_none (by rw [h6]; simpa using hj)]
    rfl

theorem InF.hkd {sc : Scope} (h : InF sc X.env X.s₀) : ∀ x, sc.names.lookup x = some .cell ∨ sc.names.lookup x = some .free → X.env.kindOf x ≠ some .local := fun x hx e => by
  have : X.env.scope.names.lookup x = some .local := e
  rw [h.scope] at this
  rcases hx with q | q <;> rw [q] at this <;> cases this
theorem CSub.hkd {X : Fx} {scope : Scope} {oc : Option Str} {env : Env} {s₀ : Shared} (h : CSub X scope oc env s₀) : ∀ x, scope.names.lookup x = some .cell ∨ scope.names.lookup x = some .free → env.kindOf x ≠ some .local := fun x hx e => by
  have e : env.scope.names.lookup x = some .local := e
  rw [h.scope] at e
  rcases hx with q | q
  · rw [relabel_of q (by decide)] at e; cases e
  · rcases relabel_free (env := X.env) q with z | z <;> rw [z] at e <;> cases e

theorem swaps_of {elt t iter : Expr} {ifs : List Expr} {scope : Scope} {x : Str} (hk : X.env.kindOf x = some .local) (hf : X.env.scope.kind = .function) (hl : (p3.line == p2.line) = true) (hn : (scope.names.any fun (n, k) => n == x && (k == .local || k == .cell)) = false) :
    swapsWith (.ListComp elt [⟨t, iter, ifs, 0⟩] scope p2) (some (.Name x p3)) pos.line X.env = pure true := by
  unfold swapsWith
  simp only [Env.blockKind, hk, hf, ScopeKind.isAnnotationScope, Bool.false_eq_true, if_false]
  show (pure (_ && _) : Sem Bool) = _
  rw [hn, show ((Expr.ListComp elt [⟨t, iter, ifs, 0⟩] scope p2).pos.line) = p2.line from rfl, hl]
  rfl

/-- a comprehension in the frame of a call or of another comprehension -/
theorem ev_lc {elt t iter : Expr} {ifs : List Expr} {scope : Scope} {ds : List PyData} {rr : List PyData} (rs : List (Option PyData)) (tbl : List Str) (oc : Option Str) (nm : List (Str × NameKind)) (caps : List (Option Nat)) {σ0 : Sg} {tup : Bool}
    (hkd : ∀ x, nm.lookup x = some .cell ∨ nm.lookup x = some .free → X.env.kindOf x ≠ some .local)
    (hi : EvI X tup iter σ ds σ1) (hc : compChk nm X.tbl scope tbl oc caps = true) (h0 : capsG caps σ1 = σ0)
    (hturn : ∀ env' s₀ O, CSub X scope oc env' s₀ → CompR { X with s₀ := s₀, env := env', tbl := tbl, O := O } t ifs elt σ0 ds rs) (hr : rs.filterMap id = rr) (hsz : ds.length ≤ 10000) (htt : tup = true → isTupleDisplay t = true)
    (cf : ∀ n acc, cellsFrom n scope.names acc = ocCells oc n acc := by intros; rfl) (pf : ∀ h : Heap, pushCells h scope.names = ocHeap oc h := by intros; rfl) (hs : ∀ x, foldedSetIterable iter X.env x = pure x := by intro _; rfl) :
    Ev X (.ListComp elt [⟨t, iter, ifs, 0⟩] scope pos) σ (.list rr) σ1 :=
  ev_comp tbl oc σ0 hi (h0 ▸ compOK_mk nm caps hkd hc cf pf) hturn hr (Nat.le_trans hsz (by decide)) htt hs
theorem ex_lc (i : Nat) {x : Str} {elt t iter : Expr} {ifs : List Expr} {scope : Scope} {ds : List PyData} {rr : List PyData} (rs : List (Option PyData)) (tbl : List Str) (oc : Option Str) (nm : List (Str × NameKind)) (caps : List (Option Nat)) {σ0 : Sg} {tup : Bool}
    (hkd : ∀ x, nm.lookup x = some .cell ∨ nm.lookup x = some .free → X.env.kindOf x ≠ some .local)
    (hi : EvI X tup iter σ ds σ1) (hc : compChk nm X.tbl scope tbl oc caps = true) (h0 : capsG caps σ1 = σ0)
    (hturn : ∀ env' s₀ O, CSub X scope oc env' s₀ → CompR { X with s₀ := s₀, env := env', tbl := tbl, O := O } t ifs elt σ0 ds rs) (hr : rs.filterMap id = rr) (hsz : ds.length ≤ 10000) (htt : tup = true → isTupleDisplay t = true)
    (hx : X.tbl[i]? = some x) (hst : Sto X x) (hil : i < σ1.length) (hsw : swapsWith (.ListComp elt [⟨t, iter, ifs, 0⟩] scope p2) (some (.Name x p3)) pos.line X.env = pure true)
    (cf : ∀ n acc, cellsFrom n scope.names acc = ocCells oc n acc := by intros; rfl) (pf : ∀ h : Heap, pushCells h scope.names = ocHeap oc h := by intros; rfl) (hs : ∀ x, foldedSetIterable iter X.env x = pure x := by intro _; rfl) :
    Ex X (.Assign [.Name x p3] (.ListComp elt [⟨t, iter, ifs, 0⟩] scope p2) pos) σ (.next (σ1.set i (some (.fro (.list rr))))) :=
  ex_assign_comp i tbl oc σ0 hi (h0 ▸ compOK_mk nm caps hkd hc cf pf) hturn hr (Nat.le_trans hsz (by decide)) htt hx hst hil hsw hs
end Mine
open PySem PySem.Spec PySem.Calls PySem.W PyProof.Rows
set_option Elab.async false
set_option maxRecDepth 100000
set_option maxHeartbeats 1000000
set_option linter.unusedVariables false
namespace Mine
section
variable {X : Fx} {σ σ1 σ2 σ3 : Sg} {pos p2 p3 : Pos} {k : Nat}
theorem tt_b {t : Expr} {b b' : Bool} (h : Tt X t σ b σ1) (hb : b = b') : Tt X t σ b' σ1 := hb ▸ h
theorem ev_d {e : Expr} {d d' : PyData} (h : Ev X e σ d σ1) (hd : d = d') : Ev X e σ d' σ1 := hd ▸ h
theorem comp_cons {t : Expr} {ifs : List Expr} {elt : Expr} {σ0 : Sg} {d : PyData} {o : Option PyData} {ds : List PyData} {rs : List (Option PyData)} (h : TurnC X t ifs elt σ0 d o) (r : CompR X t ifs elt σ0 ds rs) : CompR X t ifs elt σ0 (d :: ds) (o :: rs) := by
  cases h with
  | take h1 h2 h3 => exact .take h1 h2 h3 r
  | skip h1 h2 => exact .skip h1 h2 r
theorem ev_cutN {value e f : Expr} {l : List Nat} {i j : Int} {a n : Nat} (h1 : Ev X value σ (.str (S l)) σ1) (h2 : Ev X e σ1 (.int i) σ2) (h3 : Ev X f σ2 (.int j) σ3) (hi : i = a) (hj : j = i + n) (hsz : l.length ≤ 10000) : Ev X (.Subscript value (.Slice (some e) (some f) none p2) pos) σ (.str (S ((l.drop a).take n))) σ3 := by
  have := ev_cut (p2 := p2) (pos := pos) (b := a + n) h1 h2 h3 hi (by omega) hsz
  rwa [Nat.add_sub_cancel_left] at this
theorem shaped_all {ds : List PyData} (h : ∀ d ∈ ds, d.canLay0 = true ∧ d.depth ≤ 20) : SeqAt.shaped (.list ds) = true := by
  have main : ∀ ds : List PyData, (∀ d ∈ ds, d.canLay0 = true ∧ d.depth ≤ 20) → PyData.canLayAll0 ds = true ∧ PyData.depthAll ds ≤ 20 := by
    intro ds
    induction ds with
    | nil => exact fun _ => ⟨rfl, Nat.zero_le _⟩
    | cons d ds ih =>
      intro h
      obtain ⟨h1, h2⟩ := ih fun e he => h e (List.mem_cons_of_mem _ he)
      obtain ⟨h3, h4⟩ := h d List.mem_cons_self
      exact ⟨by rw [PyData.canLayAll0, h3, h1]; rfl, by rw [PyData.depthAll]; omega⟩
  obtain ⟨h1, h2⟩ := main ds h
  unfold SeqAt.shaped
  rw [PyData.canLay0, h1, PyData.depth]
  simp; omega
theorem noDict_all {ds : List PyData} (h : ∀ d ∈ ds, noDict d = true) : noDict (.list ds) = true := by
  rw [noDict]
  induction ds with
  | nil => rfl
  | cons d ds ih => rw [noDicts, h d List.mem_cons_self, ih fun e he => h e (List.mem_cons_of_mem _ he)]; rfl
theorem canLay_S {l : List Nat} (h : ∀ c ∈ l, c < 128) : (PyData.str (S l)).canLay0 = true := by
  show Array.all _ _ = true
  rw [← Array.all_toList]
  simp only [List.all_eq_true]
  intro c hc
  have := h c hc
  simp; omega
end
variable {prog : Program} {w : World}

noncomputable def fitL (r : List Nat) (n : Nat) : Option (List Nat) := if (ett (r.take n)).isSome = true then some (r.take n) else none
noncomputable def fitsL (r : List Nat) : List (List Nat) := [3, 2, 1].filterMap (fitL r)
inductive CutStep : List Nat → Int → Nat → Prop
  | tok {r f fs i} : fitsL r = f :: fs → ett f = some i → CutStep r i f.length
  | y {r} : fitsL (121 :: r) = [] → CutStep (121 :: r) 255 1
  | dig {c r} : 48 ≤ c → c ≤ 57 → fitsL (c :: r) = [] → CutStep (c :: r) (256 + ((c - 48 : Nat) : Int)) 1
inductive Cut : List Nat → List Int → Prop
  | nil : Cut [] []
  | step {r i n ts} : CutStep r i n → 1 ≤ n → n ≤ r.length → Cut (r.drop n) ts → Cut r (i :: ts)

theorem wh_cut {X : Fx} {t : Expr} {body : List Stmt} {l : List Nat} (I : Nat → List Int → Sg) (h : ∀ a acc i n, a < l.length → acc.length ≤ a → CutStep (l.drop a) i n → Turn2 X t body (I a acc) (I (a + n) (acc ++ [i]))) (hd : ∀ acc, Tt X t (I l.length acc) false (I l.length acc)) :
    ∀ {r ts}, Cut r ts → ∀ a acc, l.drop a = r → a ≤ l.length → acc.length ≤ a → WhR X t body ts.length (I a acc) (I l.length (acc ++ ts)) := by
  intro r ts hc
  induction hc with
  | nil =>
    intro a acc hr ha _
    have : a = l.length := by
      have := congrArg List.length hr
      rw [List.length_drop] at this; simp at this; omega
    subst this
    rw [List.append_nil]
    exact .done (hd acc)
  | step hs h1 h2 _ ih =>
    intro a acc hr ha hl
    subst hr
    rw [List.length_drop] at h2
    have q := h a acc _ _ (by omega) hl hs
    rename_i i n ts' _
    have := ih (a + n) (acc ++ [i]) (by rw [List.drop_drop]) (by omega) (by simp; omega)
    rw [List.append_assoc] at this
    rcases q with ⟨q1, q2, q3⟩
    exact .step q1 (exs_wk' q2 q3) this

theorem dig_all : ∀ k : Fin 10, PySem.intText? (S [48 + k.val]) = some ((k.val : Nat) : Int) := by decide +kernel
theorem dig_int {c : Nat} (h1 : 48 ≤ c) (h2 : c ≤ 57) : PySem.intText? (S [c]) = some ((c - 48 : Nat) : Int) := by
  have := dig_all ⟨c - 48, by omega⟩
  rwa [show 48 + (c - 48) = c by omega] at this
theorem fits_mem {r f : List Nat} (h : f ∈ fitsL r) : ∃ n, f = r.take n := by
  unfold fitsL at h
  obtain ⟨n, _, hn⟩ := List.mem_filterMap.mp h
  unfold fitL at hn
  split at hn
  · exact ⟨n, (Option.some.inj hn).symm⟩
  · cases hn
theorem fits_rs (r : List Nat) : ([if (ett (r.take 3)).isSome = true then some (PyData.str (S (r.take 3))) else none, if (ett (r.take 2)).isSome = true then some (PyData.str (S (r.take 2))) else none, if (ett (r.take 1)).isSome = true then some (PyData.str (S (r.take 1))) else none]).filterMap id = (fitsL r).map fun x => .str (S x) := by
  unfold fitsL fitL
  cases h3 : (ett (r.take 3)).isSome <;> cases h2 : (ett (r.take 2)).isSome <;> cases h1 : (ett (r.take 1)).isSome <;> simp [h1, h2, h3]

theorem fn_cut {l : List Nat} {ts : List Int} (hc : Cut l ts) (hl : l.length ≤ 1000) (hcp : ∀ c ∈ l, c < 128) : Fn prog w 126 [.str (S l)] (.list (ts.map .int)) 1 := by
  refine fn_def ["text"] ["row", "at", "fits"] rfl rfl rfl rfl (by kernel_rfl) (fun vs h => ?_) rfl (fun A s₀ env O hF => ?_)
  · obtain ⟨a, rfl⟩ := len1 h; rfl
  · refine exs_cons (ex_assign_own 1 (evf_list evs_nil (by decide)) rfl (hF.sto (by kernel_rfl)) (by exact Nat.le_of_ble_eq_true rfl)) ?_
    refine exs_cons (ex_assign 2 ev_int rfl (hF.stoC (by kernel_rfl)) (by exact Nat.le_of_ble_eq_true rfl)) ?_
    have hsz : (10000 : Nat) ≤ sizeLine := by decide
    refine exs_cons (ex_while (wh_cut (l := l) (fun a acc => [some (.fro (.str (S l))), some (.own (acc.map .int)), some (.fro (.int (a : Nat))), none]) (fun a acc i n ha hacc hst => ?_) (fun acc => ?_) hc 0 [] rfl (Nat.zero_le _) (Nat.zero_le _))) ?_
    · apply Turn2.mk
      · exact tt_b (tt_cmp (ev_name 2 rfl rfl) (ev_bfun (blt_of (hF.kd (by kernel_rfl)) (by kernel_rfl) (by kernel_rfl) (by kernel_rfl)) (evs_cons (ev_name 0 rfl rfl) evs_nil) (call_lenL (by omega))) c_lt) (decide_eq_true (by omega))
      · refine exs_cons (ex_lc 3 [_, _, _] ["size", "text", "at"] none _ [none, some 0, some 2] hF.hkd (evi_list (ev_list (evs_cons ev_int (evs_cons ev_int (evs_cons ev_int evs_nil))) (by decide))) (by kernel_rfl) rfl (fun env' s1 O' hC => ?_) (fits_rs (l.drop a)) (by simp) (by intro h; cases h) rfl (hF.sto (by kernel_rfl)) (by exact Nat.le_of_ble_eq_true rfl) (swaps_of (hF.kd (by kernel_rfl)) (by rw [hF.scope]) rfl (by kernel_rfl))) ?_
        · refine comp_cons (turnC_one (as_name 0 rfl (hC.sto (by kernel_rfl)) (Nat.le_of_ble_eq_true rfl)) (tt_inTok (ev_cutN (ev_name 1 rfl rfl) (ev_name 2 rfl rfl) (ev_bin (ev_name 2 rfl rfl) (ev_name 0 rfl rfl) b_add) rfl rfl (by omega)) (hC.glob (by kernel_rfl)) (by kernel_rfl) (by kernel_rfl)) (ev_cutN (ev_name 1 rfl rfl) (ev_name 2 rfl rfl) (ev_bin (ev_name 2 rfl rfl) (ev_name 0 rfl rfl) b_add) rfl rfl (by omega))) ?_
          refine comp_cons (turnC_one (as_name 0 rfl (hC.sto (by kernel_rfl)) (Nat.le_of_ble_eq_true rfl)) (tt_inTok (ev_cutN (ev_name 1 rfl rfl) (ev_name 2 rfl rfl) (ev_bin (ev_name 2 rfl rfl) (ev_name 0 rfl rfl) b_add) rfl rfl (by omega)) (hC.glob (by kernel_rfl)) (by kernel_rfl) (by kernel_rfl)) (ev_cutN (ev_name 1 rfl rfl) (ev_name 2 rfl rfl) (ev_bin (ev_name 2 rfl rfl) (ev_name 0 rfl rfl) b_add) rfl rfl (by omega))) ?_
          refine comp_cons (turnC_one (as_name 0 rfl (hC.sto (by kernel_rfl)) (Nat.le_of_ble_eq_true rfl)) (tt_inTok (ev_cutN (ev_name 1 rfl rfl) (ev_name 2 rfl rfl) (ev_bin (ev_name 2 rfl rfl) (ev_name 0 rfl rfl) b_add) rfl rfl (by omega)) (hC.glob (by kernel_rfl)) (by kernel_rfl) (by kernel_rfl)) (ev_cutN (ev_name 1 rfl rfl) (ev_name 2 rfl rfl) (ev_bin (ev_name 2 rfl rfl) (ev_name 0 rfl rfl) b_add) rfl rfl (by omega))) .nil
        · refine exs_cons (ex_if (b := (fitsL (l.drop a)).isEmpty) (tt_b (tt_cmp (ev_name 3 rfl rfl) (ev_list evs_nil (by decide)) (c_eqd (shaped_all fun d hd => ?_) (by decide) (noDict_all fun d hd => ?_) (by decide))) ?_) (f := .next [some (.fro (.str (S l))), some (.own ((acc ++ [i]).map .int)), some (.fro (.int (a + n : Nat))), some (.fro (.list ((fitsL (l.drop a)).map fun x => .str (S x))))]) (fun hb => ?_) (fun hb => ?_)) exs_nil
          · obtain ⟨f, hf, rfl⟩ := List.mem_map.mp hd
            obtain ⟨m, rfl⟩ := fits_mem hf
            exact ⟨canLay_S fun c hc => hcp c (List.mem_of_mem_drop (List.mem_of_mem_take hc)), by rw [PyData.depth]; omega⟩
          · obtain ⟨f, hf, rfl⟩ := List.mem_map.mp hd
            rfl
          · cases fitsL (l.drop a) <;> rfl
          · have hne : fitsL (l.drop a) = [] := List.isEmpty_iff.mp hb
            obtain ⟨c, r, hdr⟩ : ∃ c r, l.drop a = c :: r := by
              cases hq : l.drop a with
              | nil => have := congrArg List.length hq; rw [List.length_drop] at this; simp at this; omega
              | cons c r => exact ⟨c, r, rfl⟩
            have hca : l[((a : Nat) : Int).toNat]? = some c := by
              rw [Int.toNat_natCast]
              have := congrArg (·[0]?) hdr
              simpa using this
            rw [hdr] at hst hne
            have hat : ∀ (X : Fx) (σ : Sg) (pos p2 p3 : Pos), X.tbl[0]? = some (("text" : String) : Str) → X.tbl[2]? = some (("at" : String) : Str) → σ.at 0 = some (.fro (.str (S l))) → σ.at 2 = some (.fro (.int (a : Nat))) → Ev X (.Subscript (.Name "text" p2) (.Name "at" p3) pos) σ (.str (S [c])) σ := fun X σ pos p2 p3 h1 h2 h3 h4 =>
              ev_charL (ev_name 0 h1 h3) (ev_name 2 h2 h4) (by omega) (by omega) hca
            cases hst with
            | tok h1 h2 => rw [hne] at h1; cases h1
            | y h1 =>
              refine exs_cons (ex_expr (ev_append 1 rfl rfl (ev_ifexp (b := true) (tt_b (tt_cmp (hat _ _ _ _ _ rfl rfl rfl rfl) (ev_strL (l := [121]) (by kernel_rfl)) c_eqsL) rfl) (fun _ => ev_int) (fun h => by cases h)) rfl (by simp; omega) rfl)) ?_
              refine exs_cons (ex_assign 2 (ev_bin (ev_name 2 rfl rfl) ev_int b_add) rfl (hF.stoC (by kernel_rfl)) (by exact Nat.le_of_ble_eq_true rfl)) ?_
              rw [List.map_append]
              exact exs_nil
            | dig h1 h2 h3 =>
              refine exs_cons (ex_expr (ev_append 1 rfl rfl (ev_ifexp (b := false) (tt_b (tt_cmp (hat _ _ _ _ _ rfl rfl rfl rfl) (ev_strL (l := [121]) (by kernel_rfl)) c_eqsL) (by simp; omega)) (fun h => by cases h) (fun _ => ev_bin ev_int (ev_btype (blt_of (hF.kd (by kernel_rfl)) (by kernel_rfl) (by kernel_rfl) (by kernel_rfl)) (evs_cons (hat _ _ _ _ _ rfl rfl rfl rfl) evs_nil) (call_int (dig_int h1 h2) (by rw [S_length]; simp))) b_add)) rfl (by simp; omega) rfl)) ?_
              refine exs_cons (ex_assign 2 (ev_bin (ev_name 2 rfl rfl) ev_int b_add) rfl (hF.stoC (by kernel_rfl)) (by exact Nat.le_of_ble_eq_true rfl)) ?_
              rw [List.map_append]
              exact exs_nil
          · cases hfs : fitsL (l.drop a) with
            | nil => rw [hfs] at hb; cases hb
            | cons f fs =>
              have hlen : f.length ≤ 1000 := by
                obtain ⟨m, hm⟩ := fits_mem (r := l.drop a) (f := f) (by rw [hfs]; exact List.mem_cons_self)
                have := congrArg List.length hm
                rw [List.length_take, List.length_drop] at this
                omega
              obtain ⟨hi, hn⟩ : ett f = some i ∧ n = f.length := by
                generalize l.drop a = r at hst hfs
                cases hst with
                | tok h1 h2 => rw [hfs] at h1; cases h1; exact ⟨h2, rfl⟩
                | y h1 => rw [hfs] at h1; cases h1
                | dig h1 h2 h3 => rw [hfs] at h3; cases h3
              subst hn
              refine exs_cons (ex_expr (ev_append 1 rfl rfl (ev_itemTok (ev_item (ev_name 3 rfl rfl) ev_int (by decide) (by decide) rfl) hi (hF.kd (by kernel_rfl)) (by kernel_rfl) (by kernel_rfl)) rfl (by simp; omega) rfl)) ?_
              refine exs_cons (ex_assign 2 (ev_bin (ev_name 2 rfl rfl) (ev_bfun (blt_of (hF.kd (by kernel_rfl)) (by kernel_rfl) (by kernel_rfl) (by kernel_rfl)) (evs_cons (ev_item (ev_name 3 rfl rfl) ev_int (by decide) (by decide) rfl) evs_nil) (call_lenL (by omega))) b_add) rfl (hF.stoC (by kernel_rfl)) (by exact Nat.le_of_ble_eq_true rfl)) ?_
              rw [List.map_append]
              exact exs_nil
      · exact wk_keep (wk_keep (wk_keep (wk_drop wk_nil)))
    · exact tt_b (tt_cmp (ev_name 2 rfl rfl) (ev_bfun (blt_of (hF.kd (by kernel_rfl)) (by kernel_rfl) (by kernel_rfl) (by kernel_rfl)) (evs_cons (ev_name 0 rfl rfl) evs_nil) (call_lenL (by omega))) c_lt) (decide_eq_false (by omega))
    · exact exs_ret (ex_return (ev_name_own 1 rfl rfl))
end Mine
open PySem PySem.Spec PySem.Calls PySem.W PyProof.Rows
set_option Elab.async false
set_option maxRecDepth 100000
set_option maxHeartbeats 1000000
set_option linter.unusedVariables false
namespace Mine
section
variable {X : Fx} {σ σ1 σ2 σ3 : Sg} {pos p2 p3 : Pos} {k : Nat}
theorem evs_d {es : List Expr} {ds ds' : List PyData} (h : Evs X es σ ds σ1) (hd : ds = ds') : Evs X es σ ds' σ1 := hd ▸ h
theorem wh_all {t : Expr} {body : List Stmt} (I : Nat → Sg) (n : Nat) (h : ∀ i, i < n → Turn2 X t body (I i) (I (i + 1))) (hd : Tt X t (I n) false (I n)) : WhR X t body n (I 0) (I n) :=
  wh_inv I n 0 (fun i hi => by rw [Nat.zero_add]; exact h i hi) (by rw [Nat.zero_add]; exact hd)
theorem ex_if_t {t : Expr} {b1 b2 : List Stmt} {f : Fl} (ht : Tt X t σ true σ1) (h1 : Exs X b1 σ1 f) : Ex X (.If t b1 b2 pos) σ f := ex_if ht (fun _ => h1) (fun h => by cases h)
theorem ex_if_f {t : Expr} {b1 b2 : List Stmt} {f : Fl} (ht : Tt X t σ false σ1) (h1 : Exs X b2 σ1 f) : Ex X (.If t b1 b2 pos) σ f := ex_if ht (fun h => by cases h) (fun _ => h1)
theorem ex_if_next {t : Expr} {b1 b2 : List Stmt} {b : Bool} {f : Fl} (ht : Tt X t σ b σ1) (h1 : b = true → Exs X b1 σ1 f) (h2 : b = false → Exs X b2 σ1 f) : Ex X (.If t b1 b2 pos) σ f := ex_if ht h1 h2
end
variable {prog : Program} {w : World}

noncomputable def nmV (sm : Fin 4) (wh : Bool) : Int := 256 + (2 * (3 - fin sm) + bi wh)
theorem nmV_div (sm : Fin 4) (wh : Bool) : 3 - (nmV sm wh - 256).fdiv 2 = fin sm := by revert sm wh; decide +kernel
theorem nmV_mod (sm : Fin 4) (wh : Bool) : (nmV sm wh - 256).fmod 2 = bi wh := by revert sm wh; decide +kernel
theorem rule_len (L : Law) (sm : Fin 4) (wh : Bool) : (ruleT L sm wh).length ≤ 60 := by
  have l4 := Bool.toNat_le (L.fm wh).turn
  have l5 := Bool.toNat_le (L.fm wh).first
  have l6 := Bool.toNat_le (L.fm wh).second
  have l7 := sgn_len (L.fm wh).sign
  have l8 := sgn_len (L.fm wh).other
  have l9 := said_len L sm false
  have l10 := said_len L sm true
  simp [ruleT, mkL]; omega
theorem cut_len {r : List Nat} {ts : List Int} (h : Cut r ts) : ts.length ≤ r.length := by
  induction h with
  | nil => exact Nat.le_refl _
  | step h1 h2 h3 _ ih => rw [List.length_drop] at ih; simp; omega
theorem sgn_cp (s : Fin 8) : ∀ c ∈ sgnL s, c < 128 := by revert s; decide
theorem nm_cp (sm : Fin 4) (i ab : Bool) : ∀ c ∈ nmL sm i ab, c < 128 := by revert sm i ab; decide +kernel
theorem mk_cp (b : Bool) : ∀ c ∈ mkL b, c < 128 := by revert b; decide
theorem rep_cp {n x : Nat} (h : x < 128) : ∀ c ∈ List.replicate n x, c < 128 := fun c hc => by rw [(List.mem_replicate.mp hc).2]; exact h
theorem app_cp {l m : List Nat} (h1 : ∀ c ∈ l, c < 128) (h2 : ∀ c ∈ m, c < 128) : ∀ c ∈ l ++ m, c < 128 := fun c hc => (List.mem_append.mp hc).elim (h1 c) (h2 c)
theorem said_cp (L : Law) (sm : Fin 4) (i : Bool) : ∀ c ∈ saidT L sm i, c < 128 := by
  unfold saidT
  split
  · decide
  · exact app_cp (app_cp (app_cp (app_cp (app_cp (app_cp (rep_cp (by decide)) (rep_cp (by decide))) (sgn_cp _)) (rep_cp (by decide))) (rep_cp (by decide))) (nm_cp _ _ _)) (mk_cp _)
theorem rule_cp (L : Law) (sm : Fin 4) (wh : Bool) : ∀ c ∈ ruleT L sm wh, c < 128 :=
  app_cp (app_cp (app_cp (app_cp (app_cp (app_cp (app_cp (rep_cp (by decide)) (sgn_cp _)) (rep_cp (by decide))) (said_cp _ _ _)) (sgn_cp _)) (rep_cp (by decide))) (said_cp _ _ _)) (mk_cp _)

noncomputable def sub1 (sub : Int → List Int) (t : Int) : List Int := if 256 ≤ t then sub t else [t]
theorem flat_le (sub : Int → List Int) (ts : List Int) (j : Nat) : ((ts.take j).flatMap (sub1 sub)).length ≤ (ts.flatMap (sub1 sub)).length := by
  rw [← List.take_append_drop j ts, List.flatMap_append, List.length_append]
  simp

theorem fn_said {L : Law} {sm : Fin 4} {wh : Bool} {ts : List Int} {sub : Int → List Int} {n : Nat} (hn : 1 ≤ n) (hcut : Cut (ruleT L sm wh) ts) (hpos : ∀ t ∈ ts, 0 < t)
    (hsub : ∀ t ∈ ts, 256 ≤ t → Fn prog w 133 [L.fd, L.bd, .int t] (.list ((sub t).map .int)) n) (hsz : (ts.flatMap (sub1 sub)).length ≤ 10000) :
    Fn prog w 133 [L.fd, L.bd, .int (nmV sm wh)] (.list ((ts.flatMap (sub1 sub)).map .int)) (n + 1) := by
  refine fn_def ["forms", "boxes", "name"] ["number", "symbols", "row"] rfl rfl rfl rfl (by kernel_rfl) (fun vs h => ?_) rfl (fun A s₀ env O hF => ?_)
  · obtain ⟨a, b, c, rfl⟩ := len3 h; rfl
  · have hl := rule_len L sm wh
    have htl := cut_len hcut
    have hsl : (20000 : Nat) ≤ sizeLine := by decide
    refine exs_cons (ex_assign 3 (ev_bin (ev_name 2 rfl rfl) ev_int b_sub) rfl (hF.sto (by kernel_rfl)) (by exact Nat.le_of_ble_eq_true rfl)) ?_
    refine exs_cons (ex_assign 4 (d := .list ((ts ++ [0]).map .int)) (ev_d (ev_bin (ev_fn (hF.kd (by kernel_rfl)) (evs_cons (ev_fn (hF.kd (by kernel_rfl))
      (evs_cons (ev_name 0 rfl rfl) (evs_cons (ev_name 1 rfl rfl) (evs_cons (ev_d (ev_bin ev_int (ev_bin (ev_name 3 rfl rfl) ev_int (b_floordiv (by decide) (by decide))) b_sub) (congrArg PyData.int (nmV_div sm wh))) (evs_cons (ev_d (ev_bin (ev_name 3 rfl rfl) ev_int (b_mod (by decide) (by decide))) (congrArg PyData.int (nmV_mod sm wh))) evs_nil))))
      fn_rule hn (by kernel_rfl) (by kernel_rfl) (by kernel_rfl)) evs_nil) (fn_cut hcut (by omega) (rule_cp L sm wh)) hn (by kernel_rfl) (by kernel_rfl) (by kernel_rfl)) (ev_list (evs_cons ev_int evs_nil) (by decide)) (b_addl (by simp; omega))) (by simp)) rfl (hF.sto (by kernel_rfl)) (by exact Nat.le_of_ble_eq_true rfl)) ?_
    refine exs_cons (ex_assign_own 5 (evf_list evs_nil (by decide)) rfl (hF.sto (by kernel_rfl)) (by exact Nat.le_of_ble_eq_true rfl)) ?_
    refine exs_cons (ex_while (wh_all (fun j => [some (.fro L.fd), some (.fro L.bd), some (.fro (.int (nmV sm wh))), some (.fro (.int (nmV sm wh - 256))), some (.fro (.list (((ts.drop j) ++ [0]).map .int))), some (.own (((ts.take j).flatMap (sub1 sub)).map .int))]) ts.length (fun j hj => ?_) ?_)) ?_
    · skip
      have hd : ts.drop j = ts[j] :: ts.drop (j + 1) := List.drop_eq_getElem_cons hj
      have ht : ts.take (j + 1) = ts.take j ++ [ts[j]] := by rw [List.take_add_one, List.getElem?_eq_getElem hj]; rfl
      have hmem : ts[j] ∈ ts := List.getElem_mem hj
      have hfl := flat_le sub ts (j + 1)
      have hfl0 := flat_le sub ts j
      rw [ht, List.flatMap_append, List.length_append] at hfl
      rw [hd, ht, List.flatMap_append, List.map_append]
      generalize ts[j] = t at *
      have hp := hpos t hmem
      have he : (List.flatMap (sub1 sub) [t]) = sub1 sub t := by simp
      rw [he] at hfl ⊢
      by_cases h : 256 ≤ t
      · rw [sub1, if_pos h] at hfl ⊢
        apply Turn2.mk
        · exact tt_b (tt_not (tt_val (ev_fn (hF.kd (by kernel_rfl)) (evs_cons (ev_item (ev_name 4 rfl rfl) ev_int (by decide) (by decide) rfl) evs_nil) fn_eof hn (by kernel_rfl) (by kernel_rfl) (by kernel_rfl)))) (by simp; omega)
        · refine exs_cons (ex_if_t (tt_b (tt_val (ev_fn (hF.kd (by kernel_rfl)) (evs_cons (ev_item (ev_name 4 rfl rfl) ev_int (by decide) (by decide) rfl) evs_nil) fn_nont hn (by kernel_rfl) (by kernel_rfl) (by kernel_rfl))) (decide_eq_true h))
            (exs_cons (ex_assign_own 5 (evf_add (ev_name_own 5 rfl rfl) (ev_fn (hF.kd (by kernel_rfl)) (evs_cons (ev_name 0 rfl rfl) (evs_cons (ev_name 1 rfl rfl) (evs_cons (ev_item (ev_name 4 rfl rfl) ev_int (by decide) (by decide) rfl) evs_nil))) (hsub t hmem h) (Nat.le_refl _) (by kernel_rfl) (by kernel_rfl) (by kernel_rfl)) (by simp only [List.length_map]; omega)) rfl (hF.sto (by kernel_rfl)) (by exact Nat.le_of_ble_eq_true rfl)) exs_nil)) ?_
          refine exs_cons (ex_if_f (tt_b (tt_val (ev_fn (hF.kd (by kernel_rfl)) (evs_cons (ev_item (ev_name 4 rfl rfl) ev_int (by decide) (by decide) rfl) evs_nil) fn_term hn (by kernel_rfl) (by kernel_rfl) (by kernel_rfl))) (decide_eq_false (by omega))) exs_nil) ?_
          exact exs_cons (ex_assign 4 (ev_from (a := 1) (ev_name 4 rfl rfl) ev_int rfl (by simp; omega)) rfl (hF.sto (by kernel_rfl)) (by exact Nat.le_of_ble_eq_true rfl)) exs_nil
        · simp only [List.map_append]
          exact Wk.refl _
      · rw [sub1, if_neg h] at hfl ⊢
        apply Turn2.mk
        · exact tt_b (tt_not (tt_val (ev_fn (hF.kd (by kernel_rfl)) (evs_cons (ev_item (ev_name 4 rfl rfl) ev_int (by decide) (by decide) rfl) evs_nil) fn_eof hn (by kernel_rfl) (by kernel_rfl) (by kernel_rfl)))) (by simp; omega)
        · refine exs_cons (ex_if_f (tt_b (tt_val (ev_fn (hF.kd (by kernel_rfl)) (evs_cons (ev_item (ev_name 4 rfl rfl) ev_int (by decide) (by decide) rfl) evs_nil) fn_nont hn (by kernel_rfl) (by kernel_rfl) (by kernel_rfl))) (decide_eq_false h)) exs_nil) ?_
          refine exs_cons (ex_if_t (tt_b (tt_val (ev_fn (hF.kd (by kernel_rfl)) (evs_cons (ev_item (ev_name 4 rfl rfl) ev_int (by decide) (by decide) rfl) evs_nil) fn_term hn (by kernel_rfl) (by kernel_rfl) (by kernel_rfl))) (decide_eq_true (by omega)))
            (exs_cons (ex_expr (ev_append 5 rfl rfl (ev_item (ev_name 4 rfl rfl) ev_int (by decide) (by decide) rfl) rfl (by simp only [List.length_map]; omega) rfl)) exs_nil)) ?_
          exact exs_cons (ex_assign 4 (ev_from (a := 1) (ev_name 4 rfl rfl) ev_int rfl (by simp; omega)) rfl (hF.sto (by kernel_rfl)) (by exact Nat.le_of_ble_eq_true rfl)) exs_nil
        · simp only [List.map_append]
          exact Wk.refl _
    · skip
      rw [List.drop_length]
      exact tt_b (tt_not (tt_val (ev_fn (hF.kd (by kernel_rfl)) (evs_cons (ev_item (ev_name 4 rfl rfl) ev_int (by decide) (by decide) rfl) evs_nil) fn_eof hn (by kernel_rfl) (by kernel_rfl) (by kernel_rfl)))) rfl
    · skip
      rw [List.take_length]
      exact exs_ret (ex_return (ev_name_own 5 rfl rfl))
end Mine
open PySem PySem.Spec PySem.Calls PySem.W PyProof.Rows
set_option Elab.async false
set_option maxRecDepth 100000
set_option maxHeartbeats 1000000
set_option linter.unusedVariables false
namespace Mine
section
variable {X : Fx} {σ σ1 σ2 σ3 : Sg} {pos p2 p3 : Pos} {k : Nat}
noncomputable def intOf (e : Expr) : Option Int := match e with
  | .Constant c _ _ => match c with
    | .int i => some i
    | _ => none
  | _ => none
theorem ev_intOf {e : Expr} {i : Int} (h : intOf e = some i) : Ev X e σ (.int i) σ ∧ isStarred e = false := by
  unfold intOf at h
  split at h
  · split at h
    · cases h; exact ⟨ev_int, rfl⟩
    · cases h
  · cases h
noncomputable def intsOf : List Expr → Option (List Int)
  | [] => some []
  | e :: r => (intOf e).bind fun i => (intsOf r).map (i :: ·)
theorem evs_ints : ∀ (es : List Expr) (ns : List Int), intsOf es = some ns → Evs X es σ (ns.map .int) σ
  | [], _, h => by cases h; exact evs_nil
  | e :: r, ns, h => by
    obtain ⟨i, h1, h2⟩ := Option.bind_eq_some_iff.mp h
    obtain ⟨ms, h3, rfl⟩ := Option.map_eq_some_iff.mp h2
    exact evs_cons (ev_intOf h1).1 (evs_ints r ms h3) (ev_intOf (X := X) (σ := σ) h1).2
theorem ev_ints (ns : List Int) {es : List Expr} (h : intsOf es = some ns) (hl : ns.length ≤ 1000) : Ev X (.List es pos) σ (.list (ns.map .int)) σ :=
  ev_list (evs_ints _ _ h) (by rw [List.length_map]; exact Nat.le_trans hl (by decide))
theorem RepAll.replicate {B : Bad} {h : Heap} {v : Value} {d : PyData} (r : Rep B h v d) : ∀ n, RepAll B h (List.replicate n v) (List.replicate n d)
  | 0 => .nil
  | n + 1 => .cons r (RepAll.replicate r n)
theorem mul_any {prog : Program} {w : World} {A : Around} {E : Value → Shared → Prop} {s : Shared} {l : Addr} {items : Array Value} {k : Nat} {x : Int} {u : Tok} {Q : Value → Shared → Prop} (hl : s.heap.get? l = some { cls := .type "list", dict := none, data := .seq items k, slots := #[] })
    (hlo : -(2 ^ 63 : Int) ≤ x) (hhi : x < 2 ^ 63) (hsz : items.size * x.toNat ≤ 2 ^ 24)
    (h : Q (.ref s.heap.objs.size) { s with heap := s.heap.push { cls := .type "list", data := .seq (List.foldl (fun x1 x2 => x1 ++ x2) #[] (List.replicate (if items.isEmpty = true then 0 else x.toNat) items)) } }) :
    wpAny (model prog w) A (binaryOp .Mult (.ref l) (.int x u)) Q E s :=
  wpAny_binaryOp_repeat_ref (T := "list") (U := "int") (by decide) ⟨_, hl, rfl⟩ (fun s' => typeIs_int s' x u) noFill_list_mul F.fills_int_mul F.slot_int_rmul repeat_list F.slot_int_index.lookup
    (call_meets F.slot_int_rmul (typeIs_int s x u) F.entry_int_rmul (F.args_int_rmul_2 _ _) (int___rmul___int_list x u l items k)
      ⟨hl, rfl, ⟨_, hl, rfl⟩, call_meets F.slot_list_mul ⟨_, hl, rfl⟩ F.entry_list_mul (F.args_list_mul_2 _ _)
        (AutoListH.list___mul___list_int_3 l items k x u (by simp [Builtin.List.listFitsIndex]; omega) (by omega) (by simp [Builtin.List.listTooLong, sizeLine]; omega)) ⟨hl, h⟩⟩)
theorem b_mull {d : PyData} {i : Int} {n : Nat} (hi : i = n) (hn : n < 1000) : BinOK X .Mult (.list [d]) (.int i) (.list (List.replicate n d)) := .of fun σ S _ _ R ra rb => by
  subst hi
  obtain ⟨a, vs, rfl, ha, ⟨k, pa⟩, qa⟩ := rep_list ra
  obtain ⟨u, rfl⟩ := rep_int rb
  obtain ⟨v, hv, rv⟩ := one_of qa
  have evs : vs = #[v] := by apply Array.ext'; rw [hv]
  subst evs
  have hw : ∀ m (acc : Array Value), List.foldl (fun x1 x2 => x1 ++ x2) acc (List.replicate m #[v]) = acc ++ (List.replicate m v).toArray := by
    intro m
    induction m with
    | zero => intro acc; simp
    | succ m ih =>
      intro acc
      rw [List.replicate_succ, List.foldl_cons, ih, List.replicate_succ]
      apply Array.ext'
      simp
  refine mul_any pa (by omega) (by omega) (by simp; omega) ?_
  have e : List.foldl (fun x1 x2 => x1 ++ x2) #[] (List.replicate (if (#[v] : Array Value).isEmpty = true then 0 else (n : Int).toNat) #[v]) = (List.replicate n v).toArray := by
    rw [hw]
    simp
  rw [e]
  exact ⟨.push _, rep_newList R (RepAll.replicate rv n)⟩
end
variable {prog : Program} {w : World}

noncomputable def sgnN (s : Fin 8) : Int := match s with
  | 0 => 19 | 1 => 18 | 2 => 32 | 3 => 20 | 4 => 21 | 5 => 30 | 6 => 28 | 7 => 51
noncomputable def dotN (s : Fin 4) : List Int := match s with
  | 0 => [] | 1 => [23] | 2 => [23, 23] | 3 => [52]
noncomputable def farN (b : Bool) : List Int := [cond b 47 17]
noncomputable def notN (b : Bool) : List Int := List.replicate b.toNat 31
theorem sgnN_at : ∀ (s : Fin 8), [PyData.int 19, .int 18, .int 32, .int 20, .int 21, .int 30, .int 28, .int 51][(fin s).toNat]? = some (.int (sgnN s))
  | 0 | 1 | 2 | 3 | 4 | 5 | 6 | 7 => rfl
theorem dotN_at : ∀ (s : Fin 4), [PyData.list [], .list [.int 23], .list [.int 23, .int 23], .list [.int 52]][(fin s).toNat]? = some (.list ((dotN s).map .int))
  | 0 | 1 | 2 | 3 => rfl
theorem farN_at : ∀ (b : Bool), [PyData.list [.int 17], .list [.int 47]][(bi b).toNat]? = some (.list ((farN b).map .int))
  | true | false => rfl
noncomputable def boxD (b : Bx) (inner : List Int) : List Int := (((((farN b.far ++ notN b.turn) ++ [sgnN b.sign]) ++ dotN b.dots) ++ notN b.back) ++ inner) ++ [12 + bi b.mark]
noncomputable def formD (f : Fm) (s0 s1 : List Int) : List Int := ((((((notN f.turn ++ [sgnN f.sign]) ++ notN f.first) ++ s0) ++ [sgnN f.other]) ++ notN f.second) ++ s1) ++ [12 + bi f.mark]
noncomputable def saidD (L : Law) (sm : Fin 4) (i : Bool) (inner : List Int) : List Int := if bitS sm i then [255] else boxD (L.bx i) inner
noncomputable def dueG (L : Law) (sm : Fin 4) (wh : Bool) (d : Bool → List Int) : List Int := formD (L.fm wh) (saidD L sm false (d false)) (saidD L sm true (d true))
theorem not_map (b : Bool) : (notN b).map PyData.int = List.replicate b.toNat (.int 31) := by simp [notN]
theorem dot_len (s : Fin 4) : (dotN s).length ≤ 2 := by revert s; decide
theorem not_len (b : Bool) : (notN b).length ≤ 1 := by cases b <;> decide
theorem saidD_len {L : Law} {sm : Fin 4} {i : Bool} {d : List Int} (h : d.length ≤ 1000) : (saidD L sm i d).length ≤ 1100 := by
  unfold saidD
  split
  · simp
  · have l4 := dot_len (L.bx i).dots
    have l5 := not_len (L.bx i).turn
    have l6 := not_len (L.bx i).back
    simp [boxD, farN]; omega

theorem fn_due {L : Law} {sm : Fin 4} {wh : Bool} {d : Bool → List Int} {n : Nat} (hlen : ∀ i, (d i).length ≤ 1000)
    (hd : ∀ i, bitS sm i = false → Fn prog w 140 [L.fd, L.bd, .int (fin sm + 2 ^ (bi i).toNat), .int (bi (L.bx i).about)] (.list ((d i).map .int)) n) :
    Fn prog w 140 [L.fd, L.bd, .int (fin sm), .int (bi wh)] (.list ((dueG L sm wh d).map .int)) (n + 1) := by
  refine fn_def ["forms", "boxes", "some", "which"] ["signs", "said", "i", "far", "turn", "sign", "dots", "back", "mark", "about", "row", "first", "other", "second"] rfl rfl rfl rfl (by kernel_rfl) (fun vs h => ?_) rfl (fun A s₀ env O hF => ?_)
  · obtain ⟨a, b, c, e, rfl⟩ := len4 h; rfl
  · have l3 := Bool.toNat_le
    have hsl : (20000 : Nat) ≤ sizeLine := by decide
    refine exs_cons (ex_assign 4 (ev_ints [19, 18, 32, 20, 21, 30, 28, 51] rfl (by decide)) rfl (hF.sto (by kernel_rfl)) (by exact Nat.le_of_ble_eq_true rfl)) ?_
    refine exs_cons (ex_assign_own 5 (evf_list evs_nil (by decide)) rfl (hF.sto (by kernel_rfl)) (by exact Nat.le_of_ble_eq_true rfl)) ?_
    refine exs_cons (ex_for (ds := [.int (bi false), .int (bi true)]) (evi_range (n := 2) (blt_of (hF.kd (by kernel_rfl)) (by kernel_rfl) (by kernel_rfl) (by kernel_rfl)) ev_int (by decide)) (for_inv (fun i => [some (.fro L.fd), some (.fro L.bd), some (.fro (.int (fin sm))), some (.fro (.int (bi wh))), some (.fro (.list [PyData.int 19, .int 18, .int 32, .int 20, .int 21, .int 30, .int 28, .int 51])), some (.own (([false, true].take i).map fun i => .list ((saidD L sm i (d i)).map .int))), none, none, none, none, none, none, none, none, none, none, none, none]) [.int (bi false), .int (bi true)] 0 fun i dd hdd => ?_) (by intro h; cases h)) ?_
    · obtain ⟨j, rfl, rfl⟩ : ∃ j : Bool, i = j.toNat ∧ dd = .int (bi j) := by
        match i, hdd with
        | 0, hd => cases hd; exact ⟨false, rfl, rfl⟩
        | 1, hd => cases hd; exact ⟨true, rfl, rfl⟩
      rw [Nat.zero_add]
      have e : (([false, true].take (j.toNat + 1)).map fun i => PyData.list ((saidD L sm i (d i)).map .int)) = (([false, true].take j.toNat).map fun i => PyData.list ((saidD L sm i (d i)).map .int)) ++ [.list ((saidD L sm j (d j)).map .int)] := by
        cases j <;> rfl
      rw [e]
      have l4 := dot_len (L.bx j).dots
      have l5 := not_len (L.bx j).turn
      have l6 := not_len (L.bx j).back
      have hp : (0 : Int) ≤ bi j := bi_nn j
      have hp1 : bi j ≤ 1 := bi_le j
      have p0 : (bi j).toNat ≤ 1 := by cases j <;> decide
      have pw : ((2 : Int) ^ (bi j).toNat) = 1 ∨ ((2 : Int) ^ (bi j).toNat) = 2 := by cases j <;> decide
      have hdj := hlen j
      cases hb : bitS sm j with
      | true =>
        rw [saidD, hb, if_pos rfl]
        apply Turn.next
        · exact as_name 6 rfl (hF.sto (by kernel_rfl)) (by exact Nat.le_of_ble_eq_true rfl)
        · refine exs_cons (ex_if_t (tt_b (tt_cmp (ev_bin (ev_bin (ev_name 2 rfl rfl) (ev_bin ev_int (ev_name 6 rfl rfl) (b_pow hp (by omega) (by decide))) (b_floordiv (by omega) (by omega))) ev_int (b_mod (by decide) (by decide))) ev_int c_eqi) (by rw [bit_eq, hb])) (exs_cons (ex_expr (ev_append 5 rfl rfl (ev_ints [255] rfl (by decide)) rfl (by simp; omega) rfl)) exs_nil)) exs_nil
        · exact (wk_keep (wk_keep (wk_keep (wk_keep (wk_keep (wk_keep (wk_drop (Wk.refl _))))))))
      | false =>
        rw [saidD, hb, if_neg (by decide)]
        apply Turn.next
        · exact as_name 6 rfl (hF.sto (by kernel_rfl)) (by exact Nat.le_of_ble_eq_true rfl)
        · apply exs_cons
          · apply ex_if_f
            · exact tt_b (tt_cmp (ev_bin (ev_bin (ev_name 2 rfl rfl) (ev_bin ev_int (ev_name 6 rfl rfl) (b_pow hp (by omega) (by decide))) (b_floordiv (by omega) (by omega))) ev_int (b_mod (by decide) (by decide))) ev_int c_eqi) (by rw [bit_eq, hb])
            · have lt := l3 (L.bx j).turn
              have lb := l3 (L.bx j).back
              refine exs_cons (ex_unpack (ev_item (ev_name 1 rfl rfl) (ev_name 6 rfl rfl) (bi_nn j) (bi_lt j) (bd_at L j)) (as_list (ass_cons (as_name 7 rfl (hF.sto (by kernel_rfl)) (by exact Nat.le_of_ble_eq_true rfl)) (ass_cons (as_name 8 rfl (hF.sto (by kernel_rfl)) (by exact Nat.le_of_ble_eq_true rfl)) (ass_cons (as_name 9 rfl (hF.sto (by kernel_rfl)) (by exact Nat.le_of_ble_eq_true rfl)) (ass_cons (as_name 10 rfl (hF.sto (by kernel_rfl)) (by exact Nat.le_of_ble_eq_true rfl)) (ass_cons (as_name 11 rfl (hF.sto (by kernel_rfl)) (by exact Nat.le_of_ble_eq_true rfl)) (ass_cons (as_name 12 rfl (hF.sto (by kernel_rfl)) (by exact Nat.le_of_ble_eq_true rfl)) (ass_cons (as_name 13 rfl (hF.sto (by kernel_rfl)) (by exact Nat.le_of_ble_eq_true rfl)) ass_nil))))))))) ?_
              refine exs_cons (ex_assign 14 (ev_bin (ev_bin (ev_bin (ev_item (ev_list (evs_cons (ev_ints [17] rfl (by decide)) (evs_cons (ev_ints [47] rfl (by decide)) evs_nil)) (by decide)) (ev_name 7 rfl rfl) (bi_nn _) (bi_lt _) (farN_at _))
                (ev_bin (ev_ints [31] rfl (by decide)) (ev_name 8 rfl rfl) (b_mull (bi_nat _) (by omega))) (b_addl (by simp [farN]; omega)))
                (ev_list (evs_cons (ev_item (ev_name 4 rfl rfl) (ev_name 9 rfl rfl) (fin_nn _) (fin_lt _ (by decide)) (sgnN_at _)) evs_nil) (by exact Nat.le_of_ble_eq_true rfl)) (b_addl (by simp [farN]; omega)))
                (ev_item (ev_list (evs_cons (ev_ints [] rfl (by decide)) (evs_cons (ev_ints [23] rfl (by decide)) (evs_cons (ev_ints [23, 23] rfl (by decide)) (evs_cons (ev_ints [52] rfl (by decide)) evs_nil)))) (by decide)) (ev_name 10 rfl rfl) (fin_nn _) (fin_lt _ (by decide)) (dotN_at _)) (b_addl (by simp [farN]; omega))) rfl (hF.sto (by kernel_rfl)) (by exact Nat.le_of_ble_eq_true rfl)) ?_
              exact exs_cons (ex_expr (ev_append 5 rfl rfl (ev_bin (ev_bin (ev_bin (ev_name 14 rfl rfl)
                (ev_bin (ev_ints [31] rfl (by decide)) (ev_name 11 rfl rfl) (b_mull (bi_nat _) (by omega))) (b_addl (by simp [farN]; omega)))
                (ev_fn (hF.kd (by kernel_rfl)) (evs_cons (ev_name 0 rfl rfl) (evs_cons (ev_name 1 rfl rfl) (evs_cons (ev_bin (ev_name 2 rfl rfl) (ev_bin ev_int (ev_name 6 rfl rfl) (b_pow hp (by omega) (by decide))) b_add) (evs_cons (ev_name 13 rfl rfl) evs_nil)))) (hd j hb) (Nat.le_refl _) (by kernel_rfl) (by kernel_rfl) (by kernel_rfl)) (b_addl (by simp [farN]; omega)))
                (ev_list (evs_cons (ev_bin ev_int (ev_name 12 rfl rfl) b_add) evs_nil) (by exact Nat.le_of_ble_eq_true rfl)) (b_addl (by simp [farN]; omega))) rfl (by simp; omega) rfl)) exs_nil
          · exact exs_nil
        · simp only [boxD, List.map_append, not_map]
          exact (wk_keep (wk_keep (wk_keep (wk_keep (wk_keep (wk_keep (wk_drop (wk_drop (wk_drop (wk_drop (wk_drop (wk_drop (wk_drop (wk_drop (wk_drop (Wk.refl _))))))))))))))))
    · have l4 := l3 (L.fm wh).turn
      have l5 := l3 (L.fm wh).first
      have l6 := l3 (L.fm wh).second
      have l9 := saidD_len (L := L) (sm := sm) (i := false) (hlen false)
      have l10 := saidD_len (L := L) (sm := sm) (i := true) (hlen true)
      refine exs_cons (ex_unpack (ev_item (ev_name 0 rfl rfl) (ev_name 3 rfl rfl) (bi_nn wh) (bi_lt wh) (fd_at L wh)) (as_list (ass_cons (as_name 8 rfl (hF.sto (by kernel_rfl)) (by exact Nat.le_of_ble_eq_true rfl)) (ass_cons (as_name 9 rfl (hF.sto (by kernel_rfl)) (by exact Nat.le_of_ble_eq_true rfl)) (ass_cons (as_name 15 rfl (hF.sto (by kernel_rfl)) (by exact Nat.le_of_ble_eq_true rfl)) (ass_cons (as_name 16 rfl (hF.sto (by kernel_rfl)) (by exact Nat.le_of_ble_eq_true rfl)) (ass_cons (as_name 17 rfl (hF.sto (by kernel_rfl)) (by exact Nat.le_of_ble_eq_true rfl)) (ass_cons (as_name 12 rfl (hF.sto (by kernel_rfl)) (by exact Nat.le_of_ble_eq_true rfl)) ass_nil)))))))) ?_
      refine exs_cons (ex_assign 14 (ev_bin (ev_bin (ev_bin (ev_bin (ev_ints [31] rfl (by decide)) (ev_name 8 rfl rfl) (b_mull (bi_nat _) (by omega)))
          (ev_list (evs_cons (ev_item (ev_name 4 rfl rfl) (ev_name 9 rfl rfl) (fin_nn _) (fin_lt _ (by decide)) (sgnN_at _)) evs_nil) (by exact Nat.le_of_ble_eq_true rfl)) (b_addl (by simp; omega)))
          (ev_bin (ev_ints [31] rfl (by decide)) (ev_name 15 rfl rfl) (b_mull (bi_nat _) (by omega))) (b_addl (by simp; omega)))
          (Ev0.ev (ev0_item_own (d := .list ((saidD L sm false (d false)).map .int)) 5 rfl rfl ev0_int (by decide) (by decide) rfl)) (b_addl (by simp; omega))) rfl (hF.sto (by kernel_rfl)) (by exact Nat.le_of_ble_eq_true rfl)) ?_
      have eD : (dueG L sm wh d).map PyData.int = ((((((List.replicate (L.fm wh).turn.toNat (PyData.int 31) ++ [.int (sgnN (L.fm wh).sign)]) ++ List.replicate (L.fm wh).first.toNat (PyData.int 31)) ++ (saidD L sm false (d false)).map .int) ++ [.int (sgnN (L.fm wh).other)]) ++ List.replicate (L.fm wh).second.toNat (PyData.int 31)) ++ (saidD L sm true (d true)).map .int) ++ [.int (12 + bi (L.fm wh).mark)] := by
        simp only [dueG, formD, List.map_append, not_map]
        rfl
      rw [eD]
      exact exs_ret (ex_return (ev_bin (ev_bin (ev_bin (ev_bin (ev_name 14 rfl rfl)
          (ev_list (evs_cons (ev_item (ev_name 4 rfl rfl) (ev_name 16 rfl rfl) (fin_nn _) (fin_lt _ (by decide)) (sgnN_at _)) evs_nil) (by exact Nat.le_of_ble_eq_true rfl)) (b_addl (by simp; omega)))
          (ev_bin (ev_ints [31] rfl (by decide)) (ev_name 17 rfl rfl) (b_mull (bi_nat _) (by omega))) (b_addl (by simp; omega)))
          (Ev0.ev (ev0_item_own (d := .list ((saidD L sm true (d true)).map .int)) 5 rfl rfl ev0_int (by decide) (by decide) rfl)) (b_addl (by simp; omega)))
          (ev_list (evs_cons (ev_bin ev_int (ev_name 12 rfl rfl) b_add) evs_nil) (by exact Nat.le_of_ble_eq_true rfl)) (b_addl (by simp; omega))))
end Mine
open PySem PySem.Spec PySem.Calls PySem.W PyProof.Rows
set_option Elab.async false
set_option maxRecDepth 100000
set_option maxHeartbeats 1000000
set_option linter.unusedVariables false
namespace Mine
section
variable {X : Fx} {σ σ1 σ2 σ3 : Sg} {pos p2 p3 : Pos} {k : Nat}
theorem b_xorb {a b : Bool} : BinOK X .BitXor (.int (bi a)) (.int (bi b)) (.int (bi (a ^^ b))) := by
  have : bi (a ^^ b) = Builtin.bitXor (bi a) (bi b) := by cases a <;> cases b <;> decide
  rw [this]; exact b_xor
noncomputable def iN (l : List Nat) : List PyData := l.map fun (v : Nat) => .int (v : Int)
noncomputable def bN (l : List Bool) : List PyData := l.map fun b => .int (bi b)
theorem iN_len (l : List Nat) : (iN l).length = l.length := by simp [iN]
theorem bN_len (l : List Bool) : (bN l).length = l.length := by simp [bN]
theorem min_1 {l : List Bool} : CallOK X σ (.builtin "min") [.list (.int 1 :: bN l)] (.int (bi (l.all id))) := by
  have e : (PyData.int 1 :: bN l) = (1 :: l.map bi).map .int := by simp [bN]
  rw [e]
  clear e
  refine call_min ?_ ?_
  · induction l with
    | nil => simp [bi]
    | cons b l ih =>
      cases b
      · simp [bi]
      · rcases List.mem_cons.mp ih with h | h
        · simp only [List.all_cons, id, Bool.true_and]; rw [h]; simp
        · simp only [List.all_cons, id, Bool.true_and]; exact List.mem_cons_of_mem _ (List.mem_cons_of_mem _ h)
  · intro a ha
    rcases List.mem_cons.mp ha with rfl | ha
    · exact bi_le _
    · obtain ⟨b, hb, rfl⟩ := List.mem_map.mp ha
      cases b
      · have : l.all id = false := by
          rw [Bool.eq_false_iff]; intro h; have := List.all_eq_true.mp h false hb; cases this
        rw [this]; exact Int.le_refl _
      · exact bi_le _
theorem min_0 {l : List Bool} (hl : l ≠ []) : CallOK X σ (.builtin "min") [.list (bN l)] (.int (bi (l.all id))) := by
  have e : bN l = (l.map bi).map .int := by simp [bN]
  rw [e]
  clear e
  refine call_min ?_ ?_
  · induction l with
    | nil => exact absurd rfl hl
    | cons b l ih =>
      cases b
      · simp [bi]
      · simp only [List.all_cons, id, Bool.true_and]
        cases l with
        | nil => simp [bi]
        | cons c l => exact List.mem_cons_of_mem _ (ih (by simp))
  · intro a ha
    obtain ⟨b, hb, rfl⟩ := List.mem_map.mp ha
    cases b
    · have : l.all id = false := by
        rw [Bool.eq_false_iff]; intro h; have := List.all_eq_true.mp h false hb; cases this
      rw [this]; exact Int.le_refl _
    · exact bi_le _
theorem bi_at {n : Nat} {f : Nat → PyData} {k : Nat} (hk : k < n) : ((List.range n).map f)[((k : Nat) : Int).toNat]? = some (f k) := by
  rw [Int.toNat_natCast, List.getElem?_map, List.getElem?_range hk]; rfl
theorem pair_at {f : Bool → PyData} (b : Bool) : [f false, f true][(bi b).toNat]? = some (f b) := by cases b <;> rfl
theorem rg_at {n : Nat} {f : Nat → PyData} {k : Nat} (hk : k < n) : ((List.range n).map f)[k]? = some (f k) := by
  rw [List.getElem?_map, List.getElem?_range hk]; rfl
theorem evi_d {e : Expr} {tup : Bool} {ds ds' : List PyData} (h : EvI X tup e σ ds σ1) (hd : ds = ds') : EvI X tup e σ ds' σ1 := hd ▸ h
theorem map_some {α : Type} (xs : List α) (f : α → PyData) : (xs.map fun x => some (f x)).filterMap id = xs.map f := by
  induction xs with
  | nil => rfl
  | cons x xs ih => simp
theorem rg_at' {f : Nat → PyData} {k v : Nat} (hv : v < k + 1) : ((List.range k).map f ++ [f k])[((v : Nat) : Int).toNat]? = some (f v) := by
  rw [Int.toNat_natCast]
  have : (List.range (k + 1)).map f = (List.range k).map f ++ [f k] := by simp [List.range_succ]
  rw [← this]; exact rg_at hv
theorem nat_lt {k : Nat} (h : k < 1000) : (k : Int) < 2 ^ 63 := by omega
end
variable {prog : Program} {w : World}

structure WalkF (L : Law) (n : Nat) (u : Nat → Int) (line : Nat → List Nat) (mk : Bool → Nat → Bool) (told kept : Nat → Bool → Bool) : Prop where
  small : n ≤ 20
  hline : ∀ k, k < n → line k = if 0 ≤ u k then (u k).toNat :: line (u k).toNat else []
  below : ∀ k, k < n → 0 ≤ u k → (u k).toNat < k
  lt : ∀ k, k < n → ∀ v ∈ line k, v < k
  short : ∀ k, k < n → (line k).length ≤ 20
  htold : ∀ k, k < n → ∀ wh, told k wh = ((L.fm wh).turn ^^ twoB (L.fm wh).sign ((L.fm wh).first ^^ (((line k).drop (L.bx false).far.toNat).map fun v => kept v false).all id) (twoB (L.fm wh).other ((L.fm wh).second ^^ (((line k).drop (L.bx true).far.toNat).map fun v => kept v true).all id) (mk (L.fm wh).mark k)))
  hkept : ∀ k, k < n → ∀ i, kept k i = ((L.bx i).turn ^^ twoB (L.bx i).sign (((if 0 < fin (L.bx i).dots then k :: line k else [k]).map fun v => ((L.bx i).back ^^ told v (L.bx i).about)).all id) (mk (L.bx i).mark k))

noncomputable def pairD (f : Nat → Bool → Bool) (k : Nat) : PyData := .list [.int (bi (f k false)), .int (bi (f k true))]
noncomputable def marksD (n : Nat) (mk : Bool → Nat → Bool) : PyData := .list [.list ((List.range n).map fun k => .int (bi (mk false k))), .list ((List.range n).map fun k => .int (bi (mk true k)))]
noncomputable def upsD (n : Nat) (u : Nat → Int) : PyData := .list ((List.range n).map fun k => .int (u k))
theorem range_succ_map {α : Type} (f : Nat → α) (k : Nat) : (List.range (k + 1)).map f = (List.range k).map f ++ [f k] := by simp [List.range_succ]
theorem marks_at (n : Nat) (mk : Bool → Nat → Bool) (b : Bool) : [PyData.list ((List.range n).map fun k => .int (bi (mk false k))), .list ((List.range n).map fun k => .int (bi (mk true k)))][(bi b).toNat]? = some (.list ((List.range n).map fun k => .int (bi (mk b k)))) := by cases b <;> rfl

theorem fn_walk {L : Law} {n : Nat} {u : Nat → Int} {line : Nat → List Nat} {mk : Bool → Nat → Bool} {told kept : Nat → Bool → Bool} (W : WalkF L n u line mk told kept) :
    Fn prog w 172 [L.fd, L.bd, upsD n u, marksD n mk] (.list ((List.range n).map fun k => .int (bi (told k false)))) 2 := by
  refine fn_def ["forms", "boxes", "ups", "marks"] ["lines", "told", "kept", "k", "line", "held", "says", "turn", "sign", "first", "other", "second", "mark", "right", "far", "dots", "back", "about", "left"] rfl rfl rfl rfl (by kernel_rfl) (fun vs h => ?_) rfl (fun A s₀ env O hF => ?_)
  · obtain ⟨a, b, c, e, rfl⟩ := len4 h; rfl
  · have hsl : (20000 : Nat) ≤ sizeLine := by decide
    have hsm := W.small
    refine exs_cons (ex_assign_own 4 (evf_list evs_nil (by decide)) rfl (hF.sto (by kernel_rfl)) (by exact Nat.le_of_ble_eq_true rfl)) ?_
    refine exs_cons (ex_assign_own 5 (evf_list evs_nil (by decide)) rfl (hF.stoC (by kernel_rfl)) (by exact Nat.le_of_ble_eq_true rfl)) ?_
    refine exs_cons (ex_assign_own 6 (evf_list evs_nil (by decide)) rfl (hF.stoC (by kernel_rfl)) (by exact Nat.le_of_ble_eq_true rfl)) ?_
    refine exs_cons (ex_for (evi_range (n := n) (blt_of (hF.kd (by kernel_rfl)) (by kernel_rfl) (by kernel_rfl) (by kernel_rfl)) (ev_d (ev_bfun (blt_of (hF.kd (by kernel_rfl)) (by kernel_rfl) (by kernel_rfl) (by kernel_rfl)) (evs_cons (ev_name 2 rfl rfl) evs_nil) (call_len (by simp; omega))) (by simp)) (by omega)) (for_inv (fun k => [some (.fro L.fd), some (.fro L.bd), some (.fro (upsD n u)), some (.fro (marksD n mk)), some (.own ((List.range k).map fun j => .list (iN (line j)))), some (.own ((List.range k).map (pairD told))), some (.own ((List.range k).map (pairD kept))), none, none, none, none, none, none, none, none, none, none, none, none, none, none, none, none]) (intsTo n) 0 fun k d hd => ?_) (by intro h; cases h)) ?_
    · have hk : k < n := by
        have := (List.getElem?_eq_some_iff.mp hd).1
        simpa [intsTo] using this
      obtain rfl : d = .int (k : Nat) := by
        rw [intsTo, List.getElem?_map, List.getElem?_range hk] at hd
        exact (Option.some.inj hd).symm
      rw [Nat.zero_add, range_succ_map, range_succ_map, range_succ_map]
      have hln := W.short k hk
      apply Turn.next
      · exact as_name 7 rfl (hF.sto (by kernel_rfl)) (by exact Nat.le_of_ble_eq_true rfl)
      · apply exs_cons
        · apply ex_assign 8 (d := .list (iN (line k)))
          · apply ev_ifexp (b := decide (0 ≤ u k))
            · exact (tt_cmp (ev_item (ev_name 2 rfl rfl) (ev_name 7 rfl rfl) (Int.natCast_nonneg k) (nat_lt (by omega)) (bi_at hk)) ev_int c_ge)
            · intro hb
              have h0 : 0 ≤ u k := of_decide_eq_true hb
              have hlt := W.below k hk h0
              refine ev_d (ev_bin (ev_list (evs_cons (ev_item (ev_name 2 rfl rfl) (ev_name 7 rfl rfl) (Int.natCast_nonneg k) (nat_lt (by omega)) (bi_at hk)) evs_nil) (by exact Nat.le_of_ble_eq_true rfl)) (Ev0.ev (ev0_item_own 4 rfl rfl (ev0_item (ev0_name 2 rfl rfl) (ev0_name 7 rfl rfl) (Int.natCast_nonneg k) (nat_lt (by omega)) (bi_at hk)) h0 (by omega) (rg_at hlt))) (b_addl (by have := W.short (u k).toNat (by omega); rw [iN_len]; show 1 + _ ≤ _; omega))) ?_
              rw [W.hline k hk, if_pos h0]
              simp [iN]
              omega
            · intro hb
              have h0 : ¬ 0 ≤ u k := of_decide_eq_false hb
              rw [W.hline k hk, if_neg h0]
              exact ev_list evs_nil (by decide)
          · rfl
          · exact hF.stoC (by kernel_rfl)
          · simp
        refine exs_cons (ex_expr (ev_append 4 rfl rfl (ev_name 8 rfl rfl) rfl (by simp; omega) rfl)) ?_
        refine exs_cons (ex_lc 9 (ds := [.int (bi false), .int (bi true)]) [_, _] ["i", "kept", "line", "boxes"] (some "i") _ [none, some 6, some 8, some 1] hF.hkd (evi_range (n := 2) (blt_of (hF.kd (by kernel_rfl)) (by kernel_rfl) (by kernel_rfl) (by kernel_rfl)) ev_int (by decide)) (by kernel_rfl) rfl (fun env' s1 O' hC => comp_cons (TurnC.take (as_name 0 rfl (hC.stoC (by kernel_rfl) rfl) (by exact Nat.le_of_ble_eq_true rfl)) .nil (ev_bfun (d := .int (bi ((((line k).drop (L.bx false).far.toNat).map fun v => kept v false).all id))) (blt_of (hC.glob (by kernel_rfl)) (by kernel_rfl) (by kernel_rfl) (by kernel_rfl)) (evs_cons (ev_bin (ev_ints [1] rfl (by decide))
            (ev_lc (rr := bN (((line k).drop (L.bx false).far.toNat).map fun v => kept v false)) (((line k).drop (L.bx false).far.toNat).map fun v => some (.int (bi (kept v false)))) ["v", "kept", "i"] none _ [none, some 1, some 0] hC.hkd
              (evi_d (evi_list (ev_from (a := (L.bx false).far.toNat) (ev_name 2 rfl rfl) (ev_item (ev_item (ev_name 3 rfl rfl) (ev_name 0 rfl rfl) (bi_nn false) (bi_lt false) (bd_at L false)) ev_int (by decide) (by decide) rfl) (bi_nat _) (by rw [iN_len]; omega))) (by exact (List.map_drop).symm)) (by kernel_rfl) rfl
              (fun env2 s2 O2 hC2 => comp_of _ fun v hv => TurnC.take (as_name 0 rfl (hC2.sto (by kernel_rfl)) (by exact Nat.le_of_ble_eq_true rfl)) .nil
                (ev_item (Ev0.ev (ev0_item_own 1 rfl rfl (ev0_name 0 rfl rfl) (Int.natCast_nonneg v) (nat_lt (by have := W.lt k hk v (List.mem_of_mem_drop hv); omega)) (bi_at (W.lt k hk v (List.mem_of_mem_drop hv))))) (ev_name 2 rfl rfl) (bi_nn false) (bi_lt false) (pair_at (f := fun b => .int (bi (kept v b))) false)))
              (by rw [map_some, bN, List.map_map]; rfl) (by rw [List.length_map, List.length_drop]; omega) (by intro h; cases h))
            (b_addl (by simp [bN_len]; omega))) evs_nil) min_1)) (comp_cons (TurnC.take (as_name 0 rfl (hC.stoC (by kernel_rfl) rfl) (by exact Nat.le_of_ble_eq_true rfl)) .nil (ev_bfun (d := .int (bi ((((line k).drop (L.bx true).far.toNat).map fun v => kept v true).all id))) (blt_of (hC.glob (by kernel_rfl)) (by kernel_rfl) (by kernel_rfl) (by kernel_rfl)) (evs_cons (ev_bin (ev_ints [1] rfl (by decide))
            (ev_lc (rr := bN (((line k).drop (L.bx true).far.toNat).map fun v => kept v true)) (((line k).drop (L.bx true).far.toNat).map fun v => some (.int (bi (kept v true)))) ["v", "kept", "i"] none _ [none, some 1, some 0] hC.hkd
              (evi_d (evi_list (ev_from (a := (L.bx true).far.toNat) (ev_name 2 rfl rfl) (ev_item (ev_item (ev_name 3 rfl rfl) (ev_name 0 rfl rfl) (bi_nn true) (bi_lt true) (bd_at L true)) ev_int (by decide) (by decide) rfl) (bi_nat _) (by rw [iN_len]; omega))) (by exact (List.map_drop).symm)) (by kernel_rfl) rfl
              (fun env2 s2 O2 hC2 => comp_of _ fun v hv => TurnC.take (as_name 0 rfl (hC2.sto (by kernel_rfl)) (by exact Nat.le_of_ble_eq_true rfl)) .nil
                (ev_item (Ev0.ev (ev0_item_own 1 rfl rfl (ev0_name 0 rfl rfl) (Int.natCast_nonneg v) (nat_lt (by have := W.lt k hk v (List.mem_of_mem_drop hv); omega)) (bi_at (W.lt k hk v (List.mem_of_mem_drop hv))))) (ev_name 2 rfl rfl) (bi_nn true) (bi_lt true) (pair_at (f := fun b => .int (bi (kept v b))) true)))
              (by rw [map_some, bN, List.map_map]; rfl) (by rw [List.length_map, List.length_drop]; omega) (by intro h; cases h))
            (b_addl (by simp [bN_len]; omega))) evs_nil) min_1)) .nil)) rfl (by decide) (by intro h; cases h) rfl (hF.sto (by kernel_rfl)) (by exact Nat.le_of_ble_eq_true rfl) (swaps_of (hF.kd (by kernel_rfl)) (by rw [hF.scope]) rfl (by kernel_rfl))) ?_
        refine exs_cons (ex_assign_own 10 (evf_list evs_nil (by decide)) rfl (hF.sto (by kernel_rfl)) (by exact Nat.le_of_ble_eq_true rfl)) ?_
        refine exs_cons (ex_for (ds := [L.f0.d, L.f1.d]) (evi_list (ev_name 0 rfl rfl)) (for_inv (fun i => [some (.fro L.fd), some (.fro L.bd), some (.fro (upsD n u)), some (.fro (marksD n mk)), some (.own ((List.range k).map (fun j => .list (iN (line j))) ++ [.list (iN (line k))])), some (.own ((List.range k).map (pairD told))), some (.own ((List.range k).map (pairD kept))), some (.fro (.int (k : Nat))), some (.fro (.list (iN (line k)))), some (.fro (.list [.int (bi ((((line k).drop (L.bx false).far.toNat).map fun v => kept v false).all id)), .int (bi ((((line k).drop (L.bx true).far.toNat).map fun v => kept v true).all id))])), some (.own (([false, true].take i).map fun wh => .int (bi (told k wh)))), none, none, none, none, none, none, none, none, none, none, none, none]) [L.f0.d, L.f1.d] 0 fun i d hd => ?_) (by intro h; cases h)) ?_
        · obtain ⟨j, rfl, rfl⟩ : ∃ j : Bool, i = j.toNat ∧ d = (L.fm j).d := by
            match i, hd with
            | 0, hd => cases hd; exact ⟨false, rfl, rfl⟩
            | 1, hd => cases hd; exact ⟨true, rfl, rfl⟩
          rw [Nat.zero_add]
          have e : (([false, true].take (j.toNat + 1)).map fun wh => PyData.int (bi (told k wh))) = (([false, true].take j.toNat).map fun wh => PyData.int (bi (told k wh))) ++ [.int (bi (told k j))] := by cases j <;> rfl
          rw [e, W.htold k hk j]
          apply Turn.next
          · exact as_list (ass_cons (as_name 11 rfl (hF.sto (by kernel_rfl)) (by exact Nat.le_of_ble_eq_true rfl)) (ass_cons (as_name 12 rfl (hF.sto (by kernel_rfl)) (by exact Nat.le_of_ble_eq_true rfl)) (ass_cons (as_name 13 rfl (hF.sto (by kernel_rfl)) (by exact Nat.le_of_ble_eq_true rfl)) (ass_cons (as_name 14 rfl (hF.sto (by kernel_rfl)) (by exact Nat.le_of_ble_eq_true rfl)) (ass_cons (as_name 15 rfl (hF.sto (by kernel_rfl)) (by exact Nat.le_of_ble_eq_true rfl)) (ass_cons (as_name 16 rfl (hF.sto (by kernel_rfl)) (by exact Nat.le_of_ble_eq_true rfl)) ass_nil))))))
          · refine exs_cons (ex_assign 17 (ev_fn (hF.kd (by kernel_rfl)) (evs_cons (ev_name 14 rfl rfl) (evs_cons (ev_bin (ev_name 15 rfl rfl) (ev_item (ev_name 9 rfl rfl) ev_int (by decide) (by decide) rfl) b_xorb) (evs_cons (ev_item (ev_item (ev_name 3 rfl rfl) (ev_name 16 rfl rfl) (bi_nn _) (bi_lt _) (marks_at n mk _)) (ev_name 7 rfl rfl) (Int.natCast_nonneg k) (nat_lt (by omega)) (bi_at hk)) evs_nil))) fn_two (Nat.le_refl _) (by kernel_rfl) (by kernel_rfl) (by kernel_rfl)) rfl (hF.sto (by kernel_rfl)) (by exact Nat.le_of_ble_eq_true rfl)) ?_
            exact exs_cons (ex_expr (ev_append 10 rfl rfl (ev_bin (ev_name 11 rfl rfl) (ev_fn (hF.kd (by kernel_rfl)) (evs_cons (ev_name 12 rfl rfl) (evs_cons (ev_bin (ev_name 13 rfl rfl) (ev_item (ev_name 9 rfl rfl) ev_int (by decide) (by decide) rfl) b_xorb) (evs_cons (ev_name 17 rfl rfl) evs_nil))) fn_two (Nat.le_refl _) (by kernel_rfl) (by kernel_rfl) (by kernel_rfl)) b_xorb) rfl (by simp; omega) rfl)) exs_nil
          · exact (wk_keep (wk_keep (wk_keep (wk_keep (wk_keep (wk_keep (wk_keep (wk_keep (wk_keep (wk_keep (wk_keep (wk_drop (wk_drop (wk_drop (wk_drop (wk_drop (wk_drop (wk_drop (wk_drop (wk_drop (wk_drop (wk_drop (wk_drop wk_nil)))))))))))))))))))))))
        refine exs_cons (ex_expr (ev_append 5 rfl rfl (ev_name_own 10 rfl rfl) rfl (by simp; omega) rfl)) ?_
        refine exs_cons (ex_assign_own 10 (evf_list evs_nil (by decide)) rfl (hF.sto (by kernel_rfl)) (by exact Nat.le_of_ble_eq_true rfl)) ?_
        refine exs_cons (ex_for (ds := [L.b0.d, L.b1.d]) (evi_list (ev_name 1 rfl rfl)) (for_inv (fun i => [some (.fro L.fd), some (.fro L.bd), some (.fro (upsD n u)), some (.fro (marksD n mk)), some (.own ((List.range k).map (fun j => .list (iN (line j))) ++ [.list (iN (line k))])), some (.own ((List.range k).map (pairD told) ++ [pairD told k])), some (.own ((List.range k).map (pairD kept))), some (.fro (.int (k : Nat))), some (.fro (.list (iN (line k)))), some (.fro (.list [.int (bi ((((line k).drop (L.bx false).far.toNat).map fun v => kept v false).all id)), .int (bi ((((line k).drop (L.bx true).far.toNat).map fun v => kept v true).all id))])), some (.own (([false, true].take i).map fun wh => .int (bi (kept k wh)))), none, none, none, none, none, none, none, none, none, none, none, none]) [L.b0.d, L.b1.d] 0 fun i d hd => ?_) (by intro h; cases h)) ?_
        · obtain ⟨j, rfl, rfl⟩ : ∃ j : Bool, i = j.toNat ∧ d = (L.bx j).d := by
            match i, hd with
            | 0, hd => cases hd; exact ⟨false, rfl, rfl⟩
            | 1, hd => cases hd; exact ⟨true, rfl, rfl⟩
          rw [Nat.zero_add]
          have e : (([false, true].take (j.toNat + 1)).map fun wh => PyData.int (bi (kept k wh))) = (([false, true].take j.toNat).map fun wh => PyData.int (bi (kept k wh))) ++ [.int (bi (kept k j))] := by cases j <;> rfl
          rw [e, W.hkept k hk j]
          have hxl : ((if 0 < fin (L.bx j).dots then k :: line k else [k]) : List Nat).length ≤ 21 := by split <;> simp <;> omega
          have hxm : ∀ v ∈ ((if 0 < fin (L.bx j).dots then k :: line k else [k]) : List Nat), v < k + 1 := by
            intro v hv
            split at hv
            · rcases List.mem_cons.mp hv with rfl | hv
              · omega
              · have := W.lt k hk v hv; omega
            · rcases List.mem_cons.mp hv with rfl | hv
              · omega
              · cases hv
          have hxn : ((if 0 < fin (L.bx j).dots then k :: line k else [k]) : List Nat) ≠ [] := by split <;> simp
          have hxi : (if decide (0 < fin (L.bx j).dots) = true then PyData.list ([.int (k : Nat)] ++ iN (line k)) else .list [.int (k : Nat)]) = .list (iN (if 0 < fin (L.bx j).dots then k :: line k else [k])) := by
            by_cases h : 0 < fin (L.bx j).dots <;> simp [h, iN]
          generalize ((if 0 < fin (L.bx j).dots then k :: line k else [k]) : List Nat) = xs at hxl hxm hxn hxi ⊢
          apply Turn.next
          · exact as_list (ass_cons (as_name 18 rfl (hF.sto (by kernel_rfl)) (by exact Nat.le_of_ble_eq_true rfl)) (ass_cons (as_name 11 rfl (hF.sto (by kernel_rfl)) (by exact Nat.le_of_ble_eq_true rfl)) (ass_cons (as_name 12 rfl (hF.sto (by kernel_rfl)) (by exact Nat.le_of_ble_eq_true rfl)) (ass_cons (as_name 19 rfl (hF.sto (by kernel_rfl)) (by exact Nat.le_of_ble_eq_true rfl)) (ass_cons (as_name 20 rfl (hF.stoC (by kernel_rfl)) (by exact Nat.le_of_ble_eq_true rfl)) (ass_cons (as_name 16 rfl (hF.sto (by kernel_rfl)) (by exact Nat.le_of_ble_eq_true rfl)) (ass_cons (as_name 21 rfl (hF.stoC (by kernel_rfl)) (by exact Nat.le_of_ble_eq_true rfl)) ass_nil)))))))
          · refine exs_cons (ex_assign 22 (d := .int (bi ((xs.map fun v => ((L.bx j).back ^^ told v (L.bx j).about)).all id))) (ev_bfun (blt_of (hF.kd (by kernel_rfl)) (by kernel_rfl) (by kernel_rfl) (by kernel_rfl)) (evs_cons
              (ev_lc (rr := bN (xs.map fun v => ((L.bx j).back ^^ told v (L.bx j).about))) (xs.map fun v => some (.int (bi ((L.bx j).back ^^ told v (L.bx j).about)))) ["v", "back", "told", "about"] none _ [none, some 20, some 5, some 21] hF.hkd
                (evi_list (ev_d (ev_ifexp' (tt_cmp (ev_name 19 rfl rfl) ev_int c_gt) (ev_bin (ev_list (evs_cons (ev_name 7 rfl rfl) evs_nil) (by exact Nat.le_of_ble_eq_true rfl)) (ev_name 8 rfl rfl) (b_addl (by rw [iN_len]; show 1 + _ ≤ _; omega))) (ev_list (evs_cons (ev_name 7 rfl rfl) evs_nil) (by exact Nat.le_of_ble_eq_true rfl))) hxi)) (by kernel_rfl) rfl
                (fun env2 s2 O2 hC2 => comp_of xs fun v hv => TurnC.take (as_name 0 rfl (hC2.sto (by kernel_rfl)) (by exact Nat.le_of_ble_eq_true rfl)) .nil
                  (ev_bin (ev_name 1 rfl rfl) (ev_item (Ev0.ev (ev0_item_own 2 rfl rfl (ev0_name 0 rfl rfl) (Int.natCast_nonneg v) (nat_lt (by have := hxm v hv; omega)) (rg_at' (hxm v hv)))) (ev_name 3 rfl rfl) (bi_nn _) (bi_lt _) (pair_at (f := fun b => .int (bi (told v b))) _)) b_xorb))
                (by rw [map_some]; simp [bN]) (by rw [iN_len]; omega) (by intro h; cases h)) evs_nil) (min_0 (by simpa using hxn))) rfl (hF.sto (by kernel_rfl)) (by exact Nat.le_of_ble_eq_true rfl)) ?_
            exact exs_cons (ex_expr (ev_append 10 rfl rfl (ev_bin (ev_name 11 rfl rfl) (ev_fn (hF.kd (by kernel_rfl)) (evs_cons (ev_name 12 rfl rfl) (evs_cons (ev_name 22 rfl rfl) (evs_cons (ev_item (ev_item (ev_name 3 rfl rfl) (ev_name 16 rfl rfl) (bi_nn _) (bi_lt _) (marks_at n mk _)) (ev_name 7 rfl rfl) (Int.natCast_nonneg k) (nat_lt (by omega)) (bi_at hk)) evs_nil))) fn_two (Nat.le_refl _) (by kernel_rfl) (by kernel_rfl) (by kernel_rfl)) b_xorb) rfl (by simp; omega) rfl)) exs_nil
          · exact (wk_keep (wk_keep (wk_keep (wk_keep (wk_keep (wk_keep (wk_keep (wk_keep (wk_keep (wk_keep (wk_keep (wk_drop (wk_drop (wk_drop (wk_drop (wk_drop (wk_drop (wk_drop (wk_drop (wk_drop (wk_drop (wk_drop (wk_drop wk_nil)))))))))))))))))))))))
        exact exs_cons (ex_expr (ev_append 6 rfl rfl (ev_name_own 10 rfl rfl) rfl (by simp; omega) rfl)) exs_nil
      · exact (wk_keep (wk_keep (wk_keep (wk_keep (wk_keep (wk_keep (wk_keep (wk_drop (wk_drop (wk_drop (wk_drop (wk_drop (wk_drop (wk_drop (wk_drop (wk_drop (wk_drop (wk_drop (wk_drop (wk_drop (wk_drop (wk_drop (wk_drop wk_nil)))))))))))))))))))))))
    · rw [show 0 + (intsTo n).length = n by simp [intsTo]]
      refine exs_ret (ex_return (ev_lc (ds := (List.range n).map (pairD told)) (rr := (List.range n).map fun k => .int (bi (told k false))) ((List.range n).map fun k => some (.int (bi (told k false)))) ["says"] none _ [none] hF.hkd (evi_list (ev_name_own 5 rfl rfl)) (by kernel_rfl) rfl (fun env' s1 O' hC => ?_) (map_some _ _) (by simp; omega) (by intro h; cases h)))
      refine comp_of _ fun v hv => TurnC.take (as_name 0 rfl (hC.sto (by kernel_rfl)) (by exact Nat.le_of_ble_eq_true rfl)) .nil (ev_item (ev_name 0 rfl rfl) ev_int (by decide) (by decide) rfl)
end Mine
open PySem PySem.Spec PySem.Calls PySem.W PyProof.Rows
set_option Elab.async false
set_option maxRecDepth 100000
set_option maxHeartbeats 1000000
set_option linter.unusedVariables false
namespace Mine
section
variable {X : Fx} {σ σ1 σ2 σ3 : Sg} {pos p2 p3 p4 p5 p6 p7 : Pos} {k k2 k3 : Nat}
noncomputable def slash (l : List Nat) : List Nat := l.map fun c => if c = 46 then 47 else c
theorem slash_free {l : List Nat} (h : 46 ∉ l) : slash l = l := by
  unfold slash
  conv => rhs; rw [← List.map_id l]
  apply List.map_congr_left
  intro c hc
  have : c ≠ 46 := fun e => by rw [e] at hc; exact h hc
  simp [this]
theorem slash_join : ∀ parts : List Str, (∀ p ∈ parts, 46 ∉ p.cps.toList) → slash (Str.join ⟨#[46]⟩ parts).cps.toList = (Str.join ⟨#[47]⟩ parts).cps.toList
  | [], _ => rfl
  | [p], h => slash_free (h p (List.mem_singleton.mpr rfl))
  | p :: q :: r, h => by
    have ih := slash_join (q :: r) fun a ha => h a (List.mem_cons_of_mem _ ha)
    show slash (p ++ ⟨#[46]⟩ ++ Str.join ⟨#[46]⟩ (q :: r)).cps.toList = (p ++ ⟨#[47]⟩ ++ Str.join ⟨#[47]⟩ (q :: r)).cps.toList
    have e : ∀ a b : List Nat, slash (a ++ b) = slash a ++ slash b := fun a b => by simp [slash]
    simp only [Str.cps_append, Array.toList_append]
    rw [e, e, ih, slash_free (h p List.mem_cons_self)]
    rfl
theorem replace_S (l : List Nat) : Txt.replace (S l) (S [46]) (S [47]) = S (slash l) := by
  show Txt.replace (S l) ⟨#[46]⟩ ⟨#[47]⟩ = _
  rw [StrLaws.replace_one]
  have h := slash_join (Txt.split (S l) ⟨#[46]⟩) (StrLaws.split_free (S l) 46)
  rw [StrLaws.join_split] at h
  have h2 : (S l).cps.toList = l := by simp [S]
  rw [h2] at h
  rw [h]
  simp [S]

/-- '/' + x.replace('.', '/') -/
theorem ev_slash (i : Nat) {x y1 y2 y3 : Str} {l : List Nat} (hx : X.tbl[i]? = some x) (hs : σ.at i = some (.fro (.str (S l)))) (hl : l.length ≤ 1000) (h1 : y1 = S [47]) (h2 : y2 = S [46]) (h3 : y3 = S [47]) (hline : (p4.endLine == p3.line) = true) :
    Ev X (.BinOp (.Constant (.str y1) k p2) .Add (.Call (.Attribute (.Name x p5) "replace" p4) [.Constant (.str y2) k2 p6, .Constant (.str y3) k3 pos] [] p3) p7) σ (.str (S (47 :: slash l))) σ := .of fun S0 m vals R => by
  subst h1 h2 h3
  refine wpAny_BinOp (wpAny_Constant_str ?_)
  have R1 := R.grow (Grow.tok (s := S0.s) (S0.s.toks + 1))
  have q := R1.slot i
  rw [hs] at q
  obtain ⟨v, hv, rv⟩ := q
  obtain ⟨t, rfl⟩ := rep_str rv
  refine wpAny_Call_method (T := "str") (id := "str.replace") rfl rfl hline PySem.F.plainAttrs_str PySem.F.slot_str_replace PySem.F.type_str_replace (load_var R1 hx hv ⟨typeIs_str _ _ _, (fun a e => by cases e), ?_⟩)
  refine callWith_builtin rfl (evalArgs_plain (spliced_cons (wpAny_Constant_str (k := k2) (pos := p6) (spliced_cons (wpAny_Constant_str (k := k3) (pos := pos) (spliced_nil ?_))))))
  refine SC.replace (by simp) (by simp) (by simp) (by decide) (by rw [S_length, S_length]; simp; omega) fun t' kk => ?_
  rw [replace_S]
  refine SB.add (fun _ _ => ?_) (by rw [S_length, S_length]; simp [slash, sizeLine]; omega)
  rw [S_append]
  exact fin_grow R (.tok _) (.str _ _)
end
variable {prog : Program} {w : World}
structure Names (n : Nat) (u : Nat → Int) (nm : Nat → List Nat) : Prop where
  small : n ≤ 20
  below : ∀ k, k < n → 0 ≤ u k → (u k).toNat < k
  eq : ∀ k, k < n → nm k = (if 0 ≤ u k then nm (u k).toNat ++ [46] else []) ++ List.replicate (k + 1) 97
  short : ∀ k, k < n → (nm k).length ≤ 500
noncomputable def placeD (nm : Nat → List Nat) (k : Nat) : PyData := .tuple [.str (S (nm k)), .str (S (47 :: slash (nm k)))]
theorem fn_places {n : Nat} {u : Nat → Int} {nm : Nat → List Nat} (W : Names n u nm) : Fn prog w 177 [upsD n u] (.list ((List.range n).map (placeD nm))) 1 := by
  refine fn_def ["ups"] ["names", "k"] rfl rfl rfl rfl (by kernel_rfl) (fun vs h => ?_) rfl (fun A s₀ env O hF => ?_)
  · obtain ⟨a, rfl⟩ := len1 h; rfl
  · have hsl : (20000 : Nat) ≤ sizeLine := by decide
    have hsm := W.small
    refine exs_cons (ex_assign_own 1 (evf_list evs_nil (by decide)) rfl (hF.sto (by kernel_rfl)) (by exact Nat.le_of_ble_eq_true rfl)) ?_
    refine exs_cons (ex_for (evi_range (n := n) (blt_of (hF.kd (by kernel_rfl)) (by kernel_rfl) (by kernel_rfl) (by kernel_rfl)) (ev_d (ev_bfun (blt_of (hF.kd (by kernel_rfl)) (by kernel_rfl) (by kernel_rfl) (by kernel_rfl)) (evs_cons (ev_name 0 rfl rfl) evs_nil) (call_len (by simp; omega))) (by simp)) (by omega)) (for_inv (fun k => [some (.fro (upsD n u)), some (.own ((List.range k).map fun j => .str (S (nm j)))), none]) (intsTo n) 0 fun k d hd => ?_) (by intro h; cases h)) ?_
    · have hk : k < n := by
        have := (List.getElem?_eq_some_iff.mp hd).1
        simpa [intsTo] using this
      obtain rfl : d = .int (k : Nat) := by
        rw [intsTo, List.getElem?_map, List.getElem?_range hk] at hd
        exact (Option.some.inj hd).symm
      rw [Nat.zero_add, range_succ_map, W.eq k hk]
      have hsh := W.short k hk
      apply Turn.next
      · exact as_name 2 rfl (hF.sto (by kernel_rfl)) (by exact Nat.le_of_ble_eq_true rfl)
      · apply exs_cons
        · apply ex_expr
          · apply ev_append 1 rfl rfl
            · apply ev_bin
              · apply ev_ifexp (b := decide (0 ≤ u k)) (d := .str (S (if 0 ≤ u k then nm (u k).toNat ++ [46] else [])))
                · exact tt_cmp (ev_item (ev_name 0 rfl rfl) (ev_name 2 rfl rfl) (Int.natCast_nonneg k) (nat_lt (by omega)) (bi_at hk)) ev_int c_ge
                · intro hb
                  have h0 : 0 ≤ u k := of_decide_eq_true hb
                  have hlt := W.below k hk h0
                  have := W.short (u k).toNat (by omega)
                  rw [if_pos h0]
                  exact ev_bin (Ev0.ev (ev0_item_own 1 rfl rfl (ev0_item (ev0_name 0 rfl rfl) (ev0_name 2 rfl rfl) (Int.natCast_nonneg k) (nat_lt (by omega)) (bi_at hk)) h0 (by omega) (rg_at hlt))) (ev_strL (l := [46]) (by kernel_rfl)) (b_addsL (by simp; omega))
                · intro hb
                  rw [if_neg (of_decide_eq_false hb)]
                  exact ev_strL (l := []) (by kernel_rfl)
              · exact ev_bin (ev_strL (l := [97]) (by kernel_rfl)) (ev_bin (ev_name 2 rfl rfl) ev_int b_add) (b_mulsL (n := k + 1) (by omega) (by omega))
              · refine b_addsL ?_
                rw [W.eq k hk, List.length_append] at hsh
                omega
            · rfl
            · simp; omega
            · rfl
          · rfl
        · exact exs_nil
      · exact wk_keep (wk_keep (wk_drop wk_nil))
    · rw [show 0 + (intsTo n).length = n by simp [intsTo]]
      refine exs_ret (ex_return (ev_lc (ds := (List.range n).map fun j => .str (S (nm j))) (rr := (List.range n).map (placeD nm)) ((List.range n).map fun k => some (placeD nm k)) ["name"] none _ [none] hF.hkd (evi_list (ev_name_own 1 rfl rfl)) (by kernel_rfl) rfl (fun env' s1 O' hC => ?_) (map_some _ _) (by simp; omega) (by intro h; cases h)))
      refine comp_of _ fun v hv => TurnC.take (as_name 0 rfl (hC.sto (by kernel_rfl)) (by exact Nat.le_of_ble_eq_true rfl)) .nil (ev_tuple (evs_cons (ev_name 0 rfl rfl) (evs_cons (ev_slash 0 rfl rfl ?_ (by kernel_rfl) (by kernel_rfl) (by kernel_rfl) rfl) evs_nil)) (by exact Nat.le_of_ble_eq_true rfl))
      have := W.short v (List.mem_range.mp hv)
      omega
end Mine
open PySem PySem.Spec PySem.Calls PySem.W PyProof.Rows
set_option Elab.async false
set_option maxRecDepth 100000
set_option maxHeartbeats 1000000
set_option linter.unusedVariables false
namespace Mine
variable {X : Fx} {σ σ1 σ2 σ3 : Sg} {pos p2 p3 p4 : Pos} {k : Nat}

/-- truth of texts and lists; and, or -/
theorem tt_str {e : Expr} {l : List Nat} (h : Ev X e σ (.str (S l)) σ1) (hl : l.length ≤ 10000) (he : ∀ env whole, isTrue e env whole = (do let v ← whole; standAt e.pos; holding [v] (truthy v)) := by intros; rfl) : Tt X e σ (!l.isEmpty) σ1 := .of fun S0 m vals R =>
  wpAny_isTrue_value (wpAny_mono (h.go S0 m vals R) (fun v s1 ⟨S1, e1, R1, T1, r1⟩ => by
    subst e1
    obtain ⟨t, rfl⟩ := rep_str r1
    refine P.truthy_str (by rw [S_length]; omega) ?_
    refine ⟨⟨_, S1.M, S1.B⟩, rfl, R1.grow (.tok _), T1.trans (Grow.tr R1.sub (.tok _)), ?_⟩
    rw [S_length]
    cases l <;> simp <;> omega) fun _ _ f => f) (he _ _)
theorem tt_own (j : Nat) {x : Str} {ds : List PyData} (hx : X.tbl[j]? = some x) (hs : Sl.items? (σ.at j) = some ds) (hl : ds.length ≤ 10000) : Tt X (.Name x pos) σ (!ds.isEmpty) σ := .of fun S0 m vals R => by
  obtain ⟨a, vs, ha, pl, rs⟩ := R.items hs
  refine wpAny_isTrue_value (load_var R hx ha ?_) rfl
  have hq := rs.length
  rw [Array.length_toList] at hq
  refine wpAny_truthy_list pl.isList (by omega) ?_
  refine ⟨⟨_, S0.M, S0.B⟩, rfl, R.grow (.tok _), Grow.tr R.sub (.tok _), ?_⟩
  cases ds with
  | nil =>
    have : vs = #[] := Array.eq_empty_of_size_eq_zero (by simpa using hq)
    rw [this]; rfl
  | cons d ds =>
    have : vs.isEmpty = false := by
      rw [Array.isEmpty_eq_false_iff]
      intro e; rw [e] at hq; simp at hq
    rw [this]; rfl
/-- the tests of an and, of an or, one by one -/
inductive Tor (X : Fx) : List Expr → Sg → Bool → Sg → Prop
  | nil {s : Sg} : Tor X [] s false s
  | yes {e : Expr} {es : List Expr} {s s1 : Sg} : Tt X e s true s1 → Tor X (e :: es) s true s1
  | no {e : Expr} {es : List Expr} {s s1 s2 : Sg} {b : Bool} : Tt X e s false s1 → Tor X es s1 b s2 → Tor X (e :: es) s b s2
inductive Tand (X : Fx) : List Expr → Sg → Bool → Sg → Prop
  | nil {s : Sg} : Tand X [] s true s
  | no {e : Expr} {es : List Expr} {s s1 : Sg} : Tt X e s false s1 → Tand X (e :: es) s false s1
  | yes {e : Expr} {es : List Expr} {s s1 s2 : Sg} {b : Bool} : Tt X e s true s1 → Tand X es s1 b s2 → Tand X (e :: es) s b s2
theorem tor_run {es : List Expr} {b : Bool} (h : Tor X es σ b σ1) : ∀ S m vals, RelV X σ S m vals → wpAny (model X.prog X.w) X.A (allTrue .Or es X.env) (fun v s' => ∃ S', S'.s = s' ∧ RelV X σ1 S' m vals ∧ Tr S S' ∧ v = b) (fun _ _ => False) S.s := by
  induction h with
  | nil => exact fun S m vals R => wpAny_allTrue_Or_nil ⟨S, rfl, R, R.tr, rfl⟩
  | yes h => exact fun S m vals R => wpAny_allTrue_Or_cons (wpAny_mono (h.go S m vals R) (fun b s1 ⟨S1, e1, R1, T1, hb⟩ => by subst hb; exact ⟨S1, e1, R1, T1, rfl⟩) fun _ _ f => f)
  | no h _ ih => exact fun S m vals R => wpAny_allTrue_Or_cons (wpAny_mono (h.go S m vals R) (fun b s1 ⟨S1, e1, R1, T1, hb⟩ => by
      subst hb e1
      exact wpAny_mono (ih S1 m vals R1) (fun b s2 ⟨S2, e2, R2, T2, hb⟩ => ⟨S2, e2, R2, T1.trans T2, hb⟩) fun _ _ f => f) fun _ _ f => f)
theorem tand_run {es : List Expr} {b : Bool} (h : Tand X es σ b σ1) : ∀ S m vals, RelV X σ S m vals → wpAny (model X.prog X.w) X.A (allTrue .And es X.env) (fun v s' => ∃ S', S'.s = s' ∧ RelV X σ1 S' m vals ∧ Tr S S' ∧ v = b) (fun _ _ => False) S.s := by
  induction h with
  | nil => exact fun S m vals R => wpAny_allTrue_And_nil ⟨S, rfl, R, R.tr, rfl⟩
  | no h => exact fun S m vals R => wpAny_allTrue_And_cons (wpAny_mono (h.go S m vals R) (fun b s1 ⟨S1, e1, R1, T1, hb⟩ => by subst hb; exact ⟨S1, e1, R1, T1, rfl⟩) fun _ _ f => f)
  | yes h _ ih => exact fun S m vals R => wpAny_allTrue_And_cons (wpAny_mono (h.go S m vals R) (fun b s1 ⟨S1, e1, R1, T1, hb⟩ => by
      subst hb e1
      exact wpAny_mono (ih S1 m vals R1) (fun b s2 ⟨S2, e2, R2, T2, hb⟩ => ⟨S2, e2, R2, T1.trans T2, hb⟩) fun _ _ f => f) fun _ _ f => f)
theorem tt_or {es : List Expr} {b : Bool} (h : Tor X es σ b σ1) : Tt X (.BoolOp .Or es pos) σ b σ1 := .of fun S m vals R => wpAny_isTrue_BoolOp (tor_run h S m vals R)
theorem tt_and {es : List Expr} {b : Bool} (h : Tand X es σ b σ1) : Tt X (.BoolOp .And es pos) σ b σ1 := .of fun S m vals R => wpAny_isTrue_BoolOp (tand_run h S m vals R)
/-- x or y, x a text that is not empty -/
theorem ev_or {x y : Expr} {l : List Nat} (h : Ev X x σ (.str (S l)) σ1) (hl : l.length ≤ 10000) (hn : l ≠ []) : Ev X (.BoolOp .Or [x, y] pos) σ (.str (S l)) σ1 := .of fun S0 m vals R =>
  wpAny_Or2 (wpAny_mono (h.go S0 m vals R) (fun v s1 ⟨S1, e1, R1, T1, r1⟩ => by
    subst e1
    obtain ⟨t, rfl⟩ := rep_str r1
    refine P.truthy_str (by rw [S_length]; omega) ?_
    have : (((S l).length : Int) != 0) = true := by
      rw [S_length]
      cases l with
      | nil => exact absurd rfl hn
      | cons a b => simp; omega
    rw [this, if_pos rfl]
    exact ⟨⟨_, S1.M, S1.B⟩, rfl, R1.grow (.tok _), T1.trans (Grow.tr R1.sub (.tok _)), .str _ _⟩) fun _ _ f => f)
end Mine
open PySem PySem.Spec PySem.Calls PySem.W PyProof.Rows
set_option Elab.async false
set_option maxRecDepth 100000
set_option maxHeartbeats 1000000
set_option linter.unusedVariables false
namespace Mine
variable {X : Fx} {σ σ1 σ2 σ3 : Sg} {pos p2 p3 p4 : Pos} {k : Nat}

noncomputable def jn : List (List Nat) → List Nat
  | [] => []
  | [x] => x
  | x :: r => x ++ 47 :: jn r
theorem jn_cons {x : List Nat} {r : List (List Nat)} (h : r ≠ []) : jn (x :: r) = x ++ 47 :: jn r := by
  cases r with
  | nil => exact absurd rfl h
  | cons y r => rfl
theorem jn_two {x y : List Nat} {r : List (List Nat)} : jn (x :: y :: r) = x ++ 47 :: jn (y :: r) := rfl
theorem join_S : ∀ cs : List (List Nat), Str.join (S [47]) (cs.map S) = S (jn cs)
  | [] => rfl
  | [x] => rfl
  | x :: y :: r => by
    show S x ++ S [47] ++ Str.join (S [47]) ((y :: r).map S) = _
    rw [join_S (y :: r), S_append, S_append, jn_two]
    simp
/-- a cut at its first slash is one -/
theorem cut_inj {a b c d : List Nat} (ha : 47 ∉ a) (hc : 47 ∉ c) (h : a ++ 47 :: b = c ++ 47 :: d) : a = c ∧ b = d := by
  induction a generalizing c with
  | nil =>
    cases c with
    | nil => simpa using h
    | cons x c => simp at h; exact absurd (by rw [h.1]; simp) hc
  | cons x a ih =>
    cases c with
    | nil => simp at h; exact absurd (by rw [← h.1]; simp) ha
    | cons y c =>
      simp at h
      obtain ⟨rfl, h⟩ := h
      obtain ⟨rfl, rfl⟩ := ih (fun q => ha (by simp [q])) (fun q => hc (by simp [q])) h
      exact ⟨rfl, rfl⟩
theorem jn_free {x : List Nat} {r : List (List Nat)} (h : 47 ∉ jn (x :: r)) : r = [] := by
  cases r with
  | nil => rfl
  | cons y r => rw [jn_cons (by simp)] at h; exact absurd (by simp) h
theorem jn_inj : ∀ {cs ds : List (List Nat)}, cs ≠ [] → ds ≠ [] → (∀ c ∈ cs, 47 ∉ c) → (∀ c ∈ ds, 47 ∉ c) → jn cs = jn ds → cs = ds
  | [], _, h, _, _, _, _ => absurd rfl h
  | _, [], _, h, _, _, _ => absurd rfl h
  | [x], d :: ds, _, _, h1, h2, h => by
    have h' : jn [x] = x := rfl
    rw [h'] at h
    have := jn_free (x := d) (r := ds) (by rw [← h]; exact h1 x (by simp))
    subst this
    rw [h]; rfl
  | x :: y :: r, [d], _, _, h1, h2, h => by
    have h' : jn [d] = d := rfl
    rw [h'] at h
    have := jn_free (x := x) (r := y :: r) (by rw [h]; exact h2 d (by simp))
    cases this
  | x :: y :: r, d :: e :: ds, _, _, h1, h2, h => by
    rw [jn_two, jn_two] at h
    obtain ⟨rfl, h'⟩ := cut_inj (h1 x (by simp)) (h2 d (by simp)) h
    rw [jn_inj (by simp) (by simp) (fun c hc => h1 c (List.mem_cons_of_mem _ hc)) (fun c hc => h2 c (List.mem_cons_of_mem _ hc)) h']
theorem split_S {cs : List (List Nat)} (hn : cs ≠ []) (hf : ∀ c ∈ cs, 47 ∉ c) : Txt.split (S (jn cs)) (S [47]) = cs.map S := by
  have h1 := StrLaws.join_split (S (jn cs)) (S [47])
  have h2 := StrLaws.split_free (S (jn cs)) 47
  have h3 : 1 ≤ (Txt.split (S (jn cs)) (S [47])).length := split_pos _ _
  have e : ∀ ps : List Str, ps = (ps.map fun p => p.cps.toList).map S := fun ps => by
    rw [List.map_map]
    conv => lhs; rw [← List.map_id ps]
    apply List.map_congr_left
    intro p _
    show p = S p.cps.toList
    simp [S]
  generalize hps : Txt.split (S (jn cs)) (S [47]) = ps at h1 h3
  have h2' : ∀ p ∈ ps, 47 ∉ p.cps.toList := fun p hp => h2 p (by rw [show (⟨#[47]⟩ : Str) = S [47] from rfl, hps]; exact hp)
  rw [e ps] at h1 ⊢
  rw [join_S, S_inj] at h1
  rw [jn_inj (by intro q; rw [List.map_eq_nil_iff] at q; rw [q] at h3; simp at h3) hn (fun c hc => by obtain ⟨p, hp, rfl⟩ := List.mem_map.mp hc; exact h2' p hp) hf h1]

theorem split_any {prog : Program} {w : World} {A : Around} {E : Value → Shared → Prop} {s : Shared} {x y : Str} {t u : Tok} {Q : Value → Shared → Prop} (hy : (y.length == 0) = false)
    (h : ∀ (l : List (Str × Tok)) (k : Nat), l.map (·.1) = Txt.split x y → Q (.ref s.heap.objs.size) { s with heap := s.heap.push { cls := .type "list", data := .seq (strValues l).toArray }, toks := k }) (hsz : x.length + 2 ≤ sizeLine) :
    wpAny (model prog w) A (call (.builtin "str.split") [.str x t, .str y u]) Q E s := by
  have hn : (Builtin.Str.partsBetween x (Builtin.Str.occurrences x y 0 x.length (x.length + 1)) y.length).length ≤ sizeLine := by
    have e1 := StrLaws.occ_length_le x y 0 x.length (x.length + 1)
    rw [length_partsBetween]; omega
  cases h1 : (decide (x.length < y.length) || decide (Builtin.Str.strKind x < Builtin.Str.strKind y)) with
  | false =>
    cases hf : (Builtin.Str.occurrences x y 0 x.length (x.length + 1)).isEmpty with
    | false =>
      refine call_meets F.slot_str_split (typeIs_str _ _ _) F.entry_str_split (F.args_str_split_2 _ _) (meets_str_split_sep x y t u h1 hy hf (by omega) hn) ?_
      show wants Q E _ { s with toks := _, heap := s.heap.push { cls := .type "list", data := .seq (strsFrom s.toks (Builtin.Str.partsBetween x (Builtin.Str.occurrences x y 0 x.length (x.length + 1)) y.length)).toArray } }
      rw [strsFrom_eq]
      exact h (numbered s.toks _) _ ((numbered_texts _ _).trans ((if_neg (ne_true_of_eq_false h1)).trans (if_neg (ne_true_of_eq_false hf))).symm)
    | true => exact call_meets F.slot_str_split (typeIs_str _ _ _) F.entry_str_split (F.args_str_split_2 _ _) (meets_str_split_not_found x y t u h1 hy hf) (h [(x, t)] s.toks ((if_neg (ne_true_of_eq_false h1)).trans (if_pos hf)).symm)
  | true => exact call_meets F.slot_str_split (typeIs_str _ _ _) F.entry_str_split (F.args_str_split_2 _ _) (meets_str_split_cannot_occur x y t u h1) (h [(x, t)] s.toks (if_pos h1).symm)
theorem rep_strs {B : Bad} {h : Heap} : ∀ (l : List (Str × Tok)), RepAll B h (strValues l) ((l.map (·.1)).map .str)
  | [] => .nil
  | (x, t) :: l => .cons (.str _ _) (rep_strs l)
theorem typeStr (B : Bad) (h : Heap) (v : Value) (s : Shared) {x : Str} (e : s.heap = h) (r : Rep B h v (.str x)) : s.TypeIs v "str" ∧ (∀ a, v = .ref a → ∃ ob, s.heap.get? a = some ob ∧ ob.dict = none) := by
  obtain ⟨t, rfl⟩ := rep_str r
  exact ⟨typeIs_str _ _ _, fun a e => by cases e⟩

theorem ev_split {o e : Expr} {cs : List (List Nat)} (ho : Ev X o σ (.str (S (jn cs))) σ1) (ha : Ev X e σ1 (.str (S [47])) σ2) (hn : cs ≠ []) (hf : ∀ c ∈ cs, 47 ∉ c) (hl : (jn cs).length ≤ 1000) (hbase : attributeBase o "split" X.env (eval o X.env) = eval o X.env) (hline : (p2.endLine == pos.line) = true) (hst : isStarred e = false := by rfl) :
    Ev X (.Call (.Attribute o "split" p2) [e] [] pos) σ (.list (cs.map fun c => .str (S c))) σ2 :=
  ev_method (T := "str") (id := "str.split") ho (evs_cons ha evs_nil hst) hbase hline (by simp [hst]) (by simp) PySem.F.plainAttrs_str PySem.F.slot_str_split PySem.F.type_str_split (fun B h v s e r => typeStr B h v s e r) fun S0 v vs R rv rs => by
    obtain ⟨t, rfl⟩ := rep_str rv
    obtain ⟨u, rfl, ru⟩ := one_of rs
    obtain ⟨t2, rfl⟩ := rep_str ru
    refine split_any (by decide) (fun l k hk => ?_) (by rw [S_length]; have : (20000 : Nat) ≤ sizeLine := by decide
                                                        omega)
    rw [split_S hn hf] at hk
    refine ⟨(Grow.push _).trans (.tok _), ?_⟩
    have := rep_newList R (rep_strs (B := S0.B) (h := S0.h) l)
    rw [hk, List.map_map] at this
    exact this
theorem strs_of {B : Bad} {h : Heap} : ∀ {vs : List Value} {cs : List (List Nat)}, RepAll B h vs (cs.map fun c => .str (S c)) → StrsAre vs (cs.map S)
  | _, [], r => by cases r; exact .nil
  | _, c :: cs, r => by
    cases r with | cons a b => obtain ⟨t, rfl⟩ := rep_str a; exact .cons _ t (strs_of b)
theorem ev_join {o e : Expr} {cs : List (List Nat)} (ho : Ev X o σ (.str (S [47])) σ1) (ha : Ev X e σ1 (.list (cs.map fun c => .str (S c))) σ2) (hw : (cs.map List.length).sum + cs.length ≤ 1000) (hbase : attributeBase o "join" X.env (eval o X.env) = eval o X.env) (hline : (p2.endLine == pos.line) = true) (hst : isStarred e = false := by rfl) :
    Ev X (.Call (.Attribute o "join" p2) [e] [] pos) σ (.str (S (jn cs))) σ2 :=
  ev_method (T := "str") (id := "str.join") ho (evs_cons ha evs_nil hst) hbase hline (by simp [hst]) (by simp) PySem.F.plainAttrs_str PySem.F.slot_str_join PySem.F.type_str_join (fun B h v s e r => typeStr B h v s e r) fun S0 v vs R rv rs => by
    obtain ⟨t, rfl⟩ := rep_str rv
    obtain ⟨u, rfl, ru⟩ := one_of rs
    obtain ⟨a, us, rfl, _, pl, ru⟩ := rep_list ru
    refine join_listW pl.isList (strs_of ru) (by rw [S_length]; decide) (by rw [List.map_map, List.length_map, show ((fun x : Str => x.length) ∘ S) = List.length from funext S_length]; omega) fun t' k => ?_
    have e : Txt.join (S [47]) (cs.map S) = S (jn cs) := by
      rw [← join_S]
      exact StrLaws.glued_eq_join _ _
    rw [e]
    exact ⟨.tok _, .str _ _⟩
end Mine
open PySem PySem.Spec PySem.Calls PySem.W PyProof.Rows
set_option Elab.async false
set_option maxRecDepth 100000
set_option maxHeartbeats 1000000
set_option linter.unusedVariables false
namespace Mine
section
variable {X : Fx} {σ σ1 σ2 σ3 : Sg} {pos p2 p3 p4 p5 : Pos} {k : Nat}
theorem c_nesL {l m : List Nat} : CmpOK X .NotEq (.str (S l)) (.str (S m)) (.bool (l != m)) := by
  have : (l != m) = (S l != S m) := by
    show (!(l == m)) = !(S l == S m)
    rw [S_beq]
  rw [this]; exact c_nes
/-- x[-1], x a list of one's own -/
theorem ev_last (j : Nat) {x : Str} {ds : List PyData} {d : PyData} (hx' : X.tbl[j]? = some x) (hs : Sl.items? (σ.at j) = some (ds ++ [d])) (hl : ds.length ≤ 10000) :
    Ev X (.Subscript (.Name x p2) (.UnaryOp .USub (.Constant (.int 1) k p3) p4) pos) σ d σ := .of fun S0 m vals r => by
  obtain ⟨a, vs, ha, _, _⟩ := r.items hs
  refine Subscript_ (load_var r hx' ha ?_)
  refine wpAny_mono ((ev_neg ev_int).go S0 m vals r) (fun u s2 q => ?_) fun _ _ f => f
  obtain ⟨S2, rfl, R2, T2, r2⟩ := q
  obtain ⟨t, rfl⟩ := rep_int r2
  obtain ⟨a', us, ha', pl, rs⟩ := R2.items hs
  rw [ha] at ha'; cases ha'
  obtain ⟨y, hy, ry⟩ := rs.get (i := ds.length) (d := d) (by simp)
  have hq := rs.length
  rw [Array.length_toList, List.length_append, List.length_singleton] at hq
  refine tail_any pl.isList.typeIs slot_list_getitem.lookup (wpAny_getItem_list_neg (k := -1) pl.isList (by decide) (by omega) (by decide) ?_ ⟨S2, rfl, R2, T2, ry⟩) (sub_plain rfl _ _)
  have : ((-1 : Int) + us.size).toNat = ds.length := by omega
  rw [this]
  simpa using hy
end
variable {prog : Program} {w : World}
theorem fn_splitroot {c : Nat} {r : List Nat} (hc : c ≠ 47) (hl : r.length ≤ 1000) : Fn prog w 42 [.str (S (47 :: c :: r))] (.tuple [.str (S []), .str (S [47]), .str (S (c :: r))]) 1 := by
  refine fn_def ["p"] ["sep", "empty"] rfl rfl rfl rfl (by kernel_rfl) (fun vs h => ?_) rfl (fun A s₀ env O hF => ?_)
  · obtain ⟨a, rfl⟩ := len1 h; rfl
  · refine exs_cons (ex_assign 1 (ev_strL (l := [47]) (by kernel_rfl)) rfl (hF.sto (by kernel_rfl)) (by exact Nat.le_of_ble_eq_true rfl)) ?_
    refine exs_cons (ex_assign 2 (ev_strL (l := []) (by kernel_rfl)) rfl (hF.sto (by kernel_rfl)) (by exact Nat.le_of_ble_eq_true rfl)) ?_
    refine exs_ret ?_
    apply ex_if_f
    · exact tt_b (tt_cmp (ev_cutTo (b := 1) (ev_name 0 rfl rfl) ev_int rfl (by show (47 :: c :: r).length ≤ 10000; simp; omega)) (ev_name 1 rfl rfl) c_nesL) rfl
    · refine exs_ret ?_
      apply ex_if_t
      · apply tt_or
        apply Tor.yes
        exact (tt_b (tt_cmp (ev_cut (a := 1) (b := 2) (ev_name 0 rfl rfl) ev_int ev_int rfl rfl (by show (47 :: c :: r).length ≤ 10000; simp; omega)) (ev_name 1 rfl rfl) c_nesL) (by show ([c] != [47]) = true; simp [hc]))
      · exact exs_ret (ex_return (ev_tuple (evs_cons (ev_name 2 rfl rfl) (evs_cons (ev_name 1 rfl rfl) (evs_cons (ev_cutFrom (b := 1) (ev_name 0 rfl rfl) ev_int rfl (by show (47 :: c :: r).length ≤ 10000; simp; omega)) evs_nil))) (by exact Nat.le_of_ble_eq_true rfl)))

noncomputable def accN (cs : List (List Nat)) (i : Nat) : List (List Nat) := if i ≤ cs.length + 1 then (cs ++ [[98]]).take i else cs
noncomputable def strD (cs : List (List Nat)) : List PyData := cs.map fun c => .str (S c)
theorem strD_len (cs : List (List Nat)) : (strD cs).length = cs.length := by simp [strD]
theorem jn_le {c : List Nat} : ∀ {cs : List (List Nat)}, c ∈ cs → c.length ≤ (jn cs).length
  | [x], h => by cases h with | head => exact Nat.le_refl _ | tail _ h => cases h
  | x :: y :: r, h => by
    rw [jn_two, List.length_append, List.length_cons]
    cases h with
    | head => omega
    | tail _ h => have := jn_le h; omega
theorem fn_normpath {cs : List (List Nat)} (hn : cs ≠ []) (hc : ∀ c ∈ cs, c ≠ [] ∧ ∀ x ∈ c, x = 97) (hl : (cs.map List.length).sum + cs.length ≤ 500) (hj : (jn (cs ++ [[98], [46, 46]])).length ≤ 900) (hj2 : (jn cs).length ≤ 900) :
    Fn prog w 49 [.str (S (47 :: jn (cs ++ [[98], [46, 46]])))] (.str (S (47 :: jn cs))) 2 := by
  refine fn_def ["path"] ["sep", "dot", "dotdot", "_", "initial_slashes", "comps", "new_comps", "comp"] rfl rfl rfl rfl (by kernel_rfl) (fun vs h => ?_) rfl (fun A s₀ env O hF => ?_)
  · obtain ⟨a, rfl⟩ := len1 h; rfl
  · have hsl : (20000 : Nat) ≤ sizeLine := by decide
    have hfree : ∀ c ∈ cs ++ [[98], [46, 46]], 47 ∉ c := by
      intro c hcm
      rcases List.mem_append.mp hcm with h | h
      · intro q; have := (hc c h).2 47 q; cases this
      · simp at h; rcases h with rfl | rfl <;> decide
    obtain ⟨c0, r0, hhead, hc0⟩ : ∃ c0 r0, jn (cs ++ [[98], [46, 46]]) = c0 :: r0 ∧ c0 ≠ 47 := by
      cases cs with
      | nil => exact absurd rfl hn
      | cons c cs =>
        obtain ⟨h1, h2⟩ := hc c (by simp)
        cases c with
        | nil => exact absurd rfl h1
        | cons x c =>
          have : x = 97 := h2 x (by simp)
          subst this
          refine ⟨97, c ++ 47 :: jn (cs ++ [[98], [46, 46]]), ?_, by decide⟩
          rw [List.cons_append, jn_cons (by simp)]
          rfl
    have hr0 : r0.length ≤ 1000 := by rw [hhead] at hj; simp at hj; omega
    have hspl : Fn prog w 42 [.str (S (47 :: jn (cs ++ [[98], [46, 46]])))] (.tuple [.str (S []), .str (S [47]), .str (S (jn (cs ++ [[98], [46, 46]])))]) 1 := by
      rw [hhead]; exact fn_splitroot hc0 hr0
    refine exs_cons (ex_assign 1 (ev_strL (l := [47]) (by kernel_rfl)) rfl (hF.sto (by kernel_rfl)) (by exact Nat.le_of_ble_eq_true rfl)) ?_
    refine exs_cons (ex_assign 2 (ev_strL (l := [46]) (by kernel_rfl)) rfl (hF.sto (by kernel_rfl)) (by exact Nat.le_of_ble_eq_true rfl)) ?_
    refine exs_cons (ex_assign 3 (ev_strL (l := [46, 46]) (by kernel_rfl)) rfl (hF.sto (by kernel_rfl)) (by exact Nat.le_of_ble_eq_true rfl)) ?_
    refine exs_cons (ex_if_f (tt_b (tt_not (tt_str (ev_name 0 rfl rfl) (by simp; omega))) rfl) exs_nil) ?_
    refine exs_cons (ex_unpack (ev_fn (hF.kd (by kernel_rfl)) (evs_cons (ev_name 0 rfl rfl) evs_nil) hspl (Nat.le_refl _) (by kernel_rfl) (by kernel_rfl) (by kernel_rfl)) (as_tuple (ass_cons (as_name 4 rfl (hF.sto (by kernel_rfl)) (by exact Nat.le_of_ble_eq_true rfl)) (ass_cons (as_name 5 rfl (hF.sto (by kernel_rfl)) (by exact Nat.le_of_ble_eq_true rfl)) (ass_cons (as_name 0 rfl (hF.sto (by kernel_rfl)) (by exact Nat.le_of_ble_eq_true rfl)) ass_nil))))) ?_
    refine exs_cons (ex_assign 6 (ev_split (ev_name 0 rfl rfl) (ev_name 1 rfl rfl) (by simp) hfree (by omega) rfl rfl) rfl (hF.sto (by kernel_rfl)) (by exact Nat.le_of_ble_eq_true rfl)) ?_
    refine exs_cons (ex_assign_own 7 (evf_list evs_nil (by decide)) rfl (hF.sto (by kernel_rfl)) (by exact Nat.le_of_ble_eq_true rfl)) ?_
    refine exs_cons (ex_for (evi_list (ev_name 6 rfl rfl)) (for_inv (fun i => [some (.fro (.str (S (jn (cs ++ [[98], [46, 46]]))))), some (.fro (.str (S [47]))), some (.fro (.str (S [46]))), some (.fro (.str (S [46, 46]))), some (.fro (.str (S []))), some (.fro (.str (S [47]))), some (.fro (.list (strD (cs ++ [[98], [46, 46]])))), some (.own (strD (accN cs i))), none]) (strD (cs ++ [[98], [46, 46]])) 0 fun i d hd => ?_) (by intro h; cases h)) ?_
    · rw [Nat.zero_add]
      rw [strD, List.getElem?_map] at hd
      cases hci : (cs ++ [[98], [46, 46]])[i]? with
      | none => rw [hci] at hd; cases hd
      | some c =>
        rw [hci] at hd; cases hd
        have hi := (List.getElem?_eq_some_iff.mp hci).1
        simp at hi
        have hcl : cs.length ≤ 500 := by omega
        have hal : (strD (accN cs i)).length ≤ 1000 := by
          rw [strD_len]; unfold accN; split
          · rw [List.length_take]; simp; omega
          · omega
        by_cases hlt : i < cs.length + 1
        · have hce : accN cs (i + 1) = accN cs i ++ [c] := by
            have hci' : (cs ++ [[98]])[i]? = some c := by
              have : cs ++ [[98], [46, 46]] = (cs ++ [[98]]) ++ [[46, 46]] := by simp
              rw [this, List.getElem?_append_left (by simp; omega)] at hci
              exact hci
            unfold accN
            rw [if_pos (by omega), if_pos (by omega), List.take_add_one, hci']
            rfl
          have hcc : c ≠ [] ∧ c ≠ [46] ∧ c ≠ [46, 46] := by
            have hm : c ∈ cs ++ [[98]] := by
              have : cs ++ [[98], [46, 46]] = (cs ++ [[98]]) ++ [[46, 46]] := by simp
              rw [this, List.getElem?_append_left (by simp; omega)] at hci
              exact List.mem_of_getElem? hci
            rcases List.mem_append.mp hm with h | h
            · obtain ⟨h1, h2⟩ := hc c h
              refine ⟨h1, fun e => ?_, fun e => ?_⟩
              · have := h2 46 (by rw [e]; simp); cases this
              · have := h2 46 (by rw [e]; simp); cases this
            · simp at h; subst h; decide
          have hclen : c.length ≤ 900 := by
            have := List.mem_of_getElem? hci
            have h2 := jn_le this
            omega
          have es : strD (accN cs i ++ [c]) = strD (accN cs i) ++ [.str (S c)] := by simp [strD]
          rw [hce, es]
          apply Turn.next
          · exact as_name 8 rfl (hF.sto (by kernel_rfl)) (by exact Nat.le_of_ble_eq_true rfl)
          · apply exs_cons
            · apply ex_if_f
              · apply tt_or
                apply Tor.no
                · exact tt_b (tt_not (tt_str (ev_name 8 rfl rfl) (by omega))) (by have := hcc.1; cases c <;> simp_all)
                · apply Tor.no
                  · exact tt_b (tt_cmp (ev_name 8 rfl rfl) (ev_name 2 rfl rfl) c_eqsL) (by simp [hcc.2.1])
                  · exact Tor.nil
              · exact exs_nil
            · apply exs_cons
              · apply ex_if_t
                · apply tt_or
                  apply Tor.yes
                  exact tt_b (tt_cmp (ev_name 8 rfl rfl) (ev_name 3 rfl rfl) c_nesL) (by simp [hcc.2.2])
                · exact exs_cons (ex_expr (ev_append 7 rfl rfl (ev_name 8 rfl rfl) rfl (by omega) rfl)) exs_nil
              · exact exs_nil
          · exact wk_keep (wk_keep (wk_keep (wk_keep (wk_keep (wk_keep (wk_keep (wk_keep (wk_drop wk_nil))))))))
        · obtain rfl : i = cs.length + 1 := by omega
          obtain rfl : c = [46, 46] := by
            have : cs ++ [[98], [46, 46]] = (cs ++ [[98]]) ++ [[46, 46]] := by simp
            rw [this, List.getElem?_append_right (by simp)] at hci
            simpa using hci.symm
          have h1 : accN cs (cs.length + 1) = cs ++ [[98]] := by unfold accN; rw [if_pos (by omega), List.take_of_length_le (by simp)]
          have h2 : accN cs (cs.length + 1 + 1) = cs := by unfold accN; rw [if_neg (by omega)]
          have es : strD (cs ++ [[98]]) = strD cs ++ [.str (S [98])] := by simp [strD]
          rw [h1, h2, es]
          apply Turn.next
          · exact as_name 8 rfl (hF.sto (by kernel_rfl)) (by exact Nat.le_of_ble_eq_true rfl)
          · apply exs_cons
            · apply ex_if_f
              · apply tt_or
                apply Tor.no
                · exact tt_b (tt_not (tt_str (ev_name 8 rfl rfl) (by decide))) rfl
                · apply Tor.no
                  · exact tt_b (tt_cmp (ev_name 8 rfl rfl) (ev_name 2 rfl rfl) c_eqsL) rfl
                  · exact Tor.nil
              · exact exs_nil
            · apply exs_cons
              · apply ex_if_f
                · apply tt_or
                  apply Tor.no
                  · exact tt_b (tt_cmp (ev_name 8 rfl rfl) (ev_name 3 rfl rfl) c_nesL) rfl
                  · apply Tor.no
                    · apply tt_and
                      apply Tand.no
                      exact tt_b (tt_not (tt_str (ev_name 5 rfl rfl) (by decide))) rfl
                    · apply Tor.no
                      · apply tt_and
                        apply Tand.yes
                        · exact tt_b (tt_own 7 rfl rfl (by simp [strD_len]; omega)) (by simp)
                        · apply Tand.no
                          exact tt_b (tt_cmp (ev_last 7 rfl rfl (by rw [strD_len]; omega)) (ev_name 3 rfl rfl) c_eqsL) rfl
                      · exact Tor.nil
                · apply exs_cons
                  · apply ex_if_t
                    · exact tt_b (tt_own 7 rfl rfl (by simp [strD_len]; omega)) (by simp)
                    · exact exs_cons (ex_expr (ev_pop 7 rfl rfl (by rw [strD_len]; omega) rfl)) exs_nil
                  · exact exs_nil
              · exact exs_nil
          · exact wk_keep (wk_keep (wk_keep (wk_keep (wk_keep (wk_keep (wk_keep (wk_keep (wk_drop wk_nil))))))))
    · have eA : accN cs (cs.length + 2) = cs := by unfold accN; rw [if_neg (by omega)]
      rw [show 0 + (strD (cs ++ [[98], [46, 46]])).length = cs.length + 2 by simp [strD_len]]
      simp only [eA]
      refine exs_cons (ex_assign 6 (ev_name_own 7 rfl rfl) rfl (hF.sto (by kernel_rfl)) (by exact Nat.le_of_ble_eq_true rfl)) ?_
      refine exs_cons (ex_assign 0 (ev_bin (ev_name 5 rfl rfl) (ev_join (ev_name 1 rfl rfl) (ev_name 6 rfl rfl) (by omega) rfl rfl) (b_addsL (by simp; omega))) rfl (hF.sto (by kernel_rfl)) (by exact Nat.le_of_ble_eq_true rfl)) ?_
      exact exs_ret (ex_return (ev_or (ev_name 0 rfl rfl) (by simp; omega) (by simp)))
end Mine
open PySem PySem.Spec PySem.Calls PySem.W PyProof.Rows
set_option Elab.async false
set_option maxRecDepth 100000
set_option maxHeartbeats 1000000
set_option linter.unusedVariables false
namespace Mine
variable {prog : Program} {w : World}
noncomputable def placesD (n : Nat) (nm : Nat → List Nat) : PyData := .list ((List.range n).map (placeD nm))
noncomputable def heldD (n : Nat) (held : Nat → Bool) : PyData := .list ((List.range n).map fun k => .int (bi (held k)))
noncomputable def pathB (l : List Nat) : List Nat := (47 :: slash l) ++ [47, 98, 47, 46, 46]
theorem zipWith_map_range (n : Nat) (f g : Nat → PyData) : pairsD ((List.range n).map f) ((List.range n).map g) = (List.range n).map fun k => .tuple [f k, g k] := by
  unfold pairsD
  rw [List.zipWith_map, List.zipWith_self]
theorem filt_strD (n : Nat) (held : Nat → Bool) (g : Nat → List Nat) : ((List.range n).map fun k => if (bi (held k) == 0) = true then some (PyData.str (S (g k))) else none).filterMap id = strD (((List.range n).filter fun k => !held k).map g) := by
  generalize List.range n = l
  induction l with
  | nil => rfl
  | cons k l ih =>
    cases h : held k with
    | true => simpa [h, bi, List.filterMap_cons] using ih
    | false =>
      simp only [List.map_cons, h, List.filter_cons, Bool.not_false, if_true, strD] at ih ⊢
      simpa [bi, List.filterMap_cons] using ih
theorem fn_ahead {n m : Nat} {nm : Nat → List Nat} {held : Nat → Bool} {res : PyData} (hn : n ≤ 20) (hl : ∀ k, k < n → (nm k).length ≤ 500)
    (h : Fn prog w 145 [placesD n nm, .list [], .list (strD (((List.range n).filter fun k => !held k).map fun k => pathB (nm k)))] res m) : Fn prog w 150 [placesD n nm, heldD n held] res (m + 1) := by
  refine fn_def ["places", "held"] [] rfl rfl rfl rfl (by kernel_rfl) (fun vs h => ?_) rfl (fun A s₀ env O hF => ?_)
  · obtain ⟨a, b, rfl⟩ := len2 h; rfl
  · refine exs_ret (ex_return (ev_fn (hF.kd (by kernel_rfl)) (evs_cons (ev_name 0 rfl rfl) (evs_cons (ev_list evs_nil (by decide)) (evs_cons (ev_lc ((List.range n).map fun k => if (bi (held k) == 0) = true then some (PyData.str (S (pathB (nm k)))) else none) ["name", "path", "one"] none _ [none, none, none] hF.hkd
      (evi_d (evi_zip (blt_of (hF.kd (by kernel_rfl)) (by kernel_rfl) (by kernel_rfl) (by kernel_rfl)) (ev_name 0 rfl rfl) (ev_name 1 rfl rfl)) (zipWith_map_range n _ _)) (by kernel_rfl) rfl (fun env' s1 O' hC => ?_) (filt_strD n held _) (by simp; omega) (fun _ => rfl)) evs_nil))) h (Nat.le_refl _) (by kernel_rfl) (by kernel_rfl) (by kernel_rfl)))
    refine comp_of _ fun v hv => ?_
    have := hl v (List.mem_range.mp hv)
    refine turnC_one (as_tuple (ass_cons (as_tuple (ass_cons (as_name 0 rfl (hC.sto (by kernel_rfl)) (by exact Nat.le_of_ble_eq_true rfl)) (ass_cons (as_name 1 rfl (hC.sto (by kernel_rfl)) (by exact Nat.le_of_ble_eq_true rfl)) ass_nil))) (ass_cons (as_name 2 rfl (hC.sto (by kernel_rfl)) (by exact Nat.le_of_ble_eq_true rfl)) ass_nil))) (tt_cmp (ev_name 2 rfl rfl) ev_int c_eqi) (ev_bin (ev_name 1 rfl rfl) (ev_strL (l := [47, 98, 47, 46, 46]) (by kernel_rfl)) (b_addsL (by simp [slash]; omega)))
theorem fn_along {n m : Nat} {nm : Nat → List Nat} {held : Nat → Bool} {res : PyData} (hn : n ≤ 20) (hl : ∀ k, k < n → (nm k).length ≤ 500)
    (h : Fn prog w 145 [placesD n nm, .list (strD (((List.range n).filter fun k => !held k).map nm)), .list []] res m) : Fn prog w 155 [placesD n nm, heldD n held] res (m + 1) := by
  refine fn_def ["places", "held"] [] rfl rfl rfl rfl (by kernel_rfl) (fun vs h => ?_) rfl (fun A s₀ env O hF => ?_)
  · obtain ⟨a, b, rfl⟩ := len2 h; rfl
  · refine exs_ret (ex_return (ev_fn (hF.kd (by kernel_rfl)) (evs_cons (ev_name 0 rfl rfl) (evs_cons (ev_lc ((List.range n).map fun k => if (bi (held k) == 0) = true then some (PyData.str (S (nm k))) else none) ["name", "path", "one"] none _ [none, none, none] hF.hkd
      (evi_d (evi_zip (blt_of (hF.kd (by kernel_rfl)) (by kernel_rfl) (by kernel_rfl) (by kernel_rfl)) (ev_name 0 rfl rfl) (ev_name 1 rfl rfl)) (zipWith_map_range n _ _)) (by kernel_rfl) rfl (fun env' s1 O' hC => ?_) (filt_strD n held _) (by simp; omega) (fun _ => rfl)) (evs_cons (ev_list evs_nil (by decide)) evs_nil))) h (Nat.le_refl _) (by kernel_rfl) (by kernel_rfl) (by kernel_rfl)))
    refine comp_of _ fun v hv => ?_
    refine turnC_one (as_tuple (ass_cons (as_tuple (ass_cons (as_name 0 rfl (hC.sto (by kernel_rfl)) (by exact Nat.le_of_ble_eq_true rfl)) (ass_cons (as_name 1 rfl (hC.sto (by kernel_rfl)) (by exact Nat.le_of_ble_eq_true rfl)) ass_nil))) (ass_cons (as_name 2 rfl (hC.sto (by kernel_rfl)) (by exact Nat.le_of_ble_eq_true rfl)) ass_nil))) (tt_cmp (ev_name 2 rfl rfl) ev_int c_eqi) (ev_name 0 rfl rfl)
end Mine
open PySem PySem.Spec PySem.Calls PySem.W PyProof.Rows
set_option Elab.async false
set_option maxRecDepth 100000
set_option maxHeartbeats 1000000
set_option linter.unusedVariables false
namespace Mine
variable {X : Fx} {σ σ1 σ2 σ3 : Sg} {pos p2 p3 p4 : Pos} {k : Nat}

theorem rep_dict {B : Bad} {h : Heap} {v : Value} {kvs : List (PyData × PyData)} (r : Rep B h v (.dict kvs)) : ∃ a f, v = .ref a ∧ ¬ B a ∧ h.IntMap a f ∧ (∀ k, (f k).isSome = (lookI kvs k).isSome) ∧ (∀ k d, lookI kvs k = some d → Rep B h ((f k).getD .none) d) := by
  cases r; exact ⟨_, _, rfl, by assumption, by assumption, by assumption, by assumption⟩
theorem c_ind {i : Int} {kvs : List (PyData × PyData)} : CmpOK X .In (.int i) (.dict kvs) (.bool (lookI kvs i).isSome) := .of fun _ S0 _ _ _ ra rb => by
  obtain ⟨t, rfl⟩ := rep_int ra
  obtain ⟨a, f, rfl, _, hm, h1, h2⟩ := rep_dict rb
  refine wpAny_in_intMap hm ?_
  rw [h1]
  exact ⟨.tok _, .bool _⟩
theorem ev_ditem {value slice : Expr} {kvs : List (PyData × PyData)} {i : Int} {d : PyData} (h1 : Ev X value σ (.dict kvs) σ1) (h2 : Ev X slice σ1 (.int i) σ2) (hx : lookI kvs i = some d) (hn : noSlice slice = true := by rfl) :
    Ev X (.Subscript value slice pos) σ d σ2 := .of fun S0 m vals R =>
  Subscript_ (wpAny_mono (h1.go S0 m vals R) (fun v s1 q => by
    obtain ⟨S1, rfl, R1, T1, r1⟩ := q
    refine wpAny_mono (h2.go S1 m vals R1) (fun u s2 q => ?_) fun _ _ f => f
    obtain ⟨S2, rfl, R2, T2, r2⟩ := q
    obtain ⟨t, rfl⟩ := rep_int r2
    obtain ⟨a, f, rfl, _, hm, e1, e2⟩ := rep_dict (T2.rep r1)
    have hs : (f i).isSome = true := by rw [e1, hx]; rfl
    obtain ⟨y, hy⟩ := Option.isSome_iff_exists.mp hs
    have ry := e2 i d hx
    rw [hy] at ry
    have hty : S2.s.TypeIs (.ref a) "dict" := by obtain ⟨o, es, ep, ho, hc, _⟩ := hm; exact ⟨o, ho, hc⟩
    exact tail_any hty slot_dict_getitem.lookup (wpAny_getItem_intMap hm hy ⟨⟨_, S2.M, S2.B⟩, rfl, R2.grow (.tok _), (T1.trans T2).trans (Grow.tr R2.sub (.tok _)), ry.grow (.tok _)⟩) (sub_plain hn _ _)) fun _ _ f => f)

theorem typeList (B : Bad) (h : Heap) (v : Value) (s : Shared) {xs : List PyData} (e : s.heap = h) (r : Rep B h v (.list xs)) : s.TypeIs v "list" ∧ (∀ a, v = .ref a → ∃ ob, s.heap.get? a = some ob ∧ ob.dict = none) := by
  obtain ⟨a, vs, rfl, _, ⟨n, pl⟩, _⟩ := rep_list r
  subst e
  exact ⟨⟨_, pl, rfl⟩, fun b e => by cases e; exact ⟨_, pl, rfl⟩⟩
noncomputable def isI (a : Int) : Value → Bool
  | .int b _ => b == a
  | _ => false
noncomputable def isT (x : Str) : Value → Bool
  | .str y _ => y == x
  | _ => false
theorem ev_indexI {o e : Expr} {ns : List Int} {a : Int} {j : Nat} (ho : Ev X o σ (.list (ns.map .int)) σ1) (ha : Ev X e σ1 (.int a) σ2) (hj : ns[j]? = some a) (hno : ∀ m, m < j → ns[m]? ≠ some a) (hl : j < 1000) (hbase : attributeBase o "index" X.env (eval o X.env) = eval o X.env) (hline : (p2.endLine == pos.line) = true) (hst : isStarred e = false := by rfl) :
    Ev X (.Call (.Attribute o "index" p2) [e] [] pos) σ (.int (j : Nat)) σ2 :=
  ev_method (T := "list") (id := "list.index") ho (evs_cons ha evs_nil hst) hbase hline (by simp [hst]) (by simp) PySem.F.plainAttrs_list PySem.F.slot_list_index PySem.F.type_list_index (fun B h v s e r => typeList B h v s e r) fun S0 v vs R rv rs => by
    obtain ⟨b, us, rfl, _, ⟨n, pl⟩, ru⟩ := rep_list rv
    obtain ⟨u, rfl, r1⟩ := one_of rs
    obtain ⟨t, rfl⟩ := rep_int r1
    have hi := ints_of ru
    obtain ⟨y, hy, ry⟩ := ru.get (i := j) (d := .int a) (by rw [List.getElem?_map, hj]; rfl)
    obtain ⟨ty, rfl⟩ := rep_int ry
    have hjl : j < us.size := by have := (List.getElem?_eq_some_iff.mp hy).1; simpa using this
    have hyj : us[j] = .int a ty := by
      have := (List.getElem?_eq_some_iff.mp hy).2
      simpa using this
    refine call_meets PySem.F.slot_list_index ⟨_, pl, rfl⟩ PySem.F.entry_list_index (PySem.F.args_list_index_2 _ _) (SeqAt.list_indexAt b us n none #[] (.int a t) (isI a) j hjl (by omega) (by rw [hyj]; simp [isI]) (fun m hm hlt => ?_)) ⟨pl, fun y hy => ?_, ⟨.tok _, .int _ _⟩⟩
    · obtain ⟨d, hd, rd⟩ := ru.get' (i := m) (v := us[m]) (by simp [hm])
      rw [List.getElem?_map] at hd
      cases hq : ns[m]? with
      | none => rw [hq] at hd; cases hd
      | some c =>
        rw [hq] at hd; cases hd
        obtain ⟨tc, e⟩ := rep_int rd
        rw [e]
        have := hno m hlt
        rw [hq] at this
        simp [isI]
        intro e; exact this (by rw [e])
    · obtain ⟨m, hm, e⟩ := Array.getElem_of_mem hy
      obtain ⟨d, hd, rd⟩ := ru.get' (i := m) (v := y) (by simp [hm, e])
      rw [List.getElem?_map] at hd
      cases hq : ns[m]? with
      | none => rw [hq] at hd; cases hd
      | some c =>
        rw [hq] at hd; cases hd
        obtain ⟨tc, rfl⟩ := rep_int rd
        exact SeqAt.EqAt.int_int _ _ _ _
end Mine
open PySem PySem.Spec PySem.Calls PySem.W PyProof.Rows
set_option Elab.async false
set_option maxRecDepth 100000
set_option maxHeartbeats 1000000
set_option linter.unusedVariables false
namespace Mine
variable {prog : Program} {w : World}
abbrev Hl := Nat → Bool
/-- one symbol read, the pile's top at the end -/
inductive RStep (leaf : Int → Option Hl) (al ah : Hl → Hl) : Int → List Hl → List Hl → Prop
  | leaf {c f p} : leaf c = some f → RStep leaf al ah c p (p ++ [f])
  | neg {p f} : leaf 31 = none → RStep leaf al ah 31 (p ++ [f]) (p ++ [fun k => !f k])
  | dot {c p f} : leaf c = none → (c = 23 ∨ c = 52) → RStep leaf al ah c (p ++ [f]) (p ++ [al f])
  | box {p f} : leaf 17 = none → RStep leaf al ah 17 (p ++ [f]) (p ++ [ah f])
  | far {p f} : leaf 47 = none → RStep leaf al ah 47 (p ++ [f]) (p ++ [ah (ah f)])
  | two {s p a b} : leaf (sgnN s) = none → RStep leaf al ah (sgnN s) (p ++ [b] ++ [a]) (p ++ [fun k => twoB s (a k) (b k)])
inductive RRun (leaf : Int → Option Hl) (al ah : Hl → Hl) : List Int → List Hl → List Hl → Prop
  | nil {p} : RRun leaf al ah [] p p
  | cons {c cs p q r} : RStep leaf al ah c p q → RRun leaf al ah cs q r → RRun leaf al ah (c :: cs) p r
noncomputable def pileD (n : Nat) (p : List Hl) : List PyData := p.map (heldD n)
theorem pileD_app (n : Nat) (p q : List Hl) : pileD n (p ++ q) = pileD n p ++ pileD n q := by simp [pileD]
theorem pileD_len (n : Nat) (p : List Hl) : (pileD n p).length = p.length := by simp [pileD]
theorem rstep_len {leaf : Int → Option Hl} {al ah : Hl → Hl} {c : Int} {p q : List Hl} (h : RStep leaf al ah c p q) : q.length ≤ p.length + 1 := by
  cases h <;> simp <;> omega
theorem for_run {X : Fx} {t : Expr} {body : List Stmt} {leaf : Int → Option Hl} {al ah : Hl → Hl} (I : List Hl → Sg) (h : ∀ c p q, p.length ≤ 5000 → RStep leaf al ah c p q → Turn X t body (I p) (.int c) (I q)) :
    ∀ {cs p q}, RRun leaf al ah cs p q → p.length + cs.length ≤ 5000 → ForR X t body (cs.map .int) (I p) (I q) := by
  intro cs p q hr
  induction hr with
  | nil => exact fun _ => .nil
  | cons h1 _ ih =>
    intro hl
    have h2 := rstep_len h1
    simp at hl
    have := ih (by omega)
    rcases h _ _ _ (by omega) h1 with ⟨a, b, c⟩ | ⟨a, b, c⟩
    · exact .cons a (.inl (exs_wk' b c)) this
    · exact .cons a (.inr (exs_wkc b c)) this
theorem sgn_index : ∀ s : Fin 8, ([19, 18, 32, 20, 21, 30, 28, 51] : List Int)[s.val]? = some (sgnN s) ∧ ∀ m, m < s.val → ([19, 18, 32, 20, 21, 30, 28, 51] : List Int)[m]? ≠ some (sgnN s) := by
  intro s
  refine ⟨by revert s; decide, ?_⟩
  have : ∀ s : Fin 8, ∀ m : Fin 8, m.val < s.val → ([19, 18, 32, 20, 21, 30, 28, 51] : List Int)[m.val]? ≠ some (sgnN s) := by decide
  intro m hm
  exact this s ⟨m, by omega⟩ hm
theorem sgn_not (s : Fin 8) : (sgnN s == 31) = false ∧ (([23, 52] : List Int).any (· == sgnN s)) = false ∧ (([17, 47] : List Int).any (· == sgnN s)) = false := by revert s; decide

theorem fn_truth {n m : Nat} {nm : Nat → List Nat} {kvs : List (PyData × PyData)} {leaf : Int → Option Hl} {al ah : Hl → Hl} {row : List Int} {res : List Hl} (hn : n ≤ 20) (hm : 1 ≤ m)
    (hkv : ∀ c, lookI kvs c = (leaf c).map (heldD n)) (hal : ∀ f, Fn prog w 155 [placesD n nm, heldD n f] (heldD n (al f)) m) (hah : ∀ f, Fn prog w 150 [placesD n nm, heldD n f] (heldD n (ah f)) m)
    (hr : RRun leaf al ah row.reverse [] res) (hl : row.length ≤ 5000) : Fn prog w 167 [.list (row.map .int), placesD n nm, .dict kvs] (.list (pileD n res)) (m + 1) := by
  refine fn_def ["row", "places", "leaves"] ["pile", "symbol", "held", "sign", "first"] rfl rfl rfl rfl (by kernel_rfl) (fun vs h => ?_) rfl (fun A s₀ env O hF => ?_)
  · obtain ⟨a, b, c, rfl⟩ := len3 h; rfl
  · have hsl : (20000 : Nat) ≤ sizeLine := by decide
    refine exs_cons (ex_assign_own 3 (evf_list evs_nil (by decide)) rfl (hF.sto (by kernel_rfl)) (by exact Nat.le_of_ble_eq_true rfl)) ?_
    refine exs_cons (ex_for (evi_d (evi_list (ev_rev (ev_name 0 rfl rfl) (ev_neg ev_int) (by simp; omega))) (by rw [← List.map_reverse])) (for_run (fun p => [some (.fro (.list (row.map .int))), some (.fro (placesD n nm)), some (.fro (.dict kvs)), some (.own (pileD n p)), none, none, none, none]) (fun c p q hp hs => ?_) hr (by simp; omega)) (by intro h; cases h)) ?_
    · cases hs with
      | leaf h =>
        rename_i f
        have e1 : pileD n (p ++ [f]) = pileD n p ++ [heldD n f] := pileD_app n p [f]
        rw [e1]
        apply Turn.next
        · exact as_name 4 rfl (hF.sto (by kernel_rfl)) (by exact Nat.le_of_ble_eq_true rfl)
        · refine exs_cons (ex_if_t (tt_b (tt_cmp (ev_name 4 rfl rfl) (ev_name 2 rfl rfl) c_ind) (by rw [hkv, h]; rfl)) (exs_cons (ex_expr (ev_append 3 rfl rfl (ev_ditem (ev_name 2 rfl rfl) (ev_name 4 rfl rfl) (by rw [hkv, h]; rfl)) rfl (by rw [pileD_len]; omega) rfl)) exs_nil)) exs_nil
        · exact wk_keep (wk_keep (wk_keep (wk_keep (wk_drop (wk_drop (wk_drop (wk_drop wk_nil)))))))
      | neg h =>
        rename_i p f
        have e1 : pileD n (p ++ [f]) = pileD n p ++ [heldD n f] := pileD_app n p [f]
        have e2 : pileD n (p ++ [fun k => !f k]) = pileD n p ++ [heldD n fun k => !f k] := pileD_app n p [_]
        simp at hp
        rw [e1, e2]
        apply Turn.next
        · exact as_name 4 rfl (hF.sto (by kernel_rfl)) (by exact Nat.le_of_ble_eq_true rfl)
        · apply exs_cons
          · apply ex_if_f
            · exact tt_b (tt_cmp (ev_name 4 rfl rfl) (ev_name 2 rfl rfl) c_ind) (by rw [hkv, h]; rfl)
            · apply exs_cons
              · apply ex_if_t
                · exact tt_b (tt_cmp (ev_name 4 rfl rfl) ev_int c_eqi) rfl
                · exact exs_cons (ex_expr (ev_append 3 rfl rfl (ev_lc (rr := (List.range n).map fun k => .int (bi (!f k))) ((List.range n).map fun k => some (.int (bi (!f k)))) ["one"] none _ [none] hF.hkd (evi_list (ev_pop 3 rfl rfl (by rw [pileD_len]; omega) rfl)) (by kernel_rfl) rfl (fun env' s1 O' hC => comp_of (List.range n) fun v hv => TurnC.take (as_name 0 rfl (hC.sto (by kernel_rfl)) (by exact Nat.le_of_ble_eq_true rfl)) .nil (ev_d (ev_bin ev_int (ev_name 0 rfl rfl) b_sub) (by cases f v <;> rfl))) (map_some _ _) (by simp; omega) (by intro h; cases h)) rfl (by rw [pileD_len]; omega) rfl)) exs_nil
              · exact exs_nil
          · exact exs_nil
        · exact wk_keep (wk_keep (wk_keep (wk_keep (wk_drop (wk_drop (wk_drop (wk_drop wk_nil)))))))
      | dot h hc =>
        rename_i p f
        have e1 : pileD n (p ++ [f]) = pileD n p ++ [heldD n f] := pileD_app n p [f]
        have e2 : pileD n (p ++ [al f]) = pileD n p ++ [heldD n (al f)] := pileD_app n p [_]
        simp at hp
        rw [e1, e2]
        have q1 : (c == 31) = false := by rcases hc with rfl | rfl <;> rfl
        have q2 : (([23, 52] : List Int).any (· == c)) = true := by rcases hc with rfl | rfl <;> rfl
        apply Turn.next
        · exact as_name 4 rfl (hF.sto (by kernel_rfl)) (by exact Nat.le_of_ble_eq_true rfl)
        · apply exs_cons
          · apply ex_if_f
            · exact tt_b (tt_cmp (ev_name 4 rfl rfl) (ev_name 2 rfl rfl) c_ind) (by rw [hkv, h]; rfl)
            · apply exs_cons
              · apply ex_if_f
                · exact tt_b (tt_cmp (ev_name 4 rfl rfl) ev_int c_eqi) q1
                · apply exs_cons
                  · apply ex_if_t
                    · exact tt_b (tt_cmp (ev_name 4 rfl rfl) (ev_ints [23, 52] rfl (by decide)) c_ini) q2
                    · exact exs_cons (ex_expr (ev_append 3 rfl rfl (ev_fn (hF.kd (by kernel_rfl)) (evs_cons (ev_name 1 rfl rfl) (evs_cons (ev_pop 3 rfl rfl (by rw [pileD_len]; omega) rfl) evs_nil)) (hal f) (Nat.le_refl _) (by kernel_rfl) (by kernel_rfl) (by kernel_rfl)) rfl (by rw [pileD_len]; omega) rfl)) exs_nil
                  · exact exs_nil
              · exact exs_nil
          · exact exs_nil
        · exact wk_keep (wk_keep (wk_keep (wk_keep (wk_drop (wk_drop (wk_drop (wk_drop wk_nil)))))))
      | box h =>
        rename_i p f
        have e1 : pileD n (p ++ [f]) = pileD n p ++ [heldD n f] := pileD_app n p [f]
        have e2 : pileD n (p ++ [ah f]) = pileD n p ++ [heldD n (ah f)] := pileD_app n p [_]
        simp at hp
        rw [e1, e2]
        apply Turn.next
        · exact as_name 4 rfl (hF.sto (by kernel_rfl)) (by exact Nat.le_of_ble_eq_true rfl)
        · apply exs_cons
          · apply ex_if_f
            · exact tt_b (tt_cmp (ev_name 4 rfl rfl) (ev_name 2 rfl rfl) c_ind) (by rw [hkv, h]; rfl)
            · apply exs_cons
              · apply ex_if_f
                · exact tt_b (tt_cmp (ev_name 4 rfl rfl) ev_int c_eqi) rfl
                · apply exs_cons
                  · apply ex_if_f
                    · exact tt_b (tt_cmp (ev_name 4 rfl rfl) (ev_ints [23, 52] rfl (by decide)) c_ini) rfl
                    · apply exs_cons
                      · apply ex_if_t
                        · exact tt_b (tt_cmp (ev_name 4 rfl rfl) (ev_ints [17, 47] rfl (by decide)) c_ini) rfl
                        · refine exs_cons (ex_assign 5 (ev_fn (hF.kd (by kernel_rfl)) (evs_cons (ev_name 1 rfl rfl) (evs_cons (ev_pop 3 rfl rfl (by rw [pileD_len]; omega) rfl) evs_nil)) (hah f) (Nat.le_refl _) (by kernel_rfl) (by kernel_rfl) (by kernel_rfl)) rfl (hF.sto (by kernel_rfl)) (by exact Nat.le_of_ble_eq_true rfl)) ?_
                          exact exs_cons (ex_expr (ev_append 3 rfl rfl (ev_ifexp (b := true) (tt_b (tt_cmp (ev_name 4 rfl rfl) ev_int c_eqi) rfl) (fun _ => ev_name 5 rfl rfl) (fun h => by cases h)) rfl (by rw [pileD_len]; omega) rfl)) exs_nil
                      · exact exs_nil
                  · exact exs_nil
              · exact exs_nil
          · exact exs_nil
        · exact wk_keep (wk_keep (wk_keep (wk_keep (wk_drop (wk_drop (wk_drop (wk_drop wk_nil)))))))
      | far h =>
        rename_i p f
        have e1 : pileD n (p ++ [f]) = pileD n p ++ [heldD n f] := pileD_app n p [f]
        have e2 : pileD n (p ++ [ah (ah f)]) = pileD n p ++ [heldD n (ah (ah f))] := pileD_app n p [_]
        simp at hp
        rw [e1, e2]
        apply Turn.next
        · exact as_name 4 rfl (hF.sto (by kernel_rfl)) (by exact Nat.le_of_ble_eq_true rfl)
        · apply exs_cons
          · apply ex_if_f
            · exact tt_b (tt_cmp (ev_name 4 rfl rfl) (ev_name 2 rfl rfl) c_ind) (by rw [hkv, h]; rfl)
            · apply exs_cons
              · apply ex_if_f
                · exact tt_b (tt_cmp (ev_name 4 rfl rfl) ev_int c_eqi) rfl
                · apply exs_cons
                  · apply ex_if_f
                    · exact tt_b (tt_cmp (ev_name 4 rfl rfl) (ev_ints [23, 52] rfl (by decide)) c_ini) rfl
                    · apply exs_cons
                      · apply ex_if_t
                        · exact tt_b (tt_cmp (ev_name 4 rfl rfl) (ev_ints [17, 47] rfl (by decide)) c_ini) rfl
                        · refine exs_cons (ex_assign 5 (ev_fn (hF.kd (by kernel_rfl)) (evs_cons (ev_name 1 rfl rfl) (evs_cons (ev_pop 3 rfl rfl (by rw [pileD_len]; omega) rfl) evs_nil)) (hah f) (Nat.le_refl _) (by kernel_rfl) (by kernel_rfl) (by kernel_rfl)) rfl (hF.sto (by kernel_rfl)) (by exact Nat.le_of_ble_eq_true rfl)) ?_
                          exact exs_cons (ex_expr (ev_append 3 rfl rfl (ev_ifexp (b := false) (tt_b (tt_cmp (ev_name 4 rfl rfl) ev_int c_eqi) rfl) (fun h => by cases h) (fun _ => ev_fn (hF.kd (by kernel_rfl)) (evs_cons (ev_name 1 rfl rfl) (evs_cons (ev_name 5 rfl rfl) evs_nil)) (hah (ah f)) (Nat.le_refl _) (by kernel_rfl) (by kernel_rfl) (by kernel_rfl))) rfl (by rw [pileD_len]; omega) rfl)) exs_nil
                      · exact exs_nil
                  · exact exs_nil
              · exact exs_nil
          · exact exs_nil
        · exact wk_keep (wk_keep (wk_keep (wk_keep (wk_drop (wk_drop (wk_drop (wk_drop wk_nil)))))))
      | two h =>
        rename_i s p a b
        have e1 : pileD n (p ++ [b] ++ [a]) = (pileD n p ++ [heldD n b]) ++ [heldD n a] := by rw [pileD_app, pileD_app]; rfl
        have e2 : pileD n (p ++ [fun k => twoB s (a k) (b k)]) = pileD n p ++ [heldD n fun k => twoB s (a k) (b k)] := pileD_app n p [_]
        simp at hp
        rw [e1, e2]
        obtain ⟨q1, q2, q3⟩ := sgn_not s
        obtain ⟨q4, q5⟩ := sgn_index s
        have hsv := s.isLt
        apply Turn.next
        · exact as_name 4 rfl (hF.sto (by kernel_rfl)) (by exact Nat.le_of_ble_eq_true rfl)
        · apply exs_cons
          · apply ex_if_f
            · exact tt_b (tt_cmp (ev_name 4 rfl rfl) (ev_name 2 rfl rfl) c_ind) (by rw [hkv, h]; rfl)
            · apply exs_cons
              · apply ex_if_f
                · exact tt_b (tt_cmp (ev_name 4 rfl rfl) ev_int c_eqi) q1
                · apply exs_cons
                  · apply ex_if_f
                    · exact tt_b (tt_cmp (ev_name 4 rfl rfl) (ev_ints [23, 52] rfl (by decide)) c_ini) q2
                    · apply exs_cons
                      · apply ex_if_f
                        · exact tt_b (tt_cmp (ev_name 4 rfl rfl) (ev_ints [17, 47] rfl (by decide)) c_ini) q3
                        · refine exs_cons (ex_assign 6 (ev_indexI (ev_ints [19, 18, 32, 20, 21, 30, 28, 51] rfl (by decide)) (ev_name 4 rfl rfl) q4 q5 (by omega) rfl rfl) rfl (hF.stoC (by kernel_rfl)) (by exact Nat.le_of_ble_eq_true rfl)) ?_
                          refine exs_cons (ex_assign 7 (ev_pop 3 rfl rfl (by rw [List.length_append, pileD_len]; simp; omega) rfl) rfl (hF.sto (by kernel_rfl)) (by exact Nat.le_of_ble_eq_true rfl)) ?_
                          exact exs_cons (ex_expr (ev_append 3 rfl rfl (ev_lc (rr := (List.range n).map fun k => .int (bi (twoB s (a k) (b k)))) ((List.range n).map fun k => some (.int (bi (twoB s (a k) (b k))))) ["a", "b", "sign"] none _ [none, none, some 6] hF.hkd (evi_d (evi_zip (blt_of (hF.kd (by kernel_rfl)) (by kernel_rfl) (by kernel_rfl) (by kernel_rfl)) (ev_name 7 rfl rfl) (ev_pop 3 rfl rfl (by rw [pileD_len]; omega) rfl)) (zipWith_map_range n _ _)) (by kernel_rfl) rfl
                            (fun env' s1 O' hC => comp_of (List.range n) fun v hv => TurnC.take (as_tuple (ass_cons (as_name 0 rfl (hC.sto (by kernel_rfl)) (by exact Nat.le_of_ble_eq_true rfl)) (ass_cons (as_name 1 rfl (hC.sto (by kernel_rfl)) (by exact Nat.le_of_ble_eq_true rfl)) ass_nil))) .nil (ev_fn (hC.glob (by kernel_rfl)) (evs_cons (ev_name 2 rfl rfl) (evs_cons (ev_name 0 rfl rfl) (evs_cons (ev_name 1 rfl rfl) evs_nil))) (fn_two (s := s) (a := a v) (b := b v)) hm (by kernel_rfl) (by kernel_rfl) (by kernel_rfl))) (map_some _ _) (by simp; omega) (fun _ => rfl)) rfl (by rw [pileD_len]; omega) rfl)) exs_nil
                      · exact exs_nil
                  · exact exs_nil
              · exact exs_nil
          · exact exs_nil
        · exact wk_keep (wk_keep (wk_keep (wk_keep (wk_drop (wk_drop (wk_drop (wk_drop wk_nil)))))))
    · exact exs_ret (ex_return (ev_name_own 3 rfl rfl))
end Mine
open PySem PySem.Spec PySem.Calls PySem.W PyProof.Rows
set_option Elab.async false
set_option maxRecDepth 100000
set_option maxHeartbeats 1000000
set_option linter.unusedVariables false
namespace Mine
/-- the tails of the entries that open with c -/
noncomputable def grp (c : Nat) : List (List Nat × Int) → List (List Nat × Int)
  | [] => []
  | (k, v) :: r => match k with
    | [] => grp c r
    | a :: y => bif c == a then (y, v) :: grp c r else grp c r
theorem lookup_grp (c : Nat) (x : List Nat) : ∀ t : List (List Nat × Int), List.lookup (c :: x) t = List.lookup x (grp c t)
  | [] => rfl
  | (k, v) :: r => by
    have ih := lookup_grp c x r
    cases k with
    | nil => exact ih
    | cons a y =>
      show (bif (c == a && x == y) then some v else List.lookup (c :: x) r) = List.lookup x (bif c == a then (y, v) :: grp c r else grp c r)
      cases c == a
      · exact ih
      · show (bif x == y then some v else List.lookup (c :: x) r) = (bif x == y then some v else List.lookup x (grp c r))
        rw [ih]
theorem lk_cons {x y : List Nat} {v : Int} {r : List (List Nat × Int)} : List.lookup x ((y, v) :: r) = if x = y then some v else List.lookup x r := by
  rw [List.lookup_cons]
  by_cases h : x = y
  · rw [if_pos h, beq_iff_eq.mpr h]
  · rw [if_neg h, beq_eq_false_iff_ne.mpr h]
theorem ett_of {c : Nat} {g : List (List Nat × Int)} (h : grp c tokTab = g) (x : List Nat) : ett (c :: x) = List.lookup x g := h ▸ lookup_grp c x tokTab
theorem lk_nil {x : List Nat} : List.lookup x ([] : List (List Nat × Int)) = none := rfl
theorem ett_126 (x : List Nat) : ett (126 :: x) = if x = [] then some 31 else none := by
  rw [ett_of (g := [([], 31)]) (by decide +kernel), lk_cons, lk_nil]
theorem ett_121 (x : List Nat) : ett (121 :: x) = none := ett_of (g := []) (by decide +kernel) x
theorem ett_44 (x : List Nat) : ett (44 :: x) = if x = [] then some 12 else none := by
  rw [ett_of (g := [([], 12)]) (by decide +kernel), lk_cons, lk_nil]
theorem ett_59 (x : List Nat) : ett (59 :: x) = if x = [] then some 13 else none := by
  rw [ett_of (g := [([], 13)]) (by decide +kernel), lk_cons, lk_nil]
theorem ett_38 (x : List Nat) : ett (38 :: x) = if x = [] then some 19 else if x = [61] then some 41 else none := by
  rw [ett_of (g := [([], 19), ([61], 41)]) (by decide +kernel), lk_cons, lk_cons, lk_nil]
theorem ett_124 (x : List Nat) : ett (124 :: x) = if x = [] then some 18 else if x = [61] then some 42 else none := by
  rw [ett_of (g := [([], 18), ([61], 42)]) (by decide +kernel), lk_cons, lk_cons, lk_nil]
theorem ett_94 (x : List Nat) : ett (94 :: x) = if x = [] then some 32 else if x = [61] then some 43 else none := by
  rw [ett_of (g := [([], 32), ([61], 43)]) (by decide +kernel), lk_cons, lk_cons, lk_nil]
theorem ett_60 (x : List Nat) : ett (60 :: x) = if x = [] then some 20 else if x = [60] then some 33 else if x = [60, 61] then some 44 else if x = [61] then some 29 else none := by
  rw [ett_of (g := [([], 20), ([60], 33), ([60, 61], 44), ([61], 29)]) (by decide +kernel), lk_cons, lk_cons, lk_cons, lk_cons, lk_nil]
theorem ett_62 (x : List Nat) : ett (62 :: x) = if x = [] then some 21 else if x = [61] then some 30 else if x = [62] then some 34 else if x = [62, 61] then some 45 else none := by
  rw [ett_of (g := [([], 21), ([61], 30), ([62], 34), ([62, 61], 45)]) (by decide +kernel), lk_cons, lk_cons, lk_cons, lk_cons, lk_nil]
theorem ett_33 (x : List Nat) : ett (33 :: x) = if x = [] then some 54 else if x = [61] then some 28 else none := by
  rw [ett_of (g := [([], 54), ([61], 28)]) (by decide +kernel), lk_cons, lk_cons, lk_nil]
theorem ett_45 (x : List Nat) : ett (45 :: x) = if x = [] then some 15 else if x = [61] then some 37 else if x = [62] then some 51 else none := by
  rw [ett_of (g := [([], 15), ([61], 37), ([62], 51)]) (by decide +kernel), lk_cons, lk_cons, lk_cons, lk_nil]
theorem ett_47 (x : List Nat) : ett (47 :: x) = if x = [] then some 17 else if x = [47] then some 47 else if x = [47, 61] then some 48 else if x = [61] then some 39 else none := by
  rw [ett_of (g := [([], 17), ([47], 47), ([47, 61], 48), ([61], 39)]) (by decide +kernel), lk_cons, lk_cons, lk_cons, lk_cons, lk_nil]
theorem ett_46 (x : List Nat) : ett (46 :: x) = if x = [] then some 23 else if x = [46, 46] then some 52 else none := by
  rw [ett_of (g := [([], 23), ([46, 46], 52)]) (by decide +kernel), lk_cons, lk_cons, lk_nil]
theorem grp_dig : ∀ k : Fin 10, grp (48 + k.val) tokTab = [] := by decide +kernel
theorem ett_dig {c : Nat} (h1 : 48 ≤ c) (h2 : c ≤ 57) (x : List Nat) : ett (c :: x) = none := by
  have := ett_of (grp_dig ⟨c - 48, Nat.lt_of_le_of_lt (Nat.sub_le_sub_right h2 48) (by decide)⟩) x
  rwa [Nat.add_sub_cancel' h1] at this

theorem fits3 {r : List Nat} {f : List Nat} (h : fitL r 3 = some f) : ∃ fs, fitsL r = f :: fs := by
  unfold fitsL
  rw [List.filterMap_cons, h]
  exact ⟨_, rfl⟩
theorem fits2 {r : List Nat} {f : List Nat} (h3 : fitL r 3 = none) (h : fitL r 2 = some f) : ∃ fs, fitsL r = f :: fs := by
  unfold fitsL
  rw [List.filterMap_cons, h3, List.filterMap_cons, h]
  exact ⟨_, rfl⟩
theorem fits1 {r : List Nat} {f : List Nat} (h3 : fitL r 3 = none) (h2 : fitL r 2 = none) (h : fitL r 1 = some f) : ∃ fs, fitsL r = f :: fs := by
  unfold fitsL
  rw [List.filterMap_cons, h3, List.filterMap_cons, h2, List.filterMap_cons, h]
  exact ⟨_, rfl⟩
theorem fits0 {r : List Nat} (h3 : fitL r 3 = none) (h2 : fitL r 2 = none) (h : fitL r 1 = none) : fitsL r = [] := by
  unfold fitsL
  rw [List.filterMap_cons, h3, List.filterMap_cons, h2, List.filterMap_cons, h]
  rfl
/-- one sign, whatever comes -/
theorem cut_one {c : Nat} {v : Int} {r : List Nat} {ts : List Int} (h1 : ett [c] = some v) (h2 : ∀ x, x ≠ [] → x.length ≤ 2 → (∃ y, r = x ++ y) → ett (c :: x) = none) (hr : Cut r ts) : Cut (c :: r) (v :: ts) := by
  have key : ∃ fs, fitsL (c :: r) = [c] :: fs := by
    have e1 : fitL (c :: r) 1 = some [c] := by unfold fitL; simp [h1]
    cases r with
    | nil => exact fits3 (by unfold fitL; simp [h1])
    | cons a r =>
      have e2 : fitL (c :: a :: r) 2 = none := by
        unfold fitL
        have := h2 [a] (by simp) (by simp) ⟨r, rfl⟩
        simp [this]
      have e3 : fitL (c :: a :: r) 3 = none := by
        unfold fitL
        cases r with
        | nil => have := h2 [a] (by simp) (by simp) ⟨[], rfl⟩; simp [this]
        | cons b r => have := h2 [a, b] (by simp) (by simp) ⟨r, rfl⟩; simp [this]
      exact fits1 e3 e2 e1
  obtain ⟨fs, hf⟩ := key
  exact .step (.tok hf h1) (by simp) (by simp) (by simpa using hr)
end Mine
open PySem PySem.Spec PySem.Calls PySem.W PyProof.Rows
set_option Elab.async false
set_option maxRecDepth 100000
set_option maxHeartbeats 1000000
set_option linter.unusedVariables false
namespace Mine
noncomputable def okN (bad : List Nat) (r : List Nat) : Prop := ∀ a y, r = a :: y → a ∉ bad
variable {r : List Nat} {ts : List Int}
theorem cut_126 (hr : Cut r ts) : Cut (126 :: r) (31 :: ts) := cut_one (by rw [ett_126]; rfl) (fun x h _ _ => by rw [ett_126, if_neg h]) hr
theorem cut_44 (hr : Cut r ts) : Cut (44 :: r) (12 :: ts) := cut_one (by rw [ett_44]; rfl) (fun x h _ _ => by rw [ett_44, if_neg h]) hr
theorem cut_59 (hr : Cut r ts) : Cut (59 :: r) (13 :: ts) := cut_one (by rw [ett_59]; rfl) (fun x h _ _ => by rw [ett_59, if_neg h]) hr
theorem bad_ne {bad x : List Nat} {a : Nat} {y : List Nat} (ho : okN bad r) (hp : ∃ z, r = x ++ z) (ha : a ∈ bad) : x ≠ a :: y := by
  rintro rfl
  obtain ⟨z, hz⟩ := hp
  exact ho a (y ++ z) (by rw [hz]; rfl) ha
theorem cut_38 (ho : okN [60, 61, 62] r) (hr : Cut r ts) : Cut (38 :: r) (19 :: ts) := cut_one (by rw [ett_38]; rfl) (fun x h _ hp => by rw [ett_38, if_neg h, if_neg (bad_ne ho hp (by decide))]) hr
theorem cut_124 (ho : okN [60, 61, 62] r) (hr : Cut r ts) : Cut (124 :: r) (18 :: ts) := cut_one (by rw [ett_124]; rfl) (fun x h _ hp => by rw [ett_124, if_neg h, if_neg (bad_ne ho hp (by decide))]) hr
theorem cut_94 (ho : okN [60, 61, 62] r) (hr : Cut r ts) : Cut (94 :: r) (32 :: ts) := cut_one (by rw [ett_94]; rfl) (fun x h _ hp => by rw [ett_94, if_neg h, if_neg (bad_ne ho hp (by decide))]) hr
theorem cut_60 (ho : okN [60, 61, 62] r) (hr : Cut r ts) : Cut (60 :: r) (20 :: ts) := cut_one (by rw [ett_60]; rfl) (fun x h _ hp => by rw [ett_60, if_neg h, if_neg (bad_ne ho hp (by decide)), if_neg (bad_ne ho hp (by decide)), if_neg (bad_ne ho hp (by decide))]) hr
theorem cut_62 (ho : okN [60, 61, 62] r) (hr : Cut r ts) : Cut (62 :: r) (21 :: ts) := cut_one (by rw [ett_62]; rfl) (fun x h _ hp => by rw [ett_62, if_neg h, if_neg (bad_ne ho hp (by decide)), if_neg (bad_ne ho hp (by decide)), if_neg (bad_ne ho hp (by decide))]) hr
theorem cut_47 (ho : okN [47, 61] r) (hr : Cut r ts) : Cut (47 :: r) (17 :: ts) := cut_one (by rw [ett_47]; rfl) (fun x h _ hp => by rw [ett_47, if_neg h, if_neg (bad_ne ho hp (by decide)), if_neg (bad_ne ho hp (by decide)), if_neg (bad_ne ho hp (by decide))]) hr
theorem cut_46 (ho : okN [46] r) (hr : Cut r ts) : Cut (46 :: r) (23 :: ts) := cut_one (by rw [ett_46]; rfl) (fun x h _ hp => by rw [ett_46, if_neg h, if_neg (bad_ne ho hp (by decide))]) hr
/-- two signs that make one -/
theorem cut_two {c d : Nat} {v : Int} (h2 : ett [c, d] = some v) (h3 : ∀ a y, r = a :: y → ett [c, d, a] = none) (hr : Cut r ts) : Cut (c :: d :: r) (v :: ts) := by
  have key : ∃ fs, fitsL (c :: d :: r) = [c, d] :: fs := by
    have e2 : fitL (c :: d :: r) 2 = some [c, d] := by unfold fitL; simp [h2]
    cases r with
    | nil => exact fits3 (by unfold fitL; simp [h2])
    | cons a r => exact fits2 (by unfold fitL; have := h3 a r rfl; simp [this]) e2
  obtain ⟨fs, hf⟩ := key
  exact .step (.tok hf h2) (by simp) (by simp) (by simpa using hr)
theorem cut_ge (hr : Cut r ts) : Cut (62 :: 61 :: r) (30 :: ts) := cut_two (by rw [ett_62]; rfl) (fun a y _ => by rw [ett_62]; simp) hr
theorem cut_ne (hr : Cut r ts) : Cut (33 :: 61 :: r) (28 :: ts) := cut_two (by rw [ett_33]; rfl) (fun a y _ => by rw [ett_33]; simp) hr
theorem cut_arrow (hr : Cut r ts) : Cut (45 :: 62 :: r) (51 :: ts) := cut_two (by rw [ett_45]; rfl) (fun a y _ => by rw [ett_45]; simp) hr
theorem cut_far (ho : okN [47, 61] r) (hr : Cut r ts) : Cut (47 :: 47 :: r) (47 :: ts) := cut_two (by rw [ett_47]; rfl) (fun a y h => by
  have := ho a y h
  rw [ett_47]; simp at this ⊢; omega) hr
theorem cut_dd (ho : okN [46] r) (hr : Cut r ts) : Cut (46 :: 46 :: r) (23 :: 23 :: ts) := cut_one (by rw [ett_46]; rfl) (fun x h hl hp => by
  rw [ett_46, if_neg h, if_neg]
  rintro rfl
  obtain ⟨z, hz⟩ := hp
  simp at hz
  exact ho 46 z hz (by simp)) (cut_46 ho hr)
theorem cut_ddd (hr : Cut r ts) : Cut (46 :: 46 :: 46 :: r) (52 :: ts) := by
  obtain ⟨fs, hf⟩ := fits3 (r := 46 :: 46 :: 46 :: r) (f := [46, 46, 46]) (by unfold fitL; simp [ett_46])
  exact .step (.tok hf (by rw [ett_46]; rfl)) (by simp) (by simp) (by simpa using hr)
theorem cut_y (hr : Cut r ts) : Cut (121 :: r) (255 :: ts) :=
  .step (.y (fits0 (by unfold fitL; simp [ett_121]) (by unfold fitL; simp [ett_121]) (by unfold fitL; simp [ett_121]))) (by simp) (by simp) (by simpa using hr)
theorem cut_dig {c : Nat} (h1 : 48 ≤ c) (h2 : c ≤ 57) (hr : Cut r ts) : Cut (c :: r) ((256 + ((c - 48 : Nat) : Int)) :: ts) :=
  .step (.dig h1 h2 (fits0 (by unfold fitL; simp [ett_dig h1 h2]) (by unfold fitL; simp [ett_dig h1 h2]) (by unfold fitL; simp [ett_dig h1 h2]))) (by simp) (by simp) (by simpa using hr)
end Mine
open PySem PySem.Spec PySem.Calls PySem.W PyProof.Rows
set_option Elab.async false
set_option maxRecDepth 100000
set_option maxHeartbeats 1000000
set_option linter.unusedVariables false
namespace Mine
variable {r : List Nat} {ts : List Int} {bad : List Nat}
theorem okN_cons {c : Nat} (h : c ∉ bad) : okN bad (c :: r) := fun a y e => by cases e; exact h
theorem okN_rep {n c : Nat} (h : c ∉ bad) (hr : okN bad r) : okN bad (List.replicate n c ++ r) := by
  cases n with
  | zero => exact hr
  | succ n => rw [List.replicate_succ]; exact okN_cons h
theorem okN_nil : okN bad [] := fun a y e => by cases e
theorem okN_sgn (s : Fin 8) : okN [47, 61] (sgnL s ++ r) := by
  have : ∀ s : Fin 8, ∃ c l, sgnL s = c :: l ∧ c ∉ [47, 61] := by
    intro s
    match s with
    | 0 | 1 | 2 | 3 | 4 | 5 | 6 | 7 => exact ⟨_, _, rfl, by decide⟩
  obtain ⟨c, l, e, h⟩ := this s
  rw [e]; exact okN_cons h
theorem cut_not (b : Bool) (hr : Cut r ts) : Cut (List.replicate b.toNat 126 ++ r) (notN b ++ ts) := by
  cases b
  · exact hr
  · exact cut_126 hr
theorem cut_sgn (s : Fin 8) (ho : okN [60, 61, 62] r) (hr : Cut r ts) : Cut (sgnL s ++ r) ([sgnN s] ++ ts) := by
  match s with
  | 0 => exact cut_38 ho hr
  | 1 => exact cut_124 ho hr
  | 2 => exact cut_94 ho hr
  | 3 => exact cut_60 ho hr
  | 4 => exact cut_62 ho hr
  | 5 => exact cut_ge hr
  | 6 => exact cut_ne hr
  | 7 => exact cut_arrow hr
theorem cut_dots (d : Fin 4) (ho : okN [46] r) (hr : Cut r ts) : Cut (List.replicate d.val 46 ++ r) (dotN d ++ ts) := by
  match d with
  | 0 => exact hr
  | 1 => exact cut_46 ho hr
  | 2 => exact cut_dd ho hr
  | 3 => exact cut_ddd hr
theorem cut_slash (b : Bool) (ho : okN [47, 61] r) (hr : Cut r ts) : Cut (List.replicate (1 + b.toNat) 47 ++ r) (farN b ++ ts) := by
  cases b
  · exact cut_47 ho hr
  · exact cut_far ho hr
theorem cut_mk (b : Bool) (hr : Cut r ts) : Cut (mkL b ++ r) ([12 + bi b] ++ ts) := by
  cases b
  · exact cut_44 hr
  · exact cut_59 hr
theorem nm_dig (sm : Fin 4) (i ab : Bool) (h : bitS sm i = false) : nmL sm i ab = [48 + (nmN sm i ab).toNat] ∧ 0 ≤ nmN sm i ab ∧ nmN sm i ab ≤ 5 := by
  revert sm i ab; decide +kernel
theorem cut_nm {sm : Fin 4} {i ab : Bool} (h : bitS sm i = false) (hr : Cut r ts) : Cut (nmL sm i ab ++ r) ([256 + nmN sm i ab] ++ ts) := by
  obtain ⟨h1, h2, h3⟩ := nm_dig sm i ab h
  rw [h1]
  have := cut_dig (c := 48 + (nmN sm i ab).toNat) (by omega) (by omega) hr
  have e : ((48 + (nmN sm i ab).toNat - 48 : Nat) : Int) = nmN sm i ab := by omega
  rw [e] at this
  exact this
noncomputable def saidK (L : Law) (sm : Fin 4) (i : Bool) : List Int := if bitS sm i then [255] else boxD (L.bx i) [256 + nmN sm i (L.bx i).about]
theorem cut_said (L : Law) (sm : Fin 4) (i : Bool) (hr : Cut r ts) : Cut (saidT L sm i ++ r) (saidK L sm i ++ ts) := by
  unfold saidT saidK
  cases h : bitS sm i with
  | true => exact cut_y hr
  | false =>
    simp only [Bool.false_eq_true, if_false, boxT, boxD, List.append_assoc]
    obtain ⟨h1, h2, h3⟩ := nm_dig sm i (L.bx i).about h
    have okd : ∀ bad : List Nat, (∀ c, 48 ≤ c → c ≤ 57 → c ∉ bad) → okN bad (nmL sm i (L.bx i).about ++ (mkL (L.bx i).mark ++ r)) := fun bad hb => by
      rw [h1]; exact okN_cons (hb _ (by omega) (by omega))
    refine cut_slash _ ?_ (cut_not _ (cut_sgn _ ?_ (cut_dots _ ?_ (cut_not _ (cut_nm h (cut_mk _ hr))))))
    · exact okN_rep (by decide) (okN_sgn _)
    · exact okN_rep (by decide) (okN_rep (by decide) (okd _ (by intro c h1 h2; simp; omega)))
    · exact okN_rep (by decide) (okd _ (by intro c h1 h2; simp; omega))
theorem okN_said (L : Law) (sm : Fin 4) (i : Bool) : okN [60, 61, 62] (saidT L sm i ++ r) := by
  unfold saidT
  cases bitS sm i with
  | true => exact okN_cons (by decide)
  | false =>
    simp only [Bool.false_eq_true, if_false, boxT, List.append_assoc]
    rw [show 1 + (L.bx i).far.toNat = (L.bx i).far.toNat + 1 by omega, List.replicate_succ]
    exact okN_cons (by decide)
noncomputable def ruleK (L : Law) (sm : Fin 4) (wh : Bool) : List Int := formD (L.fm wh) (saidK L sm false) (saidK L sm true)
theorem cut_rule (L : Law) (sm : Fin 4) (wh : Bool) : Cut (ruleT L sm wh) (ruleK L sm wh) := by
  unfold ruleT ruleK formD
  have := cut_mk (L.fm wh).mark Cut.nil
  rw [List.append_nil, List.append_nil] at this
  simp only [List.append_assoc]
  exact cut_not _ (cut_sgn _ (okN_rep (by decide) (okN_said _ _ _)) (cut_not _ (cut_said _ _ _ (cut_sgn _ (okN_rep (by decide) (okN_said _ _ _)) (cut_not _ (cut_said _ _ _ this))))))
end Mine
open PySem PySem.Spec PySem.Calls PySem.W PyProof.Rows
set_option Elab.async false
set_option maxRecDepth 100000
set_option maxHeartbeats 1000000
set_option linter.unusedVariables false
namespace Mine
variable {prog : Program} {w : World}
noncomputable def due3 (L : Law) (wh : Bool) : List Int := dueG L 3 wh fun _ => []
noncomputable def due2 (L : Law) (wh : Bool) : List Int := dueG L 2 wh fun i => due3 L (L.bx i).about
noncomputable def due1 (L : Law) (wh : Bool) : List Int := dueG L 1 wh fun i => due3 L (L.bx i).about
noncomputable def due0 (L : Law) (wh : Bool) : List Int := dueG L 0 wh fun i => if i then due2 L (L.bx i).about else due1 L (L.bx i).about
/-- small symbols -/
noncomputable def Sm (l : List Int) : Prop := ∀ t ∈ l, 0 < t ∧ t < 256
theorem Sm.app {l m : List Int} (h1 : Sm l) (h2 : Sm m) : Sm (l ++ m) := fun t ht => (List.mem_append.mp ht).elim (h1 t) (h2 t)
theorem sm_not (b : Bool) : Sm (notN b) := by cases b <;> (intro t ht; simp [notN] at ht; try omega)
theorem sm_sgn (s : Fin 8) : Sm [sgnN s] := by
  have : ∀ s : Fin 8, 0 < sgnN s ∧ sgnN s < 256 := by decide
  intro t ht; simp at ht; subst ht; exact this s
theorem sm_dot (s : Fin 4) : Sm (dotN s) := by
  have : ∀ s : Fin 4, ∀ t ∈ dotN s, 0 < t ∧ t < 256 := by decide
  exact this s
theorem sm_far (b : Bool) : Sm (farN b) := by cases b <;> (intro t ht; simp [farN] at ht; omega)
theorem sm_mk (b : Bool) : Sm [12 + bi b] := by cases b <;> (intro t ht; simp [bi] at ht; omega)
theorem flat_sm {sub : Int → List Int} {l : List Int} (h : Sm l) : l.flatMap (sub1 sub) = l := by
  induction l with
  | nil => rfl
  | cons t l ih =>
    rw [List.flatMap_cons, ih fun u hu => h u (List.mem_cons_of_mem _ hu), sub1, if_neg (by have := (h t List.mem_cons_self).2; omega)]
    rfl
theorem flat_said {L : Law} {sm : Fin 4} {i : Bool} {sub : Int → List Int} {d : List Int} (h : bitS sm i = false → sub (256 + nmN sm i (L.bx i).about) = d) : (saidK L sm i).flatMap (sub1 sub) = saidD L sm i d := by
  unfold saidK saidD
  cases hb : bitS sm i with
  | true => rfl
  | false =>
    obtain ⟨h1, h2, h3⟩ := nm_dig sm i (L.bx i).about hb
    simp only [Bool.false_eq_true, if_false, boxD, List.flatMap_append]
    rw [flat_sm (sm_far _), flat_sm (sm_not _), flat_sm (sm_sgn _), flat_sm (sm_dot _), flat_sm (sm_not _), flat_sm (sm_mk _)]
    rw [List.flatMap_cons, List.flatMap_nil, List.append_nil, sub1, if_pos (by omega), h hb]
theorem flat_rule {L : Law} {sm : Fin 4} {wh : Bool} {sub : Int → List Int} {d : Bool → List Int} (h : ∀ i, bitS sm i = false → sub (256 + nmN sm i (L.bx i).about) = d i) : (ruleK L sm wh).flatMap (sub1 sub) = dueG L sm wh d := by
  unfold ruleK dueG formD
  simp only [List.flatMap_append]
  rw [flat_sm (sm_not _), flat_sm (sm_sgn _), flat_sm (sm_not _), flat_sm (sm_sgn _), flat_sm (sm_not _), flat_sm (sm_mk _), flat_said (h false), flat_said (h true)]
noncomputable def Ps (l : List Int) : Prop := ∀ t ∈ l, 0 < t
theorem Sm.ps {l : List Int} (h : Sm l) : Ps l := fun t ht => (h t ht).1
theorem Ps.app {l m : List Int} (h1 : Ps l) (h2 : Ps m) : Ps (l ++ m) := fun t ht => (List.mem_append.mp ht).elim (h1 t) (h2 t)
theorem ps_said (L : Law) (sm : Fin 4) (i : Bool) : Ps (saidK L sm i) := by
  unfold saidK
  cases hb : bitS sm i with
  | true => intro t ht; simp at ht; omega
  | false =>
    obtain ⟨h1, h2, h3⟩ := nm_dig sm i (L.bx i).about hb
    simp only [Bool.false_eq_true, if_false, boxD]
    refine (((((((sm_far _).ps.app (sm_not _).ps).app (sm_sgn _).ps).app (sm_dot _).ps).app (sm_not _).ps).app ?_).app (sm_mk _).ps)
    intro t ht; simp at ht; omega
theorem ps_rule (L : Law) (sm : Fin 4) (wh : Bool) : Ps (ruleK L sm wh) :=
  ((((((((sm_not _).ps.app (sm_sgn _).ps).app (sm_not _).ps).app (ps_said _ _ _)).app (sm_sgn _).ps).app (sm_not _).ps).app (ps_said _ _ _)).app (sm_mk _).ps)
theorem dueG_len {L : Law} {sm : Fin 4} {wh : Bool} {d : Bool → List Int} {n : Nat} (h : ∀ i, (d i).length ≤ n) : (dueG L sm wh d).length ≤ 2 * n + 40 := by
  have hs : ∀ i, (saidD L sm i (d i)).length ≤ n + 10 := by
    intro i
    have := h i
    unfold saidD
    split
    · simp
    · have l4 := dot_len (L.bx i).dots
      have l5 := not_len (L.bx i).turn
      have l6 := not_len (L.bx i).back
      simp [boxD, farN]; omega
  have h1 := hs false
  have h2 := hs true
  have l4 := not_len (L.fm wh).turn
  have l5 := not_len (L.fm wh).first
  have l6 := not_len (L.fm wh).second
  simp [dueG, formD]; omega
end Mine
open PySem PySem.Spec PySem.Calls PySem.W PyProof.Rows
set_option Elab.async false
set_option maxRecDepth 100000
set_option maxHeartbeats 1000000
set_option linter.unusedVariables false
namespace Mine
variable {prog : Program} {w : World}
theorem big_said {L : Law} {sm : Fin 4} {i : Bool} {t : Int} (h : t ∈ saidK L sm i) (ht : 256 ≤ t) : bitS sm i = false ∧ t = 256 + nmN sm i (L.bx i).about := by
  unfold saidK at h
  cases hb : bitS sm i with
  | true => rw [hb] at h; simp at h; omega
  | false =>
    rw [hb] at h
    simp only [Bool.false_eq_true, if_false, boxD] at h
    have no : ∀ l : List Int, Sm l → t ∉ l := fun l hl hm => by have := (hl t hm).2; omega
    simp only [List.mem_append] at h
    have n1 := no _ (sm_far (L.bx i).far)
    have n2 := no _ (sm_not (L.bx i).turn)
    have n3 := no _ (sm_sgn (L.bx i).sign)
    have n4 := no _ (sm_dot (L.bx i).dots)
    have n5 := no _ (sm_not (L.bx i).back)
    have n6 := no _ (sm_mk (L.bx i).mark)
    rcases h with (((((h | h) | h) | h) | h) | h) | h
    · exact absurd h n1
    · exact absurd h n2
    · exact absurd h n3
    · exact absurd h n4
    · exact absurd h n5
    · exact ⟨rfl, by simpa using h⟩
    · exact absurd h n6
theorem big_rule {L : Law} {sm : Fin 4} {wh : Bool} {t : Int} (h : t ∈ ruleK L sm wh) (ht : 256 ≤ t) : ∃ i, bitS sm i = false ∧ t = 256 + nmN sm i (L.bx i).about := by
  unfold ruleK formD at h
  have no : ∀ l : List Int, Sm l → t ∉ l := fun l hl hm => by have := (hl t hm).2; omega
  simp only [List.mem_append] at h
  have n1 := no _ (sm_not (L.fm wh).turn)
  have n2 := no _ (sm_sgn (L.fm wh).sign)
  have n3 := no _ (sm_not (L.fm wh).first)
  have n4 := no _ (sm_sgn (L.fm wh).other)
  have n5 := no _ (sm_not (L.fm wh).second)
  have n6 := no _ (sm_mk (L.fm wh).mark)
  rcases h with ((((((h | h) | h) | h) | h) | h) | h) | h
  · exact absurd h n1
  · exact absurd h n2
  · exact absurd h n3
  · exact ⟨false, big_said h ht⟩
  · exact absurd h n4
  · exact absurd h n5
  · exact ⟨true, big_said h ht⟩
  · exact absurd h n6
/-- one level of said from the levels below -/
theorem said_level {L : Law} {sm : Fin 4} {wh : Bool} {d : Bool → List Int} {n : Nat} (hn : 1 ≤ n) (hlen : ∀ i, (d i).length ≤ 1000)
    (hne : ∀ i j, bitS sm i = false → bitS sm j = false → nmN sm i (L.bx i).about = nmN sm j (L.bx j).about → i = j)
    (hd : ∀ i, bitS sm i = false → Fn prog w 133 [L.fd, L.bd, .int (256 + nmN sm i (L.bx i).about)] (.list ((d i).map .int)) n) :
    Fn prog w 133 [L.fd, L.bd, .int (nmV sm wh)] (.list ((dueG L sm wh d).map .int)) (n + 1) := by
  let sub : Int → List Int := fun t => if bitS sm false = false ∧ t = 256 + nmN sm false (L.bx false).about then d false else d true
  have hs : ∀ i, bitS sm i = false → sub (256 + nmN sm i (L.bx i).about) = d i := by
    intro i hi
    show (if _ then _ else _) = _
    cases i with
    | false => rw [if_pos ⟨hi, rfl⟩]
    | true =>
      rw [if_neg]
      rintro ⟨h1, h2⟩
      have := hne true false hi h1 (by omega)
      cases this
  have e := flat_rule (L := L) (sm := sm) (wh := wh) (sub := sub) (d := d) hs
  have hl := dueG_len (L := L) (sm := sm) (wh := wh) hlen
  have := fn_said (prog := prog) (w := w) (L := L) (sm := sm) (wh := wh) (sub := sub) hn (cut_rule L sm wh) (ps_rule L sm wh) (fun t ht hb => by
    obtain ⟨i, hi, rfl⟩ := big_rule ht hb
    rw [hs i hi]; exact hd i hi) (by rw [e]; omega)
  rw [e] at this
  exact this
end Mine
open PySem PySem.Spec PySem.Calls PySem.W PyProof.Rows
set_option Elab.async false
set_option maxRecDepth 100000
set_option maxHeartbeats 1000000
set_option linter.unusedVariables false
namespace Mine
variable {prog : Program} {w : World}
theorem bit3 (i : Bool) : bitS 3 i = true := by cases i <;> rfl
theorem due3_len (L : Law) (wh : Bool) : (due3 L wh).length ≤ 40 := by have := dueG_len (L := L) (sm := 3) (wh := wh) (d := fun _ => []) (n := 0) (fun _ => Nat.le_refl _); unfold due3; omega
theorem due2_len (L : Law) (wh : Bool) : (due2 L wh).length ≤ 120 := by have := dueG_len (L := L) (sm := 2) (wh := wh) (d := fun i => due3 L (L.bx i).about) (n := 40) (fun i => due3_len L _); unfold due2; omega
theorem due1_len (L : Law) (wh : Bool) : (due1 L wh).length ≤ 120 := by have := dueG_len (L := L) (sm := 1) (wh := wh) (d := fun i => due3 L (L.bx i).about) (n := 40) (fun i => due3_len L _); unfold due1; omega
theorem due0_len (L : Law) (wh : Bool) : (due0 L wh).length ≤ 280 := by
  have := dueG_len (L := L) (sm := 0) (wh := wh) (d := fun i => if i then due2 L (L.bx i).about else due1 L (L.bx i).about) (n := 120) (fun i => by cases i <;> simp [due1_len, due2_len])
  unfold due0; omega
theorem said3 (L : Law) (wh : Bool) : Fn prog w 133 [L.fd, L.bd, .int (nmV 3 wh)] (.list ((due3 L wh).map .int)) 2 :=
  said_level (Nat.le_refl _) (fun _ => by simp) (fun i j h => by rw [bit3] at h; cases h) (fun i h => by rw [bit3] at h; cases h)
theorem nm_32 (ab : Bool) : 256 + nmN 2 false ab = nmV 3 ab := by cases ab <;> decide
theorem nm_31 (ab : Bool) : 256 + nmN 1 true ab = nmV 3 ab := by cases ab <;> decide
theorem nm_10 (ab : Bool) : 256 + nmN 0 false ab = nmV 1 ab := by cases ab <;> decide
theorem nm_20 (ab : Bool) : 256 + nmN 0 true ab = nmV 2 ab := by cases ab <;> decide
theorem said2 (L : Law) (wh : Bool) : Fn prog w 133 [L.fd, L.bd, .int (nmV 2 wh)] (.list ((due2 L wh).map .int)) 3 := by
  refine said_level (by decide) (fun i => Nat.le_trans (due3_len L _) (by decide)) (fun i j h1 h2 _ => ?_) (fun i h => ?_)
  · cases i <;> cases j <;> first | rfl | (exact absurd h1 (by decide)) | (exact absurd h2 (by decide))
  · cases i with
    | false => rw [nm_32]; exact said3 L _
    | true => cases h
theorem said1 (L : Law) (wh : Bool) : Fn prog w 133 [L.fd, L.bd, .int (nmV 1 wh)] (.list ((due1 L wh).map .int)) 3 := by
  refine said_level (by decide) (fun i => Nat.le_trans (due3_len L _) (by decide)) (fun i j h1 h2 _ => ?_) (fun i h => ?_)
  · cases i <;> cases j <;> first | rfl | (exact absurd h1 (by decide)) | (exact absurd h2 (by decide))
  · cases i with
    | true => rw [nm_31]; exact said3 L _
    | false => cases h
theorem said0 (L : Law) (wh : Bool) : Fn prog w 133 [L.fd, L.bd, .int (nmV 0 wh)] (.list ((due0 L wh).map .int)) 4 := by
  refine said_level (by decide) (fun i => ?_) (fun i j h1 h2 h => ?_) (fun i h => ?_)
  · cases i
    · exact Nat.le_trans (due1_len L _) (by decide)
    · exact Nat.le_trans (due2_len L _) (by decide)
  · have a := nm_10 (L.bx false).about
    have b := nm_20 (L.bx true).about
    have c : ∀ x y : Bool, nmV 1 x ≠ nmV 2 y := by decide
    cases i <;> cases j
    · rfl
    · exact absurd (by rw [← a, ← b, h]) (c _ _)
    · exact absurd (by rw [← a, ← b, h]) (c _ _)
    · rfl
  · cases i with
    | false => rw [nm_10]; exact said1 L _
    | true => rw [nm_20]; exact said2 L _
theorem fdue3 (L : Law) (wh : Bool) : Fn prog w 140 [L.fd, L.bd, .int (fin (3 : Fin 4)), .int (bi wh)] (.list ((due3 L wh).map .int)) 1 :=
  fn_due (fun _ => by simp) (fun i h => by rw [bit3] at h; cases h)
theorem fdue2 (L : Law) (wh : Bool) : Fn prog w 140 [L.fd, L.bd, .int (fin (2 : Fin 4)), .int (bi wh)] (.list ((due2 L wh).map .int)) 2 := by
  refine fn_due (fun i => Nat.le_trans (due3_len L _) (by decide)) (fun i h => ?_)
  cases i with
  | false => exact fdue3 L _
  | true => cases h
theorem fdue1 (L : Law) (wh : Bool) : Fn prog w 140 [L.fd, L.bd, .int (fin (1 : Fin 4)), .int (bi wh)] (.list ((due1 L wh).map .int)) 2 := by
  refine fn_due (fun i => Nat.le_trans (due3_len L _) (by decide)) (fun i h => ?_)
  cases i with
  | true => exact fdue3 L _
  | false => cases h
theorem fdue0 (L : Law) (wh : Bool) : Fn prog w 140 [L.fd, L.bd, .int (fin (0 : Fin 4)), .int (bi wh)] (.list ((due0 L wh).map .int)) 3 := by
  refine fn_due (fun i => ?_) (fun i h => ?_)
  · cases i
    · exact Nat.le_trans (due1_len L _) (by decide)
    · exact Nat.le_trans (due2_len L _) (by decide)
  · cases i with
    | false => exact fdue1 L _
    | true => exact fdue2 L _
end Mine
open PySem PySem.Spec PySem.Calls PySem.W PyProof.Rows
set_option Elab.async false
set_option maxRecDepth 100000
set_option maxHeartbeats 1000000
set_option linter.unusedVariables false
namespace Mine
variable {leaf : Int → Option Hl} {al ah : Hl → Hl}
theorem RRun.app {cs ds : List Int} {p q r : List Hl} (h1 : RRun leaf al ah cs p q) (h2 : RRun leaf al ah ds q r) : RRun leaf al ah (cs ++ ds) p r := by
  induction h1 with
  | nil => exact h2
  | cons a _ ih => exact .cons a (ih h2)
/-- a stretch of the row says v -/
noncomputable def Val (leaf : Int → Option Hl) (al ah : Hl → Hl) (l : List Int) (v : Hl) : Prop := ∀ p, RRun leaf al ah l.reverse p (p ++ [v])
theorem val_leaf {c : Int} {f : Hl} (h : leaf c = some f) : Val leaf al ah [c] f := fun p => .cons (.leaf h) .nil
theorem val_one {c : Int} {l : List Int} {v u : Hl} (h : Val leaf al ah l v) (hs : ∀ p, RStep leaf al ah c (p ++ [v]) (p ++ [u])) : Val leaf al ah ([c] ++ l) u := fun p => by
  rw [List.reverse_append]
  exact (h p).app (.cons (hs p) .nil)
theorem val_two {s : Fin 8} {l m : List Int} {a b : Hl} (hn : leaf (sgnN s) = none) (hl : Val leaf al ah l a) (hm : Val leaf al ah m b) : Val leaf al ah ([sgnN s] ++ (l ++ m)) (fun k => twoB s (a k) (b k)) := fun p => by
  rw [List.reverse_append, List.reverse_append]
  exact ((hm p).app (hl _)).app (.cons (.two hn) .nil)
theorem val_not {b : Bool} {l : List Int} {v : Hl} (hn : leaf 31 = none) (h : Val leaf al ah l v) : Val leaf al ah (notN b ++ l) (fun k => b ^^ v k) := by
  cases b
  · have : (fun k => false ^^ v k) = v := by funext k; simp
    rw [this]; exact h
  · have : (fun k => true ^^ v k) = fun k => !v k := by funext k; simp
    rw [this]; exact val_one h fun p => .neg hn

structure LeafOK (leaf : Int → Option Hl) (mk : Bool → Hl) : Prop where
  mark : ∀ b, leaf (12 + bi b) = some (mk b)
  y : leaf 255 = some fun _ => true
  no : ∀ c, c ∈ ([31, 23, 52, 17, 47, 19, 18, 32, 20, 21, 30, 28, 51] : List Int) → leaf c = none
theorem LeafOK.sgn {mk : Bool → Hl} (h : LeafOK leaf mk) (s : Fin 8) : leaf (sgnN s) = none := h.no _ (by revert s; decide)
noncomputable def dotsV (al : Hl → Hl) (d : Fin 4) (v : Hl) : Hl := match d with
  | 0 => v
  | 1 => al v
  | 2 => al (al v)
  | 3 => al v
noncomputable def boxV (al ah : Hl → Hl) (mk : Bool → Hl) (b : Bx) (v : Hl) : Hl :=
  let c : Hl := fun k => b.turn ^^ twoB b.sign (dotsV al b.dots (fun k => b.back ^^ v k) k) (mk b.mark k)
  if b.far then ah (ah c) else ah c
theorem val_dots {mk : Bool → Hl} (H : LeafOK leaf mk) {l : List Int} {v : Hl} (d : Fin 4) (h : Val leaf al ah l v) : Val leaf al ah (dotN d ++ l) (dotsV al d v) := by
  match d with
  | 0 => exact h
  | 1 => exact val_one h fun p => .dot (H.no _ (by decide)) (.inl rfl)
  | 2 => exact val_one (val_one h fun p => .dot (H.no _ (by decide)) (.inl rfl)) fun p => .dot (H.no _ (by decide)) (.inl rfl)
  | 3 => exact val_one h fun p => .dot (H.no _ (by decide)) (.inr rfl)
theorem val_box {mk : Bool → Hl} (H : LeafOK leaf mk) {l : List Int} {v : Hl} (b : Bx) (h : Val leaf al ah l v) : Val leaf al ah (boxD b l) (boxV al ah mk b v) := by
  have h1 := val_dots H b.dots (val_not (b := b.back) (H.no _ (by decide)) h)
  have h2 := val_two (H.sgn b.sign) h1 (val_leaf (al := al) (ah := ah) (H.mark b.mark))
  have h3 := val_not (b := b.turn) (H.no _ (by decide)) h2
  have e : boxD b l = farN b.far ++ (notN b.turn ++ ([sgnN b.sign] ++ ((dotN b.dots ++ (notN b.back ++ l)) ++ [12 + bi b.mark]))) := by
    simp only [boxD, List.append_assoc]
  rw [e]
  unfold boxV
  cases b.far
  · exact val_one h3 fun p => .box (H.no _ (by decide))
  · exact val_one h3 fun p => .far (H.no _ (by decide))
noncomputable def saidV (al ah : Hl → Hl) (mk : Bool → Hl) (L : Law) (sm : Fin 4) (i : Bool) (v : Hl) : Hl := if bitS sm i then fun _ => true else boxV al ah mk (L.bx i) v
noncomputable def formV (mk : Bool → Hl) (f : Fm) (s0 s1 : Hl) : Hl := fun k => f.turn ^^ twoB f.sign (f.first ^^ s0 k) (twoB f.other (f.second ^^ s1 k) (mk f.mark k))
theorem val_form {mk : Bool → Hl} (H : LeafOK leaf mk) {l m : List Int} {u v : Hl} (f : Fm) (h0 : Val leaf al ah l u) (h1 : Val leaf al ah m v) : Val leaf al ah (formD f l m) (formV mk f u v) := by
  have a := val_two (H.sgn f.other) (val_not (b := f.second) (H.no _ (by decide)) h1) (val_leaf (al := al) (ah := ah) (H.mark f.mark))
  have b := val_not (b := f.turn) (H.no _ (by decide)) (val_two (H.sgn f.sign) (val_not (b := f.first) (H.no _ (by decide)) h0) a)
  have e : formD f l m = notN f.turn ++ ([sgnN f.sign] ++ ((notN f.first ++ l) ++ ([sgnN f.other] ++ ((notN f.second ++ m) ++ [12 + bi f.mark])))) := by
    simp only [formD, List.append_assoc]
  rw [e]; exact b
theorem val_said {mk : Bool → Hl} (H : LeafOK leaf mk) {L : Law} {sm : Fin 4} {i : Bool} {l : List Int} {v : Hl} (h : bitS sm i = false → Val leaf al ah l v) : Val leaf al ah (saidD L sm i l) (saidV al ah mk L sm i v) := by
  unfold saidD saidV
  cases hb : bitS sm i with
  | true => exact val_leaf H.y
  | false => exact val_box H _ (h hb)
noncomputable def dueV (al ah : Hl → Hl) (mk : Bool → Hl) (L : Law) (sm : Fin 4) (wh : Bool) (v : Bool → Hl) : Hl := formV mk (L.fm wh) (saidV al ah mk L sm false (v false)) (saidV al ah mk L sm true (v true))
theorem val_due {mk : Bool → Hl} (H : LeafOK leaf mk) {L : Law} {sm : Fin 4} {wh : Bool} {d : Bool → List Int} {v : Bool → Hl} (h : ∀ i, bitS sm i = false → Val leaf al ah (d i) (v i)) : Val leaf al ah (dueG L sm wh d) (dueV al ah mk L sm wh v) :=
  val_form H _ (val_said H (h false)) (val_said H (h true))
noncomputable def val3 (al ah : Hl → Hl) (mk : Bool → Hl) (L : Law) (wh : Bool) : Hl := dueV al ah mk L 3 wh fun _ _ => true
noncomputable def val2 (al ah : Hl → Hl) (mk : Bool → Hl) (L : Law) (wh : Bool) : Hl := dueV al ah mk L 2 wh fun i => val3 al ah mk L (L.bx i).about
noncomputable def val1 (al ah : Hl → Hl) (mk : Bool → Hl) (L : Law) (wh : Bool) : Hl := dueV al ah mk L 1 wh fun i => val3 al ah mk L (L.bx i).about
noncomputable def val0 (al ah : Hl → Hl) (mk : Bool → Hl) (L : Law) (wh : Bool) : Hl := dueV al ah mk L 0 wh fun i => if i then val2 al ah mk L (L.bx i).about else val1 al ah mk L (L.bx i).about
theorem run_row {mk : Bool → Hl} (H : LeafOK leaf mk) (L : Law) (wh : Bool) : Val leaf al ah (due0 L wh) (val0 al ah mk L wh) := by
  have h3 : ∀ w, Val leaf al ah (due3 L w) (val3 al ah mk L w) := fun w => val_due H fun i h => by rw [bit3] at h; cases h
  have h1 : ∀ w, Val leaf al ah (due1 L w) (val1 al ah mk L w) := fun w => val_due H fun i _ => h3 _
  have h2 : ∀ w, Val leaf al ah (due2 L w) (val2 al ah mk L w) := fun w => val_due H fun i _ => h3 _
  exact val_due (v := fun i => if i then val2 al ah mk L (L.bx i).about else val1 al ah mk L (L.bx i).about) H fun i _ => match i with
    | false => h1 _
    | true => h2 _
end Mine
open PySem PySem.Spec PySem.Calls PySem.W PyProof.Rows
set_option Elab.async false
set_option maxRecDepth 100000
set_option maxHeartbeats 1000000
set_option linter.unusedVariables false
namespace Mine
/-- what fails, fails first somewhere -/
theorem least_fail {l : List Nat} {C : Hl} (h : l.all C = false) : ∃ v ∈ l, C v = false ∧ ∀ w ∈ l, w < v → C w = true := by
  obtain ⟨v0, hv0, hc0⟩ : ∃ v ∈ l, C v = false := by
    have := List.all_eq_false.mp h
    obtain ⟨v, hv, hc⟩ := this
    exact ⟨v, hv, by simpa using hc⟩
  have main : ∀ n v, v ≤ n → v ∈ l → C v = false → ∃ v ∈ l, C v = false ∧ ∀ w ∈ l, w < v → C w = true := by
    intro n
    induction n with
    | zero => exact fun v hv hm hc => ⟨v, hm, hc, fun w _ hw => by omega⟩
    | succ n ih =>
      intro v hv hm hc
      by_cases q : ∃ w ∈ l, w < v ∧ C w = false
      · obtain ⟨w, hw, hlt, hcw⟩ := q
        exact ih w (by omega) hw hcw
      · refine ⟨v, hm, hc, fun w hw hlt => ?_⟩
        cases e : C w with
        | true => rfl
        | false => exact absurd ⟨w, hw, hlt, e⟩ q
  exact main v0 v0 (Nat.le_refl _) hv0 hc0
/-- a box looks at places further out alone -/
theorem box_loc {S : Nat → List Nat} {C C' : Hl} {k : Nat} (htr : ∀ v ∈ S k, ∀ w ∈ S v, w ∈ S k) (hlt : ∀ v ∈ S k, ∀ w ∈ S v, w < v) (h : ∀ v ∈ S k, (S v).all C = true → C v = C' v) : (S k).all C = (S k).all C' := by
  cases hb : (S k).all C with
  | true =>
    symm
    rw [List.all_eq_true] at hb ⊢
    intro v hv
    rw [← h v hv (List.all_eq_true.mpr fun w hw => hb w (htr v hv w hw))]
    exact hb v hv
  | false =>
    obtain ⟨v, hv, hc, hm⟩ := least_fail hb
    symm
    rw [List.all_eq_false]
    refine ⟨v, hv, ?_⟩
    rw [← h v hv (List.all_eq_true.mpr fun w hw => hm w (htr v hv w hw) (hlt v hv w hw)), hc]
    decide
end Mine
open PySem PySem.Spec PySem.Calls PySem.W PyProof.Rows
set_option Elab.async false
set_option maxRecDepth 100000
set_option maxHeartbeats 1000000
set_option linter.unusedVariables false
namespace Mine
section
variable {prog : Program} {w : World} {A : Around} {E : Value → Shared → Prop} {s : Shared}
/-- a set of texts, with what its walk asks of the table -/
noncomputable def LedOK (w : World) (t : SetTable) (n : Nat) : Prop := t.led = !(w.params.followText "set-order") ∧ (t.plain = false ∨ n = 0)
noncomputable def StrSet (prog : Program) (w : World) (h : Heap) (a : Addr) (S : Str → Bool) (n : Nat) : Prop :=
  ∃ o es ep t, h.get? a = some o ∧ o.ExactSet ∧ o.data = .set es ep t ∧ ElemsOf (strKind prog w) es.toList ∧ (∀ k, S k = true ↔ ∃ e ∈ es.toList, (strKind prog w).is k e.2 = true) ∧
    es.size < scanBound ∧ t.fits es.size = true ∧ es.size = n ∧ LedOK w t n
theorem StrSet.setOf {h : Heap} {a : Addr} {S : Str → Bool} {n : Nat} : StrSet prog w h a S n → h.SetOf (strKind prog w) a S n :=
  fun x => x.imp fun _ x => x.imp fun _ x => x.imp fun _ x => x.imp fun _ x => ⟨x.1, x.2.1, x.2.2.1, x.2.2.2.1, x.2.2.2.2.1, x.2.2.2.2.2.1, x.2.2.2.2.2.2.1, x.2.2.2.2.2.2.2.1⟩
theorem StrSet.congr {h : Heap} {a : Addr} {S S' : Str → Bool} {n n' : Nat} (x : StrSet prog w h a S n) (e : ∀ k, S k = S' k) (en : n = n') : StrSet prog w h a S' n' := by
  have : S = S' := funext e
  subst this; subst en; exact x
theorem StrSet.at' {h h' : Heap} {a : Addr} {S : Str → Bool} {n : Nat} (x : StrSet prog w h a S n) (e : ∀ o, h.get? a = some o → h'.get? a = some o) : StrSet prog w h' a S n :=
  let ⟨o, es, ep, t, h1, r⟩ := x; ⟨o, es, ep, t, e o h1, r⟩
theorem standIn_led (t : SetTable) (n : Nat) : (t.standIn n).led = t.led := rfl
theorem orStandIn_led (t : SetTable) (n : Nat) : (t.orStandIn n).led = t.led := by unfold SetTable.orStandIn; split <;> rfl
theorem orStandIn_plain {t : SetTable} {n : Nat} (h : t.plain = false) : (t.orStandIn n).plain = false := by unfold SetTable.orStandIn; split <;> first | exact h | rfl
theorem layNew_led (t : SetTable) (es : Array (Int × Value)) (h : Int) (x : Value) : (layNew t es h x).2.1.led = t.led := by
  unfold layNew
  split
  · exact orStandIn_led _ _
  · rfl
theorem layNew_plain {t : SetTable} (es : Array (Int × Value)) (h : Int) (x : Value) (hp : t.plain = false) : (layNew t es h x).2.1.plain = false := by
  unfold layNew
  split
  · exact orStandIn_plain hp
  · rfl
theorem laid_led {mask finger moves : Nat} {led plain : Bool} {hashes : Array Int} {t : SetTable} {o : Array Nat} (h : SetTable.laid mask finger moves led plain hashes = some (t, o)) : t.led = led ∧ t.plain = plain := by
  unfold SetTable.laid at h
  cases e : SetTable.layClean mask hashes with
  | none => rw [e] at h; cases h
  | some ow => rw [e] at h; cases h; exact ⟨rfl, rfl⟩
theorem relayAll_led (t : SetTable) (es : Array (Int × Value)) (n : Nat) : (relayAll t es n).2.1.led = t.led := by
  unfold relayAll
  split
  · rename_i t' order e
    have := (laid_led e).1
    dsimp only
    split
    · exact this
    · rfl
  · rfl
theorem relayAll_plain {t : SetTable} (es : Array (Int × Value)) (n : Nat) (h : t.plain = false) : (relayAll t es n).2.1.plain = false := by
  unfold relayAll
  split
  · rename_i t' order e
    have := (laid_led e).2
    dsimp only
    split
    · exact this.trans h
    · rfl
  · rfl
/-- what stands once a table is stored -/
theorem StrSet.stored {h : Heap} {a : Addr} {o : Obj} {es : Array (Int × Value)} {ep : Nat} {t : SetTable} (ho : h.get? a = some o) (hex : o.ExactSet) (hd : o.data = .set es ep t)
    {es' : Array (Int × Value)} {t' : SetTable} {S' : Str → Bool} (hel : ElemsOf (strKind prog w) es'.toList) (hmem : ∀ k, S' k = true ↔ ∃ e ∈ es'.toList, (strKind prog w).is k e.2 = true) (hb : es'.size < scanBound) (hf : t'.fits es'.size = true)
    (hl : t'.led = !(w.params.followText "set-order")) (hp : t'.plain = false) :
    (h.update a (Obj.putSet es' t')).get? a = some { o with data := .set es' (ep + 1) t' } ∧ StrSet prog w (h.update a (Obj.putSet es' t')) a S' es'.size := by
  obtain ⟨h1, _⟩ := SetOf_store (knd := strKind prog w) ho hex hd hel hmem hb hf
  exact ⟨h1, _, es', ep + 1, t', h1, hex, rfl, hel, hmem, hb, hf, rfl, hl, .inl hp⟩
theorem StrSet.tail {g : Bool → Sem Unit} (hg : ∀ (b : Bool) (s₁ : Shared) (Q' : Unit → Shared → Prop), Q' () s₁ → wpAny (model prog w) A (g b) Q' E s₁)
    {a : Addr} {o : Obj} {es : Array (Int × Value)} {ep : Nat} {t : SetTable} (ho : s.heap.get? a = some o) (hex : o.ExactSet) (hd : o.data = .set es ep t)
    {es1 : Array (Int × Value)} {t2 : SetTable} {S' : Str → Bool} (hel1 : ElemsOf (strKind prog w) es1.toList) (hmem1 : ∀ k', S' k' = true ↔ ∃ e ∈ es1.toList, (strKind prog w).is k' e.2 = true)
    (hb1 : es1.size < scanBound) (hf2 : t2.fits es1.size = true) (hl : t2.led = !(w.params.followText "set-order")) (hp : t2.plain = false) {wasDummy : Bool} {R : Option Bool → Shared → Prop}
    (h : ∀ h', Heap.SameBut a s.heap h' → StrSet prog w h' a S' es1.size → R (some true) { s with heap := h' }) :
    wpAny (model prog w) A (do
        storeSet a es1 t2
        if (!wasDummy && t2.tooFull) = true then do
            g (relayAll t2 es1 (SetTable.grown es1.size)).2.2
            storeSet a (relayAll t2 es1 (SetTable.grown es1.size)).1 (relayAll t2 es1 (SetTable.grown es1.size)).2.1
            pure (some true)
          else pure (some true)) R E s := by
  obtain ⟨ho1, hS1⟩ := StrSet.stored (prog := prog) ho hex hd hel1 hmem1 hb1 hf2 hl hp
  have hsb1 := Heap.SameBut.update s.heap a (Obj.putSet es1 t2)
  refine wpAny_bind (wpAny_storeSet_of ho hd ?_ (fits_of_scanBound hb1))
  split
  · have q1 := relayAll_perm t2 es1 (SetTable.grown es1.size)
    have q2 := relayAll_fits t2 es1 (SetTable.grown es1.size)
    have q3 := relayAll_led t2 es1 (SetTable.grown es1.size)
    have q4 := relayAll_plain es1 (SetTable.grown es1.size) hp
    generalize relayAll t2 es1 (SetTable.grown es1.size) = Rl at q1 q2 q3 q4 ⊢
    obtain ⟨es2, t3, gave2⟩ := Rl
    dsimp only at q1 q2 q3 q4 ⊢
    have hsz : es2.size = es1.size := by rw [← Array.length_toList, q1.length_eq, Array.length_toList]
    refine wpAny_bind (hg _ _ _ (wpAny_bind (wpAny_storeSet_of ho1 rfl ?_ (fits_of_scanBound (by omega)))))
    have hS2 := (StrSet.stored (prog := prog) (w := w) (S' := S') ho1 hex rfl (hel1.perm q1) (fun k' => (hmem1 k').trans ⟨fun ⟨e, he, q⟩ => ⟨e, q1.mem_iff.mpr he, q⟩, fun ⟨e, he, q⟩ => ⟨e, q1.mem_iff.mp he, q⟩⟩) (by omega) q2 (q3.trans hl) q4).2
    rw [hsz] at hS2
    exact wpAny_pure (h _ (hsb1.trans (Heap.SameBut.update _ a _)) hS2)
  · exact wpAny_pure (h _ hsb1 hS1)
theorem StrSet.add {a : Addr} {S : Str → Bool} {n : Nat} {k : Str} {tk : Tok} {Q : Bool → Shared → Prop} (hS : StrSet prog w s.heap a S n) (hroom : n + 1 < scanBound)
    (h : ∀ h', Heap.SameBut a s.heap h' → StrSet prog w h' a (fun k' => S k' || decide (k' = k)) (if S k then n else n + 1) → Q (!S k) { s with heap := h' }) :
    wpAny (model prog w) A (setAddHashed a (.str k tk) ((strKind prog w).hash k)) Q E s := by
  obtain ⟨o, es, ep, t, ho, hex, hd, hel, hmem, hb, hf, hn, hled, hpl⟩ := hS
  have hkey := strKind_is prog w k tk
  have hsc : (Value.str k tk).scannable = true := rfl
  have hb1 : es.size + 1 < scanBound := by rw [hn]; exact hroom
  unfold setAddHashed setAddHashedIn
  refine wpAny_holding (wpAny_bind (wpAny_setState_of ho hd hf ?_))
  dsimp only
  rw [byScan_of hsc hb hel]
  simp only [↓reduceIte]
  unfold setAddByScan
  refine wpAny_bind (wpAny_bind (wpAny_rule (wpAny_bind (wpAny_setScan_of hkey ho hd hf hel ?_))))
  cases hr : List.findIdx? (fun e => (strKind prog w).is k e.2) es.toList with
  | some j =>
    obtain ⟨hj, hpj, _⟩ := List.findIdx?_eq_some_iff_getElem.mp hr
    have hSk : S k = true := (hmem k).mpr ⟨es.toList[j], List.getElem_mem hj, hpj⟩
    have q := h s.heap (Heap.SameBut.refl a s.heap) ⟨o, es, ep, t, ho, hex, hd, hel, fun k' => by
      rw [Bool.or_eq_true, decide_eq_true_eq, ← hmem k']
      exact ⟨fun hk => hk.elim id (fun e => e ▸ hSk), .inl⟩, hb, hf, by rw [hSk]; exact hn, hled, by rw [hSk]; exact hpl⟩
    rw [hSk] at q
    exact wpAny_pure (wpAny_pure q)
  | none =>
    have hSk : S k = false := by
      rw [Bool.eq_false_iff]
      intro hk
      obtain ⟨e, he, hp⟩ := (hmem k).mp hk
      have := List.findIdx?_eq_none_iff.mp hr e he
      rw [hp] at this; cases this
    have hgw : ∀ (b : Bool) (s₁ : Shared) (Q' : Unit → Shared → Prop), Q' () s₁ → wpAny (model prog w) A (match b with | true => rule "set.scan.the-table-gave-way" | false => pure ()) Q' E s₁ :=
      fun b s₁ Q' hq => by cases b <;> first | exact wpAny_pure hq | exact wpAny_rule hq
    have q1 := layNew_perm t es ((strKind prog w).hash k) (.str k tk)
    have q2 := layNew_fits t es ((strKind prog w).hash k) (.str k tk)
    have q3 := layNew_led t es ((strKind prog w).hash k) (.str k tk)
    generalize layNew t es ((strKind prog w).hash k) (.str k tk) = Lr at q1 q2 q3 ⊢
    obtain ⟨es1, t1, wasDummy, gave⟩ := Lr
    dsimp only at q1 q2 q3 ⊢
    rw [Array.toList_push] at q1
    have hsz1 : es1.size = n + 1 := by rw [← Array.length_toList, q1.length_eq, List.length_append, Array.length_toList, hn]; rfl
    have hel1 : ElemsOf (strKind prog w) es1.toList := (hel.push hkey hsc).perm q1
    have hmem1 := mem_push_iff (knd := strKind prog w) hkey hmem q1
    have hend : ∀ h', Heap.SameBut a s.heap h' → StrSet prog w h' a (fun k' => S k' || decide (k' = k)) es1.size → Q true { s with heap := h' } := fun h' hsb hS' => by
      have := h h' hsb
      rw [hSk] at this
      rw [hsz1] at hS'
      exact this hS'
    refine wpAny_bind (hgw _ _ _ ?_)
    cases hpt : t1.plain with
    | true =>
      simp only [if_true]
      rw [hashByValue_scannable 8 hsc]
      refine wpAny_bind (wpAny_pure ?_)
      simp only [plainKind, Bool.false_eq_true, if_false]
      exact StrSet.tail (t2 := { t1 with plain := false }) hgw ho hex hd hel1 hmem1 (by omega) (SetTable.fits_plain_off q2) (q3.trans hled) rfl fun h' hsb hS' => wpAny_pure (hend h' hsb hS')
    | false =>
      simp only [Bool.false_eq_true, if_false]
      refine wpAny_bind (wpAny_pure ?_)
      simp only [if_true]
      exact StrSet.tail (t2 := t1) hgw ho hex hd hel1 hmem1 (by omega) q2 (q3.trans hled) hpt fun h' hsb hS' => wpAny_pure (hend h' hsb hS')
end
end Mine
open PySem PySem.Spec PySem.Calls PySem.W PyProof.Rows
set_option Elab.async false
set_option maxRecDepth 1000000
set_option maxHeartbeats 4000000
set_option linter.unusedVariables false
namespace Mine
section
variable {prog : Program} {w : World} {A : Around} {E : Value → Shared → Prop} {s : Shared}
noncomputable def freshSet (w : World) : Obj := { cls := .type "set", dict := none, data := .set #[] 0 (.fresh 0 0 (!(w.params.followText "set-order"))) }
theorem freshSet_is {h : Heap} {a : Addr} (e : h.get? a = some (freshSet w)) : StrSet prog w h a (fun _ => false) 0 :=
  ⟨_, #[], 0, _, e, ⟨rfl, rfl, rfl⟩, rfl, fun e he => by simp at he, fun k => by simp, by decide, by rfl, rfl, rfl, .inr rfl⟩
theorem set_new {rest : List Value} {Q₁ : Value → Shared → Prop} (hc : checkBuiltinCall "set.__new__" ⟨.type "set" :: rest, []⟩ = pure ())
    (h : Q₁ (.ref s.heap.objs.size) { s with heap := s.heap.push (freshSet w) }) :
    codeAny (model prog w) A (.call (.builtin "set.__new__") ⟨.type "set" :: rest, []⟩) (wants Q₁ E) s := by
  refine codeAny_of_tree ?_
  show wpAny _ A.in1 (do checkBuiltinCall "set.__new__" ⟨.type "set" :: rest, []⟩; again (.builtin "set.__new__" ⟨.type "set" :: rest, []⟩)) _ _ s
  refine wpAny_bind (wpAny_of_eq hc (wpAny_pure ⟨plainId_quiet PySem.F.plain_set_new _, codeAny_builtin PySem.F.entry_set_new ?_⟩))
  rw [Around.under_plainId PySem.F.plain_set_new _]
  unfold Builtin.«set.__new__» Builtin.Frozenset.newClass
  have hsub := sub_set_self
  obtain ⟨hp, g, d, tk, os⟩ := s
  dsimp only
  wp_walk
  refine wpAny_askSetting (wpAny_pure ?_)
  dsimp only
  simp only [newObj]
  exact wpAny_bind (wpAny_alloc (wpAny_pure (wpAny_pure h)))
/-- the loop of set(..) -/
theorem set_loop {I l Sa : Addr} {items : Array Value} {ns : List Str} {R : Result → Shared → Prop} (hSI : Sa ≠ I) (hSl : Sa ≠ l) (hlI : l ≠ I) (hlen : ns.length = items.size) (hv : ∀ (i : Nat) v, items[i]? = some v → ∃ x t, v = .str x t ∧ ns[i]? = some x) (hb : items.size + 1 < scanBound) :
    ∀ (k i n : Nat) (A : Around) (s : Shared), A.handled = none → items.size - i = k → i ≤ items.size → n ≤ i → s.heap.IsListIter I l i → s.heap.IsList l items → StrSet prog w s.heap Sa (fun k => (ns.take i).contains k) n →
      (∀ h' tk n', (∀ b o, b ≠ I → b ≠ Sa → s.heap.get? b = some o → h'.get? b = some o) → n' ≤ items.size → StrSet prog w h' Sa (fun k => ns.contains k) n' → R (.ok (.ret .none)) { s with heap := h', toks := tk }) →
      codeAny (model prog w) A (.builtin "set.update.loop" ⟨[.ref Sa, .ref I], []⟩) R s := by
  intro k
  induction k with
  | zero =>
    intro i n A s hh hk hi hn hit hl hS hR
    have hin : i = items.size := by omega
    refine codeAny_builtin PyProof.Rows.F.entry_set_update_loop ?_
    rw [Around.under_plainId PyProof.Rows.F.plain_set_update_loop _]
    show wpAny _ A.in1 (pyNext (.ref I) >>= _) _ _ s
    refine wpAny_bind (wpAny_pyNext_list_end (by simp [hh]) hit hl (by rw [hin]; simp) fun h' he => ?_)
    show wpAny _ A.in1 (ret Value.none) _ _ _
    exact wpAny_pure (hR h' s.toks n (fun b o h1 _ e => he b o h1 e) (by omega) ((hS.congr (fun k => by rw [hin, List.take_of_length_le (by omega)]) rfl).at' fun o e => he _ o hSI e))
  | succ k ih =>
    intro i n A s hh hk hi hn hit hl hS hR
    have hlt : i < items.size := by omega
    refine codeAny_builtin PyProof.Rows.F.entry_set_update_loop ?_
    rw [Around.under_plainId PyProof.Rows.F.plain_set_update_loop _]
    show wpAny _ A.in1 (pyNext (.ref I) >>= _) _ _ s
    obtain ⟨x, t, hx, hnx⟩ := hv i items[i] (by simp [hlt])
    refine wpAny_bind (wpAny_pyNext_list_item hit hl (x := .str x t) (by rw [← hx]; simp [hlt]) fun h' hit' hs' => ?_)
    have hS' : StrSet prog w h' Sa (fun k => (ns.take i).contains k) n := hS.at' fun o e => (hs'.2 _ hSI).trans e
    show wpAny _ A.in1 (holding [Value.str x t] (setAdd Sa (.str x t)) >>= _) _ _ _
    refine wpAny_bind (wpAny_holding ?_)
    unfold setAdd
    refine wpAny_holding (wpAny_bind ((strKind prog w).pyHash (k := x) (strKind_is _ _ _ _) ?_))
    refine StrSet.add (s := { s with heap := h', toks := s.toks + 1 }) hS' (by omega) fun h2 hs2 hS2 => ?_
    have hS2' : StrSet prog w h2 Sa (fun k' => (ns.take (i + 1)).contains k') (if (ns.take i).contains x then n else n + 1) := hS2.congr (fun k' => by
      rw [List.take_add_one, hnx]
      simp only [Option.toList_some, List.contains_eq_any_beq, List.any_append, List.any_cons, List.any_nil, Bool.or_false]
      congr 1) rfl
    refine wpAny_pure ⟨plainId_quiet PyProof.Rows.F.plain_set_update_loop _, ih (i + 1) _ A _ hh (by omega) hlt (by split <;> omega) ?_ ?_ hS2' fun h3 tk n' hk3 hn3 hS3 => ?_⟩
    · obtain ⟨o, ho, q⟩ := hit'
      exact ⟨o, (hs2.2 _ (Ne.symm hSI)).trans ho, q⟩
    · exact (hl.extBut hs'.extBut hlI).at fun o e => (hs2.2 _ (Ne.symm hSl)).trans e
    · exact hR h3 tk n' (fun b o h1 h2' e => hk3 b o h1 h2' ((hs2.2 b h2').trans ((hs'.2 b h1).trans e))) hn3 hS3
end
end Mine
open PySem PySem.Spec PySem.Calls PySem.W PyProof.Rows
set_option Elab.async false
set_option maxRecDepth 1000000
set_option maxHeartbeats 4000000
set_option linter.unusedVariables false
namespace Mine
section
variable {prog : Program} {w : World} {A : Around} {E : Value → Shared → Prop} {s : Shared}
/-- set(l), l a list of texts -/
theorem call_set_strs {l : Addr} {items : Array Value} {ns : List Str} {Q : Value → Shared → Prop} (hh : A.handled = none) (hl : s.heap.IsList l items) (hlen : ns.length = items.size)
    (hv : ∀ (i : Nat) v, items[i]? = some v → ∃ x t, v = .str x t ∧ ns[i]? = some x) (hb : items.size + 1 < scanBound)
    (h : ∀ (h' : Heap) (tk n : Nat), n ≤ items.size → StrSet prog w h' s.heap.objs.size (fun k => ns.contains k) n → (∀ b o, s.heap.get? b = some o → h'.get? b = some o) → Q (.ref s.heap.objs.size) { s with heap := h', toks := tk }) :
    wpAny (model prog w) A (call (.type "set") [.ref l]) Q E s := by
  obtain ⟨c, tl, hmro⟩ := PySem.F.called_set.mro
  have hmade := PySem.F.called_set.made
  have hsub := PySem.F.called_set.sub
  refine wpAny_call (codeAny_of_tree ?_)
  show wpAny _ _ (callAny (.type "set") _) _ _ _
  refine wpAny_pure ⟨Code.quiet_builtin _ (by decide +kernel), codeAny_builtin PySem.F.entry_type_call ?_⟩
  rw [Around.under_plain (weight_type_call_type "set" [.ref l] []) rfl]
  have h1 := PySem.F.called_set.notType
  have h2 := PySem.F.called_set.canCreate
  have hct := PySem.F.typeCall_set_1 (.ref l)
  repeat (any_goals (first | assumption | wp_step))
  refine codeAny_mono (set_new (E := E) (Q₁ := fun obj s₁ => obj = .ref s.heap.objs.size ∧ s₁ = { s with heap := s.heap.push (freshSet w) }) (PySem.F.newCall_set_1 (.ref l)) ⟨rfl, rfl⟩) fun r s₁ hr => ?_
  rcases r with e | (obj | _ | _ | _) <;> first | exact hr | exact hr.elim | skip
  obtain ⟨rfl, rfl⟩ := hr
  have hS : (s.heap.push (freshSet w)).get? s.heap.objs.size = some (freshSet w) := Heap.get?_push_size _ rfl
  have hT : Shared.TypeIs { s with heap := s.heap.push (freshSet w) } (.ref s.heap.objs.size) "set" := ⟨_, hS, rfl⟩
  have hli := PySem.F.called_set.init.lookup
  have hbi := PySem.F.called_set.init.bind (.ref s.heap.objs.size)
  repeat (any_goals (first | assumption | wp_step))
  refine codeAny_mono (codeAny_call_builtin (R := wants (fun r s₂ => r = .none ∧ ∃ h' tk n, s₂ = { s with heap := h', toks := tk } ∧ n ≤ items.size ∧ StrSet prog w h' s.heap.objs.size (fun k => ns.contains k) n ∧ (∀ b o, s.heap.get? b = some o → h'.get? b = some o)) E) PySem.F.called_set.init.plain PySem.F.entry_set_init (check_set_init_1 hT ?_)) fun r₂ s₂ hr₂ => ?_
  · have hl1 : (s.heap.push (freshSet w)).IsList l items := hl.push _
    obtain ⟨ol, hol, hcl, nl, hdl⟩ := hl
    obtain ⟨ocls, odict, odata, oslots⟩ := ol
    simp only at hcl hdl
    subst hcl; subst hdl
    have hol' : (s.heap.push (freshSet w)).get? l = some { cls := .type "list", dict := odict, data := .seq items nl, slots := oslots } := Heap.get?_push_of_some _ hol
    have hsls := PySem.F.sub_list_set
    have hslf := PySem.F.sub_list_frozenset
    have hne : (Value.type "list" == Value.type "dict") = false := by decide
    have hS' : (s.heap.push (freshSet w)).get? s.heap.objs.size = some { cls := .type "set", dict := none, data := .set #[] 0 (.fresh 0 0 (!(w.params.followText "set-order"))) } := hS
    unfold Builtin.«set.__init__» noKeywords Builtin.Frozenset.updateFrom
    generalize hPI : pyIter = PI
    wp_walk
    subst hPI
    refine wpAny_pyIter_list hl1 ?_
    refine wpAny_bind (wpAny_runValue ?_)
    have hlS : l < s.heap.objs.size := Heap.lt_size hol
    have sz : (s.heap.push (freshSet w)).objs.size = s.heap.objs.size + 1 := Heap.size_push _ _
    rw [sz]
    have h3 : @LT.lt Nat _ l s.heap.objs.size := hlS
    refine set_loop (I := s.heap.objs.size + 1) (l := l) (Sa := s.heap.objs.size) (neA (by omega)) (neA (by omega)) (neA (by omega)) hlen hv hb (items.size - 0) 0 0 _ _ (by simp [hh]) rfl (Nat.zero_le _) (Nat.le_refl _) ⟨_, by rw [← sz]; exact Heap.get?_push_size _ rfl, rfl, rfl⟩ (hl1.push _) ((freshSet_is (prog := prog) (Heap.get?_push_of_some _ hS)).congr (fun k => by simp) rfl) fun h' tk n' hk hn hS2 => ?_
    refine wpAny_pure ?_
    show wpAny _ _ (ret Value.none) _ _ _
    refine wpAny_pure ⟨rfl, h', tk, n', rfl, hn, hS2, fun b o e => ?_⟩
    have hb' : @LT.lt Nat _ b s.heap.objs.size := Heap.lt_size e
    exact hk b o (neA (by omega)) (neA (by omega)) (Heap.get?_push_of_some _ (Heap.get?_push_of_some _ e))
  · rcases r₂ with e | (r | _ | _ | _) <;> first | exact hr₂ | exact hr₂.elim | skip
    obtain ⟨rfl, h', tk, n, rfl, hn, hS2, hk⟩ := hr₂
    repeat (any_goals (first | assumption | wp_step))
    exact h h' tk n hn hS2 hk
theorem call_set_none {Q : Value → Shared → Prop} (h : Q (.ref s.heap.objs.size) { s with heap := s.heap.push (freshSet w) }) :
    wpAny (model prog w) A (call (.type "set") []) Q E s := by
  obtain ⟨c, tl, hmro⟩ := PySem.F.called_set.mro
  have hmade := PySem.F.called_set.made
  have hsub := PySem.F.called_set.sub
  refine wpAny_call (codeAny_of_tree ?_)
  show wpAny _ _ (callAny (.type "set") _) _ _ _
  refine wpAny_pure ⟨Code.quiet_builtin _ (by decide +kernel), codeAny_builtin PySem.F.entry_type_call ?_⟩
  rw [Around.under_plain (weight_type_call_type "set" [] []) rfl]
  have h1 := PySem.F.called_set.notType
  have h2 := PySem.F.called_set.canCreate
  have hct := PySem.F.typeCall_set_0
  repeat (any_goals (first | assumption | wp_step))
  refine codeAny_mono (set_new (E := E) (Q₁ := fun obj s₁ => obj = .ref s.heap.objs.size ∧ s₁ = { s with heap := s.heap.push (freshSet w) }) PySem.F.newCall_set_0 ⟨rfl, rfl⟩) fun r s₁ hr => ?_
  rcases r with e | (obj | _ | _ | _) <;> first | exact hr | exact hr.elim | skip
  obtain ⟨rfl, rfl⟩ := hr
  have hS : (s.heap.push (freshSet w)).get? s.heap.objs.size = some (freshSet w) := Heap.get?_push_size _ rfl
  have hT : Shared.TypeIs { s with heap := s.heap.push (freshSet w) } (.ref s.heap.objs.size) "set" := ⟨_, hS, rfl⟩
  have hli := PySem.F.called_set.init.lookup
  have hbi := PySem.F.called_set.init.bind (.ref s.heap.objs.size)
  repeat (any_goals (first | assumption | wp_step))
  refine codeAny_mono (codeAny_call_builtin (R := wants (fun r s₂ => r = .none ∧ Q (.ref s.heap.objs.size) s₂) E) PySem.F.called_set.init.plain PySem.F.entry_set_init (check_set_init hT ?_)) fun r₂ s₂ hr₂ => ?_
  · have hS' : (s.heap.push (freshSet w)).get? s.heap.objs.size = some { cls := .type "set", dict := none, data := .set #[] 0 (.fresh 0 0 (!(w.params.followText "set-order"))) } := hS
    unfold Builtin.«set.__init__» noKeywords
    wp_walk
    exact ⟨rfl, h⟩
  · rcases r₂ with e | (r | _ | _ | _) <;> first | exact hr₂ | exact hr₂.elim | skip
    obtain ⟨rfl, hq⟩ := hr₂
    repeat (any_goals (first | assumption | wp_step))
end
end Mine
open PySem PySem.Spec PySem.Calls PySem.W PyProof.Rows
set_option Elab.async false
set_option maxRecDepth 1000000
set_option maxHeartbeats 4000000
set_option linter.unusedVariables false
namespace Mine
theorem slot_setiter_next : Slot "set_iterator" "__next__" "set_iterator.__next__" :=
  .of (owner := "set_iterator") (n := "__next__") (by rw [typeLookup_type, builtinLookup_eq_fast]; kernel_rfl) (by decide +kernel) (by decide +kernel) (by decide +kernel)
    (by first | exact .inl (by decide +kernel) | exact .inr (by decide +kernel)) (by rw [isSubtype_type]; kernel_rfl)
theorem entry_setiter_next : entryFor table "set_iterator.__next__" = some Builtin.«set_iterator.__next__» := entryFor_of_tree (by kernel_rfl)
theorem args_setiter_next (a : Value) : argsOk "set_iterator.__next__" ⟨[a], []⟩ := by unfold argsOk; kernel_rfl
theorem entry_set_iter : entryFor table "set.__iter__" = some Builtin.«frozenset.__iter__» :=
  entryFor_alias (id' := "frozenset.__iter__") (by kernel_rfl) rfl (by decide +kernel) (by kernel_rfl)
section
variable {prog : Program} {w : World} {A : Around} {E : Value → Shared → Prop} {s : Shared}
theorem erase_perm {α : Type} : ∀ {l : List α} {i : Nat} (h : i < l.length), (l[i] :: l.eraseIdx i).Perm l
  | x :: l, 0, _ => .refl _
  | x :: l, i + 1, h => by
    have := erase_perm (l := l) (i := i) (by simpa using h)
    simp only [List.getElem_cons_succ, List.eraseIdx_cons_succ]
    exact (List.Perm.swap ..).trans (.cons x this)
theorem wpAny_choose {M : Model} {src : Source} {n : Nat} {Q : Nat → Shared → Prop} (hn : 0 < n) (h : ∀ i, i < n → Q i { s with drawn := s.drawn.bump src }) : wpAny M A (choose src n) Q E s :=
  fun _ _ _ => ⟨by omega, h _ (Nat.mod_lt _ hn)⟩
theorem wpAny_drawOrder {M : Model} {α : Type} : ∀ (n : Nat) (xs : List α) (s : Shared) (Q : List α → Shared → Prop), xs.length = n → (∀ ys dr, ys.Perm xs → Q ys { s with drawn := dr }) → wpAny M A (drawOrder n xs) Q E s
  | 0, xs, s, Q, hl, h => by
    cases xs with
    | nil => exact wpAny_pure (h [] s.drawn (.refl _))
    | cons x xs => cases hl
  | n + 1, [], s, Q, hl, h => by cases hl
  | n + 1, x :: xs, s, Q, hl, h => by
    unfold drawOrder
    refine wpAny_bind (wpAny_choose (by simp) fun i hi => ?_)
    have e : (x :: xs)[i]? = some (x :: xs)[i] := List.getElem?_eq_getElem hi
    rw [e]
    refine wpAny_bind (wpAny_drawOrder n _ _ _ (by rw [List.length_eraseIdx_of_lt hi]; omega) fun ys dr hp => wpAny_pure ?_)
    exact h _ _ ((List.Perm.cons _ hp).trans (erase_perm hi))
theorem pick_perm {α : Type} (next : Nat → Nat) : ∀ (fuel k : Nat) (left : List α) (out : Array α), fuel = left.length → (pickOrder.go next fuel k left out).toList.Perm (out.toList ++ left)
  | 0, k, left, out, h => by
    cases left with
    | nil => simp [pickOrder.go]
    | cons a b => cases h
  | fuel + 1, k, left, out, h => by
    have hl : next k % left.length < left.length := Nat.mod_lt _ (by omega)
    unfold pickOrder.go
    rw [List.getElem?_eq_getElem hl]
    dsimp only
    refine (pick_perm next fuel (k + 1) _ _ (by rw [List.length_eraseIdx_of_lt hl]; omega)).trans ?_
    rw [Array.toList_push, List.append_assoc]
    exact List.Perm.append_left _ (erase_perm hl)
theorem pickOrder_perm {α : Type} (next : Nat → Nat) (xs : Array α) : (pickOrder next xs).toList.Perm xs.toList := by
  have := pick_perm next xs.size 0 xs.toList #[] (by simp)
  simpa [pickOrder] using this

/-- a walk of a set, under way -/
noncomputable def SetRoad (w : World) (h : Heap) (I a T : Addr) (seq : List Value) (i : Nat) (first : Value) (ep : Nat) (es : Array (Int × Value)) (t : SetTable) : Prop :=
  (w.params.followText "set-order" = true ∧ (∃ j : Nat, first = .int j 0) ∧ seq = (pickOrder (w.params.setOrder a ep) es).toList.map (·.2)) ∨
  (w.params.followText "set-order" = false ∧ ∃ places k, first = .ref T ∧ T ≠ I ∧ h.get? T = some { cls := .type "tuple", data := .seq places k } ∧ places.size = seq.length ∧ ∀ (j : Nat) x, seq[j]? = some x → ∃ (p : Nat) (e : Int), places[j]? = some (.int p 0) ∧ es[p]? = some (e, x)) ∨
  (w.params.followText "set-order" = false ∧ es.size ≤ 1 ∧ t.led = true ∧ seq = es.toList.map (·.2) ∧ ((i = 0 ∧ first = .int 0 0) ∨ (i = 1 ∧ ∃ j : Nat, t.place[0]? = some j ∧ first = .int ((j + 1 : Nat) : Int) 0)))
noncomputable def SetIter (w : World) (h : Heap) (I a T : Addr) (seq : List Value) (i : Nat) : Prop :=
  ∃ (first : Value) (ep : Nat) (es : Array (Int × Value)) (t : SetTable) (o : Obj), h.get? I = some { cls := .type "set_iterator", data := .fields #[first, .int (i : Int) 0, .ref a, .int (seq.length : Int) 0, .int (ep : Int) 0] } ∧ h.get? a = some o ∧ o.data = .set es ep t ∧ t.fits es.size = true ∧ es.size = seq.length ∧
    SetRoad w h I a T seq i first ep es t

theorem fits_place {t : SetTable} {n : Nat} (h : t.fits n = true) : t.place.size = n := by
  unfold SetTable.fits at h
  simp only [Bool.and_eq_true, beq_iff_eq] at h
  exact h.1
theorem wpAny_setNext_text {a : Addr} {o : Obj} {es : Array (Int × Value)} {ep : Nat} {t : SetTable} {slot given : Nat} {Q : Option (Value × Nat) → Shared → Prop} (ho : s.heap.get? a = some o) (hd : o.data = .set es ep t) (hf : t.fits es.size = true) (hb : w.params.followText "set-order" = true)
    (h : Q (((pickOrder (w.params.setOrder a ep) es)[given]?).map fun e => (e.2, slot)) s) : wpAny (model prog w) A (setNext a slot given ep) Q E s := by
  unfold setNext setsByText
  refine wpAny_bind (wpAny_setState_of ho hd hf (wpAny_bind (wpAny_bind (wpAny_askSetting (wpAny_pure ?_)))))
  show wpAny _ _ (if w.params.followText "set-order" = true then _ else _) _ _ _
  rw [if_pos hb]
  simp only [bne_self_eq_false, Bool.false_eq_true, if_false]
  unfold setWalk setsByText
  refine wpAny_bind (wpAny_bind (wpAny_setState_of ho hd hf (wpAny_bind (wpAny_bind (wpAny_askSetting (wpAny_pure ?_))))))
  show wpAny _ _ (if w.params.followText "set-order" = true then _ else _) _ _ _
  rw [if_pos hb]
  exact wpAny_bind (wpAny_askSetting (wpAny_pure (wpAny_pure h)))
theorem wpAny_setNext_led {a : Addr} {o : Obj} {es : Array (Int × Value)} {ep : Nat} {t : SetTable} {slot given : Nat} {Q : Option (Value × Nat) → Shared → Prop} (ho : s.heap.get? a = some o) (hd : o.data = .set es ep t) (hf : t.fits es.size = true) (hb : w.params.followText "set-order" = false) (hz : es.size ≤ 1) (hl : t.led = true)
    (h : Q (match es[SetTable.below t.place slot]?, t.place[SetTable.below t.place slot]? with
    | some (_, x), some j => some (x, j + 1)
    | _, _ => none) s) : wpAny (model prog w) A (setNext a slot given ep) Q E s := by
  unfold setNext setsByText
  refine wpAny_bind (wpAny_setState_of ho hd hf (wpAny_bind (wpAny_bind (wpAny_askSetting (wpAny_pure ?_)))))
  show wpAny _ _ (if w.params.followText "set-order" = true then _ else _) _ _ _
  rw [if_neg (by rw [hb]; decide)]
  show wpAny _ _ (if (!t.plain && decide (es.size > 1)) = true then _ else _) _ _ _
  rw [if_neg (by rw [show decide (es.size > 1) = false from decide_eq_false (by omega), Bool.and_false]; decide)]
  show wpAny _ _ ((if (!t.led && !es.isEmpty) = true then unsupported "set:maker-not-led" else pure ()) >>= _) _ _ _
  rw [if_neg (by rw [hl]; simp)]
  exact wpAny_bind (wpAny_pure (wpAny_pure h))
theorem wpAny_setNextDrawn {a : Addr} {o : Obj} {es : Array (Int × Value)} {ep : Nat} {t : SetTable} {p : Nat} {e : Int} {x : Value} {Q : Value → Shared → Prop} (ho : s.heap.get? a = some o) (hd : o.data = .set es ep t) (hf : t.fits es.size = true) (hx : es[p]? = some (e, x)) (h : Q x s) :
    wpAny (model prog w) A (setNextDrawn a p ep) Q E s := by
  unfold setNextDrawn
  refine wpAny_bind (wpAny_setState_of ho hd hf ?_)
  simp only [bne_self_eq_false, Bool.false_eq_true, if_false, hx]
  exact wpAny_pure h
end
end Mine
open PySem PySem.Spec PySem.Calls PySem.W PyProof.Rows
set_option Elab.async false
set_option maxRecDepth 1000000
set_option maxHeartbeats 4000000
set_option linter.unusedVariables false
namespace Mine
section
variable {prog : Program} {w : World} {A : Around} {E : Value → Shared → Prop} {s : Shared}
theorem SetIter.typeIs {I a T : Addr} {seq : List Value} {i : Nat} (h : SetIter w s.heap I a T seq i) : s.TypeIs (.ref I) "set_iterator" :=
  h.elim fun _ h => h.elim fun _ h => h.elim fun _ h => h.elim fun _ h => ⟨_, h.choose_spec.1, rfl⟩
/-- the road at the next place, the iterator's own object apart -/
theorem SetRoad.move {h h' : Heap} {I a T : Addr} {seq : List Value} {i : Nat} {first : Value} {ep : Nat} {es : Array (Int × Value)} {t : SetTable} (hs : Heap.SameBut I h h')
    (q : (w.params.followText "set-order" = false ∧ ∃ places k, first = .ref T ∧ T ≠ I ∧ h.get? T = some { cls := .type "tuple", data := .seq places k } ∧ places.size = seq.length ∧ ∀ (j : Nat) x, seq[j]? = some x → ∃ (p : Nat) (e : Int), places[j]? = some (.int p 0) ∧ es[p]? = some (e, x))) :
    SetRoad w h' I a T seq (i + 1) first ep es t := by
  obtain ⟨hb, places, k, rfl, hT, hg, hz, hp⟩ := q
  exact .inr (.inl ⟨hb, places, k, rfl, hT, (hs.2 T hT).trans hg, hz, hp⟩)
theorem setiter_item {I a T : Addr} {seq : List Value} {i : Nat} {x : Value} {Q : Option Value → Shared → Prop} (hit : SetIter w s.heap I a T seq i) (haI : a ≠ I) (hx : seq[i]? = some x)
    (hQ : ∀ h', SetIter w h' I a T seq (i + 1) → Heap.SameBut I s.heap h' → Q (some x) { s with heap := h' }) : wpAny (model prog w) A (pyNext (.ref I)) Q E s := by
  have hty := hit.typeIs
  obtain ⟨first, ep, es, t, o, hI, ha, hd, hf, hz, road⟩ := hit
  have hil : i < seq.length := (List.getElem?_eq_some_iff.mp hx).1
  unfold pyNext
  refine wpAny_bind (wpAny_attempt (wpAny_callSpecial?_slot (name := Str.ofString "__next__") hty slot_setiter_next
    (wpAny_call_entry slot_setiter_next hty entry_setiter_next ?_ (args_setiter_next _))))
  show wpAny _ _ (fieldsOf (.ref I) >>= _) _ _ s
  refine wpAny_bind (wpAny_fieldsOf hI rfl ?_)
  dsimp only
  refine wpAny_bind (wpAny_setEntries_of ha hd hf ?_)
  rw [if_neg (by rw [hz]; simp)]
  have two : ∀ (n : Nat), SetRoad w s.heap I a T seq i first ep es t → (∀ h', Heap.SameBut I s.heap h' → SetRoad w h' I a T seq (i + 1) (.int (n : Int) 0) ep es t) →
      ∃ h2, h2 = (s.heap.update I (Obj.mapFields (·.setIfInBounds 0 (rawInt n)))).update I (Obj.mapFields (·.setIfInBounds 1 (rawInt ((i : Int) + 1)))) ∧ SetIter w h2 I a T seq (i + 1) ∧ Heap.SameBut I s.heap h2 := by
    intro n _ hr
    have g1 : (s.heap.update I (Obj.mapFields (·.setIfInBounds 0 (rawInt n)))).get? I = some { cls := .type "set_iterator", data := .fields #[.int (n : Int) 0, .int (i : Int) 0, .ref a, .int (seq.length : Int) 0, .int (ep : Int) 0] } := (Heap.get?_update_self _ hI rfl).trans rfl
    have g2 := (Heap.get?_update_self (Obj.mapFields (·.setIfInBounds 1 (rawInt ((i : Int) + 1)))) g1 rfl)
    have sb := (Heap.SameBut.update s.heap I (Obj.mapFields (·.setIfInBounds 0 (rawInt n)))).trans (Heap.SameBut.update _ I (Obj.mapFields (·.setIfInBounds 1 (rawInt ((i : Int) + 1)))))
    exact ⟨_, rfl, ⟨.int (n : Int) 0, ep, es, t, o, g2.trans rfl, (sb.2 a haI).trans ha, hd, hf, hz, hr _ sb⟩, sb⟩
  have hI1 : ∀ n, (s.heap.update I (Obj.mapFields (·.setIfInBounds 0 (rawInt n)))).get? I = some { cls := .type "set_iterator", data := .fields #[.int n 0, .int (i : Int) 0, .ref a, .int (seq.length : Int) 0, .int (ep : Int) 0] } := fun n => (Heap.get?_update_self _ hI rfl).trans rfl
  rcases road with ⟨hb, ⟨j, rfl⟩, hseq⟩ | ⟨hb, places, k, rfl, hT, hg, hpz, hp⟩ | ⟨hb, hz1, hl, hseq, hij⟩
  · dsimp only
    have e : (pickOrder (w.params.setOrder a ep) es)[i]?.map (fun e => (e.2, j)) = some (x, j) := by
      rw [hseq, List.getElem?_map] at hx
      rw [← Array.getElem?_toList]
      cases q : (pickOrder (w.params.setOrder a ep) es).toList[i]? with
      | none => rw [q] at hx; cases hx
      | some y => rw [q] at hx; cases hx; rfl
    refine wpAny_bind (wpAny_setNext_text ha hd hf hb ?_)
    simp only [Int.toNat_natCast]
    rw [e]
    dsimp only
    refine wpAny_bind (wpAny_setField hI rfl (by simp) (wpAny_bind (wpAny_setField (hI1 _) rfl (by simp) (wpAny_pure ⟨x, rfl, wpAny_pure ?_⟩))))
    obtain ⟨h2, rfl, hs2, sb⟩ := two j (.inl ⟨hb, ⟨j, rfl⟩, hseq⟩) (fun h' sb => .inl ⟨hb, ⟨j, rfl⟩, hseq⟩)
    exact hQ _ hs2 sb
  · dsimp only
    obtain ⟨p, e, h1, h2⟩ := hp i x hx
    refine wpAny_bind (wpAny_seqItems hg rfl ?_)
    simp only [Int.toNat_natCast, h1]
    refine wpAny_bind (wpAny_setNextDrawn ha hd hf h2 ?_)
    refine wpAny_bind (wpAny_setField hI rfl (by simp) (wpAny_pure ⟨x, rfl, wpAny_pure ?_⟩))
    have sb := Heap.SameBut.update s.heap I (Obj.mapFields (·.setIfInBounds 1 (rawInt ((i : Int) + 1))))
    refine hQ _ ⟨.ref T, ep, es, t, o, (Heap.get?_update_self _ hI rfl).trans rfl, (sb.2 a haI).trans ha, hd, hf, hz, SetRoad.move sb ⟨hb, places, k, rfl, hT, hg, hpz, hp⟩⟩ sb
  · have hi0 : i = 0 := by rcases hij with ⟨h, _⟩ | ⟨h, _⟩ <;> omega
    subst hi0
    obtain ⟨_, rfl⟩ := hij.resolve_right fun q => by have := q.1; omega
    dsimp only
    have hpz := fits_place hf
    have hb0 : SetTable.below t.place 0 = 0 := by
      unfold SetTable.below
      rw [hpz, show es.size = 1 by omega]
      simp [SetTable.below.go]
    obtain ⟨e, he⟩ : ∃ e, es[0]? = some (e, x) := by
      rw [hseq, List.getElem?_map] at hx
      rw [← Array.getElem?_toList]
      cases q : es.toList[0]? with
      | none => rw [q] at hx; cases hx
      | some y => rw [q] at hx; cases hx; exact ⟨y.1, rfl⟩
    obtain ⟨j, hj⟩ : ∃ j, t.place[0]? = some j := ⟨t.place[0]'(by omega), by simp⟩
    refine wpAny_bind (wpAny_setNext_led ha hd hf hb hz1 hl ?_)
    have hb0' : SetTable.below t.place (0 : Int).toNat = 0 := hb0
    rw [hb0', he, hj]
    dsimp only
    refine wpAny_bind (wpAny_setField hI rfl (by simp) (wpAny_bind (wpAny_setField (hI1 _) rfl (by simp) (wpAny_pure ⟨x, rfl, wpAny_pure ?_⟩))))
    obtain ⟨h2, rfl, hs2, sb⟩ := two (j + 1) (.inr (.inr ⟨hb, hz1, hl, hseq, .inl ⟨rfl, rfl⟩⟩)) (fun h' sb => .inr (.inr ⟨hb, hz1, hl, hseq, .inr ⟨rfl, j, hj, rfl⟩⟩))
    exact hQ _ hs2 sb
theorem setiter_end {I a T : Addr} {seq : List Value} {i : Nat} {Q : Option Value → Shared → Prop} (hh : A.handled = none) (hit : SetIter w s.heap I a T seq i) (hx : seq.length = i)
    (hQ : ∀ h', Heap.ExtBut I s.heap h' → Q none { s with heap := h' }) : wpAny (model prog w) A (pyNext (.ref I)) Q E s := by
  have hty := hit.typeIs
  obtain ⟨first, ep, es, t, o, hI, ha, hd, hf, hz, road⟩ := hit
  subst hx
  have fin : ∀ (h' : Heap), Heap.ExtBut I s.heap h' → wpAny (model prog w) A.in1 (newExc (.type "StopIteration") [] >>= fun e => (raiseNew e : Sem PySem.Fin)) (fun _ _ => False) (fun e s' => wpAny (model prog w) A (isInstance e (.type "StopIteration")) (fun b s'' => b = true ∧ Q none s'') (fun _ _ => False) s') { s with heap := h' } := fun h' he => by
    refine wpAny_bind ?_
    simp only [newExc, newTuple]
    refine wpAny_bind (wpAny_newObj_type ?_ (by size_fits))
    refine wpAny_bind (m := firstArgMember _ _) (wpAny_of_eq (a := Value.none) (by first | rfl | (simp only [firstArgMember]; rfl)) ?_)
    refine wpAny_newObj_type ?_ (by size_fits)
    simp only [raiseNew]
    refine wpAny_bind (wpAny_handled ?_)
    rw [show A.in1.handled = none from hh]
    refine wpAny_bind (wpAny_pure (wpAny_throw ?_))
    exact wpAny_isInstance (T := "StopIteration") (b := true) ⟨_, Heap.get?_push_size _ rfl, rfl⟩ isSubtype_stop ⟨rfl, hQ _ ((he.push _).push _)⟩
  unfold pyNext
  refine wpAny_bind (wpAny_attempt (wpAny_callSpecial?_slot (name := Str.ofString "__next__") hty slot_setiter_next
    (wpAny_call_entry slot_setiter_next hty entry_setiter_next ?_ (args_setiter_next _))))
  show wpAny _ _ (fieldsOf (.ref I) >>= _) _ _ s
  refine wpAny_bind (wpAny_fieldsOf hI rfl ?_)
  dsimp only
  refine wpAny_bind (wpAny_setEntries_of ha hd hf ?_)
  rw [if_neg (by rw [hz]; simp)]
  have fin' : ∀ (h' : Heap), Heap.ExtBut I s.heap h' → wpAny (model prog w) A.in1 (newExc (.type "StopIteration") [] >>= fun e => (raiseNew e : Sem PySem.Fin)) (fun fin s' => ∃ v, fin = Fin.done (Flow.ret v) ∧ wpAny (model prog w) A (pure (some v)) Q E s')
      (fun e s' => wpAny (model prog w) A (do if ← isInstance e (.type "StopIteration") then pure none else throw e) Q E s') { s with heap := h' } := fun h' he =>
    wpAny_mono (fin h' he) (fun _ _ f => f.elim) fun e s' q => wpAny_bind (wpAny_mono q (fun b s'' ⟨hb, hq⟩ => by subst hb; exact wpAny_pure hq) fun _ _ f => f.elim)
  have hseqn : seq[seq.length]? = none := by simp
  rcases road with ⟨hb, ⟨j, rfl⟩, hseq⟩ | ⟨hb, places, k, rfl, hT, hg, hpz, hp⟩ | ⟨hb, hz1, hl, hseq, hij⟩
  · dsimp only
    refine wpAny_bind (wpAny_setNext_text ha hd hf hb ?_)
    have hn : (pickOrder (w.params.setOrder a ep) es)[((seq.length : Nat) : Int).toNat]? = none := by
      rw [Int.toNat_natCast, ← Array.getElem?_toList, List.getElem?_eq_none_iff, (pickOrder_perm _ es).length_eq, Array.length_toList, hz]
      exact Nat.le_refl _
    have hm : ((pickOrder (w.params.setOrder a ep) es)[((seq.length : Nat) : Int).toNat]?.map fun e => (e.2, ((j : Nat) : Int).toNat)) = none := by rw [hn]; rfl
    show wpAny _ _ (match ((pickOrder (w.params.setOrder a ep) es)[((seq.length : Nat) : Int).toNat]?.map fun e => (e.2, ((j : Nat) : Int).toNat)) with | some (x, next) => _ | none => _) _ _ _
    rw [hm]
    refine wpAny_bind (wpAny_setField hI rfl (by simp) ?_)
    exact fin' _ (Heap.SameBut.update ..).extBut
  · dsimp only
    refine wpAny_bind (wpAny_seqItems hg rfl ?_)
    have hn : places[((seq.length : Nat) : Int).toNat]? = none := by
      rw [Int.toNat_natCast, ← hpz]; simp
    simp only [hn]
    refine wpAny_bind (wpAny_setField hI rfl (by simp) (wpAny_bind (wpAny_setField ((Heap.get?_update_self _ hI rfl).trans rfl) rfl (by simp) ?_)))
    exact fin' _ ((Heap.SameBut.update ..).trans (Heap.SameBut.update ..)).extBut
  · have hpz := fits_place hf
    have key : ∀ sl : Nat, first = .int (sl : Int) 0 → (SetTable.below t.place sl = seq.length) → wpAny (model prog w) A.in1 (match first with
        | Value.int slot tok => do
          let x ← setNext a slot.toNat ((seq.length : Nat) : Int).toNat ((ep : Nat) : Int).toNat
          match x with
            | some (x, next) => do
              setField (Value.ref I) 0 (rawInt next)
              setField (Value.ref I) 1 (rawInt ((seq.length : Int) + 1))
              ret x
            | none => do
              setField (Value.ref I) 2 Value.none
              let e ← newExc (Value.type "StopIteration") []
              raiseNew e
        | x => unsupported "") (fun fin s' => ∃ v, fin = Fin.done (Flow.ret v) ∧ wpAny (model prog w) A (pure (some v)) Q E s')
        (fun e s' => wpAny (model prog w) A (do if ← isInstance e (.type "StopIteration") then pure none else throw e) Q E s') s := by
      rintro sl rfl hbl
      dsimp only
      refine wpAny_bind (wpAny_setNext_led ha hd hf hb hz1 hl ?_)
      have hbl' : SetTable.below t.place ((sl : Int)).toNat = seq.length := hbl
      rw [hbl', show es[seq.length]? = none by rw [← hz]; simp]
      dsimp only
      exact wpAny_bind (wpAny_setField hI rfl (by simp) (fin' _ (Heap.SameBut.update ..).extBut))
    rcases hij with ⟨h0, rfl⟩ | ⟨h1, j, hj, rfl⟩
    · refine key 0 rfl ?_
      unfold SetTable.below
      rw [hpz, hz, h0]
      rfl
    · refine key (j + 1) rfl ?_
      unfold SetTable.below
      rw [hpz, hz, h1]
      have : t.place.getD 0 (j + 1) = j := by simp [Array.getD_eq_getD_getElem?, hj]
      simp [SetTable.below.go, this]
end
end Mine
open PySem PySem.Spec PySem.Calls PySem.W PyProof.Rows
set_option Elab.async false
set_option maxRecDepth 1000000
set_option maxHeartbeats 4000000
set_option linter.unusedVariables false
namespace Mine
section
variable {prog : Program} {w : World} {A : Around} {E : Value → Shared → Prop} {s : Shared}
theorem setiter_start {a : Addr} {S : Str → Bool} {n : Nat} {Q : Value → Shared → Prop} (hS : StrSet prog w s.heap a S n) (hn : n ≤ 1000)
    (hQ : ∀ (seq : List Value) (I T : Addr) h' dr, s.heap.StaysIn h' → s.heap.get? I = none → s.heap.get? T = none → (∃ o, h'.get? T = some o) → SetIter w h' I a T seq 0 → (∀ v ∈ seq, ∃ x t, v = .str x t ∧ S x = true) → (∀ x, S x = true → ∃ t, .str x t ∈ seq) → Q (.ref I) { s with heap := h', drawn := dr }) :
    wpAny (model prog w) A (pyIter (.ref a)) Q E s := by
  have hty := hS.setOf.typeIs
  obtain ⟨o, es, ep, t, ho, hex, hd, hel, hmem, hb, hf, hz, hl, hp⟩ := hS
  refine wpAny_pyIter_slot hty PySem.F.slot_set_iter (wpAny_call_entry PySem.F.slot_set_iter hty entry_set_iter ?_ (PySem.F.args_set_iter_1 _))
  show wpAny _ _ (Builtin.Frozenset.sizeOf a >>= _) _ _ s
  refine wpAny_bind (wpAny_bind (wpAny_setEntries_of ho hd hf (wpAny_pure ?_)))
  refine wpAny_bind ?_
  unfold setDrawn setsByText
  refine wpAny_bind (wpAny_setState_of ho hd hf (wpAny_bind (wpAny_bind (wpAny_askSetting (wpAny_pure (wpAny_pure ?_))))))
  show wpAny _ _ (if (!(w.params.followText "set-order") && (!t.plain && decide (es.size > 1))) = true then _ else _) _ _ _
  have has : @LT.lt Nat _ a s.heap.objs.size := Heap.lt_size ho
  have vals : ∀ seq : List Value, seq.Perm (es.toList.map (·.2)) → (∀ v ∈ seq, ∃ x t, v = .str x t ∧ S x = true) ∧ (∀ x, S x = true → ∃ t, .str x t ∈ seq) := fun seq hperm => by
    refine ⟨fun v hv => ?_, fun x hx => ?_⟩
    · obtain ⟨e, he, rfl⟩ := List.mem_map.mp (hperm.mem_iff.mp hv)
      obtain ⟨⟨k, hk, _⟩, _⟩ := hel e he
      obtain ⟨u, hu⟩ := Value.isStrOf_shape hk
      exact ⟨k, u, hu, (hmem k).mpr ⟨e, he, hk⟩⟩
    · obtain ⟨e, he, hk⟩ := (hmem x).mp hx
      obtain ⟨u, hu⟩ := Value.isStrOf_shape hk
      exact ⟨u, hperm.mem_iff.mpr (List.mem_map.mpr ⟨e, he, hu⟩)⟩
  -- the iterator is made
  have make : ∀ (s1 : Shared) (first : Value) (T : Addr) (seq : List Value), s.heap.StaysIn s1.heap → (∃ dr, s1 = { s with heap := s1.heap, drawn := dr }) → s.heap.get? T = none → seq.Perm (es.toList.map (·.2)) → (∀ h', s1.heap.StaysIn h' → (∀ b, s1.heap.get? b = none → s.heap.get? b = none) → T ≠ s1.heap.objs.size ∨ (∀ T', first ≠ .ref T') → SetRoad w h' s1.heap.objs.size a T seq 0 first ep es t) → (T ≠ s1.heap.objs.size ∨ (∀ T', first ≠ .ref T')) → ((∃ o, s1.heap.get? T = some o) ∨ T = s1.heap.objs.size) →
      wpAny (model prog w) A.in1 (do ret (← newFields "set_iterator" [first, rawInt 0, .ref a, rawInt es.size, rawInt (← setEpoch a)])) (fun fin s' => ∃ v, fin = .done (.ret v) ∧ ∃ T' r, s'.TypeIs v T' ∧ typeLookup (.type T') "__next__" = pure (some r) ∧ Q v s') E s1 := by
    rintro s1 first T seq hk ⟨dr, hs1⟩ hT hperm hroad hTI hTl
    have ho1 := hk a o ho
    refine wpAny_bind (wpAny_setEpoch_of ho1 hd hf (wpAny_bind (wpAny_newObj_type (wpAny_pure ?_))))
    have hsz : es.size = seq.length := by rw [hperm.length_eq, List.length_map, Array.length_toList]
    have hIn : s.heap.get? s1.heap.objs.size = none := by
      cases e : s.heap.get? s1.heap.objs.size with
      | none => rfl
      | some o' => have := hk _ _ e; rw [fresh_none] at this; cases this
    refine ⟨_, rfl, "set_iterator", _, ⟨_, Heap.get?_push_size _ rfl, rfl⟩, slot_setiter_next.lookup, ?_⟩
    rw [hs1]
    have hk2 : s.heap.StaysIn (s1.heap.push { cls := .type "set_iterator", data := .fields #[first, rawInt 0, .ref a, rawInt es.size, rawInt ep] }) := fun b o' e => Heap.get?_push_of_some _ (hk b o' e)
    refine hQ seq s1.heap.objs.size T _ dr hk2 hIn hT (hTl.elim (fun ⟨o, e⟩ => ⟨o, Heap.get?_push_of_some _ e⟩) fun e => ⟨_, e ▸ Heap.get?_push_size _ rfl⟩) ⟨first, ep, es, t, o, ?_, Heap.get?_push_of_some _ ho1, hd, hf, hsz, hroad _ (fun b o' e => Heap.get?_push_of_some _ e) (fun b hb => by
      cases e : s.heap.get? b with
      | none => rfl
      | some o' => have := hk b o' e; rw [hb] at this; cases this) hTI⟩ (vals seq hperm).1 (vals seq hperm).2
    have := Heap.get?_push_size s1.heap (o := { cls := .type "set_iterator", data := .fields #[first, rawInt 0, .ref a, rawInt es.size, rawInt ep] }) rfl
    rw [← hsz]
    exact this
  have hfr := fresh_none s.heap
  cases hbt : w.params.followText "set-order" with
  | true =>
    simp only [Bool.not_true, Bool.false_and, Bool.false_eq_true, if_false]
    refine wpAny_bind (wpAny_pure ?_)
    refine make s (rawInt 0) s.heap.objs.size ((pickOrder (w.params.setOrder a ep) es).toList.map (·.2)) (fun _ _ e => e) ⟨s.drawn, rfl⟩ hfr ((pickOrder_perm _ es).map _) (fun h' _ _ _ => .inl ⟨hbt, ⟨0, rfl⟩, rfl⟩) (.inr fun T' e => by cases e) (.inr rfl)
  | false =>
    by_cases hd1 : (!t.plain && decide (es.size > 1)) = true
    · rw [hd1]
      simp only [Bool.not_false, Bool.true_and, if_true]
      refine wpAny_bind (wpAny_drawOrder es.size (List.range es.size) _ _ (by simp) fun ys dr hys => ?_)
      have hyl : ys.length = es.size := by rw [hys.length_eq]; simp
      have hsl : (1000 : Nat) ≤ sizeLine := by decide
      refine wpAny_bind (wpAny_newTuple ?_ (by rw [List.length_map, hyl]; omega))
      have hlt : ∀ p ∈ ys, p < es.size := fun p hp => List.mem_range.mp (hys.mem_iff.mp hp)
      have hsq : (ys.map fun p => (es[p]?.map (·.2)).getD .none).Perm (es.toList.map (·.2)) := by
        have h1 := hys.map fun p => (es[p]?.map (·.2)).getD Value.none
        refine h1.trans (List.Perm.of_eq ?_)
        apply List.ext_getElem?
        intro i
        by_cases hi : i < es.size
        · simp [hi]
        · rw [List.getElem?_eq_none (by simp; omega), List.getElem?_eq_none (by simp; omega)]
      have sz1 : (s.heap.push { cls := .type "tuple", data := .seq (ys.map fun (i : Nat) => rawInt i).toArray }).objs.size = s.heap.objs.size + 1 := Heap.size_push _ _
      refine make _ (.ref s.heap.objs.size) s.heap.objs.size (ys.map fun p => (es[p]?.map (·.2)).getD .none) (fun b o' e => Heap.get?_push_of_some _ e) ⟨dr, rfl⟩ hfr hsq (fun h' hk' _ _ => .inr (.inl ⟨hbt, _, 0, rfl, ?_, hk' _ _ (Heap.get?_push_size _ rfl), by simp, fun j x hx => ?_⟩)) (.inl ?_) (.inl ⟨_, Heap.get?_push_size _ rfl⟩)
      · rw [sz1]; exact neA (by omega)
      · rw [List.getElem?_map] at hx
        cases hj : ys[j]? with
        | none => rw [hj] at hx; cases hx
        | some p =>
          rw [hj] at hx
          have hpl := hlt p (List.mem_of_getElem? hj)
          refine ⟨p, es[p].1, by simp [hj, rawInt], ?_⟩
          simp [hpl] at hx
          simp [hpl, ← hx]
      · rw [sz1]; exact neA (by omega)
    · have hd2 : (!t.plain && decide (es.size > 1)) = false := by simpa using hd1
      rw [hd2]
      simp only [Bool.and_false, Bool.false_eq_true, if_false]
      refine wpAny_bind (wpAny_pure ?_)
      have hz1 : es.size ≤ 1 := by
        rcases hp with hp | hp
        · rw [hp] at hd2; simp at hd2; omega
        · omega
      refine make s (rawInt 0) s.heap.objs.size (es.toList.map (·.2)) (fun _ _ e => e) ⟨s.drawn, rfl⟩ hfr (.refl _) (fun h' _ _ _ => .inr (.inr ⟨hbt, hz1, by rw [hl, hbt]; rfl, rfl, .inl ⟨rfl, rfl⟩⟩)) (.inr fun T' e => by cases e) (.inr rfl)
end
end Mine
open PySem PySem.Spec PySem.Calls PySem.W PyProof.Rows
set_option Elab.async false
set_option maxRecDepth 100000
set_option maxHeartbeats 1000000
set_option linter.unusedVariables false
namespace Mine
theorem isFn_of {k : ScopeKind} (h : isFn k = true) : k = .function := by cases k <;> first | rfl | cases h
/-- the frame of a call whose arguments need be no data -/
theorem call_intro {prog : Program} {w : World} {f : Addr} {n : Nat} {o : Obj} {fd : FuncData} {body : List Stmt} {A : Around} {s s1 s₀ : Shared} {B : Bad} {vs bvs : List Value} {R : Result → Shared → Prop} (ps more : List Str) (sl : List (Option PyData))
    (ho : (Mine.heapK w.params).lookup f = some o) (hd : o.data = .func fd) (hbody : fd.body = .stmts body) (hst : staticOK (Mine.heapK w.params) fd ps more = true)
    (hh : A.handled = none) (hdep : A.depth + (n + 1) < recursionLimit) (huni : A.units + 10 * (n + 1) + 200 < cLine)
    (hbind : ∀ (Q : List (Str × Value) → Shared → Prop) (E : Value → Shared → Prop), Q (ps.zip bvs) s1 → wpAny (model prog w) A.in1 (bindArgs fd ⟨vs, []⟩) Q E s) (hpl : ps.length = bvs.length) (hg : Grow s s1)
    (hbase : s₀.heap.StaysIn s.heap) (hos : s.os = s₀.os) (hgens : s.gens = s₀.gens) (W : Wd w s₀.heap) (hB : ∀ a, B a → (s.heap.get? a).isSome)
    (hsll : sl.length = bvs.length) (hsl : ∀ (i : Nat) d, sl[i]? = some (some d) → ∃ v, bvs[i]? = some v ∧ Rep B s1.heap v d)
    (H : ∀ env S m vals, InF fd.scope env s₀ → RelV ⟨prog, w, A.deeper env, n, s₀, env, ps ++ more, fun b => B b ∧ (s₀.heap.get? b).isSome⟩ (sl.map (fun d => d.map Sl.fro) ++ more.map (fun _ => none)) S m vals → (∀ (i : Nat) v, bvs[i]? = some v → vals i = some v) →
      Grow s1 S.s → (∀ b, B b → S.B b) → (∀ b, S.B b → B b ∨ s1.heap.get? b = none) → (∀ b, S.M b → s1.heap.get? b = none) →
      wpAny (model prog w) (A.deeper env) (execs body env) (fun fl s' => R (.ok (.ret (match fl with | .ret v => v | _ => .none))) s') (fun _ _ => False) S.s) :
    codeAny (model prog w) A (.call (.ref f) ⟨vs, []⟩) R s := by
  simp only [staticOK, Bool.and_eq_true, Bool.not_eq_true', decide_eq_true_eq] at hst
  obtain ⟨⟨⟨⟨⟨⟨⟨⟨⟨hcd, hclo⟩, hgl⟩, hbl⟩, hk⟩, hco⟩, hgen⟩, hnd⟩, hgood⟩, hvar⟩ := hst
  have hclo : fd.closure = [] := by simpa using hclo
  have hk := isFn_of hk
  have hnd := distinct_nodup hnd
  have hgood := goodOK_of hgood
  have hvar : ∀ x ∈ ps ++ more, fd.scope.names.lookup x = some .local ∨ fd.scope.names.lookup x = some .cell := fun x hx => by
    have := List.all_eq_true.mp hvar x hx
    simpa using this
  have Ws : Wd w s.heap := W.keeps hbase
  have W1 : Wd w s1.heap := Ws.keeps hg.keep
  have hbase1 : s₀.heap.StaysIn s1.heap := fun b o e => hg.keep b o (hbase b o e)
  have hB1 : ∀ a, B a → (s1.heap.get? a).isSome := fun a ha => by
    obtain ⟨o, e⟩ := Option.isSome_iff_exists.mp (hB a ha)
    exact Option.isSome_iff_exists.mpr ⟨o, hg.keep a o e⟩
  have hns0 : ∀ b, s1.heap.get? b = none → s₀.heap.get? b = none := fun b h => by
    cases e : s₀.heap.get? b with
    | none => rfl
    | some o => have := hbase1 b o e; rw [h] at this; cases this
  refine codeAny_call_function (by omega) (Ws.K _ _ ho) hd hco hgen hbody (codeRec_of Ws.K hcd) (hbind _ _ ?_)
  rw [hclo]
  refine wpAny_newFunctionEnv_cells hk (fun x hx => ?_) fun env he s₂ hC => ?_
  · have hm : x.1 ∈ ps ++ more := List.mem_append_left _ (List.of_mem_zip hx).1
    rcases hvar _ hm with q | q
    · exact .inl q
    · exact .inr ⟨q, cellsFrom_some _ _ _ (.inl q)⟩
  have eL : env.locals = s1.heap.objs.size := by rw [he]; rfl
  have eS : env.scope = fd.scope := by rw [he]; rfl
  have eK : ∀ x, env.kindOf x = fd.scope.names.lookup x := fun x => by rw [he]; rfl
  have eC : env.cells = cellsFrom (s1.heap.objs.size + 1) fd.scope.names [] := by rw [he]; rfl
  have eG : env.globals = mainGlobals := by rw [he]; exact hgl
  have eB : env.builtins = builtinsNs := by rw [he]; exact hbl
  clear he
  refine ⟨W1.nolimit.keeps hC.toInCall.keep, codeAny_func ?_⟩
  have habove : ∀ x c, env.cells.lookup x = some c → s1.heap.get? c = none := fun x c hc => new_of_ge (by
    have := hC.above x c (PySem.mem_of_lookup hc)
    rw [eL] at this
    exact Nat.le_of_lt this)
  have hinj : ∀ x y c, env.cells.lookup x = some c → env.cells.lookup y = some c → x = y := fun x y c h1 h2 => name_of_addr hC.apart (PySem.mem_of_lookup h1) (PySem.mem_of_lookup h2)
  let M : Bad := fun b => b = env.locals ∨ ∃ x, env.cells.lookup x = some b
  have hM0 : ∀ b, M b → s1.heap.get? b = none := by
    rintro b (rfl | ⟨x, hx⟩)
    · rw [eL]; exact fresh_none _
    · exact habove x b hx
  let m := bindL env.kindOf (ps.zip bvs) fun _ => none
  let cm := bindC env.kindOf (ps.zip bvs) fun _ => none
  let X : Fx := ⟨prog, w, A.deeper env, n, s₀, env, ps ++ more, fun b => B b ∧ (s₀.heap.get? b).isSome⟩
  have hOK : X.OK := ⟨hh, by show A.depth + 1 + n < _; omega, by show A.units + 3 + 10 * n + 200 < _; omega, W, by show env.scope.kind = _; rw [eS]; exact hk, eG, eB, hnd, hgood, fun a ha => ha.2, hinj⟩
  obtain ⟨hsame, hns, hkeep, hfresh⟩ := hC.toInCall
  have hzk : ((ps.zip bvs).map (·.1)) = ps := by rw [List.map_fst_zip (by omega)]
  have hpn : ps.Nodup := (List.nodup_append.mp hnd).1
  let vals : Nat → Option Value := fun i => match (ps ++ more)[i]? with
    | none => none
    | some x => if fd.scope.names.lookup x = some .local then m x else cm x
  have hvals : ∀ i x, (ps ++ more)[i]? = some x → vals i = if fd.scope.names.lookup x = some .local then m x else cm x := fun i x hx => by simp only [vals, hx]
  have hgiven : ∀ (i : Nat) v, bvs[i]? = some v → vals i = some v := fun i v hv => by
    have hi : i < bvs.length := (List.getElem?_eq_some_iff.mp hv).1
    have hi2 : i < ps.length := by omega
    have hx : (ps ++ more)[i]? = some ps[i] := by rw [List.getElem?_append_left hi2]; simp [hi2]
    have hmem : (ps[i], v) ∈ ps.zip bvs := by
      have : (ps.zip bvs)[i]? = some (ps[i], v) := by rw [List.getElem?_zip_eq_some]; exact ⟨by simp [hi2], hv⟩
      exact List.mem_of_getElem? this
    rw [hvals i _ hx]
    split
    · rename_i q
      exact bindL_at ((eK _).trans q) (by rw [hzk]; exact hpn) hmem
    · rename_i q
      exact bindC_at ((eK _).trans ((hvar _ (List.mem_of_getElem? hx)).resolve_left q)) (by rw [hzk]; exact hpn) hmem
  have e2 : s₂.os = s1.os ∧ s₂.gens = s1.gens := by obtain ⟨h, tk, rfl⟩ := hsame; exact ⟨rfl, rfl⟩
  have hslot : ∀ (i : Nat), Sg.at (sl.map (fun d => d.map Sl.fro) ++ more.map (fun _ => none)) i = none ∨ ∃ d, sl[i]? = some (some d) ∧ Sg.at (sl.map (fun d => d.map Sl.fro) ++ more.map (fun _ => none)) i = some (.fro d) := fun i => by
    unfold Sg.at
    by_cases hi : i < sl.length
    · rw [List.getElem?_append_left (by simpa using hi), List.getElem?_map, List.getElem?_eq_getElem hi]
      cases e : sl[i] with
      | none => exact .inl (by simp)
      | some d => exact .inr ⟨d, rfl, by simp⟩
    · rw [List.getElem?_append_right (by simpa using hi), List.getElem?_map]
      cases more[i - (sl.map (fun d => d.map Sl.fro)).length]? <;> exact .inl rfl
  have hrel : RelV X (sl.map (fun d => d.map Sl.fro) ++ more.map (fun _ => none)) ⟨s₂, M, fun b => B b ∨ M b⟩ m vals := by
    refine ⟨hOK, fun b o e => hkeep b o (hbase1 b o e), (e2.1.trans hg.os).trans hos, (e2.2.trans hg.gens).trans hgens, hns, .inl rfl, fun b hb => hns0 b (hM0 b hb), fun a ha => .inr ha, fun a ha => .inl ha.1, ?_, fun x c hc => ⟨.inr (.inr ⟨x, hc⟩), fun _ => .inr ⟨x, hc⟩⟩, fun x c hc => ⟨_, hC.cell x c hc⟩, fun i x hx => ?_, fun i => ?_, fun i j xs ys h1 => ?_⟩
    · rintro a (ha | rfl | ⟨x, hx⟩)
      · obtain ⟨o, e⟩ := Option.isSome_iff_exists.mp (hB1 a ha)
        exact Option.isSome_iff_exists.mpr ⟨o, hkeep a o e⟩
      · obtain ⟨o, es, ep, e, _⟩ := hns; exact Option.isSome_iff_exists.mpr ⟨o, e⟩
      · obtain ⟨o, e, _⟩ := hC.cell x a hx; exact Option.isSome_iff_exists.mpr ⟨o, e⟩
    · rcases hvar x (List.mem_of_getElem? hx) with q | q
      · exact .inl ⟨(eK x).trans q, by rw [hvals i x hx, if_pos q]⟩
      · obtain ⟨c, hc⟩ := Option.isSome_iff_exists.mp (cellsFrom_some _ (s1.heap.objs.size + 1) [] (.inl q))
        rw [← eC] at hc
        refine .inr ⟨c, .inl ((eK x).trans q), hc, ?_⟩
        rw [hvals i x hx, if_neg (by rw [q]; decide)]
        exact hC.cell x c hc
    · rcases hslot i with e | ⟨d, hd1, e⟩
      · rw [e]; trivial
      · rw [e]
        obtain ⟨v, hv, rv⟩ := hsl i d hd1
        exact ⟨v, hgiven i v hv, Rep.tr (fun b o hb e => ⟨fun q => q.elim hb fun q => (by rw [hM0 b q] at e; cases e), hkeep b o e⟩) rv⟩
    · exfalso
      rcases hslot i with e | ⟨d, _, e⟩ <;> rw [e] at h1 <;> cases h1
  refine wpAny_mono (H env ⟨s₂, M, fun b => B b ∨ M b⟩ m vals ⟨eS, fun x hx => ?_⟩ hrel hgiven ⟨hkeep, e2.1, e2.2⟩ (fun b hb => .inl hb) (fun b hb => hb.imp id (hM0 b)) hM0) (fun fl s' q => q) fun _ _ f => f.elim
  obtain ⟨c, hc⟩ := Option.isSome_iff_exists.mp (cellsFrom_some _ (s1.heap.objs.size + 1) [] (.inl hx))
  rw [← eC] at hc
  exact ⟨c, hc, hns0 c (habove x c hc)⟩
end Mine
open PySem PySem.Spec PySem.Calls PySem.W PyProof.Rows
set_option Elab.async false
set_option maxRecDepth 100000
set_option maxHeartbeats 1000000
set_option linter.unusedVariables false
namespace Mine
section
variable {X : Fx} {σ σ1 σ2 σ3 : Sg} {pos p2 p3 : Pos} {k : Nat}
/-- a store under a name that the table does not follow -/
theorem store_out {x : Str} {v : Value} {S : St} {m : Str → Option Value} {vals : Nat → Option Value} {E : Value → Shared → Prop} (r : RelV X σ S m vals) (hk : X.env.kindOf x = some .local) (hx : X.tbl.contains x = false) :
    wpAny (model X.prog X.w) X.A (storeName X.env x v) (fun _ s' => ∃ S', S'.s = s' ∧ RelV X σ S' (fun y => if y = x then some v else m y) vals ∧ Tr S S' ∧ S'.M = S.M ∧ S'.B = S.B) E S.s := by
  refine wpAny_storeName_local hk r.ns (fun h' hn' hs => ?_) (by rw [r.ok.kind]; rfl)
  have hpl : ∀ a vs, S.h.PlainList a vs → a ≠ X.env.locals := fun a vs p => ns_ne_plain r.ns p
  have hlive : ∃ o, h'.get? X.env.locals = some o := let ⟨o, _, _, ho, _⟩ := hn'; ⟨o, ho⟩
  have T : Tr S ⟨{ S.s with heap := h', toks := S.s.toks + 1 }, S.M, S.B⟩ := ⟨fun b o hb e => (hs.2 b (fun q => hb (q ▸ r.mL))).trans e, fun _ h => .inl h, fun _ h => .inl h, fun _ _ h _ _ => h, r.sub, rfl, rfl, fun b o _ e => by
    by_cases q : b = X.env.locals
    · rw [q]; exact hlive
    · exact ⟨o, (hs.2 b q).trans e⟩⟩
  refine ⟨⟨_, S.M, S.B⟩, rfl, ⟨r.ok, fun b o e => ?_, r.os, r.gens, hn', r.mL, r.mnew, r.sub, r.out, fun a ha => ?_, r.mcell, fun y c hc => ?_, fun j y hy => ?_, fun j => ?_, r.apart⟩, T, rfl, rfl⟩
  · refine (hs.2 b fun q => ?_).trans (r.keep b o e)
    rw [q, r.mnew _ r.mL] at e; cases e
  · by_cases q : a = X.env.locals
    · obtain ⟨o, ho⟩ := hlive; rw [q]; exact Option.isSome_iff_exists.mpr ⟨o, ho⟩
    · have := r.ball a ha; rwa [← hs.2 a q] at this
  · obtain ⟨u, q⟩ := r.acell y c hc
    exact ⟨u, cell_keeps q fun o e => (hs.2 c (Ne.symm (cell_ne_ns q r.ns))).trans e⟩
  · have hyx : y ≠ x := fun q => by
      have := List.contains_iff_mem.mpr (List.mem_of_getElem? hy)
      rw [q, hx] at this; cases this
    rcases r.var j y hy with ⟨q1, q2⟩ | ⟨c, q1, q2, q3⟩
    · exact .inl ⟨q1, by simp only [if_neg hyx]; exact q2⟩
    · exact .inr ⟨c, q1, q2, cell_keeps q3 fun o e => (hs.2 c (Ne.symm (cell_ne_ns q3 r.ns))).trans e⟩
  · refine (r.slot j).tr (fun _ _ => T.rep) (fun _ _ => T.repAll) fun a o ha ho ⟨ys, hys⟩ hv => ⟨ha, (hs.2 a ?_).trans ho⟩
    have q := r.slot j
    rw [hys] at q
    obtain ⟨a', vs, e', _, hp, _⟩ := q
    rw [hv] at e'; cases e'
    exact hpl _ vs hp
theorem Ev.run {e : Expr} {d : PyData} (h : Ev X e σ d σ1) {S : St} {m : Str → Option Value} {vals : Nat → Option Value} (r : RelV X σ S m vals) : wpAny (model X.prog X.w) X.A (eval e X.env) (fun v s' => ∃ S', S'.s = s' ∧ RelV X σ1 S' m vals ∧ Tr S S' ∧ Rep S'.B s'.heap v d) (fun _ _ => False) S.s := h.go S m vals r
theorem Tt.run {e : Expr} {b : Bool} (h : Tt X e σ b σ1) {S : St} {m : Str → Option Value} {vals : Nat → Option Value} (r : RelV X σ S m vals) : wpAny (model X.prog X.w) X.A (isTrue e X.env (eval e X.env)) (fun v s' => ∃ S', S'.s = s' ∧ RelV X σ1 S' m vals ∧ Tr S S' ∧ v = b) (fun _ _ => False) S.s := h.go S m vals r
theorem Exs.run {sts : List Stmt} {f : Fl} (h : Exs X sts σ f) {S : St} (r : Rel X σ S) : wpAny (model X.prog X.w) X.A (execs sts X.env) (fun fl s' => ∃ S', S'.s = s' ∧ Tr S S' ∧ FlOK X S' fl f) (fun _ _ => False) S.s := h.go S r
theorem Ex.run {st : Stmt} {f : Fl} (h : Ex X st σ f) {S : St} (r : Rel X σ S) : wpAny (model X.prog X.w) X.A (exec st X.env) (fun fl s' => ∃ S', S'.s = s' ∧ Tr S S' ∧ FlOK X S' fl f) (fun _ _ => False) S.s := h.go S r
theorem As.run {t : Expr} {d : PyData} (h : As X t σ d σ1) {S : St} {v : Value} (r : Rel X σ S) (rv : Rep S.B S.h v d) : wpAny (model X.prog X.w) X.A (assign t X.env v) (fun _ s' => ∃ S', S'.s = s' ∧ Rel X σ1 S' ∧ Tr S S') (fun _ _ => False) S.s := h.go S v r rv
theorem Wd.refl_base {w : World} {s : Shared} (W : Wd w s.heap) : s.heap.StaysIn s.heap := fun _ _ e => e
end
variable {prog : Program} {w : World}
theorem is_type_same {A : Around} {E : Value → Shared → Prop} {s : Shared} {M : Model} {T : String} {Q : Value → Shared → Prop} (h : Q (.bool true) s) : wpAny M A (compareOp .Is (.type T) (.type T)) Q E s := by
  show wpAny M A (do return Value.bool (← isSame (.type T) (.type T))) Q E s
  refine wpAny_bind (wpAny_of_eq (a := true) ?_ (wpAny_pure h))
  unfold isSame
  simp
theorem fn_kind {d : PyData} {x : Str} : Fn prog w 28 [d, .str x] (.str (S [])) 1 := by
  refine .of ?_
  intro A s B vs R hh hdep huni W hB hr hR
  obtain ⟨v1, v2, rfl, r1, r2⟩ := two_of hr
  refine call_intro (n := 0) (s1 := s) (s₀ := s) (bvs := [v1, v2]) ["name", "x"] [] [some d, some (.str x)] rfl rfl rfl (by kernel_rfl) hh (by omega) (by omega) (fun Q E q => wpAny_of_eq rfl (by exact q)) rfl (.refl s) (fun _ _ e => e) rfl rfl W hB rfl (fun i d' hd => ?_) fun env S m vals hF r hv g hb1 hb2 hM => ?_
  · match i, hd with
    | 0, hd => cases hd; exact ⟨v1, rfl, r1⟩
    | 1, hd => cases hd; exact ⟨v2, rfl, r2⟩
  · refine wpAny_execs_cons (wpAny_Assign_Name (tree_Call_Name (load_blt r (v := .type "type") (blt_of (hF.kd (by kernel_rfl)) (by kernel_rfl) (by kernel_rfl) (by kernel_rfl)) (PySem.callWith_type (backTo_plain _ rfl).1 (args_of (evs_cons (ev_name 1 rfl rfl) evs_nil) r rfl fun us S1 r1 T1 q => ?_)))) rfl)
    obtain ⟨u, rfl, ru⟩ := one_of q
    obtain ⟨t, rfl⟩ := rep_str ru
    refine call_type_of (typeIs_str _ _ _) (by decide) ?_
    refine wpAny_mono (store_out r1 (hF.kd (by kernel_rfl)) (by kernel_rfl)) (fun _ s2 q => ?_) fun _ _ f => f
    obtain ⟨S2, rfl, r2, T2, eM, eB⟩ := q
    dsimp only
    refine wpAny_execs_cons (wpAny_If (wpAny_isTrue_Compare1 ?_))
    refine wpAny_Name (wpAny_loadName_local r2.ok.kind (hF.kd (by kernel_rfl)) r2.ns (v := .type "str") (by kernel_rfl) ?_) (by kernel_rfl)
    refine load_blt r2 (v := .type "str") (blt_of (hF.kd (by kernel_rfl)) (by kernel_rfl) (by kernel_rfl) (by kernel_rfl)) ?_
    refine is_type_same (wpAny_truthy_bool ?_)
    simp only [if_true]
    refine wpAny_mono (Exs.run (exs_ret (ex_return (ev_strL (l := []) (by kernel_rfl)))) r2.rel) (fun fl s3 q => ?_) fun _ _ f => f
    obtain ⟨S3, rfl, T3, v, σ3, rfl, ⟨m3, vals3, R3⟩, rv⟩ := q
    obtain ⟨t3, rfl⟩ := rep_str rv
    exact hR _ _ ⟨R3.keep, R3.os, R3.gens⟩ (.str _ _)
end Mine
open PySem PySem.Spec PySem.Calls PySem.W PyProof.Rows
set_option Elab.async false
set_option maxRecDepth 100000
set_option maxHeartbeats 1000000
set_option linter.unusedVariables false
namespace Mine
section
variable {X : Fx} {σ σ1 σ2 σ3 : Sg} {pos p2 p3 : Pos} {k : Nat}
theorem call_lenT {xs : List PyData} (hs : xs.length < 2 ^ 62) : CallOK X σ (.builtin "len") [.tuple xs] (.int xs.length) := .of fun S0 vs R r => by
  obtain ⟨v, rfl, rv⟩ := one_of r
  obtain ⟨a, us, rfl, _, pl, rs⟩ := rep_tuple rv
  have hl := rs.length
  rw [Array.length_toList] at hl
  refine PyProof.Rows.len_tuple pl.isTup (by rw [hl]; omega) ?_
  rw [hl]
  exact ⟨.tok _, .int _ _⟩
theorem ev_itemT {value slice : Expr} {ds : List PyData} {i : Int} {d : PyData} (h1 : Ev X value σ (.tuple ds) σ1) (h2 : Ev X slice σ1 (.int i) σ2) (h0 : 0 ≤ i) (hi : i < 2 ^ 62) (hx : ds[i.toNat]? = some d) (hn : noSlice slice = true := by rfl) :
    Ev X (.Subscript value slice pos) σ d σ2 := .of fun S0 m vals R =>
  Subscript_ (wpAny_mono (h1.go S0 m vals R) (fun v s1 q => by
    obtain ⟨S1, rfl, R1, T1, r1⟩ := q
    refine wpAny_mono (h2.go S1 m vals R1) (fun u s2 q => ?_) fun _ _ f => f
    obtain ⟨S2, rfl, R2, T2, r2⟩ := q
    obtain ⟨t, rfl⟩ := rep_int r2
    obtain ⟨a, vs, rfl, ha, pl, rs⟩ := rep_tuple (T2.rep r1)
    obtain ⟨y, hy, ry⟩ := rs.get hx
    have hlt : i.toNat < vs.size := by have := (List.getElem?_eq_some_iff.mp hy).1; simpa using this
    refine tail_any pl.isTup.typeIs slot_tuple_getitem.lookup (PyProof.Rows.getItem_tuple (j := i.toNat) pl.isTup (by omega) (by omega) ?_ (by simpa using hy) ⟨S2, rfl, R2, T1.trans T2, ry⟩) (sub_plain hn _ _)
    exact seqIndex_nn h0 hlt) fun _ _ f => f)
theorem rep_dict0 {B : Bad} {h : Heap} {v : Value} {prog : Program} {w : World} (r : Rep B h v (.dict [])) : ∃ a, v = .ref a ∧ (a == sysModules) = false ∧ h.DictOf (intKind prog w) a [] := by
  cases r with
  | dict hb ho hm hi h1 h2 =>
    obtain ⟨o', ho', hex⟩ := ho
    obtain ⟨o, es, ep, ho, hc, hd, hk, hf⟩ := hi
    rw [ho'] at ho; cases ho
    have he : es = #[] := by
      cases q : es.toList with
      | nil => simpa using q
      | cons e r =>
        exfalso
        obtain ⟨k, t, hk1, _⟩ := hk e (by rw [← Array.mem_toList_iff, q]; simp)
        have := h1 k
        rw [← hf k] at this
        unfold findBy at this
        rw [← Array.find?_toList, q] at this
        simp [hk1, Value.isInt, lookI] at this
    subst he
    exact ⟨_, rfl, hm, _, #[], ep, ho', hex, hd, fun e he => by simp at he, .nil, by simp⟩
theorem tt_dict0 {e : Expr} (h : Ev X e σ (.dict []) σ1) (he : ∀ env whole, isTrue e env whole = (do let v ← whole; standAt e.pos; holding [v] (truthy v)) := by intros; rfl) : Tt X e σ false σ1 := .of fun S0 m vals R =>
  wpAny_isTrue_value (wpAny_mono (h.go S0 m vals R) (fun v s1 q => by
    obtain ⟨S1, rfl, R1, T1, r1⟩ := q
    obtain ⟨a, rfl, hm, hd⟩ := rep_dict0 (prog := X.prog) (w := X.w) r1
    refine wpAny_truthy_dict hm hd (by decide) ?_
    exact ⟨⟨_, S1.M, S1.B⟩, rfl, R1.grow (.tok _), T1.trans (Grow.tr R1.sub (.tok _)), rfl⟩) fun _ _ f => f) (he _ _)
theorem wpAny_eqT {α : Type} {M : Model} {A : Around} {t t' : Sem α} {Q : α → Shared → Prop} {E : Value → Shared → Prop} {s : Shared} (e : t = t') (h : wpAny M A t' Q E s) : wpAny M A t Q E s := e ▸ h
end
variable {prog : Program} {w : World}
theorem fn_cpath {d1 d2 d3 : PyData} {l : List Nat} : Fn prog w 35 [d1, d2, d3, .tuple [.str (S l)], .dict []] (.str (S l)) 2 := by
  refine fn_def ["name", "cname", "argname", "args", "kwargs"] ["x", "k"] rfl rfl rfl rfl (by kernel_rfl) (fun vs h => ?_) rfl (fun A s₀ env O hF => ?_)
  · obtain ⟨a, b, c, d, e, rfl⟩ := len5 h; rfl
  · apply exs_cons
    · apply ex_if_t
      · apply tt_and
        apply Tand.yes
        · exact tt_b (tt_cmp (ev_bfun (blt_of (hF.kd (by kernel_rfl)) (by kernel_rfl) (by kernel_rfl) (by kernel_rfl)) (evs_cons (ev_name 3 rfl rfl) evs_nil) (call_lenT (by simp))) ev_int c_eqi) rfl
        · apply Tand.yes
          · exact tt_b (tt_not (tt_dict0 (ev_name 4 rfl rfl))) rfl
          · exact Tand.nil
      · exact exs_cons (ex_assign 5 (ev_itemT (ev_name 3 rfl rfl) ev_int (by decide) (by decide) rfl) rfl (hF.sto (by kernel_rfl)) (by exact Nat.le_of_ble_eq_true rfl)) exs_nil
    · refine exs_cons (ex_assign 6 (ev_fn (hF.kd (by kernel_rfl)) (evs_cons (ev_name 0 rfl rfl) (evs_cons (ev_name 5 rfl rfl) evs_nil)) fn_kind (Nat.le_refl _) (by kernel_rfl) (by kernel_rfl) (by kernel_rfl)) rfl (hF.sto (by kernel_rfl)) (by exact Nat.le_of_ble_eq_true rfl)) ?_
      refine exs_cons (ex_if_f (tt_b (tt_str (ev_name 6 rfl rfl) (by simp)) rfl) exs_nil) ?_
      exact exs_ret (ex_return (ev_name 5 rfl rfl))
theorem fn_normpathV {cs : List (List Nat)} (hn : cs ≠ []) (hc : ∀ c ∈ cs, c ≠ [] ∧ ∀ x ∈ c, x = 97) (hl : (cs.map List.length).sum + cs.length ≤ 500) (hj : (jn (cs ++ [[98], [46, 46]])).length ≤ 900) (hj2 : (jn cs).length ≤ 900) :
    Fn prog w 56 [.str (S (47 :: jn (cs ++ [[98], [46, 46]])))] (.str (S (47 :: jn cs))) 4 := by
  refine .of ?_
  intro A s B vs R hh hdep huni W hB hr hR
  obtain ⟨v, rfl, rv⟩ := one_of hr
  let tup : Obj := { cls := .type "tuple", data := .seq #[v] }
  have szt : (s.heap.push tup).objs.size = s.heap.objs.size + 1 := Heap.size_push _ _
  have nB : ∀ a : Nat, s.heap.objs.size ≤ a → ¬ B a := fun a ha hb => by
    have := hB a hb
    rw [new_of_ge ha] at this; cases this
  have g1 : Grow s { s with heap := (s.heap.push tup).push emptyDict } := ⟨fun b o e => Heap.get?_push_of_some _ (Heap.get?_push_of_some _ e), rfl, rfl⟩
  have hm0 := modules_low W.nolimit
  refine call_intro (n := 3) (s1 := { s with heap := (s.heap.push tup).push emptyDict }) (s₀ := s) (bvs := [.ref s.heap.objs.size, .ref (s.heap.push tup).objs.size]) ["args", "kwargs"] [] [some (.tuple [.str (S (47 :: jn (cs ++ [[98], [46, 46]])))]), some (.dict [])] rfl rfl rfl (by kernel_rfl) hh (by omega) (by omega)
    (fun Q E q => ?_) rfl g1 (fun _ _ e => e) rfl rfl W hB rfl (fun i d' hd => ?_) fun env S m vals hF r hv g hb1 hb2 hM => ?_
  · refine wpAny_eqT (t' := (do let t ← newTuple [v]; let d ← alloc { cls := .type "dict", data := .dict #[] }; pure [("args", t), ("kwargs", .ref d)] : Sem (List (Str × Value)))) ?_ ?_
    · kernel_rfl
    exact wpAny_bind (wpAny_newTuple (wpAny_bind (wpAny_alloc (wpAny_pure q))) (by exact Nat.le_of_ble_eq_true rfl))
  · match i, hd with
    | 0, hd =>
      cases hd
      exact ⟨_, rfl, .tuple (nB _ (Nat.le_refl _)) ⟨0, Heap.get?_push_of_some _ (Heap.get?_push_size _ rfl)⟩ (.cons (rv.grow g1) .nil)⟩
    | 1, hd =>
      cases hd
      have hg : ((s.heap.push tup).push emptyDict).get? (s.heap.push tup).objs.size = some emptyDict := Heap.get?_push_size _ rfl
      refine ⟨_, rfl, .dict (f := fun _ => none) (nB _ (by rw [szt]; omega)) ⟨_, hg, rfl, rfl, rfl⟩ ?_ ⟨_, #[], 0, hg, rfl, rfl, fun e he => by simp at he, fun k => by simp [findBy]⟩ (fun k => rfl) fun k d h => by cases h⟩
      rw [beq_eq_false_iff_ne]
      have : @LT.lt Nat _ sysModules s.heap.objs.size := hm0
      rw [szt]
      exact neA (by omega)
  · refine wpAny_mono (Exs.run (exs_ret (ex_return (ev_fn (hF.kd (by kernel_rfl)) (evs_cons (ev_fn (hF.kd (by kernel_rfl)) (evs_cons ev_str (evs_cons ev_str (evs_cons ev_str (evs_cons (ev_name 0 rfl rfl) (evs_cons (ev_name 1 rfl rfl) evs_nil))))) fn_cpath (by exact Nat.le_of_ble_eq_true rfl) (by kernel_rfl) (by kernel_rfl) (by kernel_rfl)) evs_nil) (fn_normpath hn hc hl hj hj2) (by exact Nat.le_of_ble_eq_true rfl) (by kernel_rfl) (by kernel_rfl) (by kernel_rfl)))) r.rel) (fun fl s3 q => ?_) fun _ _ f => f
    obtain ⟨S3, rfl, T3, v3, σ3, rfl, ⟨m3, vals3, R3⟩, rv3⟩ := q
    obtain ⟨t3, rfl⟩ := rep_str rv3
    exact hR _ _ ⟨R3.keep, R3.os, R3.gens⟩ (.str _ _)
end Mine
open PySem PySem.Spec PySem.Calls PySem.W PyProof.Rows
set_option Elab.async false
set_option maxRecDepth 100000
set_option maxHeartbeats 1000000
set_option linter.unusedVariables false
namespace Mine
theorem starts_S (l m : List Nat) : Txt.startswith (S l) (S m) = m.isPrefixOf l := by
  unfold Txt.startswith
  rw [StrLaws.subAt_eq, S_length, S_length]
  have e1 : (S l).cps.toList = l := by simp [S]
  have e2 : (S m).cps.toList = m := by simp [S]
  rw [e1, e2]
  simp only [Nat.zero_add, List.drop_zero]
  rw [Bool.eq_iff_iff]
  simp only [Bool.and_eq_true, decide_eq_true_eq, beq_iff_eq, List.isPrefixOf_iff_prefix]
  constructor
  · rintro ⟨_, h⟩
    exact ⟨l.drop m.length, by conv => lhs; lhs; rw [← h]
                               exact List.take_append_drop _ _⟩
  · rintro ⟨r, rfl⟩
    exact ⟨by simp, by simp⟩
noncomputable def KOK : Option Bool → Option Value → Prop
  | none, r => r = none
  | some b, r => ∃ t, r = some (.int (bi b) t)
/-- a reader (_Ignore) in a heap -/
structure Rdr (prog : Program) (w : World) (h : Heap) (x dx ms dl D : Addr) (mods dirs : List (List Nat)) (kn : List Nat → Option Bool) (N : Nat) : Prop where
  inst : h.get? x = some (instObj 79 dx)
  dict : ∃ es n, h.get? dx = some (dictOf es n) ∧ getL "_mods" es = some (some (.ref ms)) ∧ getL "_dirs" es = some (some (.ref dl)) ∧ getL "_ignore" es = some (some (.ref D)) ∧ getL "names" es = some none
  mods : ∃ n, n ≤ 1000 ∧ StrSet prog w h ms (fun k => (mods.map S).contains k) n
  dirs : ∃ vs, h.PlainList dl vs ∧ StrsAre vs.toList (dirs.map S)
  cache : ∃ kvs, h.DictOf (strKind prog w) D kvs ∧ kvs.length ≤ N ∧ ∀ l, KOK (kn l) (valueAt kvs (S l))
  sys : (D == sysModules) = false
  ne : D ≠ dx
section
variable {prog : Program} {w : World} {h h' : Heap} {x dx ms dl D : Addr} {mods dirs : List (List Nat)} {kn : List Nat → Option Bool} {N : Nat}
theorem Rdr.live (R : Rdr prog w h x dx ms dl D mods dirs kn N) : ∀ b ∈ [x, dx, ms, dl, D], ∃ o, h.get? b = some o := by
  intro b hb
  simp only [List.mem_cons, List.not_mem_nil, or_false] at hb
  rcases hb with rfl | rfl | rfl | rfl | rfl
  · exact ⟨_, R.inst⟩
  · obtain ⟨es, n, e, _⟩ := R.dict; exact ⟨_, e⟩
  · obtain ⟨n, _, o, _, _, _, e, _⟩ := R.mods; exact ⟨_, e⟩
  · obtain ⟨vs, ⟨n, e⟩, _⟩ := R.dirs; exact ⟨_, e⟩
  · obtain ⟨kvs, ⟨o, _, _, e, _⟩, _⟩ := R.cache; exact ⟨_, e⟩
theorem Rdr.keeps (R : Rdr prog w h x dx ms dl D mods dirs kn N) (H : ∀ b ∈ [x, dx, ms, dl, D], ∀ o, h.get? b = some o → h'.get? b = some o) : Rdr prog w h' x dx ms dl D mods dirs kn N := by
  have hx := H x (by simp); have hdx := H dx (by simp); have hms := H ms (by simp); have hdl := H dl (by simp); have hD := H D (by simp)
  exact ⟨hx _ R.inst, let ⟨es, n, e, r⟩ := R.dict; ⟨es, n, hdx _ e, r⟩, let ⟨n, hn, q⟩ := R.mods; ⟨n, hn, q.at' hms⟩, let ⟨vs, ⟨n, e⟩, r⟩ := R.dirs; ⟨vs, ⟨n, hdl _ e⟩, r⟩,
    let ⟨kvs, e, r⟩ := R.cache; ⟨kvs, e.at hD, r⟩, R.sys, R.ne⟩
theorem Rdr.apart (R : Rdr prog w h x dx ms dl D mods dirs kn N) : D ≠ x ∧ D ≠ dx ∧ D ≠ ms ∧ D ≠ dl := by
  obtain ⟨kvs, ⟨o, es, ep, e, hex, hd, _⟩, _⟩ := R.cache
  refine ⟨?_, R.ne, ?_, ?_⟩
  · rintro rfl
    rw [R.inst] at e; cases e; cases hd
  · rintro rfl
    obtain ⟨n, _, o', _, _, _, e', _, hd', _⟩ := R.mods
    rw [e'] at e; cases e; rw [hd'] at hd; cases hd
  · rintro rfl
    obtain ⟨vs, ⟨n, e'⟩, _⟩ := R.dirs
    rw [e'] at e; cases e; cases hd
theorem valueAt_stored (kvs : List (Str × Value)) (k : Str) (v : Value) (j : Str) : valueAt (stored kvs k v) j = if j = k then some v else valueAt kvs j := by
  unfold stored valueAt
  by_cases ha : kvs.any (fun kv => kv.1 = k) = true
  · rw [if_pos ha]
    induction kvs with
    | nil => cases ha
    | cons kv r ih =>
      rw [List.map_cons, List.find?_cons, List.find?_cons]
      by_cases hk : kv.1 = k
      · rw [if_pos hk]
        by_cases hj : j = k
        · subst hj; simp [hk]
        · have h1 : ¬ kv.1 = j := fun e => hj (e.symm.trans hk)
          have h2 : decide (kv.1 = j) = false := by simpa using h1
          simp only [h2, if_neg hj]
          by_cases har : r.any (fun kv => kv.1 = k) = true
          · have := ih har; rw [if_neg hj] at this; exact this
          · have : r.map (fun kv => if kv.1 = k then (kv.1, v) else kv) = r := by
              conv => rhs; rw [← List.map_id r]
              apply List.map_congr_left
              intro q hq
              have : ¬ q.1 = k := fun e => har (List.any_eq_true.mpr ⟨q, hq, by simpa using e⟩)
              simp [this]
            rw [this]
      · rw [if_neg hk]
        have har : r.any (fun kv => kv.1 = k) = true := by simpa [hk] using ha
        have := ih har
        by_cases hj : kv.1 = j
        · have : ¬ j = k := fun e => hk (hj.trans e)
          simp [hj, this]
        · have h2 : decide (kv.1 = j) = false := by simpa using hj
          simp only [h2]
          exact this
  · rw [if_neg ha, List.find?_append]
    by_cases hj : j = k
    · subst hj
      have : kvs.find? (fun kv => decide (kv.1 = j)) = none := by
        rw [List.find?_eq_none]
        intro q hq e
        exact ha (List.any_eq_true.mpr ⟨q, hq, e⟩)
      simp [this]
    · rw [if_neg hj]
      have : ¬ k = j := fun e => hj e.symm
      cases q : kvs.find? (fun kv => decide (kv.1 = j)) with
      | none => simp [this]
      | some z => simp
theorem stored_length (kvs : List (Str × Value)) (k : Str) (v : Value) : (stored kvs k v).length ≤ kvs.length + 1 := by
  unfold stored; split <;> simp
noncomputable def updK (kn : List Nat → Option Bool) (nm : List Nat) (b : Bool) : List Nat → Option Bool := fun l => if l = nm then some b else kn l
theorem Rdr.put (R : Rdr prog w h x dx ms dl D mods dirs kn N) {kvs : List (Str × Value)} {nm : List Nat} {b : Bool} {t : Tok} (hk : kvs.length ≤ N ∧ ∀ l, KOK (kn l) (valueAt kvs (S l))) (hs : Heap.SameBut D h h') (hd : h'.DictOf (strKind prog w) D (stored kvs (S nm) (.int (bi b) t))) :
    Rdr prog w h' x dx ms dl D mods dirs (updK kn nm b) (N + 1) := by
  obtain ⟨a1, a2, a3, a4⟩ := R.apart
  refine ⟨(hs.2 _ (Ne.symm a1)).trans R.inst, let ⟨es, n, e, r⟩ := R.dict; ⟨es, n, (hs.2 _ (Ne.symm a2)).trans e, r⟩, let ⟨n, hn, q⟩ := R.mods; ⟨n, hn, q.at' fun o e => (hs.2 _ (Ne.symm a3)).trans e⟩, let ⟨vs, ⟨n, e⟩, r⟩ := R.dirs; ⟨vs, ⟨n, (hs.2 _ (Ne.symm a4)).trans e⟩, r⟩, ⟨_, hd, ?_, fun l => ?_⟩, R.sys, R.ne⟩
  · have := stored_length kvs (S nm) (.int (bi b) t); omega
  · rw [valueAt_stored]
    unfold updK
    by_cases hl : l = nm
    · subst hl; simp only [if_true]; exact ⟨t, rfl⟩
    · have : ¬ S l = S nm := fun e => hl (S_inj.mp e)
      rw [if_neg hl, if_neg this]
      exact hk.2 l
theorem Rdr.congrK {kn' : List Nat → Option Bool} {N' : Nat} (R : Rdr prog w h x dx ms dl D mods dirs kn N) (e : ∀ l, kn l = kn' l) (hN : N ≤ N') : Rdr prog w h x dx ms dl D mods dirs kn' N' := by
  obtain rfl : kn = kn' := funext e
  exact ⟨R.inst, R.dict, R.mods, R.dirs, let ⟨kvs, e, a, b⟩ := R.cache; ⟨kvs, e, by omega, b⟩, R.sys, R.ne⟩
end
/-- what a reader says -/
noncomputable def namesV (mods dirs : List (List Nat)) (kn : List Nat → Option Bool) (fo : Option (List Nat)) (nm : List Nat) : Bool :=
  match kn nm with
  | some b => b
  | none => mods.contains nm || (mods.any (fun m => (m ++ [46]).isPrefixOf nm) || (match fo with
    | none => true
    | some p => dirs.any fun d => (d ++ [47]).isPrefixOf p))
end Mine
open PySem PySem.Spec PySem.Calls PySem.W PyProof.Rows
set_option Elab.async false
set_option maxRecDepth 100000
set_option maxHeartbeats 1000000
set_option linter.unusedVariables false
namespace Mine
section
variable {X : Fx} {σ σ1 : Sg} {S S' : St} {x dx ms dl D : Addr} {mods dirs : List (List Nat)} {kn : List Nat → Option Bool} {N : Nat}
/-- a reader seen from a frame that owns none of its objects -/
structure RIn (X : Fx) (S : St) (x dx ms dl D : Addr) (mods dirs : List (List Nat)) (kn : List Nat → Option Bool) (N : Nat) : Prop where
  r : Rdr X.prog X.w S.h x dx ms dl D mods dirs kn N
  nm : ∀ b ∈ [x, dx, ms, dl, D], ¬ S.M b
  b : S.B D
theorem RIn.tr (R : RIn X S x dx ms dl D mods dirs kn N) (T : Tr S S') : RIn X S' x dx ms dl D mods dirs kn N := by
  refine ⟨R.r.keeps fun b hb o e => T.keep b o (R.nm b hb) e, fun b hb hm => ?_, ?_⟩
  · rcases T.msub b hm with q | q
    · exact R.nm b hb q
    · obtain ⟨o, e⟩ := R.r.live b hb; rw [q] at e; cases e
  · obtain ⟨o, e⟩ := R.r.live D (by simp)
    exact T.bkeep D o R.b (R.nm D (by simp)) e
theorem RIn.grow {s' : Shared} (R : RIn X S x dx ms dl D mods dirs kn N) (g : Grow S.s s') : RIn X ⟨s', S.M, S.B⟩ x dx ms dl D mods dirs kn N :=
  ⟨R.r.keeps fun b _ o e => g.keep b o e, R.nm, R.b⟩
theorem inst_at {prog : Program} {w : World} {h : Heap} {es : List DictEntry} {n : Nat} (R : Rdr prog w h x dx ms dl D mods dirs kn N) (hd : h.get? dx = some (dictOf es n)) : InstAt h x (instObj 79 dx) 79 (some (dictOf es n)) := ⟨R.inst, rfl, rfl, hd⟩
theorem get_attr {i : Nat} {y name : Str} {v : Addr} {m : Str → Option Value} {vals : Nat → Option Value} {p2 pos : Pos} {Q : Value → Shared → Prop} {E : Value → Shared → Prop} (r : RelV X σ S m vals) (R : RIn X S x dx ms dl D mods dirs kn N) (hx : X.tbl[i]? = some y) (hv : vals i = some (.ref x))
    (hl : ∃ es n, S.h.get? dx = some (dictOf es n) ∧ getL name es = some (some (.ref v))) (ha : findIn (KK X) (.ref 79) name = some none) (hh : hasDictIn (KK X) 79 = true) (hga : findIn (KK X) (.ref 79) "__getattribute__" = some (some (.builtin "object.__getattribute__")))
    (he : eval (.Attribute (.Name y p2) name pos) X.env = (do
      let o ← eval (.Name y p2) X.env
      standAt pos.atName
      let r ← holding [o] (getAttr o name true)
      letTemporaryGo (.Name y p2) o r
      pure r)) (h : Q (.ref v) { S.s with toks := S.s.toks + 1 }) : wpAny (model X.prog X.w) X.A (eval (.Attribute (.Name y p2) name pos) X.env) Q E S.s := by
  obtain ⟨es, n, e1, e2⟩ := hl
  refine Attribute_Name_ (load_var r hx hv ?_) he
  exact get_value r.rel.wd.K (inst_at R.r e1) hga (findObj_own (attr := none) hh ha rfl (by rw [lookIn_dict]; exact e2)) rfl h
/-- the end of a call of names -/
noncomputable def NEnd (prog : Program) (w : World) (s s' : Shared) (x dx ms dl D : Addr) (mods dirs : List (List Nat)) (kn : List Nat → Option Bool) (N : Nat) : Prop :=
  (∀ b o, b ≠ D → s.heap.get? b = some o → s'.heap.get? b = some o) ∧ s'.os = s.os ∧ s'.gens = s.gens ∧ Rdr prog w s'.heap x dx ms dl D mods dirs kn N
theorem names_put {ys ym : Str} {c : Int} {b : Bool} {nm : List Nat} {m : Str → Option Value} {vals : Nat → Option Value} {q1 q2 q3 q4 q5 q6 q7 q8 : Pos} {k1 k2 : Nat} {E : Value → Shared → Prop} (hc : c = bi b) (hN : N ≤ 1000) (r : RelV X σ S m vals) (R : RIn X S x dx ms dl D mods dirs kn N)
    (hx : X.tbl[0]? = some ys) (hv : vals 0 = some (.ref x)) (hx2 : X.tbl[2]? = some ym) (hs2 : σ.at 2 = some (.fro (.str (S2 nm)))) (hS2 : S2 = Mine.S)
    (ha : findIn (KK X) (.ref 79) "_ignore" = some none) (hh : hasDictIn (KK X) 79 = true) (hga : findIn (KK X) (.ref 79) "__getattribute__" = some (some (.builtin "object.__getattribute__")))
    (he : eval (.Attribute (.Name ys q1) "_ignore" q2) X.env = (do
      let o ← eval (.Name ys q1) X.env
      standAt q2.atName
      let r ← holding [o] (getAttr o "_ignore" true)
      letTemporaryGo (.Name ys q1) o r
      pure r)) (hs : swapsWith (.Constant (.int c) k1 q5) (some (.Subscript (.Attribute (.Name ys q1) "_ignore" q2) (.Name ym q3) q4)) q6.line X.env = pure false) :
    wpAny (model X.prog X.w) X.A (execs [.Assign [.Subscript (.Attribute (.Name ys q1) "_ignore" q2) (.Name ym q3) q4] (.Constant (.int c) k1 q5) q6, .Return (some (.Constant (.int c) k2 q7)) q8] X.env)
      (fun fl s' => ∃ t, fl = .ret (.int (bi b) t) ∧ NEnd X.prog X.w S.s s' x dx ms dl D mods dirs (updK kn nm b) (N + 1)) E S.s := by
  subst hS2
  subst hc
  obtain ⟨es, n, e1, _, _, e4, _⟩ := R.r.dict
  refine wpAny_execs_cons (wpAny_Assign_Subscript (wpAny_Constant_int ?_) hs)
  have g1 : Grow S.s { S.s with toks := S.s.toks + 1 } := .tok _
  refine get_attr (S := ⟨{ S.s with toks := S.s.toks + 1 }, S.M, S.B⟩) (r.grow g1) (R.grow g1) hx hv ⟨es, n, e1, e4⟩ ha hh hga he ?_
  have g2 : Grow S.s { S.s with toks := S.s.toks + 1 + 1 } := .tok _
  have r2 := r.grow g2
  have q := r2.slot 2
  rw [hs2] at q
  obtain ⟨u, hu, ru⟩ := q
  obtain ⟨t, rfl⟩ := rep_str ru
  refine load_var (S := ⟨{ S.s with toks := S.s.toks + 1 + 1 }, S.M, S.B⟩) r2 hx2 hu ?_
  obtain ⟨kvs, hd, hkN, hk⟩ := R.r.cache
  have hsl : (1000 : Nat) ≤ sizeLine := by decide
  refine wpAny_setItem_pairs (knd := strKind X.prog X.w) (strKind_is _ _ _ _) hd (fun h' hd' hs' => ?_) (by omega)
  refine wpAny_execs_cons (wpAny_Return_some (wpAny_Constant_int ⟨_, rfl, fun b' o hb e => (hs'.2 b' hb).trans e, rfl, rfl, R.r.put ⟨hkN, hk⟩ hs' hd'⟩))
end
end Mine
open PySem PySem.Spec PySem.Calls PySem.W PyProof.Rows
set_option Elab.async false
set_option maxRecDepth 100000
set_option maxHeartbeats 1000000
set_option linter.unusedVariables false
namespace Mine
section
variable {X : Fx} {σ σ1 : Sg} {S : St} {x dx ms dl D : Addr} {mods dirs : List (List Nat)} {kn : List Nat → Option Bool} {N : Nat}
/-- the loop of names over texts: the first that fits ends the call -/
theorem loop_gen {var : Str} {test : Expr} {suite : List Stmt} {p1 p2 : Pos} {I : Addr} {ls : List (List Nat)} {P : Nat → St → Prop} {Rr : Result → Shared → Prop} {m : Str → Option Value} {vals : Nat → Option Value} (pf : List Nat → Bool)
    (r : RelV X σ S m vals) (R : RIn X S x dx ms dl D mods dirs kn N) (hk : X.env.kindOf var = some .local) (hxt : X.tbl.contains var = false)
    (hPt : ∀ i S S', P i S → Tr S S' → P i S') (hcell : ∀ i S, P i S → ∃ o, S.h.get? I = some o ∧ ∀ v, o.data ≠ .cell v)
    (hnext : ∀ (i : Nat) (S : St) l (Q : Option Value → Shared → Prop), ls[i]? = some l → P i S → (∀ h' t, P (i + 1) ⟨{ S.s with heap := h' }, S.M, S.B⟩ → Heap.SameBut I S.h h' → Q (some (.str (Mine.S l) t)) { S.s with heap := h' }) → wpAny (model X.prog X.w) X.A (pyNext (.ref I)) Q (fun _ _ => False) S.s)
    (hdone : ∀ (S : St) (Q : Option Value → Shared → Prop), P ls.length S → (∀ h', Heap.ExtBut I S.h h' → Q none { S.s with heap := h' }) → wpAny (model X.prog X.w) X.A (pyNext (.ref I)) Q (fun _ _ => False) S.s)
    (hIB : S.B I) (hIM : ¬ S.M I) (hI0 : X.s₀.heap.get? I = none) (hIn : ∀ b ∈ [x, dx, ms, dl, D], b ≠ I) (h0 : P 0 S)
    (htest : ∀ (S1 : St) m1 l t, RelV X σ S1 m1 vals → m1 var = some (.str (Mine.S l) t) → l ∈ ls → wpAny (model X.prog X.w) X.A (isTrue test X.env (eval test X.env)) (fun b s' => b = pf l ∧ Grow S1.s s') (fun _ _ => False) S1.s)
    (hput : ∀ (S1 : St) m1, RelV X σ S1 m1 vals → RIn X S1 x dx ms dl D mods dirs kn N → (∀ b o, b ≠ I → ¬ S.M b → S.h.get? b = some o → S1.h.get? b = some o) → S1.s.os = S.s.os → S1.s.gens = S.s.gens → S1.M = S.M → ls.any pf = true →
      wpAny (model X.prog X.w) X.A (execs suite X.env) (fun fl s' => ∃ v, fl = .ret v ∧ Rr (.ok (.ret v)) s') (fun _ _ => False) S1.s)
    (hafter : ∀ (S1 : St) m1, RelV X σ S1 m1 vals → RIn X S1 x dx ms dl D mods dirs kn N → (∀ b o, b ≠ I → ¬ S.M b → S.h.get? b = some o → S1.h.get? b = some o) → S1.s.os = S.s.os → S1.s.gens = S.s.gens → S1.M = S.M → ls.any pf = false → Rr (.ok .next) S1.s) :
    codeAny (model X.prog X.w) X.A (.forLoop (.Name var p1) (.ref I) [.If test suite [] p2] [] X.env) Rr S.s := by
  refine forLoop_own (fun n s => ∃ (S1 : St) (m1 : Str → Option Value) (i : Nat), S1.s = s ∧ RelV X σ S1 m1 vals ∧ RIn X S1 x dx ms dl D mods dirs kn N ∧ P i S1 ∧ S1.B I ∧ S1.M = S.M ∧ (∀ b o, b ≠ I → ¬ S.M b → S.h.get? b = some o → S1.h.get? b = some o) ∧ S1.s.os = S.s.os ∧ S1.s.gens = S.s.gens ∧ i ≤ ls.length ∧ (∀ l ∈ ls.take i, pf l = false) ∧ n = ls.length + 1 - i)
    (fun n s hJ => ?_) (ls.length + 1) ⟨S, m, 0, rfl, r, R, h0, hIB, rfl, fun b o _ _ e => e, rfl, rfl, Nat.zero_le _, fun l hl => by simp at hl, rfl⟩
  obtain ⟨S1, m1, i, rfl, r1, R1, P1, hB1, hM1, hkp, hos, hgn, hle, hpf, rfl⟩ := hJ
  have hWB : WBad (fun b => b = I) S1 := fun b hb => by subst hb; exact ⟨hB1, by rw [hM1]; exact hIM, hcell i S1 P1⟩
  have hW0 : ∀ b, b = I → X.s₀.heap.get? b = none := fun b hb => hb ▸ hI0
  cases hl : ls[i]? with
  | none =>
    have hi : i = ls.length := Nat.le_antisymm hle (by simpa using hl)
    subst hi
    refine hdone S1 _ P1 fun h' he => ?_
    have g : KB0 (fun b => b = I) S1.s { S1.s with heap := h' } := ⟨fun b o hb e => he b o hb e, rfl, rfl⟩
    refine hafter ⟨{ S1.s with heap := h' }, S1.M, fun b => S1.B b ∧ ¬ b = I⟩ m1 (r1.kb0 g hWB hW0) ⟨R1.r.keeps fun b hb o e => he b o (hIn b hb) e, R1.nm, R1.b, hIn D (by simp)⟩ (fun b o h1 h2 e => he b o h1 (hkp b o h1 h2 e)) hos hgn hM1 ?_
    rw [List.any_eq_false]
    intro l hl'
    rw [List.take_length] at hpf
    rw [hpf l hl']; decide
  | some l =>
    have hlt : i < ls.length := (List.getElem?_eq_some_iff.mp hl).1
    have hlm : l ∈ ls := List.mem_of_getElem? hl
    refine hnext i S1 l _ hl P1 fun h' t P2 hs => ?_
    dsimp only
    have hI' := hcell _ _ P2
    have g : KB (fun b => b = I) S1.s { S1.s with heap := h' } := ⟨fun b o hb e => (hs.2 b hb).trans e, fun b hb => by subst hb; exact hI', rfl, rfl⟩
    have r2 := r1.kb g hWB hW0
    have R2 : RIn X ⟨{ S1.s with heap := h' }, S1.M, S1.B⟩ x dx ms dl D mods dirs kn N := ⟨R1.r.keeps fun b hb o e => (hs.2 b (hIn b hb)).trans e, R1.nm, R1.b⟩
    refine wpAny_pure (wpAny_assign_Name (wpAny_mono (store_out r2 hk hxt) (fun _ s3 q => ?_) fun _ _ f => f))
    obtain ⟨S3, rfl, r3, T3, eM, eB⟩ := q
    have R3 := R2.tr T3
    have P3 := hPt _ _ _ P2 T3
    have kp3 : ∀ b o, b ≠ I → ¬ S.M b → S.h.get? b = some o → S3.h.get? b = some o := fun b o h1 h2 e => T3.keep b o (by show ¬ S1.M b; rw [hM1]; exact h2) ((hs.2 b h1).trans (hkp b o h1 h2 e))
    have hB3 : S3.B I := by rw [eB]; exact hB1
    have hM3 : S3.M = S.M := eM.trans hM1
    have hos3 : S3.s.os = S.s.os := T3.os.trans hos
    have hgn3 : S3.s.gens = S.s.gens := T3.gens.trans hgn
    refine wpAny_execs_cons (wpAny_If (wpAny_mono (htest S3 _ l t r3 (by simp) hlm) (fun b s4 q => ?_) fun _ _ f => f))
    obtain ⟨rfl, g4⟩ := q
    have r4 := r3.grow g4
    have R4 := R3.grow g4
    have kp4 : ∀ b o, b ≠ I → ¬ S.M b → S.h.get? b = some o → s4.heap.get? b = some o := fun b o h1 h2 e => g4.keep b o (kp3 b o h1 h2 e)
    cases hb : pf l with
    | true =>
      simp only [if_true]
      refine wpAny_mono (hput ⟨s4, S3.M, S3.B⟩ _ r4 R4 kp4 (g4.os.trans hos3) (g4.gens.trans hgn3) hM3 (List.any_eq_true.mpr ⟨l, hlm, hb⟩)) (fun fl s5 q => ?_) fun _ _ f => f
      obtain ⟨v, rfl, hR⟩ := q
      exact hR
    | false =>
      simp only [Bool.false_eq_true, if_false]
      refine wpAny_execs_nil (wpAny_execs_nil ?_)
      exact ⟨ls.length + 1 - (i + 1), by omega, ⟨s4, S3.M, S3.B⟩, _, i + 1, rfl, r4, R4, hPt _ _ _ P3 (g4.tr r3.sub), hB3, hM3, kp4, g4.os.trans hos3, g4.gens.trans hgn3, hlt, fun l' hl' => by
        rw [List.take_add_one, hl] at hl'
        rcases List.mem_append.mp hl' with q | q
        · exact hpf l' q
        · simp at q; rw [q]; exact hb, rfl⟩
end
end Mine
open PySem PySem.Spec PySem.Calls PySem.W PyProof.Rows
set_option Elab.async false
set_option maxRecDepth 100000
set_option maxHeartbeats 2000000
set_option linter.unusedVariables false
namespace Mine
theorem pick_list' {p : List Nat → Prop} : ∀ (seq : List Value), (∀ v ∈ seq, ∃ x t, v = .str x t ∧ ∃ l, x = S l ∧ p l) → ∃ ls : List (List Nat), ls.length = seq.length ∧ (∀ (i : Nat) l, ls[i]? = some l → ∃ t, seq[i]? = some (.str (S l) t)) ∧ (∀ l ∈ ls, p l) ∧ (∀ l t, .str (S l) t ∈ seq → l ∈ ls)
  | [], _ => ⟨[], rfl, fun i l h => by simp at h, fun l h => (nomatch h), fun l t h => (nomatch h)⟩
  | v :: seq, h => by
    obtain ⟨x, t, rfl, l, rfl, hl⟩ := h v (by simp)
    obtain ⟨ls, h1, h2, h3, h4⟩ := pick_list' seq fun v hv => h v (by simp [hv])
    refine ⟨l :: ls, by simp [h1], fun i l' hi => ?_, fun l' hl' => ?_, fun l' t' hl' => ?_⟩
    · cases i with
      | zero => simp at hi; subst hi; exact ⟨t, rfl⟩
      | succ i => simp at hi; obtain ⟨t', e⟩ := h2 i l' hi; exact ⟨t', by simpa using e⟩
    · rcases List.mem_cons.mp hl' with rfl | q
      · exact hl
      · exact h3 l' q
    · rcases List.mem_cons.mp hl' with q | q
      · injection q with q1 q2
        rw [S_inj.mp q1]; simp
      · exact List.mem_cons_of_mem _ (h4 l' t' q)
theorem SetIter.at' {w : World} {h h' : Heap} {I a T : Addr} {seq : List Value} {i : Nat} (x : SetIter w h I a T seq i) (H : ∀ b, (b = I ∨ b = a ∨ b = T) → ∀ o, h.get? b = some o → h'.get? b = some o) : SetIter w h' I a T seq i := by
  obtain ⟨first, ep, es, t, o, h1, h2, h3, h4, h5, road⟩ := x
  refine ⟨first, ep, es, t, o, H I (.inl rfl) _ h1, H a (.inr (.inl rfl)) _ h2, h3, h4, h5, ?_⟩
  rcases road with q | ⟨q1, pl, k, q2, q3, q4, q5⟩ | q
  · exact .inl q
  · exact .inr (.inl ⟨q1, pl, k, q2, q3, H T (.inr (.inr rfl)) _ q4, q5⟩)
  · exact .inr (.inr q)
theorem contains_S (mods : List (List Nat)) (nm : List Nat) : (mods.map S).contains (S nm) = mods.contains nm := by
  rw [Bool.eq_iff_iff, List.contains_iff_mem, List.contains_iff_mem, List.mem_map]
  constructor
  · rintro ⟨l, hl, e⟩; rw [S_inj.mp e] at hl; exact hl
  · exact fun h => ⟨nm, h, rfl⟩
theorem strs_get : ∀ {vs : List Value} {ls : List (List Nat)}, StrsAre vs (ls.map S) → vs.length = ls.length ∧ ∀ (i : Nat) l, ls[i]? = some l → ∃ t, vs[i]? = some (.str (S l) t)
  | _, [], .nil => ⟨rfl, fun i l h => by simp at h⟩
  | _, l :: ls, .cons _ t r => by
    obtain ⟨h1, h2⟩ := strs_get (ls := ls) r
    refine ⟨by simp [h1], fun i l' h => ?_⟩
    cases i with
    | zero => simp at h; subst h; exact ⟨t, rfl⟩
    | succ i => simp at h; obtain ⟨t', e⟩ := h2 i l' h; exact ⟨t', by simpa using e⟩
theorem r_in {X : Fx} {σ : Sg} {S : St} {m : Str → Option Value} {vals : Nat → Option Value} {x dx ms dl D : Addr} {mods dirs : List (List Nat)} {kn : List Nat → Option Bool} {N : Nat} (r : RelV X σ S m vals) (a : Rdr X.prog X.w S.h x dx ms dl D mods dirs kn N) (b : ∀ b ∈ [x, dx, ms, dl, D], ¬ S.M b) (c : S.B D) : RIn X S x dx ms dl D mods dirs kn N := ⟨a, b, c⟩
noncomputable def foD : Option (List Nat) → PyData
  | none => .none
  | some p => .str (S p)
noncomputable def foB (dirs : List (List Nat)) : Option (List Nat) → Bool
  | none => true
  | some p => dirs.any fun d => (d ++ [47]).isPrefixOf p
theorem namesV_none {mods dirs : List (List Nat)} {kn : List Nat → Option Bool} {fo : Option (List Nat)} {nm : List Nat} (h : kn nm = none) : namesV mods dirs kn fo nm = (mods.contains nm || (mods.any (fun m => (m ++ [46]).isPrefixOf nm) || foB dirs fo)) := by
  cases fo <;> simp [namesV, h, foB]
theorem namesV_some {mods dirs : List (List Nat)} {kn : List Nat → Option Bool} {fo : Option (List Nat)} {nm : List Nat} {b : Bool} (h : kn nm = some b) : namesV mods dirs kn fo nm = b := by
  simp [namesV, h]
theorem glb_str {X : Fx} {x y : Str} (hk : X.env.kindOf x = some .globalImplicit) (hd : notDebug x = true) (h : glbStr (KK X) x = some y) : ∃ t, Glb X x (.str y t) := by
  unfold glbStr at h
  split at h
  · rename_i y' t e
    cases h
    simp only [notDebug, Bool.and_eq_true, Bool.not_eq_true'] at hd
    exact ⟨t, hk, hd.1, e⟩
  · cases h
theorem glb_str_r {X : Fx} {σ : Sg} {S0 : St} {m : Str → Option Value} {vals : Nat → Option Value} (r : RelV X σ S0 m vals) {x y : Str} (hk : X.env.kindOf x = some .globalImplicit) (hd : notDebug x = true) (h : glbStr (KK X) x = some y) : ∃ t, Glb X x (.str y t) := glb_str hk hd h
/-- x.startswith(var + e) -/
theorem starts_test {X : Fx} {σ : Sg} {S0 : St} {m : Str → Option Value} {vals : Nat → Option Value} {E : Value → Shared → Prop} (r : RelV X σ S0 m vals) {i c : Nat} {ys var : Str} {l p : List Nat} {u t : Tok} {e : Expr} {q1 q2 q3 q4 q5 : Pos} (hx : X.tbl[i]? = some ys) (hv : vals i = some (.str (S p) u)) (hkv : X.env.kindOf var = some .local) (hd : (var == ("__debug__" : Str)) = false)
    (hm : m var = some (.str (S l) t)) (hl : l.length ≤ 900) (hne : isStarred e = false) (hline : (q2.endLine == q5.line) = true)
    (he : ∀ (Q : Value → Shared → Prop) (E : Value → Shared → Prop), (∀ t' s2, Grow S0.s s2 → Q (.str (S [c]) t') s2) → wpAny (model X.prog X.w) X.A (eval e X.env) Q E S0.s) :
    wpAny (model X.prog X.w) X.A (isTrue (.Call (.Attribute (.Name ys q1) "startswith" q2) [.BinOp (.Name var q3) .Add e q4] [] q5) X.env (eval (.Call (.Attribute (.Name ys q1) "startswith" q2) [.BinOp (.Name var q3) .Add e q4] [] q5) X.env)) (fun b s' => b = (l ++ [c]).isPrefixOf p ∧ Grow S0.s s') E S0.s := by
  have hsl : (2000 : Nat) ≤ sizeLine := by decide
  refine wpAny_isTrue_value (wpAny_Call_method (T := "str") (id := "str.startswith") rfl rfl hline PySem.F.plainAttrs_str PySem.F.slot_str_startswith PySem.F.type_str_startswith (load_var r hx hv ⟨typeIs_str _ _ _, (fun a e => by cases e), ?_⟩))
  refine callWith_builtin rfl (evalArgs_plain (spliced_cons (wpAny_BinOp (wpAny_Name (wpAny_loadName_local r.ok.kind hkv r.ns hm (he _ _ fun t' s2 g => ?_)) hd))))
  refine SB.add (fun t2 k2 => spliced_nil ?_) (by rw [S_length, S_length]; simp; omega)
  refine SC.startswith (wpAny_truthy_bool ?_)
  rw [S_append, starts_S]
  exact ⟨rfl, ⟨g.keep, g.os, g.gens⟩⟩
theorem call_names {prog : Program} {w : World} {A : Around} {s s₀ : Shared} {B : Bad} {x dx ms dl D : Addr} {mods dirs : List (List Nat)} {kn : List Nat → Option Bool} {N : Nat} {fo : Option (List Nat)} {nm : List Nat} {fv nv : Value} {R : Result → Shared → Prop}
    (hh : A.handled = none) (hdep : A.depth + 1 < recursionLimit) (huni : A.units + 10 * 1 + 200 < cLine) (hbase : s₀.heap.StaysIn s.heap) (hos : s.os = s₀.os) (hgens : s.gens = s₀.gens) (W : Wd w s₀.heap) (hB : ∀ a, B a → (s.heap.get? a).isSome)
    (hD0 : s₀.heap.get? D = none) (hBD : B D) (hR : Rdr prog w s.heap x dx ms dl D mods dirs kn N) (hN : N ≤ 1000) (hfv : Rep B s.heap fv (foD fo)) (hnv : Rep B s.heap nv (.str (S nm))) (hlm : ∀ m ∈ mods, m.length ≤ 900) (hld : ∀ m ∈ dirs, m.length ≤ 900)
    (hres : ∀ t s', NEnd prog w s s' x dx ms dl D mods dirs (updK kn nm (namesV mods dirs kn fo nm)) (N + 1) → R (.ok (.ret (.int (bi (namesV mods dirs kn fo nm)) t))) s') :
    codeAny (model prog w) A (.call (.ref 76) ⟨[.ref x, fv, nv], []⟩) R s := by
  refine call_intro (n := 0) (s1 := s) (s₀ := s₀) (bvs := [.ref x, fv, nv]) ["self", "filename", "modulename"] [] [none, some (foD fo), some (.str (S nm))] rfl rfl rfl (by kernel_rfl) hh (by omega) (by omega)
    (fun Q E q => wpAny_of_eq rfl (by exact q)) rfl (.refl s) hbase hos hgens W hB rfl (fun i d' hd => ?_) fun env S0 m vals hF r hv g hb1 hb2 hM => ?_
  · match i, hd with
    | 1, hd => cases hd; exact ⟨fv, rfl, hfv⟩
    | 2, hd => cases hd; exact ⟨nv, rfl, hnv⟩
  have R0 := r_in r (hR.keeps fun b _ o e => g.keep b o e) (fun b hb hm => by
    obtain ⟨o, e⟩ := hR.live b hb
    rw [hM b hm] at e; cases e) (hb1 D hBD)
  have hv0 : vals 0 = some (.ref x) := hv 0 _ rfl
  have hv1 : vals 1 = some fv := hv 1 _ rfl
  have hv2 : vals 2 = some nv := hv 2 _ rfl
  obtain ⟨tn, rfl⟩ := rep_str hnv
  have k0 : ∀ b o, s.heap.get? b = some o → S0.h.get? b = some o := fun b o e => g.keep b o e
  have nM0 : ∀ b o, s.heap.get? b = some o → ¬ S0.M b := fun b o e hm => by rw [hM b hm] at e; cases e
  have fin : ∀ (s1 s2 : Shared) (b : Bool), (∀ b o, b ≠ D → s.heap.get? b = some o → s1.heap.get? b = some o) → s1.os = S0.s.os → s1.gens = S0.s.gens → b = namesV mods dirs kn fo nm → (∃ t, ∀ fl, fl = Flow.ret (.int (bi b) t) → True) →
      NEnd prog w s1 s2 x dx ms dl D mods dirs (updK kn nm b) (N + 1) → NEnd prog w s s2 x dx ms dl D mods dirs (updK kn nm (namesV mods dirs kn fo nm)) (N + 1) := fun s1 s2 b hk h1 h2 hb _ ⟨a1, a2, a3, a4⟩ => by
    subst hb
    exact ⟨fun b o hb e => a1 b o hb (hk b o hb e), (a2.trans h1).trans g.os, (a3.trans h2).trans g.gens, a4⟩
  obtain ⟨es, n, e1, e2, e3, e4, e5⟩ := R0.r.dict
  obtain ⟨kvs, hd, hkN, hk⟩ := R0.r.cache
  -- known already
  refine wpAny_execs_cons (wpAny_If (wpAny_isTrue_Compare1 (load_var r rfl hv2 (get_attr r R0 rfl hv0 ⟨es, n, e1, e4⟩ (by kernel_rfl) (by kernel_rfl) (by kernel_rfl) rfl ?_))))
  refine wpAny_in_of (knd := strKind prog w) (strKind_is _ _ _ _) R0.r.sys hd.mapOf (wpAny_truthy_bool ?_)
  have g1 : Grow S0.s { S0.s with toks := S0.s.toks + 1 + 1 } := .tok _
  have hkn := hk nm
  cases hq : kn nm with
  | some b =>
    rw [hq] at hkn
    obtain ⟨t, ht⟩ := hkn
    rw [ht]
    simp only [Option.isSome_some, if_true]
    have hval : namesV mods dirs kn fo nm = b := namesV_some hq
    have r1 := r.grow g1
    have R1 := R0.grow g1
    refine wpAny_execs_cons (wpAny_Return_some (Subscript_ (get_attr r1 R1 rfl hv0 ⟨es, n, e1, e4⟩ (by kernel_rfl) (by kernel_rfl) (by kernel_rfl) rfl ?_)))
    have g2 := g1.trans (Grow.tok (s := { S0.s with toks := S0.s.toks + 1 + 1 }) (S0.s.toks + 1 + 1 + 1))
    refine load_var (r.grow g2) rfl hv2 ?_
    refine tail_any hd.typeIs slot_dict_getitem.lookup (wpAny_getItem_of (knd := strKind prog w) (strKind_is _ _ _ _) hd.mapOf ht ?_) (sub_plain rfl _ _)
    subst hval
    refine hres t _ ⟨fun b o _ e => k0 b o e, g.os, g.gens, (R0.r.congrK (fun l => ?_) (Nat.le_succ _)).keeps fun b _ o e => e⟩
    unfold updK
    by_cases hl : l = nm
    · rw [if_pos hl, hl, hq]
    · rw [if_neg hl]
  | none =>
    rw [hq] at hkn
    rw [show valueAt kvs (S nm) = none from hkn]
    simp only [Option.isSome_none, Bool.false_eq_true, if_false]
    refine wpAny_execs_nil ?_
    have r1 := r.grow g1
    have R1 := R0.grow g1
    have hval := namesV_none (mods := mods) (dirs := dirs) (fo := fo) hq
    obtain ⟨nS, hnS, hms⟩ := R0.r.mods
    refine wpAny_execs_cons (wpAny_If (wpAny_isTrue_Compare1 (load_var r1 rfl hv2 (get_attr r1 R1 rfl hv0 ⟨es, n, e1, e2⟩ (by kernel_rfl) (by kernel_rfl) (by kernel_rfl) rfl ?_))))
    refine wpAny_inSet_of (knd := strKind prog w) (strKind_is _ _ _ _) rfl hms.setOf (wpAny_truthy_bool ?_)
    rw [contains_S]
    have g2 : Grow S0.s { S0.s with toks := S0.s.toks + 1 + 1 + 1 + 1 } := .tok _
    have r2 := r.grow g2
    have R2 := R0.grow g2
    cases hc : mods.contains nm with
    | true =>
      simp only [if_true]
      refine wpAny_mono (names_put (b := true) rfl hN r2 R2 rfl hv0 rfl rfl rfl (by kernel_rfl) (by kernel_rfl) (by kernel_rfl) rfl rfl) (fun fl s' q => ?_) fun _ _ f => f
      obtain ⟨t, rfl, hE⟩ := q
      have hb : true = namesV mods dirs kn fo nm := by rw [hval, hc]; rfl
      have := fin _ s' true (fun b o _ e => k0 b o e) rfl rfl hb ⟨t, fun _ _ => trivial⟩ hE
      rw [hb]
      exact hres t s' this
    | false =>
      simp only [Bool.false_eq_true, if_false]
      refine wpAny_execs_nil ?_
      refine wpAny_execs_cons (wpAny_For (get_attr r2 R2 rfl hv0 ⟨es, n, e1, e2⟩ (by kernel_rfl) (by kernel_rfl) (by kernel_rfl) rfl ?_) (by intro _; rfl))
      refine setiter_start hms hnS fun seq I T h' dr hk' hI hT hTl hit hs1 hs2 => ?_
      have g3 : Grow S0.s { S0.s with heap := h', drawn := dr, toks := S0.s.toks + 1 + 1 + 1 + 1 + 1 } := ⟨hk', rfl, rfl⟩
      have hIo : ∃ o, h'.get? I = some o := let ⟨_, _, _, _, _, e, _⟩ := hit; ⟨_, e⟩
      obtain ⟨r3, T3⟩ := r.bad (W := fun b => b = I) g3 (fun b hb => by subst hb; exact ⟨hI, hIo⟩)
      have R3 := R0.tr T3
      have nMI : ¬ S0.M I := r.nM hI
      have nMT : ¬ S0.M T := r.nM hT
      have hmso : ∃ o, S0.h.get? ms = some o := R0.r.live ms (by simp)
      have hI0 : s₀.heap.get? I = none := by
        cases e : s₀.heap.get? I with
        | none => rfl
        | some o => have := k0 I o (hbase I o e); rw [hI] at this; cases this
      obtain ⟨ls, hl1, hl2, hl3, hl4⟩ := pick_list' (p := fun l => l ∈ mods) seq (fun v hv => by
        obtain ⟨x', t, rfl, hS⟩ := hs1 v hv
        obtain ⟨l, hl, rfl⟩ := List.mem_map.mp (List.contains_iff_mem.mp hS)
        exact ⟨_, t, rfl, l, rfl, hl⟩)
      have hany : ls.any (fun m => (m ++ [46]).isPrefixOf nm) = mods.any (fun m => (m ++ [46]).isPrefixOf nm) := by
        rw [Bool.eq_iff_iff, List.any_eq_true, List.any_eq_true]
        constructor
        · rintro ⟨l, hl, h⟩; exact ⟨l, hl3 l hl, h⟩
        · rintro ⟨l, hl, h⟩
          obtain ⟨t, ht⟩ := hs2 (S l) (List.contains_iff_mem.mpr (List.mem_map.mpr ⟨l, hl, rfl⟩))
          exact ⟨l, hl4 l t ht, h⟩
      have hneI : ∀ b ∈ [x, dx, ms, dl, D], b ≠ I := fun b hb q => by
        obtain ⟨o, e⟩ := R0.r.live b hb
        rw [q, hI] at e; cases e
      refine loop_gen (P := fun i S => SetIter w S.h I ms T seq i ∧ S.B I ∧ ¬ S.M I ∧ (∃ o, S.h.get? T = some o) ∧ ¬ S.M T ∧ ¬ S.M ms ∧ (∃ o, S.h.get? ms = some o)) (ls := ls) (fun m => (m ++ [46]).isPrefixOf nm) r3 R3 (hF.kd (by kernel_rfl)) (by kernel_rfl)
        (fun i S S' ⟨a1, a2, a3, ⟨o4, a4⟩, a5, a6, ⟨o7, a7⟩⟩ T' => ?_) (fun i S ⟨⟨_, _, _, _, _, e, _⟩, _⟩ => ⟨_, e, fun v q => by cases q⟩)
        (fun i S l Q hl ⟨a1, a2, a3, a4, a5, a6, a7⟩ hQ => ?_) (fun S Q ⟨a1, a2, a3, a4, a5, a6, a7⟩ hQ => ?_)
        (.inr rfl) nMI hI0 hneI ⟨hit, .inr rfl, nMI, hTl, nMT, R0.nm ms (by simp), let ⟨o, e⟩ := hmso; ⟨o, hk' _ _ e⟩⟩
        (fun S1 m1 l t r1' hm1 hl => ?_) (fun S1 m1 r1' R1' hkp hos' hgn' hMe hp => ?_) (fun S1 m1 r4 R4 hkp4 hos4 hgn4 hMe hp => ?_)
      · obtain ⟨oI, hoI⟩ : ∃ o, S.h.get? I = some o := let ⟨_, _, _, _, _, e, _⟩ := a1; ⟨_, e⟩
        refine ⟨a1.at' fun b hb o e => T'.keep b o (by rcases hb with rfl | rfl | rfl <;> assumption) e, T'.bkeep I oI a2 a3 hoI, fun q => (T'.msub I q).elim a3 fun z => (by rw [z] at hoI; cases hoI), ⟨o4, T'.keep _ _ a5 a4⟩, fun q => (T'.msub T q).elim a5 fun z => (by rw [z] at a4; cases a4), fun q => (T'.msub ms q).elim a6 fun z => (by rw [z] at a7; cases a7), ⟨o7, T'.keep _ _ a6 a7⟩⟩
      · obtain ⟨t, ht⟩ := hl2 i l hl
        refine setiter_item a1 (hneI ms (by simp)) ht fun h2 hit2 hsb => hQ h2 t ⟨hit2, a2, a3, ?_, a5, a6, ?_⟩ hsb
        · by_cases q : T = I
          · obtain ⟨_, _, _, _, _, e, _⟩ := hit2; exact ⟨_, q ▸ e⟩
          · obtain ⟨o, e⟩ := a4; exact ⟨o, (hsb.2 T q).trans e⟩
        · obtain ⟨o, e⟩ := a7; exact ⟨o, (hsb.2 ms (hneI ms (by simp))).trans e⟩
      · exact setiter_end hh a1 hl1.symm hQ
      · exact starts_test r1' (i := 2) rfl hv2 (hF.kd (by kernel_rfl)) (by kernel_rfl) hm1 (hlm l (hl3 l hl)) rfl rfl fun Q E hQ => wpAny_Constant_str (hQ _ _ (.tok _))
      · refine wpAny_mono (names_put (b := true) rfl hN r1' R1' rfl hv0 rfl rfl rfl (by kernel_rfl) (by kernel_rfl) (by kernel_rfl) rfl rfl) (fun fl s' q => ?_) fun _ _ f => f
        obtain ⟨t, rfl, hE⟩ := q
        have hb : true = namesV mods dirs kn fo nm := by rw [hval, ← hany, hp]; simp
        have := fin _ s' true (fun b o _ e => hkp b o (fun q => by rw [q] at e; have := k0 I o e; rw [hI] at this; cases this) (nM0 b o e) (hk' b o (k0 b o e))) hos' hgn' hb ⟨t, fun _ _ => trivial⟩ hE
        refine ⟨_, rfl, ?_⟩
        rw [hb]
        exact hres t s' this
      · dsimp only
        rw [hany] at hp
        have kk4 : ∀ b o, s.heap.get? b = some o → S1.h.get? b = some o := fun b o e => hkp4 b o (fun q => by rw [q] at e; have := k0 I o e; rw [hI] at this; cases this) (nM0 b o e) (hk' b o (k0 b o e))
        cases fo with
        | none =>
          cases hfv
          refine wpAny_execs_cons (wpAny_If (wpAny_isTrue_Compare1 (load_var r4 rfl hv1 (wpAny_Constant_none (is_none_none (wpAny_truthy_bool ?_))))))
          simp only [if_true]
          refine wpAny_mono (names_put (b := true) rfl hN r4 R4 rfl hv0 rfl rfl rfl (by kernel_rfl) (by kernel_rfl) (by kernel_rfl) rfl rfl) (fun fl s' q => ?_) fun _ _ f => f
          obtain ⟨t, rfl, hE⟩ := q
          have hb : true = namesV mods dirs kn none nm := by rw [hval]; simp [foB]
          have := fin _ s' true (fun b o _ e => kk4 b o e) hos4 hgn4 hb ⟨t, fun _ _ => trivial⟩ hE
          show R _ _
          rw [hb]
          exact hres t s' this
        | some p =>
          obtain ⟨tf, rfl⟩ := rep_str hfv
          refine wpAny_execs_cons (wpAny_If (wpAny_isTrue_Compare1 (load_var r4 rfl hv1 (wpAny_Constant_none (is_str_none (wpAny_truthy_bool ?_))))))
          simp only [Bool.false_eq_true, if_false]
          refine wpAny_execs_nil ?_
          obtain ⟨es4, n4, f1, f2, f3, f4, f5⟩ := R4.r.dict
          obtain ⟨us, hpl, hst⟩ := R4.r.dirs
          obtain ⟨hul, hug⟩ := strs_get hst
          refine wpAny_execs_cons (wpAny_For (get_attr r4 R4 rfl hv0 ⟨es4, n4, f1, f3⟩ (by kernel_rfl) (by kernel_rfl) (by kernel_rfl) rfl ?_) (by intro _; rfl))
          have g5 : Grow S1.s { S1.s with toks := S1.s.toks + 1 } := .tok _
          refine wpAny_pyIter_list hpl.isList ?_
          have g6 : Grow S1.s { S1.s with heap := S1.s.heap.push { cls := .type "list_iterator", data := .fields #[.ref dl, .int 0 0] }, toks := S1.s.toks + 1 } := ⟨fun b o e => Heap.get?_push_of_some _ e, rfl, rfl⟩
          have hJ := fresh_none S1.s.heap
          obtain ⟨r6, T6⟩ := r4.bad (W := fun b => b = S1.s.heap.objs.size) g6 (fun b hb => by subst hb; exact ⟨hJ, _, Heap.get?_push_size _ rfl⟩)
          have R6 := R4.tr T6
          have nMJ : ¬ S1.M S1.s.heap.objs.size := r4.nM hJ
          have hJ0 : s₀.heap.get? S1.s.heap.objs.size = none := by
            cases e : s₀.heap.get? S1.s.heap.objs.size with
            | none => rfl
            | some o => have := kk4 _ o (hbase _ o e); rw [show S1.h.get? S1.s.heap.objs.size = none from hJ] at this; cases this
          have hneJ : ∀ b ∈ [x, dx, ms, dl, D], b ≠ S1.s.heap.objs.size := fun b hb q => by
            obtain ⟨o, e⟩ := R4.r.live b hb
            rw [q, show S1.h.get? S1.s.heap.objs.size = none from hJ] at e; cases e
          have hdlJ := hneJ dl (by simp)
          refine loop_gen (I := S1.s.heap.objs.size) (P := fun i S => S.h.IsListIter S1.s.heap.objs.size dl i ∧ S.B S1.s.heap.objs.size ∧ ¬ S.M S1.s.heap.objs.size ∧ S.h.PlainList dl us ∧ ¬ S.M dl) (ls := dirs) (fun m => (m ++ [47]).isPrefixOf p) r6 R6 (hF.kd (by kernel_rfl)) (by kernel_rfl)
            (fun i S S' ⟨a1, a2, a3, ⟨na, a4⟩, a5⟩ T' => ?_) (fun i S ⟨⟨o, e, _, e2⟩, _⟩ => ⟨_, e, fun v q => by rw [e2] at q; cases q⟩)
            (fun i S l Q hl ⟨a1, a2, a3, ⟨na, a4⟩, a5⟩ hQ => ?_) (fun S Q ⟨a1, a2, a3, a4, a5⟩ hQ => ?_)
            (.inr rfl) nMJ hJ0 hneJ ⟨⟨_, Heap.get?_push_size _ rfl, rfl, rfl⟩, .inr rfl, nMJ, let ⟨na, e⟩ := hpl; ⟨na, Heap.get?_push_of_some _ e⟩, R4.nm dl (by simp)⟩
            (fun S7 m7 l t r7 hm7 hl => ?_) (fun S7 m7 r7 R7 hkp7 hos7 hgn7 hMe7 hp7 => ?_) (fun S7 m7 r7 R7 hkp7 hos7 hgn7 hMe7 hp7 => ?_)
          · obtain ⟨o, e, q⟩ := a1
            exact ⟨⟨o, T'.keep _ _ a3 e, q⟩, T'.bkeep _ o a2 a3 e, fun q => (T'.msub _ q).elim a3 fun z => (by rw [z] at e; cases e), ⟨na, T'.keep _ _ a5 a4⟩, fun q => (T'.msub _ q).elim a5 fun z => (by rw [z] at a4; cases a4)⟩
          · obtain ⟨t, ht⟩ := hug i l hl
            refine wpAny_pyNext_list_item a1 (Heap.PlainList.isList ⟨na, a4⟩) (by simpa using ht) fun h2 hit2 hsb => hQ h2 t ⟨hit2, a2, a3, ⟨na, (hsb.2 dl hdlJ).trans a4⟩, a5⟩ hsb
          · exact wpAny_pyNext_list_end hh a1 a4.isList (by rw [← hul]; simp) hQ
          · obtain ⟨ts, hsep⟩ := glb_str_r r7 (x := "sep") (y := S [47]) (hF.kd (by kernel_rfl)) (by kernel_rfl) (by kernel_rfl)
            exact starts_test r7 (i := 1) rfl hv1 (hF.kd (by kernel_rfl)) (by kernel_rfl) hm7 (hld l hl) rfl rfl fun Q E hQ => load_glob r7 hsep (hQ _ _ (.refl _))
          · refine wpAny_mono (names_put (b := true) rfl hN r7 R7 rfl hv0 rfl rfl rfl (by kernel_rfl) (by kernel_rfl) (by kernel_rfl) rfl rfl) (fun fl s' q => ?_) fun _ _ f => f
            obtain ⟨t, rfl, hE⟩ := q
            have hb : true = namesV mods dirs kn (some p) nm := by rw [hval]; simp only [foB]; rw [hp7]; simp
            have := fin _ s' true (fun b o _ e => hkp7 b o (fun q => by have := kk4 b o e; rw [q, show S1.h.get? S1.s.heap.objs.size = none from hJ] at this; cases this) (by rw [hMe]; exact nM0 b o e) (Heap.get?_push_of_some _ (kk4 b o e))) (hos7.trans hos4) (hgn7.trans hgn4) hb ⟨t, fun _ _ => trivial⟩ hE
            refine ⟨_, rfl, ?_⟩
            show R _ _
            rw [hb]
            exact hres t s' this
          · dsimp only
            refine wpAny_mono (names_put (b := false) rfl hN r7 R7 rfl hv0 rfl rfl rfl (by kernel_rfl) (by kernel_rfl) (by kernel_rfl) rfl rfl) (fun fl s' q => ?_) fun _ _ f => f
            obtain ⟨t, rfl, hE⟩ := q
            have hb : false = namesV mods dirs kn (some p) nm := by rw [hval, hc, hp]; simp only [foB]; rw [hp7]; rfl
            have := fin _ s' false (fun b o _ e => hkp7 b o (fun q => by have := kk4 b o e; rw [q, show S1.h.get? S1.s.heap.objs.size = none from hJ] at this; cases this) (by rw [hMe]; exact nM0 b o e) (Heap.get?_push_of_some _ (kk4 b o e))) (hos7.trans hos4) (hgn7.trans hgn4) hb ⟨t, fun _ _ => trivial⟩ hE
            show R _ _
            rw [hb]
            exact hres t s' this
end Mine
open PySem PySem.Spec PySem.Calls PySem.W PyProof.Rows
set_option Elab.async false
set_option maxRecDepth 100000
set_option maxHeartbeats 2000000
set_option linter.unusedVariables false
namespace Mine
theorem weight_tc (x : List Value) (kw : List (Str × Value)) : (Code.builtin "type.__call__" ⟨.ref 79 :: x, kw⟩).weight = 1 := by kernel_rfl
theorem units_tc (x : List Value) (kw : List (Str × Value)) : (Code.builtin "type.__call__" ⟨.ref 79 :: x, kw⟩).cUnits = 1 := by kernel_rfl
section
variable {prog : Program} {w : World} {A : Around} {E : Value → Shared → Prop} {s : Shared} {K : Frag} {x C dx : Addr} {ox : Obj} {es : List DictEntry} {n : Nat} {name : Str} {v : Value}
/-- an attribute stored in the own dict of an object -/
theorem set_raw {Q : Unit → Shared → Prop} (X : K.In s.heap) (I : InstAt s.heap x ox C (some (dictOf es n))) (hd : ox.dict = some dx)
    (hs : findIn K (.ref C) "__setattr__" = some (some (.builtin "object.__setattr__"))) (hp : plainOver K C = true) (ht : takerIn K C name = some none) (hh : hasDictIn K C = true) (hl : (getL name es).isSome = true) (hz : (putL name (PyData.keyHash w.params name) (.str name (s.toks + 1)) v es).length ≤ 1000)
    (h : ∀ h' tk, Heap.SameBut dx s.heap h' → h'.get? dx = some (dictOf (putL name (PyData.keyHash w.params name) (.str name (s.toks + 1)) v es) (putN name es n)) → Q () { s with heap := h', toks := tk }) :
    wpAny (model prog w) A (setAttr (.ref x) name v) Q E s := by
  obtain ⟨hp0, g, d, tk, os⟩ := s
  refine set_plain X I hs (osa_open (s := ⟨hp0, g, d, tk + 1, os⟩) X I hp ht fun b => ?_)
  obtain ⟨cd, hc, hd'⟩ := any_some hh
  obtain ⟨hx, hcl, hn, D⟩ := I
  obtain ⟨oc, odi, oda, osl⟩ := ox
  dsimp only at hcl hd
  subst hcl hd
  have D : hp0.get? dx = some (dictOf es n) := D
  refine wpAny_bind (wpAny_pure (wpAny_bind (wpAny_bind (wpAny_loadPart hx (wpAny_bind ((looks_clsIn X hc).at ?_))))))
  rw [hd']
  refine wpAny_pure (a := some dx) (wpAny_bind (wpAny_pure (wpAny_bind ?_)))
  unfold nsSet
  refine wpAny_bind (wpAny_bind (wpAny_askSetting (wpAny_pure (wpAny_bind (wpAny_mkText (wpAny_bind (wpAny_loadPart D ?_)))))))
  have c : (!es.toArray.any (·.key.isStr name) && es.toArray.any (·.refKey)) = false := by
    rw [← Array.any_toList, ← Array.any_toList]
    unfold getL at hl
    split at hl
    · rename_i en he
      rw [List.any_eq_true.mpr ⟨en, List.mem_of_find?_eq_some he, List.find?_some he⟩]; rfl
    · split at hl
      · cases hl
      · rename_i z; rw [Bool.not_eq_true] at z; rw [z, Bool.and_false]
  have D' : (hp0.update dx (Obj.putName name (PyData.keyHash w.params name) (.str name (tk + 1)) v)).get? dx = some (dictOf (putL name (PyData.keyHash w.params name) (.str name (tk + 1)) v es) (putN name es n)) := by
    have := Heap.get?_update_self (Obj.putName name (PyData.keyHash w.params name) (.str name (tk + 1)) v) D (by rw [putName_dict]; rfl)
    rw [this, putName_dict]
  have hz' : (putL name (PyData.keyHash w.params name) (.str name (tk + 1)) v es).length ≤ 1000 := hz
  dsimp only [dictOf]
  rw [aRefKeyMayBeTheName_at, c]
  refine wpAny_updatePart D ?_
  refine wpAny_bind (wpAny_lookBehind D' (pastItsLine_dict (by rw [List.size_toArray, sizeLine_eq]; omega)) ?_)
  exact wpAny_pure (h _ _ (Heap.SameBut.update _ dx _) D')
end
section
variable {X : Fx} {σ σ1 σ2 σ3 : Sg} {pos p2 p3 : Pos} {k : Nat}
theorem tt_listD {e : Expr} {ds : List PyData} (h : Ev X e σ (.list ds) σ1) (hl : ds.length ≤ 10000) (he : ∀ env whole, isTrue e env whole = (do let v ← whole; standAt e.pos; holding [v] (truthy v)) := by intros; rfl) : Tt X e σ (!ds.isEmpty) σ1 := .of fun S0 m vals R =>
  wpAny_isTrue_value (wpAny_mono (h.go S0 m vals R) (fun v s1 q => by
    obtain ⟨S1, rfl, R1, T1, r1⟩ := q
    obtain ⟨a, vs, rfl, _, pl, rs⟩ := rep_list r1
    have hq := rs.length
    rw [Array.length_toList] at hq
    refine wpAny_truthy_list pl.isList (by omega) ?_
    refine ⟨⟨_, S1.M, S1.B⟩, rfl, R1.grow (.tok _), T1.trans (Grow.tr R1.sub (.tok _)), ?_⟩
    cases ds with
    | nil =>
      have : vs = #[] := Array.eq_empty_of_size_eq_zero (by simpa using hq)
      rw [this]; rfl
    | cons d ds =>
      have : vs.isEmpty = false := by
        rw [Array.isEmpty_eq_false_iff]
        intro e; rw [e] at hq; simp at hq
      rw [this]; rfl) fun _ _ f => f) (he _ _)
/-- the dict of a new object changes -/
theorem RelV.upd {S0 : St} {m : Str → Option Value} {vals : Nat → Option Value} (r : RelV X σ S0 m vals) {d : Addr} {h' : Heap} {tk : Nat} (hs : Heap.SameBut d S0.h h') (hB : S0.B d) (hM : ¬ S0.M d) (h0 : X.s₀.heap.get? d = none) (ho : ∃ o, S0.h.get? d = some o ∧ ∀ v, o.data ≠ .cell v) (ho' : ∃ o, h'.get? d = some o ∧ ∀ v, o.data ≠ .cell v) :
    RelV X σ ⟨{ S0.s with heap := h', toks := tk }, S0.M, S0.B⟩ m vals :=
  r.kb (W := fun b => b = d) (s' := { S0.s with heap := h', toks := tk }) ⟨fun b o hb e => (hs.2 b hb).trans e, fun b hb => by subst hb; exact ho', rfl, rfl⟩ (fun b hb => by subst hb; exact ⟨hB, hM, ho⟩) (fun b hb => by subst hb; exact h0)
end
/-- a name as _law_places makes it, with its path -/
noncomputable def NmOK (l : List Nat) : Prop := ∃ cs : List (List Nat), cs ≠ [] ∧ (∀ c ∈ cs, c ≠ [] ∧ ∀ x ∈ c, x = 97) ∧ (cs.map List.length).sum + cs.length ≤ 500 ∧ slash l = jn cs ∧ (jn cs).length ≤ 900 ∧ pathB l = 47 :: jn (cs ++ [[98], [46, 46]]) ∧ (jn (cs ++ [[98], [46, 46]])).length ≤ 900
variable {prog : Program} {w : World}
theorem fn_normB {l : List Nat} (h : NmOK l) : Fn prog w 56 [.str (S (pathB l))] (.str (S (47 :: slash l))) 4 := by
  obtain ⟨cs, h1, h2, h3, h4, h5, h6, h7⟩ := h
  rw [h4, h6]
  exact fn_normpathV h1 h2 h3 h7 h5
end Mine
open PySem PySem.Spec PySem.Calls PySem.W PyProof.Rows
set_option Elab.async false
set_option maxRecDepth 100000
set_option maxHeartbeats 2000000
set_option linter.unusedVariables false
namespace Mine
section
variable {X : Fx} {σ σ1 σ2 σ3 : Sg} {S0 : St} {m : Str → Option Value} {vals : Nat → Option Value}
theorem strD_get {B : Bad} {h : Heap} {vs : List Value} {ns : List (List Nat)} (r : RepAll B h vs (strD ns)) : ∀ (i : Nat) v, vs[i]? = some v → ∃ x t, v = .str x t ∧ (ns.map S)[i]? = some x := fun i v hv => by
  obtain ⟨d, hd, rd⟩ := r.get' hv
  rw [strD, List.getElem?_map] at hd
  cases hn : ns[i]? with
  | none => rw [hn] at hd; cases hd
  | some l =>
    rw [hn] at hd; cases hd
    obtain ⟨t, rfl⟩ := rep_str rd
    exact ⟨_, t, rfl, by rw [List.getElem?_map, hn]; rfl⟩
/-- set() if not y else set(y) -/
theorem eval_mods {i : Nat} {y : Str} {ns : List (List Nat)} {q1 q2 q3 q4 q5 q6 q7 q8 : Pos} (r : RelV X σ S0 m vals) (hx : X.tbl[i]? = some y) (hs : σ.at i = some (.fro (.list (strD ns)))) (hl : ns.length ≤ 900) (hb : Blt X "set" (.type "set")) :
    wpAny (model X.prog X.w) X.A (eval (.IfExp (.UnaryOp .Not (.Name y q1) q2) (.Call (.Name "set" q3) [] [] q4) (.Call (.Name "set" q5) [.Name y q6] [] q7) q8) X.env)
      (fun v s' => ∃ S' a n, S'.s = s' ∧ v = .ref a ∧ RelV X σ S' m vals ∧ Tr S0 S' ∧ n ≤ 1000 ∧ S0.h.get? a = none ∧ ¬ S'.M a ∧ StrSet X.prog X.w S'.h a (fun k => (ns.map S).contains k) n) (fun _ _ => False) S0.s := by
  have hsl : (10000 : Nat) ≤ sizeLine := by decide
  refine wpAny_IfExp (wpAny_mono (Tt.run (tt_not (tt_listD (ev_name i hx hs) (by simp [strD]; omega))) r) (fun b s1 q => ?_) fun _ _ f => f)
  obtain ⟨S1, rfl, r1, T1, rfl⟩ := q
  have hfr : S0.h.get? S1.s.heap.objs.size = none := T1.free (fresh_none _)
  cases ns with
  | nil =>
    simp only [strD, List.map_nil, List.isEmpty_nil, Bool.not_true, Bool.not_false, if_true]
    refine tree_Call_Name (load_blt r1 hb (PySem.callWith_type rfl (args_of evs_nil r1 rfl fun vs S2 r2 T2 q => ?_)))
    cases q
    refine call_set_none ?_
    have g : Grow S2.s { S2.s with heap := S2.s.heap.push (freshSet X.w) } := .push _
    exact ⟨⟨_, S2.M, S2.B⟩, _, 0, rfl, rfl, r2.grow g, (T1.trans T2).trans (g.tr r2.sub), by omega, (T1.trans T2).free (fresh_none _), r2.nM (fresh_none _), (freshSet_is (prog := X.prog) (Heap.get?_push_size _ rfl)).congr (fun k => by simp) rfl⟩
  | cons n0 ns =>
    simp only [strD, List.map_cons, List.isEmpty_cons, Bool.not_false, Bool.not_true, Bool.false_eq_true, if_false]
    refine tree_Call_Name (load_blt r1 hb (PySem.callWith_type rfl (args_of (evs_cons (ev_name i hx hs) evs_nil) r1 rfl fun vs S2 r2 T2 q => ?_)))
    obtain ⟨v, rfl, rv⟩ := one_of q
    obtain ⟨a, us, rfl, _, pl, rs⟩ := rep_list rv
    have hlen := rs.length
    rw [Array.length_toList] at hlen
    have hlen' : us.size = (n0 :: ns).length := by rw [hlen]; simp [strD]
    refine call_set_strs (ns := (n0 :: ns).map S) r2.ok.hh pl.isList (by rw [hlen']; simp) (fun i v hv => strD_get rs i v (by simpa using hv)) (by rw [hlen']; unfold scanBound; omega) fun h' tk n hn hS hk => ?_
    have g : Grow S2.s { S2.s with heap := h', toks := tk } := ⟨hk, rfl, rfl⟩
    exact ⟨⟨_, S2.M, S2.B⟩, _, n, rfl, rfl, r2.grow g, (T1.trans T2).trans (g.tr r2.sub), by omega, (T1.trans T2).free (fresh_none _), r2.nM (fresh_none _), hS⟩
/-- {'..': 1} -/
theorem eval_dict1 {k : List Nat} {y : Str} {c : Int} {b : Bool} {q1 q2 q3 : Pos} {k1 k2 : Nat} (r : RelV X σ S0 m vals) (hy : y = S k) (hc : c = bi b) :
    wpAny (model X.prog X.w) X.A (eval (.Dict [some (.Constant (.str y) k1 q1)] [.Constant (.int c) k2 q2] q3) X.env)
      (fun v s' => ∃ S' t, S'.s = s' ∧ v = .ref S0.s.heap.objs.size ∧ RelV X σ S' m vals ∧ Grow S0.s S'.s ∧ S'.M = S0.M ∧ S'.B = S0.B ∧ S'.h.DictOf (strKind X.prog X.w) S0.s.heap.objs.size [(S k, .int (bi b) t)]) (fun _ _ => False) S0.s := by
  subst hy hc
  refine wpAny_Dict_pairs (knd := strKind X.prog X.w) (pairs := [(eval (.Constant (.str (S k)) k1 q1) X.env, do let x ← eval (.Constant (.int (bi b)) k2 q2) X.env; standAt q3; pure x)]) rfl (by simp) (by simp) ?_
  refine evalPairs_cons (wpAny_Constant_str (wpAny_bind (wpAny_Constant_int (wpAny_bind (wpAny_standAt (wpAny_pure (evalPairs_nil ?_)))))))
  refine ⟨[(S k, .int (bi b) (S0.s.toks + 1))], ⟨strKind_is _ _ _ _, rfl, trivial⟩, Heap.DictOf.new _, fun h' hd hs => ?_⟩
  have g : Grow S0.s { S0.s with heap := h', toks := S0.s.toks + 1 + 1 + 1 } := ⟨fun b o e => (hs.2 b (Nat.ne_of_lt (Heap.lt_size e))).trans (Heap.get?_push_of_some _ e), rfl, rfl⟩
  exact ⟨⟨_, S0.M, S0.B⟩, _, rfl, rfl, r.grow g, g, rfl, rfl, by simpa [merged, stored] using hd⟩
end
end Mine
open PySem PySem.Spec PySem.Calls PySem.W PyProof.Rows
set_option Elab.async false
set_option maxRecDepth 100000
set_option maxHeartbeats 2000000
set_option linter.unusedVariables false
namespace Mine
noncomputable def kn0 : List Nat → Option Bool := fun l => if l = [60, 115, 116, 114, 105, 110, 103, 62] then some true else none
theorem putL_le (name : Str) (hsh : Int) (key v : Value) : ∀ es : List DictEntry, (putL name hsh key v es).length ≤ es.length + 1
  | [] => by simp [putL]
  | e :: es => by
    unfold putL
    split
    · simp
    · simpa using putL_le name hsh key v es
theorem filt_map {α : Type} (xs : List α) (f : α → PyData) : (xs.map fun x => some (f x)).filterMap id = xs.map f := map_some xs f
theorem call_init {prog : Program} {w : World} {A : Around} {s s₀ : Shared} {B : Bad} {x dx : Addr} {ns ds : List (List Nat)} {mv dv : Value} {R : Result → Shared → Prop}
    (hh : A.handled = none) (hdep : A.depth + 6 < recursionLimit) (huni : A.units + 10 * 6 + 200 < cLine) (hbase : s₀.heap.StaysIn s.heap) (hos : s.os = s₀.os) (hgens : s.gens = s₀.gens) (W : Wd w s₀.heap) (hB : ∀ a, B a → (s.heap.get? a).isSome)
    (hx0 : s₀.heap.get? x = none) (hd0 : s₀.heap.get? dx = none) (hBx : B x) (hBd : B dx) (hne : x ≠ dx) (hx : s.heap.get? x = some (instObj 79 dx)) (hd : s.heap.get? dx = some (dictOf [] 0))
    (hmv : Rep B s.heap mv (.list (strD ns))) (hdv : Rep B s.heap dv (.list (strD (ds.map pathB)))) (hln : ns.length ≤ 900) (hld : ds.length ≤ 900) (hok : ∀ d ∈ ds, NmOK d)
    (hres : ∀ s' ms dl D, (∀ b o, b ≠ dx → s.heap.get? b = some o → s'.heap.get? b = some o) → s'.os = s.os → s'.gens = s.gens → s.heap.get? ms = none → ¬ B dl → s.heap.get? D = none → Rdr prog w s'.heap x dx ms dl D ns (ds.map fun l => 47 :: slash l) kn0 1 → R (.ok (.ret .none)) s') :
    codeAny (model prog w) A (.call (.ref 69) ⟨[.ref x, mv, dv], []⟩) R s := by
  refine call_intro (n := 5) (s1 := s) (s₀ := s₀) (bvs := [.ref x, mv, dv]) ["self", "modules", "dirs"] [] [none, some (.list (strD ns)), some (.list (strD (ds.map pathB)))] rfl rfl rfl (by kernel_rfl) hh (by omega) (by omega)
    (fun Q E q => (Looks.of_peek (M := model prog w) (W.keeps hbase).K (by kernel_rfl)).here q) rfl (.refl s) hbase hos hgens W hB rfl (fun i d' hd => ?_) fun env S0 m vals hF r hv g hb1 hb2 hM => ?_
  · match i, hd with
    | 1, hd => cases hd; exact ⟨mv, rfl, hmv⟩
    | 2, hd => cases hd; exact ⟨dv, rfl, hdv⟩
  have hv0 : vals 0 = some (.ref x) := hv 0 _ rfl
  have nM0 : ∀ b o, s.heap.get? b = some o → ¬ S0.M b := fun b o e hm => by rw [hM b hm] at e; cases e
  -- self._mods
  refine wpAny_execs_cons (plainObj_wpAny_Assign_Attribute ?_ rfl)
  refine wpAny_mono (eval_mods (i := 1) r rfl rfl hln (blt_of (hF.kd (by kernel_rfl)) (by kernel_rfl) (by kernel_rfl) (by kernel_rfl))) (fun v s1 q => ?_) fun _ _ f => f.elim
  obtain ⟨S1, ms, n1, rfl, rfl, r1, T1, hn1, hms0, hmsM, hmsS⟩ := q
  refine load_var r1 rfl hv0 ?_
  have x1 : S1.h.get? x = some (instObj 79 dx) := T1.keep _ _ (nM0 _ _ hx) (g.keep _ _ hx)
  have d1 : S1.h.get? dx = some (dictOf [] 0) := T1.keep _ _ (nM0 _ _ hd) (g.keep _ _ hd)
  have B1 : S1.B dx := T1.bkeep _ _ (hb1 _ hBd) (nM0 _ _ hd) (g.keep _ _ hd)
  have M1 : ¬ S1.M dx := fun q => (T1.msub _ q).elim (nM0 _ _ hd) fun z => by rw [show S0.h.get? dx = some _ from g.keep _ _ hd] at z; cases z
  have nc : ∀ es n v, (dictOf es n).data ≠ .cell v := fun es n v q => by cases q
  have msne : ms ≠ dx := fun q => by rw [q, show S0.h.get? dx = some _ from g.keep _ _ hd] at hms0; cases hms0
  refine set_raw (K := Mine.heapK w.params) r1.rel.wd.K ⟨x1, rfl, rfl, d1⟩ rfl (by kernel_rfl) (by kernel_rfl) (by kernel_rfl) (by kernel_rfl) (by kernel_rfl) (by simp [putL]) fun h2 tk2 hs2 d2 => ?_
  have r2 := r1.upd (tk := tk2) hs2 B1 M1 hd0 ⟨_, d1, nc _ _⟩ ⟨_, d2, nc _ _⟩
  have x2 : h2.get? x = some (instObj 79 dx) := (hs2.2 _ hne).trans x1
  have ms2 : StrSet prog w h2 ms (fun k => (ns.map S).contains k) n1 := hmsS.at' fun o e => (hs2.2 _ msne).trans e
  have k2 : ∀ b o, b ≠ dx → s.heap.get? b = some o → h2.get? b = some o := fun b o hb e => (hs2.2 _ hb).trans (T1.keep b o (nM0 b o e) (g.keep b o e))
  have kB2 : ∀ b, B b → S1.B b := fun b hb => by
    obtain ⟨o, e⟩ := Option.isSome_iff_exists.mp (hB b hb)
    exact T1.bkeep b o (hb1 b hb) (nM0 b o e) (g.keep b o e)
  -- self._dirs
  refine wpAny_execs_cons (plainObj_wpAny_Assign_Attribute ?_ rfl)
  have hsl : (1000 : Nat) ≤ sizeLine := by decide
  refine wpAny_mono (Ev.run (σ1 := [none, some (.fro (.list (strD ns))), some (.fro (.list (strD (ds.map pathB))))]) (ev_ifexp (d := .list (strD (ds.map fun l => 47 :: slash l))) (b := !(!(strD (ds.map pathB)).isEmpty)) (tt_not (tt_listD (ev_name 2 rfl rfl) (by simp [strD]; omega))) (fun hb => ?_) (fun hb => ?_)) r2) (fun v s3 q => ?_) fun _ _ f => f.elim
  · have : ds = [] := by cases ds with | nil => rfl | cons d ds => simp [strD] at hb
    subst this
    exact ev_list evs_nil (by decide)
  · refine ev_lc (ds := (ds.map fun l => .str (S (pathB l)))) (ds.map fun l => some (.str (S (47 :: slash l)))) ["d"] none _ [none] hF.hkd (evi_d (evi_list (ev_name 2 rfl rfl)) (by simp [strD])) (by kernel_rfl) rfl (fun env' s1 O' hC => ?_) (by rw [filt_map]; simp [strD]) (by simp; omega) (by intro h; cases h)
    refine comp_of ds fun l hl => TurnC.take (as_name 0 rfl (hC.sto (by kernel_rfl)) (by exact Nat.le_of_ble_eq_true rfl)) .nil (ev_fn (hC.glob (by kernel_rfl)) (evs_cons (ev_name 0 rfl rfl) evs_nil) (fn_normB (hok l hl)) (by exact Nat.le_of_ble_eq_true rfl) (by kernel_rfl) (by kernel_rfl) (by kernel_rfl))
  obtain ⟨S3, rfl, r3, T3, rv3⟩ := q
  obtain ⟨dl, us, rfl, hdlB, pl, rs⟩ := rep_list rv3
  refine load_var r3 rfl hv0 ?_
  have x3 : S3.h.get? x = some (instObj 79 dx) := T3.keep _ _ (fun q => (T1.msub _ q).elim (nM0 _ _ hx) fun z => by rw [show S0.h.get? x = some _ from g.keep _ _ hx] at z; cases z) x2
  have d3 := T3.keep _ _ M1 d2
  have B3 : S3.B dx := T3.bkeep _ _ B1 M1 d2
  have M3 : ¬ S3.M dx := fun q => (T3.msub _ q).elim M1 fun z => by rw [show h2.get? dx = none from z] at d2; cases d2
  have dlne : dl ≠ dx := fun q => hdlB (q ▸ B3)
  refine set_raw (K := Mine.heapK w.params) r3.rel.wd.K ⟨x3, rfl, rfl, d3⟩ rfl (by kernel_rfl) (by kernel_rfl) (by kernel_rfl) (by kernel_rfl) (by kernel_rfl) (Nat.le_trans (putL_le _ _ _ _ _) (by exact Nat.le_of_ble_eq_true rfl)) fun h4 tk4 hs4 d4 => ?_
  have r4 := r3.upd (tk := tk4) hs4 B3 M3 hd0 ⟨_, d3, nc _ _⟩ ⟨_, d4, nc _ _⟩
  have x4 : h4.get? x = some (instObj 79 dx) := (hs4.2 _ hne).trans x3
  have ms4 : StrSet prog w h4 ms (fun k => (ns.map S).contains k) n1 := (ms2.at' fun o e => T3.keep _ _ hmsM e).at' fun o e => (hs4.2 _ msne).trans e
  have dl4 : h4.PlainList dl us := let ⟨n, e⟩ := pl; ⟨n, (hs4.2 _ dlne).trans e⟩
  have k4 : ∀ b o, b ≠ dx → s.heap.get? b = some o → h4.get? b = some o := fun b o hb e => (hs4.2 _ hb).trans (T3.keep b o (fun q => (T1.msub b q).elim (nM0 b o e) fun z => by rw [show S0.h.get? b = some o from g.keep b o e] at z; cases z) (k2 b o hb e))
  have kB4 : ∀ b, B b → S3.B b := fun b hb => by
    obtain ⟨o, e⟩ := Option.isSome_iff_exists.mp (hB b hb)
    by_cases q : b = dx
    · rw [q]; exact B3
    · exact T3.bkeep b o (kB2 b hb) (fun q => (T1.msub b q).elim (nM0 b o e) fun z => by rw [show S0.h.get? b = some o from g.keep b o e] at z; cases z) (k2 b o q e)
  -- self._ignore
  refine wpAny_execs_cons (plainObj_wpAny_Assign_Attribute ?_ rfl)
  refine wpAny_mono (eval_dict1 (k := [60, 115, 116, 114, 105, 110, 103, 62]) (b := true) r4 (by kernel_rfl) rfl) (fun v s5 q => ?_) fun _ _ f => f.elim
  obtain ⟨S5, t5, rfl, rfl, r5, g5, eM, eB, D5⟩ := q
  refine load_var r5 rfl hv0 ?_
  have x5 : S5.h.get? x = some (instObj 79 dx) := g5.keep _ _ x4
  have d5 := g5.keep _ _ d4
  have B5 : S5.B dx := by rw [eB]; exact B3
  have M5 : ¬ S5.M dx := by rw [eM]; exact M3
  have hDn : h4.get? h4.objs.size = none := fresh_none _
  have Dne : h4.objs.size ≠ dx := fun q => by rw [q, d4] at hDn; cases hDn
  refine set_raw (K := Mine.heapK w.params) r5.rel.wd.K ⟨x5, rfl, rfl, d5⟩ rfl (by kernel_rfl) (by kernel_rfl) (by kernel_rfl) (by kernel_rfl) (by kernel_rfl) (Nat.le_trans (putL_le _ _ _ _ _) (Nat.succ_le_succ (Nat.le_trans (putL_le _ _ _ _ _) (by exact Nat.le_of_ble_eq_true rfl)))) fun h6 tk6 hs6 d6 => ?_
  refine wpAny_execs_nil ?_
  have k6 : ∀ b o, b ≠ dx → h4.get? b = some o → h6.get? b = some o := fun b o hb e => (hs6.2 _ hb).trans (g5.keep _ _ e)
  have hDs : s.heap.get? h4.objs.size = none := by
    cases e : s.heap.get? h4.objs.size with
    | none => rfl
    | some o => have := k4 _ o Dne e; rw [hDn] at this; cases this
  have hmss : s.heap.get? ms = none := by
    cases e : s.heap.get? ms with
    | none => rfl
    | some o => have := g.keep _ _ e; rw [hms0] at this; cases this
  have hsys : (h4.objs.size == sysModules) = false := by
    have h1 : @LT.lt Nat _ sysModules h4.objs.size := modules_low r4.rel.wd.nolimit
    rw [beq_eq_false_iff_ne]
    exact neA (by omega)
  refine hres _ ms dl h4.objs.size (fun b o hb e => k6 b o hb (k4 b o hb e)) ((g5.os.trans (T3.os.trans T1.os)).trans g.os) ((g5.gens.trans (T3.gens.trans T1.gens)).trans g.gens) hmss (fun q => hdlB (kB4 dl q)) hDs ⟨(hs6.2 _ hne).trans x5, ⟨_, _, d6, by kernel_rfl, by kernel_rfl, by kernel_rfl, by kernel_rfl⟩, ⟨n1, hn1, ms4.at' fun o e => k6 _ _ msne e⟩, ⟨us, let ⟨n, e⟩ := dl4; ⟨n, k6 _ _ dlne e⟩, strs_of rs⟩, ⟨[(S [60, 115, 116, 114, 105, 110, 103, 62], .int (bi true) t5)], D5.at fun o e => (hs6.2 _ Dne).trans e, by simp, fun l => ?_⟩, hsys, Dne⟩
  unfold kn0 valueAt
  by_cases hl : l = [60, 115, 116, 114, 105, 110, 103, 62]
  · subst hl
    simp only [if_true]
    exact ⟨t5, by simp⟩
  · rw [if_neg hl]
    have : ¬ S [60, 115, 116, 114, 105, 110, 103, 62] = S l := fun e => hl (S_inj.mp e).symm
    simp [this, KOK]
end Mine
open PySem PySem.Spec PySem.Calls PySem.W PyProof.Rows
set_option Elab.async false
set_option maxRecDepth 100000
set_option maxHeartbeats 2000000
set_option linter.unusedVariables false
namespace Mine
theorem call_reader {prog : Program} {w : World} {A : Around} {s : Shared} {B : Bad} {ns ds : List (List Nat)} {mv dv : Value} {R : Result → Shared → Prop}
    (hh : A.handled = none) (hdep : A.depth + 8 < recursionLimit) (huni : A.units + 10 * 8 + 200 < cLine) (W : Wd w s.heap) (hB : ∀ a, B a → (s.heap.get? a).isSome)
    (hmv : Rep B s.heap mv (.list (strD ns))) (hdv : Rep B s.heap dv (.list (strD (ds.map pathB)))) (hln : ns.length ≤ 900) (hld : ds.length ≤ 900) (hok : ∀ d ∈ ds, NmOK d)
    (hres : ∀ s' x dx ms dl D, Grow s s' → s.heap.get? x = none → s.heap.get? dx = none → s.heap.get? ms = none → ¬ B dl → s.heap.get? D = none → Rdr prog w s'.heap x dx ms dl D ns (ds.map fun l => 47 :: slash l) kn0 1 → R (.ok (.ret (.ref x))) s') :
    codeAny (model prog w) A (.call (.ref 79) ⟨[mv, dv], []⟩) R s := by
  obtain ⟨h, g, d, t, os⟩ := s
  have W' : Wd w h := W
  refine make_core (makes_of W'.K (by kernel_rfl)) (looks_findIn (r := some (.ref 69)) W'.K (by kernel_rfl)) (fun self => bind_fn W'.K self (by kernel_rfl)) (.inl rfl) ?_
  have sz1 : (h.push emptyDict).objs.size = h.objs.size + 1 := Heap.size_push _ _
  have hxg : ((h.push emptyDict).push (instObj 79 h.objs.size)).get? (h.objs.size + 1) = some (instObj 79 h.objs.size) := by rw [← sz1]; exact Heap.get?_push_size _ rfl
  have hdg : ((h.push emptyDict).push (instObj 79 h.objs.size)).get? h.objs.size = some (dictOf [] 0) := Heap.get?_push_of_some _ (Heap.get?_push_size _ rfl)
  have kp : h.StaysIn ((h.push emptyDict).push (instObj 79 h.objs.size)) := fun b o e => Heap.get?_push_of_some _ (Heap.get?_push_of_some _ e)
  have hxn : h.get? (h.objs.size + 1) = none := new_of_ge (by show @LE.le Nat _ h.objs.size (h.objs.size + 1); omega)
  have hdn : h.get? h.objs.size = none := fresh_none _
  have bk : ∀ u d, Rep B h u d → Rep (fun b => B b ∨ b = h.objs.size + 1 ∨ b = h.objs.size) ((h.push emptyDict).push (instObj 79 h.objs.size)) u d := fun u d => Rep.tr fun b o hb e => ⟨fun q => (by
    rcases q with q | rfl | rfl
    · exact hb q
    · rw [hxn] at e; cases e
    · have e' : h.get? h.objs.size = some o := e
      rw [hdn] at e'; cases e'), kp b o e⟩
  have hw := weight_tc [mv, dv] []
  have hu := units_tc [mv, dv] []
  refine call_init (s₀ := ⟨h, g, d, t, os⟩) (x := h.objs.size + 1) (dx := h.objs.size) (B := fun b => B b ∨ b = h.objs.size + 1 ∨ b = h.objs.size) (ns := ns) (ds := ds) hh (by show A.depth + _ + 6 < _; rw [hw]; omega) (by show A.units + _ + 10 * 6 + 200 < _; rw [hu]; omega) kp rfl rfl W (fun a ha => ?_) hxn hdn (.inr (.inl rfl)) (.inr (.inr rfl)) (neA (by omega)) hxg hdg (bk _ _ hmv) (bk _ _ hdv) hln hld hok
    fun s' ms dl D hk hos hgn hms hdl hD hR => ?_
  · rcases ha with ha | rfl | rfl
    · obtain ⟨o, e⟩ := Option.isSome_iff_exists.mp (hB a ha)
      exact Option.isSome_iff_exists.mpr ⟨o, kp a o e⟩
    · exact Option.isSome_iff_exists.mpr ⟨_, hxg⟩
    · exact Option.isSome_iff_exists.mpr ⟨_, hdg⟩
  · have old : ∀ b, ((h.push emptyDict).push (instObj 79 h.objs.size)).get? b = none → h.get? b = none := fun b hb => by
      cases e : h.get? b with
      | none => rfl
      | some o => have := kp b o e; rw [hb] at this; cases this
    refine ⟨rfl, hres s' (h.objs.size + 1) h.objs.size ms dl D ⟨fun b o e => hk b o (fun q => ?_) (kp b o e), hos, hgn⟩ hxn hdn (old ms hms) (fun q => hdl (.inl q)) (old D hD) hR⟩
    rw [q] at e
    have e' : h.get? h.objs.size = some o := e
    rw [hdn] at e'; cases e'
/-- a method of an object is called -/
theorem Call_inst {prog : Program} {w : World} {A : Around} {E : Value → Shared → Prop} {s : Shared} {env : Env} {o : Expr} {name : Str} {apos pos : Pos} {args : List Expr} {Q : Value → Shared → Prop}
    (hbase : attributeBase o name env (eval o env) = eval o env)
    (hfew : ((backTo pos (starEach args env)).all (fun x => !x.1) && (backToKw pos (keywordEach [] env)).all (fun x => x.1.isSome)
      && decide (args.length + ([] : List Keyword).length + (if ([] : List Keyword).isEmpty then 0 else 1) < 30)) = true)
    (hline : (apos.endLine == pos.line) = true)
    (h : wpAny (model prog w) A (eval o env) (fun ov s₁ => ∀ pl, wpAny (model prog w) A (getMethod ov name pl) (fun fm s₂ => wpAny (model prog w) A (callWith pos fm.1 fm.2 (backTo pos (starEach args env)) []) Q E s₂) E s₁) E s) :
    wpAny (model prog w) A (eval (.Call (.Attribute o name apos) args [] pos) env) Q E s := by
  rw [arm_eval_Call, hbase]
  refine wpAny_bind (wpAny_mono h (fun ov s₁ h₁ => ?_) fun _ _ e => e)
  refine wpAny_bind (wpAny_standAt ?_)
  have hform : methodCallForm (args.length + ([] : List Keyword).length) (backTo pos (starEach args env)) (backToKw pos (keywordEach [] env)) = true := hfew
  have hpos : methodCallPos true o env apos pos = pure pos := by unfold methodCallPos; simp [hline]
  unfold methodCall
  rw [hform]
  refine wpAny_bind (wpAny_holding (wpAny_mono (h₁ _) (fun fm s₂ h₂ => ?_) fun _ _ e => e))
  obtain ⟨f, first⟩ := fm
  exact wpAny_bind (wpAny_of_eq hpos h₂)
end Mine
open PySem PySem.Spec PySem.Calls PySem.W PyProof.Rows
set_option Elab.async false
set_option maxRecDepth 100000
set_option maxHeartbeats 2000000
set_option linter.unusedVariables false
namespace Mine
section
variable {X : Fx} {σ σ1 σ2 σ3 : Sg} {pos p2 p3 : Pos} {k : Nat}
/-- the same frame over an older, smaller ground -/
theorem RelV.rebase {S : St} {m : Str → Option Value} {vals : Nat → Option Value} {s₀' : Shared} {O' : Bad} (r : RelV X σ S m vals) (hk : s₀'.heap.StaysIn X.s₀.heap) (hos : s₀'.os = X.s₀.os) (hgn : s₀'.gens = X.s₀.gens) (W : Wd X.w s₀'.heap) (hO : ∀ a, O' a → X.O a ∧ (s₀'.heap.get? a).isSome)
    (hb : ∀ a vs, X.s₀.heap.PlainList a vs → s₀'.heap.PlainList a vs) (hc : ∀ x c, X.env.cells.lookup x = some c → s₀'.heap.get? c = none → X.s₀.heap.get? c = none) : RelV { X with s₀ := s₀', O := O' } σ S m vals where
  ok := ⟨r.ok.hh, r.ok.dep, r.ok.uni, W, r.ok.kind, r.ok.globals, r.ok.builtins, r.ok.nodup, r.ok.good, fun a ha => (hO a ha).2, r.ok.inj⟩
  keep := fun b o e => r.keep b o (hk b o e)
  os := r.os.trans hos.symm
  gens := r.gens.trans hgn.symm
  ns := r.ns
  mL := r.mL
  mnew := fun a ha => by
    cases e : s₀'.heap.get? a with
    | none => rfl
    | some o => have := hk a o e; rw [r.mnew a ha] at this; cases this
  sub := r.sub
  out := fun a ha => r.out a (hO a ha).1
  ball := r.ball
  mcell := fun x c h => ⟨(r.mcell x c h).1, fun hn => (r.mcell x c h).2 (hc x c h hn)⟩
  acell := r.acell
  var := r.var
  slot := fun i => by
    have q := r.slot i
    revert q
    cases σ.at i with
    | none => exact fun _ => trivial
    | some sl => cases sl with
      | fro d => exact id
      | own xs => exact id
      | bor xs => rintro ⟨a, vs, h1, h2, h3⟩; exact ⟨a, vs, h1, hb a vs h2, h3⟩
  apart := r.apart
/-- store_var, with the values told -/
theorem store_varV {i : Nat} {x : Str} {v : Value} {S : St} {m : Str → Option Value} {vals : Nat → Option Value} {d : PyData} {E : Value → Shared → Prop} (r : RelV X σ S m vals) (hx : X.tbl[i]? = some x) (hst : X.env.kindOf x = some .local) (hi : i < σ.length) (hn : Rep S.B S.h v d) :
    wpAny (model X.prog X.w) X.A (storeName X.env x v) (fun _ s' => ∃ S' m', S'.s = s' ∧ RelV X (σ.set i (some (.fro d))) S' m' (fun j => if j = i then some v else vals j) ∧ Tr S S' ∧ S'.M = S.M ∧ S'.B = S.B) E S.s := by
  refine wpAny_storeName_local hst r.ns (fun h' hn' hs => ?_) (by rw [r.ok.kind]; rfl)
  have hpl : ∀ a vs, S.h.PlainList a vs → a ≠ X.env.locals := fun a vs p => ns_ne_plain r.ns p
  have hlive : ∃ o, h'.get? X.env.locals = some o := let ⟨o, _, _, ho, _⟩ := hn'; ⟨o, ho⟩
  have T : Tr S ⟨{ S.s with heap := h', toks := S.s.toks + 1 }, S.M, S.B⟩ := ⟨fun b o hb e => (hs.2 b (fun q => hb (q ▸ r.mL))).trans e, fun _ h => .inl h, fun _ h => .inl h, fun _ _ h _ _ => h, r.sub, rfl, rfl, fun b o _ e => by
    by_cases q : b = X.env.locals
    · rw [q]; exact hlive
    · exact ⟨o, (hs.2 b q).trans e⟩⟩
  refine ⟨⟨_, S.M, S.B⟩, fun y => if y = x then some v else m y, rfl, ⟨r.ok, fun b o e => ?_, r.os, r.gens, hn', r.mL, r.mnew, r.sub, r.out, fun a ha => ?_, r.mcell, fun y c hc => ?_, fun j y hy => ?_, fun j => ?_, fun j k' us ws h1 h2 h3 => ?_⟩, T, rfl, rfl⟩
  · refine (hs.2 b fun q => ?_).trans (r.keep b o e)
    rw [q, r.mnew _ r.mL] at e; cases e
  · by_cases q : a = X.env.locals
    · obtain ⟨o, ho⟩ := hlive; rw [q]; exact Option.isSome_iff_exists.mpr ⟨o, ho⟩
    · have := r.ball a ha; rwa [← hs.2 a q] at this
  · obtain ⟨u, q⟩ := r.acell y c hc
    exact ⟨u, cell_keeps q fun o e => (hs.2 c (Ne.symm (cell_ne_ns q r.ns))).trans e⟩
  · by_cases hj : j = i
    · subst hj
      rw [hx] at hy; cases hy
      rw [if_pos rfl]
      exact .inl ⟨hst, by simp⟩
    · rw [if_neg hj]
      have hyx : y ≠ x := fun q => hj (tbl_inj r.ok.nodup hy (q ▸ hx))
      rcases r.var j y hy with ⟨q1, q2⟩ | ⟨c, q1, q2, q3⟩
      · exact .inl ⟨q1, by simp only [if_neg hyx]; exact q2⟩
      · exact .inr ⟨c, q1, q2, cell_keeps q3 fun o e => (hs.2 c (Ne.symm (cell_ne_ns q3 r.ns))).trans e⟩
  · rw [at_set hi]
    by_cases hj : j = i
    · rw [if_pos hj, if_pos hj]
      exact ⟨v, rfl, T.rep hn⟩
    · rw [if_neg hj, if_neg hj]
      refine (r.slot j).tr (fun _ _ => T.rep) (fun _ _ => T.repAll) fun a o ha ho ⟨ys, hys⟩ hv => ⟨ha, (hs.2 a ?_).trans ho⟩
      have q := r.slot j
      rw [hys] at q
      obtain ⟨a', vs, e', _, hp, _⟩ := q
      rw [hv] at e'; cases e'
      exact hpl _ vs hp
  · rw [at_set hi] at h1 h2
    by_cases hj : j = i
    · rw [if_pos hj] at h1; cases h1
    · by_cases hk : k' = i
      · rw [if_pos hk] at h2; cases h2
      · rw [if_neg hj] at h1 h3; rw [if_neg hk] at h2 h3; exact r.apart j k' us ws h1 h2 h3
end
end Mine
open PySem PySem.Spec PySem.Calls PySem.W PyProof.Rows
set_option Elab.async false
set_option maxRecDepth 100000
set_option maxHeartbeats 2000000
set_option linter.unusedVariables false
namespace Mine
section
variable {X : Fx} {σ σ1 σ2 σ3 : Sg} {pos p2 p3 : Pos} {k : Nat}
theorem cell_unique {h : Heap} {c : Addr} {u v : Option Value} (a : h.IsCell c u) (b : h.IsCell c v) : u = v := by
  obtain ⟨o, e, d⟩ := a
  obtain ⟨o', e', d'⟩ := b
  rw [e] at e'; cases e'; rw [d] at d'; injection d'
theorem comp_vol {elt t iter : Expr} {scope : Scope} {ds : List PyData} {rf : Nat → PyData} {tbl : List Str} {σ0 : Sg} {σa : Nat → Sg} {I ax : Addr} {items : Array Value} {cl : List (Str × Addr)} {S2 : St} {m : Str → Option Value} {vals : Nat → Option Value} {RR : Value → Addr → Result → Shared → Prop}
    {x dx ms dl D : Addr} {mods dirs : List (List Nat)} {knf : Nat → List Nat → Option Bool} {N : Nat} {rd : Str} {jo ji : Nat}
    (R2 : RelV X σ1 S2 m vals) (Q0 : RIn X S2 x dx ms dl D mods dirs (knf 0) N) (hI : S2.h.IsListIter I ax 0) (hax : S2.h.IsList ax items) (haxB : ¬ S2.B ax) (hrep : RepAll S2.B S2.h items.toList ds) (hIB : S2.B I) (hIM : ¬ S2.M I) (hIx : X.s₀.heap.get? I = none) (hIn : ∀ b ∈ [x, dx, ms, dl, D], b ≠ I) (hD0 : X.s₀.heap.get? D = none) (hIc : ∀ y c, X.env.cells.lookup y = some c → c ≠ I)
    (C : CompOK X scope tbl none σ1 σ0) (hcl1 : ∀ x c, cl.lookup x = some c → X.env.cells.lookup x = some c) (hcl2 : ∀ x, (x, NameKind.free) ∈ scope.names → cl.lookup x = X.env.cells.lookup x)
    (hro : X.tbl[jo]? = some rd) (hrk : X.env.kindOf rd = some .cell) (hrv : vals jo = some (.ref x)) (hri : tbl[ji]? = some rd) (hrf : scope.names.lookup rd = some .free)
    (htgt : ∀ env' s₀ O i d, CSub X scope none env' s₀ → ds[i]? = some d → As { X with s₀ := s₀, env := env', tbl := tbl, O := O } t σ0 d (σa i))
    (helt : ∀ env' s₀ O (S4 : St) m4 vals4 i, CSub X scope none env' s₀ → i < ds.length → RelV { X with s₀ := s₀, env := env', tbl := tbl, O := O } (σa i) S4 m4 vals4 → RIn X S4 x dx ms dl D mods dirs (knf i) (N + i) → vals4 ji = some (.ref x) → s₀.heap.get? D = none →
      wpAny (model X.prog X.w) X.A (eval elt env') (fun v s5 => (∃ y tk, v = .str y tk ∧ rf i = .str y) ∧ (∀ b o, b ≠ D → S4.h.get? b = some o → s5.heap.get? b = some o) ∧ s5.os = S4.s.os ∧ s5.gens = S4.s.gens ∧ Rdr X.prog X.w s5.heap x dx ms dl D mods dirs (knf (i + 1)) (N + (i + 1))) (fun _ _ => False) S4.s)
    (hsz : ds.length ≤ sizeLine)
    (hRR : ∀ Da L s9 Bf, RelV X σ1 ⟨s9, S2.M, Bf⟩ m vals → RIn X ⟨s9, S2.M, Bf⟩ x dx ms dl D mods dirs (knf ds.length) (N + ds.length) → Rep Bf s9.heap (.ref Da) (.list ((List.range ds.length).map rf)) → (∃ m', s9.heap.Ns L m') → Bf L → ¬ S2.M L → X.s₀.heap.get? L = none → (∀ x c, X.env.cells.lookup x = some c → c ≠ L) → (∀ b ∈ [x, dx, ms, dl, D], b ≠ L) → RR (.ref Da) L (.ok .next) s9) :
    wpAny (model X.prog X.w) X.A (newList []) (fun acc s₃ => wpAny (model X.prog X.w) X.A (newFunctionEnv scope X.env.globals cl [] X.env.qual none .none (some X.env)) (fun cenv s₄ =>
      codeAny (model X.prog X.w) X.A (.compStart (.ListComp elt [⟨t, iter, [], 0⟩] scope pos) 0 (.ref I) acc { cenv with scope := relabel scope X.env }) (RR acc cenv.locals) s₄) (fun _ _ => False) s₃) (fun _ _ => False) S2.s := by
  refine wpAny_newList ?_ (by decide)
  let Da : Nat := S2.s.heap.objs.size
  let L : Nat := Da + 1
  let h3 : Heap := S2.s.heap.push { cls := .type "list", data := .seq ([] : List Value).toArray }
  have sz3 : h3.objs.size = L := Heap.size_push _ _
  let env' : Env := { scope := relabel scope X.env, locals := L, globals := X.env.globals, cells := cl, qual := X.env.qual, func := none, code := X.env.code, frame := X.env.frame, builtins := X.env.builtins }
  let h4 : Heap := h3.push { cls := .type "dict", data := .dict #[] }
  have keep24 : ∀ b o, S2.h.get? b = some o → h4.get? b = some o := fun b o e => Heap.get?_push_of_some _ (Heap.get?_push_of_some _ e)
  have hD4 : h4.PlainList Da #[] := ⟨0, Heap.get?_push_of_some _ (Heap.get?_push_size _ rfl)⟩
  have hL4 : h4.Ns L fun _ => none := by
    have q := Heap.Ns.new h3 (.type "dict")
    rw [sz3] at q
    exact q
  have fr2 : ∀ a : Nat, Da ≤ a → S2.h.get? a = none := fun a ha => new_of_ge ha
  have frD : S2.h.get? Da = none := fr2 Da (Nat.le_refl _)
  have frL : S2.h.get? L = none := fr2 L (by omega)
  have LD : @Ne Addr L Da := neA (by omega)
  have x0 : ∀ a, S2.h.get? a = none → X.s₀.heap.get? a = none := fun a h => by
    cases e : X.s₀.heap.get? a with
    | none => rfl
    | some o => have := R2.keep a o e; rw [h] at this; cases this
  have nM2 : ∀ a, S2.h.get? a = none → ¬ S2.M a := fun a h => R2.nM h
  have ncell : ∀ x c, X.env.cells.lookup x = some c → ∀ a, S2.h.get? a = none → c ≠ a := fun x c hc a h e => by
    obtain ⟨v, o, ho, _⟩ := R2.acell x c hc
    rw [e, h] at ho; cases ho
  have hIe : ∃ o, S2.h.get? I = some o := let ⟨o, e, _⟩ := hI; ⟨o, e⟩
  have axe : ∃ o, S2.h.get? ax = some o := let ⟨o, e, _⟩ := hax; ⟨o, e⟩
  have ne_of : ∀ b, (∃ o, S2.h.get? b = some o) → ∀ a, S2.h.get? a = none → b ≠ a := fun b ⟨o, e⟩ a h q => by rw [q, h] at e; cases e
  have hDl := Q0.r.live
  let Bo : Bad := fun b => S2.B b ∨ b = Da ∨ b = L
  have axo : ¬ Bo ax := fun q => by
    rcases q with q | q | q
    · exact haxB q
    · exact ne_of ax axe Da frD q
    · exact ne_of ax axe L frL q
  show wpAny _ _ (newFunctionEnv scope X.env.globals cl [] X.env.qual none .none (some X.env)) _ _ { S2.s with heap := h3 }
  have enter : ∀ (Q : Env → Shared → Prop), Q { scope := scope, locals := L, globals := X.env.globals, cells := cl, qual := X.env.qual, func := none, code := X.env.code, frame := X.env.frame, builtins := X.env.builtins } { S2.s with heap := h4 } →
      wpAny (model X.prog X.w) X.A (newFunctionEnv scope X.env.globals cl [] X.env.qual none .none (some X.env)) Q (fun _ _ => False) { S2.s with heap := h3 } := fun Q hQ => by
    simp only [newFunctionEnv, Option.isSome_some, if_true]
    refine wpAny_bind (wpAny_alloc ?_)
    refine wpAny_bind (wpAny_layCells _ (fun name kind cells => by cases hkc : kind == NameKind.cell <;> simp [hkc]) _ _ _ _ ?_)
    rw [show ({ S2.s with heap := h3.push { cls := .type "dict", data := .dict #[] } } : Shared).heap.objs.size = L + 1 by show (h3.push _).objs.size = _; rw [Heap.size_push, sz3]]
    rw [C.cf, C.pf]
    simp only [List.forIn_nil]
    refine wpAny_bind (wpAny_pure (wpAny_pure ?_))
    have e : ({ S2.s with heap := h3 } : Shared).heap.objs.size = L := sz3
    rw [e]
    exact hQ
  refine enter _ ?_
  show codeAny _ _ (.compStart _ 0 (.ref I) (.ref Da) env') (RR (.ref Da) L) _
  have hs4 : RelV X σ1 ⟨{ S2.s with heap := h4 }, S2.M, Bo⟩ m vals ∧ Tr S2 ⟨{ S2.s with heap := h4 }, S2.M, Bo⟩ := by
    refine R2.bad (W := fun b => b = Da ∨ b = L) (s' := { S2.s with heap := h4 }) ⟨keep24, rfl, rfl⟩ fun b hb => ?_
    rcases hb with rfl | rfl
    · obtain ⟨n, e⟩ := hD4; exact ⟨frD, _, e⟩
    · obtain ⟨o, _, _, e, _⟩ := hL4; exact ⟨frL, o, e⟩
  have loop : codeAny (model X.prog X.w) X.A (.compLoop (.ListComp elt [⟨t, iter, [], 0⟩] scope pos) 0 (.ref I) (.ref Da) env') (RR (.ref Da) L) { S2.s with heap := h4 } := by
    refine compLoop_own (fun n s => ∃ (i : Nat) (m' : Str → Option Value) (ys : Array Value), n = ds.length + 1 - i ∧ i ≤ ds.length ∧ RelV X σ1 ⟨s, S2.M, Bo⟩ m vals ∧ RIn X ⟨s, S2.M, Bo⟩ x dx ms dl D mods dirs (knf i) (N + i) ∧ s.heap.IsListIter I ax i ∧ s.heap.IsList ax items ∧ RepAll Bo s.heap items.toList ds ∧
        s.heap.PlainList Da ys ∧ RepAll Bo s.heap ys.toList ((List.range i).map rf) ∧ s.heap.Ns L m') (fun n s hJ => ?_) (ds.length + 1)
      ⟨0, _, #[], rfl, Nat.zero_le _, hs4.1, Q0.tr hs4.2, let ⟨o, e, q⟩ := hI; ⟨o, keep24 _ _ e, q⟩, let ⟨o, e, q⟩ := hax; ⟨o, keep24 _ _ e, q⟩, hs4.2.repAll hrep, hD4, .nil, hL4⟩
    obtain ⟨i, m', ys, rfl, hle, Rs, Qs, hit, hls, hrs, hDs, hys, hLs⟩ := hJ
    have hIo : ∃ o, s.heap.get? I = some o := let ⟨o, e, _⟩ := hit; ⟨o, e⟩
    have W4 : ∀ b, (b = I ∨ b = L ∨ b = D ∨ b = Da) → Bo b ∧ ¬ S2.M b := by
      rintro b (rfl | rfl | rfl | rfl)
      · exact ⟨.inl hIB, hIM⟩
      · exact ⟨.inr (.inr rfl), nM2 _ frL⟩
      · exact ⟨.inl Q0.b, Q0.nm _ (by simp)⟩
      · exact ⟨.inr (.inl rfl), nM2 _ frD⟩
    have W0 : ∀ b, (b = I ∨ b = L ∨ b = D ∨ b = Da) → X.s₀.heap.get? b = none := by
      rintro b (rfl | rfl | rfl | rfl)
      · exact hIx
      · exact x0 _ frL
      · exact hD0
      · exact x0 _ frD
    have Wc : ∀ y c, X.env.cells.lookup y = some c → ¬ (c = I ∨ c = L ∨ c = D ∨ c = Da) := fun y c hc q => by
      rcases q with rfl | rfl | rfl | rfl
      · exact hIc y _ hc rfl
      · exact ncell y _ hc _ frL rfl
      · obtain ⟨v, o, e, hd⟩ := Rs.acell y _ hc
        obtain ⟨kvs, ⟨o', es, ep, e', hex, hd', _⟩, _⟩ := Qs.r.cache
        rw [e] at e'; cases e'; rw [hd] at hd'; cases hd'
      · exact ncell y _ hc _ frD rfl
    have hDI : D ≠ I := hIn D (by simp)
    have hDL : D ≠ L := ne_of D (hDl D (by simp)) L frL
    have hDDa : D ≠ Da := ne_of D (hDl D (by simp)) Da frD
    have hIL : I ≠ L := ne_of I hIe L frL
    have hIDa : I ≠ Da := ne_of I hIe Da frD
    have hrl := hrs.length
    rw [Array.length_toList] at hrl
    cases hd : ds[i]? with
    | none =>
      have hi : i = ds.length := Nat.le_antisymm hle (by simpa using hd)
      subst hi
      refine wpAny_pyNext_list_end Rs.ok.hh hit hls (by simp [hrl]) fun h9 he => ?_
      have g : KB0 (fun b => b = I) s { s with heap := h9 } := ⟨fun b o hb e => he b o hb e, rfl, rfl⟩
      have hWB : WBad (fun b => b = I) ⟨s, S2.M, Bo⟩ := fun b hb => by
        subst hb
        obtain ⟨o, e, hc', hd'⟩ := hit
        exact ⟨.inl hIB, hIM, o, e, fun v q => by rw [hd'] at q; cases q⟩
      have R9 := Rs.kb0 (s' := { s with heap := h9 }) g hWB (fun b hb => by subst hb; exact hIx)
      have hbad : ∀ b, (Bo b ∧ ¬ b = I) ∧ b ≠ Da → Bo b := fun b h => h.1.1
      refine hRR Da L { s with heap := h9 } (fun b => (Bo b ∧ ¬ b = I) ∧ b ≠ Da) (R9.shrink (fun b hb => hb.1) (fun b hb => ⟨R9.sub b hb, fun e => nM2 Da frD (e ▸ hb)⟩) (fun b hb => ⟨R9.out b hb, fun e => ?_⟩) fun x c hc => ⟨(R9.mcell x c hc).1, ncell x c hc Da frD⟩) ⟨Qs.r.keeps fun b hb o e => he b o (hIn b hb) e, Q0.nm, ⟨⟨.inl Q0.b, hDI⟩, hDDa⟩⟩ ?_ ?_ ⟨⟨.inr (.inr rfl), Ne.symm hIL⟩, LD⟩ (nM2 L frL) (x0 L frL) (fun x c hc => ncell x c hc L frL) (fun b hb => ne_of b (hDl b hb) L frL)
      · have := R2.ok.oall b hb
        rw [e, x0 Da frD] at this; cases this
      · obtain ⟨n, e⟩ := hDs
        exact .list (fun q => q.2 rfl) ⟨n, he _ _ (Ne.symm hIDa) e⟩ (RepAll.tr (fun b o hb ho => ⟨fun q => hb q.1.1, he b o (fun q => hb (q ▸ .inl hIB)) ho⟩) hys)
      · obtain ⟨o, es, ep, e, q⟩ := hLs
        exact ⟨m', o, es, ep, he _ _ (Ne.symm hIL) e, q⟩
    | some d =>
      have hlt : i < ds.length := (List.getElem?_eq_some_iff.mp hd).1
      obtain ⟨v, hv, rv⟩ := hrs.get hd
      refine wpAny_pyNext_list_item hit hls (by simpa using hv) fun h2 hit2 hs2 => ?_
      dsimp only
      refine letGo_listiter hit2 ?_
      have k2 : ∀ b o, b ≠ I → s.heap.get? b = some o → h2.get? b = some o := fun b o hb e => (hs2.2 b hb).trans e
      have g2 : KB (fun b => b = I) s { s with heap := h2 } := ⟨fun b o hb e => k2 b o hb e, fun b hb => by subst hb; obtain ⟨o, ho, hc, hd⟩ := hit2; exact ⟨o, ho, fun v e => by rw [hd] at e; cases e⟩, rfl, rfl⟩
      have hWB : WBad (fun b => b = I) ⟨s, S2.M, Bo⟩ := fun b hb => by
        subst hb
        obtain ⟨o, e, hc', hd'⟩ := hit
        exact ⟨.inl hIB, hIM, o, e, fun v q => by rw [hd'] at q; cases q⟩
      have r2 := RelV.kb (S := ⟨s, S2.M, Bo⟩) Rs g2 hWB (fun b hb => by subst hb; exact hIx)
      have Q2 : Rdr X.prog X.w h2 x dx ms dl D mods dirs (knf i) (N + i) := Qs.r.keeps fun b hb o e => k2 b o (hIn b hb) e
      have hLs2 : h2.Ns L m' := by obtain ⟨o, es, ep, e, q⟩ := hLs; exact ⟨o, es, ep, k2 _ _ (Ne.symm hIL) e, q⟩
      have rv2 : Rep Bo h2 v d := Rep.tr (fun b o hb e => ⟨hb, k2 b o (fun q => hb (q ▸ .inl hIB)) e⟩) rv
      obtain ⟨cs, vals', RI⟩ := RelV.inner (S := ⟨{ s with heap := h2 }, S2.M, Bo⟩) (m' := m') r2 C (env' := env') (as := [L]) (cl := cl) rfl rfl hcl1 hcl2 hLs2 (fun x hx => by cases hx) (fun a ha => by simp at ha; subst ha; exact .inr (.inr rfl)) (fun a ha q => by simp at ha; subst ha; exact nM2 _ frL q) (fun a ha => by simp at ha; subst ha; exact x0 _ frL) fun x c hc q => by simp at q; exact ncell x c hc L frL q
      have bL : ∀ b, b ∈ [L] ↔ b = L := fun b => by simp
      have hide : ∀ b o, h2.get? b = some o → b ≠ L → b ≠ D → (hideAll h2 [L, D]).get? b = some o := fun b o e h1 h2' => hideAll_get [L, D] e (by simp [h1, h2'])
      have unhide : ∀ b o, (hideAll h2 [L, D]).get? b = some o → h2.get? b = some o ∧ b ≠ L ∧ b ≠ D := fun b o e => by
        refine ⟨of_hideAll [L, D] e, fun q => ?_, fun q => ?_⟩
        · rw [hideAll_none [L, D] (by simp [q])] at e; cases e
        · rw [hideAll_none [L, D] (by simp [q])] at e; cases e
      have hide1 : ∀ b o, h2.get? b = some o → b ≠ L → (hideAll h2 [L]).get? b = some o := fun b o e h1 => hideAll_get [L] e (by simp [h1])
      have unhide1 : ∀ b o, (hideAll h2 [L]).get? b = some o → h2.get? b = some o ∧ b ≠ L := fun b o e => by
        refine ⟨of_hideAll [L] e, fun q => ?_⟩
        rw [hideAll_none [L] (by simp [q])] at e; cases e
      have RJ := RI.rebase (s₀' := hid { s with heap := h2 } [L, D]) (O' := fun b => Bo b ∧ b ≠ L ∧ b ≠ D) (fun b o e => let ⟨a1, a2, _⟩ := unhide b o e; hide1 b o a1 a2) rfl rfl
        (Rs.ok.wd.keeps fun b o e => hide b o (r2.keep b o e) (fun q => by rw [q, x0 L frL] at e; cases e) (fun q => by rw [q, hD0] at e; cases e))
        (fun a ⟨h1, h2', h3'⟩ => ⟨⟨h1, by simp [h2']⟩, by
          obtain ⟨o, e⟩ := Option.isSome_iff_exists.mp (r2.ball a h1)
          exact Option.isSome_iff_exists.mpr ⟨o, hide a o e h2' h3'⟩⟩)
        (fun a vs ⟨n, e⟩ => by
          obtain ⟨e1, e2⟩ := unhide1 a _ e
          refine ⟨n, hide a _ e1 e2 fun q => ?_⟩
          obtain ⟨kvs, ⟨o', es, ep, e', hex, hd', _⟩, _⟩ := Q2.cache
          rw [q, e'] at e1; cases e1; cases hd')
        (fun y c hc hn => by
          cases e : (hideAll h2 [L]).get? c with
          | none => exact e
          | some o =>
            obtain ⟨e1, e2⟩ := unhide1 c o e
            have := hide c o e1 e2 (fun q => Wc y c (hcl1 y c hc) (.inr (.inr (.inl q))))
            rw [show (hideAll h2 [L, D]).get? c = none from hn] at this; cases this)
      refine wpAny_mono ((htgt env' (hid { s with heap := h2 } [L, D]) (fun b => Bo b ∧ b ≠ L ∧ b ≠ D) i d ⟨rfl, fun x hx => by cases hx⟩ hd).go ⟨{ s with heap := h2 }, fun b => b ∈ [L], Bo⟩ v ⟨m', vals', RJ⟩ rv2) (fun _ s3 q => ?_) fun _ _ f => f
      obtain ⟨S3, rfl, ⟨m3, vals3, R3⟩, T3⟩ := q
      rw [List.forIn_nil]
      refine wpAny_pure ?_
      simp only [if_true]
      have Q3 : RIn X S3 x dx ms dl D mods dirs (knf i) (N + i) := RIn.tr (S := ⟨{ s with heap := h2 }, fun b => b ∈ [L], Bo⟩) ⟨Q2, fun b hb q => ne_of b (hDl b hb) L frL ((bL b).mp q), .inl Q0.b⟩ T3
      have hmem := PySem.mem_of_lookup hrf
      have hrd3 : vals3 ji = some (.ref x) := by
        rcases r2.var jo rd hro with q | ⟨c0, _, lc0, ic0⟩
        · rw [hrk] at q; cases q.1
        · have lc : cl.lookup rd = some c0 := (hcl2 rd hmem).trans lc0
          rcases R3.var ji rd hri with q | ⟨c, _, l3, i3⟩
          · exfalso
            have hk : (relabel scope X.env).names.lookup rd = some .local := q.1
            rcases relabel_free (env := X.env) hrf with z | z <;> rw [z] at hk <;> cases hk
          · have l3' : cl.lookup rd = some c := l3
            rw [lc] at l3'
            cases l3'
            have ic3 : S3.h.IsCell c0 (vals jo) := cell_keeps ic0 fun o e => T3.keep c0 o (fun q => ncell rd c0 lc0 L frL ((bL c0).mp q)) e
            rw [← hrv]
            exact cell_unique i3 ic3
      refine wpAny_mono (helt env' (hid { s with heap := h2 } [L, D]) (fun b => Bo b ∧ b ≠ L ∧ b ≠ D) S3 m3 vals3 i ⟨rfl, fun x hx => by cases hx⟩ hlt R3 Q3 hrd3 (hideAll_none [L, D] (by simp))) (fun u s5 q => ?_) fun _ _ f => f
      obtain ⟨⟨y, tk, rfl, hrfi⟩, k5, os5, gn5, Q5⟩ := q
      have k35 : ∀ b o, b ≠ I → b ≠ L → b ≠ D → s.heap.get? b = some o → s5.heap.get? b = some o := fun b o h1 h2' h3' e => k5 b o h3' (T3.keep b o (fun q => h2' ((bL b).mp q)) (k2 b o h1 e))
      have a3 : s5.heap.PlainList Da ys := by obtain ⟨n, e⟩ := hDs; exact ⟨n, k35 _ _ (Ne.symm hIDa) (Ne.symm LD) (Ne.symm hDDa) e⟩
      have hyl := hys.length
      rw [Array.length_toList, List.length_map, List.length_range] at hyl
      refine wpAny_list_append_plain a3 (fun h6 hp6 hs6 => ?_) (by omega)
      have kk : ∀ b o, ¬ (b = I ∨ b = L ∨ b = D ∨ b = Da) → s.heap.get? b = some o → h6.get? b = some o := fun b o hb e => (hs6.2 b fun q => hb (.inr (.inr (.inr q)))).trans (k35 b o (fun q => hb (.inl q)) (fun q => hb (.inr (.inl q))) (fun q => hb (.inr (.inr (.inl q)))) e)
      have hit6 : h6.IsListIter I ax (i + 1) := by
        obtain ⟨o, e, q⟩ := hit2
        exact ⟨o, (hs6.2 I hIDa).trans (k5 I o (Ne.symm hDI) (T3.keep I o (fun q => hIL ((bL I).mp q)) e)), q⟩
      have hL6 : h6.Ns L m3 := by
        have := R3.ns
        obtain ⟨o, es, ep, e, q⟩ := this
        exact ⟨o, es, ep, (hs6.2 L LD).trans (k5 L o (Ne.symm hDL) e), q⟩
      have nDa : ∀ b ∈ [x, dx, ms, dl, D], b ≠ Da := fun b hb => ne_of b (hDl b hb) Da frD
      have Q6 : Rdr X.prog X.w h6 x dx ms dl D mods dirs (knf (i + 1)) (N + (i + 1)) := Q5.keeps fun b hb o e => (hs6.2 b (nDa b hb)).trans e
      have hos6 : s5.os = s.os := os5.trans T3.os
      have hgn6 : s5.gens = s.gens := gn5.trans T3.gens
      have rep6 : ∀ {vs' : List Value} {ds' : List PyData}, RepAll Bo s.heap vs' ds' → RepAll Bo h6 vs' ds' := fun r => RepAll.tr (fun b o hb e => ⟨hb, kk b o (fun q => hb (W4 b q).1) e⟩) r
      have R6 := RelV.kbC (S := ⟨s, S2.M, Bo⟩) (s' := { s5 with heap := h6 }) (W := fun b => b = I ∨ b = L ∨ b = D ∨ b = Da) Rs kk (fun b hb => by
        rcases hb with rfl | rfl | rfl | rfl
        · obtain ⟨o, e, _⟩ := hit6; exact ⟨o, e⟩
        · obtain ⟨o, es, ep, e, _⟩ := hL6; exact ⟨o, e⟩
        · exact Q6.live _ (by simp)
        · obtain ⟨n, e⟩ := hp6; exact ⟨_, e⟩) hos6 hgn6 W4 Wc W0
      refine ⟨ds.length + 1 - (i + 1), by omega, i + 1, m3, _, rfl, hlt, R6, ⟨Q6, Q0.nm, .inl Q0.b⟩, hit6, ?_, rep6 hrs, hp6, ?_, hL6⟩
      · obtain ⟨o, e, q⟩ := hls
        exact ⟨o, kk ax o (fun q => axo (W4 ax q).1) e, q⟩
      · rw [List.range_succ, List.map_append, List.map_singleton, hrfi]
        simpa using (rep6 hys).append (.cons (.str y tk) .nil)
  exact codeAny_compStart_list loop (noE (wpAny_pyIter_listiter (let ⟨o, e, q⟩ := hI; ⟨o, keep24 _ _ e, q⟩) loop))
end
end Mine
open PySem PySem.Spec PySem.Calls PySem.W PyProof.Rows
set_option Elab.async false
set_option maxRecDepth 100000
set_option maxHeartbeats 2000000
set_option linter.unusedVariables false
namespace Mine
section
variable {X : Fx} {σ : Sg} {pos p2 p3 : Pos}
/-- x = [elt for t in y], elt asking a reader -/
theorem ex_lc_vol {i : Nat} {xn y : Str} {jy : Nat} {py : Pos} {elt t : Expr} {scope : Scope} {ds : List PyData} {rf : Nat → PyData} {tbl : List Str} {σ0 : Sg} {σa : Nat → Sg} {S : St} {m : Str → Option Value} {vals : Nat → Option Value} {E : Value → Shared → Prop}
    {x dx ms dl D : Addr} {mods dirs : List (List Nat)} {knf : Nat → List Nat → Option Bool} {N : Nat} {rd : Str} {jo ji : Nat}
    (R : RelV X σ S m vals) (Q0 : RIn X S x dx ms dl D mods dirs (knf 0) N) (hy : X.tbl[jy]? = some y) (hys : σ.at jy = some (.fro (.list ds))) (hD0 : X.s₀.heap.get? D = none)
    (C : CompOK X scope tbl none σ σ0) (hro : X.tbl[jo]? = some rd) (hrk : X.env.kindOf rd = some .cell) (hrv : vals jo = some (.ref x)) (hri : tbl[ji]? = some rd) (hrf : scope.names.lookup rd = some .free)
    (htgt : ∀ env' s₀ O i d, CSub X scope none env' s₀ → ds[i]? = some d → As { X with s₀ := s₀, env := env', tbl := tbl, O := O } t σ0 d (σa i))
    (helt : ∀ env' s₀ O (S4 : St) m4 vals4 i, CSub X scope none env' s₀ → i < ds.length → RelV { X with s₀ := s₀, env := env', tbl := tbl, O := O } (σa i) S4 m4 vals4 → RIn X S4 x dx ms dl D mods dirs (knf i) (N + i) → vals4 ji = some (.ref x) → s₀.heap.get? D = none →
      wpAny (model X.prog X.w) X.A (eval elt env') (fun v s5 => (∃ y tk, v = .str y tk ∧ rf i = .str y) ∧ (∀ b o, b ≠ D → S4.h.get? b = some o → s5.heap.get? b = some o) ∧ s5.os = S4.s.os ∧ s5.gens = S4.s.gens ∧ Rdr X.prog X.w s5.heap x dx ms dl D mods dirs (knf (i + 1)) (N + (i + 1))) (fun _ _ => False) S4.s)
    (hsz : ds.length ≤ 10000) (hx : X.tbl[i]? = some xn) (hst : X.env.kindOf xn = some .local) (hil : i < σ.length)
    (hsw : swapsWith (.ListComp elt [⟨t, .Name y py, [], 0⟩] scope p2) (some (.Name xn p3)) pos.line X.env = pure true) (hs : ∀ x, foldedSetIterable (.Name y py) X.env x = pure x := by intro _; rfl) :
    wpAny (model X.prog X.w) X.A (exec (.Assign [.Name xn p3] (.ListComp elt [⟨t, .Name y py, [], 0⟩] scope p2) pos) X.env)
      (fun fl s' => fl = .next ∧ ∃ S' m' v, S'.s = s' ∧ RelV X (σ.set i (some (.fro (.list ((List.range ds.length).map rf))))) S' m' (fun j => if j = i then some v else vals j) ∧ RIn X S' x dx ms dl D mods dirs (knf ds.length) (N + ds.length)) E S.s := by
  have hsl : (10000 : Nat) ≤ sizeLine := by decide
  obtain ⟨cl, hcl, hcl1, hcl2⟩ := C.closure R
  rw [exec_Assign_Name_used _ _ _ _ hsw]
  refine noE (wpAny_bind (wpAny_standAt (wpAny_bind ?_)))
  show wpAny _ X.A (do let _ ← comprehension (.ListComp elt [⟨t, .Name y py, [], 0⟩] scope p2) scope X.env _ (newList []) false (eval (.Name y py) X.env) (some (assign (.Name xn p3) X.env))) _ _ S.s
  have hyv := R.slot jy
  rw [hys] at hyv
  obtain ⟨u, hu, ru⟩ := hyv
  obtain ⟨a, us, rfl, haB, pl, rs⟩ := rep_list ru
  refine wpAny_bind (wpAny_mono (wpAny_comprehension_free (use := some (assign (.Name xn p3) X.env)) (Q := fun _ s' => ∃ S' m' v, S'.s = s' ∧ RelV X (σ.set i (some (.fro (.list ((List.range ds.length).map rf))))) S' m' (fun j => if j = i then some v else vals j) ∧ RIn X S' x dx ms dl D mods dirs (knf ds.length) (N + ds.length)) rfl hs hcl C.kind C.names ?_) (fun _ s' q => wpAny_pure (wpAny_pure ⟨rfl, q⟩)) fun _ _ f => f)
  refine load_var R hy hu ?_
  refine wpAny_pyIter_list pl.isList ?_
  have g := Grow.push (s := S.s) { cls := .type "list_iterator", data := .fields #[.ref a, .int 0 0] }
  have hfr : S.h.get? S.h.objs.size = none := fresh_none _
  obtain ⟨R2, T2⟩ := R.bad (W := fun b => b = S.h.objs.size) g fun b hb => by cases hb; exact ⟨hfr, _, Heap.get?_push_size _ rfl⟩
  have hne : a ≠ S.h.objs.size := by obtain ⟨n, e⟩ := pl; exact Nat.ne_of_lt (Heap.lt_size e)
  have hI0 : X.s₀.heap.get? S.h.objs.size = none := by
    cases e : X.s₀.heap.get? S.h.objs.size with
    | none => rfl
    | some o => have := R.keep _ o e; rw [hfr] at this; cases this
  have hIn : ∀ b ∈ [x, dx, ms, dl, D], b ≠ S.h.objs.size := fun b hb q => by
    obtain ⟨o, e⟩ := Q0.r.live b hb
    rw [q, hfr] at e; cases e
  have hcI : ∀ y' c, X.env.cells.lookup y' = some c → c ≠ S.h.objs.size := fun y' c hc q => by
    obtain ⟨v, o, e, _⟩ := R.acell y' c hc
    rw [q, hfr] at e; cases e
  have hI : Heap.IsListIter (S.s.heap.push { cls := .type "list_iterator", data := .fields #[.ref a, .int 0 0] }) S.h.objs.size a 0 := ⟨_, Heap.get?_push_size _ rfl, rfl, rfl⟩
  have hax : Heap.IsList (S.s.heap.push { cls := .type "list_iterator", data := .fields #[.ref a, .int 0 0] }) a us := pl.isList.push _
  have Q2 := Q0.tr T2
  have rs2 := T2.repAll rs
  refine comp_vol (elt := elt) (iter := .Name y py) (scope := scope) (pos := p2) (cl := cl) (S2 := ⟨{ S.s with heap := S.s.heap.push { cls := .type "list_iterator", data := .fields #[.ref a, .int 0 0] } }, S.M, fun b => S.B b ∨ b = S.h.objs.size⟩) (I := S.s.heap.objs.size) (ax := a) (items := us) (ds := ds) (rf := rf) (knf := knf) (N := N) (RR := fun acc L => compPost (model X.prog X.w) X.A (fun _ _ => False) (some (assign (.Name xn p3) X.env)) (fun _ s' => ∃ S' m' v, S'.s = s' ∧ RelV X (σ.set i (some (.fro (.list ((List.range ds.length).map rf))))) S' m' (fun j => if j = i then some v else vals j) ∧ RIn X S' x dx ms dl D mods dirs (knf ds.length) (N + ds.length)) acc L) R2 Q2 hI hax (fun q => q.elim haB hne) rs2 (.inr rfl) (R.nM hfr) hI0 hIn hD0 hcI C hcl1 hcl2 hro hrk hrv hri hrf htgt helt (by omega) ?_
  · intro Da L s5 Bf R5 Q5 rD ⟨m', hns⟩ hBL hML hx0 hcl hnL
    refine wpAny_assign_Name (wpAny_mono (store_varV R5 hx hst hil rD) (fun _ s6 q => ?_) fun _ _ f => f)
    obtain ⟨S6, m6, rfl, R6, T6, eM, eB⟩ := q
    obtain ⟨o, es, ep, e, hd, hrest⟩ := hns
    have e6 := T6.keep L o hML e
    refine ⟨m', ⟨o, es, ep, e6, hd, hrest⟩, fun h' hs' => ?_⟩
    have g : KB0 (fun b => b = L) S6.s { S6.s with heap := h' } := ⟨fun b o hb e => (hs'.2 b hb).trans e, rfl, rfl⟩
    have hWB : WBad (fun b => b = L) S6 := fun b hb => by
      cases hb
      exact ⟨T6.bkeep L o hBL hML e, fun q => (T6.msub L q).elim hML fun z => (by rw [e] at z; cases z), o, e6, fun v q => by rw [hd] at q; cases q⟩
    have Q6 := Q5.tr T6
    exact ⟨_, m6, .ref Da, rfl, R6.kb0 g hWB fun b hb => by cases hb; exact hx0, ⟨Q6.r.keeps fun b hb o e => (hs'.2 b (hnL b hb)).trans e, Q6.nm, Q6.b, hnL D (by simp)⟩⟩
end
end Mine
open PySem PySem.Spec PySem.Calls PySem.W PyProof.Rows
set_option Elab.async false
set_option maxRecDepth 100000
set_option maxHeartbeats 1000000
set_option linter.unusedVariables false
namespace Mine
/-- what a reader knows after the first i questions -/
noncomputable def stepK (ns dirs : List (List Nat)) (fo : Nat → Option (List Nat)) (nm : Nat → List Nat) (k0 : List Nat → Option Bool) : Nat → List Nat → Option Bool
  | 0 => k0
  | i + 1 => updK (stepK ns dirs fo nm k0 i) (nm i) (namesV ns dirs (stepK ns dirs fo nm k0 i) (fo i) (nm i))
noncomputable def plainV (ns dirs : List (List Nat)) (fo : Option (List Nat)) (nm : List Nat) : Bool := ns.contains nm || (ns.any (fun m => (m ++ [46]).isPrefixOf nm) || foB dirs fo)
variable {ns dirs : List (List Nat)} {fo : Nat → Option (List Nat)} {nm : Nat → List Nat} {k0 : List Nat → Option Bool} {n : Nat}
theorem stepK_first (hd : ∀ i j, i < n → j < n → nm i = nm j → i = j) (h0 : ∀ i, i < n → k0 (nm i) = none) : ∀ i, i ≤ n → (∀ j, j < i → stepK ns dirs fo nm k0 i (nm j) = some (plainV ns dirs (fo j) (nm j))) ∧ (∀ j, i ≤ j → j < n → stepK ns dirs fo nm k0 i (nm j) = none)
  | 0, _ => ⟨fun j h => absurd h (by omega), fun j _ h => h0 j h⟩
  | i + 1, hi => by
    obtain ⟨h1, h2⟩ := stepK_first hd h0 i (by omega)
    have hv : namesV ns dirs (stepK ns dirs fo nm k0 i) (fo i) (nm i) = plainV ns dirs (fo i) (nm i) := namesV_none (h2 i (Nat.le_refl _) (by omega))
    refine ⟨fun j hj => ?_, fun j hj hn => ?_⟩
    · show updK _ _ _ _ = _
      unfold updK
      by_cases e : nm j = nm i
      · have : j = i := hd j i (by omega) (by omega) e
        subst this
        rw [if_pos rfl, hv]
      · rw [if_neg e]
        exact h1 j (by
          rcases Nat.lt_or_ge j i with q | q
          · exact q
          · exact absurd (by rw [show j = i by omega]) e)
    · show updK _ _ _ _ = _
      unfold updK
      rw [if_neg fun e => by have := hd j i hn (by omega) e; omega]
      exact h2 j (by omega) hn
theorem names_first (hd : ∀ i j, i < n → j < n → nm i = nm j → i = j) (h0 : ∀ i, i < n → k0 (nm i) = none) {i : Nat} (hi : i < n) : namesV ns dirs (stepK ns dirs fo nm k0 i) (fo i) (nm i) = plainV ns dirs (fo i) (nm i) :=
  namesV_none ((stepK_first hd h0 i (by omega)).2 i (Nat.le_refl _) hi)
theorem stepK_second {V : Nat → Bool} (h0 : ∀ i, i < n → k0 (nm i) = some (V i)) : ∀ i, i ≤ n → ∀ j, j < n → stepK ns dirs fo nm k0 i (nm j) = some (V j)
  | 0, _, j, hj => h0 j hj
  | i + 1, hi, j, hj => by
    have ih := stepK_second h0 i (by omega)
    show updK _ _ _ _ = _
    unfold updK
    by_cases e : nm j = nm i
    · rw [if_pos e, namesV_some (ih i (by omega)), ← ih j hj, ← ih i (by omega), e]
    · rw [if_neg e]; exact ih j hj
theorem names_second {V : Nat → Bool} (h0 : ∀ i, i < n → k0 (nm i) = some (V i)) {i : Nat} (hi : i < n) : namesV ns dirs (stepK ns dirs fo nm k0 i) (fo i) (nm i) = V i :=
  namesV_some (stepK_second h0 i (by omega) i hi)
/-- 0 and 1 as texts -/
noncomputable def bt (b : Bool) : Str := S [if b then 49 else 48]
theorem bt_of (b : Bool) : Str.ofString (toString (bi b)) = bt b := by cases b <;> kernel_rfl
theorem bt_canlay (b : Bool) : (PyData.str (bt b)).canLay0 = true := by cases b <;> kernel_rfl
theorem bts_canlay (f : Nat → Bool) : ∀ l : List Nat, PyData.canLayAll0 (l.map fun k => .str (bt (f k))) = true
  | [] => rfl
  | k :: l => by
    show ((PyData.str (bt (f k))).canLay0 && PyData.canLayAll0 _) = true
    rw [bt_canlay, bts_canlay f l]; rfl
theorem bts_depth (f : Nat → Bool) : ∀ l : List Nat, PyData.depthAll (l.map fun k => .str (bt (f k))) = 0
  | [] => rfl
  | k :: l => by
    show max (PyData.depth (.str (bt (f k)))) (PyData.depthAll _) = 0
    rw [bts_depth f l]; rfl
theorem bts_shaped (f : Nat → Bool) (l : List Nat) : SeqAt.shaped (.list (l.map fun k => .str (bt (f k)))) = true := by
  unfold SeqAt.shaped
  rw [Bool.and_eq_true, decide_eq_true_eq]
  refine ⟨bts_canlay f l, ?_⟩
  show PyData.depthAll _ + 1 ≤ 64
  rw [bts_depth]; omega
theorem bts_eqv (f : Nat → Bool) (l : List Nat) : PyData.eqv (.list (l.map fun k => .str (bt (f k)))) (.list (l.map fun k => .str (bt (f k)))) = true := SeqAt.eqv_refl _ (bts_canlay f l)
theorem bts_nodict (f : Nat → Bool) : ∀ l : List Nat, noDicts (l.map fun k => .str (bt (f k))) = true
  | [] => rfl
  | k :: l => by
    show (noDict _ && noDicts _) = true
    rw [bts_nodict f l]; rfl
section
variable {X : Fx} {σ σ1 σ2 σ3 : Sg} {pos p2 p3 p4 : Pos} {k : Nat}
/-- ['1', '0'].index(one) -/
theorem ev_index10 {o e : Expr} {b : Bool} (ho : Ev X o σ (.list [.str (S [49]), .str (S [48])]) σ1) (ha : Ev X e σ1 (.str (bt b)) σ2) (hbase : attributeBase o "index" X.env (eval o X.env) = eval o X.env) (hline : (p2.endLine == pos.line) = true) (hst : isStarred e = false := by rfl) :
    Ev X (.Call (.Attribute o "index" p2) [e] [] pos) σ (.int (bi (!b))) σ2 :=
  ev_method (T := "list") (id := "list.index") ho (evs_cons ha evs_nil hst) hbase hline (by simp [hst]) (by simp) PySem.F.plainAttrs_list PySem.F.slot_list_index PySem.F.type_list_index (fun B h v s e r => typeList B h v s e r) fun S0 v vs R rv rs => by
    obtain ⟨a, us, rfl, _, ⟨n, pl⟩, ru⟩ := rep_list rv
    obtain ⟨u, rfl, r1⟩ := one_of rs
    obtain ⟨t, rfl⟩ := rep_str r1
    obtain ⟨v1, v2, hus, q1, q2⟩ := two_of ru
    obtain ⟨t1, rfl⟩ := rep_str q1
    obtain ⟨t2, rfl⟩ := rep_str q2
    have hus' : us = #[.str (S [49]) t1, .str (S [48]) t2] := by apply Array.ext'; simpa using hus
    subst hus'
    have eqs : ∀ y ∈ #[Value.str (S [49]) t1, .str (S [48]) t2], SeqAt.EqAt X.A.in1 S0.s y (.str (bt b) t) (isT (bt b) y) := fun y hy => by
      simp at hy
      rcases hy with rfl | rfl <;> exact SeqAt.EqAt.str_str _ _ _ _
    cases b with
    | true =>
      refine call_meets PySem.F.slot_list_index ⟨_, pl, rfl⟩ PySem.F.entry_list_index (PySem.F.args_list_index_2 _ _) (SeqAt.list_indexAt a _ n none #[] (.str (bt true) t) (isT (bt true)) 0 (by simp) (by omega) (by kernel_rfl) (fun m hm hlt => by omega)) ⟨pl, eqs, ⟨.tok _, .int _ _⟩⟩
    | false =>
      refine call_meets PySem.F.slot_list_index ⟨_, pl, rfl⟩ PySem.F.entry_list_index (PySem.F.args_list_index_2 _ _) (SeqAt.list_indexAt a _ n none #[] (.str (bt false) t) (isT (bt false)) 1 (by simp) (by omega) (by kernel_rfl) (fun m hm hlt => ?_)) ⟨pl, eqs, ⟨.tok _, .int _ _⟩⟩
      obtain rfl : m = 0 := by omega
      kernel_rfl
end
end Mine
open PySem PySem.Spec PySem.Calls PySem.W PyProof.Rows
set_option Elab.async false
set_option maxRecDepth 100000
set_option maxHeartbeats 2000000
set_option linter.unusedVariables false
namespace Mine
section
variable {X : Fx} {σ σ1 σ2 σ3 : Sg} {pos p2 p3 p4 : Pos} {k : Nat}
theorem store_cellV {i : Nat} {x : Str} {v : Value} {S : St} {m : Str → Option Value} {vals : Nat → Option Value} {c : Addr} {E : Value → Shared → Prop} (r : RelV X σ S m vals) (hx : X.tbl[i]? = some x) (hk : X.env.kindOf x = some .cell) (hc : X.env.cells.lookup x = some c) (hnew : X.s₀.heap.get? c = none) (hσ : σ.at i = none) :
    wpAny (model X.prog X.w) X.A (storeName X.env x v) (fun _ s' => ∃ S', S'.s = s' ∧ RelV X σ S' m (fun j => if j = i then some v else vals j) ∧ Tr S S' ∧ S'.M = S.M ∧ S'.B = S.B) E S.s := by
  obtain ⟨u₀, q₀⟩ := r.acell x c hc
  have hcM := (r.mcell x c hc).2 hnew
  refine wpAny_storeName_cell r.ok.kind hk hc q₀ fun h' hc' hs => ?_
  have hpl : ∀ a vs, S.h.PlainList a vs → a ≠ c := fun a vs p => cell_ne_plain q₀ p
  have hlive : ∃ o, h'.get? c = some o := let ⟨o, ho, _⟩ := hc'; ⟨o, ho⟩
  have T : Tr S ⟨{ S.s with heap := h' }, S.M, S.B⟩ := ⟨fun b o hb e => (hs.2 b (fun q => hb (q ▸ hcM))).trans e, fun _ h => .inl h, fun _ h => .inl h, fun _ _ h _ _ => h, r.sub, rfl, rfl, fun b o _ e => by
    by_cases q : b = c
    · rw [q]; exact hlive
    · exact ⟨o, (hs.2 b q).trans e⟩⟩
  refine ⟨⟨_, S.M, S.B⟩, rfl, ⟨r.ok, fun b o e => ?_, r.os, r.gens, r.ns.sameBut hs (cell_ne_ns q₀ r.ns), r.mL, r.mnew, r.sub, r.out, fun a ha => ?_, r.mcell, fun y c' hy => ?_, fun j y hy => ?_, fun j => ?_, fun j k' us ws h1 h2 h3 => ?_⟩, T, rfl, rfl⟩
  · refine (hs.2 b fun q => ?_).trans (r.keep b o e)
    rw [q, hnew] at e; cases e
  · by_cases q : a = c
    · obtain ⟨o, ho⟩ := hlive; rw [q]; exact Option.isSome_iff_exists.mpr ⟨o, ho⟩
    · have := r.ball a ha; rwa [← hs.2 a q] at this
  · by_cases q : c' = c
    · subst q; exact ⟨_, hc'⟩
    · obtain ⟨u, q1⟩ := r.acell y c' hy
      exact ⟨u, cell_keeps q1 fun o e => (hs.2 c' q).trans e⟩
  · by_cases hj : j = i
    · subst hj
      rw [hx] at hy; cases hy
      rw [if_pos rfl]
      exact .inr ⟨c, .inl hk, hc, hc'⟩
    · rw [if_neg hj]
      have hyx : y ≠ x := fun q => hj (tbl_inj r.ok.nodup hy (q ▸ hx))
      rcases r.var j y hy with q | ⟨c', q1, q2, q3⟩
      · exact .inl q
      · have : c' ≠ c := fun q => hyx (r.ok.inj y x c (q ▸ q2) hc)
        exact .inr ⟨c', q1, q2, cell_keeps q3 fun o e => (hs.2 c' this).trans e⟩
  · by_cases hj : j = i
    · subst hj; rw [hσ]; trivial
    · rw [if_neg hj]
      refine (r.slot j).tr (fun _ _ => T.rep) (fun _ _ => T.repAll) fun a o ha ho ⟨ys, hys⟩ hv => ⟨ha, (hs.2 a ?_).trans ho⟩
      have q := r.slot j
      rw [hys] at q
      obtain ⟨a', vs, e', _, hp, _⟩ := q
      rw [hv] at e'; cases e'
      exact hpl _ vs hp
  · have hj : j ≠ i := fun q => by rw [q, hσ] at h1; cases h1
    have hk : k' ≠ i := fun q => by rw [q, hσ] at h2; cases h2
    rw [if_neg hj, if_neg hk] at h3
    exact r.apart j k' us ws h1 h2 h3
/-- str(reader.names(e1, name)) -/
theorem ask_elt {S4 : St} {m4 : Str → Option Value} {vals4 : Nat → Option Value} {x dx ms dl D : Addr} {mods dirs : List (List Nat)} {kn : List Nat → Option Bool} {N : Nat} {fo : Option (List Nat)} {nm : List Nat} {rd yn : Str} {ji jn : Nat} {e1 : Expr} {q1 q2 q3 q4 q5 q6 : Pos}
    (r4 : RelV X σ S4 m4 vals4) (hR : Rdr X.prog X.w S4.h x dx ms dl D mods dirs kn N) (hBD : S4.B D) (hD0 : X.s₀.heap.get? D = none) (hri : X.tbl[ji]? = some rd) (hrv : vals4 ji = some (.ref x)) (hyn : X.tbl[jn]? = some yn) (hyv : σ.at jn = some (.fro (.str (S nm))))
    (he1 : isStarred e1 = false) (hev : ∀ (Q : Value → Shared → Prop), (∀ fv, Rep S4.B S4.h fv (foD fo) → Q fv S4.s) → wpAny (model X.prog X.w) X.A (eval e1 X.env) Q (fun _ _ => False) S4.s)
    (hb : Blt X "str" (.type "str")) (hn : 1 ≤ X.n) (hN : N ≤ 1000) (hlm : ∀ m ∈ mods, m.length ≤ 900) (hld : ∀ m ∈ dirs, m.length ≤ 900) (hline : (q3.endLine == q4.line) = true)
    (hga : findIn (KK X) (.ref 79) "__getattribute__" = some (some (.builtin "object.__getattribute__"))) (hgk : findIn (KK X) (.ref 79) "__getattr__" = some none) (hgf : findIn (KK X) (.ref 79) "names" = some (some (.ref 76))) (hgt : typeIn (KK X) (.ref 76) = some (.type "function")) (hfc : fnIn (KK X) 76 = true) :
    wpAny (model X.prog X.w) X.A (eval (.Call (.Name "str" q1) [.Call (.Attribute (.Name rd q2) "names" q3) [e1, .Name yn q5] [] q4] [] q6) X.env)
      (fun v s5 => (∃ y tk, v = .str y tk ∧ PyData.str (bt (namesV mods dirs kn fo nm)) = .str y) ∧ (∀ b o, b ≠ D → S4.h.get? b = some o → s5.heap.get? b = some o) ∧ s5.os = S4.s.os ∧ s5.gens = S4.s.gens ∧ Rdr X.prog X.w s5.heap x dx ms dl D mods dirs (updK kn nm (namesV mods dirs kn fo nm)) (N + 1)) (fun _ _ => False) S4.s := by
  have hst : backTo q4 (starEach [e1, .Name yn q5] X.env) = [(false, eval e1 X.env), (false, eval (.Name yn q5) X.env)] := by
    rw [starEach_cons he1]; rfl
  refine tree_Call_Name (load_blt r4 hb (PySem.callWith_type rfl (evalArgs_plain (spliced_cons ?_))))
  refine Call_inst rfl (by rw [hst]; rfl) hline (load_var r4 hri hrv fun pl => ?_)
  obtain ⟨es, n, d1, _, _, _, d5⟩ := hR.dict
  refine method_fn r4.rel.wd.K (inst_at hR d1) hga hgk hgf hgt (by show (lookIn "names" (dictOf es n)).map _ = _; rw [lookIn_dict, d5]; rfl) ?_
  unfold fnIn at hfc
  split at hfc
  · rename_i oc od fd sl ho
    rw [hst]
    have q := r4.slot jn
    rw [hyv] at q
    obtain ⟨nv, hnv, rnv⟩ := q
    refine callWith_function (o := ⟨oc, od, .func fd, sl⟩) (fd := fd) (evalArgs_plain (spliced_cons (hev _ fun fv rfv => spliced_cons (load_var r4 hyn hnv (spliced_nil ⟨⟨r4.rel.wd.K _ _ ho, rfl⟩, wpAny_call ?_⟩)))))
    have h1 := r4.ok.dep
    have h2 := r4.ok.uni
    refine call_names r4.ok.hh (by omega) (by omega) r4.keep r4.os r4.gens r4.ok.wd r4.ball hD0 hBD hR hN rfv rnv hlm hld fun t s5 ⟨a1, a2, a3, a4⟩ => ?_
    refine spliced_nil ?_
    refine PySem.P.str_of_int (by cases namesV mods dirs kn fo nm <;> decide) ?_
    exact ⟨⟨_, _, rfl, by rw [← bt_of]⟩, a1, a2, a3, a4.keeps fun b _ o e => e⟩
  · cases hfc
end
end Mine
open PySem PySem.Spec PySem.Calls PySem.W PyProof.Rows
set_option Elab.async false
set_option maxRecDepth 100000
set_option maxHeartbeats 2000000
set_option linter.unusedVariables false
namespace Mine
section
variable {X : Fx} {σ : Sg} {pos p2 p3 : Pos}
/-- the same, what is static settled by reckoning -/
theorem ex_lc_volC {i : Nat} {xn y : Str} {jy : Nat} {py : Pos} {elt t : Expr} {scope : Scope} {ds : List PyData} {rf : Nat → PyData} {tbl : List Str} {σ0 : Sg} {σa : Nat → Sg} {S : St} {m : Str → Option Value} {vals : Nat → Option Value} {E : Value → Shared → Prop}
    {x dx ms dl D : Addr} {mods dirs : List (List Nat)} {knf : Nat → List Nat → Option Bool} {N : Nat} {rd : Str} {jo ji : Nat}
    (R : RelV X σ S m vals) (Q0 : RIn X S x dx ms dl D mods dirs (knf 0) N) (hy : X.tbl[jy]? = some y) (hys : σ.at jy = some (.fro (.list ds))) (hD0 : X.s₀.heap.get? D = none)
    (nml : List (Str × NameKind)) (caps : List (Option Nat)) (hkd : ∀ x, nml.lookup x = some .cell ∨ nml.lookup x = some .free → X.env.kindOf x ≠ some .local) (hcc : compChk nml X.tbl scope tbl none caps = true) (h0 : capsG caps σ = σ0) (hro : X.tbl[jo]? = some rd) (hrk : X.env.kindOf rd = some .cell) (hrv : vals jo = some (.ref x)) (hri : tbl[ji]? = some rd) (hrf : scope.names.lookup rd = some .free)
    (htgt : ∀ env' s₀ O i d, CSub X scope none env' s₀ → ds[i]? = some d → As { X with s₀ := s₀, env := env', tbl := tbl, O := O } t σ0 d (σa i))
    (helt : ∀ env' s₀ O (S4 : St) m4 vals4 i, CSub X scope none env' s₀ → i < ds.length → RelV { X with s₀ := s₀, env := env', tbl := tbl, O := O } (σa i) S4 m4 vals4 → RIn X S4 x dx ms dl D mods dirs (knf i) (N + i) → vals4 ji = some (.ref x) → s₀.heap.get? D = none →
      wpAny (model X.prog X.w) X.A (eval elt env') (fun v s5 => (∃ y tk, v = .str y tk ∧ rf i = .str y) ∧ (∀ b o, b ≠ D → S4.h.get? b = some o → s5.heap.get? b = some o) ∧ s5.os = S4.s.os ∧ s5.gens = S4.s.gens ∧ Rdr X.prog X.w s5.heap x dx ms dl D mods dirs (knf (i + 1)) (N + (i + 1))) (fun _ _ => False) S4.s)
    (hsz : ds.length ≤ 10000) (hx : X.tbl[i]? = some xn) (hst : X.env.kindOf xn = some .local) (hil : i < σ.length)
    (hsw : swapsWith (.ListComp elt [⟨t, .Name y py, [], 0⟩] scope p2) (some (.Name xn p3)) pos.line X.env = pure true) (cf : ∀ n acc, cellsFrom n scope.names acc = ocCells none n acc := by intros; rfl) (pf : ∀ h : Heap, pushCells h scope.names = ocHeap none h := by intros; rfl) (hs : ∀ x, foldedSetIterable (.Name y py) X.env x = pure x := by intro _; rfl) :
    wpAny (model X.prog X.w) X.A (exec (.Assign [.Name xn p3] (.ListComp elt [⟨t, .Name y py, [], 0⟩] scope p2) pos) X.env)
      (fun fl s' => fl = .next ∧ ∃ S' m' v, S'.s = s' ∧ RelV X (σ.set i (some (.fro (.list ((List.range ds.length).map rf))))) S' m' (fun j => if j = i then some v else vals j) ∧ RIn X S' x dx ms dl D mods dirs (knf ds.length) (N + ds.length)) E S.s := 
  ex_lc_vol R Q0 hy hys hD0 (h0 ▸ compOK_mk nml caps hkd hcc cf pf) hro hrk hrv hri hrf htgt helt hsz hx hst hil hsw hs
end
noncomputable def pathOf (l : List Nat) : List Nat := 47 :: slash l
theorem fn_asked {prog : Program} {w : World} {n : Nat} {nm : Nat → List Nat} {ns ds : List (List Nat)} (hn : n ≤ 20) (hd : ∀ i j, i < n → j < n → nm i = nm j → i = j) (hs : ∀ i, i < n → nm i ≠ [60, 115, 116, 114, 105, 110, 103, 62])
    (hln : ns.length ≤ 900) (hlm : ∀ m ∈ ns, m.length ≤ 900) (hld : ds.length ≤ 900) (hok : ∀ d ∈ ds, NmOK d) (hdl : ∀ m ∈ ds.map pathOf, m.length ≤ 900) :
    Fn prog w 145 [placesD n nm, .list (strD ns), .list (strD (ds.map pathB))] (heldD n fun k => !plainV ns (ds.map pathOf) (some (pathOf (nm k))) (nm k)) 9 := by
  refine .of ?_
  intro A s B vs R hh hdep huni W hB hr hR
  obtain ⟨v0, v1, v2, rfl⟩ := len3 hr.length
  refine call_intro (n := 8) (s1 := s) (s₀ := s) (bvs := [v0, v1, v2]) ["places", "modules", "folders"] ["reader", "first", "again"] [some (placesD n nm), some (.list (strD ns)), some (.list (strD (ds.map pathB)))] rfl rfl rfl (by kernel_rfl) hh (by omega) (by omega)
    (fun Q E q => wpAny_of_eq rfl (by exact q)) rfl (.refl s) (fun _ _ e => e) rfl rfl W hB rfl (fun i d' hd' => ?_) fun env S0 m vals hF r hv g hb1 hb2 hM => ?_
  · match i, hd' with
    | 0, h => cases h; exact hr.get rfl
    | 1, h => cases h; exact hr.get rfl
    | 2, h => cases h; exact hr.get rfl
  obtain ⟨c, hc, hc0⟩ := hF.cel "reader" (by kernel_rfl)
  -- reader
  refine wpAny_execs_cons (wpAny_Assign_Name (tree_Call_Name (load_glob r (glb_ref (a := 79) (hF.kd (by kernel_rfl)) (by kernel_rfl) (by kernel_rfl)) (callWith_of (P := fun h => (Mine.heapK w.params).In h) rfl (keeps_K (by kernel_rfl)) (args_of (evs_cons (ev_name 1 rfl rfl) (evs_cons (ev_name 2 rfl rfl) evs_nil)) r rfl fun us S1 r1 T1 q => ⟨r1.rel.wd.K, ?_⟩)))) rfl)
  obtain ⟨u1, u2, rfl, q1, q2⟩ := two_of q
  refine wpAny_call (call_reader r1.ok.hh (by show A.depth + 1 + 8 < _; omega) (by show A.units + 3 + 10 * 8 + 200 < _; omega) r1.rel.wd r1.ball q1 q2 hln hld hok fun s2 x dx ms dl D g2 hx hdx hms hdlB hD hRd => ?_)
  show wpAny _ _ (storeName env "reader" (.ref x)) _ _ s2
  obtain ⟨r2, T2⟩ := r1.bad (W := fun b => b = D) g2 (fun b hb => by subst hb; exact ⟨hD, hRd.live _ (by simp)⟩)
  have Q2 := r_in (S := ⟨s2, S1.M, fun b => S1.B b ∨ b = D⟩) r2 hRd (fun b hb => by
    simp only [List.mem_cons, List.not_mem_nil, or_false] at hb
    rcases hb with rfl | rfl | rfl | rfl | rfl
    · exact r1.nM hx
    · exact r1.nM hdx
    · exact r1.nM hms
    · exact fun q => hdlB (r1.sub _ q)
    · exact r1.nM hD) (.inr rfl)
  have hD0 : s.heap.get? D = none := by
    cases e : s.heap.get? D with
    | none => rfl
    | some o => have := r1.keep D o e; rw [show S1.h.get? D = none from hD] at this; cases this
  refine wpAny_mono (store_cellV (i := 3) (S := ⟨s2, S1.M, fun b => S1.B b ∨ b = D⟩) r2 rfl (hF.kd (by kernel_rfl)) hc hc0 rfl) (fun _ s3 q => ?_) fun _ _ f => f
  obtain ⟨S3, rfl, r3, T3, _, _⟩ := q
  have Q3 := Q2.tr T3
  dsimp only
  -- first
  have hpl : ((List.range n).map (placeD nm)).length = n := by simp
  refine wpAny_execs_cons (wpAny_mono (ex_lc_volC (tbl := ["name", "path", "reader"]) (i := 4) (jy := 0) (jo := 3) (ji := 2) (ds := (List.range n).map (placeD nm)) (rd := "reader") (knf := stepK ns (ds.map pathOf) (fun i => some (pathOf (nm i))) nm kn0) (N := 1)
    (rf := fun i => .str (bt (namesV ns (ds.map pathOf) (stepK ns (ds.map pathOf) (fun i => some (pathOf (nm i))) nm kn0 i) (some (pathOf (nm i))) (nm i)))) (σa := fun i => [some (.fro (.str (S (nm i)))), some (.fro (.str (S (pathOf (nm i))))), none]) r3 Q3 rfl rfl hD0 _ [none, none, some 3] hF.hkd (by kernel_rfl) rfl rfl (hF.kd (by kernel_rfl)) (by simp) rfl (by kernel_rfl)
    (fun env' s₀ O i d cs hd' => ?_) (fun env' s₀ O S4 m4 vals4 i cs hi r4 Q4 hr4 hd0 => ?_) (by rw [hpl]; omega) rfl (hF.kd (by kernel_rfl)) (by simp) (swaps_of (hF.kd (by kernel_rfl)) (by rw [hF.scope]) rfl (by kernel_rfl))) (fun fl s4 q => ?_) fun _ _ f => f)
  · rw [List.getElem?_map] at hd'
    cases hri : (List.range n)[i]? with
    | none => rw [hri] at hd'; cases hd'
    | some j =>
      rw [hri] at hd'; cases hd'
      obtain rfl : j = i := by
        have := (List.getElem?_eq_some_iff.mp hri).2
        simpa using this.symm
      exact as_tuple (ass_cons (as_name 0 rfl (cs.sto (by kernel_rfl)) (by exact Nat.le_of_ble_eq_true rfl)) (ass_cons (as_name 1 rfl (cs.sto (by kernel_rfl)) (by exact Nat.le_of_ble_eq_true rfl)) ass_nil))
  · exact ask_elt (jn := 0) (fo := some (pathOf (nm i))) r4 Q4.r Q4.b hd0 rfl hr4 rfl rfl rfl (fun Q hQ => by
      have q := r4.slot 1
      obtain ⟨fv, hfv, rfv⟩ := q
      exact load_var r4 rfl hfv (hQ fv rfv)) (blt_of (cs.glob (by kernel_rfl)) (by kernel_rfl) (by kernel_rfl) (by kernel_rfl)) (by exact Nat.le_of_ble_eq_true rfl) (Nat.le_trans (Nat.add_le_add_left (Nat.le_of_lt (hpl ▸ hi : i < n)) 1) (by omega)) hlm hdl rfl (by kernel_rfl) (by kernel_rfl) (by kernel_rfl) (by kernel_rfl) (by kernel_rfl)
  obtain ⟨rfl, S4, m4, v4, rfl, r4, Q4⟩ := q
  dsimp only
  have hk0 : ∀ i, i < n → kn0 (nm i) = none := fun i hi => by unfold kn0; rw [if_neg (hs i hi)]
  rw [hpl] at r4 Q4
  have e1 : ((List.range n).map fun i => PyData.str (bt (namesV ns (ds.map pathOf) (stepK ns (ds.map pathOf) (fun i => some (pathOf (nm i))) nm kn0 i) (some (pathOf (nm i))) (nm i)))) = (List.range n).map fun i => .str (bt (plainV ns (ds.map pathOf) (some (pathOf (nm i))) (nm i))) :=
    List.map_congr_left fun i hi => by rw [names_first (fo := fun i => some (pathOf (nm i))) hd hk0 (List.mem_range.mp hi)]
  rw [e1] at r4
  -- again
  refine wpAny_execs_cons (wpAny_mono (ex_lc_volC (tbl := ["name", "path", "reader"]) (i := 5) (jy := 0) (jo := 3) (ji := 2) (ds := (List.range n).map (placeD nm)) (rd := "reader") (knf := stepK ns (ds.map pathOf) (fun i => none) nm (stepK ns (ds.map pathOf) (fun i => some (pathOf (nm i))) nm kn0 n)) (N := 1 + n)
    (rf := fun i => .str (bt (namesV ns (ds.map pathOf) (stepK ns (ds.map pathOf) (fun i => none) nm (stepK ns (ds.map pathOf) (fun i => some (pathOf (nm i))) nm kn0 n) i) none (nm i)))) (σa := fun i => [some (.fro (.str (S (nm i)))), some (.fro (.str (S (pathOf (nm i))))), none]) r4 Q4 rfl rfl hD0 _ [none, none, some 3] hF.hkd (by kernel_rfl) rfl rfl (hF.kd (by kernel_rfl)) (by simp) rfl (by kernel_rfl)
    (fun env' s₀ O i d cs hd' => ?_) (fun env' s₀ O S5 m5 vals5 i cs hi r5 Q5 hr5 hd0 => ?_) (by rw [hpl]; omega) rfl (hF.kd (by kernel_rfl)) (by simp) (swaps_of (hF.kd (by kernel_rfl)) (by rw [hF.scope]) rfl (by kernel_rfl))) (fun fl s5 q => ?_) fun _ _ f => f)
  · rw [List.getElem?_map] at hd'
    cases hri : (List.range n)[i]? with
    | none => rw [hri] at hd'; cases hd'
    | some j =>
      rw [hri] at hd'; cases hd'
      obtain rfl : j = i := by
        have := (List.getElem?_eq_some_iff.mp hri).2
        simpa using this.symm
      exact as_tuple (ass_cons (as_name 0 rfl (cs.sto (by kernel_rfl)) (by exact Nat.le_of_ble_eq_true rfl)) (ass_cons (as_name 1 rfl (cs.sto (by kernel_rfl)) (by exact Nat.le_of_ble_eq_true rfl)) ass_nil))
  · exact ask_elt (jn := 0) (fo := none) r5 Q5.r Q5.b hd0 rfl hr5 rfl rfl rfl (fun Q hQ => wpAny_Constant_none (hQ _ .none)) (blt_of (cs.glob (by kernel_rfl)) (by kernel_rfl) (by kernel_rfl) (by kernel_rfl)) (by exact Nat.le_of_ble_eq_true rfl) (Nat.le_trans (Nat.add_le_add_left (Nat.le_of_lt (hpl ▸ hi : i < n)) (1 + n)) (by omega)) hlm hdl rfl (by kernel_rfl) (by kernel_rfl) (by kernel_rfl) (by kernel_rfl) (by kernel_rfl)
  obtain ⟨rfl, S5, m5, v5, rfl, r5, Q5⟩ := q
  dsimp only
  rw [hpl] at r5
  have e2 : ((List.range n).map fun i => PyData.str (bt (namesV ns (ds.map pathOf) (stepK ns (ds.map pathOf) (fun i => none) nm (stepK ns (ds.map pathOf) (fun i => some (pathOf (nm i))) nm kn0 n) i) none (nm i)))) = (List.range n).map fun i => .str (bt (plainV ns (ds.map pathOf) (some (pathOf (nm i))) (nm i))) :=
    List.map_congr_left fun i hi => by rw [names_second (fo := fun i => none) (V := fun i => plainV ns (ds.map pathOf) (some (pathOf (nm i))) (nm i)) (fun j hj => (stepK_first (fo := fun i => some (pathOf (nm i))) hd hk0 n (Nat.le_refl _)).1 j hj) (List.mem_range.mp hi)]
  rw [e2] at r5
  refine wpAny_mono (Exs.run (exs_ret (ex_return (ev_ifexp (b := true) (tt_b (tt_cmp (ev_name 4 rfl rfl) (ev_name 5 rfl rfl) (c_eqd (bts_shaped _ _) (bts_shaped _ _) (bts_nodict _ _) (bts_nodict _ _))) (bts_eqv _ _)) (fun _ => ev_lc (ds := (List.range n).map fun i => .str (bt (plainV ns (ds.map pathOf) (some (pathOf (nm i))) (nm i)))) (rr := (List.range n).map fun k => .int (bi (!plainV ns (ds.map pathOf) (some (pathOf (nm k))) (nm k)))) ((List.range n).map fun k => some (.int (bi (!plainV ns (ds.map pathOf) (some (pathOf (nm k))) (nm k))))) ["one"] none _ [none] hF.hkd (evi_list (ev_name 5 rfl rfl)) (by kernel_rfl) rfl (fun env' s1 O' hC => ?_) (filt_map _ _) (by simp; omega) (by intro h; cases h)) (fun h => by cases h)))) r5.rel) (fun fl s6 q => ?_) fun _ _ f => f
  · refine comp_of _ fun v hv => TurnC.take (as_name 0 rfl (hC.sto (by kernel_rfl)) (by exact Nat.le_of_ble_eq_true rfl)) .nil (ev_index10 (ev_list (evs_cons (ev_strL (l := [49]) (by kernel_rfl)) (evs_cons (ev_strL (l := [48]) (by kernel_rfl)) evs_nil)) (by exact Nat.le_of_ble_eq_true rfl)) (ev_name 0 rfl rfl) rfl rfl)
  · obtain ⟨S6, rfl, T6, v, σ6, rfl, ⟨m6, vals6, R6⟩, rv⟩ := q
    exact hR _ _ ⟨R6.keep, R6.os, R6.gens⟩ (Rep.tr (fun b o hb e => ⟨fun q => hb (R6.out b ⟨q, hB b q⟩), e⟩) rv)
end Mine
open PySem PySem.Spec PySem.Calls PySem.W PyProof.Rows
set_option Elab.async false
set_option maxRecDepth 100000
set_option maxHeartbeats 1000000
set_option linter.unusedVariables false
namespace Mine
/-- places and the lines of those around them -/
structure Forest (n : Nat) (line : Nat → List Nat) : Prop where
  cons : ∀ k, k < n → line k = [] ∨ ∃ p, p < k ∧ line k = p :: line p
variable {n : Nat} {line : Nat → List Nat}
theorem Forest.lt (F : Forest n line) : ∀ k, k < n → ∀ v ∈ line k, v < k := by
  intro k
  induction k using Nat.strongRecOn with
  | ind k ih =>
    intro hk v hv
    rcases F.cons k hk with e | ⟨p, hp, e⟩
    · rw [e] at hv; cases hv
    · rw [e] at hv
      rcases List.mem_cons.mp hv with rfl | q
      · exact hp
      · exact Nat.lt_trans (ih p hp (by omega) v q) hp
theorem Forest.drop (F : Forest n line) : ∀ k, k < n → ∀ v ∈ line k, ∀ w ∈ line v, w ∈ (line k).drop 1 := by
  intro k
  induction k using Nat.strongRecOn with
  | ind k ih =>
    intro hk v hv w hw
    rcases F.cons k hk with e | ⟨p, hp, e⟩
    · rw [e] at hv; cases hv
    · rw [e] at hv ⊢
      rcases List.mem_cons.mp hv with rfl | q
      · exact hw
      · exact List.mem_of_mem_drop (ih p hp (by omega) v q w hw)
theorem Forest.sub (F : Forest n line) {k v w : Nat} (hk : k < n) (hv : v ∈ line k) (hw : w ∈ line v) : w ∈ line k := List.mem_of_mem_drop (F.drop k hk v hv w hw)
theorem Forest.ahead2 (F : Forest n line) (f : Hl) {k : Nat} (hk : k < n) : (line k).all (fun v => (line v).all f) = ((line k).drop 1).all f := by
  rw [Bool.eq_iff_iff, List.all_eq_true, List.all_eq_true]
  constructor
  · intro h w hw
    rcases F.cons k hk with e | ⟨p, hp, e⟩
    · rw [e] at hw; simp at hw
    · have := h p (by rw [e]; simp)
      rw [List.all_eq_true] at this
      rw [e] at hw
      exact this w hw
  · intro h v hv
    rw [List.all_eq_true]
    exact fun w hw => h w (F.drop k hk v hv w hw)
theorem Forest.along2 (F : Forest n line) (f : Hl) {k : Nat} (hk : k < n) : (k :: line k).all (fun v => (v :: line v).all f) = (k :: line k).all f := by
  rw [Bool.eq_iff_iff, List.all_eq_true, List.all_eq_true]
  constructor
  · intro h w hw
    have := h w hw
    rw [List.all_eq_true] at this
    exact this w (by simp)
  · intro h v hv
    rw [List.all_eq_true]
    intro w hw
    rcases List.mem_cons.mp hw with rfl | q
    · exact h w hv
    · rcases List.mem_cons.mp hv with rfl | q'
      · exact h w (List.mem_cons_of_mem _ q)
      · exact h w (List.mem_cons_of_mem _ (F.sub hk q' q))
noncomputable def alL (line : Nat → List Nat) (f : Hl) : Hl := fun k => (k :: line k).all f
noncomputable def ahL (line : Nat → List Nat) (f : Hl) : Hl := fun k => (line k).all f
/-- what a box says at a place of a content -/
noncomputable def cont (line : Nat → List Nat) (mk : Bool → Hl) (b : Bx) (v : Hl) (k : Nat) : Bool := b.turn ^^ twoB b.sign ((if 0 < b.dots.val then k :: line k else [k]).all fun w => b.back ^^ v w) (mk b.mark k)
noncomputable def scope (line : Nat → List Nat) (b : Bx) (k : Nat) : List Nat := (line k).drop b.far.toNat
theorem Forest.box (F : Forest n line) (mk : Bool → Hl) (b : Bx) (v : Hl) {k : Nat} (hk : k < n) : boxV (alL line) (ahL line) mk b v k = (scope line b k).all (cont line mk b v) := by
  have hc : ∀ w, w < n → (b.turn ^^ twoB b.sign (dotsV (alL line) b.dots (fun k => b.back ^^ v k) w) (mk b.mark w)) = cont line mk b v w := fun w hw => by
    unfold cont
    have e : dotsV (alL line) b.dots (fun k => b.back ^^ v k) w = (if 0 < b.dots.val then w :: line w else [w]).all fun w => b.back ^^ v w := by
      generalize b.dots = d
      match d with
      | 0 => simp [dotsV]
      | 1 => rfl
      | 2 => exact F.along2 _ hw
      | 3 => rfl
    rw [e]
  unfold boxV scope
  cases b.far with
  | false =>
    show (line k).all _ = ((line k).drop 0).all _
    rw [List.drop_zero]
    rw [Bool.eq_iff_iff, List.all_eq_true, List.all_eq_true]
    exact ⟨fun h w hw => by rw [← hc w (Nat.lt_trans (F.lt k hk w hw) hk)]; exact h w hw, fun h w hw => by rw [hc w (Nat.lt_trans (F.lt k hk w hw) hk)]; exact h w hw⟩
  | true =>
    show (line k).all (fun v' => (line v').all _) = ((line k).drop 1).all _
    rw [F.ahead2 _ hk, Bool.eq_iff_iff, List.all_eq_true, List.all_eq_true]
    exact ⟨fun h w hw => by rw [← hc w (Nat.lt_trans (F.lt k hk w (List.mem_of_mem_drop hw)) hk)]; exact h w hw, fun h w hw => by rw [hc w (Nat.lt_trans (F.lt k hk w (List.mem_of_mem_drop hw)) hk)]; exact h w hw⟩
theorem scope_line {b : Bx} {k v : Nat} (h : v ∈ scope line b k) : v ∈ line k := List.mem_of_mem_drop h
theorem Forest.scope_mono (F : Forest n line) {b : Bx} {k v w : Nat} (hk : k < n) (hv : v ∈ line k) (hw : w ∈ scope line b v) : w ∈ scope line b k := by
  unfold scope at *
  cases b.far with
  | false => exact F.sub hk hv (List.mem_of_mem_drop hw)
  | true => exact F.drop k hk v hv w (List.mem_of_mem_drop hw)
theorem Forest.all_mono (F : Forest n line) {b : Bx} {C : Hl} {k v : Nat} (hk : k < n) (hv : v ∈ k :: line k) (h : (scope line b k).all C = true) : (scope line b v).all C = true := by
  rcases List.mem_cons.mp hv with rfl | hv
  · exact h
  · rw [List.all_eq_true] at h ⊢
    exact fun w hw => h w (F.scope_mono hk hv hw)
theorem Forest.loc (F : Forest n line) (b : Bx) {C C' : Hl} {k : Nat} (hk : k < n) (h : ∀ v ∈ line k, (scope line b v).all C = true → C v = C' v) : (scope line b k).all C = (scope line b k).all C' :=
  box_loc (S := scope line b) (fun v hv w hw => F.scope_mono hk (scope_line hv) hw) (fun v hv w hw => F.lt v (Nat.lt_trans (F.lt k hk v (scope_line hv)) hk) w (scope_line hw)) fun v hv hA => h v (scope_line hv) hA
/-- a content looks at its place and those around alone -/
theorem cont_congr {mk : Bool → Hl} {b : Bx} {f g : Hl} {k : Nat} (h : ∀ w ∈ k :: line k, f w = g w) : cont line mk b f k = cont line mk b g k := by
  unfold cont
  congr 2
  rw [Bool.eq_iff_iff, List.all_eq_true, List.all_eq_true]
  have hs : ∀ w, w ∈ (if 0 < b.dots.val then k :: line k else [k]) → w ∈ k :: line k := fun w hw => by
    split at hw
    · exact hw
    · simp at hw; rw [hw]; simp
  exact ⟨fun q w hw => by rw [← h w (hs w hw)]; exact q w hw, fun q w hw => by rw [h w (hs w hw)]; exact q w hw⟩
end Mine
open PySem PySem.Spec PySem.Calls PySem.W PyProof.Rows
set_option Elab.async false
set_option maxRecDepth 100000
set_option maxHeartbeats 1000000
set_option linter.unusedVariables false
namespace Mine
theorem WalkF.forest {L : Law} {n : Nat} {u : Nat → Int} {line : Nat → List Nat} {mk : Bool → Nat → Bool} {told kept : Nat → Bool → Bool} (W : WalkF L n u line mk told kept) : Forest n line where
  cons := fun k hk => by
    rw [W.hline k hk]
    by_cases h : 0 ≤ u k
    · rw [if_pos h]; exact .inr ⟨_, W.below k hk h, rfl⟩
    · rw [if_neg h]; exact .inl rfl
theorem formV_congr {mk : Bool → Hl} {f : Fm} {a b a' b' : Hl} {k : Nat} (h0 : a k = a' k) (h1 : b k = b' k) : formV mk f a b k = formV mk f a' b' k := by unfold formV; rw [h0, h1]
section
variable {L : Law} {n : Nat} {u : Nat → Int} {line : Nat → List Nat} {mk : Bool → Nat → Bool} {told kept : Nat → Bool → Bool}
noncomputable def hH (L : Law) (line : Nat → List Nat) (kept : Nat → Bool → Bool) (i : Bool) : Hl := fun k => (scope line (L.bx i) k).all fun v => kept v i
noncomputable def kK (L : Law) (line : Nat → List Nat) (mk : Bool → Hl) (i : Bool) : Hl := fun k => (scope line (L.bx i) k).all (cont line mk (L.bx i) (formV mk (L.fm (L.bx i).about) (fun _ => true) fun _ => true))
theorem WalkF.told' (W : WalkF L n u line mk told kept) {k : Nat} (hk : k < n) (wh : Bool) : told k wh = formV mk (L.fm wh) (hH L line kept false) (hH L line kept true) k := by
  rw [W.htold k hk wh]
  unfold formV hH scope
  rw [List.all_map, List.all_map]
  rfl
theorem WalkF.kept' (W : WalkF L n u line mk told kept) {k : Nat} (hk : k < n) (i : Bool) : kept k i = cont line mk (L.bx i) (fun v => told v (L.bx i).about) k := by
  rw [W.hkept k hk i]
  unfold cont
  rw [List.all_map]
  have : (0 < fin (L.bx i).dots) ↔ (0 < (L.bx i).dots.val) := by unfold fin; omega
  simp only [this]
  rfl
theorem WalkF.hH' (W : WalkF L n u line mk told kept) {k : Nat} (hk : k < n) (i : Bool) : hH L line kept i k = (scope line (L.bx i) k).all (cont line mk (L.bx i) fun v => told v (L.bx i).about) := by
  unfold hH
  have h : ∀ v ∈ scope line (L.bx i) k, kept v i = cont line mk (L.bx i) (fun v => told v (L.bx i).about) v := fun v hv => W.kept' (Nat.lt_trans (W.forest.lt k hk v (scope_line hv)) hk) i
  rw [Bool.eq_iff_iff, List.all_eq_true, List.all_eq_true]
  exact ⟨fun q v hv => by rw [← h v hv]; exact q v hv, fun q v hv => by rw [h v hv]; exact q v hv⟩
/-- where one box holds, the other says what it says with yes for both -/
theorem WalkF.other (W : WalkF L n u line mk told kept) {k : Nat} (hk : k < n) (i : Bool) (hj : hH L line kept (!i) k = true) : hH L line kept i k = kK L line mk i k := by
  have F := W.forest
  rw [W.hH' hk]
  unfold kK
  refine F.loc (L.bx i) hk fun v hv hA => cont_congr fun w hw => ?_
  have hvn : v < n := Nat.lt_trans (F.lt k hk v hv) hk
  have hwk : w ∈ line k := by
    rcases List.mem_cons.mp hw with rfl | q
    · exact hv
    · exact F.sub hk hv q
  have hwn : w < n := Nat.lt_trans (F.lt k hk w hwk) hk
  have h1 : hH L line kept i w = true := by
    rw [W.hH' hwn]
    exact F.all_mono hvn hw hA
  have h2 : hH L line kept (!i) w = true := F.all_mono hk (List.mem_cons_of_mem _ hwk) hj
  show told w (L.bx i).about = _
  rw [W.told' hwn]
  cases i
  · exact formV_congr h1 h2
  · exact formV_congr h2 h1
theorem WalkF.fix (W : WalkF L n u line mk told kept) {k : Nat} (hk : k < n) (i : Bool) :
    hH L line kept i k = (scope line (L.bx i) k).all (cont line mk (L.bx i) (formV mk (L.fm (L.bx i).about) (if i then kK L line mk false else fun _ => true) (if i then fun _ => true else kK L line mk true))) := by
  have F := W.forest
  rw [W.hH' hk]
  refine F.loc (L.bx i) hk fun v hv hA => cont_congr fun w hw => ?_
  have hvn : v < n := Nat.lt_trans (F.lt k hk v hv) hk
  have hwk : w ∈ line k := by
    rcases List.mem_cons.mp hw with rfl | q
    · exact hv
    · exact F.sub hk hv q
  have hwn : w < n := Nat.lt_trans (F.lt k hk w hwk) hk
  have h1 : hH L line kept i w = true := by
    rw [W.hH' hwn]
    exact F.all_mono hvn hw hA
  show told w (L.bx i).about = _
  rw [W.told' hwn]
  cases i
  · exact formV_congr h1 (W.other hwn true h1)
  · exact formV_congr (W.other hwn false h1) h1
/-- the sentence without itself holds where the statement holds -/
theorem WalkF.val (W : WalkF L n u line mk told kept) {k : Nat} (hk : k < n) (wh : Bool) : val0 (alL line) (ahL line) mk L wh k = told k wh := by
  have F := W.forest
  have b0 : ∀ i, bitS 0 i = false := by intro i; cases i <;> rfl
  have e3 : ∀ a, val3 (alL line) (ahL line) mk L a = formV mk (L.fm a) (fun _ => true) fun _ => true := fun a => by
    unfold val3 dueV saidV; rw [bit3, bit3]; rfl
  have e1 : ∀ a w, w < n → val1 (alL line) (ahL line) mk L a w = formV mk (L.fm a) (fun _ => true) (kK L line mk true) w := fun a w hw => by
    unfold val1 dueV saidV
    rw [show bitS 1 false = true by rfl, show bitS 1 true = false by rfl]
    refine formV_congr rfl ?_
    show boxV _ _ _ _ _ w = _
    rw [F.box mk _ _ hw]
    dsimp only
    rw [e3]
    rfl
  have e2 : ∀ a w, w < n → val2 (alL line) (ahL line) mk L a w = formV mk (L.fm a) (kK L line mk false) (fun _ => true) w := fun a w hw => by
    unfold val2 dueV saidV
    rw [show bitS 2 false = false by rfl, show bitS 2 true = true by rfl]
    refine formV_congr ?_ rfl
    show boxV _ _ _ _ _ w = _
    rw [F.box mk _ _ hw]
    dsimp only
    rw [e3]
    rfl
  have hc : ∀ (b : Bx) (f g : Hl), (∀ w, w < n → f w = g w) → (scope line b k).all (cont line mk b f) = (scope line b k).all (cont line mk b g) := fun b f g h => by
    have h' : ∀ v ∈ scope line b k, cont line mk b f v = cont line mk b g v := fun v hv => cont_congr fun w hw => h w (by
      have hvk := F.lt k hk v (scope_line hv)
      rcases List.mem_cons.mp hw with rfl | q
      · omega
      · have := F.lt v (by omega) w q; omega)
    rw [Bool.eq_iff_iff, List.all_eq_true, List.all_eq_true]
    exact ⟨fun q v hv => by rw [← h' v hv]; exact q v hv, fun q v hv => by rw [h' v hv]; exact q v hv⟩
  rw [W.told' hk wh]
  unfold val0 dueV saidV
  rw [b0, b0]
  refine formV_congr ?_ ?_
  · show boxV _ _ _ _ _ k = _
    rw [F.box mk _ _ hk, W.fix hk false]
    exact hc _ _ _ fun w hw => e1 _ w hw
  · show boxV _ _ _ _ _ k = _
    rw [F.box mk _ _ hk, W.fix hk true]
    exact hc _ _ _ fun w hw => e2 _ w hw
end
end Mine
open PySem PySem.Spec PySem.Calls PySem.W PyProof.Rows
set_option Elab.async false
set_option maxRecDepth 100000
set_option maxHeartbeats 1000000
set_option linter.unusedVariables false
namespace Mine
structure Plc (n : Nat) (u : Nat → Int) (nm : Nat → List Nat) (line : Nat → List Nat) : Prop where
  names : Names n u nm
  hline : ∀ k, k < n → line k = if 0 ≤ u k then (u k).toNat :: line (u k).toNat else []
  len : ∀ k, k < n → (nm k).length ≤ 400
variable {n : Nat} {u : Nat → Int} {nm : Nat → List Nat} {line : Nat → List Nat}
theorem Plc.forest (P : Plc n u nm line) : Forest n line where
  cons := fun k hk => by
    rw [P.hline k hk]
    by_cases h : 0 ≤ u k
    · rw [if_pos h]; exact .inr ⟨_, P.names.below k hk h, rfl⟩
    · rw [if_neg h]; exact .inl rfl
noncomputable def trail (l : List Nat) : Nat := (l.reverse.takeWhile (· == 97)).length
theorem trail_of (X : List Nat) (m : Nat) (h : X = [] ∨ ∃ Y, X = Y ++ [46]) : trail (X ++ List.replicate m 97) = m := by
  unfold trail
  rw [List.reverse_append, List.reverse_replicate]
  have : ∀ m : Nat, ∀ Z : List Nat, (Z = [] ∨ ∃ Y, Z = 46 :: Y) → (List.takeWhile (· == 97) (List.replicate m 97 ++ Z)).length = m := by
    intro m
    induction m with
    | zero =>
      intro Z hZ
      rcases hZ with rfl | ⟨Y, rfl⟩ <;> simp
    | succ m ih =>
      intro Z hZ
      rw [List.replicate_succ, List.cons_append, List.takeWhile_cons_of_pos (by rfl), List.length_cons, ih Z hZ]
  refine this m _ ?_
  rcases h with rfl | ⟨Y, rfl⟩
  · exact .inl rfl
  · exact .inr ⟨Y.reverse, by simp⟩
theorem Plc.trail (P : Plc n u nm line) {k : Nat} (hk : k < n) : trail (nm k) = k + 1 := by
  rw [P.names.eq k hk]
  refine trail_of _ _ ?_
  by_cases h : 0 ≤ u k
  · rw [if_pos h]; exact .inr ⟨_, rfl⟩
  · rw [if_neg h]; exact .inl rfl
theorem Plc.inj (P : Plc n u nm line) {i j : Nat} (hi : i < n) (hj : j < n) (e : nm i = nm j) : i = j := by
  have h1 := P.trail hi
  have h2 := P.trail hj
  rw [e] at h1
  omega
theorem Plc.chars (P : Plc n u nm line) : ∀ k, k < n → ∀ c ∈ nm k, c = 46 ∨ c = 97 := by
  intro k
  induction k using Nat.strongRecOn with
  | ind k ih =>
    intro hk c hc
    rw [P.names.eq k hk] at hc
    rcases List.mem_append.mp hc with q | q
    · by_cases h : 0 ≤ u k
      · rw [if_pos h] at q
        rcases List.mem_append.mp q with q | q
        · have := P.names.below k hk h
          exact ih _ this (by omega) c q
        · simp at q; exact .inl q
      · rw [if_neg h] at q; cases q
    · exact .inr (List.eq_of_mem_replicate q)
theorem Plc.prefix (P : Plc n u nm line) : ∀ k, k < n → ∀ v, v < n → ((nm v ++ [46]) <+: nm k ↔ v ∈ line k) := by
  intro k
  induction k using Nat.strongRecOn with
  | ind k ih =>
    intro hk v hv
    rw [P.hline k hk]
    have he := P.names.eq k hk
    by_cases h : 0 ≤ u k
    · rw [if_pos h] at he ⊢
      have hp := P.names.below k hk h
      generalize hpp : (u k).toNat = p at he hp ⊢
      constructor
      · intro hx
        have hpk : (nm p ++ [46]) <+: nm k := by rw [he]; exact List.prefix_append _ _
        rcases Nat.lt_trichotomy (nm v).length (nm p).length with q | q | q
        · have : (nm v ++ [46]) <+: nm p := List.prefix_of_prefix_length_le hx ((List.prefix_append _ _).trans hpk) (by simp; omega)
          exact List.mem_cons_of_mem _ ((ih p hp (by omega) v hv).mp this)
        · have h1 : (nm v ++ [46]) <+: (nm p ++ [46]) := List.prefix_of_prefix_length_le hx hpk (by simp; omega)
          have h2 := h1.eq_of_length (by simp; omega)
          have h3 : nm v = nm p := List.append_cancel_right h2
          rw [P.inj hv (by omega) h3]; simp
        · exfalso
          obtain ⟨t, ht⟩ := hx
          have g1 : (nm k)[(nm v).length]? = some 46 := by rw [← ht]; simp
          rw [he, List.getElem?_append_right (by simp; omega)] at g1
          have := List.mem_of_getElem? g1
          have := List.eq_of_mem_replicate this
          cases this
      · intro hm
        have hpk : (nm p ++ [46]) <+: nm k := by rw [he]; exact List.prefix_append _ _
        rcases List.mem_cons.mp hm with rfl | q
        · exact hpk
        · exact (((ih p hp (by omega) v hv).mpr q).trans (List.prefix_append _ _)).trans hpk
    · rw [if_neg h] at he ⊢
      constructor
      · intro hx
        exfalso
        have : (46 : Nat) ∈ nm k := hx.subset (by simp)
        rw [he] at this
        simp at this
      · intro hm; cases hm
theorem slash_app (l m : List Nat) : slash (l ++ m) = slash l ++ slash m := by simp [slash]
noncomputable def unslash (l : List Nat) : List Nat := l.map fun c => if c = 47 then 46 else c
theorem unslash_slash {l : List Nat} (h : ∀ c ∈ l, c = 46 ∨ c = 97) : unslash (slash l) = l := by
  unfold unslash slash
  rw [List.map_map]
  conv => rhs; rw [← List.map_id l]
  apply List.map_congr_left
  intro c hc
  rcases h c hc with rfl | rfl <;> rfl
theorem path_prefix {a b : List Nat} (ha : ∀ c ∈ a, c = 46 ∨ c = 97) (hb : ∀ c ∈ b, c = 46 ∨ c = 97) : (pathOf a ++ [47]) <+: pathOf b ↔ (a ++ [46]) <+: b := by
  have e : pathOf a ++ [47] = 47 :: slash (a ++ [46]) := by rw [slash_app]; rfl
  rw [e]
  unfold pathOf
  rw [List.cons_prefix_cons]
  constructor
  · rintro ⟨_, h⟩
    have := h.map (fun c => if c = 47 then 46 else c)
    have h1 : unslash (slash (a ++ [46])) <+: unslash (slash b) := this
    rwa [unslash_slash hb, unslash_slash (fun c hc => by
      rcases List.mem_append.mp hc with q | q
      · exact ha c q
      · simp at q; exact .inl q)] at h1
  · intro h
    exact ⟨rfl, h.map _⟩
theorem jn_snoc : ∀ {cs : List (List Nat)} {x : List Nat}, cs ≠ [] → jn (cs ++ [x]) = jn cs ++ 47 :: x
  | [], _, h => absurd rfl h
  | [c], x, _ => rfl
  | c :: d :: cs, x, _ => by
    have ih := jn_snoc (cs := d :: cs) (x := x) (by simp)
    rw [List.cons_append, jn_cons (by simp), ih, jn_two]
    simp
theorem Plc.comps (P : Plc n u nm line) : ∀ k, k < n → ∃ cs : List (List Nat), cs ≠ [] ∧ (∀ c ∈ cs, c ≠ [] ∧ ∀ x ∈ c, x = 97) ∧ (cs.map List.length).sum + cs.length = (nm k).length + 1 ∧ slash (nm k) = jn cs := by
  intro k
  induction k using Nat.strongRecOn with
  | ind k ih =>
    intro hk
    have he := P.names.eq k hk
    have hr : ∀ c ∈ [List.replicate (k + 1) 97], c ≠ [] ∧ ∀ x ∈ c, x = 97 := fun c hc => by
      simp only [List.mem_singleton] at hc
      subst hc
      exact ⟨by simp [List.replicate_succ], fun x hx => List.eq_of_mem_replicate hx⟩
    have hsr : slash (List.replicate (k + 1) 97) = List.replicate (k + 1) 97 := by simp [slash]
    by_cases h : 0 ≤ u k
    · rw [if_pos h] at he
      have hp := P.names.below k hk h
      obtain ⟨cs, h1, h2, h3, h4⟩ := ih _ hp (by omega)
      refine ⟨cs ++ [List.replicate (k + 1) 97], by simp, fun c hc => ?_, ?_, ?_⟩
      · rcases List.mem_append.mp hc with q | q
        · exact h2 c q
        · exact hr c q
      · rw [he]
        simp only [List.map_append, List.sum_append, List.length_append, List.map_cons, List.map_nil, List.sum_cons, List.sum_nil, List.length_replicate, List.length_cons, List.length_nil]
        omega
      · rw [he, jn_snoc h1, slash_app, slash_app, h4, hsr]
        simp [slash]
    · rw [if_neg h] at he
      refine ⟨[List.replicate (k + 1) 97], by simp, hr, ?_, ?_⟩
      · rw [he]; simp
      · rw [he, List.nil_append, hsr]; rfl
theorem slash_len (l : List Nat) : (slash l).length = l.length := by simp [slash]
theorem Plc.ok (P : Plc n u nm line) {k : Nat} (hk : k < n) : NmOK (nm k) := by
  obtain ⟨cs, h1, h2, h3, h4⟩ := P.comps k hk
  have hl := P.len k hk
  have hj : (jn cs).length = (nm k).length := by rw [← h4, slash_len]
  have e : jn (cs ++ [[98], [46, 46]]) = jn cs ++ [47, 98, 47, 46, 46] := by
    have : cs ++ [[98], [46, 46]] = (cs ++ [[98]]) ++ [[46, 46]] := by simp
    rw [this, jn_snoc (by simp), jn_snoc h1]
    simp
  refine ⟨cs, h1, h2, by omega, h4, by omega, ?_, ?_⟩
  · rw [e, pathB, h4]; rfl
  · rw [e]; simp; omega
theorem heldD_congr {f g : Nat → Bool} (h : ∀ k, k < n → f k = g k) : heldD n f = heldD n g := by
  unfold heldD
  congr 1
  exact List.map_congr_left fun k hk => by rw [h k (List.mem_range.mp hk)]
section
variable {prog : Program} {w : World}
theorem Plc.dist (P : Plc n u nm line) : ∀ i j, i < n → j < n → nm i = nm j → i = j := fun i j hi hj e => P.inj hi hj e
theorem Plc.noString (P : Plc n u nm line) : ∀ i, i < n → nm i ≠ [60, 115, 116, 114, 105, 110, 103, 62] := fun i hi e => by
  have := P.chars i hi 60 (by rw [e]; simp)
  rcases this with h | h <;> cases h
theorem Plc.fn_ah (P : Plc n u nm line) (held : Hl) : Fn prog w 150 [placesD n nm, heldD n held] (heldD n (ahL line held)) 10 := by
  have hn := P.names.small
  have hlen : (((List.range n).filter fun k => !held k).map nm).length ≤ 20 := by
    rw [List.length_map]
    exact Nat.le_trans (List.length_filter_le _ _) (by simpa using hn)
  have hmem : ∀ d ∈ ((List.range n).filter fun k => !held k).map nm, ∃ v, v < n ∧ held v = false ∧ d = nm v := fun d hd => by
    obtain ⟨v, hv, rfl⟩ := List.mem_map.mp hd
    obtain ⟨h1, h2⟩ := List.mem_filter.mp hv
    exact ⟨v, List.mem_range.mp h1, by simpa using h2, rfl⟩
  have hA := fn_asked (prog := prog) (w := w) (n := n) (nm := nm) (ns := []) (ds := ((List.range n).filter fun k => !held k).map nm) hn P.dist P.noString (by simp) (fun m hm => nomatch hm) (by omega) (fun d hd => by
    obtain ⟨v, hv, _, rfl⟩ := hmem d hd
    exact P.ok hv) (fun m hm => by
    obtain ⟨d, hd, rfl⟩ := List.mem_map.mp hm
    obtain ⟨v, hv, _, rfl⟩ := hmem d hd
    have := P.len v hv
    simp [pathOf, slash_len]; omega)
  have e : (heldD n fun k => !plainV [] ((((List.range n).filter fun k => !held k).map nm).map pathOf) (some (pathOf (nm k))) (nm k)) = heldD n (ahL line held) := heldD_congr fun k hk => by
    unfold plainV ahL foB
    simp only [List.contains_nil, List.any_nil, Bool.false_or]
    rw [Bool.eq_iff_iff, Bool.not_eq_true', List.any_eq_false, List.all_eq_true]
    constructor
    · intro h v hv
      have hvn : v < n := Nat.lt_trans (P.forest.lt k hk v hv) hk
      cases hh : held v with
      | true => rfl
      | false =>
        exfalso
        refine h (pathOf (nm v)) (List.mem_map.mpr ⟨nm v, List.mem_map.mpr ⟨v, List.mem_filter.mpr ⟨List.mem_range.mpr hvn, by simp [hh]⟩, rfl⟩, rfl⟩) ?_
        rw [List.isPrefixOf_iff_prefix, path_prefix (P.chars v hvn) (P.chars k hk)]
        exact (P.prefix k hk v hvn).mpr hv
    · intro h p hp hpre
      obtain ⟨d, hd, rfl⟩ := List.mem_map.mp hp
      obtain ⟨v, hvn, hh, rfl⟩ := hmem d hd
      rw [List.isPrefixOf_iff_prefix, path_prefix (P.chars v hvn) (P.chars k hk)] at hpre
      have := h v ((P.prefix k hk v hvn).mp hpre)
      rw [hh] at this; cases this
  rw [e] at hA
  refine fn_ahead hn (fun k hk => Nat.le_trans (P.len k hk) (by omega)) ?_
  rw [List.map_map] at hA
  exact hA
theorem Plc.fn_al (P : Plc n u nm line) (held : Hl) : Fn prog w 155 [placesD n nm, heldD n held] (heldD n (alL line held)) 10 := by
  have hn := P.names.small
  have hlen : (((List.range n).filter fun k => !held k).map nm).length ≤ 20 := by
    rw [List.length_map]
    exact Nat.le_trans (List.length_filter_le _ _) (by simpa using hn)
  have hmem : ∀ d ∈ ((List.range n).filter fun k => !held k).map nm, ∃ v, v < n ∧ held v = false ∧ d = nm v := fun d hd => by
    obtain ⟨v, hv, rfl⟩ := List.mem_map.mp hd
    obtain ⟨h1, h2⟩ := List.mem_filter.mp hv
    exact ⟨v, List.mem_range.mp h1, by simpa using h2, rfl⟩
  have hA := fn_asked (prog := prog) (w := w) (n := n) (nm := nm) (ns := ((List.range n).filter fun k => !held k).map nm) (ds := []) hn P.dist P.noString (by omega) (fun m hm => by
    obtain ⟨v, hv, _, rfl⟩ := hmem m hm
    have := P.len v hv
    omega) (by simp) (fun d hd => nomatch hd) (fun m hm => nomatch hm)
  have e : (heldD n fun k => !plainV (((List.range n).filter fun k => !held k).map nm) (([] : List (List Nat)).map pathOf) (some (pathOf (nm k))) (nm k)) = heldD n (alL line held) := heldD_congr fun k hk => by
    unfold plainV alL foB
    simp only [List.map_nil, List.any_nil, Bool.or_false]
    rw [Bool.eq_iff_iff, Bool.not_eq_true', Bool.or_eq_false_iff, List.any_eq_false, List.all_eq_true]
    constructor
    · rintro ⟨h1, h2⟩ v hv
      have hvn : v < n := by
        rcases List.mem_cons.mp hv with rfl | q
        · exact hk
        · exact Nat.lt_trans (P.forest.lt k hk v q) hk
      cases hh : held v with
      | true => rfl
      | false =>
        exfalso
        have hin : nm v ∈ ((List.range n).filter fun k => !held k).map nm := List.mem_map.mpr ⟨v, List.mem_filter.mpr ⟨List.mem_range.mpr hvn, by simp [hh]⟩, rfl⟩
        rcases List.mem_cons.mp hv with rfl | q
        · have := List.contains_iff_mem.mpr hin
          rw [h1] at this; cases this
        · refine h2 (nm v) hin ?_
          rw [List.isPrefixOf_iff_prefix]
          exact (P.prefix k hk v hvn).mpr q
    · intro h
      constructor
      · rw [Bool.eq_false_iff]
        intro hc
        obtain ⟨v, hvn, hh, e⟩ := hmem _ (List.contains_iff_mem.mp hc)
        have := h k (by simp)
        rw [P.inj hk hvn e, hh] at this; cases this
      · intro m hm hpre
        obtain ⟨v, hvn, hh, rfl⟩ := hmem m hm
        rw [List.isPrefixOf_iff_prefix] at hpre
        have := h v (List.mem_cons_of_mem _ ((P.prefix k hk v hvn).mp hpre))
        rw [hh] at this; cases this
  rw [e] at hA
  exact fn_along hn (fun k hk => Nat.le_trans (P.len k hk) (by omega)) hA
end
end Mine
open PySem PySem.Spec PySem.Calls PySem.W PyProof.Rows
set_option Elab.async false
set_option maxRecDepth 100000
set_option maxHeartbeats 1000000
set_option linter.unusedVariables false
namespace Mine
/-- a function told by what it is below -/
theorem exists_rec {α : Type} [Inhabited α] (G : (Nat → α) → Nat → α) (hG : ∀ f g k, (∀ v, v < k → f v = g v) → G f k = G g k) : ∀ m, ∃ f : Nat → α, ∀ k, k < m → f k = G f k
  | 0 => ⟨fun _ => default, fun k h => absurd h (by omega)⟩
  | m + 1 => by
    obtain ⟨f, hf⟩ := exists_rec G hG m
    refine ⟨fun k => if k = m then G f m else f k, fun k hk => ?_⟩
    by_cases h : k = m
    · subst h
      simp only [if_true]
      exact hG _ _ _ fun v hv => by rw [if_neg (by omega)]
    · simp only [if_neg h]
      rw [hf k (by omega)]
      exact hG _ _ _ fun v hv => by rw [if_neg (by omega)]
theorem exists_line (u : Nat → Int) (hu : ∀ k, 0 ≤ u k → (u k).toNat < k) (m : Nat) : ∃ line : Nat → List Nat, ∀ k, k < m → line k = if 0 ≤ u k then (u k).toNat :: line (u k).toNat else [] :=
  exists_rec (fun f k => if 0 ≤ u k then (u k).toNat :: f (u k).toNat else []) (fun f g k h => by
    by_cases q : 0 ≤ u k
    · simp only [if_pos q, h _ (hu k q)]
    · simp only [if_neg q]) m
theorem exists_names (u : Nat → Int) (hu : ∀ k, 0 ≤ u k → (u k).toNat < k) (m : Nat) : ∃ nm : Nat → List Nat, ∀ k, k < m → nm k = (if 0 ≤ u k then nm (u k).toNat ++ [46] else []) ++ List.replicate (k + 1) 97 :=
  exists_rec (fun f k => (if 0 ≤ u k then f (u k).toNat ++ [46] else []) ++ List.replicate (k + 1) 97) (fun f g k h => by
    by_cases q : 0 ≤ u k
    · simp only [if_pos q, h _ (hu k q)]
    · simp only [if_neg q]) m
theorem all_map_congr {α : Type} {l : List α} {f g : α → Bool} (h : ∀ v ∈ l, f v = g v) : (l.map f).all id = (l.map g).all id := by
  rw [List.map_congr_left h]
theorem exists_walk (L : Law) (line : Nat → List Nat) (mk : Bool → Nat → Bool) (m : Nat) (hlt : ∀ k, k < m → ∀ v ∈ line k, v < k) : ∃ told kept : Nat → Bool → Bool, ∀ k, k < m →
    (∀ wh, told k wh = ((L.fm wh).turn ^^ twoB (L.fm wh).sign ((L.fm wh).first ^^ (((line k).drop (L.bx false).far.toNat).map fun v => kept v false).all id) (twoB (L.fm wh).other ((L.fm wh).second ^^ (((line k).drop (L.bx true).far.toNat).map fun v => kept v true).all id) (mk (L.fm wh).mark k)))) ∧
    (∀ i, kept k i = ((L.bx i).turn ^^ twoB (L.bx i).sign (((if 0 < fin (L.bx i).dots then k :: line k else [k]).map fun v => ((L.bx i).back ^^ told v (L.bx i).about)).all id) (mk (L.bx i).mark k))) := by
  induction m with
  | zero => exact ⟨fun _ _ => true, fun _ _ => true, fun k h => absurd h (by omega)⟩
  | succ m ih =>
    obtain ⟨told, kept, h⟩ := ih fun k hk => hlt k (by omega)
    let t := fun wh : Bool => ((L.fm wh).turn ^^ twoB (L.fm wh).sign ((L.fm wh).first ^^ (((line m).drop (L.bx false).far.toNat).map fun v => kept v false).all id) (twoB (L.fm wh).other ((L.fm wh).second ^^ (((line m).drop (L.bx true).far.toNat).map fun v => kept v true).all id) (mk (L.fm wh).mark m)))
    let told' : Nat → Bool → Bool := fun k wh => if k = m then t wh else told k wh
    let c := fun i : Bool => ((L.bx i).turn ^^ twoB (L.bx i).sign (((if 0 < fin (L.bx i).dots then m :: line m else [m]).map fun v => ((L.bx i).back ^^ told' v (L.bx i).about)).all id) (mk (L.bx i).mark m))
    let kept' : Nat → Bool → Bool := fun k i => if k = m then c i else kept k i
    have hk' : ∀ k, k < m + 1 → ∀ i d, ((((line k).drop d).map fun v => kept' v i).all id) = (((line k).drop d).map fun v => kept v i).all id := fun k hk i d => all_map_congr fun v hv => by
      have := hlt k hk v (List.mem_of_mem_drop hv)
      show (if v = m then _ else _) = _
      rw [if_neg (by omega)]
    refine ⟨told', kept', fun k hk => ⟨fun wh => ?_, fun i => ?_⟩⟩
    · rw [hk' k hk, hk' k hk]
      by_cases e : k = m
      · subst e
        show (if k = k then _ else _) = _
        rw [if_pos rfl]
      · show (if k = m then _ else _) = _
        rw [if_neg e]
        exact (h k (by omega)).1 wh
    · by_cases e : k = m
      · subst e
        show (if k = k then _ else _) = _
        rw [if_pos rfl]
      · show (if k = m then _ else _) = _
        rw [if_neg e, (h k (by omega)).2 i]
        congr 2
        refine all_map_congr fun v hv => ?_
        have hvm : v < m := by
          have hl := hlt k hk
          split at hv
          · rcases List.mem_cons.mp hv with rfl | q
            · omega
            · have := hl v q; omega
          · simp at hv; omega
        show _ = ((L.bx i).back ^^ (if v = m then _ else _))
        rw [if_neg (by omega)]
/-- all that the law reckons about places -/
theorem exists_all (L : Law) (u : Nat → Int) (hu : ∀ k, 0 ≤ u k → (u k).toNat < k) (mk : Bool → Nat → Bool) {n : Nat} (hn : n ≤ 8) : ∃ line nm told kept, WalkF L n u line mk told kept ∧ Plc n u nm line := by
  obtain ⟨line, hl⟩ := exists_line u hu n
  obtain ⟨nm, hm⟩ := exists_names u hu n
  have F : Forest n line := ⟨fun k hk => by
    rw [hl k hk]
    by_cases h : 0 ≤ u k
    · rw [if_pos h]; exact .inr ⟨_, hu k h, rfl⟩
    · rw [if_neg h]; exact .inl rfl⟩
  have hlt := F.lt
  obtain ⟨told, kept, hw⟩ := exists_walk L line mk n hlt
  have hlen : ∀ k, k < n → (line k).length ≤ k := by
    intro k
    induction k using Nat.strongRecOn with
    | ind k ih =>
      intro hk
      rcases F.cons k hk with e | ⟨p, hp, e⟩
      · rw [e]; simp
      · have := ih p hp (by omega)
        rw [e]; simp; omega
  have hnl : ∀ k, k < n → (nm k).length ≤ 50 * (k + 1) := by
    intro k
    induction k using Nat.strongRecOn with
    | ind k ih =>
      intro hk
      rw [hm k hk]
      by_cases h : 0 ≤ u k
      · have hp := hu k h
        have := ih _ hp (by omega)
        rw [if_pos h]
        simp only [List.length_append, List.length_replicate, List.length_cons, List.length_nil]
        omega
      · rw [if_neg h]; simp; omega
  refine ⟨line, nm, told, kept, ⟨by omega, hl, fun k _ h => hu k h, hlt, fun k hk => by have := hlen k hk; omega, fun k hk wh => (hw k hk).1 wh, fun k hk i => (hw k hk).2 i⟩, ⟨⟨by omega, fun k _ h => hu k h, hm, fun k hk => by have := hnl k hk; omega⟩, hl, fun k hk => by have := hnl k hk; omega⟩⟩
/-- figures as forms and boxes -/
theorem fm2 (y : Int) : bi (y.fmod 2 == 1) = y.fmod 2 := by
  have h : y.fmod 2 = 0 ∨ y.fmod 2 = 1 := by
    rw [Int.fmod_eq_emod_of_nonneg _ (by decide)]; omega
  rcases h with h | h <;> rw [h] <;> rfl
theorem fmn_lt (y : Int) (n : Nat) (hn : 0 < n) : (y.fmod n).toNat < n := by
  rw [Int.fmod_eq_emod_of_nonneg _ (by omega)]
  have h1 := Int.emod_nonneg y (b := n) (by omega)
  have h2 := Int.emod_lt_of_pos y (b := n) (by omega)
  omega
noncomputable def sg8 (y : Int) : Fin 8 := ⟨(y.fmod 8).toNat, fmn_lt y 8 (by decide)⟩
noncomputable def sg4 (y : Int) : Fin 4 := ⟨(y.fmod 4).toNat, fmn_lt y 4 (by decide)⟩
theorem fm8 (y : Int) : fin (sg8 y) = y.fmod 8 := by
  unfold fin sg8
  have : 0 ≤ y.fmod 8 := by rw [Int.fmod_eq_emod_of_nonneg _ (by decide)]; omega
  show ((y.fmod 8).toNat : Int) = _
  omega
theorem fm4 (y : Int) : fin (sg4 y) = y.fmod 4 := by
  unfold fin sg4
  have : 0 ≤ y.fmod 4 := by rw [Int.fmod_eq_emod_of_nonneg _ (by decide)]; omega
  show ((y.fmod 4).toNat : Int) = _
  omega
theorem fm_of (x : Int) : ∃ f : Fm, PyData.list ((figs x [2, 8, 2, 8, 2, 2]).map .int) = f.d := by
  refine ⟨{ turn := x.fmod 2 == 1, sign := sg8 (x.fdiv 2), first := ((x.fdiv 2).fdiv 8).fmod 2 == 1, other := sg8 (((x.fdiv 2).fdiv 8).fdiv 2), second := ((((x.fdiv 2).fdiv 8).fdiv 2).fdiv 8).fmod 2 == 1, mark := (((((x.fdiv 2).fdiv 8).fdiv 2).fdiv 8).fdiv 2).fmod 2 == 1 }, ?_⟩
  unfold Fm.d
  dsimp only
  rw [fm2, fm2, fm2, fm2, fm8, fm8]
  rfl
theorem bx_of (x : Int) : ∃ b : Bx, PyData.list ((figs x [2, 2, 8, 4, 2, 2, 2]).map .int) = b.d := by
  refine ⟨{ far := x.fmod 2 == 1, turn := (x.fdiv 2).fmod 2 == 1, sign := sg8 ((x.fdiv 2).fdiv 2), dots := sg4 (((x.fdiv 2).fdiv 2).fdiv 8), back := ((((x.fdiv 2).fdiv 2).fdiv 8).fdiv 4).fmod 2 == 1, mark := (((((x.fdiv 2).fdiv 2).fdiv 8).fdiv 4).fdiv 2).fmod 2 == 1, about := ((((((x.fdiv 2).fdiv 2).fdiv 8).fdiv 4).fdiv 2).fdiv 2).fmod 2 == 1 }, ?_⟩
  unfold Bx.d
  dsimp only
  rw [fm2, fm2, fm2, fm2, fm2, fm8, fm4]
  rfl
end Mine
open PySem PySem.Spec PySem.Calls PySem.W PyProof.Rows
set_option Elab.async false
set_option maxRecDepth 100000
set_option maxHeartbeats 1000000
set_option linter.unusedVariables false
namespace Mine
theorem pickD_int (xs : List Int) (lo hi st : Option Int) : ∃ ys : List Int, pickD (xs.map .int) lo hi st = ys.map .int := by
  unfold pickD
  rw [List.length_map]
  generalize sliceRange _ _ _ = l
  refine ⟨l.filterMap (xs[·]?), ?_⟩
  rw [List.map_filterMap]
  congr 1
  funext i
  rw [List.getElem?_map]
theorem ints_nodict : ∀ l : List Int, noDicts (l.map .int) = true
  | [] => rfl
  | k :: l => by
    show (noDict _ && noDicts _) = true
    rw [ints_nodict l]; rfl
theorem ints_eqv (l : List Int) : PyData.eqv (.list (l.map .int)) (.list (l.map .int)) = true := SeqAt.eqv_refl _ (PyProof.Rows.canLayAll_ints l)
theorem nest_shaped (l : List Int) : SeqAt.shaped (.list [.list (l.map .int)]) = true := by
  unfold SeqAt.shaped
  rw [Bool.and_eq_true, decide_eq_true_eq]
  constructor
  · show ((PyData.list (l.map .int)).canLay0 && PyData.canLayAll0 []) = true
    rw [show (PyData.list (l.map .int)).canLay0 = true from PyProof.Rows.canLayAll_ints l]; rfl
  · show max (PyData.depthAll (l.map .int) + 1) (PyData.depthAll []) + 1 ≤ 64
    rw [PyProof.Rows.depthAll_ints, show PyData.depthAll [] = 0 by rfl]; omega
theorem nest_nodict (l : List Int) : noDict (.list [.list (l.map .int)]) = true := by
  show (noDicts (l.map .int) && noDicts []) = true
  rw [ints_nodict]; rfl
theorem nest_eqv (l : List Int) : PyData.eqv (.list [.list (l.map .int)]) (.list [.list (l.map .int)]) = true := SeqAt.eqv_refl _ (by
  have := nest_shaped l
  unfold SeqAt.shaped at this
  rw [Bool.and_eq_true] at this
  exact this.1)
theorem heldD_ints (n : Nat) (f : Nat → Bool) : heldD n f = .list (((List.range n).map fun k => bi (f k)).map .int) := by
  unfold heldD; rw [List.map_map]; rfl
section
variable {X : Fx} {σ σ1 σ2 σ3 : Sg} {pos p2 p3 p4 : Pos} {k : Nat}
/-- {i1: .., i2: .., i3: ..} -/
theorem ev_dict3 {i1 i2 i3 : Int} {e1 e2 e3 : Expr} {d1 d2 d3 : PyData} {k1 k2 k3 : Nat} {q1 q2 q3 : Pos} (h12 : i1 ≠ i2) (h13 : i1 ≠ i3) (h23 : i2 ≠ i3) (h1 : Ev X e1 σ d1 σ1) (h2 : Ev X e2 σ1 d2 σ2) (h3 : Ev X e3 σ2 d3 σ3) :
    Ev X (.Dict [some (.Constant (.int i1) k1 q1), some (.Constant (.int i2) k2 q2), some (.Constant (.int i3) k3 q3)] [e1, e2, e3] pos) σ (.dict [(.int i1, d1), (.int i2, d2), (.int i3, d3)]) σ3 := .of fun S0 m vals R => by
  refine wpAny_Dict_pairs (knd := intKind X.prog X.w) (pairs := [(eval (.Constant (.int i1) k1 q1) X.env, do let x ← eval e1 X.env; standAt pos; pure x), (eval (.Constant (.int i2) k2 q2) X.env, do let x ← eval e2 X.env; standAt pos; pure x), (eval (.Constant (.int i3) k3 q3) X.env, do let x ← eval e3 X.env; standAt pos; pure x)]) rfl (by simp) (by simp) ?_
  have hfr : S0.h.get? S0.s.heap.objs.size = none := fresh_none _
  have hsys : (S0.s.heap.objs.size == sysModules) = false := by
    have h1 : @LT.lt Nat _ sysModules S0.s.heap.objs.size := modules_low R.rel.wd.nolimit
    rw [beq_eq_false_iff_ne]
    exact neA (by omega)
  generalize hDa : S0.s.heap.objs.size = Da at hfr hsys ⊢
  have hget : (S0.s.heap.push { cls := .type "dict", data := .dict #[] }).get? Da = some { cls := .type "dict", data := .dict #[] } := by rw [← hDa]; exact Heap.get?_push_size _ rfl
  have hd0 : (S0.s.heap.push { cls := .type "dict", data := .dict #[] }).DictOf (intKind X.prog X.w) Da [] := by rw [← hDa]; exact Heap.DictOf.new _
  have g0 : Grow S0.s { S0.s with heap := S0.s.heap.push { cls := .type "dict", data := .dict #[] } } := .push _
  obtain ⟨R1, T1⟩ := R.bad (W := fun b => b = Da) g0 (fun b hb => by subst hb; exact ⟨hfr, _, hget⟩)
  refine evalPairs_cons (wpAny_Constant_int (wpAny_bind ?_))
  have ga := Grow.tok (s := { S0.s with heap := S0.s.heap.push { cls := .type "dict", data := .dict #[] } }) (S0.s.toks + 1)
  have Ta := ga.tr (S := ⟨_, S0.M, fun b => S0.B b ∨ b = Da⟩) R1.sub
  refine wpAny_mono (h1.go ⟨_, S0.M, fun b => S0.B b ∨ b = Da⟩ m vals (R1.grow ga)) (fun v1 s1 q => wpAny_bind (wpAny_standAt (wpAny_pure ?_))) fun _ _ f => f
  obtain ⟨S1, rfl, R2, T2, r1⟩ := q
  refine evalPairs_cons (wpAny_Constant_int (wpAny_bind ?_))
  have gb := Grow.tok (s := S1.s) (S1.s.toks + 1)
  have Tb := gb.tr R2.sub
  refine wpAny_mono (h2.go ⟨_, S1.M, S1.B⟩ m vals (R2.grow gb)) (fun v2 s2 q => wpAny_bind (wpAny_standAt (wpAny_pure ?_))) fun _ _ f => f
  obtain ⟨S2, rfl, R3, T3, r2⟩ := q
  refine evalPairs_cons (wpAny_Constant_int (wpAny_bind ?_))
  have gc := Grow.tok (s := S2.s) (S2.s.toks + 1)
  have Tc := gc.tr R3.sub
  refine wpAny_mono (h3.go ⟨_, S2.M, S2.B⟩ m vals (R3.grow gc)) (fun v3 s3 q => wpAny_bind (wpAny_standAt (wpAny_pure (evalPairs_nil ?_)))) fun _ _ f => f
  obtain ⟨S3, rfl, R4, T4, r3⟩ := q
  -- from the making of the dict on
  have TT : Tr ⟨{ S0.s with heap := S0.s.heap.push { cls := .type "dict", data := .dict #[] } }, S0.M, fun b => S0.B b ∨ b = Da⟩ S3 := Ta.trans (T2.trans (Tb.trans (T3.trans (Tc.trans T4))))
  have nM : ¬ S0.M Da := R.nM hfr
  have hB3 : S3.B Da := TT.bkeep Da _ (.inr rfl) nM hget
  have nM3 : ¬ S3.M Da := fun q => (TT.msub Da q).elim nM fun z => by rw [show (S0.s.heap.push _).get? Da = none from z] at hget; cases hget
  have hd3 : S3.h.DictOf (intKind X.prog X.w) Da [] := hd0.at fun o e => TT.keep Da o nM e
  have rr1 := (Tb.trans (T3.trans (Tc.trans T4))).rep r1
  have rr2 := (Tc.trans T4).rep r2
  refine ⟨[(i1, v1), (i2, v2), (i3, v3)], ⟨intKind_is _ _ _ _, rfl, intKind_is _ _ _ _, rfl, intKind_is _ _ _ _, rfl, trivial⟩, hd3, fun h' hd hs => ?_⟩
  have em : merged [] [(i1, v1), (i2, v2), (i3, v3)] = [(i1, v1), (i2, v2), (i3, v3)] := by
    have a1 : ¬ i1 = i2 := h12
    have a2 : ¬ i1 = i3 := h13
    have a3 : ¬ i2 = i3 := h23
    simp [merged, stored, a1, a2, a3]
  rw [em] at hd
  obtain ⟨o', es, ep, ho', hex, hdd, hkk, hpp, hnn⟩ := id hd
  have nc : ∀ v, o'.data ≠ .cell v := fun v q => by rw [hdd] at q; cases q
  obtain ⟨o3, es3, ep3, ho3, hex3, hdd3, _⟩ := id hd3
  have hWB : WBad (fun b => b = Da) S3 := fun b hb => by
    subst hb
    exact ⟨hB3, nM3, o3, ho3, fun v q => by rw [hdd3] at q; cases q⟩
  have kb : KB (fun b => b = Da) S3.s { S3.s with heap := h', toks := S3.s.toks + 3 } := ⟨fun b o hb e => (hs.2 b hb).trans e, fun b hb => by subst hb; exact ⟨o', ho', nc⟩, rfl, rfl⟩
  have hX0 : X.s₀.heap.get? Da = none := by
    cases e : X.s₀.heap.get? Da with
    | none => rfl
    | some o => have := R.keep Da o e; rw [hfr] at this; cases this
  have R5 := R4.kb kb hWB (fun b hb => by subst hb; exact hX0)
  have T5 := Tr.kb (T1.trans TT) kb (fun b hb => by subst hb; exact hfr)
  have ncell : ∀ x c, X.env.cells.lookup x = some c → c ≠ Da := fun x c hc e => by
    obtain ⟨v, o, ho, _⟩ := R.acell x c hc
    rw [e, hfr] at ho; cases ho
  refine ⟨⟨{ S3.s with heap := h', toks := S3.s.toks + 3 }, S3.M, fun b => S3.B b ∧ b ≠ Da⟩, rfl, R5.shrink (fun b hb => hb.1) (fun b hb => ⟨R5.sub b hb, fun e => nM3 (e ▸ hb)⟩) (fun b hb => ⟨R5.out b hb, fun e => ?_⟩) (fun x c hc => ⟨(R5.mcell x c hc).1, ncell x c hc⟩), ⟨T5.keep, fun b hb => T5.bsub b hb.1, T5.msub, fun b o h1 h2 e => ⟨T5.bkeep b o h1 h2 e, fun q => by rw [q, hfr] at e; cases e⟩, T5.sub, T5.os, T5.gens, T5.live⟩, ?_⟩
  · have := R.ok.oall b hb
    rw [e, hX0] at this; cases this
  · have up : ∀ {u d}, Rep S3.B S3.h u d → Rep (fun b => S3.B b ∧ b ≠ Da) h' u d := fun r => Rep.tr (fun b o hb e => ⟨fun q => hb q.1, (hs.2 b fun q => hb (q ▸ hB3)).trans e⟩) r
    refine .dict (f := valueAt [(i1, v1), (i2, v2), (i3, v3)]) (fun q => q.2 rfl) ⟨o', ho', hex⟩ hsys (hd.mapOf.intMap) (fun j => ?_) fun j d hj => ?_
    · unfold valueAt lookI lookI lookI lookI
      simp only [List.find?_cons, List.find?_nil]
      by_cases a1 : i1 = j
      · simp [a1]
      · by_cases a2 : i2 = j
        · simp [a1, a2]
        · by_cases a3 : i3 = j <;> simp [a1, a2, a3]
    · unfold lookI lookI lookI lookI at hj
      unfold valueAt
      simp only [List.find?_cons, List.find?_nil]
      by_cases a1 : i1 = j
      · simp only [a1, if_true] at hj ⊢
        cases hj
        simpa using up rr1
      · simp only [a1, if_false] at hj ⊢
        by_cases a2 : i2 = j
        · simp only [a2, if_true] at hj ⊢
          cases hj
          simpa using up rr2
        · simp only [a2, if_false] at hj ⊢
          by_cases a3 : i3 = j
          · simp only [a3, if_true] at hj ⊢
            cases hj
            simpa using up r3
          · simp only [a3, if_false] at hj; cases hj
end
end Mine
open PySem PySem.Spec PySem.Calls PySem.W PyProof.Rows
set_option Elab.async false
set_option maxRecDepth 100000
set_option maxHeartbeats 1000000
set_option linter.unusedVariables false
namespace Mine
theorem enumD_range (zs : List Int) : enumD 0 (zs.map .int) = (List.range zs.length).map fun k => .tuple [.int (k : Nat), .int (zs.getD k 0)] := by
  refine List.ext_getElem? fun i => ?_
  rw [enumD_get, List.getElem?_map, List.getElem?_map]
  by_cases h : i < zs.length
  · rw [List.getElem?_range h, List.getElem?_eq_getElem h]
    simp [List.getD_eq_getElem?_getD, List.getElem?_eq_getElem h]
  · rw [List.getElem?_eq_none (by omega), List.getElem?_eq_none (by simp; omega)]
    rfl
noncomputable def leafL (mk : Bool → Nat → Bool) (c : Int) : Option Hl :=
  if 12 = c then some (mk false) else if 13 = c then some (mk true) else if 255 = c then some fun _ => true else none
theorem leafL_ok (mk : Bool → Nat → Bool) : LeafOK (leafL mk) mk := ⟨fun b => by cases b <;> rfl, rfl, fun c hc => by
  unfold leafL
  have : ∀ c ∈ ([31, 23, 52, 17, 47, 19, 18, 32, 20, 21, 30, 28, 51] : List Int), ¬ 12 = c ∧ ¬ 13 = c ∧ ¬ 255 = c := by decide
  obtain ⟨h1, h2, h3⟩ := this c hc
  rw [if_neg h1, if_neg h2, if_neg h3]⟩
noncomputable def leafD (n : Nat) (mk : Bool → Nat → Bool) : List (PyData × PyData) := [(.int 12, heldD n (mk false)), (.int 13, heldD n (mk true)), (.int 255, heldD n fun _ => true)]
theorem leafD_look (n : Nat) (mk : Bool → Nat → Bool) (c : Int) : lookI (leafD n mk) c = (leafL mk c).map (heldD n) := by
  unfold leafD leafL lookI lookI lookI lookI
  by_cases h1 : 12 = c
  · simp [h1]
  · by_cases h2 : 13 = c
    · subst h2; simp
    · by_cases h3 : 255 = c
      · subst h3; simp
      · simp [h1, h2, h3]
/-- the draws -/
noncomputable def drawD (zs : List Int) (k : Nat) : PyData := .list [.int ((zs.getD k 0).fmod ((k : Int) + 1)), .int (((zs.getD k 0).fdiv ((k : Int) + 1)).fmod 2), .int ((((zs.getD k 0).fdiv ((k : Int) + 1)).fdiv 2).fmod 2)]
noncomputable def upI (zs : List Int) (k : Nat) : Int := (zs.getD k 0).fmod ((k : Int) + 1) - 1
noncomputable def mkI (zs : List Int) (b : Bool) (k : Nat) : Bool := if b then (((zs.getD k 0).fdiv ((k : Int) + 1)).fdiv 2).fmod 2 == 1 else ((zs.getD k 0).fdiv ((k : Int) + 1)).fmod 2 == 1
theorem upI_lt (zs : List Int) (k : Nat) : 0 ≤ upI zs k → (upI zs k).toNat < k := by
  unfold upI
  have h1 := Int.emod_lt_of_pos (zs.getD k 0) (b := (k : Int) + 1) (by omega)
  have h2 := Int.emod_nonneg (zs.getD k 0) (b := (k : Int) + 1) (by omega)
  rw [Int.fmod_eq_emod_of_nonneg _ (by omega)]
  omega
variable {prog : Program} {w : World}
theorem fn_truth0 {n : Nat} {nm : Nat → List Nat} {u : Nat → Int} {line : Nat → List Nat} (P : Plc n u nm line) (mk : Bool → Nat → Bool) (L : Law) :
    Fn prog w 167 [.list ((due0 L false).map .int), placesD n nm, .dict (leafD n mk)] (.list [heldD n (val0 (alL line) (ahL line) mk L false)]) 11 :=
  fn_truth (leaf := leafL mk) (al := alL line) (ah := ahL line) (res := [val0 (alL line) (ahL line) mk L false]) P.names.small (by decide) (leafD_look n mk) (fun f => P.fn_al f) (fun f => P.fn_ah f) (run_row (leafL_ok mk) L false []) (Nat.le_trans (due0_len L false) (by decide))
theorem four_list {α : Type} (a b c d : α) : ([a, b, c, d].take 2 = [a, b]) ∧ ([a, b, c, d].drop 2 = [c, d]) := ⟨rfl, rfl⟩

theorem fn_law (xs : List Int) (hxs : xs.length ≤ 100) : Fn prog w 182 [.list (xs.map .int)] (.bool true) 12 := by
  refine fn_def ["script"] ["heads", "forms", "boxes", "row", "draws", "ups", "marks", "leaves"] rfl rfl rfl rfl (by kernel_rfl) (fun vs h => ?_) rfl (fun A s₀ env O hF => ?_)
  · obtain ⟨a, rfl⟩ := len1 h; rfl
  · have hsl : (20000 : Nat) ≤ sizeLine := by decide
    have hp := fun k : Int => pickD_int xs (some k) none (some 4)
    obtain ⟨ys, hys⟩ : ∃ ys : Int → List Int, ∀ k, pickD (xs.map .int) (some k) none (some 4) = (ys k).map .int := ⟨fun k => Classical.choose (hp k), fun k => Classical.choose_spec (hp k)⟩
    let hd : Int → Int → Int := fun k x => x + preSum (fun i => (ys k).getD i 0) (ys k).length
    refine exs_cons (ex_lc 1 (ds := ([(0, 196), (1, 814), (2, 376), (3, 513)] : List (Int × Int)).map fun p => .tuple [.int p.1, .int p.2]) (([(0, 196), (1, 814), (2, 376), (3, 513)] : List (Int × Int)).map fun p => some (.int (hd p.1 p.2))) ["k", "number", "script"] none _ [none, none, some 0] hF.hkd (evi_d (evi_enum (blt_of (hF.kd (by kernel_rfl)) (by kernel_rfl) (by kernel_rfl) (by kernel_rfl)) (ev_ints [196, 814, 376, 513] rfl (by decide))) rfl) (by kernel_rfl) rfl
      (fun env' s1 O' hC => comp_of _ fun p _ => TurnC.take (as_tuple (ass_cons (as_name 0 rfl (hC.sto (by kernel_rfl)) (by exact Nat.le_of_ble_eq_true rfl)) (ass_cons (as_name 1 rfl (hC.sto (by kernel_rfl)) (by exact Nat.le_of_ble_eq_true rfl)) ass_nil))) .nil
        (ev_bin (ev_name 1 rfl rfl) (ev_bfun (blt_of (hC.glob (by kernel_rfl)) (by kernel_rfl) (by kernel_rfl) (by kernel_rfl)) (evs_cons (ev_d (ev_slice (ev_name 2 rfl rfl) (evp_some (ev_name 0 rfl rfl)) evp_none (evp_some ev_int) (by decide) (by rw [List.length_map]; omega)) (by rw [hys])) evs_nil) call_sum) b_add))
      rfl (by decide) (fun _ => rfl) rfl (hF.sto (by kernel_rfl)) (by exact Nat.le_of_ble_eq_true rfl) (swaps_of (hF.kd (by kernel_rfl)) (by rw [hF.scope]) rfl (by kernel_rfl))) ?_
    obtain ⟨f0, e0⟩ := fm_of (hd 0 196)
    obtain ⟨f1, e1⟩ := fm_of (hd 1 814)
    obtain ⟨b0, e2⟩ := bx_of (hd 2 376)
    obtain ⟨b1, e3⟩ := bx_of (hd 3 513)
    refine exs_cons (ex_lc 2 (ds := ([hd 0 196, hd 1 814] : List Int).map .int) (rr := [f0.d, f1.d]) (([hd 0 196, hd 1 814] : List Int).map fun x => some (.list ((figs x [2, 8, 2, 8, 2, 2]).map .int))) ["number"] none _ [none] hF.hkd (evi_d (evi_list (ev_upto (a := 2) (ev_name 1 rfl rfl) ev_int rfl (by exact Nat.le_of_ble_eq_true rfl))) rfl) (by kernel_rfl) rfl
      (fun env' s1 O' hC => comp_of _ fun x _ => TurnC.take (as_name 0 rfl (hC.sto (by kernel_rfl)) (by exact Nat.le_of_ble_eq_true rfl)) .nil
        (ev_fn (hC.glob (by kernel_rfl)) (evs_cons (ev_name 0 rfl rfl) (evs_cons (ev_ints [2, 8, 2, 8, 2, 2] rfl (by decide)) evs_nil)) (fn_figures (by decide) (by decide)) (by exact Nat.le_of_ble_eq_true rfl) (by kernel_rfl) (by kernel_rfl) (by kernel_rfl)))
      (by rw [← e0, ← e1]; rfl) (by exact Nat.le_of_ble_eq_true rfl) (by intro h; cases h) rfl (hF.sto (by kernel_rfl)) (by exact Nat.le_of_ble_eq_true rfl) (swaps_of (hF.kd (by kernel_rfl)) (by rw [hF.scope]) rfl (by kernel_rfl))) ?_
    refine exs_cons (ex_lc 3 (ds := ([hd 2 376, hd 3 513] : List Int).map .int) (rr := [b0.d, b1.d]) (([hd 2 376, hd 3 513] : List Int).map fun x => some (.list ((figs x [2, 2, 8, 4, 2, 2, 2]).map .int))) ["number"] none _ [none] hF.hkd (evi_d (evi_list (ev_from (a := 2) (ev_name 1 rfl rfl) ev_int rfl (by exact Nat.le_of_ble_eq_true rfl))) rfl) (by kernel_rfl) rfl
      (fun env' s1 O' hC => comp_of _ fun x _ => TurnC.take (as_name 0 rfl (hC.sto (by kernel_rfl)) (by exact Nat.le_of_ble_eq_true rfl)) .nil
        (ev_fn (hC.glob (by kernel_rfl)) (evs_cons (ev_name 0 rfl rfl) (evs_cons (ev_ints [2, 2, 8, 4, 2, 2, 2] rfl (by decide)) evs_nil)) (fn_figures (by decide) (by decide)) (by exact Nat.le_of_ble_eq_true rfl) (by kernel_rfl) (by kernel_rfl) (by kernel_rfl)))
      (by rw [← e2, ← e3]; rfl) (by exact Nat.le_of_ble_eq_true rfl) (by intro h; cases h) rfl (hF.sto (by kernel_rfl)) (by exact Nat.le_of_ble_eq_true rfl) (swaps_of (hF.kd (by kernel_rfl)) (by rw [hF.scope]) rfl (by kernel_rfl))) ?_
    generalize hL : (⟨f0, f1, b0, b1⟩ : Law) = L
    have hfd : PyData.list [f0.d, f1.d] = L.fd := by subst hL; rfl
    have hbd : PyData.list [b0.d, b1.d] = L.bd := by subst hL; rfl
    rw [hfd, hbd]
    clear e0 e1 e2 e3 hfd hbd hL
    have hdl := due0_len L false
    refine exs_cons (ex_assign 4 (d := .list ((due0 L false).map .int)) (ev_fn (hF.kd (by kernel_rfl)) (evs_cons (ev_name 2 rfl rfl) (evs_cons (ev_name 3 rfl rfl) (evs_cons ev_int evs_nil))) (said0 L false) (by exact Nat.le_of_ble_eq_true rfl) (by kernel_rfl) (by kernel_rfl) (by kernel_rfl)) rfl (hF.sto (by kernel_rfl)) (by exact Nat.le_of_ble_eq_true rfl)) ?_
    refine exs_cons (ex_if_f (tt_b (tt_cmp (ev_name 4 rfl rfl) (ev_fn (hF.kd (by kernel_rfl)) (evs_cons (ev_name 2 rfl rfl) (evs_cons (ev_name 3 rfl rfl) (evs_cons ev_int (evs_cons ev_int evs_nil)))) (fdue0 L false) (by exact Nat.le_of_ble_eq_true rfl) (by kernel_rfl) (by kernel_rfl) (by kernel_rfl)) (c_ned (ke_shaped_ints _) (ke_shaped_ints _) (ints_nodict _) (ints_nodict _))) (by rw [ints_eqv]; rfl)) exs_nil) ?_
    -- the draws
    generalize hz : [2, 3, 5, 12, 14] ++ xs.take 3 = zs
    have hzl : zs.length ≤ 8 := by rw [← hz, List.length_append, List.length_take]; show 5 + _ ≤ 8; omega
    generalize hn : zs.length = n
    have hn8 : n ≤ 8 := by omega
    refine exs_cons (ex_lc 5 (ds := (List.range n).map fun k => .tuple [.int (k : Nat), .int (zs.getD k 0)]) (rr := (List.range n).map (drawD zs)) ((List.range n).map fun k => some (drawD zs k)) ["k", "x"] none _ [none, none] hF.hkd
      (evi_d (evi_enum (blt_of (hF.kd (by kernel_rfl)) (by kernel_rfl) (by kernel_rfl) (by kernel_rfl)) (ev_bin (ev_ints [2, 3, 5, 12, 14] rfl (by decide)) (ev_upto (a := 3) (ev_name 0 rfl rfl) ev_int rfl (by simp; omega)) (b_addl (by simp; omega)))) (by rw [← List.map_take, ← List.map_append, hz, enumD_range, hn])) (by kernel_rfl) rfl
      (fun env' s1 O' hC => comp_of (List.range n) fun k hk => TurnC.take (as_tuple (ass_cons (as_name 0 rfl (hC.sto (by kernel_rfl)) (by exact Nat.le_of_ble_eq_true rfl)) (ass_cons (as_name 1 rfl (hC.sto (by kernel_rfl)) (by exact Nat.le_of_ble_eq_true rfl)) ass_nil))) .nil
        (ev_d (ev_fn (hC.glob (by kernel_rfl)) (evs_cons (ev_name 1 rfl rfl) (evs_cons (ev_list (evs_cons (ev_bin (ev_name 0 rfl rfl) ev_int b_add) (evs_cons ev_int (evs_cons ev_int evs_nil))) (by exact Nat.le_of_ble_eq_true rfl)) evs_nil)) (fn_figures (n := zs.getD k 0) (bs := [(k : Int) + 1, 2, 2]) (by
            have := List.mem_range.mp hk
            intro b hb
            simp only [List.mem_cons, List.not_mem_nil, or_false] at hb
            omega) (by exact Nat.le_of_ble_eq_true rfl)) (by exact Nat.le_of_ble_eq_true rfl) (by kernel_rfl) (by kernel_rfl) (by kernel_rfl)) rfl))
      (map_some _ _) (by simp; omega) (fun _ => rfl) rfl (hF.sto (by kernel_rfl)) (by exact Nat.le_of_ble_eq_true rfl) (swaps_of (hF.kd (by kernel_rfl)) (by rw [hF.scope]) rfl (by kernel_rfl))) ?_
    refine exs_cons (ex_lc 6 (ds := (List.range n).map (drawD zs)) (rr := (List.range n).map fun k => .int (upI zs k)) ((List.range n).map fun k => some (.int (upI zs k))) ["draw"] none _ [none] hF.hkd (evi_list (ev_name 5 rfl rfl)) (by kernel_rfl) rfl
      (fun env' s1 O' hC => comp_of (List.range n) fun k hk => TurnC.take (as_name 0 rfl (hC.sto (by kernel_rfl)) (by exact Nat.le_of_ble_eq_true rfl)) .nil (ev_bin (ev_item (ev_name 0 rfl rfl) ev_int (by decide) (by decide) rfl) ev_int b_sub))
      (map_some _ _) (by simp; omega) (by intro h; cases h) rfl (hF.sto (by kernel_rfl)) (by exact Nat.le_of_ble_eq_true rfl) (swaps_of (hF.kd (by kernel_rfl)) (by rw [hF.scope]) rfl (by kernel_rfl))) ?_
    refine exs_cons (ex_assign 7 (d := marksD n (mkI zs)) (ev_list (evs_cons (ev_lc (ds := (List.range n).map (drawD zs)) (rr := (List.range n).map fun k => .int (bi (mkI zs false k))) ((List.range n).map fun k => some (.int (bi (mkI zs false k)))) ["draw"] none _ [none] hF.hkd (evi_list (ev_name 5 rfl rfl)) (by kernel_rfl) rfl
        (fun env' s1 O' hC => comp_of (List.range n) fun k hk => TurnC.take (as_name 0 rfl (hC.sto (by kernel_rfl)) (by exact Nat.le_of_ble_eq_true rfl)) .nil (ev_d (ev_item (ev_name 0 rfl rfl) ev_int (by decide) (by decide) rfl) (congrArg PyData.int (fm2 _).symm))) (map_some _ _) (by simp; omega) (by intro h; cases h))
      (evs_cons (ev_lc (ds := (List.range n).map (drawD zs)) (rr := (List.range n).map fun k => .int (bi (mkI zs true k))) ((List.range n).map fun k => some (.int (bi (mkI zs true k)))) ["draw"] none _ [none] hF.hkd (evi_list (ev_name 5 rfl rfl)) (by kernel_rfl) rfl
        (fun env' s1 O' hC => comp_of (List.range n) fun k hk => TurnC.take (as_name 0 rfl (hC.sto (by kernel_rfl)) (by exact Nat.le_of_ble_eq_true rfl)) .nil (ev_d (ev_item (ev_name 0 rfl rfl) ev_int (by decide) (by decide) rfl) (congrArg PyData.int (fm2 _).symm))) (map_some _ _) (by simp; omega) (by intro h; cases h)) evs_nil)) (by exact Nat.le_of_ble_eq_true rfl)) rfl (hF.sto (by kernel_rfl)) (by exact Nat.le_of_ble_eq_true rfl)) ?_
    refine exs_cons (ex_assign 8 (d := .dict (leafD n (mkI zs))) (ev_dict3 (d1 := heldD n (mkI zs false)) (d2 := heldD n (mkI zs true)) (d3 := heldD n fun _ => true) (by decide) (by decide) (by decide) (ev_item (ev_name 7 rfl rfl) ev_int (by decide) (by decide) rfl) (ev_item (ev_name 7 rfl rfl) ev_int (by decide) (by decide) rfl)
      (ev_lc (ds := (List.range n).map (drawD zs)) (rr := (List.range n).map fun k => .int (bi true)) ((List.range n).map fun k => some (.int (bi true))) ["draw"] none _ [none] hF.hkd (evi_list (ev_name 5 rfl rfl)) (by kernel_rfl) rfl
        (fun env' s1 O' hC => comp_of (List.range n) fun k hk => TurnC.take (as_name 0 rfl (hC.sto (by kernel_rfl)) (by exact Nat.le_of_ble_eq_true rfl)) .nil ev_int) (map_some _ _) (by simp; omega) (by intro h; cases h))) rfl (hF.sto (by kernel_rfl)) (by exact Nat.le_of_ble_eq_true rfl)) ?_
    obtain ⟨line, nm, told, kept, W, P⟩ := exists_all L (upI zs) (upI_lt zs) (mkI zs) hn8
    have hv : heldD n (val0 (alL line) (ahL line) (mkI zs) L false) = .list ((List.range n).map fun k => .int (bi (told k false))) := heldD_congr fun k hk => W.val hk false
    have hf := fn_truth0 (prog := prog) (w := w) P (mkI zs) L
    rw [hv] at hf
    have hi : (List.range n).map (fun k => PyData.int (bi (told k false))) = ((List.range n).map fun k => bi (told k false)).map .int := by rw [List.map_map]; rfl
    have hw := fn_walk (prog := prog) (w := w) W
    rw [hi] at hf hw
    refine exs_ret (ex_return (ev_d (ev_cmp (ev_fn (hF.kd (by kernel_rfl)) (evs_cons (ev_name 4 rfl rfl) (evs_cons (ev_fn (hF.kd (by kernel_rfl)) (evs_cons (ev_name 6 rfl rfl) evs_nil) (fn_places P.names) (by exact Nat.le_of_ble_eq_true rfl) (by kernel_rfl) (by kernel_rfl) (by kernel_rfl)) (evs_cons (ev_name 8 rfl rfl) evs_nil))) hf (Nat.le_refl _) (by kernel_rfl) (by kernel_rfl) (by kernel_rfl))
      (ev_list (evs_cons (ev_fn (hF.kd (by kernel_rfl)) (evs_cons (ev_name 2 rfl rfl) (evs_cons (ev_name 3 rfl rfl) (evs_cons (ev_name 6 rfl rfl) (evs_cons (ev_name 7 rfl rfl) evs_nil)))) hw (by exact Nat.le_of_ble_eq_true rfl) (by kernel_rfl) (by kernel_rfl) (by kernel_rfl)) evs_nil) (by exact Nat.le_of_ble_eq_true rfl))
      (c_eqd (nest_shaped _) (nest_shaped _) (nest_nodict _) (nest_nodict _))) (by rw [nest_eqv])))
end Mine
open PySem PySem.Spec PySem.Calls PySem.W PyProof.Rows
set_option Elab.async false
set_option maxRecDepth 100000
set_option maxHeartbeats 8000000
set_option linter.unusedVariables false
namespace Mine
theorem well_intAll {P : Params} {h : Heap} {B : Bad} : ∀ {vs : List Value} (l : List Int), WellAll P h vs (ofPys (l.map .int)) → RepAll B h vs (l.map .int)
  | vs, [], w => by
    have w' : WellAll P h vs [] := w
    cases w'; exact .nil
  | vs, i :: l, w => by
    have w' : WellAll P h vs (.int i :: ofPys (l.map .int)) := w
    cases w' with
    | cons a b =>
      cases a
      exact .cons (.int _ _) (well_intAll l b)
theorem well_ints {P : Params} {h : Heap} {v : Value} (l : List Int) (w : Well P h v (ofPy (.list (l.map .int)))) : Rep (fun _ => False) h v (.list (l.map .int)) := by
  have w' : Well P h v (.list (ofPys (l.map .int))) := w
  cases w' with
  | list e r => exact .list id ⟨_, e⟩ (well_intAll l r)
/- the names at which the kit lays a second spelling of the head's constants: laid ahead, so that it goes on without (the compiled file stays small) -/
theorem law_walk.tw10095335401649987865 : True := trivial
theorem law_walk.tw10157507484109336835 : True := trivial
theorem law_walk.tw10166819484318322918 : True := trivial
theorem law_walk.tw10400226477473686971 : True := trivial
theorem law_walk.tw10575778595181894031 : True := trivial
theorem law_walk.tw10618763033596195338 : True := trivial
theorem law_walk.tw10639959928510409895 : True := trivial
theorem law_walk.tw10644555465049499542 : True := trivial
theorem law_walk.tw10658639562909679755 : True := trivial
theorem law_walk.tw11003515547874723151 : True := trivial
theorem law_walk.tw1107684660248113442 : True := trivial
theorem law_walk.tw11401611398197205159 : True := trivial
theorem law_walk.tw11889892436880215759 : True := trivial
theorem law_walk.tw11923195694410398313 : True := trivial
theorem law_walk.tw11982992778822352237 : True := trivial
theorem law_walk.tw12009826905505109769 : True := trivial
theorem law_walk.tw12066832245886349031 : True := trivial
theorem law_walk.tw12494027469739420667 : True := trivial
theorem law_walk.tw12580990067054571118 : True := trivial
theorem law_walk.tw12591040065547981619 : True := trivial
theorem law_walk.tw12627331199131324555 : True := trivial
theorem law_walk.tw12701836608600397022 : True := trivial
theorem law_walk.tw12759671057715508488 : True := trivial
theorem law_walk.tw12960922864970901034 : True := trivial
theorem law_walk.tw13012963976651126157 : True := trivial
theorem law_walk.tw13044207499326380188 : True := trivial
theorem law_walk.tw13088496971643157351 : True := trivial
theorem law_walk.tw13152884665874386697 : True := trivial
theorem law_walk.tw1324468810271576928 : True := trivial
theorem law_walk.tw13332525281781289467 : True := trivial
theorem law_walk.tw13422099721287017408 : True := trivial
theorem law_walk.tw13486275484559421317 : True := trivial
theorem law_walk.tw13641380642171206868 : True := trivial
theorem law_walk.tw13648519344018371485 : True := trivial
theorem law_walk.tw13714257558657638190 : True := trivial
theorem law_walk.tw13726853253858281453 : True := trivial
theorem law_walk.tw13870901821450722198 : True := trivial
theorem law_walk.tw13887795260824410890 : True := trivial
theorem law_walk.tw1391093639713574961 : True := trivial
theorem law_walk.tw1407156338458783363 : True := trivial
theorem law_walk.tw1420760975202630414 : True := trivial
theorem law_walk.tw14240879651608825115 : True := trivial
theorem law_walk.tw14245692378676067059 : True := trivial
theorem law_walk.tw14248864630821999066 : True := trivial
theorem law_walk.tw14327785045594728570 : True := trivial
theorem law_walk.tw14505901053012614148 : True := trivial
theorem law_walk.tw14583912446361872688 : True := trivial
theorem law_walk.tw14771489958863429370 : True := trivial
theorem law_walk.tw14869351981302009021 : True := trivial
theorem law_walk.tw14924230639997583100 : True := trivial
theorem law_walk.tw14971813819131637940 : True := trivial
theorem law_walk.tw14992015521955736798 : True := trivial
theorem law_walk.tw15068387895767642262 : True := trivial
theorem law_walk.tw1506947507783032290 : True := trivial
theorem law_walk.tw15166187191399147401 : True := trivial
theorem law_walk.tw15417956146314419576 : True := trivial
theorem law_walk.tw15608699163130600928 : True := trivial
theorem law_walk.tw15637905503817521475 : True := trivial
theorem law_walk.tw15670682840938126767 : True := trivial
theorem law_walk.tw15702739590981716756 : True := trivial
theorem law_walk.tw1578887508928390774 : True := trivial
theorem law_walk.tw15970244005591433905 : True := trivial
theorem law_walk.tw16188769599606678643 : True := trivial
theorem law_walk.tw16288356565122131320 : True := trivial
theorem law_walk.tw16314443678151020817 : True := trivial
theorem law_walk.tw16352332493698178272 : True := trivial
theorem law_walk.tw16364878823780091807 : True := trivial
theorem law_walk.tw16544933085067678609 : True := trivial
theorem law_walk.tw16660429752967501896 : True := trivial
theorem law_walk.tw16736113708867630118 : True := trivial
theorem law_walk.tw1680266527557545993 : True := trivial
theorem law_walk.tw16893689774605216254 : True := trivial
theorem law_walk.tw16910148942730480082 : True := trivial
theorem law_walk.tw17138217388074998094 : True := trivial
theorem law_walk.tw17151475802405297598 : True := trivial
theorem law_walk.tw17238711329945602061 : True := trivial
theorem law_walk.tw17260160985915537885 : True := trivial
theorem law_walk.tw17449492887640561248 : True := trivial
theorem law_walk.tw17467095279790736570 : True := trivial
theorem law_walk.tw17503048201020566150 : True := trivial
theorem law_walk.tw17823697356111105316 : True := trivial
theorem law_walk.tw17961441453843620066 : True := trivial
theorem law_walk.tw17994628964845550410 : True := trivial
theorem law_walk.tw1807287435005278155 : True := trivial
theorem law_walk.tw18105684149968559586 : True := trivial
theorem law_walk.tw18224671212723825918 : True := trivial
theorem law_walk.tw18274630477781228279 : True := trivial
theorem law_walk.tw18335874846033304908 : True := trivial
theorem law_walk.tw18894516972011198 : True := trivial
theorem law_walk.tw1913036947019820295 : True := trivial
theorem law_walk.tw1962610487425886148 : True := trivial
theorem law_walk.tw2191982584930282844 : True := trivial
theorem law_walk.tw2306348491205089524 : True := trivial
theorem law_walk.tw235898947248173329 : True := trivial
theorem law_walk.tw2672495830845699883 : True := trivial
theorem law_walk.tw2684023103095633660 : True := trivial
theorem law_walk.tw2794590637635899929 : True := trivial
theorem law_walk.tw2883566381717434194 : True := trivial
theorem law_walk.tw2891813122276395325 : True := trivial
theorem law_walk.tw296180040996304996 : True := trivial
theorem law_walk.tw3004964013433161768 : True := trivial
theorem law_walk.tw3072583708981276997 : True := trivial
theorem law_walk.tw309411868979763249 : True := trivial
theorem law_walk.tw3248996168741035358 : True := trivial
theorem law_walk.tw3540575760605503442 : True := trivial
theorem law_walk.tw3661333082589093490 : True := trivial
theorem law_walk.tw3708943436980083059 : True := trivial
theorem law_walk.tw3756160188692538100 : True := trivial
theorem law_walk.tw3766263908530267476 : True := trivial
theorem law_walk.tw3859728766915173161 : True := trivial
theorem law_walk.tw3901379447191726684 : True := trivial
theorem law_walk.tw4008942527924284153 : True := trivial
theorem law_walk.tw4301747711573494155 : True := trivial
theorem law_walk.tw4562229481737148886 : True := trivial
theorem law_walk.tw4650864048630087687 : True := trivial
theorem law_walk.tw4715142628854536148 : True := trivial
theorem law_walk.tw4785864527425131527 : True := trivial
theorem law_walk.tw4843757080250297601 : True := trivial
theorem law_walk.tw5004049897617639706 : True := trivial
theorem law_walk.tw5026856610443242943 : True := trivial
theorem law_walk.tw5111013765409397190 : True := trivial
theorem law_walk.tw5132826270825761451 : True := trivial
theorem law_walk.tw5178220982955436063 : True := trivial
theorem law_walk.tw5285187710974808773 : True := trivial
theorem law_walk.tw5665857595847573660 : True := trivial
theorem law_walk.tw5678853151643781460 : True := trivial
theorem law_walk.tw5763417355346935721 : True := trivial
theorem law_walk.tw5768517256161041778 : True := trivial
theorem law_walk.tw583991755219690200 : True := trivial
theorem law_walk.tw5849464907602556482 : True := trivial
theorem law_walk.tw5877681027726758108 : True := trivial
theorem law_walk.tw6049634886937883345 : True := trivial
theorem law_walk.tw6308444445224335033 : True := trivial
theorem law_walk.tw6315668286158482565 : True := trivial
theorem law_walk.tw6407279749112937241 : True := trivial
theorem law_walk.tw6425903777557396682 : True := trivial
theorem law_walk.tw6451171169170823791 : True := trivial
theorem law_walk.tw6542317772984906631 : True := trivial
theorem law_walk.tw6647347934556014683 : True := trivial
theorem law_walk.tw6814169468445859271 : True := trivial
theorem law_walk.tw7100947392080961120 : True := trivial
theorem law_walk.tw7102155933189859701 : True := trivial
theorem law_walk.tw7107204000909996950 : True := trivial
theorem law_walk.tw7370938304984870482 : True := trivial
theorem law_walk.tw7381683562263481298 : True := trivial
theorem law_walk.tw7547403932810918116 : True := trivial
theorem law_walk.tw7783959777113460643 : True := trivial
theorem law_walk.tw8010708191331470744 : True := trivial
theorem law_walk.tw8031706477840214613 : True := trivial
theorem law_walk.tw804102523834244518 : True := trivial
theorem law_walk.tw8209524980812014044 : True := trivial
theorem law_walk.tw8219332338532164347 : True := trivial
theorem law_walk.tw8378071691432599981 : True := trivial
theorem law_walk.tw8480634766571863564 : True := trivial
theorem law_walk.tw8664003847685610222 : True := trivial
theorem law_walk.tw8830698684499257924 : True := trivial
theorem law_walk.tw8860917272210807666 : True := trivial
theorem law_walk.tw8950740782337231261 : True := trivial
theorem law_walk.tw8958579793687124798 : True := trivial
theorem law_walk.tw9033031517808640844 : True := trivial
theorem law_walk.tw9046220672855999427 : True := trivial
theorem law_walk.tw9059822666724327748 : True := trivial
theorem law_walk.tw9095732442746558090 : True := trivial
theorem law_walk.tw9175309087135656087 : True := trivial
theorem law_walk.tw9437996820781617458 : True := trivial
theorem law_walk.tw9452348037586664839 : True := trivial
theorem law_walk.tw9499157157656621582 : True := trivial
theorem law_walk.tw9614167044172017575 : True := trivial
theorem law_walk.tw9774065109101459460 : True := trivial
theorem law_walk.tw977902512717651210 : True := trivial
theorem law_walk.tw9885818699757977590 : True := trivial
theorem law_walk.tw9913782525675966504 : True := trivial
set_option Elab.async true in
theorem law_walk : PySem.Challenge.rw_pw0017_01.Holds := by
  w_on
  o_law
  o_head (kHook Mine.heapK Mine.heapA (fun _ => by kernel_rfl))
  case hw => w_witness2
  intro w s₀ s₁ mg mb G Y fa o pm cd doc dV kV ho hd' hcD hD hmg hg args vals as hpre hlay hrd hwl hlo
  have KX := kIn_of Y
  refine enter_call ?_
  clear Y hd' hcD hD
  wrow_args hpre hlay hrd hwl hlo
  rename_i xs _ _ _ _ _ _ _ _ _ _ _ _ wl _ _ _ hlen _
  have e1 : mg (Str.ofString "law") = some (.ref 182) := mg_of KX G.T.g (by kernel_rfl)
  have e2 : fa = 182 := by
    have : some (Value.ref fa) = some (.ref 182) := hmg.symm.trans e1
    cases this; rfl
  subst e2
  have r := well_ints xs wl
  refine (fn_law xs (by omega)).go callerA s₁ (fun _ => False) _ _ rfl (by decide +kernel) (by decide +kernel) ⟨KX, _, _, _, _, topRead_of G.T⟩ (fun _ f => f.elim) (.cons r .nil) fun v s' g rv => ?_
  cases rv
  exact ⟨.inl ⟨.bool true, .bool true, [], rfl, raisesW_false (by wrow_none_raised), .bool true, by wrow_post, fun _ => ⟨.nil, fun a ha => by cases ha⟩⟩, .of_keep g.keep, g.os, .of_eq (g.gens.trans hg)⟩
end Mine
theorem PySem.Challenge.cw_pw0017_01_holds : PySem.Challenge.rw_pw0017_01.Holds :=
  Mine.law_walk
