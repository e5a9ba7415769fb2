import PyProof.Rows.All
import Wide.All
import OpenK.AllK
import Wide.FinOn
import PySem.Challenge.RW_sr0074_02
set_option Elab.async false
set_option maxRecDepth 100000
set_option compiler.extract_closed false
section PartHD_02
open PySem PySem.W PyProof.Rows

set_option maxRecDepth 1000000
set_option maxHeartbeats 0
namespace Mine
/-- a def of the program's text, by its place -/
inductive IsFn : Stmt → Arguments → List Stmt → Scope → Prop
  | mk (n a b d r t s ts bn p) : IsFn (.FunctionDef n a b d r t s ts bn p) a b s
noncomputable def nth : List Stmt → Nat → Stmt
  | [], _ => .Pass ⟨0, 0, 0, 0⟩
  | a :: _, 0 => a
  | _ :: l, n + 1 => nth l n
noncomputable def clsB : Stmt → List Stmt
  | .ClassDef _ _ _ b _ _ _ _ _ _ _ => b
  | _ => []
noncomputable abbrev P2 : Program := PySem.Challenge.rw_sr0074_02.row.prog
noncomputable abbrev B2 : List Stmt := PySem.Challenge.pw_sr0074_02.main.body
noncomputable def hd02.heap_39 : Params → Frag := fun P => (fun (a38 : Arguments) (b38 : List Stmt) (s38 : Scope) (_ : IsFn (nth B2 1) a38 b38 s38) (a45 : Arguments) (b45 : List Stmt) (s45 : Scope) (_ : IsFn (nth B2 3) a45 b45 s45) (a62 : Arguments) (b62 : List Stmt) (s62 : Scope) (_ : IsFn (nth B2 8) a62 b62 s62) (a72 : Arguments) (b72 : List Stmt) (s72 : Scope) (_ : IsFn (nth B2 61) a72 b72 s72) (a79 : Arguments) (b79 : List Stmt) (s79 : Scope) (_ : IsFn (nth B2 62) a79 b79 s79) (a86 : Arguments) (b86 : List Stmt) (s86 : Scope) (_ : IsFn (nth B2 63) a86 b86 s86) (a109 : Arguments) (b109 : List Stmt) (s109 : Scope) (_ : IsFn (nth B2 68) a109 b109 s109) (a124 : Arguments) (b124 : List Stmt) (s124 : Scope) (_ : IsFn (nth (clsB (nth B2 69)) 0) a124 b124 s124) (a131 : Arguments) (b131 : List Stmt) (s131 : Scope) (_ : IsFn (nth (clsB (nth B2 69)) 1) a131 b131 s131) (a138 : Arguments) (b138 : List Stmt) (s138 : Scope) (_ : IsFn (nth (clsB (nth B2 69)) 2) a138 b138 s138) (a145 : Arguments) (b145 : List Stmt) (s145 : Scope) (_ : IsFn (nth (clsB (nth B2 69)) 3) a145 b145 s145) (a150 : Arguments) (b150 : List Stmt) (s150 : Scope) (_ : IsFn (nth (clsB (nth B2 69)) 4) a150 b150 s150) (a157 : Arguments) (b157 : List Stmt) (s157 : Scope) (_ : IsFn (nth (clsB (nth B2 69)) 5) a157 b157 s157) (a164 : Arguments) (b164 : List Stmt) (s164 : Scope) (_ : IsFn (nth (clsB (nth B2 69)) 6) a164 b164 s164) (a171 : Arguments) (b171 : List Stmt) (s171 : Scope) (_ : IsFn (nth (clsB (nth B2 69)) 7) a171 b171 s171) (a179 : Arguments) (b179 : List Stmt) (s179 : Scope) (_ : IsFn (nth (clsB (nth B2 69)) 8) a179 b179 s179) (a184 : Arguments) (b184 : List Stmt) (s184 : Scope) (_ : IsFn (nth (clsB (nth B2 69)) 9) a184 b184 s184) (a189 : Arguments) (b189 : List Stmt) (s189 : Scope) (_ : IsFn (nth (clsB (nth B2 69)) 10) a189 b189 s189) (a196 : Arguments) (b196 : List Stmt) (s196 : Scope) (_ : IsFn (nth (clsB (nth B2 69)) 11) a196 b196 s196) (a203 : Arguments) (b203 : List Stmt) (s203 : Scope) (_ : IsFn (nth (clsB (nth B2 69)) 12) a203 b203 s203) (a208 : Arguments) (b208 : List Stmt) (s208 : Scope) (_ : IsFn (nth (clsB (nth B2 69)) 13) a208 b208 s208) (a215 : Arguments) (b215 : List Stmt) (s215 : Scope) (_ : IsFn (nth (clsB (nth B2 69)) 14) a215 b215 s215) (a222 : Arguments) (b222 : List Stmt) (s222 : Scope) (_ : IsFn (nth (clsB (nth B2 69)) 15) a222 b222 s222) (a229 : Arguments) (b229 : List Stmt) (s229 : Scope) (_ : IsFn (nth (clsB (nth B2 69)) 16) a229 b229 s229) (a241 : Arguments) (b241 : List Stmt) (s241 : Scope) (_ : IsFn (nth B2 71) a241 b241 s241) (a248 : Arguments) (b248 : List Stmt) (s248 : Scope) (_ : IsFn (nth B2 72) a248 b248 s248) (a255 : Arguments) (b255 : List Stmt) (s255 : Scope) (_ : IsFn (nth B2 73) a255 b255 s255) (a260 : Arguments) (b260 : List Stmt) (s260 : Scope) (_ : IsFn (nth B2 74) a260 b260 s260) (a265 : Arguments) (b265 : List Stmt) (s265 : Scope) (_ : IsFn (nth B2 75) a265 b265 s265) (a270 : Arguments) (b270 : List Stmt) (s270 : Scope) (_ : IsFn (nth B2 76) a270 b270 s270) (a275 : Arguments) (b275 : List Stmt) (s275 : Scope) (_ : IsFn (nth B2 77) a275 b275 s275) (a282 : Arguments) (b282 : List Stmt) (s282 : Scope) (_ : IsFn (nth B2 78) a282 b282 s282) (a287 : Arguments) (b287 : List Stmt) (s287 : Scope) (_ : IsFn (nth B2 79) a287 b287 s287) =>
  ((nat_lit 2, (Obj.mk .none none (Data.dict #[(DictEntry.mk (PyData.keyHash P (Str.ofString "\x69mport.loaded._sre")) (.str (Str.ofString "\x69mport.loaded._sre") 183) (.bool Bool.true)), (DictEntry.mk (PyData.keyHash P (Str.ofString "class._frozen_importlib.BuiltinImporter")) (.str (Str.ofString "class._frozen_importlib.BuiltinImporter") 185) (.ref 14)), (DictEntry.mk (PyData.keyHash P (Str.ofString "watched.\x69mport")) (.str (Str.ofString "watched.\x69mport") 206) (.ref 18)), (DictEntry.mk (PyData.keyHash P (Str.ofString "class._frozen_importlib.ModuleSpec")) (.str (Str.ofString "class._frozen_importlib.ModuleSpec") 216) (.ref 22)), (DictEntry.mk (PyData.keyHash P (Str.ofString "sys.modules.booked-epoch")) (.str (Str.ofString "sys.modules.booked-epoch") 245) (.int 3 0)), (DictEntry.mk (PyData.keyHash P (Str.ofString "\x69mport.later-laid._sre")) (.str (Str.ofString "\x69mport.later-laid._sre") 270) (.bool Bool.true)), (DictEntry.mk (PyData.keyHash P (Str.ofString "watched.library")) (.str (Str.ofString "watched.library") 272) (.ref 27)), (DictEntry.mk (PyData.keyHash P (Str.ofString "watched.library-objects")) (.str (Str.ofString "watched.library-objects") 0) (.str (Str.ofString "\x0c") 0)), (DictEntry.mk (PyData.keyHash P (Str.ofString "watched.library-deep._sre")) (.str (Str.ofString "watched.library-deep._sre") 273) (.str (Str.ofString "\x04\x00\x00\x0b\x04\x00\x00\x0b\x04\x00\x00\x03\x04\x00\x00\x0b\x08\x04dict\x02") 0))] 9) #[])) ::
   (nat_lit 3, (Obj.mk (.type "dict") none (Data.dict #[(DictEntry.mk (PyData.keyHash P (Str.ofString "__name__")) (.str (Str.ofString "__name__") 165) (.str (Str.ofString "law_sr0074_02") 854)), (DictEntry.mk (PyData.keyHash P (Str.ofString "__doc__")) (.str (Str.ofString "__doc__") 166) .none), (DictEntry.mk (PyData.keyHash P (Str.ofString "__package__")) (.str (Str.ofString "__package__") 167) .none), (DictEntry.mk (PyData.keyHash P (Str.ofString "__loader__")) (.str (Str.ofString "__loader__") 168) (.builtin "__main__.__loader__#opaque")), (DictEntry.mk (PyData.keyHash P (Str.ofString "__spec__")) (.str (Str.ofString "__spec__") 169) .none), (DictEntry.mk (PyData.keyHash P (Str.ofString "__annotations__")) (.str (Str.ofString "__annotations__") 170) (.ref 6)), (DictEntry.mk (PyData.keyHash P (Str.ofString "__builtins__")) (.str (Str.ofString "__builtins__") 171) (.ref 4)), (DictEntry.mk (PyData.keyHash P (Str.ofString "__file__")) (.str (Str.ofString "__file__") 173) (.str (Str.ofString "/claim/cut.py") 172)), (DictEntry.mk (PyData.keyHash P (Str.ofString "__cached__")) (.str (Str.ofString "__cached__") 174) .none), (DictEntry.mk (PyData.keyHash P (Str.ofString "_sre")) (.str (Str.ofString "_sre") 275) (.ref 12)), (DictEntry.mk (PyData.keyHash P (Str.ofString "_wall")) (.str (Str.ofString "_wall") 288) (.ref 38)), (DictEntry.mk (PyData.keyHash P (Str.ofString "_parse_varint")) (.str (Str.ofString "_parse_varint") 299) (.ref 45)), (DictEntry.mk (PyData.keyHash P (Str.ofString "_twin_re_1")) (.str (Str.ofString "_twin_re_1") 317) (.ref 50)), (DictEntry.mk (PyData.keyHash P (Str.ofString "_twin_re_2")) (.str (Str.ofString "_twin_re_2") 359) (.ref 55)), (DictEntry.mk (PyData.keyHash P (Str.ofString "CRLF")) (.str (Str.ofString "CRLF") 361) (.str (Str.ofString "\x0d\n") 360)), (DictEntry.mk (PyData.keyHash P (Str.ofString "quotedata")) (.str (Str.ofString "quotedata") 368) (.ref 62)), (DictEntry.mk (PyData.keyHash P (Str.ofString "ENDMARKER")) (.str (Str.ofString "ENDMARKER") 372) (.int 0 371)), (DictEntry.mk (PyData.keyHash P (Str.ofString "LPAR")) (.str (Str.ofString "LPAR") 374) (.int 7 373)), (DictEntry.mk (PyData.keyHash P (Str.ofString "RPAR")) (.str (Str.ofString "RPAR") 376) (.int 8 375)), (DictEntry.mk (PyData.keyHash P (Str.ofString "LSQB")) (.str (Str.ofString "LSQB") 378) (.int 9 377)), (DictEntry.mk (PyData.keyHash P (Str.ofString "RSQB")) (.str (Str.ofString "RSQB") 380) (.int 10 379)), (DictEntry.mk (PyData.keyHash P (Str.ofString "COLON")) (.str (Str.ofString "COLON") 382) (.int 11 381)), (DictEntry.mk (PyData.keyHash P (Str.ofString "COMMA")) (.str (Str.ofString "COMMA") 384) (.int 12 383)), (DictEntry.mk (PyData.keyHash P (Str.ofString "SEMI")) (.str (Str.ofString "SEMI") 386) (.int 13 385)), (DictEntry.mk (PyData.keyHash P (Str.ofString "PLUS")) (.str (Str.ofString "PLUS") 388) (.int 14 387)), (DictEntry.mk (PyData.keyHash P (Str.ofString "MINUS")) (.str (Str.ofString "MINUS") 390) (.int 15 389)), (DictEntry.mk (PyData.keyHash P (Str.ofString "STAR")) (.str (Str.ofString "STAR") 392) (.int 16 391)), (DictEntry.mk (PyData.keyHash P (Str.ofString "SLASH")) (.str (Str.ofString "SLASH") 394) (.int 17 393)), (DictEntry.mk (PyData.keyHash P (Str.ofString "VBAR")) (.str (Str.ofString "VBAR") 396) (.int 18 395)), (DictEntry.mk (PyData.keyHash P (Str.ofString "AMPER")) (.str (Str.ofString "AMPER") 398) (.int 19 397)), (DictEntry.mk (PyData.keyHash P (Str.ofString "LESS")) (.str (Str.ofString "LESS") 400) (.int 20 399)), (DictEntry.mk (PyData.keyHash P (Str.ofString "GREATER")) (.str (Str.ofString "GREATER") 402) (.int 21 401)), (DictEntry.mk (PyData.keyHash P (Str.ofString "EQUAL")) (.str (Str.ofString "EQUAL") 404) (.int 22 403)), (DictEntry.mk (PyData.keyHash P (Str.ofString "DOT")) (.str (Str.ofString "DOT") 406) (.int 23 405)), (DictEntry.mk (PyData.keyHash P (Str.ofString "PERCENT")) (.str (Str.ofString "PERCENT") 408) (.int 24 407)), (DictEntry.mk (PyData.keyHash P (Str.ofString "LBRACE")) (.str (Str.ofString "LBRACE") 410) (.int 25 409)), (DictEntry.mk (PyData.keyHash P (Str.ofString "RBRACE")) (.str (Str.ofString "RBRACE") 412) (.int 26 411)), (DictEntry.mk (PyData.keyHash P (Str.ofString "EQEQUAL")) (.str (Str.ofString "EQEQUAL") 414) (.int 27 413)), (DictEntry.mk (PyData.keyHash P (Str.ofString "NOTEQUAL")) (.str (Str.ofString "NOTEQUAL") 416) (.int 28 415)), (DictEntry.mk (PyData.keyHash P (Str.ofString "LESSEQUAL")) (.str (Str.ofString "LESSEQUAL") 418) (.int 29 417)), (DictEntry.mk (PyData.keyHash P (Str.ofString "GREATEREQUAL")) (.str (Str.ofString "GREATEREQUAL") 420) (.int 30 419)), (DictEntry.mk (PyData.keyHash P (Str.ofString "TILDE")) (.str (Str.ofString "TILDE") 422) (.int 31 421)), (DictEntry.mk (PyData.keyHash P (Str.ofString "CIRCUMFLEX")) (.str (Str.ofString "CIRCUMFLEX") 424) (.int 32 423)), (DictEntry.mk (PyData.keyHash P (Str.ofString "LEFTSHIFT")) (.str (Str.ofString "LEFTSHIFT") 426) (.int 33 425)), (DictEntry.mk (PyData.keyHash P (Str.ofString "RIGHTSHIFT")) (.str (Str.ofString "RIGHTSHIFT") 428) (.int 34 427)), (DictEntry.mk (PyData.keyHash P (Str.ofString "DOUBLESTAR")) (.str (Str.ofString "DOUBLESTAR") 430) (.int 35 429)), (DictEntry.mk (PyData.keyHash P (Str.ofString "PLUSEQUAL")) (.str (Str.ofString "PLUSEQUAL") 432) (.int 36 431)), (DictEntry.mk (PyData.keyHash P (Str.ofString "MINEQUAL")) (.str (Str.ofString "MINEQUAL") 434) (.int 37 433)), (DictEntry.mk (PyData.keyHash P (Str.ofString "STAREQUAL")) (.str (Str.ofString "STAREQUAL") 436) (.int 38 435)), (DictEntry.mk (PyData.keyHash P (Str.ofString "SLASHEQUAL")) (.str (Str.ofString "SLASHEQUAL") 438) (.int 39 437)), (DictEntry.mk (PyData.keyHash P (Str.ofString "PERCENTEQUAL")) (.str (Str.ofString "PERCENTEQUAL") 440) (.int 40 439)), (DictEntry.mk (PyData.keyHash P (Str.ofString "AMPEREQUAL")) (.str (Str.ofString "AMPEREQUAL") 442) (.int 41 441)), (DictEntry.mk (PyData.keyHash P (Str.ofString "VBAREQUAL")) (.str (Str.ofString "VBAREQUAL") 444) (.int 42 443)), (DictEntry.mk (PyData.keyHash P (Str.ofString "CIRCUMFLEXEQUAL")) (.str (Str.ofString "CIRCUMFLEXEQUAL") 446) (.int 43 445)), (DictEntry.mk (PyData.keyHash P (Str.ofString "LEFTSHIFTEQUAL")) (.str (Str.ofString "LEFTSHIFTEQUAL") 448) (.int 44 447)), (DictEntry.mk (PyData.keyHash P (Str.ofString "RIGHTSHIFTEQUAL")) (.str (Str.ofString "RIGHTSHIFTEQUAL") 450) (.int 45 449)), (DictEntry.mk (PyData.keyHash P (Str.ofString "DOUBLESTAREQUAL")) (.str (Str.ofString "DOUBLESTAREQUAL") 452) (.int 46 451)), (DictEntry.mk (PyData.keyHash P (Str.ofString "DOUBLESLASH")) (.str (Str.ofString "DOUBLESLASH") 454) (.int 47 453)), (DictEntry.mk (PyData.keyHash P (Str.ofString "DOUBLESLASHEQUAL")) (.str (Str.ofString "DOUBLESLASHEQUAL") 456) (.int 48 455)), (DictEntry.mk (PyData.keyHash P (Str.ofString "AT")) (.str (Str.ofString "AT") 458) (.int 49 457)), (DictEntry.mk (PyData.keyHash P (Str.ofString "ATEQUAL")) (.str (Str.ofString "ATEQUAL") 460) (.int 50 459)), (DictEntry.mk (PyData.keyHash P (Str.ofString "RARROW")) (.str (Str.ofString "RARROW") 462) (.int 51 461)), (DictEntry.mk (PyData.keyHash P (Str.ofString "ELLIPSIS")) (.str (Str.ofString "ELLIPSIS") 464) (.int 52 463)), (DictEntry.mk (PyData.keyHash P (Str.ofString "COLONEQUAL")) (.str (Str.ofString "COLONEQUAL") 466) (.int 53 465)), (DictEntry.mk (PyData.keyHash P (Str.ofString "EXCLAMATION")) (.str (Str.ofString "EXCLAMATION") 468) (.int 54 467)), (DictEntry.mk (PyData.keyHash P (Str.ofString "NT_OFFSET")) (.str (Str.ofString "NT_OFFSET") 470) (.int 256 469)), (DictEntry.mk (PyData.keyHash P (Str.ofString "EXACT_TOKEN_TYPES")) (.str (Str.ofString "EXACT_TOKEN_TYPES") 567) (.ref 63)), (DictEntry.mk (PyData.keyHash P (Str.ofString "ISTERMINAL")) (.str (Str.ofString "ISTERMINAL") 574) (.ref 72)), (DictEntry.mk (PyData.keyHash P (Str.ofString "ISNONTERMINAL")) (.str (Str.ofString "ISNONTERMINAL") 581) (.ref 79)), (DictEntry.mk (PyData.keyHash P (Str.ofString "ISEOF")) (.str (Str.ofString "ISEOF") 588) (.ref 86)), (DictEntry.mk (PyData.keyHash P (Str.ofString "tspecials")) (.str (Str.ofString "tspecials") 624) (.ref 91)), (DictEntry.mk (PyData.keyHash P (Str.ofString "_name_disallowed_re")) (.str (Str.ofString "_name_disallowed_re") 650) (.ref 96)), (DictEntry.mk (PyData.keyHash P (Str.ofString "_value_disallowed_re")) (.str (Str.ofString "_value_disallowed_re") 684) (.ref 101)), (DictEntry.mk (PyData.keyHash P (Str.ofString "_formatparam")) (.str (Str.ofString "_formatparam") 694) (.ref 109)), (DictEntry.mk (PyData.keyHash P (Str.ofString "Headers")) (.str (Str.ofString "Headers") 853) (.ref 232)), (DictEntry.mk (PyData.keyHash P (Str.ofString "_law_numbers")) (.str (Str.ofString "_law_numbers") 861) (.ref 241)), (DictEntry.mk (PyData.keyHash P (Str.ofString "_law_tape")) (.str (Str.ofString "_law_tape") 871) (.ref 248)), (DictEntry.mk (PyData.keyHash P (Str.ofString "_law_read")) (.str (Str.ofString "_law_read") 880) (.ref 255)), (DictEntry.mk (PyData.keyHash P (Str.ofString "_law_kinds_hold")) (.str (Str.ofString "_law_kinds_hold") 886) (.ref 260)), (DictEntry.mk (PyData.keyHash P (Str.ofString "_law_run")) (.str (Str.ofString "_law_run") 892) (.ref 265)), (DictEntry.mk (PyData.keyHash P (Str.ofString "_law_due")) (.str (Str.ofString "_law_due") 898) (.ref 270)), (DictEntry.mk (PyData.keyHash P (Str.ofString "_law_pairs")) (.str (Str.ofString "_law_pairs") 904) (.ref 275)), (DictEntry.mk (PyData.keyHash P (Str.ofString "_law_refused")) (.str (Str.ofString "_law_refused") 913) (.ref 282)), (DictEntry.mk (PyData.keyHash P (Str.ofString "law")) (.str (Str.ofString "law") 919) (.ref 287))] 84) #[])) ::
   (nat_lit 32, (Obj.mk (.type "tuple") none (Data.seq #[] 0) #[])) ::
   (nat_lit 34, (Obj.mk (.type "tuple") none (Data.seq #[(.str (Str.ofString "k") 285)] 0) #[])) ::
   (nat_lit 35, (Obj.mk (.type "tuple") none (Data.seq #[] 0) #[])) ::
   (nat_lit 37, (Obj.mk (.type "code") none (Data.fields #[(.str (Str.ofString "_wall") 282), (.str (Str.ofString "_wall") 283), (.str (Str.ofString "/claim/cut.py") 284), (.int 2 0), (.int 1 0), (.int 0 0), (.int 0 0), (.int 3 0), (.ref 32), (.bool Bool.true), (.int 276 0), (.ref 33), .none, (.ref 34), (.ref 35), (.ref 36), (.int 286 0), (.int 2 0), (.str (Str.ofString "/claim/cut.py") 287)]) #[])) ::
   (nat_lit 38, (Obj.mk (.type "function") none (Data.func (FuncData.mk (Str.ofString "_wall") (Str.ofString "_wall") a38 (FuncBody.stmts b38) s38 3 [] .none .none .none (.str (Str.ofString "__main__") 164) none (.ref 37) .none 0)) #[])) ::
   (nat_lit 39, (Obj.mk (.type "tuple") none (Data.seq #[] 0) #[])) ::
   (nat_lit 41, (Obj.mk (.type "tuple") none (Data.seq #[(.str (Str.ofString "iterator") 294), (.str (Str.ofString "b") 295), (.str (Str.ofString "val") 296)] 0) #[])) ::
   (nat_lit 42, (Obj.mk (.type "tuple") none (Data.seq #[] 0) #[])) ::
   (nat_lit 44, (Obj.mk (.type "code") none (Data.fields #[(.str (Str.ofString "_parse_varint") 291), (.str (Str.ofString "_parse_varint") 292), (.str (Str.ofString "/claim/cut.py") 293), (.int 6 0), (.int 1 0), (.int 0 0), (.int 0 0), (.int 3 0), (.ref 39), (.bool Bool.true), (.int 276 0), (.ref 40), .none, (.ref 41), (.ref 42), (.ref 43), (.int 297 0), (.int 6 0), (.str (Str.ofString "/claim/cut.py") 298)]) #[])) ::
   (nat_lit 45, (Obj.mk (.type "function") none (Data.func (FuncData.mk (Str.ofString "_parse_varint") (Str.ofString "_parse_varint") a45 (FuncBody.stmts b45) s45 3 [] .none .none .none (.str (Str.ofString "cpy313.dis") 289) none (.ref 44) .none 0)) #[])) ::
   (nat_lit 49, (Obj.mk (.type "tuple") none (Data.seq #[(.int 14 0), (.int 4 0), (.int 0 0), (.int 1 0), (.int 1 0), (.int 6 0), (.int 1 0), (.int 16 0), (.int 46 0), (.int 1 0)] 0) #[])) ::
   (nat_lit 50, (Obj.mk (.type "re.Pattern") none (Data.fields #[(.str (Str.ofString "(?m)^\\.") 303), (.int 40 316), (.int 0 0), .none, .none, (.ref 49), (.int 0 0)]) #[])) ::
   (nat_lit 54, (Obj.mk (.type "tuple") none (Data.seq #[(.int 14 0), (.int 9 0), (.int 4 0), (.int 1 0), (.int 2 0), (.int 16 0), (.int 10 0), (.int 16 0), (.int 13 0), (.int 0 0), (.int 7 0), (.int 7 0), (.int 16 0), (.int 13 0), (.int 16 0), (.int 10 0), (.int 15 0), (.int 18 0), (.int 5 0), (.int 16 0), (.int 10 0), (.int 15 0), (.int 13 0), (.int 11 0), (.int 16 0), (.int 13 0), (.int 5 0), (.int 5 0), (.int 0 0), (.int 16 0), (.int 10 0), (.int 1 0), (.int 15 0), (.int 2 0), (.int 0 0), (.int 1 0)] 0) #[])) ::
   (nat_lit 55, (Obj.mk (.type "re.Pattern") none (Data.fields #[(.str (Str.ofString "(?:\\r\\n|\\n|\\r(?!\\n))") 319), (.int 32 358), (.int 0 0), .none, .none, (.ref 54), (.int 0 0)]) #[])) ::
   (nat_lit 56, (Obj.mk (.type "tuple") none (Data.seq #[] 0) #[])) ::
   (nat_lit 58, (Obj.mk (.type "tuple") none (Data.seq #[(.str (Str.ofString "data") 365)] 0) #[])) ::
   (nat_lit 59, (Obj.mk (.type "tuple") none (Data.seq #[] 0) #[])) ::
   (nat_lit 61, (Obj.mk (.type "code") none (Data.fields #[(.str (Str.ofString "quotedata") 362), (.str (Str.ofString "quotedata") 363), (.str (Str.ofString "/claim/cut.py") 364), (.int 18 0), (.int 1 0), (.int 0 0), (.int 0 0), (.int 3 0), (.ref 56), (.bool Bool.true), (.int 276 0), (.ref 57), .none, (.ref 58), (.ref 59), (.ref 60), (.int 366 0), (.int 18 0), (.str (Str.ofString "/claim/cut.py") 367)]) #[])) ::
   (nat_lit 62, (Obj.mk (.type "function") none (Data.func (FuncData.mk (Str.ofString "quotedata") (Str.ofString "quotedata") a62 (FuncBody.stmts b62) s62 3 [] .none .none .none (.str (Str.ofString "cpy313.smtplib") 300) none (.ref 61) .none 0)) #[])) ::
   (nat_lit 63, (Obj.mk (.type "dict") none (Data.dict #[(DictEntry.mk (PyData.keyHash P (Str.ofString "!")) (.str (Str.ofString "!") 471) (.int 54 467)), (DictEntry.mk (PyData.keyHash P (Str.ofString "!=")) (.str (Str.ofString "!=") 473) (.int 28 415)), (DictEntry.mk (PyData.keyHash P (Str.ofString "%")) (.str (Str.ofString "%") 475) (.int 24 407)), (DictEntry.mk (PyData.keyHash P (Str.ofString "%=")) (.str (Str.ofString "%=") 477) (.int 40 439)), (DictEntry.mk (PyData.keyHash P (Str.ofString "&")) (.str (Str.ofString "&") 479) (.int 19 397)), (DictEntry.mk (PyData.keyHash P (Str.ofString "&=")) (.str (Str.ofString "&=") 481) (.int 41 441)), (DictEntry.mk (PyData.keyHash P (Str.ofString "(")) (.str (Str.ofString "(") 483) (.int 7 373)), (DictEntry.mk (PyData.keyHash P (Str.ofString ")")) (.str (Str.ofString ")") 485) (.int 8 375)), (DictEntry.mk (PyData.keyHash P (Str.ofString "*")) (.str (Str.ofString "*") 487) (.int 16 391)), (DictEntry.mk (PyData.keyHash P (Str.ofString "**")) (.str (Str.ofString "**") 489) (.int 35 429)), (DictEntry.mk (PyData.keyHash P (Str.ofString "**=")) (.str (Str.ofString "**=") 491) (.int 46 451)), (DictEntry.mk (PyData.keyHash P (Str.ofString "*=")) (.str (Str.ofString "*=") 493) (.int 38 435)), (DictEntry.mk (PyData.keyHash P (Str.ofString "+")) (.str (Str.ofString "+") 495) (.int 14 387)), (DictEntry.mk (PyData.keyHash P (Str.ofString "+=")) (.str (Str.ofString "+=") 497) (.int 36 431)), (DictEntry.mk (PyData.keyHash P (Str.ofString ",")) (.str (Str.ofString ",") 499) (.int 12 383)), (DictEntry.mk (PyData.keyHash P (Str.ofString "-")) (.str (Str.ofString "-") 501) (.int 15 389)), (DictEntry.mk (PyData.keyHash P (Str.ofString "-=")) (.str (Str.ofString "-=") 503) (.int 37 433)), (DictEntry.mk (PyData.keyHash P (Str.ofString "->")) (.str (Str.ofString "->") 505) (.int 51 461)), (DictEntry.mk (PyData.keyHash P (Str.ofString ".")) (.str (Str.ofString ".") 507) (.int 23 405)), (DictEntry.mk (PyData.keyHash P (Str.ofString "...")) (.str (Str.ofString "...") 509) (.int 52 463)), (DictEntry.mk (PyData.keyHash P (Str.ofString "/")) (.str (Str.ofString "/") 511) (.int 17 393)), (DictEntry.mk (PyData.keyHash P (Str.ofString "//")) (.str (Str.ofString "//") 513) (.int 47 453)), (DictEntry.mk (PyData.keyHash P (Str.ofString "//=")) (.str (Str.ofString "//=") 515) (.int 48 455)), (DictEntry.mk (PyData.keyHash P (Str.ofString "/=")) (.str (Str.ofString "/=") 517) (.int 39 437)), (DictEntry.mk (PyData.keyHash P (Str.ofString ":")) (.str (Str.ofString ":") 519) (.int 11 381)), (DictEntry.mk (PyData.keyHash P (Str.ofString ":=")) (.str (Str.ofString ":=") 521) (.int 53 465)), (DictEntry.mk (PyData.keyHash P (Str.ofString ";")) (.str (Str.ofString ";") 523) (.int 13 385)), (DictEntry.mk (PyData.keyHash P (Str.ofString "<")) (.str (Str.ofString "<") 525) (.int 20 399)), (DictEntry.mk (PyData.keyHash P (Str.ofString "<<")) (.str (Str.ofString "<<") 527) (.int 33 425)), (DictEntry.mk (PyData.keyHash P (Str.ofString "<<=")) (.str (Str.ofString "<<=") 529) (.int 44 447)), (DictEntry.mk (PyData.keyHash P (Str.ofString "<=")) (.str (Str.ofString "<=") 531) (.int 29 417)), (DictEntry.mk (PyData.keyHash P (Str.ofString "=")) (.str (Str.ofString "=") 533) (.int 22 403)), (DictEntry.mk (PyData.keyHash P (Str.ofString "==")) (.str (Str.ofString "==") 535) (.int 27 413)), (DictEntry.mk (PyData.keyHash P (Str.ofString ">")) (.str (Str.ofString ">") 537) (.int 21 401)), (DictEntry.mk (PyData.keyHash P (Str.ofString ">=")) (.str (Str.ofString ">=") 539) (.int 30 419)), (DictEntry.mk (PyData.keyHash P (Str.ofString ">>")) (.str (Str.ofString ">>") 540) (.int 34 427)), (DictEntry.mk (PyData.keyHash P (Str.ofString ">>=")) (.str (Str.ofString ">>=") 541) (.int 45 449)), (DictEntry.mk (PyData.keyHash P (Str.ofString "@")) (.str (Str.ofString "@") 542) (.int 49 457)), (DictEntry.mk (PyData.keyHash P (Str.ofString "@=")) (.str (Str.ofString "@=") 543) (.int 50 459)), (DictEntry.mk (PyData.keyHash P (Str.ofString "[")) (.str (Str.ofString "[") 544) (.int 9 377)), (DictEntry.mk (PyData.keyHash P (Str.ofString "]")) (.str (Str.ofString "]") 545) (.int 10 379)), (DictEntry.mk (PyData.keyHash P (Str.ofString "^")) (.str (Str.ofString "^") 546) (.int 32 423)), (DictEntry.mk (PyData.keyHash P (Str.ofString "^=")) (.str (Str.ofString "^=") 547) (.int 43 445)), (DictEntry.mk (PyData.keyHash P (Str.ofString "{")) (.str (Str.ofString "{") 548) (.int 25 409)), (DictEntry.mk (PyData.keyHash P (Str.ofString "|")) (.str (Str.ofString "|") 549) (.int 18 395)), (DictEntry.mk (PyData.keyHash P (Str.ofString "|=")) (.str (Str.ofString "|=") 550) (.int 42 443)), (DictEntry.mk (PyData.keyHash P (Str.ofString "}")) (.str (Str.ofString "}") 551) (.int 26 411)), (DictEntry.mk (PyData.keyHash P (Str.ofString "~")) (.str (Str.ofString "~") 552) (.int 31 421))] 48) #[])) ::
   (nat_lit 66, (Obj.mk (.type "tuple") none (Data.seq #[] 0) #[])) ::
   (nat_lit 68, (Obj.mk (.type "tuple") none (Data.seq #[(.str (Str.ofString "x") 571)] 0) #[])) ::
   (nat_lit 69, (Obj.mk (.type "tuple") none (Data.seq #[] 0) #[])) ::
   (nat_lit 71, (Obj.mk (.type "code") none (Data.fields #[(.str (Str.ofString "ISTERMINAL") 568), (.str (Str.ofString "ISTERMINAL") 569), (.str (Str.ofString "/claim/cut.py") 570), (.int 72 0), (.int 1 0), (.int 0 0), (.int 0 0), (.int 3 0), (.ref 66), (.bool Bool.true), (.int 276 0), (.ref 67), .none, (.ref 68), (.ref 69), (.ref 70), (.int 572 0), (.int 72 0), (.str (Str.ofString "/claim/cut.py") 573)]) #[])) ::
   (nat_lit 72, (Obj.mk (.type "function") none (Data.func (FuncData.mk (Str.ofString "ISTERMINAL") (Str.ofString "ISTERMINAL") a72 (FuncBody.stmts b72) s72 3 [] .none .none .none (.str (Str.ofString "cpy313.token") 369) none (.ref 71) .none 0)) #[])) ::
   (nat_lit 73, (Obj.mk (.type "tuple") none (Data.seq #[] 0) #[])) ::
   (nat_lit 75, (Obj.mk (.type "tuple") none (Data.seq #[(.str (Str.ofString "x") 578)] 0) #[])) ::
   (nat_lit 76, (Obj.mk (.type "tuple") none (Data.seq #[] 0) #[])) ::
   (nat_lit 78, (Obj.mk (.type "code") none (Data.fields #[(.str (Str.ofString "ISNONTERMINAL") 575), (.str (Str.ofString "ISNONTERMINAL") 576), (.str (Str.ofString "/claim/cut.py") 577), (.int 74 0), (.int 1 0), (.int 0 0), (.int 0 0), (.int 3 0), (.ref 73), (.bool Bool.true), (.int 276 0), (.ref 74), .none, (.ref 75), (.ref 76), (.ref 77), (.int 579 0), (.int 74 0), (.str (Str.ofString "/claim/cut.py") 580)]) #[])) ::
   (nat_lit 79, (Obj.mk (.type "function") none (Data.func (FuncData.mk (Str.ofString "ISNONTERMINAL") (Str.ofString "ISNONTERMINAL") a79 (FuncBody.stmts b79) s79 3 [] .none .none .none (.str (Str.ofString "cpy313.token") 369) none (.ref 78) .none 0)) #[])) ::
   (nat_lit 80, (Obj.mk (.type "tuple") none (Data.seq #[] 0) #[])) ::
   (nat_lit 82, (Obj.mk (.type "tuple") none (Data.seq #[(.str (Str.ofString "x") 585)] 0) #[])) ::
   (nat_lit 83, (Obj.mk (.type "tuple") none (Data.seq #[] 0) #[])) ::
   (nat_lit 85, (Obj.mk (.type "code") none (Data.fields #[(.str (Str.ofString "ISEOF") 582), (.str (Str.ofString "ISEOF") 583), (.str (Str.ofString "/claim/cut.py") 584), (.int 76 0), (.int 1 0), (.int 0 0), (.int 0 0), (.int 3 0), (.ref 80), (.bool Bool.true), (.int 276 0), (.ref 81), .none, (.ref 82), (.ref 83), (.ref 84), (.int 586 0), (.int 76 0), (.str (Str.ofString "/claim/cut.py") 587)]) #[])) ::
   (nat_lit 86, (Obj.mk (.type "function") none (Data.func (FuncData.mk (Str.ofString "ISEOF") (Str.ofString "ISEOF") a86 (FuncBody.stmts b86) s86 3 [] .none .none .none (.str (Str.ofString "cpy313.token") 369) none (.ref 85) .none 0)) #[])) ::
   (nat_lit 90, (Obj.mk (.type "tuple") none (Data.seq #[(.int 14 0), (.int 14 0), (.int 4 0), (.int 1 0), (.int 1 0), (.int 9 0), (.int 0 0), (.int 4227896069 0), (.int 939524097 0), (.int 0 0), (.int 0 0), (.int 0 0), (.int 0 0), (.int 0 0), (.int 0 0), (.int 13 0), (.int 11 0), (.int 9 0), (.int 0 0), (.int 4227896069 0), (.int 939524097 0), (.int 0 0), (.int 0 0), (.int 0 0), (.int 0 0), (.int 0 0), (.int 0 0), (.int 1 0)] 0) #[])) ::
   (nat_lit 91, (Obj.mk (.type "re.Pattern") none (Data.fields #[(.str (Str.ofString "[ \\(\\)<>@,;:\\\\\"/\\[\\]\\?=]") 592), (.int 32 623), (.int 0 0), .none, .none, (.ref 90), (.int 0 0)]) #[])) ::
   (nat_lit 95, (Obj.mk (.type "tuple") none (Data.seq #[(.int 14 0), (.int 10 0), (.int 4 0), (.int 1 0), (.int 1 0), (.int 22 0), (.int 0 0), (.int 31 0), (.int 16 0), (.int 127 0), (.int 0 0), (.int 13 0), (.int 7 0), (.int 22 0), (.int 0 0), (.int 31 0), (.int 16 0), (.int 127 0), (.int 0 0), (.int 1 0)] 0) #[])) ::
   (nat_lit 96, (Obj.mk (.type "re.Pattern") none (Data.fields #[(.str (Str.ofString "[\\x00-\\x1F\\x7F]") 626), (.int 32 649), (.int 0 0), .none, .none, (.ref 95), (.int 0 0)]) #[])) ::
   (nat_lit 100, (Obj.mk (.type "tuple") none (Data.seq #[(.int 14 0), (.int 14 0), (.int 4 0), (.int 1 0), (.int 1 0), (.int 9 0), (.int 4294966783 0), (.int 0 0), (.int 0 0), (.int 2147483648 0), (.int 0 0), (.int 0 0), (.int 0 0), (.int 0 0), (.int 0 0), (.int 13 0), (.int 11 0), (.int 9 0), (.int 4294966783 0), (.int 0 0), (.int 0 0), (.int 2147483648 0), (.int 0 0), (.int 0 0), (.int 0 0), (.int 0 0), (.int 0 0), (.int 1 0)] 0) #[])) ::
   (nat_lit 101, (Obj.mk (.type "re.Pattern") none (Data.fields #[(.str (Str.ofString "[\\x00-\\x08\\x0A-\\x1F\\x7F]") 652), (.int 32 683), (.int 0 0), .none, .none, (.ref 100), (.int 0 0)]) #[])) ::
   (nat_lit 102, (Obj.mk (.type "tuple") none (Data.seq #[.none, (.int 1 685)] 0) #[])) ::
   (nat_lit 103, (Obj.mk (.type "tuple") none (Data.seq #[] 0) #[])) ::
   (nat_lit 105, (Obj.mk (.type "tuple") none (Data.seq #[(.str (Str.ofString "param") 689), (.str (Str.ofString "value") 690), (.str (Str.ofString "quote") 691)] 0) #[])) ::
   (nat_lit 106, (Obj.mk (.type "tuple") none (Data.seq #[] 0) #[])) ::
   (nat_lit 108, (Obj.mk (.type "code") none (Data.fields #[(.str (Str.ofString "_formatparam") 686), (.str (Str.ofString "_formatparam") 687), (.str (Str.ofString "/claim/cut.py") 688), (.int 82 0), (.int 3 0), (.int 0 0), (.int 0 0), (.int 3 0), (.ref 103), (.bool Bool.true), (.int 276 0), (.ref 104), .none, (.ref 105), (.ref 106), (.ref 107), (.int 692 0), (.int 82 0), (.str (Str.ofString "/claim/cut.py") 693)]) #[])) ::
   (nat_lit 109, (Obj.mk (.type "function") none (Data.func (FuncData.mk (Str.ofString "_formatparam") (Str.ofString "_formatparam") a109 (FuncBody.stmts b109) s109 3 [] (.ref 102) .none .none (.str (Str.ofString "cpy313.wsgiref.headers") 589) none (.ref 108) .none 0)) #[])) ::
   (nat_lit 117, (Obj.mk (.type "tuple") none (Data.seq #[.none] 0) #[])) ::
   (nat_lit 118, (Obj.mk (.type "tuple") none (Data.seq #[] 0) #[])) ::
   (nat_lit 120, (Obj.mk (.type "tuple") none (Data.seq #[(.str (Str.ofString "self") 710), (.str (Str.ofString "headers") 711), (.str (Str.ofString "k") 712), (.str (Str.ofString "v") 713)] 0) #[])) ::
   (nat_lit 121, (Obj.mk (.type "tuple") none (Data.seq #[] 0) #[])) ::
   (nat_lit 123, (Obj.mk (.type "code") none (Data.fields #[(.str (Str.ofString "__init__") 707), (.str (Str.ofString "Headers.__init__") 708), (.str (Str.ofString "/claim/cut.py") 709), (.int 93 0), (.int 2 0), (.int 0 0), (.int 0 0), (.int 3 0), (.ref 118), (.bool Bool.true), (.int 276 0), (.ref 119), .none, (.ref 120), (.ref 121), (.ref 122), (.int 714 0), (.int 93 0), (.str (Str.ofString "/claim/cut.py") 715)]) #[])) ::
   (nat_lit 124, (Obj.mk (.type "function") none (Data.func (FuncData.mk (Str.ofString "__init__") (Str.ofString "Headers.__init__") a124 (FuncBody.stmts b124) s124 3 [] (.ref 117) .none .none (.str (Str.ofString "cpy313.wsgiref.headers") 589) none (.ref 123) .none 0)) #[])) ::
   (nat_lit 125, (Obj.mk (.type "tuple") none (Data.seq #[] 0) #[])) ::
   (nat_lit 127, (Obj.mk (.type "tuple") none (Data.seq #[(.str (Str.ofString "self") 720), (.str (Str.ofString "value") 721), (.str (Str.ofString "name") 722), (.str (Str.ofString "regex") 723)] 0) #[])) ::
   (nat_lit 128, (Obj.mk (.type "tuple") none (Data.seq #[] 0) #[])) ::
   (nat_lit 130, (Obj.mk (.type "code") none (Data.fields #[(.str (Str.ofString "_convert_string_type") 717), (.str (Str.ofString "Headers._convert_string_type") 718), (.str (Str.ofString "/claim/cut.py") 719), (.int 103 0), (.int 2 0), (.int 0 0), (.int 1 0), (.int 3 0), (.ref 125), (.bool Bool.true), (.int 276 0), (.ref 126), .none, (.ref 127), (.ref 128), (.ref 129), (.int 724 0), (.int 103 0), (.str (Str.ofString "/claim/cut.py") 725)]) #[])) ::
   (nat_lit 131, (Obj.mk (.type "function") none (Data.func (FuncData.mk (Str.ofString "_convert_string_type") (Str.ofString "Headers._convert_string_type") a131 (FuncBody.stmts b131) s131 3 [] .none .none .none (.str (Str.ofString "cpy313.wsgiref.headers") 589) none (.ref 130) .none 0)) #[])) ::
   (nat_lit 132, (Obj.mk (.type "tuple") none (Data.seq #[] 0) #[])) ::
   (nat_lit 134, (Obj.mk (.type "tuple") none (Data.seq #[(.str (Str.ofString "self") 730)] 0) #[])) ::
   (nat_lit 135, (Obj.mk (.type "tuple") none (Data.seq #[] 0) #[])) ::
   (nat_lit 137, (Obj.mk (.type "code") none (Data.fields #[(.str (Str.ofString "__len__") 727), (.str (Str.ofString "Headers.__len__") 728), (.str (Str.ofString "/claim/cut.py") 729), (.int 111 0), (.int 1 0), (.int 0 0), (.int 0 0), (.int 3 0), (.ref 132), (.bool Bool.true), (.int 276 0), (.ref 133), .none, (.ref 134), (.ref 135), (.ref 136), (.int 731 0), (.int 111 0), (.str (Str.ofString "/claim/cut.py") 732)]) #[])) ::
   (nat_lit 138, (Obj.mk (.type "function") none (Data.func (FuncData.mk (Str.ofString "__len__") (Str.ofString "Headers.__len__") a138 (FuncBody.stmts b138) s138 3 [] .none .none .none (.str (Str.ofString "cpy313.wsgiref.headers") 589) none (.ref 137) .none 0)) #[])) ::
   (nat_lit 139, (Obj.mk (.type "tuple") none (Data.seq #[] 0) #[])) ::
   (nat_lit 141, (Obj.mk (.type "tuple") none (Data.seq #[(.str (Str.ofString "self") 737), (.str (Str.ofString "name") 738), (.str (Str.ofString "val") 739)] 0) #[])) ::
   (nat_lit 142, (Obj.mk (.type "tuple") none (Data.seq #[] 0) #[])) ::
   (nat_lit 144, (Obj.mk (.type "code") none (Data.fields #[(.str (Str.ofString "__setitem__") 734), (.str (Str.ofString "Headers.__setitem__") 735), (.str (Str.ofString "/claim/cut.py") 736), (.int 114 0), (.int 3 0), (.int 0 0), (.int 0 0), (.int 3 0), (.ref 139), (.bool Bool.true), (.int 276 0), (.ref 140), .none, (.ref 141), (.ref 142), (.ref 143), (.int 740 0), (.int 114 0), (.str (Str.ofString "/claim/cut.py") 741)]) #[])) ::
   (nat_lit 145, (Obj.mk (.type "function") none (Data.func (FuncData.mk (Str.ofString "__setitem__") (Str.ofString "Headers.__setitem__") a145 (FuncBody.stmts b145) s145 3 [] .none .none .none (.str (Str.ofString "cpy313.wsgiref.headers") 589) none (.ref 144) .none 0)) #[])) ::
   (nat_lit 146, (Obj.mk (.type "tuple") none (Data.seq #[] 0) #[])) ::
   (nat_lit 149, (Obj.mk (.type "code") none (Data.fields #[(.str (Str.ofString "__delitem__") 743), (.str (Str.ofString "Headers.__delitem__") 744), (.str (Str.ofString "/claim/cut.py") 745), (.int 118 0), (.int 2 0), (.int 0 0), (.int 0 0), (.int 3 0), (.ref 146), (.bool Bool.true), (.int 276 0), (.ref 147), .none, .none, .none, (.ref 148), (.int 746 0), (.int 118 0), (.str (Str.ofString "/claim/cut.py") 747)]) #[])) ::
   (nat_lit 150, (Obj.mk (.type "function") none (Data.func (FuncData.mk (Str.ofString "__delitem__") (Str.ofString "Headers.__delitem__") a150 (FuncBody.stmts b150) s150 3 [] .none .none .none (.str (Str.ofString "cpy313.wsgiref.headers") 589) none (.ref 149) .none 0)) #[])) ::
   (nat_lit 151, (Obj.mk (.type "tuple") none (Data.seq #[] 0) #[])) ::
   (nat_lit 153, (Obj.mk (.type "tuple") none (Data.seq #[(.str (Str.ofString "self") 752), (.str (Str.ofString "name") 753)] 0) #[])) ::
   (nat_lit 154, (Obj.mk (.type "tuple") none (Data.seq #[] 0) #[])) ::
   (nat_lit 156, (Obj.mk (.type "code") none (Data.fields #[(.str (Str.ofString "__getitem__") 749), (.str (Str.ofString "Headers.__getitem__") 750), (.str (Str.ofString "/claim/cut.py") 751), (.int 122 0), (.int 2 0), (.int 0 0), (.int 0 0), (.int 3 0), (.ref 151), (.bool Bool.true), (.int 276 0), (.ref 152), .none, (.ref 153), (.ref 154), (.ref 155), (.int 754 0), (.int 122 0), (.str (Str.ofString "/claim/cut.py") 755)]) #[])) ::
   (nat_lit 157, (Obj.mk (.type "function") none (Data.func (FuncData.mk (Str.ofString "__getitem__") (Str.ofString "Headers.__getitem__") a157 (FuncBody.stmts b157) s157 3 [] .none .none .none (.str (Str.ofString "cpy313.wsgiref.headers") 589) none (.ref 156) .none 0)) #[])) ::
   (nat_lit 158, (Obj.mk (.type "tuple") none (Data.seq #[] 0) #[])) ::
   (nat_lit 160, (Obj.mk (.type "tuple") none (Data.seq #[(.str (Str.ofString "self") 760), (.str (Str.ofString "name") 761)] 0) #[])) ::
   (nat_lit 161, (Obj.mk (.type "tuple") none (Data.seq #[] 0) #[])) ::
   (nat_lit 163, (Obj.mk (.type "code") none (Data.fields #[(.str (Str.ofString "__contains__") 757), (.str (Str.ofString "Headers.__contains__") 758), (.str (Str.ofString "/claim/cut.py") 759), (.int 125 0), (.int 2 0), (.int 0 0), (.int 0 0), (.int 3 0), (.ref 158), (.bool Bool.true), (.int 276 0), (.ref 159), .none, (.ref 160), (.ref 161), (.ref 162), (.int 762 0), (.int 125 0), (.str (Str.ofString "/claim/cut.py") 763)]) #[])) ::
   (nat_lit 164, (Obj.mk (.type "function") none (Data.func (FuncData.mk (Str.ofString "__contains__") (Str.ofString "Headers.__contains__") a164 (FuncBody.stmts b164) s164 3 [] .none .none .none (.str (Str.ofString "cpy313.wsgiref.headers") 589) none (.ref 163) .none 0)) #[])) ::
   (nat_lit 165, (Obj.mk (.type "tuple") none (Data.seq #[] 0) #[])) ::
   (nat_lit 167, (Obj.mk (.type "tuple") none (Data.seq #[(.str (Str.ofString "self") 768), (.str (Str.ofString "name") 769)] 0) #[])) ::
   (nat_lit 168, (Obj.mk (.type "tuple") none (Data.seq #[] 0) #[])) ::
   (nat_lit 170, (Obj.mk (.type "code") none (Data.fields #[(.str (Str.ofString "get_all") 765), (.str (Str.ofString "Headers.get_all") 766), (.str (Str.ofString "/claim/cut.py") 767), (.int 128 0), (.int 2 0), (.int 0 0), (.int 0 0), (.int 3 0), (.ref 165), (.bool Bool.true), (.int 276 0), (.ref 166), .none, (.ref 167), (.ref 168), (.ref 169), (.int 770 0), (.int 128 0), (.str (Str.ofString "/claim/cut.py") 771)]) #[])) ::
   (nat_lit 171, (Obj.mk (.type "function") none (Data.func (FuncData.mk (Str.ofString "get_all") (Str.ofString "Headers.get_all") a171 (FuncBody.stmts b171) s171 3 [] .none .none .none (.str (Str.ofString "cpy313.wsgiref.headers") 589) none (.ref 170) .none 0)) #[])) ::
   (nat_lit 172, (Obj.mk (.type "tuple") none (Data.seq #[.none] 0) #[])) ::
   (nat_lit 173, (Obj.mk (.type "tuple") none (Data.seq #[] 0) #[])) ::
   (nat_lit 175, (Obj.mk (.type "tuple") none (Data.seq #[(.str (Str.ofString "self") 776), (.str (Str.ofString "name") 777), (.str (Str.ofString "default") 778), (.str (Str.ofString "k") 779), (.str (Str.ofString "v") 780)] 0) #[])) ::
   (nat_lit 176, (Obj.mk (.type "tuple") none (Data.seq #[] 0) #[])) ::
   (nat_lit 178, (Obj.mk (.type "code") none (Data.fields #[(.str (Str.ofString "get") 773), (.str (Str.ofString "Headers.get") 774), (.str (Str.ofString "/claim/cut.py") 775), (.int 131 0), (.int 3 0), (.int 0 0), (.int 0 0), (.int 3 0), (.ref 173), (.bool Bool.true), (.int 276 0), (.ref 174), .none, (.ref 175), (.ref 176), (.ref 177), (.int 781 0), (.int 131 0), (.str (Str.ofString "/claim/cut.py") 782)]) #[])) ::
   (nat_lit 179, (Obj.mk (.type "function") none (Data.func (FuncData.mk (Str.ofString "get") (Str.ofString "Headers.get") a179 (FuncBody.stmts b179) s179 3 [] (.ref 172) .none .none (.str (Str.ofString "cpy313.wsgiref.headers") 589) none (.ref 178) .none 0)) #[])) ::
   (nat_lit 180, (Obj.mk (.type "tuple") none (Data.seq #[] 0) #[])) ::
   (nat_lit 183, (Obj.mk (.type "code") none (Data.fields #[(.str (Str.ofString "keys") 784), (.str (Str.ofString "Headers.keys") 785), (.str (Str.ofString "/claim/cut.py") 786), (.int 138 0), (.int 1 0), (.int 0 0), (.int 0 0), (.int 3 0), (.ref 180), (.bool Bool.true), (.int 276 0), (.ref 181), .none, .none, .none, (.ref 182), (.int 787 0), (.int 138 0), (.str (Str.ofString "/claim/cut.py") 788)]) #[])) ::
   (nat_lit 184, (Obj.mk (.type "function") none (Data.func (FuncData.mk (Str.ofString "keys") (Str.ofString "Headers.keys") a184 (FuncBody.stmts b184) s184 3 [] .none .none .none (.str (Str.ofString "cpy313.wsgiref.headers") 589) none (.ref 183) .none 0)) #[])) ::
   (nat_lit 185, (Obj.mk (.type "tuple") none (Data.seq #[] 0) #[])) ::
   (nat_lit 188, (Obj.mk (.type "code") none (Data.fields #[(.str (Str.ofString "values") 790), (.str (Str.ofString "Headers.values") 791), (.str (Str.ofString "/claim/cut.py") 792), (.int 141 0), (.int 1 0), (.int 0 0), (.int 0 0), (.int 3 0), (.ref 185), (.bool Bool.true), (.int 276 0), (.ref 186), .none, .none, .none, (.ref 187), (.int 793 0), (.int 141 0), (.str (Str.ofString "/claim/cut.py") 794)]) #[])) ::
   (nat_lit 189, (Obj.mk (.type "function") none (Data.func (FuncData.mk (Str.ofString "values") (Str.ofString "Headers.values") a189 (FuncBody.stmts b189) s189 3 [] .none .none .none (.str (Str.ofString "cpy313.wsgiref.headers") 589) none (.ref 188) .none 0)) #[])) ::
   (nat_lit 190, (Obj.mk (.type "tuple") none (Data.seq #[] 0) #[])) ::
   (nat_lit 192, (Obj.mk (.type "tuple") none (Data.seq #[(.str (Str.ofString "self") 799)] 0) #[])) ::
   (nat_lit 193, (Obj.mk (.type "tuple") none (Data.seq #[] 0) #[])) ::
   (nat_lit 195, (Obj.mk (.type "code") none (Data.fields #[(.str (Str.ofString "items") 796), (.str (Str.ofString "Headers.items") 797), (.str (Str.ofString "/claim/cut.py") 798), (.int 144 0), (.int 1 0), (.int 0 0), (.int 0 0), (.int 3 0), (.ref 190), (.bool Bool.true), (.int 276 0), (.ref 191), .none, (.ref 192), (.ref 193), (.ref 194), (.int 800 0), (.int 144 0), (.str (Str.ofString "/claim/cut.py") 801)]) #[])) ::
   (nat_lit 196, (Obj.mk (.type "function") none (Data.func (FuncData.mk (Str.ofString "items") (Str.ofString "Headers.items") a196 (FuncBody.stmts b196) s196 3 [] .none .none .none (.str (Str.ofString "cpy313.wsgiref.headers") 589) none (.ref 195) .none 0)) #[])) ::
   (nat_lit 197, (Obj.mk (.type "tuple") none (Data.seq #[] 0) #[])) ::
   (nat_lit 199, (Obj.mk (.type "tuple") none (Data.seq #[(.str (Str.ofString "self") 806)] 0) #[])) ::
   (nat_lit 200, (Obj.mk (.type "tuple") none (Data.seq #[] 0) #[])) ::
   (nat_lit 202, (Obj.mk (.type "code") none (Data.fields #[(.str (Str.ofString "__repr__") 803), (.str (Str.ofString "Headers.__repr__") 804), (.str (Str.ofString "/claim/cut.py") 805), (.int 147 0), (.int 1 0), (.int 0 0), (.int 0 0), (.int 3 0), (.ref 197), (.bool Bool.true), (.int 276 0), (.ref 198), .none, (.ref 199), (.ref 200), (.ref 201), (.int 807 0), (.int 147 0), (.str (Str.ofString "/claim/cut.py") 808)]) #[])) ::
   (nat_lit 203, (Obj.mk (.type "function") none (Data.func (FuncData.mk (Str.ofString "__repr__") (Str.ofString "Headers.__repr__") a203 (FuncBody.stmts b203) s203 3 [] .none .none .none (.str (Str.ofString "cpy313.wsgiref.headers") 589) none (.ref 202) .none 0)) #[])) ::
   (nat_lit 204, (Obj.mk (.type "tuple") none (Data.seq #[] 0) #[])) ::
   (nat_lit 207, (Obj.mk (.type "code") none (Data.fields #[(.str (Str.ofString "__str__") 810), (.str (Str.ofString "Headers.__str__") 811), (.str (Str.ofString "/claim/cut.py") 812), (.int 150 0), (.int 1 0), (.int 0 0), (.int 0 0), (.int 3 0), (.ref 204), (.bool Bool.true), (.int 276 0), (.ref 205), .none, .none, .none, (.ref 206), (.int 813 0), (.int 150 0), (.str (Str.ofString "/claim/cut.py") 814)]) #[])) ::
   (nat_lit 208, (Obj.mk (.type "function") none (Data.func (FuncData.mk (Str.ofString "__str__") (Str.ofString "Headers.__str__") a208 (FuncBody.stmts b208) s208 3 [] .none .none .none (.str (Str.ofString "cpy313.wsgiref.headers") 589) none (.ref 207) .none 0)) #[])) ::
   (nat_lit 209, (Obj.mk (.type "tuple") none (Data.seq #[] 0) #[])) ::
   (nat_lit 211, (Obj.mk (.type "tuple") none (Data.seq #[(.str (Str.ofString "self") 819)] 0) #[])) ::
   (nat_lit 212, (Obj.mk (.type "tuple") none (Data.seq #[] 0) #[])) ::
   (nat_lit 214, (Obj.mk (.type "code") none (Data.fields #[(.str (Str.ofString "__bytes__") 816), (.str (Str.ofString "Headers.__bytes__") 817), (.str (Str.ofString "/claim/cut.py") 818), (.int 153 0), (.int 1 0), (.int 0 0), (.int 0 0), (.int 3 0), (.ref 209), (.bool Bool.true), (.int 276 0), (.ref 210), .none, (.ref 211), (.ref 212), (.ref 213), (.int 820 0), (.int 153 0), (.str (Str.ofString "/claim/cut.py") 821)]) #[])) ::
   (nat_lit 215, (Obj.mk (.type "function") none (Data.func (FuncData.mk (Str.ofString "__bytes__") (Str.ofString "Headers.__bytes__") a215 (FuncBody.stmts b215) s215 3 [] .none .none .none (.str (Str.ofString "cpy313.wsgiref.headers") 589) none (.ref 214) .none 0)) #[])) ::
   (nat_lit 216, (Obj.mk (.type "tuple") none (Data.seq #[] 0) #[])) ::
   (nat_lit 218, (Obj.mk (.type "tuple") none (Data.seq #[(.str (Str.ofString "self") 826), (.str (Str.ofString "name") 827), (.str (Str.ofString "value") 828)] 0) #[])) ::
   (nat_lit 219, (Obj.mk (.type "tuple") none (Data.seq #[] 0) #[])) ::
   (nat_lit 221, (Obj.mk (.type "code") none (Data.fields #[(.str (Str.ofString "setdefault") 823), (.str (Str.ofString "Headers.setdefault") 824), (.str (Str.ofString "/claim/cut.py") 825), (.int 156 0), (.int 3 0), (.int 0 0), (.int 0 0), (.int 3 0), (.ref 216), (.bool Bool.true), (.int 276 0), (.ref 217), .none, (.ref 218), (.ref 219), (.ref 220), (.int 829 0), (.int 156 0), (.str (Str.ofString "/claim/cut.py") 830)]) #[])) ::
   (nat_lit 222, (Obj.mk (.type "function") none (Data.func (FuncData.mk (Str.ofString "setdefault") (Str.ofString "Headers.setdefault") a222 (FuncBody.stmts b222) s222 3 [] .none .none .none (.str (Str.ofString "cpy313.wsgiref.headers") 589) none (.ref 221) .none 0)) #[])) ::
   (nat_lit 223, (Obj.mk (.type "tuple") none (Data.seq #[] 0) #[])) ::
   (nat_lit 225, (Obj.mk (.type "tuple") none (Data.seq #[(.str (Str.ofString "self") 835), (.str (Str.ofString "_name") 836), (.str (Str.ofString "_value") 837), (.str (Str.ofString "_params") 838), (.str (Str.ofString "parts") 839), (.str (Str.ofString "k") 840), (.str (Str.ofString "v") 841)] 0) #[])) ::
   (nat_lit 226, (Obj.mk (.type "tuple") none (Data.seq #[] 0) #[])) ::
   (nat_lit 228, (Obj.mk (.type "code") none (Data.fields #[(.str (Str.ofString "add_header") 832), (.str (Str.ofString "Headers.add_header") 833), (.str (Str.ofString "/claim/cut.py") 834), (.int 159 0), (.int 3 0), (.int 0 0), (.int 0 0), (.int 11 0), (.ref 223), (.bool Bool.true), (.int 276 0), (.ref 224), .none, (.ref 225), (.ref 226), (.ref 227), (.int 842 0), (.int 159 0), (.str (Str.ofString "/claim/cut.py") 843)]) #[])) ::
   (nat_lit 229, (Obj.mk (.type "function") none (Data.func (FuncData.mk (Str.ofString "add_header") (Str.ofString "Headers.add_header") a229 (FuncBody.stmts b229) s229 3 [] .none .none .none (.str (Str.ofString "cpy313.wsgiref.headers") 589) none (.ref 228) .none 0)) #[])) ::
   (nat_lit 230, (Obj.mk (.type "tuple") none (Data.seq #[(.str (Str.ofString "_headers") 845)] 0) #[])) ::
   (nat_lit 231, (Obj.mk (.type "dict") none (Data.dict #[(DictEntry.mk (PyData.keyHash P (Str.ofString "__module__")) (.str (Str.ofString "__module__") 702) (.str (Str.ofString "cpy313.wsgiref.headers") 589)), (DictEntry.mk (PyData.keyHash P (Str.ofString "__firstlineno__")) (.str (Str.ofString "__firstlineno__") 706) (.int 91 705)), (DictEntry.mk (PyData.keyHash P (Str.ofString "__init__")) (.str (Str.ofString "__init__") 716) (.ref 124)), (DictEntry.mk (PyData.keyHash P (Str.ofString "_convert_string_type")) (.str (Str.ofString "_convert_string_type") 726) (.ref 131)), (DictEntry.mk (PyData.keyHash P (Str.ofString "__len__")) (.str (Str.ofString "__len__") 733) (.ref 138)), (DictEntry.mk (PyData.keyHash P (Str.ofString "__setitem__")) (.str (Str.ofString "__setitem__") 742) (.ref 145)), (DictEntry.mk (PyData.keyHash P (Str.ofString "__delitem__")) (.str (Str.ofString "__delitem__") 748) (.ref 150)), (DictEntry.mk (PyData.keyHash P (Str.ofString "__getitem__")) (.str (Str.ofString "__getitem__") 756) (.ref 157)), (DictEntry.mk (PyData.keyHash P (Str.ofString "__contains__")) (.str (Str.ofString "__contains__") 764) (.ref 164)), (DictEntry.mk (PyData.keyHash P (Str.ofString "get_all")) (.str (Str.ofString "get_all") 772) (.ref 171)), (DictEntry.mk (PyData.keyHash P (Str.ofString "get")) (.str (Str.ofString "get") 783) (.ref 179)), (DictEntry.mk (PyData.keyHash P (Str.ofString "keys")) (.str (Str.ofString "keys") 789) (.ref 184)), (DictEntry.mk (PyData.keyHash P (Str.ofString "values")) (.str (Str.ofString "values") 795) (.ref 189)), (DictEntry.mk (PyData.keyHash P (Str.ofString "items")) (.str (Str.ofString "items") 802) (.ref 196)), (DictEntry.mk (PyData.keyHash P (Str.ofString "__repr__")) (.str (Str.ofString "__repr__") 809) (.ref 203)), (DictEntry.mk (PyData.keyHash P (Str.ofString "__str__")) (.str (Str.ofString "__str__") 815) (.ref 208)), (DictEntry.mk (PyData.keyHash P (Str.ofString "__bytes__")) (.str (Str.ofString "__bytes__") 822) (.ref 215)), (DictEntry.mk (PyData.keyHash P (Str.ofString "setdefault")) (.str (Str.ofString "setdefault") 831) (.ref 222)), (DictEntry.mk (PyData.keyHash P (Str.ofString "add_header")) (.str (Str.ofString "add_header") 844) (.ref 229)), (DictEntry.mk (PyData.keyHash P (Str.ofString "__static_attributes__")) (.str (Str.ofString "__static_attributes__") 846) (.ref 230)), (DictEntry.mk (PyData.keyHash P (Str.ofString "__dict__")) (.str (Str.ofString "__dict__") 848) (.ref 233)), (DictEntry.mk (PyData.keyHash P (Str.ofString "__weakref__")) (.str (Str.ofString "__weakref__") 850) (.ref 234)), (DictEntry.mk (PyData.keyHash P (Str.ofString "__doc__")) (.str (Str.ofString "__doc__") 851) .none)] 4) #[])) ::
   (nat_lit 232, (Obj.mk (.type "type") none (Data.cls (ClassData.mk (Str.ofString "Headers") [(.type "object")] [(.ref 232), (.type "object")] 231 (Str.ofString "Headers") Bool.true [] [] Bool.false none Bool.false)) #[none, none, (some (.str (Str.ofString "Headers") 695)), (some (.str (Str.ofString "Headers") 703)), (some (.builtin "object.__new__")), (some (.bool Bool.true))])) ::
   (nat_lit 233, (Obj.mk (.type "getset_descriptor") none (Data.fields #[(.str (Str.ofString "__dict__") 847), (.ref 232), (.builtin "function.__dict__"), (.builtin "function.__dict__#set")]) #[])) ::
   (nat_lit 234, (Obj.mk (.type "getset_descriptor") none (Data.fields #[(.str (Str.ofString "__weakref__") 849), (.ref 232), (.builtin "ExceptionGroup.__weakref__"), .none]) #[])) ::
   (nat_lit 237, (Obj.mk (.type "tuple") none (Data.seq #[] 0) #[])) ::
   (nat_lit 240, (Obj.mk (.type "code") none (Data.fields #[(.str (Str.ofString "_law_numbers") 856), (.str (Str.ofString "_law_numbers") 857), (.str (Str.ofString "/claim/cut.py") 858), (.int 173 0), (.int 1 0), (.int 0 0), (.int 0 0), (.int 3 0), (.ref 237), (.bool Bool.true), (.int 276 0), (.ref 238), .none, .none, .none, (.ref 239), (.int 859 0), (.int 173 0), (.str (Str.ofString "/claim/cut.py") 860)]) #[])) ::
   (nat_lit 241, (Obj.mk (.type "function") none (Data.func (FuncData.mk (Str.ofString "_law_numbers") (Str.ofString "_law_numbers") a241 (FuncBody.stmts b241) s241 3 [] .none .none .none (.str (Str.ofString "law_sr0074_02") 854) none (.ref 240) .none 0)) #[])) ::
   (nat_lit 242, (Obj.mk (.type "tuple") none (Data.seq #[] 0) #[])) ::
   (nat_lit 244, (Obj.mk (.type "tuple") none (Data.seq #[(.str (Str.ofString "told") 865), (.str (Str.ofString "octets") 866), (.str (Str.ofString "v") 867), (.str (Str.ofString "digits") 868)] 0) #[])) ::
   (nat_lit 245, (Obj.mk (.type "tuple") none (Data.seq #[] 0) #[])) ::
   (nat_lit 247, (Obj.mk (.type "code") none (Data.fields #[(.str (Str.ofString "_law_tape") 862), (.str (Str.ofString "_law_tape") 863), (.str (Str.ofString "/claim/cut.py") 864), (.int 178 0), (.int 1 0), (.int 0 0), (.int 0 0), (.int 3 0), (.ref 242), (.bool Bool.true), (.int 276 0), (.ref 243), .none, (.ref 244), (.ref 245), (.ref 246), (.int 869 0), (.int 178 0), (.str (Str.ofString "/claim/cut.py") 870)]) #[])) ::
   (nat_lit 248, (Obj.mk (.type "function") none (Data.func (FuncData.mk (Str.ofString "_law_tape") (Str.ofString "_law_tape") a248 (FuncBody.stmts b248) s248 3 [] .none .none .none (.str (Str.ofString "law_sr0074_02") 854) none (.ref 247) .none 0)) #[])) ::
   (nat_lit 249, (Obj.mk (.type "tuple") none (Data.seq #[] 0) #[])) ::
   (nat_lit 251, (Obj.mk (.type "tuple") none (Data.seq #[(.str (Str.ofString "tape") 875), (.str (Str.ofString "octets") 876), (.str (Str.ofString "read") 877)] 0) #[])) ::
   (nat_lit 252, (Obj.mk (.type "tuple") none (Data.seq #[] 0) #[])) ::
   (nat_lit 254, (Obj.mk (.type "code") none (Data.fields #[(.str (Str.ofString "_law_read") 872), (.str (Str.ofString "_law_read") 873), (.str (Str.ofString "/claim/cut.py") 874), (.int 188 0), (.int 1 0), (.int 0 0), (.int 0 0), (.int 3 0), (.ref 249), (.bool Bool.true), (.int 276 0), (.ref 250), .none, (.ref 251), (.ref 252), (.ref 253), (.int 878 0), (.int 188 0), (.str (Str.ofString "/claim/cut.py") 879)]) #[])) ::
   (nat_lit 255, (Obj.mk (.type "function") none (Data.func (FuncData.mk (Str.ofString "_law_read") (Str.ofString "_law_read") a255 (FuncBody.stmts b255) s255 3 [] .none .none .none (.str (Str.ofString "law_sr0074_02") 854) none (.ref 254) .none 0)) #[])) ::
   (nat_lit 256, (Obj.mk (.type "tuple") none (Data.seq #[] 0) #[])) ::
   (nat_lit 259, (Obj.mk (.type "code") none (Data.fields #[(.str (Str.ofString "_law_kinds_hold") 881), (.str (Str.ofString "_law_kinds_hold") 882), (.str (Str.ofString "/claim/cut.py") 883), (.int 198 0), (.int 1 0), (.int 0 0), (.int 0 0), (.int 3 0), (.ref 256), (.bool Bool.true), (.int 276 0), (.ref 257), .none, .none, .none, (.ref 258), (.int 884 0), (.int 198 0), (.str (Str.ofString "/claim/cut.py") 885)]) #[])) ::
   (nat_lit 260, (Obj.mk (.type "function") none (Data.func (FuncData.mk (Str.ofString "_law_kinds_hold") (Str.ofString "_law_kinds_hold") a260 (FuncBody.stmts b260) s260 3 [] .none .none .none (.str (Str.ofString "law_sr0074_02") 854) none (.ref 259) .none 0)) #[])) ::
   (nat_lit 261, (Obj.mk (.type "tuple") none (Data.seq #[] 0) #[])) ::
   (nat_lit 264, (Obj.mk (.type "code") none (Data.fields #[(.str (Str.ofString "_law_run") 887), (.str (Str.ofString "_law_run") 888), (.str (Str.ofString "/claim/cut.py") 889), (.int 201 0), (.int 2 0), (.int 0 0), (.int 0 0), (.int 3 0), (.ref 261), (.bool Bool.true), (.int 276 0), (.ref 262), .none, .none, .none, (.ref 263), (.int 890 0), (.int 201 0), (.str (Str.ofString "/claim/cut.py") 891)]) #[])) ::
   (nat_lit 265, (Obj.mk (.type "function") none (Data.func (FuncData.mk (Str.ofString "_law_run") (Str.ofString "_law_run") a265 (FuncBody.stmts b265) s265 3 [] .none .none .none (.str (Str.ofString "law_sr0074_02") 854) none (.ref 264) .none 0)) #[])) ::
   (nat_lit 266, (Obj.mk (.type "tuple") none (Data.seq #[] 0) #[])) ::
   (nat_lit 269, (Obj.mk (.type "code") none (Data.fields #[(.str (Str.ofString "_law_due") 893), (.str (Str.ofString "_law_due") 894), (.str (Str.ofString "/claim/cut.py") 895), (.int 219 0), (.int 1 0), (.int 0 0), (.int 0 0), (.int 3 0), (.ref 266), (.bool Bool.true), (.int 276 0), (.ref 267), .none, .none, .none, (.ref 268), (.int 896 0), (.int 219 0), (.str (Str.ofString "/claim/cut.py") 897)]) #[])) ::
   (nat_lit 270, (Obj.mk (.type "function") none (Data.func (FuncData.mk (Str.ofString "_law_due") (Str.ofString "_law_due") a270 (FuncBody.stmts b270) s270 3 [] .none .none .none (.str (Str.ofString "law_sr0074_02") 854) none (.ref 269) .none 0)) #[])) ::
   (nat_lit 271, (Obj.mk (.type "tuple") none (Data.seq #[] 0) #[])) ::
   (nat_lit 274, (Obj.mk (.type "code") none (Data.fields #[(.str (Str.ofString "_law_pairs") 899), (.str (Str.ofString "_law_pairs") 900), (.str (Str.ofString "/claim/cut.py") 901), (.int 229 0), (.int 2 0), (.int 0 0), (.int 0 0), (.int 3 0), (.ref 271), (.bool Bool.true), (.int 276 0), (.ref 272), .none, .none, .none, (.ref 273), (.int 902 0), (.int 229 0), (.str (Str.ofString "/claim/cut.py") 903)]) #[])) ::
   (nat_lit 275, (Obj.mk (.type "function") none (Data.func (FuncData.mk (Str.ofString "_law_pairs") (Str.ofString "_law_pairs") a275 (FuncBody.stmts b275) s275 3 [] .none .none .none (.str (Str.ofString "law_sr0074_02") 854) none (.ref 274) .none 0)) #[])) ::
   (nat_lit 276, (Obj.mk (.type "tuple") none (Data.seq #[] 0) #[])) ::
   (nat_lit 278, (Obj.mk (.type "tuple") none (Data.seq #[(.str (Str.ofString "table") 908), (.str (Str.ofString "name") 909), (.str (Str.ofString "value") 910)] 0) #[])) ::
   (nat_lit 279, (Obj.mk (.type "tuple") none (Data.seq #[] 0) #[])) ::
   (nat_lit 281, (Obj.mk (.type "code") none (Data.fields #[(.str (Str.ofString "_law_refused") 905), (.str (Str.ofString "_law_refused") 906), (.str (Str.ofString "/claim/cut.py") 907), (.int 233 0), (.int 3 0), (.int 0 0), (.int 0 0), (.int 3 0), (.ref 276), (.bool Bool.true), (.int 276 0), (.ref 277), .none, (.ref 278), (.ref 279), (.ref 280), (.int 911 0), (.int 233 0), (.str (Str.ofString "/claim/cut.py") 912)]) #[])) ::
   (nat_lit 282, (Obj.mk (.type "function") none (Data.func (FuncData.mk (Str.ofString "_law_refused") (Str.ofString "_law_refused") a282 (FuncBody.stmts b282) s282 3 [] .none .none .none (.str (Str.ofString "law_sr0074_02") 854) none (.ref 281) .none 0)) #[])) ::
   (nat_lit 283, (Obj.mk (.type "tuple") none (Data.seq #[] 0) #[])) ::
   (nat_lit 286, (Obj.mk (.type "code") none (Data.fields #[(.str (Str.ofString "law") 914), (.str (Str.ofString "law") 915), (.str (Str.ofString "/claim/cut.py") 916), (.int 239 0), (.int 1 0), (.int 0 0), (.int 0 0), (.int 3 0), (.ref 283), (.bool Bool.true), (.int 276 0), (.ref 284), .none, .none, .none, (.ref 285), (.int 917 0), (.int 239 0), (.str (Str.ofString "/claim/cut.py") 918)]) #[])) ::
   (nat_lit 287, (Obj.mk (.type "function") none (Data.func (FuncData.mk (Str.ofString "law") (Str.ofString "law") a287 (FuncBody.stmts b287) s287 3 [] .none .none .none (.str (Str.ofString "law_sr0074_02") 854) none (.ref 286) .none 0)) #[])) :: [] : List (Nat × Obj))) _ _ _ (IsFn.mk _ _ _ _ _ _ _ _ _ _) _ _ _ (IsFn.mk _ _ _ _ _ _ _ _ _ _) _ _ _ (IsFn.mk _ _ _ _ _ _ _ _ _ _) _ _ _ (IsFn.mk _ _ _ _ _ _ _ _ _ _) _ _ _ (IsFn.mk _ _ _ _ _ _ _ _ _ _) _ _ _ (IsFn.mk _ _ _ _ _ _ _ _ _ _) _ _ _ (IsFn.mk _ _ _ _ _ _ _ _ _ _) _ _ _ (IsFn.mk _ _ _ _ _ _ _ _ _ _) _ _ _ (IsFn.mk _ _ _ _ _ _ _ _ _ _) _ _ _ (IsFn.mk _ _ _ _ _ _ _ _ _ _) _ _ _ (IsFn.mk _ _ _ _ _ _ _ _ _ _) _ _ _ (IsFn.mk _ _ _ _ _ _ _ _ _ _) _ _ _ (IsFn.mk _ _ _ _ _ _ _ _ _ _) _ _ _ (IsFn.mk _ _ _ _ _ _ _ _ _ _) _ _ _ (IsFn.mk _ _ _ _ _ _ _ _ _ _) _ _ _ (IsFn.mk _ _ _ _ _ _ _ _ _ _) _ _ _ (IsFn.mk _ _ _ _ _ _ _ _ _ _) _ _ _ (IsFn.mk _ _ _ _ _ _ _ _ _ _) _ _ _ (IsFn.mk _ _ _ _ _ _ _ _ _ _) _ _ _ (IsFn.mk _ _ _ _ _ _ _ _ _ _) _ _ _ (IsFn.mk _ _ _ _ _ _ _ _ _ _) _ _ _ (IsFn.mk _ _ _ _ _ _ _ _ _ _) _ _ _ (IsFn.mk _ _ _ _ _ _ _ _ _ _) _ _ _ (IsFn.mk _ _ _ _ _ _ _ _ _ _) _ _ _ (IsFn.mk _ _ _ _ _ _ _ _ _ _) _ _ _ (IsFn.mk _ _ _ _ _ _ _ _ _ _) _ _ _ (IsFn.mk _ _ _ _ _ _ _ _ _ _) _ _ _ (IsFn.mk _ _ _ _ _ _ _ _ _ _) _ _ _ (IsFn.mk _ _ _ _ _ _ _ _ _ _) _ _ _ (IsFn.mk _ _ _ _ _ _ _ _ _ _) _ _ _ (IsFn.mk _ _ _ _ _ _ _ _ _ _) _ _ _ (IsFn.mk _ _ _ _ _ _ _ _ _ _) _ _ _ (IsFn.mk _ _ _ _ _ _ _ _ _ _)

noncomputable def hd02.view_39 : Program := view P2 [0, 1, 3, 5, 6, 7, 8, 10, 11, 12, 13, 14, 15, 16, 17, 18, 19, 20, 21, 22, 23, 24, 25, 26, 27, 28, 29, 30, 31, 32, 33, 34, 35, 36, 37, 38, 39, 40, 41, 42, 43, 44, 45, 46, 47, 48, 49, 50, 51, 52, 53, 54, 55, 56, 57, 58, 59, 60, 61, 62, 63, 65, 66, 67, 69, 71, 72, 73, 74, 75, 76, 77, 78, 79]
noncomputable def loose2 : List Str := [Str.ofString "_twin_re_1", Str.ofString "_twin_re_2", Str.ofString "EXACT_TOKEN_TYPES", Str.ofString "tspecials", Str.ofString "_name_disallowed_re", Str.ofString "_value_disallowed_re", Str.ofString "_formatparam"]
noncomputable def as2 : List Addr := [2, 3, 32, 34, 35, 37, 38, 39, 41, 42, 44, 45, 49, 50, 54, 55, 56, 58, 59, 61, 62, 63, 66, 68, 69, 71, 72, 73, 75, 76, 78, 79, 80, 82, 83, 85, 86, 90, 91, 95, 96, 100, 101, 102, 103, 105, 106, 108, 109, 117, 118, 120, 121, 123, 124, 125, 127, 128, 130, 131, 132, 134, 135, 137, 138, 139, 141, 142, 144, 145, 146, 149, 150, 151, 153, 154, 156, 157, 158, 160, 161, 163, 164, 165, 167, 168, 170, 171, 172, 173, 175, 176, 178, 179, 180, 183, 184, 185, 188, 189, 190, 192, 193, 195, 196, 197, 199, 200, 202, 203, 204, 207, 208, 209, 211, 212, 214, 215, 216, 218, 219, 221, 222, 223, 225, 226, 228, 229, 230, 231, 232, 233, 234, 237, 240, 241, 242, 244, 245, 247, 248, 249, 251, 252, 254, 255, 256, 259, 260, 261, 264, 265, 266, 269, 270, 271, 274, 275, 276, 278, 279, 281, 282, 283, 286, 287]
/-! the head, cut in two: the states where it is cut -/
namespace HD
noncomputable def kAt (P : Params) (a : Addr) : Obj := ((hd02.heap_39 P).lookup a).getD default
noncomputable def o_41 (P : Params) : Obj := (Obj.mk (.type "dict") none (Data.dict #[(DictEntry.mk (PyData.keyHash P (Str.ofString "__name__")) (.str (Str.ofString "__name__") 1) (.str (Str.ofString "builtins") 160)), (DictEntry.mk (PyData.keyHash P (Str.ofString "__doc__")) (.str (Str.ofString "__doc__") 2) (.builtin "builtins.__doc__:str#opaque")), (DictEntry.mk (PyData.keyHash P (Str.ofString "__package__")) (.str (Str.ofString "__package__") 3) (.builtin "builtins.__package__:str#opaque")), (DictEntry.mk (PyData.keyHash P (Str.ofString "__loader__")) (.str (Str.ofString "__loader__") 4) (.builtin "builtins.__loader__:shared#opaque")), (DictEntry.mk (PyData.keyHash P (Str.ofString "__spec__")) (.str (Str.ofString "__spec__") 5) (.builtin "builtins.__spec__#opaque")), (DictEntry.mk (PyData.keyHash P (Str.ofString "__build_class__")) (.str (Str.ofString "__build_class__") 6) (.builtin "__build_class__")), (DictEntry.mk (PyData.keyHash P (Str.ofString "__import__")) (.str (Str.ofString "__import__") 7) (.builtin "__import__")), (DictEntry.mk (PyData.keyHash P (Str.ofString "abs")) (.str (Str.ofString "abs") 8) (.builtin "abs")), (DictEntry.mk (PyData.keyHash P (Str.ofString "all")) (.str (Str.ofString "all") 9) (.builtin "all")), (DictEntry.mk (PyData.keyHash P (Str.ofString "any")) (.str (Str.ofString "any") 10) (.builtin "any")), (DictEntry.mk (PyData.keyHash P (Str.ofString "ascii")) (.str (Str.ofString "ascii") 11) (.builtin "ascii")), (DictEntry.mk (PyData.keyHash P (Str.ofString "bin")) (.str (Str.ofString "bin") 12) (.builtin "bin")), (DictEntry.mk (PyData.keyHash P (Str.ofString "breakpoint")) (.str (Str.ofString "breakpoint") 13) (.builtin "breakpoint")), (DictEntry.mk (PyData.keyHash P (Str.ofString "callable")) (.str (Str.ofString "callable") 14) (.builtin "callable")), (DictEntry.mk (PyData.keyHash P (Str.ofString "chr")) (.str (Str.ofString "chr") 15) (.builtin "chr")), (DictEntry.mk (PyData.keyHash P (Str.ofString "compile")) (.str (Str.ofString "compile") 16) (.builtin "compile")), (DictEntry.mk (PyData.keyHash P (Str.ofString "delattr")) (.str (Str.ofString "delattr") 17) (.builtin "delattr")), (DictEntry.mk (PyData.keyHash P (Str.ofString "dir")) (.str (Str.ofString "dir") 18) (.builtin "dir")), (DictEntry.mk (PyData.keyHash P (Str.ofString "divmod")) (.str (Str.ofString "divmod") 19) (.builtin "divmod")), (DictEntry.mk (PyData.keyHash P (Str.ofString "eval")) (.str (Str.ofString "eval") 20) (.builtin "eval")), (DictEntry.mk (PyData.keyHash P (Str.ofString "exec")) (.str (Str.ofString "exec") 21) (.builtin "exec")), (DictEntry.mk (PyData.keyHash P (Str.ofString "format")) (.str (Str.ofString "format") 22) (.builtin "format")), (DictEntry.mk (PyData.keyHash P (Str.ofString "getattr")) (.str (Str.ofString "getattr") 23) (.builtin "getattr")), (DictEntry.mk (PyData.keyHash P (Str.ofString "globals")) (.str (Str.ofString "globals") 24) (.builtin "globals")), (DictEntry.mk (PyData.keyHash P (Str.ofString "hasattr")) (.str (Str.ofString "hasattr") 25) (.builtin "hasattr")), (DictEntry.mk (PyData.keyHash P (Str.ofString "hash")) (.str (Str.ofString "hash") 26) (.builtin "hash")), (DictEntry.mk (PyData.keyHash P (Str.ofString "hex")) (.str (Str.ofString "hex") 27) (.builtin "hex")), (DictEntry.mk (PyData.keyHash P (Str.ofString "id")) (.str (Str.ofString "id") 28) (.builtin "id")), (DictEntry.mk (PyData.keyHash P (Str.ofString "input")) (.str (Str.ofString "input") 29) (.builtin "input")), (DictEntry.mk (PyData.keyHash P (Str.ofString "isinstance")) (.str (Str.ofString "isinstance") 30) (.builtin "isinstance")), (DictEntry.mk (PyData.keyHash P (Str.ofString "issubclass")) (.str (Str.ofString "issubclass") 31) (.builtin "issubclass")), (DictEntry.mk (PyData.keyHash P (Str.ofString "iter")) (.str (Str.ofString "iter") 32) (.builtin "iter")), (DictEntry.mk (PyData.keyHash P (Str.ofString "aiter")) (.str (Str.ofString "aiter") 33) (.builtin "aiter")), (DictEntry.mk (PyData.keyHash P (Str.ofString "len")) (.str (Str.ofString "len") 34) (.builtin "len")), (DictEntry.mk (PyData.keyHash P (Str.ofString "locals")) (.str (Str.ofString "locals") 35) (.builtin "locals")), (DictEntry.mk (PyData.keyHash P (Str.ofString "max")) (.str (Str.ofString "max") 36) (.builtin "max")), (DictEntry.mk (PyData.keyHash P (Str.ofString "min")) (.str (Str.ofString "min") 37) (.builtin "min")), (DictEntry.mk (PyData.keyHash P (Str.ofString "next")) (.str (Str.ofString "next") 38) (.builtin "next")), (DictEntry.mk (PyData.keyHash P (Str.ofString "anext")) (.str (Str.ofString "anext") 39) (.builtin "anext")), (DictEntry.mk (PyData.keyHash P (Str.ofString "oct")) (.str (Str.ofString "oct") 40) (.builtin "oct")), (DictEntry.mk (PyData.keyHash P (Str.ofString "ord")) (.str (Str.ofString "ord") 41) (.builtin "ord")), (DictEntry.mk (PyData.keyHash P (Str.ofString "pow")) (.str (Str.ofString "pow") 42) (.builtin "pow")), (DictEntry.mk (PyData.keyHash P (Str.ofString "print")) (.str (Str.ofString "print") 43) (.builtin "print")), (DictEntry.mk (PyData.keyHash P (Str.ofString "repr")) (.str (Str.ofString "repr") 44) (.builtin "repr")), (DictEntry.mk (PyData.keyHash P (Str.ofString "round")) (.str (Str.ofString "round") 45) (.builtin "round")), (DictEntry.mk (PyData.keyHash P (Str.ofString "setattr")) (.str (Str.ofString "setattr") 46) (.builtin "setattr")), (DictEntry.mk (PyData.keyHash P (Str.ofString "sorted")) (.str (Str.ofString "sorted") 47) (.builtin "sorted")), (DictEntry.mk (PyData.keyHash P (Str.ofString "sum")) (.str (Str.ofString "sum") 48) (.builtin "sum")), (DictEntry.mk (PyData.keyHash P (Str.ofString "vars")) (.str (Str.ofString "vars") 49) (.builtin "vars")), (DictEntry.mk (PyData.keyHash P (Str.ofString "None")) (.str (Str.ofString "None") 50) .none), (DictEntry.mk (PyData.keyHash P (Str.ofString "Ellipsis")) (.str (Str.ofString "Ellipsis") 51) .ellipsis), (DictEntry.mk (PyData.keyHash P (Str.ofString "NotImplemented")) (.str (Str.ofString "NotImplemented") 52) .notImplemented), (DictEntry.mk (PyData.keyHash P (Str.ofString "False")) (.str (Str.ofString "False") 53) (.bool Bool.false)), (DictEntry.mk (PyData.keyHash P (Str.ofString "True")) (.str (Str.ofString "True") 54) (.bool Bool.true)), (DictEntry.mk (PyData.keyHash P (Str.ofString "bool")) (.str (Str.ofString "bool") 55) (.type "bool")), (DictEntry.mk (PyData.keyHash P (Str.ofString "memoryview")) (.str (Str.ofString "memoryview") 56) (.type "memoryview")), (DictEntry.mk (PyData.keyHash P (Str.ofString "bytearray")) (.str (Str.ofString "bytearray") 57) (.type "bytearray")), (DictEntry.mk (PyData.keyHash P (Str.ofString "bytes")) (.str (Str.ofString "bytes") 58) (.type "bytes")), (DictEntry.mk (PyData.keyHash P (Str.ofString "classmethod")) (.str (Str.ofString "classmethod") 59) (.type "classmethod")), (DictEntry.mk (PyData.keyHash P (Str.ofString "complex")) (.str (Str.ofString "complex") 60) (.type "complex")), (DictEntry.mk (PyData.keyHash P (Str.ofString "dict")) (.str (Str.ofString "dict") 61) (.type "dict")), (DictEntry.mk (PyData.keyHash P (Str.ofString "enumerate")) (.str (Str.ofString "enumerate") 62) (.type "enumerate")), (DictEntry.mk (PyData.keyHash P (Str.ofString "filter")) (.str (Str.ofString "filter") 63) (.type "filter")), (DictEntry.mk (PyData.keyHash P (Str.ofString "float")) (.str (Str.ofString "float") 64) (.type "float")), (DictEntry.mk (PyData.keyHash P (Str.ofString "frozenset")) (.str (Str.ofString "frozenset") 65) (.type "frozenset")), (DictEntry.mk (PyData.keyHash P (Str.ofString "property")) (.str (Str.ofString "property") 66) (.type "property")), (DictEntry.mk (PyData.keyHash P (Str.ofString "int")) (.str (Str.ofString "int") 67) (.type "int")), (DictEntry.mk (PyData.keyHash P (Str.ofString "list")) (.str (Str.ofString "list") 68) (.type "list")), (DictEntry.mk (PyData.keyHash P (Str.ofString "map")) (.str (Str.ofString "map") 69) (.type "map")), (DictEntry.mk (PyData.keyHash P (Str.ofString "object")) (.str (Str.ofString "object") 70) (.type "object")), (DictEntry.mk (PyData.keyHash P (Str.ofString "range")) (.str (Str.ofString "range") 71) (.type "range")), (DictEntry.mk (PyData.keyHash P (Str.ofString "reversed")) (.str (Str.ofString "reversed") 72) (.type "reversed")), (DictEntry.mk (PyData.keyHash P (Str.ofString "set")) (.str (Str.ofString "set") 73) (.type "set")), (DictEntry.mk (PyData.keyHash P (Str.ofString "slice")) (.str (Str.ofString "slice") 74) (.type "slice")), (DictEntry.mk (PyData.keyHash P (Str.ofString "staticmethod")) (.str (Str.ofString "staticmethod") 75) (.type "staticmethod")), (DictEntry.mk (PyData.keyHash P (Str.ofString "str")) (.str (Str.ofString "str") 76) (.type "str")), (DictEntry.mk (PyData.keyHash P (Str.ofString "super")) (.str (Str.ofString "super") 77) (.type "super")), (DictEntry.mk (PyData.keyHash P (Str.ofString "tuple")) (.str (Str.ofString "tuple") 78) (.type "tuple")), (DictEntry.mk (PyData.keyHash P (Str.ofString "type")) (.str (Str.ofString "type") 79) (.type "type")), (DictEntry.mk (PyData.keyHash P (Str.ofString "zip")) (.str (Str.ofString "zip") 80) (.type "zip")), (DictEntry.mk (PyData.keyHash P (Str.ofString "__debug__")) (.str (Str.ofString "__debug__") 81) (.bool Bool.true)), (DictEntry.mk (PyData.keyHash P (Str.ofString "BaseException")) (.str (Str.ofString "BaseException") 82) (.type "BaseException")), (DictEntry.mk (PyData.keyHash P (Str.ofString "BaseExceptionGroup")) (.str (Str.ofString "BaseExceptionGroup") 83) (.type "BaseExceptionGroup")), (DictEntry.mk (PyData.keyHash P (Str.ofString "Exception")) (.str (Str.ofString "Exception") 84) (.type "Exception")), (DictEntry.mk (PyData.keyHash P (Str.ofString "GeneratorExit")) (.str (Str.ofString "GeneratorExit") 85) (.type "GeneratorExit")), (DictEntry.mk (PyData.keyHash P (Str.ofString "KeyboardInterrupt")) (.str (Str.ofString "KeyboardInterrupt") 86) (.type "KeyboardInterrupt")), (DictEntry.mk (PyData.keyHash P (Str.ofString "SystemExit")) (.str (Str.ofString "SystemExit") 87) (.type "SystemExit")), (DictEntry.mk (PyData.keyHash P (Str.ofString "ArithmeticError")) (.str (Str.ofString "ArithmeticError") 88) (.type "ArithmeticError")), (DictEntry.mk (PyData.keyHash P (Str.ofString "AssertionError")) (.str (Str.ofString "AssertionError") 89) (.type "AssertionError")), (DictEntry.mk (PyData.keyHash P (Str.ofString "AttributeError")) (.str (Str.ofString "AttributeError") 90) (.type "AttributeError")), (DictEntry.mk (PyData.keyHash P (Str.ofString "BufferError")) (.str (Str.ofString "BufferError") 91) (.type "BufferError")), (DictEntry.mk (PyData.keyHash P (Str.ofString "EOFError")) (.str (Str.ofString "EOFError") 92) (.type "EOFError")), (DictEntry.mk (PyData.keyHash P (Str.ofString "ImportError")) (.str (Str.ofString "ImportError") 93) (.type "ImportError")), (DictEntry.mk (PyData.keyHash P (Str.ofString "LookupError")) (.str (Str.ofString "LookupError") 94) (.type "LookupError")), (DictEntry.mk (PyData.keyHash P (Str.ofString "MemoryError")) (.str (Str.ofString "MemoryError") 95) (.type "MemoryError")), (DictEntry.mk (PyData.keyHash P (Str.ofString "NameError")) (.str (Str.ofString "NameError") 96) (.type "NameError")), (DictEntry.mk (PyData.keyHash P (Str.ofString "OSError")) (.str (Str.ofString "OSError") 97) (.type "OSError")), (DictEntry.mk (PyData.keyHash P (Str.ofString "ReferenceError")) (.str (Str.ofString "ReferenceError") 98) (.type "ReferenceError")), (DictEntry.mk (PyData.keyHash P (Str.ofString "RuntimeError")) (.str (Str.ofString "RuntimeError") 99) (.type "RuntimeError")), (DictEntry.mk (PyData.keyHash P (Str.ofString "StopAsyncIteration")) (.str (Str.ofString "StopAsyncIteration") 100) (.type "StopAsyncIteration")), (DictEntry.mk (PyData.keyHash P (Str.ofString "StopIteration")) (.str (Str.ofString "StopIteration") 101) (.type "StopIteration")), (DictEntry.mk (PyData.keyHash P (Str.ofString "SyntaxError")) (.str (Str.ofString "SyntaxError") 102) (.type "SyntaxError")), (DictEntry.mk (PyData.keyHash P (Str.ofString "SystemError")) (.str (Str.ofString "SystemError") 103) (.type "SystemError")), (DictEntry.mk (PyData.keyHash P (Str.ofString "TypeError")) (.str (Str.ofString "TypeError") 104) (.type "TypeError")), (DictEntry.mk (PyData.keyHash P (Str.ofString "ValueError")) (.str (Str.ofString "ValueError") 105) (.type "ValueError")), (DictEntry.mk (PyData.keyHash P (Str.ofString "Warning")) (.str (Str.ofString "Warning") 106) (.type "Warning")), (DictEntry.mk (PyData.keyHash P (Str.ofString "FloatingPointError")) (.str (Str.ofString "FloatingPointError") 107) (.type "FloatingPointError")), (DictEntry.mk (PyData.keyHash P (Str.ofString "OverflowError")) (.str (Str.ofString "OverflowError") 108) (.type "OverflowError")), (DictEntry.mk (PyData.keyHash P (Str.ofString "ZeroDivisionError")) (.str (Str.ofString "ZeroDivisionError") 109) (.type "ZeroDivisionError")), (DictEntry.mk (PyData.keyHash P (Str.ofString "BytesWarning")) (.str (Str.ofString "BytesWarning") 110) (.type "BytesWarning")), (DictEntry.mk (PyData.keyHash P (Str.ofString "DeprecationWarning")) (.str (Str.ofString "DeprecationWarning") 111) (.type "DeprecationWarning")), (DictEntry.mk (PyData.keyHash P (Str.ofString "EncodingWarning")) (.str (Str.ofString "EncodingWarning") 112) (.type "EncodingWarning")), (DictEntry.mk (PyData.keyHash P (Str.ofString "FutureWarning")) (.str (Str.ofString "FutureWarning") 113) (.type "FutureWarning")), (DictEntry.mk (PyData.keyHash P (Str.ofString "ImportWarning")) (.str (Str.ofString "ImportWarning") 114) (.type "ImportWarning")), (DictEntry.mk (PyData.keyHash P (Str.ofString "PendingDeprecationWarning")) (.str (Str.ofString "PendingDeprecationWarning") 115) (.type "PendingDeprecationWarning")), (DictEntry.mk (PyData.keyHash P (Str.ofString "ResourceWarning")) (.str (Str.ofString "ResourceWarning") 116) (.type "ResourceWarning")), (DictEntry.mk (PyData.keyHash P (Str.ofString "RuntimeWarning")) (.str (Str.ofString "RuntimeWarning") 117) (.type "RuntimeWarning")), (DictEntry.mk (PyData.keyHash P (Str.ofString "SyntaxWarning")) (.str (Str.ofString "SyntaxWarning") 118) (.type "SyntaxWarning")), (DictEntry.mk (PyData.keyHash P (Str.ofString "UnicodeWarning")) (.str (Str.ofString "UnicodeWarning") 119) (.type "UnicodeWarning")), (DictEntry.mk (PyData.keyHash P (Str.ofString "UserWarning")) (.str (Str.ofString "UserWarning") 120) (.type "UserWarning")), (DictEntry.mk (PyData.keyHash P (Str.ofString "BlockingIOError")) (.str (Str.ofString "BlockingIOError") 121) (.type "BlockingIOError")), (DictEntry.mk (PyData.keyHash P (Str.ofString "ChildProcessError")) (.str (Str.ofString "ChildProcessError") 122) (.type "ChildProcessError")), (DictEntry.mk (PyData.keyHash P (Str.ofString "ConnectionError")) (.str (Str.ofString "ConnectionError") 123) (.type "ConnectionError")), (DictEntry.mk (PyData.keyHash P (Str.ofString "FileExistsError")) (.str (Str.ofString "FileExistsError") 124) (.type "FileExistsError")), (DictEntry.mk (PyData.keyHash P (Str.ofString "FileNotFoundError")) (.str (Str.ofString "FileNotFoundError") 125) (.type "FileNotFoundError")), (DictEntry.mk (PyData.keyHash P (Str.ofString "InterruptedError")) (.str (Str.ofString "InterruptedError") 126) (.type "InterruptedError")), (DictEntry.mk (PyData.keyHash P (Str.ofString "IsADirectoryError")) (.str (Str.ofString "IsADirectoryError") 127) (.type "IsADirectoryError")), (DictEntry.mk (PyData.keyHash P (Str.ofString "NotADirectoryError")) (.str (Str.ofString "NotADirectoryError") 128) (.type "NotADirectoryError")), (DictEntry.mk (PyData.keyHash P (Str.ofString "PermissionError")) (.str (Str.ofString "PermissionError") 129) (.type "PermissionError")), (DictEntry.mk (PyData.keyHash P (Str.ofString "ProcessLookupError")) (.str (Str.ofString "ProcessLookupError") 130) (.type "ProcessLookupError")), (DictEntry.mk (PyData.keyHash P (Str.ofString "TimeoutError")) (.str (Str.ofString "TimeoutError") 131) (.type "TimeoutError")), (DictEntry.mk (PyData.keyHash P (Str.ofString "IndentationError")) (.str (Str.ofString "IndentationError") 132) (.type "IndentationError")), (DictEntry.mk (PyData.keyHash P (Str.ofString "_IncompleteInputError")) (.str (Str.ofString "_IncompleteInputError") 133) (.type "_IncompleteInputError")), (DictEntry.mk (PyData.keyHash P (Str.ofString "IndexError")) (.str (Str.ofString "IndexError") 134) (.type "IndexError")), (DictEntry.mk (PyData.keyHash P (Str.ofString "KeyError")) (.str (Str.ofString "KeyError") 135) (.type "KeyError")), (DictEntry.mk (PyData.keyHash P (Str.ofString "ModuleNotFoundError")) (.str (Str.ofString "ModuleNotFoundError") 136) (.type "ModuleNotFoundError")), (DictEntry.mk (PyData.keyHash P (Str.ofString "NotImplementedError")) (.str (Str.ofString "NotImplementedError") 137) (.type "NotImplementedError")), (DictEntry.mk (PyData.keyHash P (Str.ofString "PythonFinalizationError")) (.str (Str.ofString "PythonFinalizationError") 138) (.type "PythonFinalizationError")), (DictEntry.mk (PyData.keyHash P (Str.ofString "RecursionError")) (.str (Str.ofString "RecursionError") 139) (.type "RecursionError")), (DictEntry.mk (PyData.keyHash P (Str.ofString "UnboundLocalError")) (.str (Str.ofString "UnboundLocalError") 140) (.type "UnboundLocalError")), (DictEntry.mk (PyData.keyHash P (Str.ofString "UnicodeError")) (.str (Str.ofString "UnicodeError") 141) (.type "UnicodeError")), (DictEntry.mk (PyData.keyHash P (Str.ofString "BrokenPipeError")) (.str (Str.ofString "BrokenPipeError") 142) (.type "BrokenPipeError")), (DictEntry.mk (PyData.keyHash P (Str.ofString "ConnectionAbortedError")) (.str (Str.ofString "ConnectionAbortedError") 143) (.type "ConnectionAbortedError")), (DictEntry.mk (PyData.keyHash P (Str.ofString "ConnectionRefusedError")) (.str (Str.ofString "ConnectionRefusedError") 144) (.type "ConnectionRefusedError")), (DictEntry.mk (PyData.keyHash P (Str.ofString "ConnectionResetError")) (.str (Str.ofString "ConnectionResetError") 145) (.type "ConnectionResetError")), (DictEntry.mk (PyData.keyHash P (Str.ofString "TabError")) (.str (Str.ofString "TabError") 146) (.type "TabError")), (DictEntry.mk (PyData.keyHash P (Str.ofString "UnicodeDecodeError")) (.str (Str.ofString "UnicodeDecodeError") 147) (.type "UnicodeDecodeError")), (DictEntry.mk (PyData.keyHash P (Str.ofString "UnicodeEncodeError")) (.str (Str.ofString "UnicodeEncodeError") 148) (.type "UnicodeEncodeError")), (DictEntry.mk (PyData.keyHash P (Str.ofString "UnicodeTranslateError")) (.str (Str.ofString "UnicodeTranslateError") 149) (.type "UnicodeTranslateError")), (DictEntry.mk (PyData.keyHash P (Str.ofString "ExceptionGroup")) (.str (Str.ofString "ExceptionGroup") 150) (.type "ExceptionGroup")), (DictEntry.mk (PyData.keyHash P (Str.ofString "EnvironmentError")) (.str (Str.ofString "EnvironmentError") 151) (.type "OSError")), (DictEntry.mk (PyData.keyHash P (Str.ofString "IOError")) (.str (Str.ofString "IOError") 152) (.type "OSError")), (DictEntry.mk (PyData.keyHash P (Str.ofString "open")) (.str (Str.ofString "open") 153) (.builtin "open")), (DictEntry.mk (PyData.keyHash P (Str.ofString "quit")) (.str (Str.ofString "quit") 154) (.builtin "builtins.quit#opaque")), (DictEntry.mk (PyData.keyHash P (Str.ofString "exit")) (.str (Str.ofString "exit") 155) (.builtin "builtins.exit#opaque")), (DictEntry.mk (PyData.keyHash P (Str.ofString "copyright")) (.str (Str.ofString "copyright") 156) (.builtin "builtins.copyright#opaque")), (DictEntry.mk (PyData.keyHash P (Str.ofString "credits")) (.str (Str.ofString "credits") 157) (.builtin "builtins.credits#opaque")), (DictEntry.mk (PyData.keyHash P (Str.ofString "license")) (.str (Str.ofString "license") 158) (.builtin "builtins.license#opaque")), (DictEntry.mk (PyData.keyHash P (Str.ofString "help")) (.str (Str.ofString "help") 159) (.builtin "builtins.help#opaque"))] 159) #[])
noncomputable def o_42 (P : Params) : Obj := (Obj.mk (.type "dict") none (Data.dict #[(DictEntry.mk (PyData.keyHash P (Str.ofString "builtins")) (.str (Str.ofString "builtins") 162) (.ref 4)), (DictEntry.mk (PyData.keyHash P (Str.ofString "__main__")) (.str (Str.ofString "__main__") 163) (.ref 5)), (DictEntry.mk (PyData.keyHash P (Str.ofString "_sre")) (.str (Str.ofString "_sre") 244) (.ref 12))] 3) #[])
noncomputable def o_44 (P : Params) : Obj := (Obj.mk (.type "dict") none (Data.dict #[(DictEntry.mk (PyData.keyHash P (Str.ofString "__name__")) (.str (Str.ofString "__name__") 165) (.str (Str.ofString "__main__") 164)), (DictEntry.mk (PyData.keyHash P (Str.ofString "__doc__")) (.str (Str.ofString "__doc__") 166) .none), (DictEntry.mk (PyData.keyHash P (Str.ofString "__package__")) (.str (Str.ofString "__package__") 167) .none), (DictEntry.mk (PyData.keyHash P (Str.ofString "__loader__")) (.str (Str.ofString "__loader__") 168) (.builtin "__main__.__loader__#opaque")), (DictEntry.mk (PyData.keyHash P (Str.ofString "__spec__")) (.str (Str.ofString "__spec__") 169) .none), (DictEntry.mk (PyData.keyHash P (Str.ofString "__annotations__")) (.str (Str.ofString "__annotations__") 170) (.ref 6)), (DictEntry.mk (PyData.keyHash P (Str.ofString "__builtins__")) (.str (Str.ofString "__builtins__") 171) (.ref 4)), (DictEntry.mk (PyData.keyHash P (Str.ofString "__file__")) (.str (Str.ofString "__file__") 173) (.str (Str.ofString "/claim/cut.py") 172)), (DictEntry.mk (PyData.keyHash P (Str.ofString "__cached__")) (.str (Str.ofString "__cached__") 174) .none), (DictEntry.mk (PyData.keyHash P (Str.ofString "_sre")) (.str (Str.ofString "_sre") 275) (.ref 12))] 10) #[])
noncomputable def o_45 (P : Params) : Obj := (Obj.mk (.type "module") (some 0) Data.plain #[])
noncomputable def o_46 (P : Params) : Obj := (Obj.mk (.type "module") (some 3) Data.plain #[])
noncomputable def o_47 (P : Params) : Obj := (Obj.mk (.type "dict") none (Data.dict #[] 0) #[])
noncomputable def o_48 (P : Params) : Obj := (Obj.mk (.type "tuple") none (Data.seq #[] 0) #[])
noncomputable def o_49 (P : Params) : Obj := (Obj.mk .none none (Data.fields #[]) #[])
noncomputable def o_50 (P : Params) : Obj := (Obj.mk (.type "code") none (Data.fields #[(.str (Str.ofString "<module>") 176), (.str (Str.ofString "<module>") 177), (.str (Str.ofString "/claim/cut.py") 178), (.int 1 0), (.int 0 0), (.int 0 0), (.int 0 0), (.int 0 0), (.ref 7), (.bool Bool.false), (.int 175 0), (.ref 8), .none, .none, .none, .none, (.int 179 0), (.int 1 0), (.str (Str.ofString "/claim/cut.py") 180)]) #[])
noncomputable def o_51 (P : Params) : Obj := (Obj.mk (.type "frame") none Data.plain #[(some (.ref 9)), (some (.ref 3)), (some (.ref 3)), none, (some (.str (Str.ofString "__main__") 164)), none, (some (.ref 0))])
noncomputable def o_52 (P : Params) : Obj := (Obj.mk (.type "dict") none (Data.dict #[(DictEntry.mk (PyData.keyHash P (Str.ofString "__name__")) (.str (Str.ofString "__name__") 247) (.str (Str.ofString "_sre") 246)), (DictEntry.mk (PyData.keyHash P (Str.ofString "__doc__")) (.str (Str.ofString "__doc__") 248) .none), (DictEntry.mk (PyData.keyHash P (Str.ofString "__package__")) (.str (Str.ofString "__package__") 250) (.str (Str.ofString "") 249)), (DictEntry.mk (PyData.keyHash P (Str.ofString "__loader__")) (.str (Str.ofString "__loader__") 251) (.builtin "off-the-table:_sre.__loader__:shared#opaque")), (DictEntry.mk (PyData.keyHash P (Str.ofString "__spec__")) (.str (Str.ofString "__spec__") 252) (.builtin "off-the-table:_sre.__spec__:shared#opaque")), (DictEntry.mk (PyData.keyHash P (Str.ofString "compile")) (.str (Str.ofString "compile") 253) (.builtin "_sre.compile")), (DictEntry.mk (PyData.keyHash P (Str.ofString "template")) (.str (Str.ofString "template") 254) (.builtin "off-the-table:_sre.template:shared#opaque")), (DictEntry.mk (PyData.keyHash P (Str.ofString "getcodesize")) (.str (Str.ofString "getcodesize") 255) (.builtin "off-the-table:_sre.getcodesize:shared#opaque")), (DictEntry.mk (PyData.keyHash P (Str.ofString "ascii_iscased")) (.str (Str.ofString "ascii_iscased") 256) (.builtin "off-the-table:_sre.ascii_iscased:shared#opaque")), (DictEntry.mk (PyData.keyHash P (Str.ofString "unicode_iscased")) (.str (Str.ofString "unicode_iscased") 257) (.builtin "off-the-table:_sre.unicode_iscased:shared#opaque")), (DictEntry.mk (PyData.keyHash P (Str.ofString "ascii_tolower")) (.str (Str.ofString "ascii_tolower") 258) (.builtin "off-the-table:_sre.ascii_tolower:shared#opaque")), (DictEntry.mk (PyData.keyHash P (Str.ofString "unicode_tolower")) (.str (Str.ofString "unicode_tolower") 259) (.builtin "off-the-table:_sre.unicode_tolower:shared#opaque")), (DictEntry.mk (PyData.keyHash P (Str.ofString "MAGIC")) (.str (Str.ofString "MAGIC") 261) (.int 20230612 260)), (DictEntry.mk (PyData.keyHash P (Str.ofString "CODESIZE")) (.str (Str.ofString "CODESIZE") 263) (.int 4 262)), (DictEntry.mk (PyData.keyHash P (Str.ofString "MAXREPEAT")) (.str (Str.ofString "MAXREPEAT") 265) (.int 4294967295 264)), (DictEntry.mk (PyData.keyHash P (Str.ofString "MAXGROUPS")) (.str (Str.ofString "MAXGROUPS") 267) (.int 1073741823 266)), (DictEntry.mk (PyData.keyHash P (Str.ofString "copyright")) (.str (Str.ofString "copyright") 269) (.str (Str.ofString " SRE 2.2.2 Copyright (c) 1997-2002 by Secret Labs AB ") 268))] 17) #[])
noncomputable def o_53 (P : Params) : Obj := (Obj.mk (.type "module") (some 11) Data.plain #[])
noncomputable def o_54 (P : Params) : Obj := (Obj.mk (.type "dict") none (Data.dict #[(DictEntry.mk (PyData.keyHash P (Str.ofString "__module__")) (.str (Str.ofString "__module__") 189) (.str (Str.ofString "_frozen_importlib") 186)), (DictEntry.mk (PyData.keyHash P (Str.ofString "__firstlineno__")) (.str (Str.ofString "__firstlineno__") 190) (.int 971 187)), (DictEntry.mk (PyData.keyHash P (Str.ofString "__doc__")) (.str (Str.ofString "__doc__") 191) (.builtin "_frozen_importlib.BuiltinImporter.__doc__:str#opaque")), (DictEntry.mk (PyData.keyHash P (Str.ofString "_ORIGIN")) (.str (Str.ofString "_ORIGIN") 192) (.str (Str.ofString "built-in") 188)), (DictEntry.mk (PyData.keyHash P (Str.ofString "find_spec")) (.str (Str.ofString "find_spec") 193) (.builtin "_frozen_importlib.BuiltinImporter.find_spec#opaque")), (DictEntry.mk (PyData.keyHash P (Str.ofString "create_module")) (.str (Str.ofString "create_module") 194) (.builtin "_frozen_importlib.BuiltinImporter.create_module#opaque")), (DictEntry.mk (PyData.keyHash P (Str.ofString "exec_module")) (.str (Str.ofString "exec_module") 195) (.builtin "_frozen_importlib.BuiltinImporter.exec_module#opaque")), (DictEntry.mk (PyData.keyHash P (Str.ofString "get_code")) (.str (Str.ofString "get_code") 196) (.builtin "_frozen_importlib.BuiltinImporter.get_code#opaque")), (DictEntry.mk (PyData.keyHash P (Str.ofString "get_source")) (.str (Str.ofString "get_source") 197) (.builtin "_frozen_importlib.BuiltinImporter.get_source#opaque")), (DictEntry.mk (PyData.keyHash P (Str.ofString "is_package")) (.str (Str.ofString "is_package") 198) (.builtin "_frozen_importlib.BuiltinImporter.is_package#opaque")), (DictEntry.mk (PyData.keyHash P (Str.ofString "load_module")) (.str (Str.ofString "load_module") 199) (.builtin "_frozen_importlib.BuiltinImporter.load_module#opaque")), (DictEntry.mk (PyData.keyHash P (Str.ofString "__static_attributes__")) (.str (Str.ofString "__static_attributes__") 200) (.ref 15)), (DictEntry.mk (PyData.keyHash P (Str.ofString "__dict__")) (.str (Str.ofString "__dict__") 202) (.ref 16)), (DictEntry.mk (PyData.keyHash P (Str.ofString "__weakref__")) (.str (Str.ofString "__weakref__") 204) (.ref 17))] 14) #[])
noncomputable def o_55 (P : Params) : Obj := (Obj.mk (.type "type") none (Data.cls (ClassData.mk (Str.ofString "BuiltinImporter") [(.type "object")] [(.ref 14), (.type "object")] 13 (Str.ofString "BuiltinImporter") Bool.true [] [] Bool.false none Bool.false)) #[])
noncomputable def o_56 (P : Params) : Obj := (Obj.mk (.type "tuple") none (Data.seq #[] 0) #[])
noncomputable def o_57 (P : Params) : Obj := (Obj.mk (.type "getset_descriptor") none (Data.fields #[(.str (Str.ofString "__dict__") 201), (.ref 14), (.builtin "function.__dict__"), (.builtin "function.__dict__#set")]) #[])
noncomputable def o_58 (P : Params) : Obj := (Obj.mk (.type "getset_descriptor") none (Data.fields #[(.str (Str.ofString "__weakref__") 203), (.ref 14), (.builtin "ExceptionGroup.__weakref__"), .none]) #[])
noncomputable def o_59 (P : Params) : Obj := (Obj.mk .none none (Data.seq #[(.int 13 0), (.str (Str.ofString "\x06½\n__module__\x06º\x11_frozen_importlib\x06¾\x0f__firstlineno__\x04»\x00ϋ\x06¿\x07__doc__\t4_frozen_importlib.BuiltinImporter.__doc__:str#opaque\x06À\x07_ORIGIN\x06¼\x08built-in\x06Á\tfind_spec\t2_frozen_importlib.BuiltinImporter.find_spec#opaque\x06Â\x0dcreate_module\t6_frozen_importlib.BuiltinImporter.create_module#opaque\x06Ã\x0bexec_module\t4_frozen_importlib.BuiltinImporter.exec_module#opaque\x06Ä\x08get_code\t1_frozen_importlib.BuiltinImporter.get_code#opaque\x06Å\nget_source\t3_frozen_importlib.BuiltinImporter.get_source#opaque\x06Æ\nis_package\t3_frozen_importlib.BuiltinImporter.is_package#opaque\x06Ç\x0bload_module\t4_frozen_importlib.BuiltinImporter.load_module#opaque\x06È\x15__static_attributes__\x04\x00\x00\x0f\x06Ê\x08__dict__\x04\x00\x00\x10\x06Ì\x0b__weakref__\x04\x00\x00\x11") 0), (.bool Bool.true), (.bool Bool.true), (.str (Str.ofString "") 205), (.int 21 0), (.str (Str.ofString "\x06ã\n__module__\x06Ù\x11_frozen_importlib\x06ä\x0f__firstlineno__\x04Ú\x00Ȳ\x06å\x07__doc__\t/_frozen_importlib.ModuleSpec.__doc__:str#opaque\x06æ\x08__init__\t,_frozen_importlib.ModuleSpec.__init__#opaque\x06ç\x08__repr__\t,_frozen_importlib.ModuleSpec.__repr__#opaque\x06è\x06__eq__\t*_frozen_importlib.ModuleSpec.__eq__#opaque\x06é\x06cached\t*_frozen_importlib.ModuleSpec.cached#opaque\x06ê\x06parent\t*_frozen_importlib.ModuleSpec.parent#opaque\x06ë\x0chas_location\t0_frozen_importlib.ModuleSpec.has_location#opaque\x06ì\x15__static_attributes__\x04\x00\x00\x17\x06î\x08__dict__\x04\x00\x00\x18\x06ð\x0b__weakref__\x04\x00\x00\x19\x06ñ\x08__hash__\x00") 0), (.bool Bool.true), (.bool Bool.true), (.str (Str.ofString "") 242)] 1) #[])
noncomputable def o_60 (P : Params) : Obj := (Obj.mk (.type "list") none (Data.seq #[] 0) #[])
noncomputable def o_61 (P : Params) : Obj := (Obj.mk (.type "dict") none (Data.dict #[(DictEntry.mk (PyData.keyHash P (Str.ofString "name")) (.str (Str.ofString "name") 208) (.str (Str.ofString "_sre") 207)), (DictEntry.mk (PyData.keyHash P (Str.ofString "loader")) (.str (Str.ofString "loader") 209) (.ref 14)), (DictEntry.mk (PyData.keyHash P (Str.ofString "origin")) (.str (Str.ofString "origin") 210) (.str (Str.ofString "built-in") 184)), (DictEntry.mk (PyData.keyHash P (Str.ofString "loader_state")) (.str (Str.ofString "loader_state") 211) .none), (DictEntry.mk (PyData.keyHash P (Str.ofString "submodule_search_locations")) (.str (Str.ofString "submodule_search_locations") 212) .none), (DictEntry.mk (PyData.keyHash P (Str.ofString "_uninitialized_submodules")) (.str (Str.ofString "_uninitialized_submodules") 213) (.ref 19)), (DictEntry.mk (PyData.keyHash P (Str.ofString "_set_fileattr")) (.str (Str.ofString "_set_fileattr") 214) (.bool Bool.false)), (DictEntry.mk (PyData.keyHash P (Str.ofString "_cached")) (.str (Str.ofString "_cached") 215) .none), (DictEntry.mk (PyData.keyHash P (Str.ofString "_initializing")) (.str (Str.ofString "_initializing") 243) (.bool Bool.false))] 9) #[])
noncomputable def o_62 (P : Params) : Obj := (Obj.mk (.type "dict") none (Data.dict #[(DictEntry.mk (PyData.keyHash P (Str.ofString "__module__")) (.str (Str.ofString "__module__") 227) (.str (Str.ofString "_frozen_importlib") 217)), (DictEntry.mk (PyData.keyHash P (Str.ofString "__firstlineno__")) (.str (Str.ofString "__firstlineno__") 228) (.int 562 218)), (DictEntry.mk (PyData.keyHash P (Str.ofString "__doc__")) (.str (Str.ofString "__doc__") 229) (.builtin "_frozen_importlib.ModuleSpec.__doc__:str#opaque")), (DictEntry.mk (PyData.keyHash P (Str.ofString "__init__")) (.str (Str.ofString "__init__") 230) (.builtin "_frozen_importlib.ModuleSpec.__init__#opaque")), (DictEntry.mk (PyData.keyHash P (Str.ofString "__repr__")) (.str (Str.ofString "__repr__") 231) (.builtin "_frozen_importlib.ModuleSpec.__repr__#opaque")), (DictEntry.mk (PyData.keyHash P (Str.ofString "__eq__")) (.str (Str.ofString "__eq__") 232) (.builtin "_frozen_importlib.ModuleSpec.__eq__#opaque")), (DictEntry.mk (PyData.keyHash P (Str.ofString "cached")) (.str (Str.ofString "cached") 233) (.builtin "_frozen_importlib.ModuleSpec.cached#opaque")), (DictEntry.mk (PyData.keyHash P (Str.ofString "parent")) (.str (Str.ofString "parent") 234) (.builtin "_frozen_importlib.ModuleSpec.parent#opaque")), (DictEntry.mk (PyData.keyHash P (Str.ofString "has_location")) (.str (Str.ofString "has_location") 235) (.builtin "_frozen_importlib.ModuleSpec.has_location#opaque")), (DictEntry.mk (PyData.keyHash P (Str.ofString "__static_attributes__")) (.str (Str.ofString "__static_attributes__") 236) (.ref 23)), (DictEntry.mk (PyData.keyHash P (Str.ofString "__dict__")) (.str (Str.ofString "__dict__") 238) (.ref 24)), (DictEntry.mk (PyData.keyHash P (Str.ofString "__weakref__")) (.str (Str.ofString "__weakref__") 240) (.ref 25)), (DictEntry.mk (PyData.keyHash P (Str.ofString "__hash__")) (.str (Str.ofString "__hash__") 241) .none)] 13) #[])
noncomputable def o_63 (P : Params) : Obj := (Obj.mk (.type "type") none (Data.cls (ClassData.mk (Str.ofString "ModuleSpec") [(.type "object")] [(.ref 22), (.type "object")] 21 (Str.ofString "ModuleSpec") Bool.true [] [] Bool.false none Bool.false)) #[])
noncomputable def o_64 (P : Params) : Obj := (Obj.mk (.type "tuple") none (Data.seq #[(.str (Str.ofString "_cached") 219), (.str (Str.ofString "_set_fileattr") 220), (.str (Str.ofString "_uninitialized_submodules") 221), (.str (Str.ofString "loader") 222), (.str (Str.ofString "loader_state") 223), (.str (Str.ofString "name") 224), (.str (Str.ofString "origin") 225), (.str (Str.ofString "submodule_search_locations") 226)] 0) #[])
noncomputable def o_65 (P : Params) : Obj := (Obj.mk (.type "getset_descriptor") none (Data.fields #[(.str (Str.ofString "__dict__") 237), (.ref 22), (.builtin "function.__dict__"), (.builtin "function.__dict__#set")]) #[])
noncomputable def o_66 (P : Params) : Obj := (Obj.mk (.type "getset_descriptor") none (Data.fields #[(.str (Str.ofString "__weakref__") 239), (.ref 22), (.builtin "ExceptionGroup.__weakref__"), .none]) #[])
noncomputable def o_67 (P : Params) : Obj := (Obj.mk (.ref 22) (some 20) Data.plain #[])
noncomputable def o_68 (P : Params) : Obj := (Obj.mk .none none (Data.seq #[(.int 11 0), (.str (Str.mk #[6, 247, 8, 95, 95, 110, 97, 109, 101, 95, 95, 6, 246, 4, 95, 115, 114, 101, 6, 248, 7, 95, 95, 100, 111, 99, 95, 95, 0, 6, 250, 11, 95, 95, 112, 97, 99, 107, 97, 103, 101, 95, 95, 6, 249, 0, 6, 251, 10, 95, 95, 108, 111, 97, 100, 101, 114, 95, 95, 4, 0, 0, 14, 6, 252, 8, 95, 95, 115, 112, 101, 99, 95, 95, 4, 0, 0, 26, 6, 253, 7, 99, 111, 109, 112, 105, 108, 101, 9, 12, 95, 115, 114, 101, 46, 99, 111, 109, 112, 105, 108, 101, 6, 254, 8, 116, 101, 109, 112, 108, 97, 116, 101, 9, 13, 95, 115, 114, 101, 46, 116, 101, 109, 112, 108, 97, 116, 101, 6, 255, 11, 103, 101, 116, 99, 111, 100, 101, 115, 105, 122, 101, 9, 16, 95, 115, 114, 101, 46, 103, 101, 116, 99, 111, 100, 101, 115, 105, 122, 101, 6, 256, 13, 97, 115, 99, 105, 105, 95, 105, 115, 99, 97, 115, 101, 100, 9, 18, 95, 115, 114, 101, 46, 97, 115, 99, 105, 105, 95, 105, 115, 99, 97, 115, 101, 100, 6, 257, 15, 117, 110, 105, 99, 111, 100, 101, 95, 105, 115, 99, 97, 115, 101, 100, 9, 20, 95, 115, 114, 101, 46, 117, 110, 105, 99, 111, 100, 101, 95, 105, 115, 99, 97, 115, 101, 100, 6, 258, 13, 97, 115, 99, 105, 105, 95, 116, 111, 108, 111, 119, 101, 114, 9, 18, 95, 115, 114, 101, 46, 97, 115, 99, 105, 105, 95, 116, 111, 108, 111, 119, 101, 114, 6, 259, 15, 117, 110, 105, 99, 111, 100, 101, 95, 116, 111, 108, 111, 119, 101, 114, 9, 20, 95, 115, 114, 101, 46, 117, 110, 105, 99, 111, 100, 101, 95, 116, 111, 108, 111, 119, 101, 114, 6, 261, 5, 77, 65, 71, 73, 67, 4, 260, 0, 20230612, 6, 263, 8, 67, 79, 68, 69, 83, 73, 90, 69, 4, 262, 0, 4, 6, 265, 9, 77, 65, 88, 82, 69, 80, 69, 65, 84, 4, 264, 0, 4294967295, 6, 267, 9, 77, 65, 88, 71, 82, 79, 85, 80, 83, 4, 266, 0, 1073741823, 6, 269, 9, 99, 111, 112, 121, 114, 105, 103, 104, 116, 6, 268, 53, 32, 83, 82, 69, 32, 50, 46, 50, 46, 50, 32, 67, 111, 112, 121, 114, 105, 103, 104, 116, 32, 40, 99, 41, 32, 49, 57, 57, 55, 45, 50, 48, 48, 50, 32, 98, 121, 32, 83, 101, 99, 114, 101, 116, 32, 76, 97, 98, 115, 32, 65, 66, 32]) 0), (.bool Bool.true), (.bool Bool.false), (.str (Str.ofString "_sre") 271)] 0) #[])
noncomputable def o_69 (P : Params) : Obj := (Obj.mk (.type "tuple") none (Data.seq #[] 0) #[])
noncomputable def o_70 (P : Params) : Obj := (Obj.mk .none none (Data.fields #[]) #[])
noncomputable def o_71 (P : Params) : Obj := (Obj.mk (.type "code") none (Data.fields #[(.str (Str.ofString "<module>") 277), (.str (Str.ofString "<module>") 278), (.str (Str.ofString "/claim/cut.py") 279), (.int 1 0), (.int 0 0), (.int 0 0), (.int 0 0), (.int 0 0), (.ref 28), (.bool Bool.false), (.int 276 0), (.ref 29), .none, .none, .none, .none, (.int 280 0), (.int 1 0), (.str (Str.ofString "/claim/cut.py") 281)]) #[])
noncomputable def o_72 (P : Params) : Obj := (Obj.mk (.type "frame") none Data.plain #[(some (.ref 30)), (some (.ref 3)), (some (.ref 3)), none, (some (.str (Str.ofString "__main__") 164)), none, (some (.ref 0))])
noncomputable def o_108 (P : Params) : Obj := (Obj.mk (.type "dict") none (Data.dict #[(DictEntry.mk (PyData.keyHash P (Str.ofString "__name__")) (.str (Str.ofString "__name__") 165) (.str (Str.ofString "cpy313.token") 369)), (DictEntry.mk (PyData.keyHash P (Str.ofString "__doc__")) (.str (Str.ofString "__doc__") 166) .none), (DictEntry.mk (PyData.keyHash P (Str.ofString "__package__")) (.str (Str.ofString "__package__") 167) .none), (DictEntry.mk (PyData.keyHash P (Str.ofString "__loader__")) (.str (Str.ofString "__loader__") 168) (.builtin "__main__.__loader__#opaque")), (DictEntry.mk (PyData.keyHash P (Str.ofString "__spec__")) (.str (Str.ofString "__spec__") 169) .none), (DictEntry.mk (PyData.keyHash P (Str.ofString "__annotations__")) (.str (Str.ofString "__annotations__") 170) (.ref 6)), (DictEntry.mk (PyData.keyHash P (Str.ofString "__builtins__")) (.str (Str.ofString "__builtins__") 171) (.ref 4)), (DictEntry.mk (PyData.keyHash P (Str.ofString "__file__")) (.str (Str.ofString "__file__") 173) (.str (Str.ofString "/claim/cut.py") 172)), (DictEntry.mk (PyData.keyHash P (Str.ofString "__cached__")) (.str (Str.ofString "__cached__") 174) .none), (DictEntry.mk (PyData.keyHash P (Str.ofString "_sre")) (.str (Str.ofString "_sre") 275) (.ref 12)), (DictEntry.mk (PyData.keyHash P (Str.ofString "_wall")) (.str (Str.ofString "_wall") 288) (.ref 38)), (DictEntry.mk (PyData.keyHash P (Str.ofString "_parse_varint")) (.str (Str.ofString "_parse_varint") 299) (.ref 45)), (DictEntry.mk (PyData.keyHash P (Str.ofString "_twin_re_1")) (.str (Str.ofString "_twin_re_1") 317) (.ref 50)), (DictEntry.mk (PyData.keyHash P (Str.ofString "_twin_re_2")) (.str (Str.ofString "_twin_re_2") 359) (.ref 55)), (DictEntry.mk (PyData.keyHash P (Str.ofString "CRLF")) (.str (Str.ofString "CRLF") 361) (.str (Str.ofString "\x0d\n") 360)), (DictEntry.mk (PyData.keyHash P (Str.ofString "quotedata")) (.str (Str.ofString "quotedata") 368) (.ref 62)), (DictEntry.mk (PyData.keyHash P (Str.ofString "ENDMARKER")) (.str (Str.ofString "ENDMARKER") 372) (.int 0 371)), (DictEntry.mk (PyData.keyHash P (Str.ofString "LPAR")) (.str (Str.ofString "LPAR") 374) (.int 7 373)), (DictEntry.mk (PyData.keyHash P (Str.ofString "RPAR")) (.str (Str.ofString "RPAR") 376) (.int 8 375)), (DictEntry.mk (PyData.keyHash P (Str.ofString "LSQB")) (.str (Str.ofString "LSQB") 378) (.int 9 377)), (DictEntry.mk (PyData.keyHash P (Str.ofString "RSQB")) (.str (Str.ofString "RSQB") 380) (.int 10 379)), (DictEntry.mk (PyData.keyHash P (Str.ofString "COLON")) (.str (Str.ofString "COLON") 382) (.int 11 381)), (DictEntry.mk (PyData.keyHash P (Str.ofString "COMMA")) (.str (Str.ofString "COMMA") 384) (.int 12 383)), (DictEntry.mk (PyData.keyHash P (Str.ofString "SEMI")) (.str (Str.ofString "SEMI") 386) (.int 13 385)), (DictEntry.mk (PyData.keyHash P (Str.ofString "PLUS")) (.str (Str.ofString "PLUS") 388) (.int 14 387)), (DictEntry.mk (PyData.keyHash P (Str.ofString "MINUS")) (.str (Str.ofString "MINUS") 390) (.int 15 389)), (DictEntry.mk (PyData.keyHash P (Str.ofString "STAR")) (.str (Str.ofString "STAR") 392) (.int 16 391)), (DictEntry.mk (PyData.keyHash P (Str.ofString "SLASH")) (.str (Str.ofString "SLASH") 394) (.int 17 393)), (DictEntry.mk (PyData.keyHash P (Str.ofString "VBAR")) (.str (Str.ofString "VBAR") 396) (.int 18 395)), (DictEntry.mk (PyData.keyHash P (Str.ofString "AMPER")) (.str (Str.ofString "AMPER") 398) (.int 19 397)), (DictEntry.mk (PyData.keyHash P (Str.ofString "LESS")) (.str (Str.ofString "LESS") 400) (.int 20 399)), (DictEntry.mk (PyData.keyHash P (Str.ofString "GREATER")) (.str (Str.ofString "GREATER") 402) (.int 21 401)), (DictEntry.mk (PyData.keyHash P (Str.ofString "EQUAL")) (.str (Str.ofString "EQUAL") 404) (.int 22 403)), (DictEntry.mk (PyData.keyHash P (Str.ofString "DOT")) (.str (Str.ofString "DOT") 406) (.int 23 405)), (DictEntry.mk (PyData.keyHash P (Str.ofString "PERCENT")) (.str (Str.ofString "PERCENT") 408) (.int 24 407)), (DictEntry.mk (PyData.keyHash P (Str.ofString "LBRACE")) (.str (Str.ofString "LBRACE") 410) (.int 25 409)), (DictEntry.mk (PyData.keyHash P (Str.ofString "RBRACE")) (.str (Str.ofString "RBRACE") 412) (.int 26 411)), (DictEntry.mk (PyData.keyHash P (Str.ofString "EQEQUAL")) (.str (Str.ofString "EQEQUAL") 414) (.int 27 413)), (DictEntry.mk (PyData.keyHash P (Str.ofString "NOTEQUAL")) (.str (Str.ofString "NOTEQUAL") 416) (.int 28 415)), (DictEntry.mk (PyData.keyHash P (Str.ofString "LESSEQUAL")) (.str (Str.ofString "LESSEQUAL") 418) (.int 29 417)), (DictEntry.mk (PyData.keyHash P (Str.ofString "GREATEREQUAL")) (.str (Str.ofString "GREATEREQUAL") 420) (.int 30 419)), (DictEntry.mk (PyData.keyHash P (Str.ofString "TILDE")) (.str (Str.ofString "TILDE") 422) (.int 31 421)), (DictEntry.mk (PyData.keyHash P (Str.ofString "CIRCUMFLEX")) (.str (Str.ofString "CIRCUMFLEX") 424) (.int 32 423)), (DictEntry.mk (PyData.keyHash P (Str.ofString "LEFTSHIFT")) (.str (Str.ofString "LEFTSHIFT") 426) (.int 33 425)), (DictEntry.mk (PyData.keyHash P (Str.ofString "RIGHTSHIFT")) (.str (Str.ofString "RIGHTSHIFT") 428) (.int 34 427)), (DictEntry.mk (PyData.keyHash P (Str.ofString "DOUBLESTAR")) (.str (Str.ofString "DOUBLESTAR") 430) (.int 35 429)), (DictEntry.mk (PyData.keyHash P (Str.ofString "PLUSEQUAL")) (.str (Str.ofString "PLUSEQUAL") 432) (.int 36 431)), (DictEntry.mk (PyData.keyHash P (Str.ofString "MINEQUAL")) (.str (Str.ofString "MINEQUAL") 434) (.int 37 433)), (DictEntry.mk (PyData.keyHash P (Str.ofString "STAREQUAL")) (.str (Str.ofString "STAREQUAL") 436) (.int 38 435)), (DictEntry.mk (PyData.keyHash P (Str.ofString "SLASHEQUAL")) (.str (Str.ofString "SLASHEQUAL") 438) (.int 39 437)), (DictEntry.mk (PyData.keyHash P (Str.ofString "PERCENTEQUAL")) (.str (Str.ofString "PERCENTEQUAL") 440) (.int 40 439)), (DictEntry.mk (PyData.keyHash P (Str.ofString "AMPEREQUAL")) (.str (Str.ofString "AMPEREQUAL") 442) (.int 41 441)), (DictEntry.mk (PyData.keyHash P (Str.ofString "VBAREQUAL")) (.str (Str.ofString "VBAREQUAL") 444) (.int 42 443)), (DictEntry.mk (PyData.keyHash P (Str.ofString "CIRCUMFLEXEQUAL")) (.str (Str.ofString "CIRCUMFLEXEQUAL") 446) (.int 43 445)), (DictEntry.mk (PyData.keyHash P (Str.ofString "LEFTSHIFTEQUAL")) (.str (Str.ofString "LEFTSHIFTEQUAL") 448) (.int 44 447)), (DictEntry.mk (PyData.keyHash P (Str.ofString "RIGHTSHIFTEQUAL")) (.str (Str.ofString "RIGHTSHIFTEQUAL") 450) (.int 45 449)), (DictEntry.mk (PyData.keyHash P (Str.ofString "DOUBLESTAREQUAL")) (.str (Str.ofString "DOUBLESTAREQUAL") 452) (.int 46 451)), (DictEntry.mk (PyData.keyHash P (Str.ofString "DOUBLESLASH")) (.str (Str.ofString "DOUBLESLASH") 454) (.int 47 453)), (DictEntry.mk (PyData.keyHash P (Str.ofString "DOUBLESLASHEQUAL")) (.str (Str.ofString "DOUBLESLASHEQUAL") 456) (.int 48 455)), (DictEntry.mk (PyData.keyHash P (Str.ofString "AT")) (.str (Str.ofString "AT") 458) (.int 49 457)), (DictEntry.mk (PyData.keyHash P (Str.ofString "ATEQUAL")) (.str (Str.ofString "ATEQUAL") 460) (.int 50 459)), (DictEntry.mk (PyData.keyHash P (Str.ofString "RARROW")) (.str (Str.ofString "RARROW") 462) (.int 51 461)), (DictEntry.mk (PyData.keyHash P (Str.ofString "ELLIPSIS")) (.str (Str.ofString "ELLIPSIS") 464) (.int 52 463)), (DictEntry.mk (PyData.keyHash P (Str.ofString "COLONEQUAL")) (.str (Str.ofString "COLONEQUAL") 466) (.int 53 465)), (DictEntry.mk (PyData.keyHash P (Str.ofString "EXCLAMATION")) (.str (Str.ofString "EXCLAMATION") 468) (.int 54 467)), (DictEntry.mk (PyData.keyHash P (Str.ofString "NT_OFFSET")) (.str (Str.ofString "NT_OFFSET") 470) (.int 256 469))] 66) #[])
noncomputable def o_76 (P : Params) : Obj := (Obj.mk .none none (Data.fields #[(.int 2 0), (.int 0 0), (.ref 37), (.int 6 0), (.int 0 0), (.ref 44), (.int 18 0), (.int 0 0), (.ref 61)]) #[])
noncomputable def o_78 (P : Params) : Obj := (Obj.mk .none none (Data.fields #[]) #[])
noncomputable def o_81 (P : Params) : Obj := (fun (a : Arguments) (b : List Stmt) (s : Scope) (_ : IsFn (nth B2 1) a b s) => (Obj.mk .none none (Data.func (FuncData.mk (Str.ofString "_wall") (Str.ofString "_wall") a (FuncBody.stmts b) s 0 [] .none .none .none .none none .none .none 0)) #[])) _ _ _ (IsFn.mk _ _ _ _ _ _ _ _ _ _)
noncomputable def o_85 (P : Params) : Obj := (Obj.mk .none none (Data.fields #[]) #[])
noncomputable def o_88 (P : Params) : Obj := (fun (a : Arguments) (b : List Stmt) (s : Scope) (_ : IsFn (nth B2 3) a b s) => (Obj.mk .none none (Data.func (FuncData.mk (Str.ofString "_parse_varint") (Str.ofString "_parse_varint") a (FuncBody.stmts b) s 0 [] .none .none .none .none none .none .none 0)) #[])) _ _ _ (IsFn.mk _ _ _ _ _ _ _ _ _ _)
noncomputable def o_91 (P : Params) : Obj := (Obj.mk (.type "list") none (Data.seq #[(.int 14 305), (.int 4 306), (.int 0 307), (.int 1 308), (.int 1 309), (.int 6 310), (.int 1 311), (.int 16 312), (.int 46 313), (.int 1 314)] 0) #[])
noncomputable def o_92 (P : Params) : Obj := (Obj.mk (.type "dict") none (Data.dict #[] 0) #[])
noncomputable def o_93 (P : Params) : Obj := (Obj.mk (.type "tuple") none (Data.seq #[.none] 0) #[])
noncomputable def o_96 (P : Params) : Obj := (Obj.mk (.type "list") none (Data.seq #[(.int 14 321), (.int 9 322), (.int 4 323), (.int 1 324), (.int 2 325), (.int 16 326), (.int 10 327), (.int 16 328), (.int 13 329), (.int 0 330), (.int 7 331), (.int 7 332), (.int 16 333), (.int 13 334), (.int 16 335), (.int 10 336), (.int 15 337), (.int 18 338), (.int 5 339), (.int 16 340), (.int 10 341), (.int 15 342), (.int 13 343), (.int 11 344), (.int 16 345), (.int 13 346), (.int 5 347), (.int 5 348), (.int 0 349), (.int 16 350), (.int 10 351), (.int 1 352), (.int 15 353), (.int 2 354), (.int 0 355), (.int 1 356)] 0) #[])
noncomputable def o_97 (P : Params) : Obj := (Obj.mk (.type "dict") none (Data.dict #[] 0) #[])
noncomputable def o_98 (P : Params) : Obj := (Obj.mk (.type "tuple") none (Data.seq #[.none] 0) #[])
noncomputable def o_102 (P : Params) : Obj := (Obj.mk .none none (Data.fields #[]) #[])
noncomputable def o_105 (P : Params) : Obj := (fun (a : Arguments) (b : List Stmt) (s : Scope) (_ : IsFn (nth B2 8) a b s) => (Obj.mk .none none (Data.func (FuncData.mk (Str.ofString "quotedata") (Str.ofString "quotedata") a (FuncBody.stmts b) s 0 [] .none .none .none .none none .none .none 0)) #[])) _ _ _ (IsFn.mk _ _ _ _ _ _ _ _ _ _)
noncomputable def o_110 (P : Params) : Obj := (Obj.mk (.type "dict") none (Data.dict #[(DictEntry.mk (PyData.keyHash P (Str.ofString "__name__")) (.str (Str.ofString "__name__") 165) (.str (Str.ofString "cpy313.token") 369)), (DictEntry.mk (PyData.keyHash P (Str.ofString "__doc__")) (.str (Str.ofString "__doc__") 166) .none), (DictEntry.mk (PyData.keyHash P (Str.ofString "__package__")) (.str (Str.ofString "__package__") 167) .none), (DictEntry.mk (PyData.keyHash P (Str.ofString "__loader__")) (.str (Str.ofString "__loader__") 168) (.builtin "__main__.__loader__#opaque")), (DictEntry.mk (PyData.keyHash P (Str.ofString "__spec__")) (.str (Str.ofString "__spec__") 169) .none), (DictEntry.mk (PyData.keyHash P (Str.ofString "__annotations__")) (.str (Str.ofString "__annotations__") 170) (.ref 6)), (DictEntry.mk (PyData.keyHash P (Str.ofString "__builtins__")) (.str (Str.ofString "__builtins__") 171) (.ref 4)), (DictEntry.mk (PyData.keyHash P (Str.ofString "__file__")) (.str (Str.ofString "__file__") 173) (.str (Str.ofString "/claim/cut.py") 172)), (DictEntry.mk (PyData.keyHash P (Str.ofString "__cached__")) (.str (Str.ofString "__cached__") 174) .none), (DictEntry.mk (PyData.keyHash P (Str.ofString "_sre")) (.str (Str.ofString "_sre") 275) (.ref 12)), (DictEntry.mk (PyData.keyHash P (Str.ofString "_wall")) (.str (Str.ofString "_wall") 288) (.ref 38)), (DictEntry.mk (PyData.keyHash P (Str.ofString "_parse_varint")) (.str (Str.ofString "_parse_varint") 299) (.ref 45)), (DictEntry.mk (PyData.keyHash P (Str.ofString "_twin_re_1")) (.str (Str.ofString "_twin_re_1") 317) (.ref 50)), (DictEntry.mk (PyData.keyHash P (Str.ofString "_twin_re_2")) (.str (Str.ofString "_twin_re_2") 359) (.ref 55)), (DictEntry.mk (PyData.keyHash P (Str.ofString "CRLF")) (.str (Str.ofString "CRLF") 361) (.str (Str.ofString "\x0d\n") 360)), (DictEntry.mk (PyData.keyHash P (Str.ofString "quotedata")) (.str (Str.ofString "quotedata") 368) (.ref 62)), (DictEntry.mk (PyData.keyHash P (Str.ofString "ENDMARKER")) (.str (Str.ofString "ENDMARKER") 372) (.int 0 371)), (DictEntry.mk (PyData.keyHash P (Str.ofString "LPAR")) (.str (Str.ofString "LPAR") 374) (.int 7 373)), (DictEntry.mk (PyData.keyHash P (Str.ofString "RPAR")) (.str (Str.ofString "RPAR") 376) (.int 8 375)), (DictEntry.mk (PyData.keyHash P (Str.ofString "LSQB")) (.str (Str.ofString "LSQB") 378) (.int 9 377)), (DictEntry.mk (PyData.keyHash P (Str.ofString "RSQB")) (.str (Str.ofString "RSQB") 380) (.int 10 379)), (DictEntry.mk (PyData.keyHash P (Str.ofString "COLON")) (.str (Str.ofString "COLON") 382) (.int 11 381)), (DictEntry.mk (PyData.keyHash P (Str.ofString "COMMA")) (.str (Str.ofString "COMMA") 384) (.int 12 383)), (DictEntry.mk (PyData.keyHash P (Str.ofString "SEMI")) (.str (Str.ofString "SEMI") 386) (.int 13 385)), (DictEntry.mk (PyData.keyHash P (Str.ofString "PLUS")) (.str (Str.ofString "PLUS") 388) (.int 14 387)), (DictEntry.mk (PyData.keyHash P (Str.ofString "MINUS")) (.str (Str.ofString "MINUS") 390) (.int 15 389)), (DictEntry.mk (PyData.keyHash P (Str.ofString "STAR")) (.str (Str.ofString "STAR") 392) (.int 16 391)), (DictEntry.mk (PyData.keyHash P (Str.ofString "SLASH")) (.str (Str.ofString "SLASH") 394) (.int 17 393)), (DictEntry.mk (PyData.keyHash P (Str.ofString "VBAR")) (.str (Str.ofString "VBAR") 396) (.int 18 395)), (DictEntry.mk (PyData.keyHash P (Str.ofString "AMPER")) (.str (Str.ofString "AMPER") 398) (.int 19 397)), (DictEntry.mk (PyData.keyHash P (Str.ofString "LESS")) (.str (Str.ofString "LESS") 400) (.int 20 399)), (DictEntry.mk (PyData.keyHash P (Str.ofString "GREATER")) (.str (Str.ofString "GREATER") 402) (.int 21 401)), (DictEntry.mk (PyData.keyHash P (Str.ofString "EQUAL")) (.str (Str.ofString "EQUAL") 404) (.int 22 403)), (DictEntry.mk (PyData.keyHash P (Str.ofString "DOT")) (.str (Str.ofString "DOT") 406) (.int 23 405)), (DictEntry.mk (PyData.keyHash P (Str.ofString "PERCENT")) (.str (Str.ofString "PERCENT") 408) (.int 24 407)), (DictEntry.mk (PyData.keyHash P (Str.ofString "LBRACE")) (.str (Str.ofString "LBRACE") 410) (.int 25 409)), (DictEntry.mk (PyData.keyHash P (Str.ofString "RBRACE")) (.str (Str.ofString "RBRACE") 412) (.int 26 411)), (DictEntry.mk (PyData.keyHash P (Str.ofString "EQEQUAL")) (.str (Str.ofString "EQEQUAL") 414) (.int 27 413)), (DictEntry.mk (PyData.keyHash P (Str.ofString "NOTEQUAL")) (.str (Str.ofString "NOTEQUAL") 416) (.int 28 415)), (DictEntry.mk (PyData.keyHash P (Str.ofString "LESSEQUAL")) (.str (Str.ofString "LESSEQUAL") 418) (.int 29 417)), (DictEntry.mk (PyData.keyHash P (Str.ofString "GREATEREQUAL")) (.str (Str.ofString "GREATEREQUAL") 420) (.int 30 419)), (DictEntry.mk (PyData.keyHash P (Str.ofString "TILDE")) (.str (Str.ofString "TILDE") 422) (.int 31 421)), (DictEntry.mk (PyData.keyHash P (Str.ofString "CIRCUMFLEX")) (.str (Str.ofString "CIRCUMFLEX") 424) (.int 32 423)), (DictEntry.mk (PyData.keyHash P (Str.ofString "LEFTSHIFT")) (.str (Str.ofString "LEFTSHIFT") 426) (.int 33 425)), (DictEntry.mk (PyData.keyHash P (Str.ofString "RIGHTSHIFT")) (.str (Str.ofString "RIGHTSHIFT") 428) (.int 34 427)), (DictEntry.mk (PyData.keyHash P (Str.ofString "DOUBLESTAR")) (.str (Str.ofString "DOUBLESTAR") 430) (.int 35 429)), (DictEntry.mk (PyData.keyHash P (Str.ofString "PLUSEQUAL")) (.str (Str.ofString "PLUSEQUAL") 432) (.int 36 431)), (DictEntry.mk (PyData.keyHash P (Str.ofString "MINEQUAL")) (.str (Str.ofString "MINEQUAL") 434) (.int 37 433)), (DictEntry.mk (PyData.keyHash P (Str.ofString "STAREQUAL")) (.str (Str.ofString "STAREQUAL") 436) (.int 38 435)), (DictEntry.mk (PyData.keyHash P (Str.ofString "SLASHEQUAL")) (.str (Str.ofString "SLASHEQUAL") 438) (.int 39 437)), (DictEntry.mk (PyData.keyHash P (Str.ofString "PERCENTEQUAL")) (.str (Str.ofString "PERCENTEQUAL") 440) (.int 40 439)), (DictEntry.mk (PyData.keyHash P (Str.ofString "AMPEREQUAL")) (.str (Str.ofString "AMPEREQUAL") 442) (.int 41 441)), (DictEntry.mk (PyData.keyHash P (Str.ofString "VBAREQUAL")) (.str (Str.ofString "VBAREQUAL") 444) (.int 42 443)), (DictEntry.mk (PyData.keyHash P (Str.ofString "CIRCUMFLEXEQUAL")) (.str (Str.ofString "CIRCUMFLEXEQUAL") 446) (.int 43 445)), (DictEntry.mk (PyData.keyHash P (Str.ofString "LEFTSHIFTEQUAL")) (.str (Str.ofString "LEFTSHIFTEQUAL") 448) (.int 44 447)), (DictEntry.mk (PyData.keyHash P (Str.ofString "RIGHTSHIFTEQUAL")) (.str (Str.ofString "RIGHTSHIFTEQUAL") 450) (.int 45 449)), (DictEntry.mk (PyData.keyHash P (Str.ofString "DOUBLESTAREQUAL")) (.str (Str.ofString "DOUBLESTAREQUAL") 452) (.int 46 451)), (DictEntry.mk (PyData.keyHash P (Str.ofString "DOUBLESLASH")) (.str (Str.ofString "DOUBLESLASH") 454) (.int 47 453)), (DictEntry.mk (PyData.keyHash P (Str.ofString "DOUBLESLASHEQUAL")) (.str (Str.ofString "DOUBLESLASHEQUAL") 456) (.int 48 455)), (DictEntry.mk (PyData.keyHash P (Str.ofString "AT")) (.str (Str.ofString "AT") 458) (.int 49 457)), (DictEntry.mk (PyData.keyHash P (Str.ofString "ATEQUAL")) (.str (Str.ofString "ATEQUAL") 460) (.int 50 459)), (DictEntry.mk (PyData.keyHash P (Str.ofString "RARROW")) (.str (Str.ofString "RARROW") 462) (.int 51 461)), (DictEntry.mk (PyData.keyHash P (Str.ofString "ELLIPSIS")) (.str (Str.ofString "ELLIPSIS") 464) (.int 52 463)), (DictEntry.mk (PyData.keyHash P (Str.ofString "COLONEQUAL")) (.str (Str.ofString "COLONEQUAL") 466) (.int 53 465)), (DictEntry.mk (PyData.keyHash P (Str.ofString "EXCLAMATION")) (.str (Str.ofString "EXCLAMATION") 468) (.int 54 467)), (DictEntry.mk (PyData.keyHash P (Str.ofString "NT_OFFSET")) (.str (Str.ofString "NT_OFFSET") 470) (.int 256 469)), (DictEntry.mk (PyData.keyHash P (Str.ofString "EXACT_TOKEN_TYPES")) (.str (Str.ofString "EXACT_TOKEN_TYPES") 567) (.ref 63))] 67) #[])
noncomputable def o_112 (P : Params) : Obj := (Obj.mk (.type "dict") none (Data.dict #[(DictEntry.mk (PyData.keyHash P (Str.ofString "->")) (.str (Str.ofString "->") 505) (.int 51 461)), (DictEntry.mk (PyData.keyHash P (Str.ofString ".")) (.str (Str.ofString ".") 507) (.int 23 405)), (DictEntry.mk (PyData.keyHash P (Str.ofString "...")) (.str (Str.ofString "...") 509) (.int 52 463)), (DictEntry.mk (PyData.keyHash P (Str.ofString "/")) (.str (Str.ofString "/") 511) (.int 17 393)), (DictEntry.mk (PyData.keyHash P (Str.ofString "//")) (.str (Str.ofString "//") 513) (.int 47 453)), (DictEntry.mk (PyData.keyHash P (Str.ofString "//=")) (.str (Str.ofString "//=") 515) (.int 48 455)), (DictEntry.mk (PyData.keyHash P (Str.ofString "/=")) (.str (Str.ofString "/=") 517) (.int 39 437)), (DictEntry.mk (PyData.keyHash P (Str.ofString ":")) (.str (Str.ofString ":") 519) (.int 11 381)), (DictEntry.mk (PyData.keyHash P (Str.ofString ":=")) (.str (Str.ofString ":=") 521) (.int 53 465)), (DictEntry.mk (PyData.keyHash P (Str.ofString ";")) (.str (Str.ofString ";") 523) (.int 13 385)), (DictEntry.mk (PyData.keyHash P (Str.ofString "<")) (.str (Str.ofString "<") 525) (.int 20 399)), (DictEntry.mk (PyData.keyHash P (Str.ofString "<<")) (.str (Str.ofString "<<") 527) (.int 33 425)), (DictEntry.mk (PyData.keyHash P (Str.ofString "<<=")) (.str (Str.ofString "<<=") 529) (.int 44 447)), (DictEntry.mk (PyData.keyHash P (Str.ofString "<=")) (.str (Str.ofString "<=") 531) (.int 29 417)), (DictEntry.mk (PyData.keyHash P (Str.ofString "=")) (.str (Str.ofString "=") 533) (.int 22 403)), (DictEntry.mk (PyData.keyHash P (Str.ofString "==")) (.str (Str.ofString "==") 535) (.int 27 413)), (DictEntry.mk (PyData.keyHash P (Str.ofString ">")) (.str (Str.ofString ">") 537) (.int 21 401))] 17) #[])
noncomputable def o_113 (P : Params) : Obj := (Obj.mk (.type "dict") none (Data.dict #[(DictEntry.mk (PyData.keyHash P (Str.ofString ">=")) (.str (Str.ofString ">=") 539) (.int 30 419)), (DictEntry.mk (PyData.keyHash P (Str.ofString ">>")) (.str (Str.ofString ">>") 540) (.int 34 427)), (DictEntry.mk (PyData.keyHash P (Str.ofString ">>=")) (.str (Str.ofString ">>=") 541) (.int 45 449)), (DictEntry.mk (PyData.keyHash P (Str.ofString "@")) (.str (Str.ofString "@") 542) (.int 49 457)), (DictEntry.mk (PyData.keyHash P (Str.ofString "@=")) (.str (Str.ofString "@=") 543) (.int 50 459)), (DictEntry.mk (PyData.keyHash P (Str.ofString "[")) (.str (Str.ofString "[") 544) (.int 9 377)), (DictEntry.mk (PyData.keyHash P (Str.ofString "]")) (.str (Str.ofString "]") 545) (.int 10 379)), (DictEntry.mk (PyData.keyHash P (Str.ofString "^")) (.str (Str.ofString "^") 546) (.int 32 423)), (DictEntry.mk (PyData.keyHash P (Str.ofString "^=")) (.str (Str.ofString "^=") 547) (.int 43 445)), (DictEntry.mk (PyData.keyHash P (Str.ofString "{")) (.str (Str.ofString "{") 548) (.int 25 409)), (DictEntry.mk (PyData.keyHash P (Str.ofString "|")) (.str (Str.ofString "|") 549) (.int 18 395)), (DictEntry.mk (PyData.keyHash P (Str.ofString "|=")) (.str (Str.ofString "|=") 550) (.int 42 443)), (DictEntry.mk (PyData.keyHash P (Str.ofString "}")) (.str (Str.ofString "}") 551) (.int 26 411)), (DictEntry.mk (PyData.keyHash P (Str.ofString "~")) (.str (Str.ofString "~") 552) (.int 31 421))] 14) #[])
noncomputable def o_163 (P : Params) : Obj := (Obj.mk (.type "dict") none (Data.dict #[(DictEntry.mk (PyData.keyHash P (Str.ofString "__name__")) (.str (Str.ofString "__name__") 165) (.str (Str.ofString "cpy313.wsgiref.headers") 589)), (DictEntry.mk (PyData.keyHash P (Str.ofString "__doc__")) (.str (Str.ofString "__doc__") 166) .none), (DictEntry.mk (PyData.keyHash P (Str.ofString "__package__")) (.str (Str.ofString "__package__") 167) .none), (DictEntry.mk (PyData.keyHash P (Str.ofString "__loader__")) (.str (Str.ofString "__loader__") 168) (.builtin "__main__.__loader__#opaque")), (DictEntry.mk (PyData.keyHash P (Str.ofString "__spec__")) (.str (Str.ofString "__spec__") 169) .none), (DictEntry.mk (PyData.keyHash P (Str.ofString "__annotations__")) (.str (Str.ofString "__annotations__") 170) (.ref 6)), (DictEntry.mk (PyData.keyHash P (Str.ofString "__builtins__")) (.str (Str.ofString "__builtins__") 171) (.ref 4)), (DictEntry.mk (PyData.keyHash P (Str.ofString "__file__")) (.str (Str.ofString "__file__") 173) (.str (Str.ofString "/claim/cut.py") 172)), (DictEntry.mk (PyData.keyHash P (Str.ofString "__cached__")) (.str (Str.ofString "__cached__") 174) .none), (DictEntry.mk (PyData.keyHash P (Str.ofString "_sre")) (.str (Str.ofString "_sre") 275) (.ref 12)), (DictEntry.mk (PyData.keyHash P (Str.ofString "_wall")) (.str (Str.ofString "_wall") 288) (.ref 38)), (DictEntry.mk (PyData.keyHash P (Str.ofString "_parse_varint")) (.str (Str.ofString "_parse_varint") 299) (.ref 45)), (DictEntry.mk (PyData.keyHash P (Str.ofString "_twin_re_1")) (.str (Str.ofString "_twin_re_1") 317) (.ref 50)), (DictEntry.mk (PyData.keyHash P (Str.ofString "_twin_re_2")) (.str (Str.ofString "_twin_re_2") 359) (.ref 55)), (DictEntry.mk (PyData.keyHash P (Str.ofString "CRLF")) (.str (Str.ofString "CRLF") 361) (.str (Str.ofString "\x0d\n") 360)), (DictEntry.mk (PyData.keyHash P (Str.ofString "quotedata")) (.str (Str.ofString "quotedata") 368) (.ref 62)), (DictEntry.mk (PyData.keyHash P (Str.ofString "ENDMARKER")) (.str (Str.ofString "ENDMARKER") 372) (.int 0 371)), (DictEntry.mk (PyData.keyHash P (Str.ofString "LPAR")) (.str (Str.ofString "LPAR") 374) (.int 7 373)), (DictEntry.mk (PyData.keyHash P (Str.ofString "RPAR")) (.str (Str.ofString "RPAR") 376) (.int 8 375)), (DictEntry.mk (PyData.keyHash P (Str.ofString "LSQB")) (.str (Str.ofString "LSQB") 378) (.int 9 377)), (DictEntry.mk (PyData.keyHash P (Str.ofString "RSQB")) (.str (Str.ofString "RSQB") 380) (.int 10 379)), (DictEntry.mk (PyData.keyHash P (Str.ofString "COLON")) (.str (Str.ofString "COLON") 382) (.int 11 381)), (DictEntry.mk (PyData.keyHash P (Str.ofString "COMMA")) (.str (Str.ofString "COMMA") 384) (.int 12 383)), (DictEntry.mk (PyData.keyHash P (Str.ofString "SEMI")) (.str (Str.ofString "SEMI") 386) (.int 13 385)), (DictEntry.mk (PyData.keyHash P (Str.ofString "PLUS")) (.str (Str.ofString "PLUS") 388) (.int 14 387)), (DictEntry.mk (PyData.keyHash P (Str.ofString "MINUS")) (.str (Str.ofString "MINUS") 390) (.int 15 389)), (DictEntry.mk (PyData.keyHash P (Str.ofString "STAR")) (.str (Str.ofString "STAR") 392) (.int 16 391)), (DictEntry.mk (PyData.keyHash P (Str.ofString "SLASH")) (.str (Str.ofString "SLASH") 394) (.int 17 393)), (DictEntry.mk (PyData.keyHash P (Str.ofString "VBAR")) (.str (Str.ofString "VBAR") 396) (.int 18 395)), (DictEntry.mk (PyData.keyHash P (Str.ofString "AMPER")) (.str (Str.ofString "AMPER") 398) (.int 19 397)), (DictEntry.mk (PyData.keyHash P (Str.ofString "LESS")) (.str (Str.ofString "LESS") 400) (.int 20 399)), (DictEntry.mk (PyData.keyHash P (Str.ofString "GREATER")) (.str (Str.ofString "GREATER") 402) (.int 21 401)), (DictEntry.mk (PyData.keyHash P (Str.ofString "EQUAL")) (.str (Str.ofString "EQUAL") 404) (.int 22 403)), (DictEntry.mk (PyData.keyHash P (Str.ofString "DOT")) (.str (Str.ofString "DOT") 406) (.int 23 405)), (DictEntry.mk (PyData.keyHash P (Str.ofString "PERCENT")) (.str (Str.ofString "PERCENT") 408) (.int 24 407)), (DictEntry.mk (PyData.keyHash P (Str.ofString "LBRACE")) (.str (Str.ofString "LBRACE") 410) (.int 25 409)), (DictEntry.mk (PyData.keyHash P (Str.ofString "RBRACE")) (.str (Str.ofString "RBRACE") 412) (.int 26 411)), (DictEntry.mk (PyData.keyHash P (Str.ofString "EQEQUAL")) (.str (Str.ofString "EQEQUAL") 414) (.int 27 413)), (DictEntry.mk (PyData.keyHash P (Str.ofString "NOTEQUAL")) (.str (Str.ofString "NOTEQUAL") 416) (.int 28 415)), (DictEntry.mk (PyData.keyHash P (Str.ofString "LESSEQUAL")) (.str (Str.ofString "LESSEQUAL") 418) (.int 29 417)), (DictEntry.mk (PyData.keyHash P (Str.ofString "GREATEREQUAL")) (.str (Str.ofString "GREATEREQUAL") 420) (.int 30 419)), (DictEntry.mk (PyData.keyHash P (Str.ofString "TILDE")) (.str (Str.ofString "TILDE") 422) (.int 31 421)), (DictEntry.mk (PyData.keyHash P (Str.ofString "CIRCUMFLEX")) (.str (Str.ofString "CIRCUMFLEX") 424) (.int 32 423)), (DictEntry.mk (PyData.keyHash P (Str.ofString "LEFTSHIFT")) (.str (Str.ofString "LEFTSHIFT") 426) (.int 33 425)), (DictEntry.mk (PyData.keyHash P (Str.ofString "RIGHTSHIFT")) (.str (Str.ofString "RIGHTSHIFT") 428) (.int 34 427)), (DictEntry.mk (PyData.keyHash P (Str.ofString "DOUBLESTAR")) (.str (Str.ofString "DOUBLESTAR") 430) (.int 35 429)), (DictEntry.mk (PyData.keyHash P (Str.ofString "PLUSEQUAL")) (.str (Str.ofString "PLUSEQUAL") 432) (.int 36 431)), (DictEntry.mk (PyData.keyHash P (Str.ofString "MINEQUAL")) (.str (Str.ofString "MINEQUAL") 434) (.int 37 433)), (DictEntry.mk (PyData.keyHash P (Str.ofString "STAREQUAL")) (.str (Str.ofString "STAREQUAL") 436) (.int 38 435)), (DictEntry.mk (PyData.keyHash P (Str.ofString "SLASHEQUAL")) (.str (Str.ofString "SLASHEQUAL") 438) (.int 39 437)), (DictEntry.mk (PyData.keyHash P (Str.ofString "PERCENTEQUAL")) (.str (Str.ofString "PERCENTEQUAL") 440) (.int 40 439)), (DictEntry.mk (PyData.keyHash P (Str.ofString "AMPEREQUAL")) (.str (Str.ofString "AMPEREQUAL") 442) (.int 41 441)), (DictEntry.mk (PyData.keyHash P (Str.ofString "VBAREQUAL")) (.str (Str.ofString "VBAREQUAL") 444) (.int 42 443)), (DictEntry.mk (PyData.keyHash P (Str.ofString "CIRCUMFLEXEQUAL")) (.str (Str.ofString "CIRCUMFLEXEQUAL") 446) (.int 43 445)), (DictEntry.mk (PyData.keyHash P (Str.ofString "LEFTSHIFTEQUAL")) (.str (Str.ofString "LEFTSHIFTEQUAL") 448) (.int 44 447)), (DictEntry.mk (PyData.keyHash P (Str.ofString "RIGHTSHIFTEQUAL")) (.str (Str.ofString "RIGHTSHIFTEQUAL") 450) (.int 45 449)), (DictEntry.mk (PyData.keyHash P (Str.ofString "DOUBLESTAREQUAL")) (.str (Str.ofString "DOUBLESTAREQUAL") 452) (.int 46 451)), (DictEntry.mk (PyData.keyHash P (Str.ofString "DOUBLESLASH")) (.str (Str.ofString "DOUBLESLASH") 454) (.int 47 453)), (DictEntry.mk (PyData.keyHash P (Str.ofString "DOUBLESLASHEQUAL")) (.str (Str.ofString "DOUBLESLASHEQUAL") 456) (.int 48 455)), (DictEntry.mk (PyData.keyHash P (Str.ofString "AT")) (.str (Str.ofString "AT") 458) (.int 49 457)), (DictEntry.mk (PyData.keyHash P (Str.ofString "ATEQUAL")) (.str (Str.ofString "ATEQUAL") 460) (.int 50 459)), (DictEntry.mk (PyData.keyHash P (Str.ofString "RARROW")) (.str (Str.ofString "RARROW") 462) (.int 51 461)), (DictEntry.mk (PyData.keyHash P (Str.ofString "ELLIPSIS")) (.str (Str.ofString "ELLIPSIS") 464) (.int 52 463)), (DictEntry.mk (PyData.keyHash P (Str.ofString "COLONEQUAL")) (.str (Str.ofString "COLONEQUAL") 466) (.int 53 465)), (DictEntry.mk (PyData.keyHash P (Str.ofString "EXCLAMATION")) (.str (Str.ofString "EXCLAMATION") 468) (.int 54 467)), (DictEntry.mk (PyData.keyHash P (Str.ofString "NT_OFFSET")) (.str (Str.ofString "NT_OFFSET") 470) (.int 256 469)), (DictEntry.mk (PyData.keyHash P (Str.ofString "EXACT_TOKEN_TYPES")) (.str (Str.ofString "EXACT_TOKEN_TYPES") 567) (.ref 63)), (DictEntry.mk (PyData.keyHash P (Str.ofString "ISTERMINAL")) (.str (Str.ofString "ISTERMINAL") 574) (.ref 72)), (DictEntry.mk (PyData.keyHash P (Str.ofString "ISNONTERMINAL")) (.str (Str.ofString "ISNONTERMINAL") 581) (.ref 79)), (DictEntry.mk (PyData.keyHash P (Str.ofString "ISEOF")) (.str (Str.ofString "ISEOF") 588) (.ref 86)), (DictEntry.mk (PyData.keyHash P (Str.ofString "tspecials")) (.str (Str.ofString "tspecials") 624) (.ref 91)), (DictEntry.mk (PyData.keyHash P (Str.ofString "_name_disallowed_re")) (.str (Str.ofString "_name_disallowed_re") 650) (.ref 96)), (DictEntry.mk (PyData.keyHash P (Str.ofString "_value_disallowed_re")) (.str (Str.ofString "_value_disallowed_re") 684) (.ref 101)), (DictEntry.mk (PyData.keyHash P (Str.ofString "_formatparam")) (.str (Str.ofString "_formatparam") 694) (.ref 109)), (DictEntry.mk (PyData.keyHash P (Str.ofString "Headers")) (.str (Str.ofString "Headers") 853) (.ref 232))] 75) #[])
noncomputable def o_164 (P : Params) : Obj := (Obj.mk .none none (Data.fields #[(.int 2 0), (.int 0 0), (.ref 37), (.int 6 0), (.int 0 0), (.ref 44), (.int 18 0), (.int 0 0), (.ref 61), (.int 72 0), (.int 0 0), (.ref 71), (.int 74 0), (.int 0 0), (.ref 78), (.int 76 0), (.int 0 0), (.ref 85), (.int 82 0), (.int 0 0), (.ref 108), (.int 91 0), (.int 0 0), (.ref 115)]) #[])
noncomputable def o_120 (P : Params) : Obj := (Obj.mk .none none (Data.fields #[]) #[])
noncomputable def o_123 (P : Params) : Obj := (fun (a : Arguments) (b : List Stmt) (s : Scope) (_ : IsFn (nth B2 61) a b s) => (Obj.mk .none none (Data.func (FuncData.mk (Str.ofString "ISTERMINAL") (Str.ofString "ISTERMINAL") a (FuncBody.stmts b) s 0 [] .none .none .none .none none .none .none 0)) #[])) _ _ _ (IsFn.mk _ _ _ _ _ _ _ _ _ _)
noncomputable def o_127 (P : Params) : Obj := (Obj.mk .none none (Data.fields #[]) #[])
noncomputable def o_130 (P : Params) : Obj := (fun (a : Arguments) (b : List Stmt) (s : Scope) (_ : IsFn (nth B2 62) a b s) => (Obj.mk .none none (Data.func (FuncData.mk (Str.ofString "ISNONTERMINAL") (Str.ofString "ISNONTERMINAL") a (FuncBody.stmts b) s 0 [] .none .none .none .none none .none .none 0)) #[])) _ _ _ (IsFn.mk _ _ _ _ _ _ _ _ _ _)
noncomputable def o_134 (P : Params) : Obj := (Obj.mk .none none (Data.fields #[]) #[])
noncomputable def o_137 (P : Params) : Obj := (fun (a : Arguments) (b : List Stmt) (s : Scope) (_ : IsFn (nth B2 63) a b s) => (Obj.mk .none none (Data.func (FuncData.mk (Str.ofString "ISEOF") (Str.ofString "ISEOF") a (FuncBody.stmts b) s 0 [] .none .none .none .none none .none .none 0)) #[])) _ _ _ (IsFn.mk _ _ _ _ _ _ _ _ _ _)
noncomputable def o_140 (P : Params) : Obj := (Obj.mk (.type "list") none (Data.seq #[(.int 14 594), (.int 14 595), (.int 4 596), (.int 1 597), (.int 1 598), (.int 9 599), (.int 0 600), (.int 4227896069 601), (.int 939524097 602), (.int 0 603), (.int 0 604), (.int 0 605), (.int 0 606), (.int 0 607), (.int 0 608), (.int 13 609), (.int 11 610), (.int 9 611), (.int 0 612), (.int 4227896069 613), (.int 939524097 614), (.int 0 615), (.int 0 616), (.int 0 617), (.int 0 618), (.int 0 619), (.int 0 620), (.int 1 621)] 0) #[])
noncomputable def o_141 (P : Params) : Obj := (Obj.mk (.type "dict") none (Data.dict #[] 0) #[])
noncomputable def o_142 (P : Params) : Obj := (Obj.mk (.type "tuple") none (Data.seq #[.none] 0) #[])
noncomputable def o_145 (P : Params) : Obj := (Obj.mk (.type "list") none (Data.seq #[(.int 14 628), (.int 10 629), (.int 4 630), (.int 1 631), (.int 1 632), (.int 22 633), (.int 0 634), (.int 31 635), (.int 16 636), (.int 127 637), (.int 0 638), (.int 13 639), (.int 7 640), (.int 22 641), (.int 0 642), (.int 31 643), (.int 16 644), (.int 127 645), (.int 0 646), (.int 1 647)] 0) #[])
noncomputable def o_146 (P : Params) : Obj := (Obj.mk (.type "dict") none (Data.dict #[] 0) #[])
noncomputable def o_147 (P : Params) : Obj := (Obj.mk (.type "tuple") none (Data.seq #[.none] 0) #[])
noncomputable def o_150 (P : Params) : Obj := (Obj.mk (.type "list") none (Data.seq #[(.int 14 654), (.int 14 655), (.int 4 656), (.int 1 657), (.int 1 658), (.int 9 659), (.int 4294966783 660), (.int 0 661), (.int 0 662), (.int 2147483648 663), (.int 0 664), (.int 0 665), (.int 0 666), (.int 0 667), (.int 0 668), (.int 13 669), (.int 11 670), (.int 9 671), (.int 4294966783 672), (.int 0 673), (.int 0 674), (.int 2147483648 675), (.int 0 676), (.int 0 677), (.int 0 678), (.int 0 679), (.int 0 680), (.int 1 681)] 0) #[])
noncomputable def o_151 (P : Params) : Obj := (Obj.mk (.type "dict") none (Data.dict #[] 0) #[])
noncomputable def o_152 (P : Params) : Obj := (Obj.mk (.type "tuple") none (Data.seq #[.none] 0) #[])
noncomputable def o_157 (P : Params) : Obj := (Obj.mk .none none (Data.fields #[]) #[])
noncomputable def o_160 (P : Params) : Obj := (fun (a : Arguments) (b : List Stmt) (s : Scope) (_ : IsFn (nth B2 68) a b s) => (Obj.mk .none none (Data.func (FuncData.mk (Str.ofString "_formatparam") (Str.ofString "_formatparam") a (FuncBody.stmts b) s 0 [] .none .none .none .none none .none .none 0)) #[])) _ _ _ (IsFn.mk _ _ _ _ _ _ _ _ _ _)
noncomputable def o_165 (P : Params) : Obj := (Obj.mk (.type "tuple") none (Data.seq #[] 0) #[])
noncomputable def o_166 (P : Params) : Obj := (Obj.mk (.type "builtin_function_or_method") none (Data.fields #[(.builtin "type.__prepare__"), (.type "type")]) #[])
noncomputable def o_167 (P : Params) : Obj := (Obj.mk (.type "dict") none (Data.dict #[(DictEntry.mk (PyData.keyHash P (Str.ofString "__module__")) (.str (Str.ofString "__module__") 702) (.str (Str.ofString "cpy313.wsgiref.headers") 589)), (DictEntry.mk (PyData.keyHash P (Str.ofString "__qualname__")) (.str (Str.ofString "__qualname__") 704) (.str (Str.ofString "Headers") 703)), (DictEntry.mk (PyData.keyHash P (Str.ofString "__firstlineno__")) (.str (Str.ofString "__firstlineno__") 706) (.int 91 705)), (DictEntry.mk (PyData.keyHash P (Str.ofString "__init__")) (.str (Str.ofString "__init__") 716) (.ref 124)), (DictEntry.mk (PyData.keyHash P (Str.ofString "_convert_string_type")) (.str (Str.ofString "_convert_string_type") 726) (.ref 131)), (DictEntry.mk (PyData.keyHash P (Str.ofString "__len__")) (.str (Str.ofString "__len__") 733) (.ref 138)), (DictEntry.mk (PyData.keyHash P (Str.ofString "__setitem__")) (.str (Str.ofString "__setitem__") 742) (.ref 145)), (DictEntry.mk (PyData.keyHash P (Str.ofString "__delitem__")) (.str (Str.ofString "__delitem__") 748) (.ref 150)), (DictEntry.mk (PyData.keyHash P (Str.ofString "__getitem__")) (.str (Str.ofString "__getitem__") 756) (.ref 157)), (DictEntry.mk (PyData.keyHash P (Str.ofString "__contains__")) (.str (Str.ofString "__contains__") 764) (.ref 164)), (DictEntry.mk (PyData.keyHash P (Str.ofString "get_all")) (.str (Str.ofString "get_all") 772) (.ref 171)), (DictEntry.mk (PyData.keyHash P (Str.ofString "get")) (.str (Str.ofString "get") 783) (.ref 179)), (DictEntry.mk (PyData.keyHash P (Str.ofString "keys")) (.str (Str.ofString "keys") 789) (.ref 184)), (DictEntry.mk (PyData.keyHash P (Str.ofString "values")) (.str (Str.ofString "values") 795) (.ref 189)), (DictEntry.mk (PyData.keyHash P (Str.ofString "items")) (.str (Str.ofString "items") 802) (.ref 196)), (DictEntry.mk (PyData.keyHash P (Str.ofString "__repr__")) (.str (Str.ofString "__repr__") 809) (.ref 203)), (DictEntry.mk (PyData.keyHash P (Str.ofString "__str__")) (.str (Str.ofString "__str__") 815) (.ref 208)), (DictEntry.mk (PyData.keyHash P (Str.ofString "__bytes__")) (.str (Str.ofString "__bytes__") 822) (.ref 215)), (DictEntry.mk (PyData.keyHash P (Str.ofString "setdefault")) (.str (Str.ofString "setdefault") 831) (.ref 222)), (DictEntry.mk (PyData.keyHash P (Str.ofString "add_header")) (.str (Str.ofString "add_header") 844) (.ref 229)), (DictEntry.mk (PyData.keyHash P (Str.ofString "__static_attributes__")) (.str (Str.ofString "__static_attributes__") 846) (.ref 230))] 21) #[])
noncomputable def o_168 (P : Params) : Obj := (Obj.mk (.type "tuple") none (Data.seq #[] 0) #[])
noncomputable def o_169 (P : Params) : Obj := (Obj.mk .none none (Data.fields #[(.int 93 0), (.int 4 0), (.ref 123), (.int 103 0), (.int 4 0), (.ref 130), (.int 111 0), (.int 4 0), (.ref 137), (.int 114 0), (.int 4 0), (.ref 144), (.int 118 0), (.int 4 0), (.ref 149), (.int 122 0), (.int 4 0), (.ref 156), (.int 125 0), (.int 4 0), (.ref 163), (.int 128 0), (.int 4 0), (.ref 170), (.int 131 0), (.int 4 0), (.ref 178), (.int 138 0), (.int 4 0), (.ref 183), (.int 141 0), (.int 4 0), (.ref 188), (.int 144 0), (.int 4 0), (.ref 195), (.int 147 0), (.int 4 0), (.ref 202), (.int 150 0), (.int 4 0), (.ref 207), (.int 153 0), (.int 4 0), (.ref 214), (.int 156 0), (.int 4 0), (.ref 221), (.int 159 0), (.int 4 0), (.ref 228)]) #[])
noncomputable def o_170 (P : Params) : Obj := (Obj.mk (.type "code") none (Data.fields #[(.str (Str.ofString "Headers") 697), (.str (Str.ofString "Headers") 698), (.str (Str.ofString "/claim/cut.py") 699), (.int 91 0), (.int 0 0), (.int 0 0), (.int 0 0), (.int 0 0), (.ref 113), (.bool Bool.false), (.int 276 0), (.ref 114), .none, .none, .none, .none, (.int 700 0), (.int 91 0), (.str (Str.ofString "/claim/cut.py") 701)]) #[])
noncomputable def o_171 (P : Params) : Obj := (Obj.mk (.type "frame") none Data.plain #[(some (.ref 115)), (some (.ref 3)), (some (.ref 112)), none, (some (.str (Str.ofString "cpy313.wsgiref.headers") 589)), none, (some (.ref 0))])
noncomputable def o_174 (P : Params) : Obj := (Obj.mk .none none (Data.fields #[]) #[])
noncomputable def o_177 (P : Params) : Obj := (fun (a : Arguments) (b : List Stmt) (s : Scope) (_ : IsFn (nth (clsB (nth B2 69)) 0) a b s) => (Obj.mk .none none (Data.func (FuncData.mk (Str.ofString "__init__") (Str.ofString "Headers.__init__") a (FuncBody.stmts b) s 0 [] .none .none .none .none none .none .none 0)) #[])) _ _ _ (IsFn.mk _ _ _ _ _ _ _ _ _ _)
noncomputable def o_181 (P : Params) : Obj := (Obj.mk .none none (Data.fields #[]) #[])
noncomputable def o_184 (P : Params) : Obj := (fun (a : Arguments) (b : List Stmt) (s : Scope) (_ : IsFn (nth (clsB (nth B2 69)) 1) a b s) => (Obj.mk .none none (Data.func (FuncData.mk (Str.ofString "_convert_string_type") (Str.ofString "Headers._convert_string_type") a (FuncBody.stmts b) s 0 [] .none .none .none .none none .none .none 0)) #[])) _ _ _ (IsFn.mk _ _ _ _ _ _ _ _ _ _)
noncomputable def o_188 (P : Params) : Obj := (Obj.mk .none none (Data.fields #[]) #[])
noncomputable def o_191 (P : Params) : Obj := (fun (a : Arguments) (b : List Stmt) (s : Scope) (_ : IsFn (nth (clsB (nth B2 69)) 2) a b s) => (Obj.mk .none none (Data.func (FuncData.mk (Str.ofString "__len__") (Str.ofString "Headers.__len__") a (FuncBody.stmts b) s 0 [] .none .none .none .none none .none .none 0)) #[])) _ _ _ (IsFn.mk _ _ _ _ _ _ _ _ _ _)
noncomputable def o_195 (P : Params) : Obj := (Obj.mk .none none (Data.fields #[]) #[])
noncomputable def o_198 (P : Params) : Obj := (fun (a : Arguments) (b : List Stmt) (s : Scope) (_ : IsFn (nth (clsB (nth B2 69)) 3) a b s) => (Obj.mk .none none (Data.func (FuncData.mk (Str.ofString "__setitem__") (Str.ofString "Headers.__setitem__") a (FuncBody.stmts b) s 0 [] .none .none .none .none none .none .none 0)) #[])) _ _ _ (IsFn.mk _ _ _ _ _ _ _ _ _ _)
noncomputable def o_202 (P : Params) : Obj := (Obj.mk .none none (Data.fields #[]) #[])
noncomputable def o_203 (P : Params) : Obj := (fun (a : Arguments) (b : List Stmt) (s : Scope) (_ : IsFn (nth (clsB (nth B2 69)) 4) a b s) => (Obj.mk .none none (Data.func (FuncData.mk (Str.ofString "__delitem__") (Str.ofString "Headers.__delitem__") a (FuncBody.stmts b) s 0 [] .none .none .none .none none .none .none 0)) #[])) _ _ _ (IsFn.mk _ _ _ _ _ _ _ _ _ _)
noncomputable def o_207 (P : Params) : Obj := (Obj.mk .none none (Data.fields #[]) #[])
noncomputable def o_210 (P : Params) : Obj := (fun (a : Arguments) (b : List Stmt) (s : Scope) (_ : IsFn (nth (clsB (nth B2 69)) 5) a b s) => (Obj.mk .none none (Data.func (FuncData.mk (Str.ofString "__getitem__") (Str.ofString "Headers.__getitem__") a (FuncBody.stmts b) s 0 [] .none .none .none .none none .none .none 0)) #[])) _ _ _ (IsFn.mk _ _ _ _ _ _ _ _ _ _)
noncomputable def o_214 (P : Params) : Obj := (Obj.mk .none none (Data.fields #[]) #[])
noncomputable def o_217 (P : Params) : Obj := (fun (a : Arguments) (b : List Stmt) (s : Scope) (_ : IsFn (nth (clsB (nth B2 69)) 6) a b s) => (Obj.mk .none none (Data.func (FuncData.mk (Str.ofString "__contains__") (Str.ofString "Headers.__contains__") a (FuncBody.stmts b) s 0 [] .none .none .none .none none .none .none 0)) #[])) _ _ _ (IsFn.mk _ _ _ _ _ _ _ _ _ _)
noncomputable def o_221 (P : Params) : Obj := (Obj.mk .none none (Data.fields #[]) #[])
noncomputable def o_224 (P : Params) : Obj := (fun (a : Arguments) (b : List Stmt) (s : Scope) (_ : IsFn (nth (clsB (nth B2 69)) 7) a b s) => (Obj.mk .none none (Data.func (FuncData.mk (Str.ofString "get_all") (Str.ofString "Headers.get_all") a (FuncBody.stmts b) s 0 [] .none .none .none .none none .none .none 0)) #[])) _ _ _ (IsFn.mk _ _ _ _ _ _ _ _ _ _)
noncomputable def o_229 (P : Params) : Obj := (Obj.mk .none none (Data.fields #[]) #[])
noncomputable def o_232 (P : Params) : Obj := (fun (a : Arguments) (b : List Stmt) (s : Scope) (_ : IsFn (nth (clsB (nth B2 69)) 8) a b s) => (Obj.mk .none none (Data.func (FuncData.mk (Str.ofString "get") (Str.ofString "Headers.get") a (FuncBody.stmts b) s 0 [] .none .none .none .none none .none .none 0)) #[])) _ _ _ (IsFn.mk _ _ _ _ _ _ _ _ _ _)
noncomputable def o_236 (P : Params) : Obj := (Obj.mk .none none (Data.fields #[]) #[])
noncomputable def o_237 (P : Params) : Obj := (fun (a : Arguments) (b : List Stmt) (s : Scope) (_ : IsFn (nth (clsB (nth B2 69)) 9) a b s) => (Obj.mk .none none (Data.func (FuncData.mk (Str.ofString "keys") (Str.ofString "Headers.keys") a (FuncBody.stmts b) s 0 [] .none .none .none .none none .none .none 0)) #[])) _ _ _ (IsFn.mk _ _ _ _ _ _ _ _ _ _)
noncomputable def o_241 (P : Params) : Obj := (Obj.mk .none none (Data.fields #[]) #[])
noncomputable def o_242 (P : Params) : Obj := (fun (a : Arguments) (b : List Stmt) (s : Scope) (_ : IsFn (nth (clsB (nth B2 69)) 10) a b s) => (Obj.mk .none none (Data.func (FuncData.mk (Str.ofString "values") (Str.ofString "Headers.values") a (FuncBody.stmts b) s 0 [] .none .none .none .none none .none .none 0)) #[])) _ _ _ (IsFn.mk _ _ _ _ _ _ _ _ _ _)
noncomputable def o_246 (P : Params) : Obj := (Obj.mk .none none (Data.fields #[]) #[])
noncomputable def o_249 (P : Params) : Obj := (fun (a : Arguments) (b : List Stmt) (s : Scope) (_ : IsFn (nth (clsB (nth B2 69)) 11) a b s) => (Obj.mk .none none (Data.func (FuncData.mk (Str.ofString "items") (Str.ofString "Headers.items") a (FuncBody.stmts b) s 0 [] .none .none .none .none none .none .none 0)) #[])) _ _ _ (IsFn.mk _ _ _ _ _ _ _ _ _ _)
noncomputable def o_253 (P : Params) : Obj := (Obj.mk .none none (Data.fields #[]) #[])
noncomputable def o_256 (P : Params) : Obj := (fun (a : Arguments) (b : List Stmt) (s : Scope) (_ : IsFn (nth (clsB (nth B2 69)) 12) a b s) => (Obj.mk .none none (Data.func (FuncData.mk (Str.ofString "__repr__") (Str.ofString "Headers.__repr__") a (FuncBody.stmts b) s 0 [] .none .none .none .none none .none .none 0)) #[])) _ _ _ (IsFn.mk _ _ _ _ _ _ _ _ _ _)
noncomputable def o_260 (P : Params) : Obj := (Obj.mk .none none (Data.fields #[]) #[])
noncomputable def o_261 (P : Params) : Obj := (fun (a : Arguments) (b : List Stmt) (s : Scope) (_ : IsFn (nth (clsB (nth B2 69)) 13) a b s) => (Obj.mk .none none (Data.func (FuncData.mk (Str.ofString "__str__") (Str.ofString "Headers.__str__") a (FuncBody.stmts b) s 0 [] .none .none .none .none none .none .none 0)) #[])) _ _ _ (IsFn.mk _ _ _ _ _ _ _ _ _ _)
noncomputable def o_265 (P : Params) : Obj := (Obj.mk .none none (Data.fields #[]) #[])
noncomputable def o_268 (P : Params) : Obj := (fun (a : Arguments) (b : List Stmt) (s : Scope) (_ : IsFn (nth (clsB (nth B2 69)) 14) a b s) => (Obj.mk .none none (Data.func (FuncData.mk (Str.ofString "__bytes__") (Str.ofString "Headers.__bytes__") a (FuncBody.stmts b) s 0 [] .none .none .none .none none .none .none 0)) #[])) _ _ _ (IsFn.mk _ _ _ _ _ _ _ _ _ _)
noncomputable def o_272 (P : Params) : Obj := (Obj.mk .none none (Data.fields #[]) #[])
noncomputable def o_275 (P : Params) : Obj := (fun (a : Arguments) (b : List Stmt) (s : Scope) (_ : IsFn (nth (clsB (nth B2 69)) 15) a b s) => (Obj.mk .none none (Data.func (FuncData.mk (Str.ofString "setdefault") (Str.ofString "Headers.setdefault") a (FuncBody.stmts b) s 0 [] .none .none .none .none none .none .none 0)) #[])) _ _ _ (IsFn.mk _ _ _ _ _ _ _ _ _ _)
noncomputable def o_279 (P : Params) : Obj := (Obj.mk .none none (Data.fields #[]) #[])
noncomputable def o_282 (P : Params) : Obj := (fun (a : Arguments) (b : List Stmt) (s : Scope) (_ : IsFn (nth (clsB (nth B2 69)) 16) a b s) => (Obj.mk .none none (Data.func (FuncData.mk (Str.ofString "add_header") (Str.ofString "Headers.add_header") a (FuncBody.stmts b) s 0 [] .none .none .none .none none .none .none 0)) #[])) _ _ _ (IsFn.mk _ _ _ _ _ _ _ _ _ _)
noncomputable def o_290 (P : Params) : Obj := (Obj.mk (.type "super") none (Data.fields #[(.ref 232), (.ref 232), (.ref 232)]) #[])
noncomputable def o_291 (P : Params) : Obj := (Obj.mk (.type "builtin_function_or_method") none (Data.fields #[(.builtin "object.__init_subclass__"), (.ref 232)]) #[])
noncomputable def s0 (P : Params) : Heap := { objs := #[o_41 P, o_42 P, kAt P 2, o_44 P, o_45 P, o_46 P, o_47 P, o_48 P, o_49 P, o_50 P, o_51 P, o_52 P, o_53 P, o_54 P, o_55 P, o_56 P, o_57 P, o_58 P, o_59 P, o_60 P, o_61 P, o_62 P, o_63 P, o_64 P, o_65 P, o_66 P, o_67 P, o_68 P] }
noncomputable def s1 (P : Params) : Heap := { objs := #[o_41 P, o_42 P, kAt P 2, o_44 P, o_45 P, o_46 P, o_47 P, o_48 P, o_49 P, o_50 P, o_51 P, o_52 P, o_53 P, o_54 P, o_55 P, o_56 P, o_57 P, o_58 P, o_59 P, o_60 P, o_61 P, o_62 P, o_63 P, o_64 P, o_65 P, o_66 P, o_67 P, o_68 P, o_69 P, o_70 P, o_71 P, o_72 P] }
noncomputable def c0 (P : Params) : Heap := { objs := #[o_41 P, o_42 P, kAt P 2, o_108 P, o_45 P, o_46 P, o_47 P, o_48 P, o_49 P, o_50 P, o_51 P, o_52 P, o_53 P, o_54 P, o_55 P, o_56 P, o_57 P, o_58 P, o_59 P, o_60 P, o_61 P, o_62 P, o_63 P, o_64 P, o_65 P, o_66 P, o_67 P, o_68 P, o_69 P, o_76 P, o_71 P, o_72 P, kAt P 32, o_78 P, kAt P 34, kAt P 35, o_81 P, kAt P 37, kAt P 38, kAt P 39, o_85 P, kAt P 41, kAt P 42, o_88 P, kAt P 44, kAt P 45, o_91 P, o_92 P, o_93 P, kAt P 49, kAt P 50, o_96 P, o_97 P, o_98 P, kAt P 54, kAt P 55, kAt P 56, o_102 P, kAt P 58, kAt P 59, o_105 P, kAt P 61, kAt P 62] }
noncomputable def c1 (P : Params) : Heap := { objs := #[o_41 P, o_42 P, kAt P 2, o_110 P, o_45 P, o_46 P, o_47 P, o_48 P, o_49 P, o_50 P, o_51 P, o_52 P, o_53 P, o_54 P, o_55 P, o_56 P, o_57 P, o_58 P, o_59 P, o_60 P, o_61 P, o_62 P, o_63 P, o_64 P, o_65 P, o_66 P, o_67 P, o_68 P, o_69 P, o_76 P, o_71 P, o_72 P, kAt P 32, o_78 P, kAt P 34, kAt P 35, o_81 P, kAt P 37, kAt P 38, kAt P 39, o_85 P, kAt P 41, kAt P 42, o_88 P, kAt P 44, kAt P 45, o_91 P, o_92 P, o_93 P, kAt P 49, kAt P 50, o_96 P, o_97 P, o_98 P, kAt P 54, kAt P 55, kAt P 56, o_102 P, kAt P 58, kAt P 59, o_105 P, kAt P 61, kAt P 62, kAt P 63, o_112 P, o_113 P] }
noncomputable def c2 (P : Params) : Heap := { objs := #[o_41 P, o_42 P, kAt P 2, o_163 P, o_45 P, o_46 P, o_47 P, o_48 P, o_49 P, o_50 P, o_51 P, o_52 P, o_53 P, o_54 P, o_55 P, o_56 P, o_57 P, o_58 P, o_59 P, o_60 P, o_61 P, o_62 P, o_63 P, o_64 P, o_65 P, o_66 P, o_67 P, o_68 P, o_69 P, o_164 P, o_71 P, o_72 P, kAt P 32, o_78 P, kAt P 34, kAt P 35, o_81 P, kAt P 37, kAt P 38, kAt P 39, o_85 P, kAt P 41, kAt P 42, o_88 P, kAt P 44, kAt P 45, o_91 P, o_92 P, o_93 P, kAt P 49, kAt P 50, o_96 P, o_97 P, o_98 P, kAt P 54, kAt P 55, kAt P 56, o_102 P, kAt P 58, kAt P 59, o_105 P, kAt P 61, kAt P 62, kAt P 63, o_112 P, o_113 P, kAt P 66, o_120 P, kAt P 68, kAt P 69, o_123 P, kAt P 71, kAt P 72, kAt P 73, o_127 P, kAt P 75, kAt P 76, o_130 P, kAt P 78, kAt P 79, kAt P 80, o_134 P, kAt P 82, kAt P 83, o_137 P, kAt P 85, kAt P 86, o_140 P, o_141 P, o_142 P, kAt P 90, kAt P 91, o_145 P, o_146 P, o_147 P, kAt P 95, kAt P 96, o_150 P, o_151 P, o_152 P, kAt P 100, kAt P 101, kAt P 102, kAt P 103, o_157 P, kAt P 105, kAt P 106, o_160 P, kAt P 108, kAt P 109, o_165 P, o_166 P, o_167 P, o_168 P, o_169 P, o_170 P, o_171 P, kAt P 117, kAt P 118, o_174 P, kAt P 120, kAt P 121, o_177 P, kAt P 123, kAt P 124, kAt P 125, o_181 P, kAt P 127, kAt P 128, o_184 P, kAt P 130, kAt P 131, kAt P 132, o_188 P, kAt P 134, kAt P 135, o_191 P, kAt P 137, kAt P 138, kAt P 139, o_195 P, kAt P 141, kAt P 142, o_198 P, kAt P 144, kAt P 145, kAt P 146, o_202 P, o_203 P, kAt P 149, kAt P 150, kAt P 151, o_207 P, kAt P 153, kAt P 154, o_210 P, kAt P 156, kAt P 157, kAt P 158, o_214 P, kAt P 160, kAt P 161, o_217 P, kAt P 163, kAt P 164, kAt P 165, o_221 P, kAt P 167, kAt P 168, o_224 P, kAt P 170, kAt P 171, kAt P 172, kAt P 173, o_229 P, kAt P 175, kAt P 176, o_232 P, kAt P 178, kAt P 179, kAt P 180, o_236 P, o_237 P, kAt P 183, kAt P 184, kAt P 185, o_241 P, o_242 P, kAt P 188, kAt P 189, kAt P 190, o_246 P, kAt P 192, kAt P 193, o_249 P, kAt P 195, kAt P 196, kAt P 197, o_253 P, kAt P 199, kAt P 200, o_256 P, kAt P 202, kAt P 203, kAt P 204, o_260 P, o_261 P, kAt P 207, kAt P 208, kAt P 209, o_265 P, kAt P 211, kAt P 212, o_268 P, kAt P 214, kAt P 215, kAt P 216, o_272 P, kAt P 218, kAt P 219, o_275 P, kAt P 221, kAt P 222, kAt P 223, o_279 P, kAt P 225, kAt P 226, o_282 P, kAt P 228, kAt P 229, kAt P 230, kAt P 231, kAt P 232, kAt P 233, kAt P 234, o_290 P, o_291 P] }
noncomputable def env2 : Env := { scope := P2.main.scope, locals := mainNs, globals := mainNs, cells := [], code := .ref 30, frame := some 31 }
noncomputable abbrev body2 : List Stmt := behindTheImports P2
noncomputable abbrev p00 : Pos := ⟨0, 0, 0, 0⟩
noncomputable abbrev code2 : Code := .body body2 env2
theorem open2 (w : World) : (fencedOpening treeTable P2 w 6202).map (fun s => (s.heap, s.gens, s.drawn, s.toks)) = some (s0 w.params, #[], {}, 276) := by
  unfold fencedOpening opening
  rw [PySem.W.Fast.te10274390034422433532, PySem.W.Fast.te14289696077712309145, PySem.W.Fast.te1435165496053646825, PySem.W.Fast.te14364793385576792824]
  kernel_rfl
theorem size2 (w : World) : ((s0 w.params).isNs mainGlobals && (#[] : Array GenState).size == 0, (s0 w.params).objs.size, (s0 w.params).nsMap mainGlobals "__annotations__") = (true, 28, some (.ref 6)) := by
  kernel_rfl
theorem go2 (w : World) (os : OsState) : topGo treeTable P2 w 28 (some (.ref 6)) 12 ⟨s0 w.params, #[], {}, 276, os⟩ (topStub P2) = some (⟨s1 w.params, #[], {}, 282, os⟩, ⟨denote treeTable (.body body2 env2), code2, p00, [topFrame p00]⟩) := by
  kernel_rfl
theorem blk2 (w : World) (os : OsState) : segRun treeTable P2 w 28 (some (.ref 6)) 1 1 ⟨s1 w.params, #[], {}, 282, os⟩ (blockOf body2 env2 code2 p00 [topFrame p00]) = some (.next, ⟨s1 w.params, #[], {}, 282, os⟩, code2, p00) := by
  kernel_rfl
noncomputable abbrev pos0 : Pos := ⟨70, 0, 70, 9⟩
noncomputable abbrev rest0 : List Stmt := body2.drop 59
theorem seg0 (w : World) : ∀ os : OsState, segRun treeTable P2 w 28 (some (.ref 6)) 1 1500 ⟨s1 (w).params, #[], {}, 282, os⟩ (piecesOf (body2.take 59) env2 code2 p00 [topFrame p00]) = some (.next, ⟨c0 (w).params, #[], {}, 471, os⟩, code2, pos0) := by
  rw [PySem.W.Fast.te14364793385576792824, PySem.W.Fast.te14374325043358763698]
  intro os
  kernel_rfl
noncomputable abbrev pos1 : Pos := ⟨71, 0, 71, 17⟩
noncomputable abbrev rest1 : List Stmt := rest0.drop 1
noncomputable def seg1P (w : World) : Prop := ∀ os : OsState, segRun treeTable P2 w 28 (some (.ref 6)) 1 1500 ⟨c0 (w).params, #[], {}, 471, os⟩ (piecesOf (rest0.take 1) env2 code2 pos0 [topFrame p00]) = some (.next, ⟨c1 (w).params, #[], {}, 568, os⟩, code2, pos1)
theorem seg1f (w : World) : seg1P (w.withFollow "special-get-raises" false) := by
  unfold seg1P
  rw [PySem.W.Fast.te14364793385576792824, PySem.W.Fast.te14374325043358763698]
  intro os
  kernel_rfl
theorem seg1t (w : World) : seg1P (w.withFollow "special-get-raises" true) := by
  unfold seg1P
  rw [PySem.W.Fast.te14364793385576792824, PySem.W.Fast.te14374325043358763698]
  intro os
  kernel_rfl
theorem seg1 (w : World) : seg1P w := byRow2 "special-get-raises" (P := seg1P) seg1f seg1t w
noncomputable abbrev pos2 : Pos := ⟨91, 0, 171, 93⟩
noncomputable abbrev rest2 : List Stmt := rest1.drop 9
theorem seg2 (w : World) : ∀ os : OsState, segRun treeTable P2 w 28 (some (.ref 6)) 1 1500 ⟨c1 (w).params, #[], {}, 568, os⟩ (piecesOf (rest1.take 9) env2 code2 pos1 [topFrame p00]) = some (.next, ⟨c2 (w).params, #[], {}, 854, os⟩, code2, pos2) := by
  rw [PySem.W.Fast.te14364793385576792824, PySem.W.Fast.te14374325043358763698]
  intro os
  kernel_rfl
theorem fin2 (w : World) (os : OsState) : ((topRun treeTable P2 w 28 (some (.ref 6)) 1500 ⟨c2 w.params, #[], {}, 854, os⟩ (restOf rest2 env2 code2 pos2 [topFrame p00])).bind (fun s₁ => match staticsOk (importedModules P2.main.body) (s0 w.params) s₁.heap && namesBound P2 s₁.heap && gensDone s₁ && laidKept (s0 w.params) s₁.heap with
      | true => some s₁
      | false => none)).map (fun s => (openSeen hd02.view_39 loose2 (importedModules P2.main.body) (fun s => xlAt hd02.view_39 [] s && recOk (RowW.records PySem.Challenge.rw_sr0074_02.row.toRowW) s) true s, as2.map s.heap.get?)) = some (openGood hd02.view_39 loose2, (hd02.heap_39 w.params).map fun p => some p.2) := by
  rw [PySem.W.Fast.te14082659384304107361, PySem.W.Fast.te4187177175401517315, PySem.W.Fast.te14364793385576792824, PySem.W.Fast.te5923862056798008813]
  kernel_rfl
theorem left2 : LeftO P2 hd02.view_39 loose2 (fun s => xlAt hd02.view_39 [] s && recOk (RowW.records PySem.Challenge.rw_sr0074_02.row.toRowW) s) (fun s => as2.map s.heap.get?) (fun w => (hd02.heap_39 w.params).map fun p => some p.2) 6202 := fun w => by
  obtain ⟨⟨h, gs, d, k, os⟩, e, e'⟩ := Option.map_eq_some_iff.mp (open2 w)
  obtain ⟨rfl, rfl, rfl, rfl⟩ : h = s0 w.params ∧ gs = #[] ∧ d = {} ∧ k = 276 := by simpa using e'
  obtain ⟨z1, z2, z3⟩ : _ ∧ _ ∧ _ := by simpa only [Prod.mk.injEq] using size2 w
  obtain ⟨s₁, f1, f2⟩ := Option.map_eq_some_iff.mp (fin2 w os)
  obtain ⟨r, r1, r2⟩ := Option.bind_eq_some_iff.mp f1
  have p2 := piece_app (seg2 w os) r1
  have hb2 : rest1.take 9 ++ rest1.drop 9 = rest1 := List.take_append_drop _ _
  rw [hb2] at p2
  have p1 := piece_app (seg1 w os) p2
  have hb1 : rest0.take 1 ++ rest0.drop 1 = rest0 := List.take_append_drop _ _
  rw [hb1] at p1
  have p0 := piece_app (seg0 w os) p1
  have hb0 : body2.take 59 ++ body2.drop 59 = body2 := List.take_append_drop _ _
  rw [hb0] at p0
  have p1 := p0
  have run := topRun_mono (6202 - (12 + (1 + (1500 + (1500 + (1500 + 1500)))))) _ _ _ _ (go_top (go2 w os) (piece_block (blk2 w os) p1))
  have t : topFrom treeTable P2 w 6202 ⟨s0 w.params, #[], {}, 276, os⟩ = some s₁ := by
    unfold topFrom
    dsimp only
    rw [z1, z2, z3]
    have run' : topRun treeTable P2 w 28 (some (.ref 6)) 6202 ⟨s0 w.params, #[], {}, 276, os⟩ (topStub P2) = some r := run
    show (topRun treeTable P2 w 28 (some (.ref 6)) 6202 ⟨s0 w.params, #[], {}, 276, os⟩ (topStub P2)).bind _ = _
    rw [run']
    exact r2
  unfold openEnds
  rw [e]
  show (topFrom treeTable P2 w 6202 _).map _ = _
  rw [t]
  exact congrArg some f2
/-- what the head asks of the text -/
theorem said2 : PySem.Challenge.rw_sr0074_02.wellSaid = true := by
  rw [PySem.W.Fast.te9446332074065402090]
  kernel_rfl
theorem oks2 : (chainsOk hd02.view_39 && opensWell PySem.Challenge.rw_sr0074_02.row.prog && (frees PySem.Challenge.rw_sr0074_02.row.toRowW && PySem.Challenge.rw_sr0074_02.row.within.isEmpty)) = true := by
  decide +kernel
theorem wit2 : PySem.Challenge.rw_sr0074_02.row.toRowW.promised := by
  w_witness2
theorem bare2 : PySem.Challenge.rw_sr0074_02.row.prog.bare := ⟨rfl, rfl, rfl, rfl, rfl, by decide +kernel⟩
end HD
end Mine
end PartHD_02
local macro_rules | `(tactic| walk_at $s:str) => do `(tactic| k_extra $(Lean.Syntax.mkStrLit ("w " ++ s.getString)))
local macro_rules | `(tactic| k_room) => `(tactic| k_extra "k_room")
local macro_rules | `(tactic| k_ne) => `(tactic| k_extra "k_ne")
local macro_rules | `(tactic| k_all) => `(tactic| k_extra "k_all")
local macro_rules | `(tactic| k_enter) => `(tactic| first | (k_extra "ent S"; k_whole; intro g' L' h' FG' F' N' B' X' T' D'; (try dsimp only); (try k_lift B'); (try k_fold)) | (k_extra "ent D"; k_whole; intro g' L' h' FG' F' N' B' X' T'; (try dsimp only); (try k_lift B'); (try k_fold)) | (k_extra "ent C"; k_whole; intro g' L' h' tk' cells' FG' F' N' Y' B' X' T' l1; (try k_lt l1); k_cells Y'; (try simp only [List.cons_append, List.nil_append] at N'); (try dsimp only); (try k_lift B'); (try k_fold)))
section PartMB2
open PySem PySem.W PyProof.Rows PySem.Spec PySem.Calls

set_option maxRecDepth 100000
namespace Mine
noncomputable abbrev Led := List (Addr × Obj)
/-- a halt of the walk -/
noncomputable def Halt (P : Prop) : Prop := P
theorem halt {P : Prop} (h : Halt P) : P := h
theorem unhalt {P : Prop} (h : P) : Halt P := h
/-- a call of a def at `f`: what it may rely on, what it hands back -/
noncomputable def Tell (prog : Program) (w : World) (K : Frag) (p : Program) (loose : List Str) (mean : ExcName → Option Value) (mg mb : Str → Option Value) (f : Addr) (vs : List Value) (news : Led) (dep uns : Nat)
    (Base : Heap → Prop) (Ret : (Led → (Value → Prop) → Prop) → Prop) : Prop :=
  ∀ (dp un : Nat) (gd : Option (List Code)) (cn : Str) (cs : Scope) (a : Addr) (ccd : Value) (cl : List (Str × Addr)) (outer : List Env) (A₀ : Around) (base h₀ : Heap) (L : Addr) (m : Str → Option Value) (s : Shared) (Q E : Value → Shared → Prop),
    Below A₀ base outer h₀ → Fr h₀ L s.heap m → K.In h₀ → News h₀ L s.heap news → Top p loose mean mg mb h₀ → cs.kind = .function → Base base → dp + dep < recursionLimit → un + uns < cLine →
    (Ret fun news' good => ∀ r h' tk', good r → Fr h₀ L h' m → News h₀ L h' news' → Q r { s with heap := h', toks := tk' }) →
    wpAny (model prog w) (ktrTop dp un gd cn cs L a ccd cl outer) (call (.ref f) vs) Q E s
theorem Tell.use {prog : Program} {w : World} {K : Frag} {p : Program} {loose : List Str} {mean : ExcName → Option Value} {mg mb : Str → Option Value} {f : Addr} {vs : List Value} {news : Led} {dep uns : Nat}
    {Base : Heap → Prop} {Ret : (Led → (Value → Prop) → Prop) → Prop} (C : Tell prog w K p loose mean mg mb f vs news dep uns Base Ret)
    {dp un : Nat} {gd : Option (List Code)} {cn : Str} {cs : Scope} {a : Addr} {ccd : Value} {cl : List (Str × Addr)} {outer : List Env} {A₀ : Around} {base h₀ : Heap} {L : Addr} {m : Str → Option Value} {s : Shared} {Q E : Value → Shared → Prop}
    (B : Below A₀ base outer h₀) (F : Fr h₀ L s.heap m) (X : K.In h₀) (N : News h₀ L s.heap news) (T : Top p loose mean mg mb h₀) (hk : cs.kind = .function) (hb : Base base) (hd : dp + dep < recursionLimit) (hu : un + uns < cLine)
    (ret : Ret fun news' good => ∀ r h' tk', good r → Fr h₀ L h' m → News h₀ L h' news' → Q r { s with heap := h', toks := tk' }) :
    wpAny (model prog w) (ktrTop dp un gd cn cs L a ccd cl outer) (call (.ref f) vs) Q E s := C _ _ _ _ _ _ _ _ _ _ _ _ _ _ _ _ _ B F X N T hk hb hd hu ret
noncomputable def Off (a : Addr) (news : Led) : Prop := ∀ p ∈ news, p.1 ≠ a
theorem Off.of1 {a : Addr} : ∀ {news : Led}, LCg.Off1 a news → Off a news
  | [], _ => fun _ h => nomatch h
  | _ :: _, h => fun p hp => by
    rcases List.mem_cons.mp hp with rfl | hp
    · exact h.1
    · exact Off.of1 h.2 p hp
theorem off1_of {a : Addr} : ∀ {news : Led}, Off a news → LCg.Off1 a news
  | [], _ => trivial
  | _ :: _, h => ⟨h _ (.head _), off1_of fun p hp => h p (.tail _ hp)⟩

section
variable {prog : Program} {w : World} {A : Around} {h₀ : Heap} {L : Addr} {m : Str → Option Value} {env : Env} {elt ct : Expr} {x : Str} {scope : Scope} {cl : List (Str × Addr)} {s : Shared} {S : Led → Prop} {P : Nat → Value → Prop} {Fin : List Value → Led → Prop}
/-- a comprehension's turns by an invariant -/
theorem comp_inv (J : Nat → List Value → Led → Prop) (n : Nat)
    (turn : ∀ i v I oI C oC D m₂ h tk ys nw (E' : Value → Shared → Prop), i < n → P i v → J i ys nw → LCg.NsObj oC m₂ → m₂ x = some v → Fr h₀ L h m → News h₀ L h ((I, oI) :: (C, oC) :: (D, LCg.lst ys) :: nw) → LCg.Off3 I C D nw → ((@Ne Nat I C) ∧ (@Ne Nat I D) ∧ (@Ne Nat C D)) →
      wpAny (model prog w) A (eval elt (compEnvC scope cl C env)) (LCg.CompEnd h₀ L m { s with heap := h, toks := tk } I oI C oC D (LCg.lst ys) S (fun y nw' => J (i + 1) (ys ++ [y]) nw')) E' { s with heap := h, toks := tk })
    (fin : ∀ ys nw, J n ys nw → Fin ys nw) : ∀ k i ys nw, i + k = n → J i ys nw → LCg.CompRest prog w A h₀ L m env elt x scope cl s S P Fin k i ys nw := by
  intro k
  induction k with
  | zero =>
    intro i ys nw e hJ
    exact fin ys nw (by rw [Nat.add_zero] at e; exact e ▸ hJ)
  | succ k ih =>
    intro i ys nw e hJ
    intro v I oI C oC D m₂ h tk E' hP hC hx F N off ne
    refine wpAny_mono (turn i v I oI C oC D m₂ h tk ys nw E' (by lia) hP hJ hC hx F N off ne) (fun y s₂ q => ?_) fun _ _ e => e
    obtain ⟨h', tk', nw', es, F', N', off', hS, hJ'⟩ := q
    exact ⟨h', tk', nw', es, F', N', off', hS, ih (i + 1) _ _ (by lia) hJ'⟩
theorem comp_invT (J : Nat → List Value → Led → Prop) (n : Nat)
    (turn : ∀ i v I oI C oC D m₂ h tk ys nw (E' : Value → Shared → Prop), i < n → P i v → J i ys nw → LCg.NsObj oC m₂ → m₂ x = some v → Fr h₀ L h m → News h₀ L h ((I, oI) :: (C, oC) :: (D, LCg.lst ys) :: nw) → LCg.Off3 I C D nw → ((@Ne Nat I C) ∧ (@Ne Nat I D) ∧ (@Ne Nat C D)) →
      wpAny (model prog w) A (isTrue ct (compEnvC scope cl C env) (eval ct (compEnvC scope cl C env))) (fun ok s' => if ok = true then
        wpAny (model prog w) A (eval elt (compEnvC scope cl C env)) (LCg.CompEnd h₀ L m { s with heap := h, toks := tk } I oI C oC D (LCg.lst ys) S (fun y nw' => J (i + 1) (ys ++ [y]) nw')) E' s'
        else LCg.CompEnd h₀ L m { s with heap := h, toks := tk } I oI C oC D (LCg.lst ys) S (fun _ nw' => J (i + 1) ys nw') Value.none s') E' { s with heap := h, toks := tk })
    (fin : ∀ ys nw, J n ys nw → Fin ys nw) : ∀ k i ys nw, i + k = n → J i ys nw → LCt.CompRestT prog w A h₀ L m env ct elt x scope cl s S P Fin k i ys nw := by
  intro k
  induction k with
  | zero =>
    intro i ys nw e hJ
    exact fin ys nw (by rw [Nat.add_zero] at e; exact e ▸ hJ)
  | succ k ih =>
    intro i ys nw e hJ
    intro v I oI C oC D m₂ h tk E' hP hC hx F N off ne
    refine wpAny_mono (turn i v I oI C oC D m₂ h tk ys nw E' (by lia) hP hJ hC hx F N off ne) (fun ok s₂ q => ?_) fun _ _ e => e
    cases ok with
    | true =>
      simp only [if_true] at q ⊢
      refine wpAny_mono q (fun y s₃ q => ?_) fun _ _ e => e
      obtain ⟨h', tk', nw', es, F', N', off', hS, hJ'⟩ := q
      exact ⟨h', tk', nw', es, F', N', off', hS, ih (i + 1) _ _ (by lia) hJ'⟩
    | false =>
      simp only [Bool.false_eq_true, if_false] at q ⊢
      obtain ⟨h', tk', nw', es, F', N', off', hS, hJ'⟩ := q
      exact ⟨h', tk', nw', es, F', N', off', hS, ih (i + 1) _ _ (by lia) hJ'⟩
/-- over a list of ints: each turn makes an int -/
theorem comp_ints {vs : List Value} {ns : List Int} (hi : IntsAre vs ns) (news : Led) (C : Int → Int → Prop)
    (turn : ∀ n t I oI Cn oC D m₂ h tk ys (E' : Value → Shared → Prop), n ∈ ns → LCg.NsObj oC m₂ → m₂ x = some (.int n t) → Fr h₀ L h m → News h₀ L h ((I, oI) :: (Cn, oC) :: (D, LCg.lst ys) :: news) → LCg.Off3 I Cn D news → ((@Ne Nat I Cn) ∧ (@Ne Nat I D) ∧ (@Ne Nat Cn D)) →
      wpAny (model prog w) A (eval elt (compEnvC scope cl Cn env)) (LCg.CompEnd h₀ L m { s with heap := h, toks := tk } I oI Cn oC D (LCg.lst ys) S (fun y nw' => nw' = news ∧ ∃ c t', y = .int c t' ∧ C n c)) E' { s with heap := h, toks := tk })
    (fin : ∀ ys cs, IntsAre ys cs → cs.length = ns.length → (∀ c ∈ cs, ∃ n ∈ ns, C n c) → Fin ys news) :
    LCg.CompRest prog w A h₀ L m env elt x scope cl s S (fun i v => vs.toArray[i]? = some v) Fin vs.toArray.size 0 [] news := by
  refine comp_inv (fun i ys nw => nw = news ∧ ∃ cs, IntsAre ys cs ∧ cs.length = i ∧ ∀ c ∈ cs, ∃ n ∈ ns, C n c) vs.toArray.size ?_ ?_ _ 0 [] news (by lia) ⟨rfl, [], .nil, rfl, fun _ h => nomatch h⟩
  · rintro i v I oI Cn oC D m₂ h tk ys nw E' hin hv ⟨rfl, cs, hcs, hl, hC⟩ ho hx F N off ne
    have hlt : i < ns.length := by rw [← hi.length]; simpa using hin
    obtain ⟨t, ht⟩ := hi.get i ns[i] (by simp [hlt])
    have ev : v = .int ns[i] t := by
      have : vs[i]? = some v := by simpa using hv
      rw [ht] at this; exact (Option.some.inj this).symm
    subst ev
    refine wpAny_mono (turn _ t I oI Cn oC D m₂ h tk ys E' (List.getElem_mem hlt) ho hx F N off ne) (fun y s₂ q => ?_) fun _ _ e => e
    obtain ⟨h', tk', nw', es, F', N', off', hS, rfl, c, t', rfl, hc⟩ := q
    refine ⟨h', tk', nw', es, F', N', off', hS, rfl, cs ++ [c], ?_, by simp [hl], ?_⟩
    · exact IntsAre.append hcs (.cons _ _ .nil)
    · intro d hd
      rcases List.mem_append.mp hd with hd | hd
      · exact hC d hd
      · rw [List.mem_singleton.mp hd]; exact ⟨_, List.getElem_mem hlt, hc⟩
  · rintro ys nw ⟨rfl, cs, hcs, hl, hC⟩
    exact fin ys cs hcs (by rw [hl, ← hi.length]; simp) hC
end
/-- the end of a walk, kept out of the way: it is said once -/
theorem hideI {α : Type} {M : Model} {A : Around} {m : Sem α} {Q : α → Shared → Prop} {E : Value → Shared → Prop} {s : Shared} (h : ∀ Q', (∀ v s, Q v s → Q' v s) → wpAny M A m Q' E s) : wpAny M A m Q E s := h Q (fun _ _ x => x)
/-- a part of a walk that ends in one value and leaves the ledger as it was -/
theorem wp_join {prog : Program} {w : World} {A : Around} {x : Sem Value} {Q : Value → Shared → Prop} {E : Value → Shared → Prop} {s : Shared} {g : Heap} {L : Addr} {m : Str → Option Value} {led : List (Addr × Obj)} (V : Value → Prop) (_ : Fr g L s.heap m) (_ : News g L s.heap led)
    (h1 : wpAny (model prog w) A x (fun v s' => ∃ h' tk', V v ∧ s' = { s with heap := h', toks := tk' } ∧ Fr g L h' m ∧ News g L h' led) E s)
    (h2 : ∀ v h' tk', V v → Fr g L h' m → News g L h' led → Q v { s with heap := h', toks := tk' }) : wpAny (model prog w) A x Q E s :=
  wpAny_mono h1 (fun v s' hs => by obtain ⟨h', tk', hV, e, F', N'⟩ := hs; exact e ▸ h2 v h' tk' hV F' N') (fun _ _ e => e)
/-- what two ways share is proved once: the ways say what it is -/
theorem fork {g : Heap} {L : Addr} {M : Tok → Str → Option Value} {led : List (Addr × Obj)} {G : Heap → Nat → Prop} {B : Prop} (j : ∀ (h : Heap) (tk : Nat) (t : Tok), Fr g L h (M t) → News g L h led → G h tk) (b : (∀ (h : Heap) (tk : Nat) (t : Tok), Fr g L h (M t) → News g L h led → G h tk) → B) : B := b j
theorem toks_var {α : Type} {M : Model} {A : Around} {x : Sem α} {Q : α → Shared → Prop} {E : Value → Shared → Prop} {h : Heap} {a : Array GenState} {b : Drawn} {t : Nat} {c : OsState} (h' : ∀ z, wpAny M A x Q E ⟨h, a, b, z, c⟩) : wpAny M A x Q E ⟨h, a, b, t, c⟩ := h' t
/-! one ordering or one difference out of a long conjunction, by its place -/
theorem ltA0 {a b : Nat} {r : Prop} (h : a < b ∧ r) : a ≠ b := Nat.ne_of_lt h.1
theorem neA0 {a b : Nat} {r : Prop} (h : a ≠ b ∧ r) : a ≠ b := h.1
theorem ltA1 {a b : Nat} {p0 : Prop} {r : Prop} (h : p0 ∧ a < b ∧ r) : a ≠ b := Nat.ne_of_lt h.2.1
theorem neA1 {a b : Nat} {p0 : Prop} {r : Prop} (h : p0 ∧ a ≠ b ∧ r) : a ≠ b := h.2.1
theorem ltA2 {a b : Nat} {p0 p1 : Prop} {r : Prop} (h : p0 ∧ p1 ∧ a < b ∧ r) : a ≠ b := Nat.ne_of_lt h.2.2.1
theorem neA2 {a b : Nat} {p0 p1 : Prop} {r : Prop} (h : p0 ∧ p1 ∧ a ≠ b ∧ r) : a ≠ b := h.2.2.1
theorem ltA3 {a b : Nat} {p0 p1 p2 : Prop} {r : Prop} (h : p0 ∧ p1 ∧ p2 ∧ a < b ∧ r) : a ≠ b := Nat.ne_of_lt h.2.2.2.1
theorem neA3 {a b : Nat} {p0 p1 p2 : Prop} {r : Prop} (h : p0 ∧ p1 ∧ p2 ∧ a ≠ b ∧ r) : a ≠ b := h.2.2.2.1
theorem ltA4 {a b : Nat} {p0 p1 p2 p3 : Prop} {r : Prop} (h : p0 ∧ p1 ∧ p2 ∧ p3 ∧ a < b ∧ r) : a ≠ b := Nat.ne_of_lt h.2.2.2.2.1
theorem neA4 {a b : Nat} {p0 p1 p2 p3 : Prop} {r : Prop} (h : p0 ∧ p1 ∧ p2 ∧ p3 ∧ a ≠ b ∧ r) : a ≠ b := h.2.2.2.2.1
theorem ltA5 {a b : Nat} {p0 p1 p2 p3 p4 : Prop} {r : Prop} (h : p0 ∧ p1 ∧ p2 ∧ p3 ∧ p4 ∧ a < b ∧ r) : a ≠ b := Nat.ne_of_lt h.2.2.2.2.2.1
theorem neA5 {a b : Nat} {p0 p1 p2 p3 p4 : Prop} {r : Prop} (h : p0 ∧ p1 ∧ p2 ∧ p3 ∧ p4 ∧ a ≠ b ∧ r) : a ≠ b := h.2.2.2.2.2.1
theorem ltA6 {a b : Nat} {p0 p1 p2 p3 p4 p5 : Prop} {r : Prop} (h : p0 ∧ p1 ∧ p2 ∧ p3 ∧ p4 ∧ p5 ∧ a < b ∧ r) : a ≠ b := Nat.ne_of_lt h.2.2.2.2.2.2.1
theorem neA6 {a b : Nat} {p0 p1 p2 p3 p4 p5 : Prop} {r : Prop} (h : p0 ∧ p1 ∧ p2 ∧ p3 ∧ p4 ∧ p5 ∧ a ≠ b ∧ r) : a ≠ b := h.2.2.2.2.2.2.1
theorem ltA7 {a b : Nat} {p0 p1 p2 p3 p4 p5 p6 : Prop} {r : Prop} (h : p0 ∧ p1 ∧ p2 ∧ p3 ∧ p4 ∧ p5 ∧ p6 ∧ a < b ∧ r) : a ≠ b := Nat.ne_of_lt h.2.2.2.2.2.2.2.1
theorem neA7 {a b : Nat} {p0 p1 p2 p3 p4 p5 p6 : Prop} {r : Prop} (h : p0 ∧ p1 ∧ p2 ∧ p3 ∧ p4 ∧ p5 ∧ p6 ∧ a ≠ b ∧ r) : a ≠ b := h.2.2.2.2.2.2.2.1
theorem ltA8 {a b : Nat} {p0 p1 p2 p3 p4 p5 p6 p7 : Prop} {r : Prop} (h : p0 ∧ p1 ∧ p2 ∧ p3 ∧ p4 ∧ p5 ∧ p6 ∧ p7 ∧ a < b ∧ r) : a ≠ b := Nat.ne_of_lt h.2.2.2.2.2.2.2.2.1
theorem neA8 {a b : Nat} {p0 p1 p2 p3 p4 p5 p6 p7 : Prop} {r : Prop} (h : p0 ∧ p1 ∧ p2 ∧ p3 ∧ p4 ∧ p5 ∧ p6 ∧ p7 ∧ a ≠ b ∧ r) : a ≠ b := h.2.2.2.2.2.2.2.2.1
theorem ltA9 {a b : Nat} {p0 p1 p2 p3 p4 p5 p6 p7 p8 : Prop} {r : Prop} (h : p0 ∧ p1 ∧ p2 ∧ p3 ∧ p4 ∧ p5 ∧ p6 ∧ p7 ∧ p8 ∧ a < b ∧ r) : a ≠ b := Nat.ne_of_lt h.2.2.2.2.2.2.2.2.2.1
theorem neA9 {a b : Nat} {p0 p1 p2 p3 p4 p5 p6 p7 p8 : Prop} {r : Prop} (h : p0 ∧ p1 ∧ p2 ∧ p3 ∧ p4 ∧ p5 ∧ p6 ∧ p7 ∧ p8 ∧ a ≠ b ∧ r) : a ≠ b := h.2.2.2.2.2.2.2.2.2.1
theorem ltA10 {a b : Nat} {p0 p1 p2 p3 p4 p5 p6 p7 p8 p9 : Prop} {r : Prop} (h : p0 ∧ p1 ∧ p2 ∧ p3 ∧ p4 ∧ p5 ∧ p6 ∧ p7 ∧ p8 ∧ p9 ∧ a < b ∧ r) : a ≠ b := Nat.ne_of_lt h.2.2.2.2.2.2.2.2.2.2.1
theorem neA10 {a b : Nat} {p0 p1 p2 p3 p4 p5 p6 p7 p8 p9 : Prop} {r : Prop} (h : p0 ∧ p1 ∧ p2 ∧ p3 ∧ p4 ∧ p5 ∧ p6 ∧ p7 ∧ p8 ∧ p9 ∧ a ≠ b ∧ r) : a ≠ b := h.2.2.2.2.2.2.2.2.2.2.1
theorem ltA11 {a b : Nat} {p0 p1 p2 p3 p4 p5 p6 p7 p8 p9 p10 : Prop} {r : Prop} (h : p0 ∧ p1 ∧ p2 ∧ p3 ∧ p4 ∧ p5 ∧ p6 ∧ p7 ∧ p8 ∧ p9 ∧ p10 ∧ a < b ∧ r) : a ≠ b := Nat.ne_of_lt h.2.2.2.2.2.2.2.2.2.2.2.1
theorem neA11 {a b : Nat} {p0 p1 p2 p3 p4 p5 p6 p7 p8 p9 p10 : Prop} {r : Prop} (h : p0 ∧ p1 ∧ p2 ∧ p3 ∧ p4 ∧ p5 ∧ p6 ∧ p7 ∧ p8 ∧ p9 ∧ p10 ∧ a ≠ b ∧ r) : a ≠ b := h.2.2.2.2.2.2.2.2.2.2.2.1
theorem ltA12 {a b : Nat} {p0 p1 p2 p3 p4 p5 p6 p7 p8 p9 p10 p11 : Prop} {r : Prop} (h : p0 ∧ p1 ∧ p2 ∧ p3 ∧ p4 ∧ p5 ∧ p6 ∧ p7 ∧ p8 ∧ p9 ∧ p10 ∧ p11 ∧ a < b ∧ r) : a ≠ b := Nat.ne_of_lt h.2.2.2.2.2.2.2.2.2.2.2.2.1
theorem neA12 {a b : Nat} {p0 p1 p2 p3 p4 p5 p6 p7 p8 p9 p10 p11 : Prop} {r : Prop} (h : p0 ∧ p1 ∧ p2 ∧ p3 ∧ p4 ∧ p5 ∧ p6 ∧ p7 ∧ p8 ∧ p9 ∧ p10 ∧ p11 ∧ a ≠ b ∧ r) : a ≠ b := h.2.2.2.2.2.2.2.2.2.2.2.2.1
theorem ltA13 {a b : Nat} {p0 p1 p2 p3 p4 p5 p6 p7 p8 p9 p10 p11 p12 : Prop} {r : Prop} (h : p0 ∧ p1 ∧ p2 ∧ p3 ∧ p4 ∧ p5 ∧ p6 ∧ p7 ∧ p8 ∧ p9 ∧ p10 ∧ p11 ∧ p12 ∧ a < b ∧ r) : a ≠ b := Nat.ne_of_lt h.2.2.2.2.2.2.2.2.2.2.2.2.2.1
theorem neA13 {a b : Nat} {p0 p1 p2 p3 p4 p5 p6 p7 p8 p9 p10 p11 p12 : Prop} {r : Prop} (h : p0 ∧ p1 ∧ p2 ∧ p3 ∧ p4 ∧ p5 ∧ p6 ∧ p7 ∧ p8 ∧ p9 ∧ p10 ∧ p11 ∧ p12 ∧ a ≠ b ∧ r) : a ≠ b := h.2.2.2.2.2.2.2.2.2.2.2.2.2.1
end Mine
end PartMB2
section PartML
open PySem PySem.W PyProof.Rows PySem.Spec PySem.Calls PyProof.V

set_option maxRecDepth 100000
namespace Mine
/-- a loop's state: objects that it turns (at fixed places), names, data -/
noncomputable def LS {σ : Type} (Mu : σ → Led) (ps : σ → List (Str × Value)) (Facts : Led → σ → Prop) (x : Str) (stored : List Str) (m₀ : Str → Option Value) (P : Nat → σ → Prop) (adr : List Addr) (news : Led) (i : Nat) (m : Str → Option Value) (nx : Led) : Prop :=
  ∃ c nw, nx = Mu c ++ nw ∧ (Mu c).map (·.1) = adr ∧ OwnOff nw adr ∧ (∀ p ∈ news, p ∈ nw) ∧ Facts nw c ∧ (∀ p ∈ ps c, m p.1 = some p.2) ∧ (∀ z, z ≠ x → (∀ p ∈ ps c, z ≠ p.1) → stored.contains z = false → m z = m₀ z) ∧ P i c
theorem ownOff_app {own a b : Led} {l : List Addr} : OwnOff own (l ++ (a ++ b).map (·.1)) → OwnOff own l ∧ OwnOff own (a.map (·.1)) ∧ OwnOff own (b.map (·.1)) := fun h =>
  ⟨fun p hp q hq => h p hp q (List.mem_append.mpr (.inl hq)), fun p hp q hq => h p hp q (List.mem_append.mpr (.inr (by rw [List.map_append]; exact List.mem_append.mpr (.inl hq)))),
    fun p hp q hq => h p hp q (List.mem_append.mpr (.inr (by rw [List.map_append]; exact List.mem_append.mpr (.inr hq))))⟩
section
variable {prog : Program} {w : World} {A : Around} {E : Value → Shared → Prop} {s : Shared} {env : Env} {h₀ : Heap} {x : Str} {body : List Stmt} {Q : Flow → Shared → Prop}
theorem ls_end {σ : Type} {Mu : σ → Led} {ps : σ → List (Str × Value)} {Facts : Led → σ → Prop} {stored : List Str} {m₀ : Str → Option Value} {P : Nat → σ → Prop} {adr : List Addr} {news : Led} {i : Nat} (c : σ) (add : Led) {nw own news' : Led} {L : Addr} {m' : Str → Option Value} {s₁ : Shared} {h' : Heap} {tk : Nat}
    (F : Fr h₀ L h' m') (N : News h₀ L h' news') (sub0 : ∀ p ∈ news, p ∈ nw) (o1 : OwnOff own adr) (o2 : OwnOff own (nw.map (·.1))) (o3 : OwnOff nw adr) (hn : ∀ p ∈ Mu c ++ (add ++ nw), p ∈ news') (ho : ∀ p ∈ own, p ∈ news')
    (ha : (Mu c).map (·.1) = adr) (hw : ∀ q ∈ add, ∀ p ∈ own, p.1 ≠ q.1) (hb : OwnOff add adr) (hf : Facts (add ++ nw) c) (hk : ∀ p ∈ ps c, m' p.1 = some p.2) (hr : ∀ z, z ≠ x → (∀ p ∈ ps c, z ≠ p.1) → stored.contains z = false → m' z = m₀ z) (hp : P i c) :
    InvEndG h₀ L (LS Mu ps Facts x stored m₀ P adr news i) own s₁ { s₁ with heap := h', toks := tk } := by
  refine ⟨h', tk, m', news', Mu c ++ (add ++ nw), rfl, F, N, hn, ho, ?_, c, add ++ nw, rfl, ha, ?_, fun p hp => List.mem_append.mpr (.inr (sub0 p hp)), hf, hk, hr, hp⟩
  · intro p hp b hb'
    rw [List.map_append, ha] at hb'
    rcases List.mem_append.mp hb' with hb' | hb'
    · exact o1 p hp b hb'
    · rw [List.map_append] at hb'
      rcases List.mem_append.mp hb' with hb' | hb'
      · obtain ⟨q, hq, rfl⟩ := List.mem_map.mp hb'
        exact hw q hq p hp
      · exact o2 p hp b hb'
  · intro p hp b hb'
    rcases List.mem_append.mp hp with hp | hp
    · exact hb p hp b hb'
    · exact o3 p hp b hb'
/-- over a list of the ledger -/
theorem ls_list {σ : Type} {l : Addr} {vs : List Value} {nn : Nat} {m₀ : Str → Option Value} {news : Led} (Mu : σ → Led) (ps : σ → List (Str × Value)) (Facts : Led → σ → Prop) (stored : List Str) (P : Nat → σ → Prop) (adr : List Addr) (c₀ : σ)
    (hh : A.handled = none) (F : Fr h₀ env.locals s.heap m₀) (N : News h₀ env.locals s.heap (Mu c₀ ++ news)) (hl : (l, listOf vs.toArray nn) ∈ news) (ha : (Mu c₀).map (·.1) = adr) (ho : OwnOff news adr) (hf : Facts news c₀) (hk : ∀ p ∈ ps c₀, m₀ p.1 = some p.2) (hp : P 0 c₀)
    (turn : ∀ i v (c : σ) nw (u : Str → Option Value) h tk own, vs[i]? = some v → (∀ p ∈ news, p ∈ nw) → OwnOff own adr → OwnOff own (nw.map (·.1)) → OwnOff nw adr → (Mu c).map (·.1) = adr → Facts nw c → P i c →
      Fr h₀ env.locals h (fun y => if y = x then some v else kstB (fun z => if stored.contains z then u z else m₀ z) (ps c) y) → News h₀ env.locals h (Mu c ++ (nw ++ own)) →
      wpAny (model prog w) A (execs body env) (InvPostG h₀ env.locals (LS Mu ps Facts x stored m₀ P adr news (i + 1)) own { s with heap := h, toks := tk } Q) E { s with heap := h, toks := tk })
    (done : ∀ (c : σ) nw (u : Str → Option Value) h tk, (∀ p ∈ news, p ∈ nw) → OwnOff nw adr → (Mu c).map (·.1) = adr → Facts nw c → P vs.length c →
      Fr h₀ env.locals h (fun y => if y = x then u y else kstB (fun z => if stored.contains z then u z else m₀ z) (ps c) y) → News h₀ env.locals h (Mu c ++ nw) → Q .next { s with heap := h, toks := tk }) :
    wpAny (model prog w) A (pyIter (.ref l)) (fun it s₂ => LoopAtV prog w A h₀ env x body Q E it s₂) E s := by
  refine kdl_iter (news := Mu c₀ ++ news) (fun i m nx => LS Mu ps Facts x stored m₀ P adr news i m nx) hh (List.mem_append.mpr (.inr hl)) F N ⟨c₀, news, rfl, ha, ho, fun _ h => h, hf, hk, fun _ _ _ _ => rfl, hp⟩ ?_ ?_
  · rintro i v m₁ nx h tk own hv hoff hl' ⟨c, nw, rfl, ha', ho', hs, hf', h1, h2, hp'⟩ F₁ N₁
    rw [List.map_append, ha'] at hoff
    have o1 : OwnOff own adr := fun p hp b hb => hoff p hp b (List.mem_append.mpr (.inl hb))
    have o2 : OwnOff own (nw.map (·.1)) := fun p hp b hb => hoff p hp b (List.mem_append.mpr (.inr hb))
    rw [List.append_assoc] at N₁
    refine wpAny_mono (turn i v c nw m₁ h tk own hv hs o1 o2 ho' ha' hf' hp' (kst_fr h1 h2 F₁) N₁) (fun f s₂ p => ?_) fun _ _ x => x
    have up : InvEndG h₀ env.locals (LS Mu ps Facts x stored m₀ P adr news (i + 1)) own { s with heap := h, toks := tk } s₂ →
        InvEndG h₀ env.locals (fun m' nx => (l, listOf vs.toArray nn) ∈ nx ∧ LS Mu ps Facts x stored m₀ P adr news (i + 1) m' nx) own { s with heap := h, toks := tk } s₂ := by
      rintro ⟨h', tk', m', news', nx', e', F', N', hn', ho', ha, hS⟩
      refine ⟨h', tk', m', news', nx', e', F', N', hn', ho', ha, ?_, hS⟩
      obtain ⟨c', nw', rfl, _, _, hs', _⟩ := hS
      exact List.mem_append.mpr (.inr (hs' _ hl))
    cases f with
    | ret v => exact p
    | brk => exact p
    | next => exact up p
    | cont => exact up p
  · rintro m₁ nx h tk ⟨c, nw, rfl, ha', ho', hs, hf', h1, h2, hp'⟩ F₁ N₁
    exact done c nw m₁ h tk hs ho' ha' hf' hp' (kst_frOut h1 h2 F₁) N₁
/-- over a range by ones -/
theorem ls_range {σ : Type} {r : Addr} {a₀ b₀ : Int} {t₀ u₀ v₀ : Tok} {n : Nat} {m₀ : Str → Option Value} {news : Led} (Mu : σ → Led) (ps : σ → List (Str × Value)) (Facts : Led → σ → Prop) (stored : List Str) (P : Nat → σ → Prop) (adr : List Addr) (c₀ : σ)
    (hh : A.handled = none) (hr : IsRange s.heap r a₀ b₀ 1 t₀ u₀ v₀) (hsmall : Builtin.Range.small a₀ b₀ 1 = true) (hsz : Builtin.Range.rangeSize a₀ b₀ 1 = (n : Int))
    (F : Fr h₀ env.locals s.heap m₀) (N : News h₀ env.locals s.heap (Mu c₀ ++ news)) (ha : (Mu c₀).map (·.1) = adr) (ho : OwnOff news adr) (hf : Facts news c₀) (hk : ∀ p ∈ ps c₀, m₀ p.1 = some p.2) (hp : P 0 c₀)
    (turn : ∀ i t (c : σ) nw (u : Str → Option Value) h tk own, i < n → (∀ p ∈ news, p ∈ nw) → OwnOff own adr → OwnOff own (nw.map (·.1)) → OwnOff nw adr → (Mu c).map (·.1) = adr → Facts nw c → P i c →
      Fr h₀ env.locals h (fun y => if y = x then some (.int (a₀ + (i : Int)) t) else kstB (fun z => if stored.contains z then u z else m₀ z) (ps c) y) → News h₀ env.locals h (Mu c ++ (nw ++ own)) →
      wpAny (model prog w) A (execs body env) (InvPostG h₀ env.locals (LS Mu ps Facts x stored m₀ P adr news (i + 1)) own { s with heap := h, toks := tk } Q) E { s with heap := h, toks := tk })
    (done : ∀ (c : σ) nw (u : Str → Option Value) h tk, (∀ p ∈ news, p ∈ nw) → OwnOff nw adr → (Mu c).map (·.1) = adr → Facts nw c → P n c →
      Fr h₀ env.locals h (fun y => if y = x then u y else kstB (fun z => if stored.contains z then u z else m₀ z) (ps c) y) → News h₀ env.locals h (Mu c ++ nw) → Q .next { s with heap := h, toks := tk }) :
    wpAny (model prog w) A (pyIter (.ref r)) (fun it s₂ => LoopAtV prog w A h₀ env x body Q E it s₂) E s := by
  refine wpAny_pyIter_range hr hsmall ?_
  have W : Walks prog w A s.heap.objs.size [s.heap.objs.size] [s.heap.objs.size] n (fun i v => i < n ∧ ∃ t, v = .int (a₀ + i * 1) t)
      (fun i h => IsRangeIter h s.heap.objs.size (a₀ + (i : Nat) * 1) ((n : Int) - (i : Nat)) 1) := (Walks.range hh _ a₀ 1 n).bound
  refine kdr_loop (news := Mu c₀ ++ news) (fun i m nx => LS Mu ps Facts x stored m₀ P adr news i m nx) W (fun _ h => h) (fun _ h => h) ?_ ?_ ?_ ?_ (by show IsRangeIter _ _ _ _ _; rw [hsz]; simpa using Heap.get?_push_size _ rfl) (F.push _) (fun p hp => ⟨Heap.get?_push_of_some _ (N p hp).1, (N p hp).2⟩) ⟨c₀, news, rfl, ha, ho, fun _ h => h, hf, hk, fun _ _ _ _ => rfl, hp⟩ ?_ ?_
  · intro i h hi b hb
    rw [List.mem_singleton.mp hb]
    exact ⟨_, hi⟩
  · intro hm
    exact absurd F.ns.lt ((List.mem_singleton.mp hm) ▸ Nat.lt_irrefl _)
  · intro b hb
    rw [List.mem_singleton.mp hb]
    exact next_is_new F
  · intro p hp hI
    exact absurd (Heap.lt_size (N p hp).1) ((List.mem_singleton.mp hI) ▸ Nat.lt_irrefl _)
  · rintro i v m₁ nx h tk own hi ⟨_, t, rfl⟩ hoff ⟨c, nw, rfl, ha', ho', hs, hf', h1, h2, hp'⟩ F₁ N₁
    have e1 : a₀ + (i : Int) * 1 = a₀ + (i : Int) := by lia
    rw [e1] at F₁
    rw [List.map_append, ha'] at hoff
    rw [List.append_assoc] at N₁
    exact turn i t c nw m₁ h tk own hi hs (fun p hp b hb => hoff p hp b (List.mem_append.mpr (.inl hb))) (fun p hp b hb => hoff p hp b (List.mem_append.mpr (.inr hb))) ho' ha' hf' hp' (kst_fr h1 h2 F₁) N₁
  · rintro m₁ nx h tk ⟨c, nw, rfl, ha', ho', hs, hf', h1, h2, hp'⟩ F₁ N₁
    exact done c nw m₁ h tk hs ho' ha' hf' hp' (kst_frOut h1 h2 F₁) N₁
end
theorem ints_at {vs : List Value} {ns : List Int} (hi : IntsAre vs ns) {i : Nat} {v : Value} (h : vs[i]? = some v) : ∃ n t, v = .int n t ∧ ns[i]? = some n := by
  have hlt : i < ns.length := by rw [← hi.length]; exact (List.getElem?_eq_some_iff.mp h).1
  obtain ⟨t, ht⟩ := hi.get i ns[i] (by simp [hlt])
  rw [ht] at h
  exact ⟨ns[i], t, (Option.some.inj h).symm, by simp [hlt]⟩
theorem ownOff_nil {l : Led} : OwnOff l [] := fun _ _ _ h => nomatch h
theorem ownOff_nil' {l : List Addr} : OwnOff [] l := fun _ h => nomatch h
theorem my_len {prog : Program} {w : World} {A : Around} {E : Value → Shared → Prop} {s : Shared} {h₀ : Heap} {L l : Addr} {news : Led} {us : List Value} {ns : List Int} {n : Nat} {Q : Value → Shared → Prop} (N : News h₀ L s.heap news) (hm : (l, listOf us.toArray n) ∈ news) (hi : IntsAre us ns) (hfit : (ns.length : Int) < 2 ^ 63)
    (h : Q (.int (ns.length : Int) (s.toks + 1)) { s with toks := s.toks + 1 + 1 }) : wpAny (model prog w) A (call (.builtin "len") [.ref l]) Q E s := by
  have hl : s.heap.IsList l us.toArray := ⟨_, (N _ hm).1, rfl, n, rfl⟩
  have e : us.toArray.size = ns.length := by rw [List.size_toArray, hi.length]
  exact len_list hl (by rw [e]; exact hfit) (by rw [e]; exact h)
theorem allLt_all {d : Nat} : ∀ {l : Led}, AllLt d l → ∀ p ∈ l, p.1 < d
  | [], _ => fun _ h => nomatch h
  | _ :: _, h => fun p hp => by
    rcases List.mem_cons.mp hp with rfl | hp
    · exact h.1
    · exact allLt_all h.2 p hp
theorem allLt_off {d : Nat} {l own : Led} (h : AllLt d (l ++ own)) : ∀ p ∈ own, p.1 ≠ d := fun p hp => Nat.ne_of_lt (allLt_all h p (List.mem_append.mpr (.inr hp)))
theorem off_cdr {a : Addr} {p : Addr × Obj} {news : Led} (h : Off a (p :: news)) : Off a news := fun q hq => h q (.tail _ hq)
theorem news_sub {h₀ h : Heap} {L : Addr} {l l' : Led} (N : News h₀ L h l) (hs : ∀ p ∈ l', p ∈ l) : News h₀ L h l' := fun p hp => N p (hs p hp)
theorem led1 {h₀ h : Heap} {L a : Addr} {oa : Obj} {l : Led} (_ : News h₀ L h ((a, oa) :: l)) : ∃ x : Addr, x = a := ⟨_, rfl⟩
theorem led2 {h₀ h : Heap} {L a b : Addr} {oa ob : Obj} {l : Led} (_ : News h₀ L h ((a, oa) :: (b, ob) :: l)) : ∃ x y : Addr, x = a ∧ y = b := ⟨_, _, rfl, rfl⟩
theorem led3 {h₀ h : Heap} {L a b c : Addr} {oa ob oc : Obj} {l : Led} (_ : News h₀ L h ((a, oa) :: (b, ob) :: (c, oc) :: l)) : ∃ x y z : Addr, x = a ∧ y = b ∧ z = c := ⟨_, _, _, rfl, rfl, rfl⟩
end Mine
end PartML
section PartPureT
namespace Mine
theorem four_cases : ∀ {b : Nat}, b < 4 → b = 0 ∨ b = 1 ∨ b = 2 ∨ b = 3
  | 0, _ => .inl rfl
  | 1, _ => .inr (.inl rfl)
  | 2, _ => .inr (.inr (.inl rfl))
  | 3, _ => .inr (.inr (.inr rfl))
  | n + 4, h => absurd h (Nat.not_lt.mpr (Nat.le_add_left 4 n))
/-- the octets `ds`, read behind `acc`, tell `v` -/
noncomputable def Enc : Int → List Int → Int → Prop
  | _, [], _ => False
  | acc, b :: r, v => 0 ≤ b ∧ b < 256 ∧ ((r = [] ∧ b / 64 % 2 = 0 ∧ v = acc * 64 + b % 64) ∨ (b / 64 % 2 = 1 ∧ Enc (acc * 64 + b % 64) r v))
inductive Stream : List Int → List Int → List Int → Prop
  | nil (r : List Int) : Stream r [] r
  | cons {d r s : List Int} {v : Int} {t : List Int} : Enc 0 d v → Stream r t s → Stream (d ++ r) (v :: t) s
theorem Stream.snoc {o t r : List Int} {d : List Int} {v : Int} (h : Stream o t (d ++ r)) (e : Enc 0 d v) : Stream o (t ++ [v]) r := by
  generalize hq : d ++ r = q at h
  induction h with
  | nil r' => subst hq; exact .cons e (.nil _)
  | cons e' _ ih => exact .cons e' (ih hq)
theorem enc_one {v : Int} (h : 0 ≤ v) : Enc (Int.fdiv v 64) [Int.fmod v 64] v := by
  rw [Int.fdiv_eq_ediv_of_nonneg _ (by decide), Int.fmod_eq_emod_of_nonneg _ (by decide)]
  refine ⟨by lia, by lia, .inl ⟨rfl, by lia, by lia⟩⟩
theorem enc_more {v w : Int} {ds : List Int} (h : 0 ≤ v) (e : Enc (Int.fdiv v 64) ds w) : Enc (Int.fdiv (Int.fdiv v 64) 64) ((64 + Int.fmod (Int.fdiv v 64) 64) :: ds) w := by
  rw [Int.fdiv_eq_ediv_of_nonneg _ (by decide)] at e ⊢
  rw [Int.fdiv_eq_ediv_of_nonneg _ (by decide), Int.fmod_eq_emod_of_nonneg _ (by decide)]
  refine ⟨by lia, by lia, .inr ⟨by lia, ?_⟩⟩
  have q : v / 64 / 64 * 64 + (64 + v / 64 % 64) % 64 = v / 64 := by lia
  rw [q]; exact e
theorem enc_head {acc b w c : Int} {r : List Int} (e : Enc acc (b :: r) w) (h : b < 128) (hc : c = 0 ∨ c = 128) : Enc acc ((b + c) :: r) w := by
  obtain ⟨h0, _, e⟩ := e
  refine ⟨by lia, by lia, ?_⟩
  rcases e with ⟨h1, h2, h3⟩ | ⟨h1, h2⟩
  · exact .inl ⟨h1, by lia, by lia⟩
  · refine .inr ⟨by lia, ?_⟩
    have q : (b + c) % 64 = b % 64 := by lia
    rw [q]; exact h2
theorem enc_ne {acc w : Int} {ds : List Int} (e : Enc acc ds w) : ds ≠ [] := by
  intro h; subst h; exact e
theorem enc_range {w : Int} : ∀ {ds : List Int} {acc : Int}, Enc acc ds w → ∀ b ∈ ds, 0 ≤ b ∧ b < 256
  | [], _, e => e.elim
  | b :: r, acc, ⟨h0, h1, e⟩ => fun c hc => by
    rcases List.mem_cons.mp hc with rfl | hc
    · exact ⟨h0, h1⟩
    · rcases e with ⟨rfl, _, _⟩ | ⟨_, e⟩
      · cases hc
      · exact enc_range e c hc
theorem fdiv64 (v : Int) : v.fdiv 64 = v / 64 := Int.fdiv_eq_ediv_of_nonneg _ (by decide)
theorem fmod64 (v : Int) : v.fmod 64 = v % 64 := Int.fmod_eq_emod_of_nonneg _ (by decide)
theorem fmod2 (v : Int) : v.fmod 2 = v % 2 := Int.fmod_eq_emod_of_nonneg _ (by decide)
theorem tape_head {digs : List Int} {n v k : Int} (hv : v < 64) (h0 : 0 ≤ v) (e : Enc (v.fdiv 64) digs n) (hd : ∀ b ∈ digs, 0 ≤ b ∧ b < 128) : Enc 0 (digs.set (Int.toNat 0) (digs.getD (Int.toNat 0) 0 + 128 * k.fmod 2)) n := by
  have z : v.fdiv 64 = 0 := by rw [fdiv64]; lia
  rw [z] at e
  cases digs with
  | nil => exact e.elim
  | cons b r =>
    show Enc 0 ((b + 128 * k.fmod 2) :: r) n
    exact enc_head e (hd b (.head _)).2 (by rw [fmod2]; lia)
theorem tape_step {oct told d : List Int} {i : Nat} {n : Int} (h : ∀ r, Stream (oct ++ r) (told.take i) r) (hn : told[i]? = some n) (e : Enc 0 d n) : ∀ r, Stream ((oct ++ d) ++ r) (told.take (i + 1)) r := by
  intro r
  have q : told.take (i + 1) = told.take i ++ [n] := by rw [List.take_add_one, hn]; rfl
  rw [q, List.append_assoc]
  exact (h (d ++ r)).snoc e
theorem stream_range {o t r : List Int} (h : Stream o t r) : ∀ b ∈ o, b ∈ r ∨ (0 ≤ b ∧ b < 256) := by
  induction h with
  | nil r => exact fun b hb => .inl hb
  | cons e _ ih =>
    intro b hb
    rcases List.mem_append.mp hb with hb | hb
    · exact .inr (enc_range e b hb)
    · exact ih b hb
theorem tape_range {oct told : List Int} (h : ∀ r, Stream (oct ++ r) told r) : ∀ b ∈ oct ++ [0, 64], 0 ≤ b ∧ b < 256 := by
  intro b hb
  rcases List.mem_append.mp hb with hb | hb
  · rcases stream_range (h []) b (by simpa using hb) with h' | h'
    · cases h'
    · exact h'
  · simp at hb; lia
theorem Stream.inv {o : List Int} {v : Int} {t s : List Int} (h : Stream o (v :: t) s) : ∃ d r, o = d ++ r ∧ Enc 0 d v ∧ Stream r t s := by
  generalize hq : v :: t = q at h
  cases h with
  | nil => cases hq
  | cons e hr => cases hq; exact ⟨_, _, rfl, e, hr⟩
theorem Stream.inv_nil {o s : List Int} (h : Stream o [] s) : o = s := by
  generalize hq : ([] : List Int) = q at h
  cases h with
  | nil => rfl
  | cons e hr => cases hq
theorem getD_last {l : List Int} (h : 0 < l.length) : l.getD (-1 + (l.length : Int)).toNat 0 = l.getLast (List.length_pos_iff.mp h) := by
  have e : (-1 + (l.length : Int)).toNat = l.length - 1 := by lia
  rw [e, List.getLast_eq_getElem, List.getD_eq_getElem?_getD, List.getElem?_eq_getElem (by lia)]
  rfl
theorem read_last0 {told rd : List Int} (h : told ++ [0] = rd ++ []) (hp : 0 < rd.length) : decide (rd.getD (-1 + (rd.length : Int)).toNat 0 = 0) = true := by
  rw [List.append_nil] at h
  subst h
  rw [getD_last hp]
  simp
theorem read_last {told rd t : List Int} {v : Int} (h : told ++ [0] = rd ++ v :: t) (hp : 0 < rd.length) (hb : ∀ x ∈ told, 1 ≤ x) : decide (rd.getD (-1 + (rd.length : Int)).toNat 0 = 0) = false := by
  rw [getD_last hp]
  have hm : rd.getLast (List.length_pos_iff.mp hp) ∈ told := by
    have hpre : rd <+: told := by
      have h1 : rd <+: told ++ [0] := ⟨_, h.symm⟩
      have h2 : rd.length ≤ told.length := by
        have := congrArg List.length h
        simp at this; lia
      exact List.prefix_of_prefix_length_le h1 (List.prefix_append _ _) h2
    exact hpre.subset (List.getLast_mem _)
  have := hb _ hm
  exact decide_eq_false (by lia)
end Mine
end PartPureT
section PartMI
open PySem PySem.W PyProof.Rows PySem.Spec PySem.Calls PyProof.V Builtin

set_option maxRecDepth 100000
namespace Mine
noncomputable abbrev itObj (b : Array UInt8) (t : Tok) (i : Nat) : Obj := { cls := .type "bytes_iterator", data := .fields #[.bytes b t, .int i 0] }
noncomputable abbrev itEnd (i : Nat) : Obj := { cls := .type "bytes_iterator", data := .fields #[.none, .int i 0] }
section
variable {prog : Program} {w : World} {A : Around} {E : Value → Shared → Prop} {s : Shared} {h₀ : Heap} {L it : Addr} {m : Str → Option Value} {news news' : Led} {b : Array UInt8} {t : Tok} {i : Nat}
theorem bi_iter {Q : Value → Shared → Prop} (F : Fr h₀ L s.heap m) (N : News h₀ L s.heap news)
    (h : ∀ (I : Addr) h', Fr h₀ L h' m → News h₀ L h' ((I, itObj b t 0) :: news) → (∀ p ∈ news, p.1 < I) → Q (.ref I) { s with heap := h' }) :
    wpAny (model prog w) A (call (.builtin "iter") [.bytes b t]) Q E s := by
  refine call_function_entry (by decide +kernel) (by decide +kernel) kdk_entry_iter (kdk_args_iter _) ?_
  unfold Builtin.«iter»
  refine wpAny_bind (m := someArgs "iter" 1 2 _) (wpAny_of_eq (a := [Value.bytes b t]) (by first | rfl | kernel_rfl!) ?_)
  show wpAny _ _ (pyIter (.bytes b t) >>= _) _ _ _
  refine wpAny_bind (KBw.pyIter_bytes ?_)
  exact wpAny_pure ⟨_, rfl, h _ _ (F.push _) (News.push F N _ rfl) (fun q hq => Heap.lt_size (N q hq).1)⟩
theorem it_typeIs {o : Obj} (ho : s.heap.get? it = some o) (hc : o.cls = .type "bytes_iterator") : s.TypeIs (.ref it) "bytes_iterator" := ⟨o, ho, hc⟩
theorem bi_next {c : UInt8} {Q : Value → Shared → Prop} (F : Fr h₀ L s.heap m) (N : News h₀ L s.heap news) (U : Upd it (itObj b t i) (itObj b t (i + 1)) news news') (hx : b[i]? = some c)
    (h : ∀ h' tk, Fr h₀ L h' m → News h₀ L h' news' → Q (.int (c.toNat : Int) tk) { s with heap := h', toks := tk + 1 }) :
    wpAny (model prog w) A (call (.builtin "next") [.ref it]) Q E s := by
  obtain ⟨pre, post, rfl, rfl, ha, hb⟩ := U.split
  have hm := N (it, itObj b t i) (List.mem_append_right _ (.head _))
  have ho : s.heap.get? it = some (itObj b t i) := hm.1
  have hT : s.TypeIs (.ref it) "bytes_iterator" := ⟨_, ho, rfl⟩
  refine call_function_entry (by decide +kernel) (by decide +kernel) kdk_entry_next (kdk_args_next _) ?_
  unfold Builtin.«next»
  refine wpAny_bind (m := someArgs "next" 1 2 _) (wpAny_of_eq (a := [Value.ref it]) (by first | rfl | kernel_rfl!) ?_)
  dsimp only
  refine wpAny_bind (wpAny_specialOf (name := Str.ofString "__next__") hT KBw.slot_next.lookup ?_)
  refine wpAny_ite_split (fun hab => absurd hab (by decide)) (fun _ => ?_)
  refine wpAny_bind (wpAny_callSpecial?_slot (name := Str.ofString "__next__") hT KBw.slot_next (wpAny_call_entry KBw.slot_next hT KBw.entry_next ?_ (KBw.args_next _)))
  show wpAny _ _ (field (.ref it) 0 >>= _) _ _ s
  refine wpAny_bind (wpAny_field ho rfl (x := .bytes b t) rfl ?_)
  show wpAny _ _ (if (Value.bytes b t == Value.none) = true then _ else _) _ _ s
  rw [if_neg (show ¬ ((Value.bytes b t == Value.none) = true) from Bool.false_ne_true)]
  show wpAny _ _ (field (.ref it) 1 >>= _) _ _ s
  refine wpAny_bind (wpAny_field ho rfl (x := .int i 0) rfl ?_)
  refine wpAny_bind (wpAny_of_eq (a := b) rfl ?_)
  simp only [Int.toNat_natCast, hx]
  refine wpAny_bind (wpAny_setField ho rfl (by simp) (wpAny_bind (wpAny_mkInt (wpAny_pure ⟨_, rfl, wpAny_pure ⟨_, rfl, ?_⟩⟩))))
  obtain ⟨F', N'⟩ := news_upd F N ha hb (f := Obj.mapFields (·.setIfInBounds 1 (rawInt ((i : Int) + 1)))) (o' := itObj b t (i + 1)) (by simp [itObj, Obj.mapFields, rawInt]) rfl
  exact h _ s.toks F' N'
theorem bi_nextN {n : Int} {Q : Value → Shared → Prop} (F : Fr h₀ L s.heap m) (N : News h₀ L s.heap news) (U : Upd it (itObj b t i) (itObj b t (i + 1)) news news') (hx : ∃ c : UInt8, b[i]? = some c ∧ (c.toNat : Int) = n)
    (h : ∀ h' tk, Fr h₀ L h' m → News h₀ L h' news' → Q (.int n tk) { s with heap := h', toks := tk + 1 }) :
    wpAny (model prog w) A (call (.builtin "next") [.ref it]) Q E s := by
  obtain ⟨c, hc, rfl⟩ := hx
  exact bi_next F N U hc h
theorem bi_end {Q : Value → Shared → Prop} (hh : A.handled = none) (F : Fr h₀ L s.heap m) (N : News h₀ L s.heap news) (U : Upd it (itObj b t i) (itEnd i) news news') (hx : b[i]? = none)
    (h : ∀ h' h'' e, Fr h₀ L h' m → News h₀ L h' news' → Heap.NewExc h' h'' e "StopIteration" → E (.ref e) { s with heap := h'' }) :
    wpAny (model prog w) A (call (.builtin "next") [.ref it]) Q E s := by
  obtain ⟨pre, post, rfl, rfl, ha, hb⟩ := U.split
  have hm := N (it, itObj b t i) (List.mem_append_right _ (.head _))
  have ho : s.heap.get? it = some (itObj b t i) := hm.1
  have hT : s.TypeIs (.ref it) "bytes_iterator" := ⟨_, ho, rfl⟩
  refine call_function_entry (by decide +kernel) (by decide +kernel) kdk_entry_next (kdk_args_next _) ?_
  unfold Builtin.«next»
  refine wpAny_bind (m := someArgs "next" 1 2 _) (wpAny_of_eq (a := [Value.ref it]) (by first | rfl | kernel_rfl!) ?_)
  dsimp only
  refine wpAny_bind (wpAny_specialOf (name := Str.ofString "__next__") hT KBw.slot_next.lookup ?_)
  refine wpAny_ite_split (fun hab => absurd hab (by decide)) (fun _ => ?_)
  refine wpAny_bind (wpAny_callSpecial?_slot (name := Str.ofString "__next__") hT KBw.slot_next (wpAny_call_entry KBw.slot_next hT KBw.entry_next ?_ (KBw.args_next _)))
  show wpAny _ _ (field (.ref it) 0 >>= _) _ _ s
  refine wpAny_bind (wpAny_field ho rfl (x := .bytes b t) rfl ?_)
  show wpAny _ _ (if (Value.bytes b t == Value.none) = true then _ else _) _ _ s
  rw [if_neg (show ¬ ((Value.bytes b t == Value.none) = true) from Bool.false_ne_true)]
  show wpAny _ _ (field (.ref it) 1 >>= _) _ _ s
  refine wpAny_bind (wpAny_field ho rfl (x := .int i 0) rfl ?_)
  refine wpAny_bind (wpAny_of_eq (a := b) rfl ?_)
  simp only [Int.toNat_natCast, hx]
  refine wpAny_bind (wpAny_rule (wpAny_bind (wpAny_setField ho rfl (by simp) ?_)))
  obtain ⟨F', N'⟩ := news_upd F N ha hb (f := Obj.mapFields (·.setIfInBounds 0 .none)) (o' := itEnd i) (by simp [itObj, itEnd, Obj.mapFields]) rfl
  show wpAny _ _ (newExc (.type "StopIteration") [] >>= _) _ _ _
  refine wpAny_bind ?_
  simp only [newExc, newTuple]
  refine wpAny_bind (wpAny_newObj_type ?_ (by size_fits))
  refine wpAny_bind (m := firstArgMember _ _) (wpAny_of_eq (a := Value.none) (by first | rfl | (simp only [firstArgMember]; rfl)) ?_)
  refine wpAny_newObj_type ?_ (by size_fits)
  simp only [raiseNew]
  refine wpAny_bind (wpAny_handled ?_)
  rw [show A.in1.in1.handled = none from hh]
  refine wpAny_bind (wpAny_pure (wpAny_throw ?_))
  refine h _ _ _ F' N' ⟨fun b o e => Heap.get?_push_of_some _ (Heap.get?_push_of_some _ e), ?_, ⟨_, _, Heap.get?_push_size _ rfl, rfl, rfl⟩⟩
  exact Heap.get?_none_of_le (by rw [Heap.size_push]; exact Nat.le_succ _)
end
end Mine
end PartMI
section PartMT
open PySem PySem.W PyProof.Rows PySem.Spec PySem.Calls PyProof.V

set_option maxRecDepth 100000
namespace Mine
section
variable {prog : Program} {w : World} {A₀ A : Around} {s : Shared} {base h₀ : Heap} {L a : Addr} {m : Str → Option Value} {env : Env} {news : Led} {K : Frag} {p : Program} {loose : List Str} {mean : ExcName → Option Value} {mg mb : Str → Option Value}
    {R : Result → Shared → Prop} {name qual : Str} {params : Arguments} {body : List Stmt} {scope : Scope} {dV kV doc pm cdv ct oc : Value} {an od : Option Addr} {osl : Array (Option Value)} {f : Addr} {args : Args} {binds : List (Str × Value)}
/-- a def with a try, called from the first frame, whatever that frame's cells -/
theorem code_try (B : Below A₀ base [] h₀) (F : Fr h₀ L s.heap m) (X₀ : K.In h₀) (N : News h₀ L s.heap news) (T : Top p loose mean mg mb h₀) (hA : A.frames = some [env]) (hf : env.frame = some L) (hke : env.scope.kind = .function)
    (ho : K.lookup f = some ⟨oc, od, .func (fnOf name qual params body scope dV kV doc pm an cdv ct), osl⟩) (hcd : codeIn K cdv qual = true) (hroom : A.depth < recursionLimit)
    (hbind : BindsTo s (fnOf name qual params body scope dV kV doc pm an cdv ct) args binds) (hloc : ∀ y ∈ binds, scope.names.lookup y.1 = some .local)
    (h : ∀ g L' h₁, Fr h₀ L g m → Fr g L' h₁ (fun y => binds.reverse.lookup y) → News g L' h₁ news → Below A base [env] g → K.In g → Top p loose mean mg mb g → KtsDicts ([env].filterMap (·.frame)) g →
      wpAny (model prog w) (A.deeper (envOf qual scope L' f cdv)) (execs body (envOf qual scope L' f cdv))
        (fun fl s' => LeaveS0 ([env].filterMap (·.frame)) h₀ L m g R (match fl with | .ret v => v | _ => .none) s')
        (fun e s' => wpAny (model prog w) (A.deeper (envOf qual scope L' f cdv)) (leaving (envOf qual scope L' f cdv) e) (fun _ s'' => R (.error e) s'') (fun e' s'' => R (.error e') s'') s')
        { s with heap := h₁, toks := s.toks + binds.length })
    (hco : scope.isCoroutine = false) (hgen : scope.isGenerator = false) (hk : scope.kind = .function)
    (hcell : ∀ x ∈ scope.names, x.2 ≠ .cell) : codeAny (model prog w) A (.call (.ref f) args) R s := by
  have X := X₀.keeps F.keep
  obtain ⟨FG, BG, st, _⟩ := groundX (R := R) B F N hA hf hke
  have hfr : ∀ b, b ∈ [env].filterMap (·.frame) → b = L := fun b hb => by
    obtain ⟨e', he, hfe⟩ := List.mem_filterMap.mp hb
    rw [List.mem_singleton.mp he, hf] at hfe
    exact (Option.some.inj hfe).symm
  refine codeAny_call_def (fd := fnOf name qual params body scope dV kV doc pm an cdv ct) (body := body) (binds := binds) hroom (X _ _ ho) rfl (T.nolimit.keeps F.keep) (codeRec_of X hcd) rfl hbind hcell hloc (fun h₁ hns hk₁ => ?_) hco hgen hk
  obtain ⟨oL, es, ep, hLg, hLd, hLk, hLf⟩ := FG.ns
  refine wpAny_mono (h _ s.heap.objs.size h₁ FG ⟨hns, fun b o e => hk₁ b o (of_hideAll _ e), Nat.le_of_eq (hideAll_size _ _)⟩
    (fun p hp => ⟨hk₁ _ _ (N p hp).1, Nat.ne_of_lt (Heap.lt_size (N p hp).1), hideAll_none _ (List.mem_map_of_mem hp)⟩) BG (X₀.keeps st) (T.keeps st) (fun b hb => by
      rw [hfr b hb]; exact ⟨oL, es, ep, hLg, hLd⟩)) (fun fl s' hl => ?_) fun _ _ y => y
  obtain ⟨g', L', m', news', T', F', N', k⟩ := hl
  have nL₀ : h₀.get? L = none := kts_self F
  obtain ⟨sl, hs⟩ := T'.up hLg
  refine k ⟨⟨_, es, ep, F'.keep _ _ hs, hLd, hLk, hLf⟩, fun b o e => F'.keep b o (T'.other b o (st b o e) (fun q => by
    rw [hfr b q, nL₀] at e; cases e)), F.above⟩ fun p hp => ⟨(N' p hp).1, fun q => ?_, ?_⟩
  · have := (N' p hp).2.2; rw [q, hs] at this; cases this
  · cases q : h₀.get? p.1 with
    | none => rfl
    | some o =>
      obtain ⟨sl', hs'⟩ := T'.up (st _ _ q)
      have := (N' p hp).2.2
      rw [hs'] at this
      cases this
end
/-- a call, from the law's own frame, of a def with a try -/
noncomputable def Tell0 (prog : Program) (w : World) (K : Frag) (p : Program) (loose : List Str) (mean : ExcName → Option Value) (mg mb : Str → Option Value) (f : Addr) (vs : List Value) (news : Led) (dep uns : Nat)
    (Ret : (Led → (Value → Prop) → Prop) → Prop) : Prop :=
  ∀ (dp un : Nat) (gd : Option (List Code)) (cn : Str) (cs : Scope) (a : Addr) (ccd : Value) (cl : List (Str × Addr)) (A₀ : Around) (base h₀ : Heap) (L : Addr) (m : Str → Option Value) (s : Shared) (Q E : Value → Shared → Prop),
    Below A₀ base [] h₀ → Fr h₀ L s.heap m → K.In h₀ → News h₀ L s.heap news → Top p loose mean mg mb h₀ → cs.kind = .function → K.In base → Top p loose mean mg mb base → dp + dep < recursionLimit → un + uns < cLine →
    (Ret fun news' good => ∀ r h' tk', good r → Fr h₀ L h' m → News h₀ L h' news' → Q r { s with heap := h', toks := tk' }) →
    wpAny (model prog w) (ktrTop dp un gd cn cs L a ccd cl []) (call (.ref f) vs) Q E s
theorem Tell0.use {prog : Program} {w : World} {K : Frag} {p : Program} {loose : List Str} {mean : ExcName → Option Value} {mg mb : Str → Option Value} {f : Addr} {vs : List Value} {news : Led} {dep uns : Nat}
    {Ret : (Led → (Value → Prop) → Prop) → Prop} (C : Tell0 prog w K p loose mean mg mb f vs news dep uns Ret)
    {dp un : Nat} {gd : Option (List Code)} {cn : Str} {cs : Scope} {a : Addr} {ccd : Value} {cl : List (Str × Addr)} {A₀ : Around} {base h₀ : Heap} {L : Addr} {m : Str → Option Value} {s : Shared} {Q E : Value → Shared → Prop}
    (B : Below A₀ base [] h₀) (F : Fr h₀ L s.heap m) (X : K.In h₀) (N : News h₀ L s.heap news) (T : Top p loose mean mg mb h₀) (hk : cs.kind = .function) (XB : K.In base) (TB : Top p loose mean mg mb base) (hd : dp + dep < recursionLimit) (hu : un + uns < cLine)
    (ret : Ret fun news' good => ∀ r h' tk', good r → Fr h₀ L h' m → News h₀ L h' news' → Q r { s with heap := h', toks := tk' }) :
    wpAny (model prog w) (ktrTop dp un gd cn cs L a ccd cl []) (call (.ref f) vs) Q E s := C _ _ _ _ _ _ _ _ _ _ _ _ _ _ _ _ B F X N T hk XB TB hd hu ret
theorem isExc_StopIteration : isSubtype (.type "StopIteration") (.type "BaseException") = pure true := by rw [isSubtype_type]; kernel_rfl
theorem notTuple_StopIteration : isSubtype (.type ((Manifest.find? "StopIteration").elim "type" fun x => x.metatype)) (.type "tuple") = pure false := by
  rw [show ((Manifest.find? "StopIteration").elim "type" fun x => x.metatype) = "type" from by kernel_rfl, isSubtype_type]; kernel_rfl
theorem boot_StopIteration : bootBuiltins (Str.ofString "StopIteration") = some (.type "StopIteration") := by first | exact PyProof.Rows.Boot.«StopIteration» | rfl | kernel_rfl
end Mine
end PartMT
section PartN2
open PySem PySem.W PyProof.Rows PySem.Spec PySem.Calls

set_option maxRecDepth 100000
set_option maxHeartbeats 8000000
namespace Mine
theorem num_state {d : List Int} {i : Nat} {v : Int} (h : d.length = 9) (hr : ∀ x ∈ d, 0 ≤ x ∧ x < 1000000) :
    (d.set i (v.fmod (10 ^ Int.toNat 6))).length = 9 ∧ ∀ x ∈ d.set i (v.fmod (10 ^ Int.toNat 6)), 0 ≤ x ∧ x < 1000000 := by
  refine ⟨by simp [h], fun x hx => ?_⟩
  rcases List.mem_or_eq_of_mem_set hx with hx | rfl
  · exact hr x hx
  · have e : (10 : Int) ^ Int.toNat 6 = 1000000 := by decide
    rw [e, Int.fmod_eq_emod_of_nonneg _ (by decide)]
    lia
theorem told_bound {n : Int} (h : 0 ≤ n ∧ n < 1000000) : 1 ≤ [n.fdiv 3 + 1, 255 - (n.fdiv 3).fmod 255, 256 + (n.fdiv 3).fmod 4000].getD (n.fmod 3).toNat 0 ∧ [n.fdiv 3 + 1, 255 - (n.fdiv 3).fmod 255, 256 + (n.fdiv 3).fmod 4000].getD (n.fmod 3).toNat 0 ≤ 333334 := by
  rw [Int.fdiv_eq_ediv_of_nonneg _ (by decide), Int.fmod_eq_emod_of_nonneg _ (by decide), Int.fmod_eq_emod_of_nonneg _ (by decide), Int.fmod_eq_emod_of_nonneg _ (by decide)]
  have h3 : n % 3 = 0 ∨ n % 3 = 1 ∨ n % 3 = 2 := by lia
  rcases h3 with e | e | e <;> rw [e] <;> simp <;> lia
theorem c_numbers (w : World) {p : Program} {loose : List Str} {mean : ExcName → Option Value} {mg mb : Str → Option Value} (news : Led) (l : Addr) (vs : List Value) (ns : List Int) (hi : IntsAre vs ns) (hlen : ns.length ≤ 63) :
  Tell PySem.Challenge.rw_sr0074_02.row.prog w (hd02.heap_39 w.params) p loose mean mg mb 241 [.ref l] news 10 100 (fun base => base.IsList l vs.toArray)
    (fun Go => ∀ a us n told, IntsAre us told → told.length = 9 → (∀ v ∈ told, 1 ≤ v ∧ v ≤ 333334) → Off a news → Go ((a, listOf us.toArray n) :: news) (fun r => r = .ref a)) := by
  k_fill
  k_with_none
  k_with "w eval ListComp" => (k_here; k_extra "comp yes"; k_dflt (refine LCg.ListComp_U (F₀ := by k_asm) (by with_unfolding_all rfl) (by decide) (by rfl) (by decide) (by rfl) ?_))
  unfold Tell
  intro dp un gd cn cs a ccd cl outer A₀ base h₀ L m s Q E B F X N T hk hl hd hu hret
  refine wpAny_call ?_
  k_dflt cell_enter
  have hKd := kdMark
  k_with "pyIter ref" => k_state (fun pre d => d.length = 9 ∧ ∀ x ∈ d, 0 ≤ x ∧ x < 1000000) "drawn"
  k_with "state" => exact num_state (by assumption) (by assumption)
  k_with "comp yes" => skip
  k_steps
  case' _ =>
    refine LCg.CompSrc.ledger (by rfl) (by k_asm) (by k_asm) (by k_mem) ?hsz ?_
    case hsz =>
      have hL := ‹IntsAre _ _›.length
      show (List.toArray _).size ≤ sizeLine
      rw [List.size_toArray]
      simp only [sizeLine]
      omega
    intro g9
    refine comp_ints (by assumption) _ (fun n c => 1 ≤ c ∧ c ≤ 333334) ?_ ?_
    · intro n t I oI Cn oC D m₂ h tk ys E' hn ho hx F9 N9 off9 ne9
      have hb := ‹∀ x ∈ (_ : List Int), 0 ≤ x ∧ x < 1000000› n hn
      k_steps
      refine LCg.CompEnd.intro (by k_asm) (by assumption) _ ?sub off9 ?src ⟨rfl, _, _, rfl, told_bound hb⟩
      case sub => kqd_sub
      case src => exact Or.inr ⟨_, by k_mem, rfl, _, rfl⟩
    · intro ys cs hys hlen hcs
      k_steps
      exact hret _ _ _ _ hys (by rw [hlen]; assumption) (fun v hv => by obtain ⟨n, _, h⟩ := hcs v hv; exact h) (by first | exact Off.of1 (And.right (by assumption)) | exact off_cdr (Off.of1 (by assumption))) _ _ _ rfl (by k_asm) (news_sub (by assumption) (by kqd_sub))
end Mine
end PartN2
section PartN3
open PySem PySem.W PyProof.Rows PySem.Spec PySem.Calls

set_option maxRecDepth 100000
set_option maxHeartbeats 8000000
namespace Mine
theorem c_tape (w : World) {p : Program} {loose : List Str} {mean : ExcName → Option Value} {mg mb : Str → Option Value} (news : Led) (l : Addr) (vs : List Value) (nl : Nat) (told : List Int) (hi : IntsAre vs told) (hm : (l, listOf vs.toArray nl) ∈ news)
    (hlen : told.length = 9) (hb : ∀ v ∈ told, 1 ≤ v ∧ v ≤ 333334) :
  Tell PySem.Challenge.rw_sr0074_02.row.prog w (hd02.heap_39 w.params) p loose mean mg mb 248 [.ref l] news 10 100 (fun _ => True)
    (fun Go => ∀ oct : List Int, (∀ r, Stream (oct ++ r) told r) → oct.length ≤ 4000000 → Go news (fun r => ∃ t, r = .bytes (byteArr (oct ++ [0, 64])) t)) := by
  k_fill
  k_with_none
  k_with "w pyIter ref" => (k_extra "halt iter"; refine halt ?_)
  k_with "w exec While Compare cons nil" => (k_extra "halt while"; refine halt ?_)
  k_with "w eval ListComp" => (k_here; k_extra "comp yes"; k_dflt (refine LCg.ListComp_U (F₀ := by k_asm) (by with_unfolding_all rfl) (by decide) (by rfl) (by decide) (by rfl) ?_))
  k_with "w call builtin:len" => (k_here; (with_reducible show wpAny _ _ (call (Value.builtin "len") [Value.ref _]) _ _ _); k_dflt (refine' my_len ?zqk1 ?zqk2 ?zqk3 ?zqk4 ?_; (case zqk1 => k_asm); (case zqk2 => first | k_memK | kd_lift); (case zqk3 => assumption); (case zqk4 => omega); k_whole))
  unfold Tell
  intro dp un gd cn cs a ccd cl outer A₀ base h₀ L m s Q E B F X N T hk hl hd hu hret
  refine wpAny_call ?_
  k_dflt cell_enter
  have hKd := kdMark
  k_with "pyIter ref" => fail
  k_with "halt iter" => skip
  k_with "halt while" => skip
  k_steps
  refine unhalt ?_
  (rename Fr _ _ _ _ => lF)
  (rename News _ _ _ _ => lN)
  with_unfolding_all refine' ls_list (σ := Addr × List Value × Nat × List Int) (Mu := fun _ => []) (ps := fun c => [(Str.ofString "octets", Value.ref c.1)]) (Facts := fun L9 c => (c.1, listOf c.2.1.toArray c.2.2.1) ∈ L9 ∧ IntsAre c.2.1 c.2.2.2) (stored := [Str.ofString "v", Str.ofString "digits"]) (P := fun i c => (∀ r, Stream (c.2.2.2 ++ r) (told.take i) r) ∧ (c.2.2.2.length : Int) ≤ 333335 * i) (adr := []) (c₀ := (_, [], 0, [])) (by rfl) lF lN (List.Mem.tail _ hm) rfl ownOff_nil ?kf ?kk ⟨fun r => by simpa using Stream.nil r, by simp⟩ ?turn ?done
  case kk => kst_all
  case kf => exact ⟨List.Mem.head _, .nil⟩
  case turn =>
    rintro i v ⟨oa, ovs, on, oct⟩ nw u h tk own hv hsub o1 o2 o3 _ ⟨hoa, hoi⟩ ⟨hP, hPl⟩ F9 N9
    obtain ⟨n, t, rfl, hn⟩ := ints_at hi hv
    dsimp only [kstB] at F9 hoa hoi hP hPl N9
    have hLo := hoi.length
    have hi9 : i < 9 := by rw [← hlen]; exact (List.getElem?_eq_some_iff.mp hn).1
    have hn1 := hb n (List.mem_of_getElem? hn)
    simp only [List.nil_append] at N9
    clear lF lN
    try k_fold
    k_steps
    refine unhalt ?_
    (rename Fr _ _ _ _ => lF)
    (rename News _ _ _ _ => lN)
    have l1' := ‹∀ p ∈ nw ++ own, p.1 < _›
    with_unfolding_all refine' ksw_while (σ := Int × Tok × Addr × List Value × Nat × List Int) (Led := fun c => (c.2.2.1, listOf c.2.2.2.1.toArray c.2.2.2.2.1) :: (nw ++ own)) (ps := fun c => [(Str.ofString "v", Value.int c.1 c.2.1), (Str.ofString "digits", Value.ref c.2.2.1)]) (Facts := fun c => IntsAre c.2.2.2.1 c.2.2.2.2.2 ∧ ∀ p ∈ nw ++ own, p.1 < c.2.2.1) (stored := []) (P := fun c => 0 ≤ c.1 ∧ Enc (c.1.fdiv 64) c.2.2.2.2.2 n ∧ (∀ b ∈ c.2.2.2.2.2, 0 ≤ b ∧ b < 128) ∧ 0 < c.2.2.2.2.2.length ∧ (c.2.2.2.2.2.length : Int) + c.1 ≤ n + 1) (μ := fun c => c.1.toNat) (c₀ := (_, _, _, _, 0, _)) lF lN ⟨.cons _ _ .nil, l1'⟩ ?kk ⟨by omega, enc_one (by omega), ?kp⟩ ?turn
    case kk => kst_all
    case kp =>
      refine ⟨fun b hb' => ?_, Nat.succ_pos _, ?_⟩
      · rw [List.mem_singleton.mp hb', fmod64]; omega
      · simp only [List.length_cons, List.length_nil]; omega
    case turn =>
      rintro ⟨v, tv, d, dvs, dn, digs⟩ u' h' tk' ⟨hdi, hdl⟩ ⟨hv0, henc, hdig, hdp, hds⟩ F8 N8
      dsimp only [kstB] at F8 hdi hdl hv0 henc hdig hdp hds N8
      have hL9 := hdi.length
      clear lF lN l1'
      try k_fold
      k_steps
      case' _ =>
        (rename News _ _ _ _ => nE)
        (try simp only [List.push_toArray] at nE)
        refine' ksw_end (c' := (_, _, _, _, _, _)) (by assumption) nE ?ain ⟨?fi, ?fl⟩ ?all ?same ⟨?p1, ?p2, ?p3, ?p4, ?p5⟩ ?less
        case ain => kst_in
        case all => kst_all
        case same => ksw_same
        case fi => assumption
        case fl => exact allLt_all (And.right (And.right (by assumption)))
        case p1 => dsimp only; rw [fdiv64]; omega
        case p2 => exact enc_more hv0 henc
        case p3 =>
          intro b hb'
          rcases List.mem_cons.mp hb' with rfl | hb'
          · rw [fmod64]; omega
          · exact hdig b hb'
        case p4 => exact Nat.succ_pos _
        case p5 => simp only [List.length_append, List.length_cons, List.length_nil]; rw [fdiv64]; omega
        case less => dsimp only; rw [fdiv64]; omega
      (rename News _ _ _ _ => nE)
      (rename ¬ (64 ≤ v) => hv64)
      have hD9 : AllLt _ (nw ++ own) := And.right (by assumption)
      refine' ls_end (c := (_, _, _, _)) (add := [(_, _)]) (by assumption) nE hsub o1 o2 o3 ?ain ?oin rfl ?hw ?hb ⟨List.Mem.head _, ?fi⟩ ?all ?same ⟨tape_step hP hn (tape_head (by omega) hv0 henc hdig), ?pl⟩
      case ain => kst_in
      case oin => intro p hp; kst_mem
      case fi => assumption
      case all => kst_all
      case same => kst_same
      case hw => intro q hq; rw [List.mem_singleton.mp hq]; exact allLt_off hD9
      case hb => exact ownOff_nil
      case pl => simp only [List.length_append, List.length_set]; omega
  case done =>
    rintro ⟨oa, ovs, on, oct⟩ nw u h tk hsub _ _ ⟨hoa, hoi⟩ ⟨hP, hPl⟩ F9 N9
    dsimp only [kstB] at F9 hoa hoi hP hPl N9
    have hLo := hoi.length
    have hvl : vs.length = 9 := by rw [hi.length, hlen]
    rw [hvl] at hP hPl
    have ht9 : told.take 9 = told := List.take_of_length_le (Nat.le_of_eq hlen)
    rw [ht9] at hP
    have hR := tape_range hP
    simp only [List.nil_append] at N9
    clear lF lN
    try k_fold
    k_steps
    (rename News _ _ _ _ => nE)
    exact hret oct hP (by omega) _ _ _ ⟨_, rfl⟩ (by k_asm) (news_sub nE (fun p hp => by have hq := hsub p (.tail _ hp); kst_mem))
end Mine
end PartN3
section PartN4
open PySem PySem.W PyProof.Rows PySem.Spec PySem.Calls

set_option maxRecDepth 100000
set_option maxHeartbeats 8000000
namespace Mine
theorem band64 {b : Int} (h : 0 ≤ b ∧ b < 256) : Builtin.bitAnd b 64 = 64 * (b / 64 % 2) := by
  obtain ⟨n, rfl⟩ := Int.eq_ofNat_of_zero_le h.1
  have q : ∀ n : Fin 256, Builtin.bitAnd ((n : Nat) : Int) 64 = 64 * (((n : Nat) : Int) / 64 % 2) := by decide +kernel
  exact q ⟨n, by lia⟩
theorem band63 {b : Int} (h : 0 ≤ b ∧ b < 256) : Builtin.bitAnd b 63 = b % 64 := by
  obtain ⟨n, rfl⟩ := Int.eq_ofNat_of_zero_le h.1
  have q : ∀ n : Fin 256, Builtin.bitAnd ((n : Nat) : Int) 63 = ((n : Nat) : Int) % 64 := by decide +kernel
  exact q ⟨n, by lia⟩
theorem bor64 {k x : Int} (hk : 0 ≤ k) (hx : 0 ≤ x ∧ x < 64) : Builtin.bitOr (k * 2 ^ Int.toNat 6) x = k * 64 + x := by
  obtain ⟨a, rfl⟩ := Int.eq_ofNat_of_zero_le hk
  obtain ⟨b, rfl⟩ := Int.eq_ofNat_of_zero_le hx.1
  have e6 : (2 : Int) ^ Int.toNat 6 = 64 := by decide
  rw [e6]
  have hb : b < 2 ^ 6 := by lia
  have q := Nat.two_pow_add_eq_or_of_lt hb a
  have e1 : ((a : Int) * 64).toNat = 2 ^ 6 * a := by lia
  have e2 : (b : Int).toNat = b := by lia
  unfold Builtin.bitOr Builtin.bitAnd Builtin.bitNot
  have d1 : decide (0 ≤ -((a : Int) * 64) - 1) = false := decide_eq_false (by lia)
  have d2 : decide (0 ≤ -(b : Int) - 1) = false := decide_eq_false (by lia)
  rw [d1, d2]
  dsimp only
  have n1 : (-(-((a : Int) * 64) - 1) - 1).toNat = 2 ^ 6 * a := by lia
  have n2 : (-(-(b : Int) - 1) - 1).toNat = b := by lia
  rw [n1, n2, ← q]
  lia
theorem enc_le {v : Int} : ∀ {d : List Int} {acc : Int}, Enc acc d v → 0 ≤ acc → acc ≤ v
  | [], _, e, _ => e.elim
  | b :: r, acc, ⟨h0, h1, e⟩, ha => by
    rcases e with ⟨_, _, h⟩ | ⟨_, h⟩
    · lia
    · have := enc_le h (by lia)
      lia
structure VarI (ns : List Int) (v : Int) (r : List Int) (last : Nat) (b val : Int) (j : Nat) (d : List Int) : Prop where
  range : 0 ≤ b ∧ b < 256
  vl : 0 ≤ val ∧ val ≤ 400000
  drop : ns.drop j = d ++ r
  at_ : j + d.length = last
  more : (d = [] ∧ b / 64 % 2 = 0 ∧ val = v) ∨ (b / 64 % 2 = 1 ∧ Enc val d v)
theorem c_varint (w : World) {p : Program} {loose : List Str} {mean : ExcName → Option Value} {mg mb : Str → Option Value} (news : Led) (it : Addr) (bs : Array UInt8) (tb : Tok) (i : Nat) (ns d r : List Int) (v : Int) 
    (hbs : ∀ (j : Nat) (n : Int), ns[j]? = some n → ∃ c : UInt8, bs[j]? = some c ∧ (c.toNat : Int) = n) (hd : ns.drop i = d ++ r) (he : Enc 0 d v) (hv : v ≤ 400000) (hoff : OwnOff news [it]) :
  Tell PySem.Challenge.rw_sr0074_02.row.prog w (hd02.heap_39 w.params) p loose mean mg mb 45 [.ref it] ((it, itObj bs tb i) :: news) 10 100 (fun _ => True)
    (fun Go => Go ((it, itObj bs tb (i + d.length)) :: news) (fun r => ∃ t, r = .int v t)) := by
  k_fill
  k_with_none
  k_with "w exec While" => (k_extra "halt while"; refine halt ?_)
  k_with "w call builtin:next" => (k_here; (with_reducible show wpAny _ _ (call (Value.builtin "next") [Value.ref _]) _ _ _); k_dflt (refine' bi_next ?zqk1 ?zqk2 ?zqk3 ?zqk4 ?_; (case zqk1 => k_asm); (case zqk2 => k_asm); (case zqk3 => k_upd); (case zqk4 => assumption); k_whole); intro h' tk' F' N'; (try k_sweep))
  unfold Tell
  intro dp un gd cn cs a ccd cl outer A₀ base h₀ L m s Q E B F X N T hk hl hdp hu hret
  refine wpAny_call ?_
  k_dflt cell_enter
  have hKd := kdMark
  k_with "halt while" => skip
  cases d with
  | nil => exact he.elim
  | cons b0 d' =>
  obtain ⟨c0, hc0, hcb⟩ := hbs i b0 (by have := congrArg (fun l => l[0]?) hd; simpa using this)
  k_steps
  refine unhalt ?_
  (rename Fr _ _ _ _ => lF)
  (rename News _ _ _ _ => lN)
  with_unfolding_all refine' ksw_while (σ := Int × Tok × Int × Tok × Nat × List Int) (Led := fun c => (it, itObj bs tb c.2.2.2.2.1) :: news) (ps := fun c => [(Str.ofString "b", Value.int c.1 c.2.1), (Str.ofString "val", Value.int c.2.2.1 c.2.2.2.1)]) (Facts := fun c => True) (stored := []) (P := fun c => VarI ns v r (i + (b0 :: d').length) c.1 c.2.2.1 c.2.2.2.2.1 c.2.2.2.2.2) (μ := fun c => c.2.2.2.2.2.length) (c₀ := (_, _, _, _, i + 1, d')) lF lN trivial ?kk ?kp ?turn
  case kk => kst_all
  case kp =>
    dsimp only
    subst hcb
    obtain ⟨h0, h1, h2⟩ := he
    rw [band63 ⟨h0, h1⟩]
    refine ⟨⟨h0, h1⟩, by constructor <;> omega, ?_, by simp only [List.length_cons]; omega, ?_⟩
    · have := congrArg List.tail hd; simpa using this
    · rcases h2 with ⟨h3, h4, h5⟩ | ⟨h3, h4⟩
      · exact .inl ⟨h3, h4, by omega⟩
      · refine .inr ⟨h3, ?_⟩
        rw [show (0 : Int) * 64 + (c0.toNat : Int) % 64 = (c0.toNat : Int) % 64 by omega] at h4
        exact h4
  case turn =>
    rintro ⟨bv, tv, val, tvl, j, dd⟩ u' h' tk' _ hP F8 N8
    dsimp only [kstB] at F8 hP N8
    clear lF lN
    have hbv := hP.range
    have hvl := hP.vl
    rcases hP.more with ⟨hdd, hz, hve⟩ | ⟨hz, hen⟩
    · have hz' : Builtin.bitAnd bv 64 = 0 := by rw [band64 hbv, hz]; rfl
      try k_fold
      k_steps
      · exact absurd hz' (by assumption)
      · (rename News _ _ _ _ => nE)
        have hj := hP.at_
        subst hdd
        exact hret _ _ _ ⟨_, by rw [hve]⟩ (by k_asm) (by rw [← hj]; exact nE)
    · have hz' : Builtin.bitAnd bv 64 ≠ 0 := by rw [band64 hbv, hz]; decide
      cases dd with
      | nil => exact hen.elim
      | cons b1 dd' =>
      obtain ⟨c1, hc1, hcb1⟩ := hbs j b1 (by have := congrArg (fun l => l[0]?) hP.drop; simpa using this)
      try k_fold
      k_steps
      · (rename News _ _ _ _ => nE)
        refine' ksw_end (c' := (_, _, _, _, j + 1, dd')) (by assumption) nE (fun _ h => h) trivial ?zall ?zsame ?zp (Nat.lt_succ_self _)
        case zall => kst_all
        case zsame => ksw_same
        case zp =>
          dsimp only
          subst hcb1
          obtain ⟨h0, h1, h2⟩ := hen
          rw [band63 ⟨h0, h1⟩, bor64 hvl.1 (by omega)]
          have hle : val * 64 + (c1.toNat : Int) % 64 ≤ v := by
            rcases h2 with ⟨_, _, h5⟩ | ⟨_, h4⟩
            · omega
            · exact enc_le h4 (by omega)
          refine ⟨⟨h0, h1⟩, by constructor <;> omega, ?_, by have := hP.at_; simp only [List.length_cons] at this ⊢; omega, ?_⟩
          · have := congrArg List.tail hP.drop; simpa using this
          · rcases h2 with ⟨h3, h4, h5⟩ | ⟨h3, h4⟩
            · exact .inl ⟨h3, h4, by omega⟩
            · exact .inr ⟨h3, h4⟩
      · exact absurd (by assumption) hz'
theorem c_varintU (w : World) {p : Program} {loose : List Str} {mean : ExcName → Option Value} {mg mb : Str → Option Value} {news news' : Led} {it : Addr} {bs : Array UInt8} {tb : Tok} {i : Nat} {ns d r : List Int} {v : Int}
    (U : Upd it (itObj bs tb i) (itObj bs tb (i + d.length)) news news')
    (hbs : ∀ (j : Nat) (n : Int), ns[j]? = some n → ∃ c : UInt8, bs[j]? = some c ∧ (c.toNat : Int) = n) (hd : ns.drop i = d ++ r) (he : Enc 0 d v) (hv : v ≤ 400000) :
  Tell PySem.Challenge.rw_sr0074_02.row.prog w (hd02.heap_39 w.params) p loose mean mg mb 45 [.ref it] news 10 100 (fun _ => True)
    (fun Go => Go news' (fun r => ∃ t, r = .int v t)) := by
  obtain ⟨pre, post, rfl, rfl, ha, hb⟩ := U.split
  intro dp un gd cn cs a ccd cl outer A₀ base h₀ L m s Q E B F X N T hk hl hdp hu hret
  refine c_varint w (pre ++ post) it bs tb i ns d r v hbs hd he hv ?_ dp un gd cn cs a ccd cl outer A₀ base h₀ L m s Q E B F X (news_sub N ?_) T hk hl hdp hu ?_
  · intro q hq b hb'
    rw [List.mem_singleton.mp hb']
    rcases List.mem_append.mp hq with hq | hq
    · exact ha q hq
    · exact hb q hq
  · intro q hq
    rcases List.mem_cons.mp hq with rfl | hq
    · exact List.mem_append.mpr (.inr (.head _))
    · rcases List.mem_append.mp hq with hq | hq
      · exact List.mem_append.mpr (.inl hq)
      · exact List.mem_append.mpr (.inr (.tail _ hq))
  · intro r' h' tk' hr F' N'
    refine hret r' h' tk' hr F' (news_sub N' ?_)
    intro q hq
    rcases List.mem_append.mp hq with hq | hq
    · exact .tail _ (List.mem_append.mpr (.inl hq))
    · rcases List.mem_cons.mp hq with rfl | hq
      · exact .head _
      · exact .tail _ (List.mem_append.mpr (.inr hq))
end Mine
end PartN4
section PartN5
open PySem PySem.W PyProof.Rows PySem.Spec PySem.Calls

set_option maxRecDepth 100000
set_option maxHeartbeats 8000000
namespace Mine
theorem c_iseof (w : World) {p : Program} {loose : List Str} {mean : ExcName → Option Value} {mg mb : Str → Option Value} (news : Led) (x : Int) (t : Tok) :
  Tell PySem.Challenge.rw_sr0074_02.row.prog w (hd02.heap_39 w.params) p loose mean mg mb 86 [.int x t] news 2 40 (fun _ => True) (fun Go => Go news (fun r => r = .bool (decide (x = 0)))) := by
  k_fill
  k_with_none
  unfold Tell
  intro dp un gd cn cs a ccd cl outer A₀ base h₀ L m s Q E B F X N T hk hl hdp hu hret
  refine wpAny_call ?_
  k_dflt cell_enter
  k_steps
  exact hret _ _ _ rfl (by k_asm) (by k_asm)
theorem c_isterm (w : World) {p : Program} {loose : List Str} {mean : ExcName → Option Value} {mg mb : Str → Option Value} (news : Led) (x : Int) (t : Tok) :
  Tell PySem.Challenge.rw_sr0074_02.row.prog w (hd02.heap_39 w.params) p loose mean mg mb 72 [.int x t] news 2 40 (fun _ => True) (fun Go => Go news (fun r => r = .bool (decide (x < 256)))) := by
  k_fill
  k_with_none
  unfold Tell
  intro dp un gd cn cs a ccd cl outer A₀ base h₀ L m s Q E B F X N T hk hl hdp hu hret
  refine wpAny_call ?_
  k_dflt cell_enter
  k_steps
  exact hret _ _ _ rfl (by k_asm) (by k_asm)
theorem c_isnont (w : World) {p : Program} {loose : List Str} {mean : ExcName → Option Value} {mg mb : Str → Option Value} (news : Led) (x : Int) (t : Tok) :
  Tell PySem.Challenge.rw_sr0074_02.row.prog w (hd02.heap_39 w.params) p loose mean mg mb 79 [.int x t] news 2 40 (fun _ => True) (fun Go => Go news (fun r => r = .bool (decide (256 ≤ x)))) := by
  k_fill
  k_with_none
  unfold Tell
  intro dp un gd cn cs a ccd cl outer A₀ base h₀ L m s Q E B F X N T hk hl hdp hu hret
  refine wpAny_call ?_
  k_dflt cell_enter
  k_steps
  exact hret _ _ _ rfl (by k_asm) (by k_asm)
theorem c_iseofB (w : World) {p : Program} {loose : List Str} {mean : ExcName → Option Value} {mg mb : Str → Option Value} {news : Led} {x : Int} {t : Tok} {b : Bool} (hb : decide (x = 0) = b) :
  Tell PySem.Challenge.rw_sr0074_02.row.prog w (hd02.heap_39 w.params) p loose mean mg mb 86 [.int x t] news 2 40 (fun _ => True) (fun Go => Go news (fun r => r = .bool b)) := by
  subst hb
  exact c_iseof w news x t
end Mine
end PartN5
section PartN6
open PySem PySem.W PyProof.Rows PySem.Spec PySem.Calls

set_option maxRecDepth 100000
set_option maxHeartbeats 8000000
namespace Mine
theorem byte_get {ns : List Int} (h : ∀ b ∈ ns, 0 ≤ b ∧ b < 256) : ∀ (j : Nat) (n : Int), ns[j]? = some n → ∃ c : UInt8, (byteArr ns)[j]? = some c ∧ (c.toNat : Int) = n := by
  intro j n hn
  have hb := h n (List.mem_of_getElem? hn)
  refine ⟨n.toNat.toUInt8, ?_, ?_⟩
  · simp [byteArr, hn]
  · have : n.toNat < 256 := by lia
    simp [Nat.mod_eq_of_lt this]; lia
structure ReadI (told ns rd : List Int) (i : Nat) (rest t : List Int) : Prop where
  all : told ++ [0] = rd ++ t
  drop : ns.drop i = rest
  str : Stream rest t [64]
  ne : rd ≠ []
theorem c_read (w : World) {p : Program} {loose : List Str} {mean : ExcName → Option Value} {mg mb : Str → Option Value} (news : Led) (oct told : List Int) (t : Tok) (hs : ∀ r, Stream (oct ++ r) told r)
    (hlen : told.length = 9) (hb : ∀ v ∈ told, 1 ≤ v ∧ v ≤ 333334) :
  Tell0 PySem.Challenge.rw_sr0074_02.row.prog w (hd02.heap_39 w.params) p loose mean mg mb 255 [.bytes (byteArr (oct ++ [0, 64])) t] news 30 200
    (fun Go => ∀ a us n, IntsAre us (told ++ [0]) → Off a news → Go ((a, listOf us.toArray n) :: news) (fun r => r = .ref a)) := by
  k_fill
  k_with_none
  k_with "w exec While" => (k_extra "halt while"; refine halt ?_)
  k_with "w exec While Compare cons nil" => (k_extra "halt while"; refine halt ?_)
  k_with "w call ref" => (k_here; k_extra "my call")
  k_with "w call builtin:next" => (k_here; (with_reducible show wpAny _ _ (call (Value.builtin "next") [Value.ref _]) _ _ _); k_dflt (refine' bi_end ?zqk0 ?zqk1 ?zqk2 ?zqk3 ?zqk4 ?_; (case zqk0 => exact rfl); (case zqk1 => k_asm); (case zqk2 => k_asm); (case zqk3 => k_upd); (case zqk4 => assumption); k_whole); intro h' h'' e' F' N' x'; (try k_sweep))
  k_with "w call builtin:next" => (k_here; (with_reducible show wpAny _ _ (call (Value.builtin "next") [Value.ref _]) _ _ _); k_dflt (refine' bi_nextN ?zqk1 ?zqk2 ?zqk3 ?zqk4 ?_; (case zqk1 => k_asm); (case zqk2 => k_asm); (case zqk3 => k_upd); (case zqk4 => assumption); k_whole); intro h' tk' F' N'; (try k_sweep))
  k_with "w call builtin:iter" => (k_here; (with_reducible show wpAny _ _ (call (Value.builtin "iter") [Value.bytes _ _]) _ _ _); k_dflt (refine' bi_iter ?zqk1 ?zqk2 ?_; (case zqk1 => k_asm); (case zqk2 => k_asm); k_whole); intro l' h' F' N' l1; (try k_lt l1); (try k_sweep))
  unfold Tell0
  intro dp un gd cn cs a ccd cl A₀ base h₀ L m s Q E B F X N T hk XB TB hdp hu hret
  refine wpAny_call ?_
  k_dflt (refine' code_try ?k1 ?k2 ?k3 ?k4 ?k5 ?kA ?kF ?kK ?k6 ?k7 ?k8 ?k9 ?kB ?_ ?c2 ?c3 ?c4 ?c5; (case kA => exact rfl); (case kF => exact rfl); (case kK => assumption); (case k1 => k_asm); (case k2 => k_asm); (case k3 => k_asm); (case k4 => k_asm); (case k5 => k_asm); (case k6 => k_is); (case k7 => k_is); (case k8 => ktr_room); (case k9 => exact BindsTo.of_eq rfl); (case c5 => decide); (case kB => exact locs rfl); (case c2 => exact rfl); (case c3 => exact rfl); (case c4 => exact rfl); k_whole)
  intro g' L' h' FG' F' N' B' X' T' D'
  (try dsimp only)
  (try k_fold)
  have hKd := kdMark
  have hR := tape_range hs
  have hbs := byte_get hR
  have hS : Stream (oct ++ [0, 64]) (told ++ [0]) [64] := (hs ([0] ++ [64])).snoc ⟨by decide, by decide, .inl ⟨rfl, by decide, by decide⟩⟩
  obtain ⟨v0, t0, ht0⟩ : ∃ v0 t0, told ++ [0] = v0 :: t0 := by
    cases told with
    | nil => cases hlen
    | cons x y => exact ⟨x, _, rfl⟩
  have hb0 : ∀ v ∈ told ++ [0], 0 ≤ v ∧ v ≤ 333334 := by
    intro v hv
    rcases List.mem_append.mp hv with hv | hv
    · have := hb v hv; omega
    · rw [List.mem_singleton.mp hv]; omega
  have hv0 := hb0 v0 (by rw [ht0]; exact .head _)
  rw [ht0] at hS
  obtain ⟨d0, r0, hd0, he0, hS0⟩ := hS.inv
  have hdr : (oct ++ [0, 64]).drop 0 = d0 ++ r0 := hd0
  k_with "my call" => first | (k_dflt (refine' Tell.use (c_iseofB w ?kb) ?k1 ?k2 ?k3 ?k4 ?k5 ?kK trivial ?kd ?ku ?_); (case kb => assumption); (case k1 => k_asm); (case k2 => k_asm); (case k3 => k_asm); (case k4 => k_asm); (case k5 => k_asm); (case kK => first | exact rfl | assumption); (case kd => ktr_room); (case ku => ktr_units); intro r9 h9 tk9 hr9 F9 N9; subst hr9; (try dsimp only); (try k_fold)) | (k_dflt (refine' Tell.use (c_varintU w (bs := byteArr (oct ++ [0, 64])) ?kU ?kbs ?kdr ?ken ?kv) ?k1 ?k2 ?k3 ?k4 ?k5 ?kK trivial ?kd ?ku ?_); (case kbs => exact hbs); (case kdr => assumption); (case ken => assumption); (case kv => omega); (case k1 => k_asm); (case k2 => k_asm); (case k3 => k_asm); (case k4 => k_asm); (case k5 => k_asm); (case kU => k_upd); (case kK => first | exact rfl | assumption); (case kd => ktr_room); (case ku => ktr_units); intro r9 h9 tk9 hr9 F9 N9; (obtain ⟨t9, e9⟩ := hr9; subst e9); (try dsimp only); (try k_fold))
  k_with "halt while" => skip
  k_steps
  refine unhalt ?_
  (rename Fr _ _ _ _ => lF)
  (rename News _ _ _ _ => lN)
  obtain ⟨lR, I, e1, e2⟩ := led2 lN
  subst e1 e2
  (rename (_ ∧ AllLt _ _) => hl1)
  have hoff : Off lR news := fun q hq e => absurd (allLt_all hl1.2 q hq) (by rw [e]; exact Nat.lt_irrefl _)
  with_unfolding_all refine' ksw_while (σ := List Value × List Int × Nat × Nat × List Int × List Int) (Led := fun c => (lR, listOf c.1.toArray c.2.2.1) :: (I, itObj (byteArr (oct ++ [0, 64])) t c.2.2.2.1) :: news) (ps := fun c => []) (Facts := fun c => IntsAre c.1 c.2.1) (stored := []) (P := fun c => ReadI told (oct ++ [0, 64]) c.2.1 c.2.2.2.1 c.2.2.2.2.1 c.2.2.2.2.2) (μ := fun c => c.2.2.2.2.2.length) (c₀ := ([_], [v0], 0, _, r0, t0)) lF lN (.cons _ _ .nil) (List.forall_mem_nil _) ?zp ?zturn
  case zp => exact ⟨ht0, by rw [hd0]; simp, hS0, by simp⟩
  case zturn =>
    rintro ⟨us, rd, nr, i, rest, tt⟩ u' h' tk' hri hP F8 N8
    dsimp only [kstB] at F8 hri hP N8
    clear lF lN
    have hrl := hri.length
    have hlen2 : rd.length + tt.length = 10 := by have := congrArg List.length hP.all; simp [hlen] at this; omega
    have hrp : 0 < rd.length := List.length_pos_iff.mpr hP.ne
    cases tt with
    | nil =>
      have hq := read_last0 hP.all hrp
      have hrest := hP.str.inv_nil
      have hdrop : (oct ++ [0, 64]).drop i = [64] := hP.drop.trans hrest
      have hx64 : ∃ c : UInt8, (byteArr (oct ++ [0, 64]))[i]? = some c ∧ (c.toNat : Int) = 64 := hbs i 64 (by have := congrArg (fun l => l[0]?) hdrop; simpa using this)
      have hxend : (byteArr (oct ++ [0, 64]))[i + 1]? = none := by
        have := congrArg List.length hdrop
        simp at this
        simp [byteArr]
        omega
      clear he0 hdr
      k_with_none
      k_with "w exec While" => (k_extra "halt while"; refine halt ?_)
      k_with "w exec While Compare cons nil" => (k_extra "halt while"; refine halt ?_)
      k_with "w call ref" => (k_here; k_extra "my call")
      k_with "w call builtin:next" => (k_here; (with_reducible show wpAny _ _ (call (Value.builtin "next") [Value.ref _]) _ _ _); k_dflt (refine' bi_end ?zqk0 ?zqk1 ?zqk2 ?zqk3 ?zqk4 ?_; (case zqk0 => exact rfl); (case zqk1 => k_asm); (case zqk2 => k_asm); (case zqk3 => k_upd); (case zqk4 => assumption); k_whole); intro h' h'' e' F' N' x'; (try k_sweep))
      k_with "w call builtin:next" => (k_here; (with_reducible show wpAny _ _ (call (Value.builtin "next") [Value.ref _]) _ _ _); k_dflt (refine' bi_nextN ?zqk1 ?zqk2 ?zqk3 ?zqk4 ?_; (case zqk1 => k_asm); (case zqk2 => k_asm); (case zqk3 => k_upd); (case zqk4 => assumption); k_whole); intro h' tk' F' N'; (try k_sweep))
      k_with "w call builtin:iter" => (k_here; (with_reducible show wpAny _ _ (call (Value.builtin "iter") [Value.bytes _ _]) _ _ _); k_dflt (refine' bi_iter ?zqk1 ?zqk2 ?_; (case zqk1 => k_asm); (case zqk2 => k_asm); k_whole); intro l' h' F' N' l1; (try k_lt l1); (try k_sweep))
      k_with "my call" => first | (k_dflt (refine' Tell.use (c_iseofB w ?kb) ?k1 ?k2 ?k3 ?k4 ?k5 ?kK trivial ?kd ?ku ?_); (case kb => assumption); (case k1 => k_asm); (case k2 => k_asm); (case k3 => k_asm); (case k4 => k_asm); (case k5 => k_asm); (case kK => first | exact rfl | assumption); (case kd => ktr_room); (case ku => ktr_units); intro r9 h9 tk9 hr9 F9 N9; subst hr9; (try dsimp only); (try k_fold)) | (refine wpAny_call ?_; k_dflt (refine' code_defS ?k1 ?k2 ?k3 ?k4 ?k5 ?XB ?TB ?D ?T0 ?kA ?k6 ?k7 ?k8 ?k9 ?kB ?_ ?cK ?c2 ?c3 ?c4 ?c5; (case kA => exact rfl); (case k2 => k_asm); (case k1 => k_asm); (case XB => assumption); (case TB => assumption); (case D => assumption); (case T0 => first | assumption | exact KtsTurn.refl); (case k3 => k_asm); (case k4 => k_asm); (case k5 => k_asm); (case k6 => k_is); (case k7 => k_is); (case k8 => ktr_room); (case k9 => first | exact binds_K (by k_in) rfl (by k_is) rfl rfl rfl | exact BindsTo.of_eq rfl); (case kB => exact locs rfl); (case cK => first | exact rfl | assumption); (case c2 => exact rfl); (case c3 => exact rfl); (case c4 => exact rfl); (case c5 => decide); k_whole; intro g' L' h' FG' F' N' B' X' T' D'; (try dsimp only); (try k_lift B'); (try k_fold)))
      try k_fold
      k_steps
      have hall : told ++ [0] = rd := by simpa using hP.all
      (rename News _ _ _ _ => nE)
      refine hret lR us nr (hall ▸ hri) hoff _ _ _ rfl (by k_asm) (news_sub nE (fun p hp => by rcases List.mem_cons.mp hp with h | h; exact h ▸ .head _; exact .tail _ (.tail _ h)))
    | cons v1 t1 =>
      have hq := read_last hP.all hrp (fun x hx => (hb x hx).1)
      obtain ⟨d1, r1, hd1, he1, hS1⟩ := hP.str.inv
      have hv1 := hb0 v1 (by rw [hP.all]; exact List.mem_append.mpr (.inr (.head _)))
      have hdr1 : (oct ++ [0, 64]).drop i = d1 ++ r1 := hP.drop.trans hd1
      k_with_none
      k_with "w exec While" => (k_extra "halt while"; refine halt ?_)
      k_with "w exec While Compare cons nil" => (k_extra "halt while"; refine halt ?_)
      k_with "w call ref" => (k_here; k_extra "my call")
      k_with "w call builtin:next" => (k_here; (with_reducible show wpAny _ _ (call (Value.builtin "next") [Value.ref _]) _ _ _); k_dflt (refine' bi_end ?zqk0 ?zqk1 ?zqk2 ?zqk3 ?zqk4 ?_; (case zqk0 => exact rfl); (case zqk1 => k_asm); (case zqk2 => k_asm); (case zqk3 => k_upd); (case zqk4 => assumption); k_whole); intro h' h'' e' F' N' x'; (try k_sweep))
      k_with "w call builtin:next" => (k_here; (with_reducible show wpAny _ _ (call (Value.builtin "next") [Value.ref _]) _ _ _); k_dflt (refine' bi_nextN ?zqk1 ?zqk2 ?zqk3 ?zqk4 ?_; (case zqk1 => k_asm); (case zqk2 => k_asm); (case zqk3 => k_upd); (case zqk4 => assumption); k_whole); intro h' tk' F' N'; (try k_sweep))
      k_with "w call builtin:iter" => (k_here; (with_reducible show wpAny _ _ (call (Value.builtin "iter") [Value.bytes _ _]) _ _ _); k_dflt (refine' bi_iter ?zqk1 ?zqk2 ?_; (case zqk1 => k_asm); (case zqk2 => k_asm); k_whole); intro l' h' F' N' l1; (try k_lt l1); (try k_sweep))
      k_with "my call" => first | (k_dflt (refine' Tell.use (c_iseofB w ?kb) ?k1 ?k2 ?k3 ?k4 ?k5 ?kK trivial ?kd ?ku ?_); (case kb => assumption); (case k1 => k_asm); (case k2 => k_asm); (case k3 => k_asm); (case k4 => k_asm); (case k5 => k_asm); (case kK => first | exact rfl | assumption); (case kd => ktr_room); (case ku => ktr_units); intro r9 h9 tk9 hr9 F9 N9; subst hr9; (try dsimp only); (try k_fold)) | (k_dflt (refine' Tell.use (c_varintU w (bs := byteArr (oct ++ [0, 64])) ?kU ?kbs ?kdr ?ken ?kv) ?k1 ?k2 ?k3 ?k4 ?k5 ?kK trivial ?kd ?ku ?_); (case kbs => exact hbs); (case kdr => assumption); (case ken => assumption); (case kv => omega); (case k1 => k_asm); (case k2 => k_asm); (case k3 => k_asm); (case k4 => k_asm); (case k5 => k_asm); (case kU => k_upd); (case kK => first | exact rfl | assumption); (case kd => ktr_room); (case ku => ktr_units); intro r9 h9 tk9 hr9 F9 N9; (obtain ⟨t9, e9⟩ := hr9; subst e9); (try dsimp only); (try k_fold))
      clear hdr he0
      try k_fold
      k_steps
      (rename News _ _ _ _ => nE)
      (try simp only [List.push_toArray] at nE)
      refine' ksw_end (c' := (_, rd ++ [v1], _, i + d1.length, r1, t1)) (by assumption) nE ?ain ?zints ?zall ?zsame ?zP ?zless
      case ain => intro q hq; exact hq
      case zints => exact hri.append (.cons _ _ .nil)
      case zall => kst_all
      case zsame => ksw_same
      case zP => exact ⟨by rw [hP.all]; simp, by rw [← List.drop_drop, hdr1]; simp, hS1, by simp⟩
      case zless => exact Nat.lt_succ_self _
end Mine
end PartN6
section PartN7
open PySem PySem.W PyProof.Rows PySem.Spec PySem.Calls

set_option maxRecDepth 100000
set_option maxHeartbeats 8000000
namespace Mine
/-- as Tell, with no guard around -/
noncomputable def TellS (prog : Program) (w : World) (K : Frag) (p : Program) (loose : List Str) (mean : ExcName → Option Value) (mg mb : Str → Option Value) (f : Addr) (vs : List Value) (news : Led) (dep uns : Nat)
    (Base : Heap → Prop) (Ret : (Led → (Value → Prop) → Prop) → Prop) : Prop :=
  ∀ (dp un : Nat) (cn : Str) (cs : Scope) (a : Addr) (ccd : Value) (cl : List (Str × Addr)) (outer : List Env) (A₀ : Around) (base h₀ : Heap) (L : Addr) (m : Str → Option Value) (s : Shared) (Q E : Value → Shared → Prop),
    Below A₀ base outer h₀ → Fr h₀ L s.heap m → K.In h₀ → News h₀ L s.heap news → Top p loose mean mg mb h₀ → cs.kind = .function → Base base → dp + dep < recursionLimit → un + uns < cLine →
    (Ret fun news' good => ∀ r h' tk', good r → Fr h₀ L h' m → News h₀ L h' news' → Q r { s with heap := h', toks := tk' }) →
    wpAny (model prog w) (ktrTop dp un (some []) cn cs L a ccd cl outer) (call (.ref f) vs) Q E s
theorem TellS.use {prog : Program} {w : World} {K : Frag} {p : Program} {loose : List Str} {mean : ExcName → Option Value} {mg mb : Str → Option Value} {f : Addr} {vs : List Value} {news : Led} {dep uns : Nat}
    {Base : Heap → Prop} {Ret : (Led → (Value → Prop) → Prop) → Prop} (C : TellS prog w K p loose mean mg mb f vs news dep uns Base Ret)
    {dp un : Nat} {cn : Str} {cs : Scope} {a : Addr} {ccd : Value} {cl : List (Str × Addr)} {outer : List Env} {A₀ : Around} {base h₀ : Heap} {L : Addr} {m : Str → Option Value} {s : Shared} {Q E : Value → Shared → Prop}
    (B : Below A₀ base outer h₀) (F : Fr h₀ L s.heap m) (X : K.In h₀) (N : News h₀ L s.heap news) (T : Top p loose mean mg mb h₀) (hk : cs.kind = .function) (hb : Base base) (hd : dp + dep < recursionLimit) (hu : un + uns < cLine)
    (ret : Ret fun news' good => ∀ r h' tk', good r → Fr h₀ L h' m → News h₀ L h' news' → Q r { s with heap := h', toks := tk' }) :
    wpAny (model prog w) (ktrTop dp un (some []) cn cs L a ccd cl outer) (call (.ref f) vs) Q E s := C _ _ _ _ _ _ _ _ _ _ _ _ _ _ _ _ B F X N T hk hb hd hu ret

noncomputable def b3D (x : Bool × Bool × Bool) : Dat := .tuple [.bool x.1, .bool x.2.1, .bool x.2.2]
noncomputable def b3P (x : Bool × Bool × Bool) : PyData := .tuple [.bool x.1, .bool x.2.1, .bool x.2.2]
theorem via_rows {h₀ : Heap} {news : Led} : ∀ {bs : List (Bool × Bool × Bool)} {vs : List Value}, DatAll news vs (bs.map b3D) → ReadsViaAll h₀ news vs (bs.map b3P)
  | [], vs, h => by cases h; exact ReadsViaAll.nil
  | b :: bs, vs, h => by
    cases h with
    | cons h r =>
      refine ReadsViaAll.cons ?_ (via_rows r)
      cases h with
      | tuple hm hall =>
        cases hall with
        | cons h1 hall =>
        cases hall with
        | cons h2 hall =>
        cases hall with
        | cons h3 hall =>
        cases hall
        cases h1; cases h2; cases h3
        exact fun h hk hn => ⟨_, Reads.tuple (hn _ hm) rfl rfl (.cons (.bool _) (.cons (.bool _) (.cons (.bool _) .nil)))⟩
theorem via_list {h₀ : Heap} {news : Led} {a : Addr} {n : Nat} {bs : List (Bool × Bool × Bool)} {vs : List Value} (hm : (a, listOf vs.toArray n) ∈ news) (h : DatAll news vs (bs.map b3D)) : ReadsVia h₀ news (.ref a) (.list (bs.map b3P)) := fun h' hk hn => by
  obtain ⟨as, r⟩ := via_rows (h₀ := h₀) h h' hk hn
  exact ⟨_, Reads.list (hn _ hm) rfl rfl r⟩
theorem b3_len (x : Bool × Bool × Bool) : (b3P x).shown.length ≤ 40 := by
  obtain ⟨a, b, c⟩ := x
  revert a b c
  decide
theorem text_le : ∀ (ts : List Str) (k : Nat) (acc : Str), (∀ t ∈ ts, t.length ≤ 40) → (textFrom k acc ts).length ≤ acc.length + 42 * ts.length
  | [], k, acc, _ => Nat.le_refl _
  | t :: r, k, acc, h => by
    have h1 := text_le r (k + 1) (acc ++ (if k > 0 then ", " else "" : String) ++ t) fun u hu => h u (.tail _ hu)
    have e : (acc ++ (if k > 0 then ", " else "" : String) ++ t).length = acc.length + (if k > 0 then 2 else 0) + t.length := by
      rw [strLen_append, strLen_append]
      split <;> rfl
    have e2 : (if k > 0 then 2 else 0) ≤ 2 := by split <;> lia
    rw [e] at h1
    have h2 := h t (.head _)
    show (textFrom (k + 1) _ r).length ≤ _
    simp only [List.length_cons]
    lia
theorem shownAll_mem : ∀ (ds : List PyData) (t : Str), t ∈ PyData.shownAll ds → ∃ d ∈ ds, t = d.shown
  | [], t, h => nomatch h
  | d :: ds, t, h => by
    rcases List.mem_cons.mp h with rfl | h
    · exact ⟨d, .head _, rfl⟩
    · obtain ⟨e, he, rfl⟩ := shownAll_mem ds t h
      exact ⟨e, .tail _ he, rfl⟩
theorem shownAll_len : ∀ ds : List PyData, (PyData.shownAll ds).length = ds.length
  | [] => rfl
  | _ :: ds => congrArg (· + 1) (shownAll_len ds)
theorem rows_len (bs : List (Bool × Bool × Bool)) (hl : bs.length ≤ 100) : (PyData.list (bs.map b3P)).shown.length ≤ sizeLine := by
  show (textFrom 0 "[" (PyData.shownAll (bs.map b3P)) ++ ("]" : Str)).length ≤ sizeLine
  have h1 := text_le (PyData.shownAll (bs.map b3P)) 0 "[" (fun t ht => by
    obtain ⟨d, hd, rfl⟩ := shownAll_mem _ _ ht
    obtain ⟨b, _, rfl⟩ := List.mem_map.mp hd
    exact b3_len b)
  rw [shownAll_len, List.length_map] at h1
  have e1 : (Str.ofString "[").length = 1 := by decide
  have e2 : (Str.ofString "]").length = 1 := by decide
  rw [strLen_append, e2]
  rw [e1] at h1
  simp only [sizeLine]
  lia
theorem rows_show : ∀ bs : List (Bool × Bool × Bool), PyData.showableAll (bs.map b3P) = true
  | [] => rfl
  | b :: bs => by show (_ && PyData.showableAll (bs.map b3P)) = true; rw [rows_show bs]; rfl
theorem rows_dict : ∀ bs : List (Bool × Bool × Bool), PyData.hasDictAll (bs.map b3P) = false
  | [] => rfl
  | b :: bs => by show (_ || PyData.hasDictAll (bs.map b3P)) = false; rw [rows_dict bs]; rfl
theorem rows_depth : ∀ bs : List (Bool × Bool × Bool), PyData.depthAll (bs.map b3P) ≤ 1
  | [] => by decide
  | b :: bs => by
    show max _ (PyData.depthAll (bs.map b3P)) ≤ 1
    exact Nat.max_le.mpr ⟨Nat.le_refl 1, rows_depth bs⟩
section
variable {prog : Program} {w : World} {A : Around} {h₀ : Heap} {L : Addr} {m : Str → Option Value} {env : Env} {elt ct : Expr} {x : Str} {scope : Scope} {cl : List (Str × Addr)} {s : Shared} {S : Led → Prop} {Fin : List Value → Led → Prop}
/-- str of a list of rows of three bools -/
theorem str_rows {E : Value → Shared → Prop} {Q : Value → Shared → Prop} {news : Led} {a : Addr} {n : Nat} {bs : List (Bool × Bool × Bool)} {vs : List Value} (F : Fr h₀ L s.heap m) (N : News h₀ L s.heap news) (hm : (a, listOf vs.toArray n) ∈ news) (hd : DatAll news vs (bs.map b3D)) (hl : bs.length ≤ 100) (hg : A.guards = some []) (hu : A.units + 8 < cLine)
    (hQ : ∀ h' u tk, Fr h₀ L h' m → News h₀ L h' news → Q (.str (PyData.list (bs.map b3P)).shown u) { s with heap := h', toks := tk }) : wpAny (model prog w) A (call (.type "str") [.ref a]) Q E s :=
  str_viaB 2 (via_list hm hd) F N (rows_show bs) (rows_dict bs) rfl hg (Nat.succ_le_succ (rows_depth bs)) (by lia) hQ (rows_len bs hl)
/-- over a list of ints: each turn makes one datum -/
theorem comp_dats {vs : List Value} {ns : List Int} (hi : IntsAre vs ns) (news : Led) (D : Int → Dat)
    (turn : ∀ n t I oI Cn oC Dd m₂ h tk ys nw (E' : Value → Shared → Prop), n ∈ ns → LCg.NsObj oC m₂ → m₂ x = some (.int n t) → Fr h₀ L h m → News h₀ L h ((I, oI) :: (Cn, oC) :: (Dd, LCg.lst ys) :: (nw ++ news)) → LCg.Off3 I Cn Dd (nw ++ news) → ((@Ne Nat I Cn) ∧ (@Ne Nat I Dd) ∧ (@Ne Nat Cn Dd)) →
      wpAny (model prog w) A (eval elt (compEnvC scope cl Cn env)) (LCg.CompEnd h₀ L m { s with heap := h, toks := tk } I oI Cn oC Dd (LCg.lst ys) S (fun y nw' => ∃ nw2, nw' = nw2 ++ (nw ++ news) ∧ DatIn nw' y (D n))) E' { s with heap := h, toks := tk })
    (fin : ∀ ys nw, DatAll (nw ++ news) ys (ns.map D) → Fin ys (nw ++ news)) :
    LCg.CompRest prog w A h₀ L m env elt x scope cl s S (fun i v => vs.toArray[i]? = some v) Fin vs.toArray.size 0 [] news := by
  refine comp_inv (fun i ys nw => ∃ nw2, nw = nw2 ++ news ∧ DatAll nw ys ((ns.take i).map D)) vs.toArray.size ?_ ?_ _ 0 [] news (by lia) ⟨[], rfl, .nil⟩
  · rintro i v I oI Cn oC Dd m₂ h tk ys nw E' hin hv ⟨nw2, rfl, hd⟩ ho hx F N off ne
    have hlt : i < ns.length := by rw [← hi.length]; simpa using hin
    obtain ⟨t, ht⟩ := hi.get i ns[i] (by simp [hlt])
    have ev : v = .int ns[i] t := by
      have : vs[i]? = some v := by simpa using hv
      rw [ht] at this; exact (Option.some.inj this).symm
    subst ev
    refine wpAny_mono (turn _ t I oI Cn oC Dd m₂ h tk ys nw2 E' (List.getElem_mem hlt) ho hx F N off ne) (fun y s₂ q => ?_) fun _ _ e => e
    obtain ⟨h', tk', nw', es, F', N', off', hS, nw3, rfl, hy⟩ := q
    refine ⟨h', tk', _, es, F', N', off', hS, nw3 ++ nw2, by rw [List.append_assoc], ?_⟩
    rw [show ns.take (i + 1) = ns.take i ++ [ns[i]] from by rw [List.take_add_one, List.getElem?_eq_getElem hlt]; rfl, List.map_append]
    exact (hd.mono (fun p hp => List.mem_append.mpr (.inr hp))).append (.cons hy .nil)
  · rintro ys nw ⟨nw2, rfl, hd⟩
    refine fin ys nw2 ?_
    have : ns.take vs.toArray.size = ns := by rw [List.size_toArray, hi.length]; exact List.take_length
    rwa [this] at hd
end

theorem comp_sub1 {I C D x : Addr × Obj} {r : Led} : ∀ p ∈ I :: C :: D :: x :: r, p ∈ x :: I :: C :: D :: r := fun p hp => by
  rcases List.mem_cons.mp hp with rfl | hp
  · exact .tail _ (.head _)
  rcases List.mem_cons.mp hp with rfl | hp
  · exact .tail _ (.tail _ (.head _))
  rcases List.mem_cons.mp hp with rfl | hp
  · exact .tail _ (.tail _ (.tail _ (.head _)))
  rcases List.mem_cons.mp hp with rfl | hp
  · exact .head _
  · exact .tail _ (.tail _ (.tail _ (.tail _ hp)))

noncomputable def kindB (v : Int) : Bool × Bool × Bool := (decide (v < 256), decide (256 ≤ v), decide (v = 0))
theorem c_kinds (w : World) {p : Program} {loose : List Str} {mean : ExcName → Option Value} {mg mb : Str → Option Value} (news : Led) (l : Addr) (vs : List Value) (n : Nat) (ns : List Int) (hm : (l, listOf vs.toArray n) ∈ news) (hi : IntsAre vs ns) (hlen : ns.length = 9) :
  TellS PySem.Challenge.rw_sr0074_02.row.prog w (hd02.heap_39 w.params) p loose mean mg mb 260 [.ref l] news 10 100 (fun _ => True)
    (fun Go => Go news (fun r => r = .bool true)) := by
  k_fill
  k_with_none
  k_with "w eval ListComp" => (k_here; k_extra "comp yes"; k_dflt (refine LCg.ListComp_U (F₀ := by k_asm) (by with_unfolding_all rfl) (by decide) (by rfl) (by decide) (by rfl) ?_))
  k_with "w call ref" => (k_here; k_extra "my call")
  k_with "w call type:str" => (k_here; k_extra "my str"; refine halt ?_)
  unfold TellS
  intro dp un cn cs a ccd cl outer A₀ base h₀ L m s Q E B F X N T hk hl hdp hu hret
  refine wpAny_call ?_
  k_dflt cell_enter
  have hKd := kdMark
  have hvl := hi.length
  k_with "comp yes" => skip
  k_with "my call" => (k_dflt (first | refine' Tell.use (c_isterm w _ _ _) ?k1 ?k2 ?k3 ?k4 ?k5 ?kK trivial ?kd ?ku ?_ | refine' Tell.use (c_isnont w _ _ _) ?k1 ?k2 ?k3 ?k4 ?k5 ?kK trivial ?kd ?ku ?_ | refine' Tell.use (c_iseof w _ _ _) ?k1 ?k2 ?k3 ?k4 ?k5 ?kK trivial ?kd ?ku ?_); (case k1 => k_asm); (case k2 => k_asm); (case k3 => k_asm); (case k4 => k_asm); (case k5 => k_asm); (case kK => first | exact rfl | assumption); (case kd => ktr_room); (case ku => ktr_units); intro r9 h9 tk9 hr9 F9 N9; subst hr9; (try dsimp only); (try k_fold))
  k_with "my str" => skip
  k_steps
  refine LCg.CompSrc.ledger (by rfl) (by k_asm) (by k_asm) (.tail _ (.tail _ hm)) ?hsz ?_
  case hsz => rw [List.size_toArray, hvl, hlen]; decide
  intro g9
  refine comp_ints hi _ (fun n c => True) ?_ ?_
  · intro n t I oI Cn oC D m₂ h tk ys E' hn ho hx F9 N9 off9 ne9
    k_steps
    refine LCg.CompEnd.intro (by k_asm) (by assumption) _ ?sub off9 ?src ⟨rfl, _, _, rfl, trivial⟩
    case sub => kqd_sub
    case src => exact Or.inr ⟨_, .tail _ (.tail _ hm), rfl, _, rfl⟩
  · intro ys cs hys hlen9 hcs
    k_steps
    (rename IntsAre _ (ns ++ [0] ++ cs) => hA)
    have hAl := hA.length
    have h19 : (ns ++ [0] ++ cs).length = 19 := by simp [hlen, hlen9]
    refine LCg.CompSrc.ledger (by rfl) (by k_asm) (by k_asm) (.head _) ?hsz2 ?_
    case hsz2 => rw [List.size_toArray, hAl, h19]; decide
    intro g8
    refine comp_dats hA _ (fun v => b3D (kindB v)) ?_ ?_
    · intro v t I oI Cn oC Dd m₂ h tk yy nw E' hn ho hx F9 N9 off9 ne9
      clear hret
      k_steps
      (rename News _ _ _ _ => lN)
      obtain ⟨aT, e1⟩ := led1 lN
      subst e1
      refine' LCg.CompEnd.intro (news' := (aT, _) :: (nw ++ _)) (by k_asm) lN ?sub2 ?off2 ?src2 ⟨[(aT, _)], rfl, ?dat2⟩
      case sub2 => exact comp_sub1
      case src2 => exact Or.inr ⟨_, .tail _ (List.mem_append.mpr (.inr (.head _))), rfl, _, rfl⟩
      case dat2 => exact DatIn.tuple (.head _) (.cons (.bool _) (.cons (.bool _) (.cons (.bool _) .nil)))
      case off2 =>
        (rename (_ ∧ _ ∧ _ ∧ AllLt _ _) => hl9)
        exact ⟨⟨Nat.ne_of_gt hl9.1, Nat.ne_of_gt hl9.2.1, Nat.ne_of_gt hl9.2.2.1⟩, off9⟩
    · intro yy nw hyy
      k_steps
      refine unhalt ?_
      have hyy2 := (List.map_map (f := kindB) (g := b3D) (l := ns ++ [0] ++ cs)).symm ▸ hyy
      refine' str_rows (by k_asm) (by k_asm) (.head _) (hyy2.mono (fun p hp => .tail _ hp)) ?len ?gd ?un ?_
      case len => rw [List.length_map, h19]; decide
      case gd => rfl
      case un => ktr_units
      intro h8 u8 tk8 F8 N8
      try k_fold
      k_steps
      refine LCg.CompSrc.ledger (by rfl) (by k_asm) (by k_asm) (.tail _ (List.mem_append.mpr (.inr (.head _)))) ?hsz3 ?_
      case hsz3 => rw [List.size_toArray, hAl, h19]; decide
      intro g7
      refine comp_dats hA _ (fun v => b3D (kindB v)) ?_ ?_
      · intro v t I oI Cn oC Dd m₂ h tk yz nz E' hn ho hx F9 N9 off9 ne9
        clear hret
        k_steps
        (rename News _ _ _ _ => lN)
        obtain ⟨aT, e1⟩ := led1 lN
        subst e1
        refine' LCg.CompEnd.intro (news' := (aT, _) :: (nz ++ _)) (by k_asm) lN ?sub3 ?off3 ?src3 ⟨[(aT, _)], rfl, ?dat3⟩
        case sub3 => exact comp_sub1
        case src3 => exact Or.inr ⟨_, .tail _ (List.mem_append.mpr (.inr (.tail _ (List.mem_append.mpr (.inr (.head _)))))), rfl, _, rfl⟩
        case dat3 => exact DatIn.tuple (.head _) (.cons (.bool _) (.cons (.bool _) (.cons (.bool _) .nil)))
        case off3 =>
          (rename (_ ∧ _ ∧ _ ∧ AllLt _ _) => hl9)
          exact ⟨⟨Nat.ne_of_gt hl9.1, Nat.ne_of_gt hl9.2.1, Nat.ne_of_gt hl9.2.2.1⟩, off9⟩
      · intro yz nz hyz
        k_steps
        refine unhalt ?_
        have hyz2 := (List.map_map (f := kindB) (g := b3D) (l := ns ++ [0] ++ cs)).symm ▸ hyz
        refine' str_rows (by k_asm) (by k_asm) (.head _) (hyz2.mono (fun p hp => .tail _ hp)) ?len3 ?gd3 ?un3 ?_
        case len3 => rw [List.length_map, h19]; decide
        case gd3 => rfl
        case un3 => ktr_units
        intro h8 u8 tk8 F8 N8
        try k_fold
        k_steps
        (rename News _ _ _ _ => nE)
        refine hret _ _ _ (by simp) (by k_asm) (news_sub nE (fun p hp => ?_))
        exact .tail _ (List.mem_append.mpr (.inr (.tail _ (List.mem_append.mpr (.inr (.tail _ (.tail _ (.tail _ (.tail _ hp)))))))))
end Mine
end PartN7
section PartRX
open PySem PySem.W PyProof.Rows PySem.Spec PySem.Calls PyProof.V Builtin PySem.Builtin.Re

set_option maxRecDepth 100000
namespace Mine
theorem rx_plain : PlainAttrs "re.Pattern" :=
  ⟨⟨"object.__getattribute__", by rw [typeLookup_type, builtinLookup_eq_fast]; kernel_rfl, by decide +kernel⟩, by rw [typeLookup_type, builtinLookup_eq_fast]; kernel_rfl⟩
theorem rx_slot_search : Slot "re.Pattern" "search" "re.Pattern.search" :=
  .of (owner := "re.Pattern") (n := "search") (by rw [typeLookup_type, builtinLookup_eq_fast]; kernel_rfl) (by decide +kernel) (by decide +kernel) (by decide +kernel)
    (by first | exact .inl (by decide +kernel) | exact .inr (by decide +kernel)) (by rw [isSubtype_type]; kernel_rfl)
theorem rx_type_search : typeOf (.builtin "re.Pattern.search") = pure (.type "method_descriptor") := by show builtinType _ = _; rw [builtinType_eq_fast]; kernel_rfl
theorem rx_entry_search : entryFor table "re.Pattern.search" = some Builtin.«re.Pattern.search» := entryFor_of_tree (by kernel_rfl)
theorem rx_args_search (a b : Value) : argsOk "re.Pattern.search" ⟨[a, b], []⟩ := by unfold argsOk; kernel_rfl
theorem rx_slot_sub : Slot "re.Pattern" "sub" "re.Pattern.sub" :=
  .of (owner := "re.Pattern") (n := "sub") (by rw [typeLookup_type, builtinLookup_eq_fast]; kernel_rfl) (by decide +kernel) (by decide +kernel) (by decide +kernel)
    (by first | exact .inl (by decide +kernel) | exact .inr (by decide +kernel)) (by rw [isSubtype_type]; kernel_rfl)
theorem rx_type_sub : typeOf (.builtin "re.Pattern.sub") = pure (.type "method_descriptor") := by show builtinType _ = _; rw [builtinType_eq_fast]; kernel_rfl
theorem rx_entry_sub : entryFor table "re.Pattern.sub" = some Builtin.«re.Pattern.sub» := entryFor_of_tree (by kernel_rfl)
theorem rx_args_sub (a b c : Value) : argsOk "re.Pattern.sub" ⟨[a, b, c], []⟩ := by unfold argsOk; kernel_rfl
theorem rx_entry_loop : entryFor table "re.Pattern.sub.loop" = some Builtin.«re.Pattern.sub.loop» := entryFor_of_tree (by kernel_rfl)
/-- a compiled pattern on the heap, of the text kind, without groups -/
structure Pat (h : Heap) (p : Addr) (code : Array Nat) : Prop where
  obj : ∃ x fl c ws n oc, h.get? p = some { cls := .type "re.Pattern", data := .fields #[x, fl, .int 0 0, .none, .none, .ref c, .int 0 0] } ∧ h.get? c = some oc ∧ oc.data = .seq ws n ∧ (ws.map reRawOf).map (·.toNat) = code
theorem Pat.typeIs {s : Shared} {p : Addr} {code : Array Nat} (P : Pat s.heap p code) : s.TypeIs (.ref p) "re.Pattern" := by
  obtain ⟨x, fl, c, ws, n, oc, ho, _⟩ := P.obj
  exact ⟨_, ho, rfl⟩
theorem Pat.keeps {h h' : Heap} {p : Addr} {code : Array Nat} (P : Pat h p code) (k : ∀ b o, h.get? b = some o → h'.get? b = some o) : Pat h' p code := by
  obtain ⟨x, fl, c, ws, n, oc, ho, hc, r⟩ := P.obj
  exact ⟨x, fl, c, ws, n, oc, k _ _ ho, k _ _ hc, r⟩
/-- the machine, driven -/
noncomputable def drv : Nat → Sre.M → Option Sre.M
  | 0, _ => none
  | k + 1, m => if (m.runFor 4).outcome.isSome then some (m.runFor 4) else drv k (m.runFor 4)
noncomputable def failsB (k : Nat) (m : Sre.M) : Bool :=
  match drv k m with
  | some m' => match m'.outcome with
    | some .failed => true
    | _ => false
  | none => false
/-- where it matched: the start and the end -/
noncomputable def spanB (k : Nat) (m : Sre.M) : Option (Nat × Nat) :=
  match drv k m with
  | some m' => match m'.outcome with
    | some .matched => some (m'.start, m'.handed)
    | _ => none
  | none => none
section
variable {prog : Program} {w : World} {M : Model} {A : Around} {E : Value → Shared → Prop} {s : Shared} {h₀ : Heap} {L : Addr} {m : Str → Option Value} {news : Led}
theorem wp_drive {m' : Sre.M} {Q : Sre.M → Shared → Prop} : ∀ {k n : Nat} {m : Sre.M}, drv k m = some m' → k ≤ n → Q m' s → wpAny M A (reDrive n m) Q E s
  | 0, _, _, h, _, _ => by cases h
  | k + 1, 0, _, _, hk, _ => absurd hk (Nat.not_succ_le_zero _)
  | k + 1, n + 1, m, h, hk, hQ => by
    unfold drv at h
    unfold reDrive
    show wpAny M A (if (m.runFor 4).outcome.isSome then pure (m.runFor 4) else (rule "sre.turn" >>= fun _ => reDrive n (m.runFor 4))) Q E s
    by_cases hc : (m.runFor 4).outcome.isSome = true
    · rw [if_pos hc] at h ⊢
      cases h
      exact wpAny_pure hQ
    · rw [if_neg hc] at h ⊢
      exact wpAny_bind (wpAny_rule (wp_drive h (Nat.le_of_succ_le_succ hk) hQ))
theorem wp_marks {α : Type} (f : Nat → Bool) (g : Nat → String) (k : Sem α) {Q : α → Shared → Prop} (l : List Nat) (h : wpAny M A k Q E s) :
    wpAny M A ((forIn l PUnit.unit fun i _ => (if f i = true then (rule (g i) >>= fun _ => pure (ForInStep.yield PUnit.unit)) else pure (ForInStep.yield PUnit.unit)) : Sem PUnit) >>= fun _ => k) Q E s := by
  refine wpAny_bind (wpAny_forIn_list _ (fun _ _ s' => s' = s) _ (fun x rest b s₁ e => ?_) (fun b s₁ e => ?_) _ _ rfl)
  · subst e
    split
    · exact wpAny_bind (wpAny_rule (wpAny_pure rfl))
    · exact wpAny_pure rfl
  · subst e
    exact h
theorem wp_run_fail {k : Nat} {m : Sre.M} {Q : Option Sre.M → Shared → Prop} (h : failsB k m = true) (hk : k ≤ 2 ^ 64) (hQ : Q none s) : wpAny M A (reRunToEnd m) Q E s := by
  unfold failsB at h
  split at h
  · rename_i m' e
    split at h
    · rename_i eo
      unfold reRunToEnd
      refine wpAny_bind (wp_drive e hk ?_)
      refine wp_marks _ _ _ _ ?_
      rw [eo]
      exact wpAny_pure hQ
    · cases h
  · cases h
theorem wp_run_ok {k : Nat} {m : Sre.M} {b e : Nat} {Q : Option Sre.M → Shared → Prop} (h : spanB k m = some (b, e)) (hk : k ≤ 2 ^ 64) (hQ : ∀ m', m'.start = b → m'.handed = e → Q (some m') s) : wpAny M A (reRunToEnd m) Q E s := by
  unfold spanB at h
  split at h
  · rename_i m' e
    split at h
    · rename_i eo
      unfold reRunToEnd
      refine wpAny_bind (wp_drive e hk ?_)
      refine wp_marks _ _ _ _ ?_
      rw [eo]
      cases h
      exact wpAny_pure (hQ m' rfl rfl)
    · cases h
  · cases h
theorem wp_fields {p : Addr} {code : Array Nat} {Q : Array Value → Shared → Prop} (P : Pat s.heap p code) (h : ∀ x fl c ws n oc, s.heap.get? c = some oc → oc.data = .seq ws n → (ws.map reRawOf).map (·.toNat) = code → Q #[x, fl, .int 0 0, .none, .none, .ref c, .int 0 0] s) :
    wpAny M A (fieldsOf (.ref p)) Q E s := by
  obtain ⟨x, fl, c, ws, n, oc, ho, hc, hd, r⟩ := P.obj
  exact wpAny_fieldsOf ho rfl (h x fl c ws n oc hc hd r)
theorem wp_items {c : Addr} {ws : Array Value} {n : Nat} {oc : Obj} {Q : Array Int → Shared → Prop} (hc : s.heap.get? c = some oc) (hd : oc.data = .seq ws n) (h : Q (ws.map reRawOf) s) : wpAny M A (reRawItems (.ref c)) Q E s := by
  unfold reRawItems
  exact wpAny_bind (wpAny_seqItems hc hd (wpAny_pure h))
theorem wp_target {p : Addr} {code : Array Nat} {x : Str} {t : Tok} {Q : ReTarget → Shared → Prop} (P : Pat s.heap p code)
    (h : Q { pattern := .ref p, string := .str x t, code := code, text := x.cps, kind := 0, groups := 0, pos := min 0 x.cps.size, lim := min (2 ^ 63 - 1) x.cps.size } s) :
    wpAny M A (reTarget "re.Pattern.search" "search" ⟨[.ref p, .str x t], []⟩) Q E s := by
  unfold reTarget
  refine wpAny_bind (wpAny_of_eq (a := [some (.str x t), none, none]) (by first | rfl | kernel_rfl!) ?_)
  refine wpAny_bind (wpAny_pure ?_)
  refine wpAny_bind (wpAny_pure ?_)
  refine wpAny_bind (wp_fields P fun y fl c ws n oc hc hd r => ?_)
  refine wpAny_bind (wpAny_of_eq (a := (x.cps, 0)) rfl ?_)
  refine wpAny_bind (wpAny_of_eq (a := ()) rfl ?_)
  refine wpAny_bind (wp_items hc hd (wpAny_pure ?_))
  subst r
  exact h
theorem rx_getMethod {name : Str} {id : String} {pl : Sem Bool} {p : Addr} {code : Array Nat} {Q : Value × List Value → Shared → Prop} (slot : Slot "re.Pattern" name id) (hty : typeOf (.builtin id) = pure (.type "method_descriptor")) (P : Pat s.heap p code)
    (h : Q (.builtin id, [.ref p]) s) : wpAny M A (getMethod (.ref p) name pl) Q E s :=
  getMethod_builtin P.typeIs rx_plain slot hty (fun a e => by cases e; obtain ⟨x, fl, c, ws, n, oc, ho, _⟩ := P.obj; exact ⟨_, ho, rfl⟩) h
/-- a search that finds nothing -/
theorem rx_search_none {p : Addr} {code : Array Nat} {x : Str} {t : Tok} {k : Nat} {Q : Value → Shared → Prop} (P : Pat s.heap p code) (hx : x.cps.size ≤ 2 ^ 60) (hk : k ≤ 2 ^ 64) (hf : failsB k (Sre.forSearch code x.cps 0 0 x.cps.size false) = true)
    (h : Q .none s) : wpAny (model prog w) A (call (.builtin "re.Pattern.search") [.ref p, .str x t]) Q E s := by
  refine wpAny_call_entry rx_slot_search P.typeIs rx_entry_search ?_ (rx_args_search _ _)
  unfold Builtin.«re.Pattern.search»
  refine wpAny_bind (wp_target P ?_)
  unfold reAnswer
  dsimp only
  rw [show min 0 x.cps.size = 0 from Nat.zero_min _, show min (2 ^ 63 - 1) x.cps.size = x.cps.size from Nat.min_eq_right (by lia)]
  exact wpAny_bind (wp_run_fail hf hk (wpAny_pure ⟨_, rfl, h⟩))
end
end Mine
end PartRX
section PartRB
open PySem PySem.W PyProof.Rows PySem.Spec PySem.Calls

set_option maxRecDepth 100000
namespace Mine
noncomputable def cName : Array Nat := #[14, 10, 4, 1, 1, 22, 0, 31, 16, 127, 0, 13, 7, 22, 0, 31, 16, 127, 0, 1]
noncomputable def cVal : Array Nat := #[14, 14, 4, 1, 1, 9, 4294966783, 0, 0, 2147483648, 0, 0, 0, 0, 0, 13, 11, 9, 4294966783, 0, 0, 2147483648, 0, 0, 0, 0, 0, 1]
noncomputable def cDot : Array Nat := #[14, 4, 0, 1, 1, 6, 1, 16, 46, 1]
noncomputable def cEnd : Array Nat := #[14, 9, 4, 1, 2, 16, 10, 16, 13, 0, 7, 7, 16, 13, 16, 10, 15, 18, 5, 16, 10, 15, 13, 11, 16, 13, 5, 5, 0, 16, 10, 1, 15, 2, 0, 1]
/-- the table's fields, the list of its headers at H -/
noncomputable abbrev tabDict (w : World) (t : Tok) (H : Addr) : Obj := dictOf [{ hash := PyData.keyHash w.params (Str.ofString "_headers"), key := .str (Str.ofString "_headers") t, val := .ref H }] 1
structure okName (x : Str) : Prop where
  len : x.length ≤ 1000
  fails : failsB 300 (Sre.forSearch cName x.cps 0 0 x.cps.size false) = true
structure okVal (x : Str) : Prop where
  len : x.length ≤ 1000
  fails : failsB 300 (Sre.forSearch cVal x.cps 0 0 x.cps.size false) = true
theorem okName.small {x : Str} (h : okName x) : x.cps.size ≤ 2 ^ 60 := Nat.le_trans h.len (by decide)
theorem okVal.small {x : Str} (h : okVal x) : x.cps.size ≤ 2 ^ 60 := Nat.le_trans h.len (by decide)
noncomputable def rowD (x : Str × Str) : Dat := .tuple [.str x.1, .str x.2]
/-- the table: its rows, and its list apart from all else -/
structure Tb (x d H : Addr) (own T : Led) (vs : List Value) (rows : List (Str × Str)) : Prop where
  dat : DatAll T vs (rows.map rowD)
  sub : ∀ p ∈ T, p ∈ own
  off : @Ne Nat x H ∧ @Ne Nat d H ∧ LCg.Off1 H own
  len : ∀ kv ∈ rows, kv.1.length ≤ 1000 ∧ kv.2.length ≤ 1000
theorem Tb.length {x d H : Addr} {own T : Led} {vs : List Value} {rows : List (Str × Str)} (h : Tb x d H own T vs rows) : vs.length = rows.length := by rw [h.dat.length, List.length_map]
theorem Tb.all {x d H : Addr} {own T : Led} {vs : List Value} {rows : List (Str × Str)} (h : Tb x d H own T vs rows) {ox od : Obj} : ∀ p ∈ (x, ox) :: (d, od) :: own, p.1 ≠ H := fun p hp => by
  rcases List.mem_cons.mp hp with rfl | hp
  · exact h.off.1
  rcases List.mem_cons.mp hp with rfl | hp
  · exact h.off.2.1
  · exact Off.of1 h.off.2.2 p hp
theorem sub13 {a b c e : Addr × Obj} {r : Led} : ∀ p ∈ a :: r, p ∈ a :: b :: c :: e :: r := fun p hp => by
  rcases List.mem_cons.mp hp with rfl | hp
  · exact .head _
  · exact .tail _ (.tail _ (.tail _ (.tail _ hp)))
theorem sub_rot {a b c e : Addr × Obj} {r : Led} : ∀ p ∈ b :: c :: e :: a :: r, p ∈ a :: b :: c :: e :: r := fun p hp => by
  rcases List.mem_cons.mp hp with rfl | hp
  · exact .tail _ (.head _)
  rcases List.mem_cons.mp hp with rfl | hp
  · exact .tail _ (.tail _ (.head _))
  rcases List.mem_cons.mp hp with rfl | hp
  · exact .tail _ (.tail _ (.tail _ (.head _)))
  rcases List.mem_cons.mp hp with rfl | hp
  · exact .head _
  · exact .tail _ (.tail _ (.tail _ (.tail _ hp)))
/-- a row more -/
theorem Tb.add {x d H a : Addr} {own T : Led} {vs : List Value} {rows : List (Str × Str)} (h : Tb x d H own T vs rows) {nm val : Str} {tn tv : Tok} {o : Obj} (ho : o = { cls := .type "tuple", data := .seq #[.str nm tn, .str val tv] }) (ha : a ≠ H) (hnl : nm.length ≤ 1000) (hvl : val.length ≤ 1000) : Tb x d H ((a, o) :: own) ((a, o) :: T) (vs ++ [.ref a]) (rows ++ [(nm, val)]) := by
  subst ho
  refine ⟨?_, fun p hp => ?_, ⟨h.off.1, h.off.2.1, ha, h.off.2.2⟩, fun kv hkv => ?_⟩
  rotate_left
  · rcases List.mem_cons.mp hp with rfl | hp
    · exact .head _
    · exact .tail _ (h.sub p hp)
  · rcases List.mem_append.mp hkv with hkv | hkv
    · exact h.len kv hkv
    · rw [List.mem_singleton.mp hkv]; exact ⟨hnl, hvl⟩
  rw [List.map_append]
  exact (h.dat.mono fun p hp => .tail _ hp).append (.cons (DatIn.tuple (vs := [.str nm tn, .str val tv]) (.head _) (.cons (.str _ _) (.cons (.str _ _) .nil))) .nil)
theorem row_at {own : Led} : ∀ {rows : List (Str × Str)} {vs : List Value}, DatAll own vs (rows.map rowD) → ∀ {i : Nat} {v : Value}, vs[i]? = some v → ∃ k y t1 t2 n a, rows[i]? = some (k, y) ∧ v = .ref a ∧ (a, ({ cls := .type "tuple", data := .seq #[.str k t1, .str y t2] n } : Obj)) ∈ own
  | [], _, h, i, v, hv => by cases h; cases hv
  | r :: rows, vs, h, i, v, hv => by
    cases h with
    | cons h hr =>
      cases i with
      | zero =>
        cases hv
        cases h with
        | tuple hm hall =>
          cases hall with
          | cons h1 hall =>
          cases hall with
          | cons h2 hall =>
          cases hall
          cases h1
          cases h2
          exact ⟨r.1, r.2, _, _, _, _, rfl, rfl, hm⟩
      | succ i => exact row_at hr hv
theorem find_at {α : Type} {f : α → Bool} : ∀ {l : List α} {i : Nat} {x : α}, (∀ y ∈ l.take i, f y = false) → l[i]? = some x → f x = true → l.find? f = some x
  | [], _, _, _, h, _ => by cases h
  | y :: l, 0, x, _, h, hf => by cases h; rw [List.find?_cons, hf]
  | y :: l, i + 1, x, hb, h, hf => by
    rw [List.find?_cons, hb y (.head _)]
    exact find_at (fun z hz => hb z (.tail _ hz)) h hf
theorem find_none {α : Type} {f : α → Bool} {l : List α} (h : ∀ y ∈ l, f y = false) : l.find? f = none := by
  rw [List.find?_eq_none]
  intro x hx
  rw [h x hx]
  exact Bool.false_ne_true
theorem take_one {α : Type} {f : α → Bool} {l : List α} {i : Nat} {x : α} (hb : ∀ y ∈ l.take i, f y = false) (hx : l[i]? = some x) (hf : f x = false) : ∀ y ∈ l.take (i + 1), f y = false := fun y hy => by
  rw [List.take_add_one, hx] at hy
  rcases List.mem_append.mp hy with hy | hy
  · exact hb y hy
  · rw [List.mem_singleton.mp hy]; exact hf
theorem allLt_ne {C : Nat} {own : Led} (h : AllLt C own) : ∀ p ∈ own, p.1 ≠ C := fun p hp => Nat.ne_of_lt (allLt_all h p hp)
theorem allLt_ne1 {C : Nat} {own : Led} (h : AllLt C own) : ∀ p ∈ own, p.1 ≠ C + 1 := fun p hp => Nat.ne_of_lt (Nat.lt_succ_of_lt (allLt_all h p hp))
theorem al0 {C : Nat} {own : Led} (h : AllLt C own) : ∀ p ∈ own, p.1 ≠ C := allLt_ne h
theorem al1 {C : Nat} {own : Led} {p0 : Prop} (h : p0 ∧ AllLt C own) : ∀ p ∈ own, p.1 ≠ C := allLt_ne h.2
theorem al2 {C : Nat} {own : Led} {p0 p1 : Prop} (h : p0 ∧ p1 ∧ AllLt C own) : ∀ p ∈ own, p.1 ≠ C := allLt_ne h.2.2
theorem al3 {C : Nat} {own : Led} {p0 p1 p2 : Prop} (h : p0 ∧ p1 ∧ p2 ∧ AllLt C own) : ∀ p ∈ own, p.1 ≠ C := allLt_ne h.2.2.2
theorem al4 {C : Nat} {own : Led} {p0 p1 p2 p3 : Prop} (h : p0 ∧ p1 ∧ p2 ∧ p3 ∧ AllLt C own) : ∀ p ∈ own, p.1 ≠ C := allLt_ne h.2.2.2.2
theorem al5 {C : Nat} {own : Led} {p0 p1 p2 p3 p4 : Prop} (h : p0 ∧ p1 ∧ p2 ∧ p3 ∧ p4 ∧ AllLt C own) : ∀ p ∈ own, p.1 ≠ C := allLt_ne h.2.2.2.2.2
theorem al6 {C : Nat} {own : Led} {p0 p1 p2 p3 p4 p5 : Prop} (h : p0 ∧ p1 ∧ p2 ∧ p3 ∧ p4 ∧ p5 ∧ AllLt C own) : ∀ p ∈ own, p.1 ≠ C := allLt_ne h.2.2.2.2.2.2
theorem al7 {C : Nat} {own : Led} {p0 p1 p2 p3 p4 p5 p6 : Prop} (h : p0 ∧ p1 ∧ p2 ∧ p3 ∧ p4 ∧ p5 ∧ p6 ∧ AllLt C own) : ∀ p ∈ own, p.1 ≠ C := allLt_ne h.2.2.2.2.2.2.2
theorem al8 {C : Nat} {own : Led} {p0 p1 p2 p3 p4 p5 p6 p7 : Prop} (h : p0 ∧ p1 ∧ p2 ∧ p3 ∧ p4 ∧ p5 ∧ p6 ∧ p7 ∧ AllLt C own) : ∀ p ∈ own, p.1 ≠ C := allLt_ne h.2.2.2.2.2.2.2.2
theorem al9 {C : Nat} {own : Led} {p0 p1 p2 p3 p4 p5 p6 p7 p8 : Prop} (h : p0 ∧ p1 ∧ p2 ∧ p3 ∧ p4 ∧ p5 ∧ p6 ∧ p7 ∧ p8 ∧ AllLt C own) : ∀ p ∈ own, p.1 ≠ C := allLt_ne h.2.2.2.2.2.2.2.2.2
theorem al10 {C : Nat} {own : Led} {p0 p1 p2 p3 p4 p5 p6 p7 p8 p9 : Prop} (h : p0 ∧ p1 ∧ p2 ∧ p3 ∧ p4 ∧ p5 ∧ p6 ∧ p7 ∧ p8 ∧ p9 ∧ AllLt C own) : ∀ p ∈ own, p.1 ≠ C := allLt_ne h.2.2.2.2.2.2.2.2.2.2
theorem al11 {C : Nat} {own : Led} {p0 p1 p2 p3 p4 p5 p6 p7 p8 p9 p10 : Prop} (h : p0 ∧ p1 ∧ p2 ∧ p3 ∧ p4 ∧ p5 ∧ p6 ∧ p7 ∧ p8 ∧ p9 ∧ p10 ∧ AllLt C own) : ∀ p ∈ own, p.1 ≠ C := allLt_ne h.2.2.2.2.2.2.2.2.2.2.2
theorem al3s {C : Nat} {own : Led} {p0 p1 p2 : Prop} (h : p0 ∧ p1 ∧ p2 ∧ AllLt C own) : ∀ p ∈ own, p.1 ≠ C + 1 := allLt_ne1 h.2.2.2
theorem of2 {a : Addr} {news : Led} {p0 p1 : Prop} (h : p0 ∧ p1 ∧ LCg.Off1 a news) : Off a news := Off.of1 h.2.2
theorem seen1 {a : Addr × Obj} {r : Led} (h : a ∈ r) : ∀ p ∈ a :: r, p ∈ r := fun p hp => by
  rcases List.mem_cons.mp hp with rfl | hp
  · exact h
  · exact hp
theorem seen1' {a i c d : Addr × Obj} {r : Led} : ∀ p ∈ i :: c :: d :: r, p ∈ a :: i :: c :: d :: r := fun _ hp => .tail _ hp
theorem filt_one {α : Type} {f : α → Bool} {l : List α} {i : Nat} {x : α} (hx : l[i]? = some x) : (l.take (i + 1)).filter f = (l.take i).filter f ++ (if f x = true then [x] else []) := by
  rw [List.take_add_one, hx, List.filter_append]
  by_cases h : f x = true
  · simp [h]
  · simp [h]
theorem look_96 (w : World) : ∃ x fl c, (hd02.heap_39 w.params).lookup 96 = some { cls := .type "re.Pattern", data := .fields #[x, fl, .int 0 0, .none, .none, .ref c, .int 0 0] } ∧ c = 95 := ⟨_, _, _, rfl, rfl⟩
theorem look_101 (w : World) : ∃ x fl c, (hd02.heap_39 w.params).lookup 101 = some { cls := .type "re.Pattern", data := .fields #[x, fl, .int 0 0, .none, .none, .ref c, .int 0 0] } ∧ c = 100 := ⟨_, _, _, rfl, rfl⟩
theorem look_50 (w : World) : ∃ x fl c, (hd02.heap_39 w.params).lookup 50 = some { cls := .type "re.Pattern", data := .fields #[x, fl, .int 0 0, .none, .none, .ref c, .int 0 0] } ∧ c = 49 := ⟨_, _, _, rfl, rfl⟩
theorem look_55 (w : World) : ∃ x fl c, (hd02.heap_39 w.params).lookup 55 = some { cls := .type "re.Pattern", data := .fields #[x, fl, .int 0 0, .none, .none, .ref c, .int 0 0] } ∧ c = 54 := ⟨_, _, _, rfl, rfl⟩
noncomputable def codeOf (K : Frag) (a : Addr) : Option (Array Nat) := match K.lookup a with
  | some ⟨_, _, .seq ws _, _⟩ => some ((ws.map Builtin.Re.reRawOf).map (·.toNat))
  | _ => none
theorem codeOf_spec {K : Frag} {a : Addr} {code : Array Nat} (h : codeOf K a = some code) : ∃ o ws n, K.lookup a = some o ∧ o.data = .seq ws n ∧ (ws.map Builtin.Re.reRawOf).map (·.toNat) = code := by
  unfold codeOf at h
  split at h
  · rename_i e
    exact ⟨_, _, _, e, rfl, Option.some.inj h⟩
  · cases h
theorem pat_of {w : World} {h₀ h : Heap} {L : Addr} {m : Str → Option Value} {p c : Addr} {code : Array Nat} (X : (hd02.heap_39 w.params).In h₀) (F : Fr h₀ L h m)
    (hp : ∃ x fl c', (hd02.heap_39 w.params).lookup p = some { cls := .type "re.Pattern", data := .fields #[x, fl, .int 0 0, .none, .none, .ref c', .int 0 0] } ∧ c' = c) (hc : codeOf (hd02.heap_39 w.params) c = some code) : Pat h p code := by
  obtain ⟨x, fl, c', hp, rfl⟩ := hp
  obtain ⟨o, ws, n, ho, hd, hw⟩ := codeOf_spec hc
  exact ⟨_, _, _, _, _, _, (X.keeps F.keep) _ _ hp, (X.keeps F.keep) _ _ ho, hd, hw⟩
section
variable {w : World} {h₀ h : Heap} {L : Addr} {m : Str → Option Value}
theorem pat_name (X : (hd02.heap_39 w.params).In h₀) (F : Fr h₀ L h m) : Pat h 96 cName := pat_of X F (look_96 w) (by kernel_rfl)
theorem pat_val (X : (hd02.heap_39 w.params).In h₀) (F : Fr h₀ L h m) : Pat h 101 cVal := pat_of X F (look_101 w) (by kernel_rfl)
theorem pat_dot (X : (hd02.heap_39 w.params).In h₀) (F : Fr h₀ L h m) : Pat h 50 cDot := pat_of X F (look_50 w) (by kernel_rfl)
theorem pat_end (X : (hd02.heap_39 w.params).In h₀) (F : Fr h₀ L h m) : Pat h 55 cEnd := pat_of X F (look_55 w) (by kernel_rfl)
end
theorem join1 (x y : Str) : Txt.join x [y] = y := by rfl
end Mine
end PartRB
section PartTI
open PySem PySem.W PyProof.Rows PySem.Spec PySem.Calls

set_option maxRecDepth 100000
namespace Mine
section
variable {prog : Program} {w : World} {A : Around} {E : Value → Shared → Prop} {s : Shared} {env : Env} {h₀ : Heap} {target : Expr} {body : List Stmt} {Q : Flow → Shared → Prop} {I : Addr} {keep news : Led}
theorem unrPostW_mono {L : Addr} {s₁ : Shared} {its : Led} {rest rest' : (Str → Option Value) → Led → Prop} {f : Flow} {s₂ : Shared} (h : UnrPostW h₀ L s₁ its rest Q f s₂) (hr : ∀ m' n', rest m' n' → rest' m' n') : UnrPostW h₀ L s₁ its rest' Q f s₂ := by
  cases f with
  | ret v => exact h
  | brk => exact h
  | next => obtain ⟨h', tk, m', n', e, F, N, o, r⟩ := h; exact ⟨h', tk, m', n', e, F, N, o, hr _ _ r⟩
  | cont => obtain ⟨h', tk, m', n', e, F, N, o, r⟩ := h; exact ⟨h', tk, m', n', e, F, N, o, hr _ _ r⟩
/-- a for with any target over a written-down list, the ledger unchanged, by an invariant on the names -/
theorem items_inv (xs : List Value) (J : Nat → (Str → Option Value) → Prop) (hk : SubL keep news)
    (turn : ∀ i v m₁ h tk o, xs[i]? = some v → J i m₁ → Fr h₀ env.locals h m₁ → o.cls = .type "list_iterator" → News h₀ env.locals h ((I, o) :: news) →
      wpAny (model prog w) A (assign target env v) (fun _ s₂ => wpAny (model prog w) A (execs body env) (UnrPostW h₀ env.locals { s with heap := h, toks := tk } [(I, o)] (fun m' n' => n' = news ∧ J (i + 1) m') Q) E s₂) E { s with heap := h, toks := tk })
    (fin : ∀ m₁ h tk, J xs.length m₁ → Fr h₀ env.locals h m₁ → News h₀ env.locals h news → Q .next { s with heap := h, toks := tk }) :
    ∀ k i m₁, i + k = xs.length → J i m₁ → ItemsRest prog w A E h₀ env target body Q s [(I, "list_iterator")] keep ((xs.drop i).map .val) m₁ news := by
  intro k
  induction k with
  | zero =>
    intro i m₁ e hJ
    have e' : i = xs.length := by lia
    subst e'
    rw [List.drop_length]
    exact fun h tk F N => fin m₁ h tk hJ F N
  | succ k ih =>
    intro i m₁ e hJ
    have hi : i < xs.length := by lia
    rw [List.drop_eq_getElem_cons hi]
    refine ItemsRest.val fun h tk F o hc N => ?_
    refine wpAny_mono (turn i _ m₁ h tk o (List.getElem?_eq_getElem hi) hJ F hc N) (fun _ s₂ q => wpAny_mono q (fun f s₃ q => unrPostW_mono q fun m' n' hr => ?_) fun _ _ e => e) fun _ _ e => e
    obtain ⟨rfl, hr⟩ := hr
    exact ⟨hk, ih (i + 1) m' (by lia) hr⟩
end
theorem shape2 {m₁ : Str → Option Value} {a b : Str} {A B : Option Value} (ha : m₁ a = A) (hb : m₁ b = B) : m₁ = fun y => if y = a then A else if y = b then B else m₁ y := funext fun y => by
  by_cases h1 : y = a
  · rw [if_pos h1, h1, ha]
  · rw [if_neg h1]
    by_cases h2 : y = b
    · rw [if_pos h2, h2, hb]
    · rw [if_neg h2]
structure TbD (own : Led) (vs : List Value) (rows : List (Str × Str)) : Prop where
  dat : DatAll own vs (rows.map rowD)
  len : ∀ kv ∈ rows, kv.1.length ≤ 1000 ∧ kv.2.length ≤ 1000
theorem TbD.length {own : Led} {vs : List Value} {rows : List (Str × Str)} (h : TbD own vs rows) : vs.length = rows.length := by rw [h.dat.length, List.length_map]
end Mine
end PartTI
section PartSL
open PySem PySem.W PyProof.Rows PySem.Spec PySem.Calls PyProof.V Builtin

set_option maxRecDepth 100000
namespace Mine
section
variable {prog : Program} {w : World} {A : Around} {E : Value → Shared → Prop} {s : Shared} {h₀ : Heap} {L H D sl : Addr} {m : Str → Option Value} {pre post : Led} {its ws : Array Value} {n k : Nat}
/-- xs[:] = ys, both lists of the ledger -/
theorem set_whole {Q : Unit → Shared → Prop} (F : Fr h₀ L s.heap m) (N : News h₀ L s.heap (pre ++ (H, listOf its n) :: post)) (ha : ∀ p ∈ pre, p.1 ≠ H) (hb : ∀ p ∈ post, p.1 ≠ H) (hs : s.heap.IsSliceOf sl .none .none .none) (hD : s.heap.get? D = some (listOf ws k)) (hne : H ≠ D)
    (h1 : its.size + ws.size ≤ 1000)
    (h : ∀ h' n', Fr h₀ L h' m → News h₀ L h' (pre ++ (H, listOf ws n') :: post) → Q () { s with heap := h' }) :
    wpAny (model prog w) A (setItem (.ref H) (.ref sl) (.ref D)) Q E s := by
  have hm := N (H, listOf its n) (List.mem_append_right _ (.head _))
  have ho : s.heap.get? H = some (listOf its n) := hm.1
  have hl : s.heap.IsList H its := ⟨_, ho, rfl, n, rfl⟩
  obtain ⟨os, hos, hcs, hds⟩ := id hs
  have hTs : s.TypeIs (.ref sl) "slice" := ⟨os, hos, hcs⟩
  have hTD : s.TypeIs (.ref D) "list" := ⟨_, hD, rfl⟩
  unfold setItem
  try with_reducible refine wpAny_holding ?_
  first | refine wpAny_bind (wpAny_pure ?_) | skip
  refine wpAny_bind (wpAny_sequenceKey hl.typeIs (by decide) ?_)
  refine wpAny_bind (wpAny_callSpecial?_slot (name := Str.ofString "__setitem__") hl.typeIs slot_list_setitem
    (wpAny_call_entry slot_list_setitem hl.typeIs entry_list_setitem ?_ (args_list_setitem _ _ _)))
  show wpAny _ _ (Builtin.List.listSubscript? (.ref sl) >>= _) _ _ s
  refine wpAny_bind ?_
  unfold Builtin.List.listSubscript?
  refine wpAny_bind (wpAny_specialOf hTs slice_no_index ?_)
  simp only [Option.isNone_none, if_true]
  refine wpAny_pure ?_
  show wpAny _ _ (typeOf (.ref sl) >>= _) _ _ s
  refine wpAny_bind (wpAny_typeOf hTs ?_)
  rw [if_neg (by decide)]
  rw [listSliceParts_eq]
  refine wpAny_bind (wpAny_bind (wpAny_field hos hds (x := .none) rfl (wpAny_bind (wpAny_listPart .none ?_))))
  rw [if_neg (by exact Bool.false_ne_true)]
  refine wpAny_bind (wpAny_field hos hds (x := .none) rfl (wpAny_bind (wpAny_listPart .none ?_)))
  refine wpAny_bind (wpAny_field hos hds (x := .none) rfl (wpAny_bind (wpAny_listPart .none (wpAny_pure ?_))))
  have hsame : Builtin.List.listSameRef (.ref H) (.ref D) = false := by show (H == D) = false; simpa using hne
  rw [hsame]
  refine wpAny_bind (m := Builtin.List.listAllItems (.ref D) _) ?_
  unfold Builtin.List.listAllItems
  refine wpAny_bind (wpAny_typeOf hTD ?_)
  rw [if_pos (by decide)]
  unfold Builtin.List.listItems
  refine wpAny_bind (wpAny_seqItems hD rfl (wpAny_pure ?_))
  refine wpAny_bind (wpAny_bind (wpAny_seqItems ho rfl (wpAny_pure ?_)))
  refine wpAny_bind (wpAny_of_eq (sliceIndices_raw none none none its.size (by simp)) ?_)
  show wpAny _ _ (rule "list.__setitem__.slice" >>= fun _ => _) _ _ s
  refine wpAny_bind (wpAny_rule ?_)
  have hbig : Builtin.List.listTooLong (its.size + ws.size) = false := by
    have h9 : ¬ (its.size + ws.size > sizeLine) := by simp only [sizeLine]; lia
    exact decide_eq_false h9
  rw [hbig]
  simp only [Bool.false_eq_true, if_false]
  show wpAny _ _ (updateSeq H (fun xs => xs.extract 0 0 ++ ws ++ xs.extract (max 0 (its.size : Int)).toNat) >>= fun _ => _) _ _ s
  have hfin : ∃ n', (Obj.mapSeq (fun xs => xs.extract 0 0 ++ ws ++ xs.extract (max 0 (its.size : Int)).toNat) (listOf its n)) = listOf ws n' := by
    have e : its.extract 0 0 ++ ws ++ its.extract (max 0 (its.size : Int)).toNat = ws := by
      have e1 : (max 0 (its.size : Int)).toNat = its.size := by lia
      rw [e1]
      apply Array.ext'
      simp
    unfold Obj.mapSeq
    dsimp only
    rw [e]
    exact ⟨_, rfl⟩
  obtain ⟨n', hn'⟩ := hfin
  refine wpAny_bind (wpAny_updateSeq ho rfl ?_ ?_ ?_)
  · refine wpAny_bind (wpAny_letGo (wpAny_pure ⟨_, rfl, wpAny_pure (h _ n' (F.change (Heap.SameBut.update ..) hm.2.1 hm.2.2) (news_set N ha hb (Heap.SameBut.update ..) ?_))⟩))
    rw [Heap.get?_update_self _ ho (by rw [hn']; rfl), hn']
  · simp only [sizeLine]; lia
  · simp only [Array.size_append, Array.size_extract, sizeLine]; lia
end
end Mine
end PartSL
section PartN8
open PySem PySem.W PyProof.Rows PySem.Spec PySem.Calls

set_option maxRecDepth 100000
set_option maxHeartbeats 8000000
namespace Mine
theorem c_new (w : World) {p : Program} {loose : List Str} {mean : ExcName → Option Value} {mg mb : Str → Option Value} (news : Led) :
  Tell PySem.Challenge.rw_sr0074_02.row.prog w (hd02.heap_39 w.params) p loose mean mg mb 232 [] news 10 100 (fun _ => True)
    (fun Go => ∀ x d H td, Tb x d H news [] [] [] → Go ((H, listOf ([] : List Value).toArray 0) :: (x, instObj 232 d) :: (d, tabDict w td H) :: news) (fun r => r = .ref x)) := by
  k_fill
  k_with_none
  k_with "ent D" => (refine' code_def ?zqk1 ?zqk2 ?zqk3 ?zqk4 ?zqk5 ?zqkA ?zqkF ?zqkK ?zqk6 ?zqk7 ?zqk8 ?zqk9 ?zqkB ?_ ?zqc2 ?zqc3 ?zqc4 ?zqc5; (case zqkA | zqkF => exact rfl); (case zqkK => first | exact rfl | assumption); (case zqk1 | zqk2 | zqk3 | zqk4 | zqk5 => k_asm); (case zqk6 | zqk7 => k_is); (case zqk8 => ktr_room); (case zqk9 => first | exact BindsTo.of_eq rfl | exact binds_K (by k_in) rfl (by k_is) rfl rfl rfl); (case zqc5 => decide); (case zqkB => exact locs rfl); (case zqc2 | zqc3 | zqc4 => exact rfl))
  k_with "w exec For Tuple Name cons nil" => (k_here; (rename Fr _ _ _ _ => lF'); (with_unfolding_all refine' For_turns lF' ?_; k_whole))
  k_with "w pyIter ref" => (k_here; (with_reducible show wpAny _ _ (pyIter (Value.ref _)) (fun it s₂ => TurnsAt _ _ _ _ _ _ _ _ _ it s₂) _ _); (with_unfolding_all refine' iter_listTurns (vs := []) ?zqh ?zqF ?zqN ?zqX ?zqc ?zqd ?_; (case zqh => with_unfolding_all rfl); (case zqF => k_asm); (case zqN => k_asm); (case zqX => k_mem); (case zqc => exact rfl); (case zqd => exact rfl)); intro I' l1; (try k_lt l1))
  unfold Tell
  intro dp un gd cn cs a ccd cl outer A₀ base h₀ L m s Q E B F X N T hk hl hdp hu hret
  refine' call_cls ?k1 ?k2 ?k3 ?k4 ?k5 ?k6 ?_
  case k1 => k_asm
  case k2 => k_asm
  case k3 => k_asm
  case k4 => k_is
  case k5 => k_is
  case k6 => k_is
  intro x' d' h' F' N' l1 l2; (try k_lt l1); (try k_lt2 l2); (try k_sweep)
  k_dflt k_enter
  have hKd := kdMark
  k_steps
  (rename News _ _ _ _ => nE)
  obtain ⟨aH, e1⟩ := led1 nE
  subst e1
  (rename (_ ∧ _ ∧ AllLt _ _) => hl9)
  refine hret _ _ _ _ ⟨.nil, (fun _ h => nomatch h), ⟨Nat.ne_of_lt hl9.1, Nat.ne_of_lt hl9.2.1, off1_of (allLt_ne hl9.2.2)⟩, fun _ h => nomatch h⟩ _ _ _ rfl (by k_asm) nE
end Mine
end PartN8
section PartN9
open PySem PySem.W PyProof.Rows PySem.Spec PySem.Calls

set_option maxRecDepth 100000
set_option maxHeartbeats 8000000
namespace Mine
theorem c_add (w : World) {p : Program} {loose : List Str} {mean : ExcName → Option Value} {mg mb : Str → Option Value} (own T₀ : Led) (x d H : Addr) (td : Tok) (vs : List Value) (n : Nat) (rows : List (Str × Str)) (nm val : Str) (tn tv : Tok) (hT : Tb x d H own T₀ vs rows) (hn : okName nm) (hv : okVal val) (hl : rows.length ≤ 100) :
  Tell PySem.Challenge.rw_sr0074_02.row.prog w (hd02.heap_39 w.params) p loose mean mg mb 229 [.ref x, .str nm tn, .str val tv] ((H, listOf vs.toArray n) :: (x, instObj 232 d) :: (d, tabDict w td H) :: own) 20 200 (fun _ => True)
    (fun Go => ∀ a vs' n' own', Tb x d H ((a, own') :: own) ((a, own') :: T₀) vs' (rows ++ [(nm, val)]) → (H < a ∧ x < a ∧ d < a ∧ AllLt a own) → Go ((H, listOf vs'.toArray n') :: (x, instObj 232 d) :: (d, tabDict w td H) :: (a, own') :: own) (fun r => r = .none)) := by
  k_fill
  k_with_none
  k_with "nX" => (first | exact ltA0 ‹_› | exact ltA1 ‹_› | exact ltA2 ‹_› | exact ltA3 ‹_› | exact ltA4 ‹_› | exact ltA5 ‹_› | exact ltA6 ‹_› | exact ltA7 ‹_› | exact ltA8 ‹_› | exact ltA9 ‹_› | exact ltA10 ‹_› | exact ltA11 ‹_› | exact ltA12 ‹_› | exact ltA13 ‹_› | exact neA0 ‹_› | exact neA1 ‹_› | exact neA2 ‹_› | exact neA3 ‹_› | exact neA4 ‹_› | exact neA5 ‹_› | exact neA6 ‹_› | exact neA7 ‹_› | exact neA8 ‹_› | exact neA9 ‹_› | exact neA10 ‹_› | exact neA11 ‹_› | exact neA12 ‹_›)
  k_with "k_ne" => (first | k_extra "nX" | (refine Ne.symm ?_; k_extra "nX"))
  k_with "k_room" => (ktr_room)
  k_with "w exec For Tuple Name cons nil" => (k_here; (rename Fr _ _ _ _ => lF'); (with_unfolding_all refine' For_turns lF' ?_; k_whole))
  k_with "w getMethod ref" => (k_here; k_dflt (first | (refine rx_getMethod rx_slot_search rx_type_search (pat_name (by k_asm) (by k_asm)) ?_) | (refine rx_getMethod rx_slot_search rx_type_search (pat_val (by k_asm) (by k_asm)) ?_)))
  k_with "w call builtin:re.Pattern.search" => (k_here; k_extra "my search")
  k_with "w call builtin:str.join" => (k_here; k_extra "my join")
  k_with "w call builtin:list.append" => (k_here; k_extra "halt append"; refine halt ?_)
  unfold Tell
  intro dp un gd cn cs a ccd cl outer A₀ base h₀ L m s Q E B F X N T hk hl2 hdp hu hret
  refine wpAny_call ?_
  (refine' kp_more ?k1 ?k2 ?k3 ?k4 ?k5 ?kA ?kF ?kK ?k6 ?k7 ?k8 ?kX ?kM ?kN ?kD ?kR ?kP ?kT ?kB ?_ ?c2 ?c3 ?c4 ?c5; (case kA => exact rfl); (case kF => exact rfl); (case kK => assumption); (case k1 => k_asm); (case k2 => k_asm); (case k3 => k_asm); (case k4 => k_asm); (case k5 => k_asm); (case k6 => k_is); (case k7 => k_is); (case k8 => ktr_room); (case kX => kp_lit); (case kM => exact rfl); (case kN => exact rfl); (case kD => kp_flats); (case kR => exact rfl); (case kP => exact rfl); (case kT => exact fun _ => rfl); (case kB => exact fun _ => locs rfl); (case c5 => decide); (case c2 => exact rfl); (case c3 => exact rfl); (case c4 => exact rfl); k_whole; intro D' o' g' L' h' tk' l1 lo' hs' fs' FG' F' N' B' X' T'; (try k_lt l1); (try dsimp only); (try k_lift B'); (try k_fold))
  have hKd := kdMark
  have hvl := hv.len
  have hvs : vs.length ≤ 100 := by rw [hT.length]; exact hl
  have hoff := hT.off
  have hnl := hn.len
  k_with "my search" => (k_dflt (first | refine rx_search_none (k := 300) (pat_name (by k_asm) (by k_asm)) hn.small (by decide) hn.fails ?_ | refine rx_search_none (k := 300) (pat_val (by k_asm) (by k_asm)) hv.small (by decide) hv.fails ?_))
  k_with "my join" => (k_dflt (refine join_listW (by is_list) (by kct_strs) (by decide +kernel) ?zsum ?_; (case zsum => (simp only [List.map_cons, List.map_nil, List.sum_cons, List.sum_nil, List.length_cons, List.length_nil]; omega)); intro _ _))
  k_steps
  k_with "halt append" => skip
  k_steps
  refine unhalt ?_
  (rename News _ _ _ _ => lN)
  obtain ⟨aT, e1⟩ := led1 lN
  subst e1
  have h9 := And.right (And.right (And.right (by assumption : _ ∧ _ ∧ _ ∧ H < aT ∧ _)))
  have hne : aT ≠ H := Nat.ne_of_gt h9.1
  have nE := news_sub lN sub13
  refine' append_K (by k_asm) nE (Upd.tail hne (Upd.head hT.all)) ?_ ?z
  case z => rw [List.size_toArray]; simp only [sizeLine]; omega
  intro h8 F8 N8
  clear lN nE
  k_with_none
  k_with "nX" => (first | exact ltA0 ‹_› | exact ltA1 ‹_› | exact ltA2 ‹_› | exact ltA3 ‹_› | exact ltA4 ‹_› | exact ltA5 ‹_› | exact ltA6 ‹_› | exact ltA7 ‹_› | exact ltA8 ‹_› | exact ltA9 ‹_› | exact ltA10 ‹_› | exact ltA11 ‹_› | exact ltA12 ‹_› | exact ltA13 ‹_› | exact neA0 ‹_› | exact neA1 ‹_› | exact neA2 ‹_› | exact neA3 ‹_› | exact neA4 ‹_› | exact neA5 ‹_› | exact neA6 ‹_› | exact neA7 ‹_› | exact neA8 ‹_› | exact neA9 ‹_› | exact neA10 ‹_› | exact neA11 ‹_› | exact neA12 ‹_›)
  k_with "k_ne" => (first | k_extra "nX" | (refine Ne.symm ?_; k_extra "nX"))
  k_with "k_room" => (ktr_room)
  k_with "w exec For Tuple Name cons nil" => (k_here; (rename Fr _ _ _ _ => lF'); (with_unfolding_all refine' For_turns lF' ?_; k_whole))
  k_with "w getMethod ref" => (k_here; k_dflt (first | (refine rx_getMethod rx_slot_search rx_type_search (pat_name (by k_asm) (by k_asm)) ?_) | (refine rx_getMethod rx_slot_search rx_type_search (pat_val (by k_asm) (by k_asm)) ?_)))
  k_with "w call builtin:re.Pattern.search" => (k_here; k_extra "my search")
  k_with "w call builtin:str.join" => (k_here; k_extra "my join")
  k_with "w call builtin:list.append" => (k_here; k_extra "halt append"; refine halt ?_)
  k_steps
  (rename News _ _ _ _ => nF)
  simp only [List.push_toArray] at nF
  exact hret aT _ _ _ (hT.add rfl hne hnl hvl) h9 _ _ _ rfl (by k_asm) (news_sub nF sub_rot)
end Mine
end PartN9
section PartN10
open PySem PySem.W PyProof.Rows PySem.Spec PySem.Calls

set_option maxRecDepth 100000
set_option maxHeartbeats 8000000
namespace Mine
theorem c_get (w : World) {p : Program} {loose : List Str} {mean : ExcName → Option Value} {mg mb : Str → Option Value} (own : Led) (x d H : Addr) (td : Tok) (vs : List Value) (n : Nat) (rows : List (Str × Str)) (nm : Str) (tn : Tok) (hT : TbD own vs rows) (hn : okName (Txt.lower nm)) (hl : rows.length ≤ 100) (hnl : nm.length ≤ 1000) :
  Tell PySem.Challenge.rw_sr0074_02.row.prog w (hd02.heap_39 w.params) p loose mean mg mb 179 [.ref x, .str nm tn] ((H, listOf vs.toArray n) :: (x, instObj 232 d) :: (d, tabDict w td H) :: own) 20 200 (fun _ => True)
    (fun Go => Go ((H, listOf vs.toArray n) :: (x, instObj 232 d) :: (d, tabDict w td H) :: own) (fun r => match rows.find? (fun kv => Txt.lower kv.1 == Txt.lower nm) with | some kv => ∃ t, r = .str kv.2 t | none => r = .none)) := by
  k_fill
  k_with_none
  k_with "nX" => (first | exact ltA0 ‹_› | exact ltA1 ‹_› | exact ltA2 ‹_› | exact ltA3 ‹_› | exact ltA4 ‹_› | exact ltA5 ‹_› | exact ltA6 ‹_› | exact ltA7 ‹_› | exact ltA8 ‹_› | exact ltA9 ‹_› | exact ltA10 ‹_› | exact ltA11 ‹_› | exact ltA12 ‹_› | exact ltA13 ‹_› | exact neA0 ‹_› | exact neA1 ‹_› | exact neA2 ‹_› | exact neA3 ‹_› | exact neA4 ‹_› | exact neA5 ‹_› | exact neA6 ‹_› | exact neA7 ‹_› | exact neA8 ‹_› | exact neA9 ‹_› | exact neA10 ‹_› | exact neA11 ‹_› | exact neA12 ‹_›)
  k_with "k_ne" => (first | k_extra "nX" | (refine Ne.symm ?_; k_extra "nX"))
  k_with "k_room" => (ktr_room)
  k_with "ent D" => (refine' code_def ?zqk1 ?zqk2 ?zqk3 ?zqk4 ?zqk5 ?zqkA ?zqkF ?zqkK ?zqk6 ?zqk7 ?zqk8 ?zqk9 ?zqkB ?_ ?zqc2 ?zqc3 ?zqc4 ?zqc5; (case zqkA | zqkF => exact rfl); (case zqkK => assumption); (case zqk1 | zqk2 | zqk3 | zqk4 | zqk5 => k_asm); (case zqk6 | zqk7 => k_is); (case zqk8 => ktr_room); (case zqk9 => first | exact BindsTo.of_eq rfl | exact binds_K (by k_in) rfl (by k_is) rfl rfl rfl); (case zqc5 => decide); (case zqkB => exact locs rfl); (case zqc2 | zqc3 | zqc4 => exact rfl))
  k_with "w exec For Tuple Attribute cons nil" => (k_here; (rename Fr _ _ _ _ => lF'); (with_unfolding_all refine' For_turns lF' ?_; k_whole))
  k_with "w pyIter ref" => (k_here; (with_reducible show wpAny _ _ (pyIter (Value.ref _)) (fun it s₂ => TurnsAt _ _ _ _ _ _ _ _ _ it s₂) _ _); k_extra "halt iter"; refine halt ?_)
  k_with "w getMethod ref" => (k_here; k_dflt (first | (refine rx_getMethod rx_slot_search rx_type_search (pat_name (by k_asm) (by k_asm)) ?_) | (refine rx_getMethod rx_slot_search rx_type_search (pat_val (by k_asm) (by k_asm)) ?_)))
  k_with "w call builtin:re.Pattern.search" => (k_here; k_extra "my search")
  unfold Tell
  intro dp un gd cn cs a ccd cl outer A₀ base h₀ L m s Q E B F X N T hk hl2 hdp hu hret
  refine wpAny_call ?_
  k_dflt k_enter
  have hKd := kdMark
  have hvs : vs.length ≤ 100 := by rw [hT.length]; exact hl
  k_with "my search" => (k_dflt (first | refine rx_search_none (k := 300) (pat_name (by k_asm) (by k_asm)) hn.small (by decide) hn.fails ?_))
  k_with "halt iter" => skip
  k_steps
  refine unhalt ?_
  with_unfolding_all refine' iter_listTurns ?h ?F ?N (.head _) ?c ?d ?_
  case h => with_unfolding_all rfl
  case F => k_asm
  case N => k_asm
  case c => exact rfl
  case d => exact rfl
  intro I hI
  refine items_inv vs (fun i m₁ => ∃ (u : Str → Option Value) (tn' : Tok), m₁ = (fun y => if y = Str.ofString "name" then some (.str (Txt.lower nm) tn') else if y = Str.ofString "default" then some .none else u y) ∧ ∀ kv ∈ rows.take i, (Txt.lower kv.1 == Txt.lower nm) = false) ?zk ?zturn ?zfin _ 0 _ (Nat.zero_add _) ?z0
  case zk => k_subL
  case z0 => exact ⟨_, _, shape2 rfl rfl, fun _ h => nomatch h⟩
  case zturn =>
    rintro i v m₁ h tk o hv ⟨u, tn', rfl, hbad⟩ F8 hc8 N8
    obtain ⟨k9, y9, t1, t2, n9, a9, hr9, rfl, hm9⟩ := row_at hT.dat hv
    have hT9 := News.isTup N8 (.tail _ (.tail _ (.tail _ (.tail _ hm9))))
    have hk9 := (hT.len _ (List.mem_of_getElem? hr9)).1
    k_with_none
    k_with "nX" => (first | exact ltA0 ‹_› | exact ltA1 ‹_› | exact ltA2 ‹_› | exact ltA3 ‹_› | exact ltA4 ‹_› | exact ltA5 ‹_› | exact ltA6 ‹_› | exact ltA7 ‹_› | exact ltA8 ‹_› | exact ltA9 ‹_› | exact ltA10 ‹_› | exact ltA11 ‹_› | exact ltA12 ‹_› | exact ltA13 ‹_› | exact neA0 ‹_› | exact neA1 ‹_› | exact neA2 ‹_› | exact neA3 ‹_› | exact neA4 ‹_› | exact neA5 ‹_› | exact neA6 ‹_› | exact neA7 ‹_› | exact neA8 ‹_› | exact neA9 ‹_› | exact neA10 ‹_› | exact neA11 ‹_› | exact neA12 ‹_›)
    k_with "k_ne" => (first | k_extra "nX" | (refine Ne.symm ?_; k_extra "nX"))
    k_with "k_room" => (ktr_room)
    k_with "ent D" => (refine' code_def ?zqk1 ?zqk2 ?zqk3 ?zqk4 ?zqk5 ?zqkA ?zqkF ?zqkK ?zqk6 ?zqk7 ?zqk8 ?zqk9 ?zqkB ?_ ?zqc2 ?zqc3 ?zqc4 ?zqc5; (case zqkA | zqkF => exact rfl); (case zqkK => assumption); (case zqk1 | zqk2 | zqk3 | zqk4 | zqk5 => k_asm); (case zqk6 | zqk7 => k_is); (case zqk8 => ktr_room); (case zqk9 => first | exact BindsTo.of_eq rfl | exact binds_K (by k_in) rfl (by k_is) rfl rfl rfl); (case zqc5 => decide); (case zqkB => exact locs rfl); (case zqc2 | zqc3 | zqc4 => exact rfl))
    k_with "w exec For Tuple Attribute cons nil" => (k_here; (rename Fr _ _ _ _ => lF'); (with_unfolding_all refine' For_turns lF' ?_; k_whole))
    k_with "w pyIter ref" => (k_here; (with_reducible show wpAny _ _ (pyIter (Value.ref _)) (fun it s₂ => TurnsAt _ _ _ _ _ _ _ _ _ it s₂) _ _); k_extra "halt iter"; refine halt ?_)
    k_with "w getMethod ref" => (k_here; k_dflt (first | (refine rx_getMethod rx_slot_search rx_type_search (pat_name (by k_asm) (by k_asm)) ?_) | (refine rx_getMethod rx_slot_search rx_type_search (pat_val (by k_asm) (by k_asm)) ?_)))
    k_with "w call builtin:re.Pattern.search" => (k_here; k_extra "my search")
    k_steps
    · have hq : (Txt.lower k9 == Txt.lower nm) = true := by assumption
      refine hret _ _ _ ?zr (by k_asm) (news_sub (by assumption) (fun p hp => .tail _ hp))
      case zr => rw [find_at hbad hr9 hq]; exact ⟨_, rfl⟩
    · have hq : (Txt.lower k9 == Txt.lower nm) = false := by
        first
        | assumption
        | (have h9 : Txt.lower k9 ≠ Txt.lower nm := by assumption
           exact beq_eq_false_iff_ne.mpr h9)
        | (have h9 : (!(Txt.lower k9 == Txt.lower nm)) = true := by assumption
           simpa using h9)
      refine ⟨_, _, _, _, rfl, by assumption, by assumption, fun p hp q hq => by rw [List.mem_singleton.mp hq]; exact Nat.ne_of_lt (hI p hp), rfl, ?_⟩
      exact ⟨_, tn', shape2 rfl rfl, take_one hbad hr9 hq⟩
  case zfin =>
    rintro m₁ h tk ⟨u, tn', rfl, hbad⟩ F8 N8
    k_with_none
    k_with "nX" => (first | exact ltA0 ‹_› | exact ltA1 ‹_› | exact ltA2 ‹_› | exact ltA3 ‹_› | exact ltA4 ‹_› | exact ltA5 ‹_› | exact ltA6 ‹_› | exact ltA7 ‹_› | exact ltA8 ‹_› | exact ltA9 ‹_› | exact ltA10 ‹_› | exact ltA11 ‹_› | exact ltA12 ‹_› | exact ltA13 ‹_› | exact neA0 ‹_› | exact neA1 ‹_› | exact neA2 ‹_› | exact neA3 ‹_› | exact neA4 ‹_› | exact neA5 ‹_› | exact neA6 ‹_› | exact neA7 ‹_› | exact neA8 ‹_› | exact neA9 ‹_› | exact neA10 ‹_› | exact neA11 ‹_› | exact neA12 ‹_›)
    k_with "k_ne" => (first | k_extra "nX" | (refine Ne.symm ?_; k_extra "nX"))
    k_with "k_room" => (ktr_room)
    k_with "ent D" => (refine' code_def ?zqk1 ?zqk2 ?zqk3 ?zqk4 ?zqk5 ?zqkA ?zqkF ?zqkK ?zqk6 ?zqk7 ?zqk8 ?zqk9 ?zqkB ?_ ?zqc2 ?zqc3 ?zqc4 ?zqc5; (case zqkA | zqkF => exact rfl); (case zqkK => assumption); (case zqk1 | zqk2 | zqk3 | zqk4 | zqk5 => k_asm); (case zqk6 | zqk7 => k_is); (case zqk8 => ktr_room); (case zqk9 => first | exact BindsTo.of_eq rfl | exact binds_K (by k_in) rfl (by k_is) rfl rfl rfl); (case zqc5 => decide); (case zqkB => exact locs rfl); (case zqc2 | zqc3 | zqc4 => exact rfl))
    k_with "w exec For Tuple Attribute cons nil" => (k_here; (rename Fr _ _ _ _ => lF'); (with_unfolding_all refine' For_turns lF' ?_; k_whole))
    k_with "w pyIter ref" => (k_here; (with_reducible show wpAny _ _ (pyIter (Value.ref _)) (fun it s₂ => TurnsAt _ _ _ _ _ _ _ _ _ it s₂) _ _); k_extra "halt iter"; refine halt ?_)
    k_with "w getMethod ref" => (k_here; k_dflt (first | (refine rx_getMethod rx_slot_search rx_type_search (pat_name (by k_asm) (by k_asm)) ?_) | (refine rx_getMethod rx_slot_search rx_type_search (pat_val (by k_asm) (by k_asm)) ?_)))
    k_with "w call builtin:re.Pattern.search" => (k_here; k_extra "my search")
    k_steps
    refine hret _ _ _ ?zr (by k_asm) (by k_asm)
    case zr =>
      rw [find_none (fun kv hkv => hbad kv (by rw [hT.length, List.take_length]; exact hkv))]
end Mine
end PartN10
section PartN11
open PySem PySem.W PyProof.Rows PySem.Spec PySem.Calls

set_option maxRecDepth 100000
set_option maxHeartbeats 8000000
namespace Mine
theorem c_del (w : World) {p : Program} {loose : List Str} {mean : ExcName → Option Value} {mg mb : Str → Option Value} (own T₀ : Led) (x d H : Addr) (td : Tok) (vs : List Value) (n : Nat) (rows : List (Str × Str)) (nm : Str) (tn : Tok) (hT : Tb x d H own T₀ vs rows) (hn : okName (Txt.lower nm)) (hl : rows.length ≤ 100) (hnl : nm.length ≤ 1000) :
  Tell PySem.Challenge.rw_sr0074_02.row.prog w (hd02.heap_39 w.params) p loose mean mg mb 150 [.ref x, .str nm tn] ((H, listOf vs.toArray n) :: (x, instObj 232 d) :: (d, tabDict w td H) :: own) 20 200 (fun _ => True)
    (fun Go => ∀ vs' n', Tb x d H own T₀ vs' (rows.filter (fun kv => Txt.lower kv.1 != Txt.lower nm)) → Go ((H, listOf vs'.toArray n') :: (x, instObj 232 d) :: (d, tabDict w td H) :: own) (fun r => r = .none)) := by
  k_fill
  k_with_none
  k_with "nX" => (first | exact ltA0 ‹_› | exact ltA1 ‹_› | exact ltA2 ‹_› | exact ltA3 ‹_› | exact ltA4 ‹_› | exact ltA5 ‹_› | exact ltA6 ‹_› | exact ltA7 ‹_› | exact ltA8 ‹_› | exact ltA9 ‹_› | exact ltA10 ‹_› | exact ltA11 ‹_› | exact ltA12 ‹_› | exact ltA13 ‹_› | exact neA0 ‹_› | exact neA1 ‹_› | exact neA2 ‹_› | exact neA3 ‹_› | exact neA4 ‹_› | exact neA5 ‹_› | exact neA6 ‹_› | exact neA7 ‹_› | exact neA8 ‹_› | exact neA9 ‹_› | exact neA10 ‹_› | exact neA11 ‹_› | exact neA12 ‹_›)
  k_with "k_ne" => (first | k_extra "nX" | (refine Ne.symm ?_; k_extra "nX"))
  k_with "k_all" => (first | exact List.forall_mem_nil _ | exact al3s ‹_› | exact al0 ‹_› | exact al1 ‹_› | exact al2 ‹_› | exact al3 ‹_› | exact al4 ‹_› | exact al5 ‹_› | exact al6 ‹_› | exact al7 ‹_› | exact al8 ‹_› | exact al9 ‹_› | exact al10 ‹_› | exact al11 ‹_› | exact of2 ‹_› | (refine' List.forall_mem_cons.mpr ⟨?zqa, ?zqb⟩; (case zqa => k_ne); (case zqb => k_all)))
  k_with "k_room" => (ktr_room)
  k_with "ent D" => (refine' code_def ?zqk1 ?zqk2 ?zqk3 ?zqk4 ?zqk5 ?zqkA ?zqkF ?zqkK ?zqk6 ?zqk7 ?zqk8 ?zqk9 ?zqkB ?_ ?zqc2 ?zqc3 ?zqc4 ?zqc5; (case zqkA | zqkF => exact rfl); (case zqkK => assumption); (case zqk1 | zqk2 | zqk3 | zqk4 | zqk5 => k_asm); (case zqk6 | zqk7 => k_is); (case zqk8 => ktr_room); (case zqk9 => first | exact BindsTo.of_eq rfl | exact binds_K (by k_in) rfl (by k_is) rfl rfl rfl); (case zqc5 => decide); (case zqkB => exact locs rfl); (case zqc2 | zqc3 | zqc4 => exact rfl))
  k_with "ent C" => (refine' code_defC ?zqk1 ?zqk2 ?zqk3 ?zqk4 ?zqk5 ?zqkA ?zqkF ?zqkK ?zqk6 ?zqk7 ?zqk8 ?zqk9 ?zqkB ?zqkD ?_ ?zqc2 ?zqc3 ?zqc4; (case zqkA | zqkF => exact rfl); (case zqkK => first | exact rfl | assumption); (case zqk1 | zqk2 | zqk3 | zqk4 | zqk5 => k_asm); (case zqk6 | zqk7 => k_is); (case zqk8 => ktr_room); (case zqk9 => first | exact BindsTo.of_eq rfl | exact binds_K (by k_in) rfl (by k_is) rfl rfl rfl); (case zqkD => decide +kernel); (case zqkB | zqc2 | zqc3 | zqc4 => exact rfl))
  k_with "w exec For Tuple Attribute cons nil" => (k_here; (rename Fr _ _ _ _ => lF'); (with_unfolding_all refine' For_turns lF' ?_; k_whole))
  k_with "w pyIter ref" => (k_here; (with_reducible show wpAny _ _ (pyIter (Value.ref _)) (fun it s₂ => TurnsAt _ _ _ _ _ _ _ _ _ it s₂) _ _); k_extra "halt iter"; refine halt ?_)
  k_with "w getMethod ref" => (k_here; k_dflt (first | (refine rx_getMethod rx_slot_search rx_type_search (pat_name (by k_asm) (by k_asm)) ?_) | (refine rx_getMethod rx_slot_search rx_type_search (pat_val (by k_asm) (by k_asm)) ?_)))
  k_with "w call builtin:re.Pattern.search" => (k_here; k_extra "my search")
  k_with "w eval ListComp" => (k_here; k_extra "comp yes"; k_dflt (refine LCt.ListComp_T (F₀ := by k_asm) (by with_unfolding_all rfl) (by decide) (by rfl) (by decide) (by rfl) ?_))
  unfold Tell
  intro dp un gd cn cs a ccd cl outer A₀ base h₀ L m s Q E B F X N T hk hl2 hdp hu hret
  refine wpAny_call ?_
  k_dflt k_enter
  have hKd := kdMark
  have hvs : vs.length ≤ 100 := by rw [hT.length]; exact hl
  have hoff := hT.off
  k_with "my search" => (k_dflt (first | refine rx_search_none (k := 300) (pat_name (by k_asm) (by k_asm)) hn.small (by decide) hn.fails ?_))
  k_with "halt iter" => skip
  k_with "comp yes" => skip
  k_steps
  refine LCt.CompSrcT.ledger (by rfl) (by k_asm) (by k_asm) (.tail _ (.head _)) ?hsz ?_
  case hsz => rw [List.size_toArray]; simp only [sizeLine]; omega
  intro g9
  refine comp_invT (fun i ys nw => nw = _ ∧ DatAll T₀ ys (((rows.take i).filter (fun kv => Txt.lower kv.1 != Txt.lower nm)).map rowD)) vs.toArray.size ?zturn ?zfin _ 0 [] _ (by omega) ⟨rfl, .nil⟩
  case zturn =>
    rintro i v I oI Cn oC Dd m₂ h tk ys nw E' hin hv ⟨rfl, hd⟩ ho hx F9 N9 off9 ne9
    obtain ⟨k9, y9, t1, t2, n9, a9, hr9, rfl, hm9⟩ := row_at hT.dat (i := i) (v := v) (by simpa using hv)
    have hk9 := (hT.len _ (List.mem_of_getElem? hr9)).1
    have N9' := news_sub N9 (seen1 (.tail _ (.tail _ (.tail _ (.tail _ (.tail _ (.tail _ (.tail _ (hT.sub _ hm9)))))))))
    clear hret N9
    k_with_none
    k_with "nX" => (first | exact ltA0 ‹_› | exact ltA1 ‹_› | exact ltA2 ‹_› | exact ltA3 ‹_› | exact ltA4 ‹_› | exact ltA5 ‹_› | exact ltA6 ‹_› | exact ltA7 ‹_› | exact ltA8 ‹_› | exact ltA9 ‹_› | exact ltA10 ‹_› | exact ltA11 ‹_› | exact ltA12 ‹_› | exact ltA13 ‹_› | exact neA0 ‹_› | exact neA1 ‹_› | exact neA2 ‹_› | exact neA3 ‹_› | exact neA4 ‹_› | exact neA5 ‹_› | exact neA6 ‹_› | exact neA7 ‹_› | exact neA8 ‹_› | exact neA9 ‹_› | exact neA10 ‹_› | exact neA11 ‹_› | exact neA12 ‹_›)
    k_with "k_ne" => (first | k_extra "nX" | (refine Ne.symm ?_; k_extra "nX"))
    k_with "k_all" => (first | exact List.forall_mem_nil _ | exact al3s ‹_› | exact al0 ‹_› | exact al1 ‹_› | exact al2 ‹_› | exact al3 ‹_› | exact al4 ‹_› | exact al5 ‹_› | exact al6 ‹_› | exact al7 ‹_› | exact al8 ‹_› | exact al9 ‹_› | exact al10 ‹_› | exact al11 ‹_› | exact of2 ‹_› | (refine' List.forall_mem_cons.mpr ⟨?zqa, ?zqb⟩; (case zqa => k_ne); (case zqb => k_all)))
    k_with "k_room" => (ktr_room)
    k_with "ent D" => (refine' code_def ?zqk1 ?zqk2 ?zqk3 ?zqk4 ?zqk5 ?zqkA ?zqkF ?zqkK ?zqk6 ?zqk7 ?zqk8 ?zqk9 ?zqkB ?_ ?zqc2 ?zqc3 ?zqc4 ?zqc5; (case zqkA | zqkF => exact rfl); (case zqkK => assumption); (case zqk1 | zqk2 | zqk3 | zqk4 | zqk5 => k_asm); (case zqk6 | zqk7 => k_is); (case zqk8 => ktr_room); (case zqk9 => first | exact BindsTo.of_eq rfl | exact binds_K (by k_in) rfl (by k_is) rfl rfl rfl); (case zqc5 => decide); (case zqkB => exact locs rfl); (case zqc2 | zqc3 | zqc4 => exact rfl))
    k_with "ent C" => (refine' code_defC ?zqk1 ?zqk2 ?zqk3 ?zqk4 ?zqk5 ?zqkA ?zqkF ?zqkK ?zqk6 ?zqk7 ?zqk8 ?zqk9 ?zqkB ?zqkD ?_ ?zqc2 ?zqc3 ?zqc4; (case zqkA | zqkF => exact rfl); (case zqkK => first | exact rfl | assumption); (case zqk1 | zqk2 | zqk3 | zqk4 | zqk5 => k_asm); (case zqk6 | zqk7 => k_is); (case zqk8 => ktr_room); (case zqk9 => first | exact BindsTo.of_eq rfl | exact binds_K (by k_in) rfl (by k_is) rfl rfl rfl); (case zqkD => decide +kernel); (case zqkB | zqc2 | zqc3 | zqc4 => exact rfl))
    k_with "w exec For Tuple Attribute cons nil" => (k_here; (rename Fr _ _ _ _ => lF'); (with_unfolding_all refine' For_turns lF' ?_; k_whole))
    k_with "w pyIter ref" => (k_here; (with_reducible show wpAny _ _ (pyIter (Value.ref _)) (fun it s₂ => TurnsAt _ _ _ _ _ _ _ _ _ it s₂) _ _); k_extra "halt iter"; refine halt ?_)
    k_with "w getMethod ref" => (k_here; k_dflt (first | (refine rx_getMethod rx_slot_search rx_type_search (pat_name (by k_asm) (by k_asm)) ?_) | (refine rx_getMethod rx_slot_search rx_type_search (pat_val (by k_asm) (by k_asm)) ?_)))
    k_with "w call builtin:re.Pattern.search" => (k_here; k_extra "my search")
    k_with "w eval ListComp" => (k_here; k_extra "comp yes"; k_dflt (refine LCt.ListComp_T (F₀ := by k_asm) (by with_unfolding_all rfl) (by decide) (by rfl) (by decide) (by rfl) ?_))
    k_steps
    · have hq : (Txt.lower k9 != Txt.lower nm) = true := by assumption
      refine LCg.CompEnd.intro (by k_asm) (by assumption) _ ?sub off9 ?src ⟨rfl, ?dat⟩
      case sub => exact fun p hp => .tail _ hp
      case src => exact Or.inr ⟨_, .tail _ (.head _), rfl, _, rfl⟩
      case dat =>
        rw [filt_one hr9, if_pos hq, List.map_append]
        exact hd.append (.cons (DatIn.tuple (vs := [.str k9 t1, .str y9 t2]) hm9 (.cons (.str _ _) (.cons (.str _ _) .nil))) .nil)
    · have hq : ¬ ((Txt.lower k9 != Txt.lower nm) = true) := by
        first
        | assumption
        | (have h9 : (Txt.lower k9 != Txt.lower nm) = false := by assumption
           rw [h9]; exact Bool.false_ne_true)
        | (have h9 : Txt.lower k9 = Txt.lower nm := by assumption
           rw [h9]; simp)
      refine LCg.CompEnd.intro (by k_asm) (by assumption) _ ?sub off9 ?src ⟨rfl, ?dat⟩
      case sub => exact fun p hp => .tail _ hp
      case src => exact Or.inr ⟨_, .tail _ (.head _), rfl, _, rfl⟩
      case dat =>
        rw [filt_one hr9, if_neg hq, List.append_nil]
        exact hd
  case zfin =>
    rintro ys nw ⟨rfl, hd⟩
    k_with_none
    k_with "nX" => (first | exact ltA0 ‹_› | exact ltA1 ‹_› | exact ltA2 ‹_› | exact ltA3 ‹_› | exact ltA4 ‹_› | exact ltA5 ‹_› | exact ltA6 ‹_› | exact ltA7 ‹_› | exact ltA8 ‹_› | exact ltA9 ‹_› | exact ltA10 ‹_› | exact ltA11 ‹_› | exact ltA12 ‹_› | exact ltA13 ‹_› | exact neA0 ‹_› | exact neA1 ‹_› | exact neA2 ‹_› | exact neA3 ‹_› | exact neA4 ‹_› | exact neA5 ‹_› | exact neA6 ‹_› | exact neA7 ‹_› | exact neA8 ‹_› | exact neA9 ‹_› | exact neA10 ‹_› | exact neA11 ‹_› | exact neA12 ‹_›)
    k_with "k_ne" => (first | k_extra "nX" | (refine Ne.symm ?_; k_extra "nX"))
    k_with "k_all" => (first | exact List.forall_mem_nil _ | exact al3s ‹_› | exact al0 ‹_› | exact al1 ‹_› | exact al2 ‹_› | exact al3 ‹_› | exact al4 ‹_› | exact al5 ‹_› | exact al6 ‹_› | exact al7 ‹_› | exact al8 ‹_› | exact al9 ‹_› | exact al10 ‹_› | exact al11 ‹_› | exact of2 ‹_› | (refine' List.forall_mem_cons.mpr ⟨?zqa, ?zqb⟩; (case zqa => k_ne); (case zqb => k_all)))
    k_with "k_room" => (ktr_room)
    k_with "ent D" => (refine' code_def ?zqk1 ?zqk2 ?zqk3 ?zqk4 ?zqk5 ?zqkA ?zqkF ?zqkK ?zqk6 ?zqk7 ?zqk8 ?zqk9 ?zqkB ?_ ?zqc2 ?zqc3 ?zqc4 ?zqc5; (case zqkA | zqkF => exact rfl); (case zqkK => assumption); (case zqk1 | zqk2 | zqk3 | zqk4 | zqk5 => k_asm); (case zqk6 | zqk7 => k_is); (case zqk8 => ktr_room); (case zqk9 => first | exact BindsTo.of_eq rfl | exact binds_K (by k_in) rfl (by k_is) rfl rfl rfl); (case zqc5 => decide); (case zqkB => exact locs rfl); (case zqc2 | zqc3 | zqc4 => exact rfl))
    k_with "ent C" => (refine' code_defC ?zqk1 ?zqk2 ?zqk3 ?zqk4 ?zqk5 ?zqkA ?zqkF ?zqkK ?zqk6 ?zqk7 ?zqk8 ?zqk9 ?zqkB ?zqkD ?_ ?zqc2 ?zqc3 ?zqc4; (case zqkA | zqkF => exact rfl); (case zqkK => first | exact rfl | assumption); (case zqk1 | zqk2 | zqk3 | zqk4 | zqk5 => k_asm); (case zqk6 | zqk7 => k_is); (case zqk8 => ktr_room); (case zqk9 => first | exact BindsTo.of_eq rfl | exact binds_K (by k_in) rfl (by k_is) rfl rfl rfl); (case zqkD => decide +kernel); (case zqkB | zqc2 | zqc3 | zqc4 => exact rfl))
    k_with "w exec For Tuple Attribute cons nil" => (k_here; (rename Fr _ _ _ _ => lF'); (with_unfolding_all refine' For_turns lF' ?_; k_whole))
    k_with "w pyIter ref" => (k_here; (with_reducible show wpAny _ _ (pyIter (Value.ref _)) (fun it s₂ => TurnsAt _ _ _ _ _ _ _ _ _ it s₂) _ _); k_extra "halt iter"; refine halt ?_)
    k_with "w getMethod ref" => (k_here; k_dflt (first | (refine rx_getMethod rx_slot_search rx_type_search (pat_name (by k_asm) (by k_asm)) ?_) | (refine rx_getMethod rx_slot_search rx_type_search (pat_val (by k_asm) (by k_asm)) ?_)))
    k_with "w call builtin:re.Pattern.search" => (k_here; k_extra "my search")
    k_with "w eval ListComp" => (k_here; k_extra "comp yes"; k_dflt (refine LCt.ListComp_T (F₀ := by k_asm) (by with_unfolding_all rfl) (by decide) (by rfl) (by decide) (by rfl) ?_))
    k_steps
    (rename News _ _ _ _ => lN)
    obtain ⟨aD, e1⟩ := led1 lN
    subst e1
    have hyl : ys.length ≤ 100 := by
      rw [hd.length, List.length_map]
      exact Nat.le_trans (List.length_filter_le _ _) (Nat.le_trans (List.length_take_le' _ _) hl)
    refine' set_whole (pre := [(aD, _), _]) (Fr.push (by k_asm) _) (fun p hp => ⟨Heap.get?_push_of_some _ (lN p hp).1, (lN p hp).2⟩) ?ha ?hb (Heap.IsSliceOf.new ..) (Heap.get?_push_of_some _ (lN _ (.head _)).1) ?hne ?h1 ?_
    case ha => k_all
    case hb => exact hT.all
    case hne => k_ne
    case h1 => rw [List.size_toArray, List.size_toArray]; omega
    intro h8 n8 F8 N8
    clear lN
    k_steps
    (rename News _ _ _ _ => nE)
    have hfull : rows.take vs.toArray.size = rows := by rw [List.size_toArray, hT.length]; exact List.take_length
    rw [hfull] at hd
    exact hret ys n8 ⟨hd, hT.sub, hT.off, fun kv hkv => hT.len kv (List.mem_filter.mp hkv).1⟩ _ _ _ rfl (by k_asm) (news_sub nE (fun p hp => .tail _ (.tail _ hp)))
end Mine
end PartN11
section PartN12
open PySem PySem.W PyProof.Rows PySem.Spec PySem.Calls

set_option maxRecDepth 100000
set_option maxHeartbeats 8000000
namespace Mine
theorem my_delItem {M : Model} {A : Around} {E : Value → Shared → Prop} {s : Shared} {K : Frag} {x C L f : Addr} {h₀ : Heap} {m : Str → Option Value} {ox : Obj} {od : Option Obj} {i : Value} {Q : Unit → Shared → Prop} (F : Fr h₀ L s.heap m) (X₀ : K.In h₀) (I : InstAt s.heap x ox C od) (hq : noSeq K C = true) (hs : findIn K (.ref C) "__delitem__" = some (some (.ref f))) (hf : isFn K (.ref f) = true)
    (h : wpAny M A (call (.ref f) [.ref x, i]) (fun _ s' => Q () s') E s) : wpAny M A (delItem (.ref x) i) Q E s := by
  have X := X₀.keeps F.keep
  unfold delItem sequenceKey
  refine wpAny_holding (wpAny_bind (wpAny_bind (I.type.here ?_)))
  refine wpAny_bind ((anyM_none X hq).here ?_)
  rw [if_pos (show (!false) = true from rfl)]
  exact wpAny_pure (wpAny_bind (special_fn X I hs (beq_iff_eq.mp hf) (wpAny_mono h (fun _ _ z => wpAny_pure z) fun _ _ z => z)))
theorem c_set (w : World) {p : Program} {loose : List Str} {mean : ExcName → Option Value} {mg mb : Str → Option Value} (own T₀ : Led) (x d H : Addr) (td : Tok) (vs : List Value) (n : Nat) (rows : List (Str × Str)) (nm val : Str) (tn tv : Tok) (hT : Tb x d H own T₀ vs rows) (hn : okName (Txt.lower nm)) (hn2 : okName nm) (hv : okVal val) (hl : rows.length ≤ 100) :
  Tell PySem.Challenge.rw_sr0074_02.row.prog w (hd02.heap_39 w.params) p loose mean mg mb 145 [.ref x, .str nm tn, .str val tv] ((H, listOf vs.toArray n) :: (x, instObj 232 d) :: (d, tabDict w td H) :: own) 40 400 (fun _ => True)
    (fun Go => ∀ a vs' n' own', Tb x d H ((a, own') :: own) ((a, own') :: T₀) vs' (rows.filter (fun kv => Txt.lower kv.1 != Txt.lower nm) ++ [(nm, val)]) → (H < a ∧ x < a ∧ d < a ∧ AllLt a own) → Go ((H, listOf vs'.toArray n') :: (x, instObj 232 d) :: (d, tabDict w td H) :: (a, own') :: own) (fun r => r = .none)) := by
  k_fill
  k_with_none
  k_with "nX" => (first | exact ltA0 ‹_› | exact ltA1 ‹_› | exact ltA2 ‹_› | exact ltA3 ‹_› | exact ltA4 ‹_› | exact ltA5 ‹_› | exact ltA6 ‹_› | exact ltA7 ‹_› | exact ltA8 ‹_› | exact ltA9 ‹_› | exact ltA10 ‹_› | exact ltA11 ‹_› | exact ltA12 ‹_› | exact ltA13 ‹_› | exact neA0 ‹_› | exact neA1 ‹_› | exact neA2 ‹_› | exact neA3 ‹_› | exact neA4 ‹_› | exact neA5 ‹_› | exact neA6 ‹_› | exact neA7 ‹_› | exact neA8 ‹_› | exact neA9 ‹_› | exact neA10 ‹_› | exact neA11 ‹_› | exact neA12 ‹_›)
  k_with "k_ne" => (first | k_extra "nX" | (refine Ne.symm ?_; k_extra "nX"))
  k_with "k_all" => (first | exact List.forall_mem_nil _ | exact al3s ‹_› | exact al0 ‹_› | exact al1 ‹_› | exact al2 ‹_› | exact al3 ‹_› | exact al4 ‹_› | exact al5 ‹_› | exact al6 ‹_› | exact al7 ‹_› | exact al8 ‹_› | exact al9 ‹_› | exact al10 ‹_› | exact al11 ‹_› | exact of2 ‹_› | (refine' List.forall_mem_cons.mpr ⟨?zqa, ?zqb⟩; (case zqa => k_ne); (case zqb => k_all)))
  k_with "k_room" => (ktr_room)
  k_with "ent D" => (refine' code_def ?zqk1 ?zqk2 ?zqk3 ?zqk4 ?zqk5 ?zqkA ?zqkF ?zqkK ?zqk6 ?zqk7 ?zqk8 ?zqk9 ?zqkB ?_ ?zqc2 ?zqc3 ?zqc4 ?zqc5; (case zqkA | zqkF => exact rfl); (case zqkK => assumption); (case zqk1 | zqk2 | zqk3 | zqk4 | zqk5 => k_asm); (case zqk6 | zqk7 => k_is); (case zqk8 => ktr_room); (case zqk9 => first | exact BindsTo.of_eq rfl | exact binds_K (by k_in) rfl (by k_is) rfl rfl rfl); (case zqc5 => decide); (case zqkB => exact locs rfl); (case zqc2 | zqc3 | zqc4 => exact rfl))
  k_with "ent C" => (refine' code_defC ?zqk1 ?zqk2 ?zqk3 ?zqk4 ?zqk5 ?zqkA ?zqkF ?zqkK ?zqk6 ?zqk7 ?zqk8 ?zqk9 ?zqkB ?zqkD ?_ ?zqc2 ?zqc3 ?zqc4; (case zqkA | zqkF => exact rfl); (case zqkK => first | exact rfl | assumption); (case zqk1 | zqk2 | zqk3 | zqk4 | zqk5 => k_asm); (case zqk6 | zqk7 => k_is); (case zqk8 => ktr_room); (case zqk9 => first | exact BindsTo.of_eq rfl | exact binds_K (by k_in) rfl (by k_is) rfl rfl rfl); (case zqkD => decide +kernel); (case zqkB | zqc2 | zqc3 | zqc4 => exact rfl))
  k_with "w exec For Tuple Attribute cons nil" => (k_here; (rename Fr _ _ _ _ => lF'); (with_unfolding_all refine' For_turns lF' ?_; k_whole))
  k_with "w pyIter ref" => (k_here; (with_reducible show wpAny _ _ (pyIter (Value.ref _)) (fun it s₂ => TurnsAt _ _ _ _ _ _ _ _ _ it s₂) _ _); k_extra "halt iter"; refine halt ?_)
  k_with "w getMethod ref" => (k_here; k_dflt (first | (refine rx_getMethod rx_slot_search rx_type_search (pat_name (by k_asm) (by k_asm)) ?_) | (refine rx_getMethod rx_slot_search rx_type_search (pat_val (by k_asm) (by k_asm)) ?_)))
  k_with "w call builtin:re.Pattern.search" => (k_here; k_extra "my search")
  k_with "w eval ListComp" => (k_here; k_extra "comp yes"; k_dflt (refine LCt.ListComp_T (F₀ := by k_asm) (by with_unfolding_all rfl) (by decide) (by rfl) (by decide) (by rfl) ?_))
  k_with "w call ref" => (k_here; k_extra "my call")
  k_with "w delItem ref str" => (k_here; k_dflt (refine' my_delItem ?zqF ?zqX ?zqI ?zqhQ ?zqhS ?zqhF ?_; (case zqF => k_asm); (case zqX => k_asm); (case zqI => k_inst); (case zqhS => k_is); (case zqhF => k_is); (case zqhQ => k_is); k_whole))
  unfold Tell
  intro dp un gd cn cs a ccd cl outer A₀ base h₀ L m s Q E B F X N T hk hl2 hdp hu hret
  refine wpAny_call ?_
  k_dflt k_enter
  have hKd := kdMark
  have hvs : vs.length ≤ 100 := by rw [hT.length]; exact hl
  have hoff := hT.off
  have hnl := hn2.len
  have hvl := hv.len
  k_with "my search" => (k_dflt (first | refine rx_search_none (k := 300) (pat_name (by k_asm) (by k_asm)) hn2.small (by decide) hn2.fails ?_ | refine rx_search_none (k := 300) (pat_val (by k_asm) (by k_asm)) hv.small (by decide) hv.fails ?_))
  k_with "my call" => (k_dflt (refine' Tell.use (c_del w own T₀ x d H td vs n rows nm tn hT hn hl hnl) ?k1 ?k2 ?k3 ?k4 ?k5 ?kK trivial ?kd ?ku ?_); (case k1 => k_asm); (case k2 => k_asm); (case k3 => k_asm); (case k4 => k_asm); (case k5 => k_asm); (case kK => first | exact rfl | assumption); (case kd => ktr_room); (case ku => ktr_units); intro vs9 n9 hT9 r9 h9 tk9 hr9 F9 N9; subst hr9; (try dsimp only); (try k_fold))
  k_steps
  (rename News _ _ _ _ => lN)
  (rename Tb _ _ _ _ _ _ _ => hT9)
  obtain ⟨aT, e1⟩ := led1 lN
  subst e1
  have hv9 := hT9.length
  have hf9 : (rows.filter (fun kv => Txt.lower kv.1 != Txt.lower nm)).length ≤ 100 := Nat.le_trans (List.length_filter_le _ _) hl
  have h9 : H < aT ∧ x < aT ∧ d < aT ∧ AllLt aT own := by assumption
  have hne : aT ≠ H := Nat.ne_of_gt h9.1
  refine' append_K (by k_asm) lN (Upd.tail hne (Upd.head hT9.all)) ?_ ?z
  case z => rw [List.size_toArray]; simp only [sizeLine]; omega
  intro h8 F8 N8
  clear lN
  k_with_none
  k_with "nX" => (first | exact ltA0 ‹_› | exact ltA1 ‹_› | exact ltA2 ‹_› | exact ltA3 ‹_› | exact ltA4 ‹_› | exact ltA5 ‹_› | exact ltA6 ‹_› | exact ltA7 ‹_› | exact ltA8 ‹_› | exact ltA9 ‹_› | exact ltA10 ‹_› | exact ltA11 ‹_› | exact ltA12 ‹_› | exact ltA13 ‹_› | exact neA0 ‹_› | exact neA1 ‹_› | exact neA2 ‹_› | exact neA3 ‹_› | exact neA4 ‹_› | exact neA5 ‹_› | exact neA6 ‹_› | exact neA7 ‹_› | exact neA8 ‹_› | exact neA9 ‹_› | exact neA10 ‹_› | exact neA11 ‹_› | exact neA12 ‹_›)
  k_with "k_ne" => (first | k_extra "nX" | (refine Ne.symm ?_; k_extra "nX"))
  k_with "k_all" => (first | exact List.forall_mem_nil _ | exact al3s ‹_› | exact al0 ‹_› | exact al1 ‹_› | exact al2 ‹_› | exact al3 ‹_› | exact al4 ‹_› | exact al5 ‹_› | exact al6 ‹_› | exact al7 ‹_› | exact al8 ‹_› | exact al9 ‹_› | exact al10 ‹_› | exact al11 ‹_› | exact of2 ‹_› | (refine' List.forall_mem_cons.mpr ⟨?zqa, ?zqb⟩; (case zqa => k_ne); (case zqb => k_all)))
  k_with "k_room" => (ktr_room)
  k_with "ent D" => (refine' code_def ?zqk1 ?zqk2 ?zqk3 ?zqk4 ?zqk5 ?zqkA ?zqkF ?zqkK ?zqk6 ?zqk7 ?zqk8 ?zqk9 ?zqkB ?_ ?zqc2 ?zqc3 ?zqc4 ?zqc5; (case zqkA | zqkF => exact rfl); (case zqkK => assumption); (case zqk1 | zqk2 | zqk3 | zqk4 | zqk5 => k_asm); (case zqk6 | zqk7 => k_is); (case zqk8 => ktr_room); (case zqk9 => first | exact BindsTo.of_eq rfl | exact binds_K (by k_in) rfl (by k_is) rfl rfl rfl); (case zqc5 => decide); (case zqkB => exact locs rfl); (case zqc2 | zqc3 | zqc4 => exact rfl))
  k_with "ent C" => (refine' code_defC ?zqk1 ?zqk2 ?zqk3 ?zqk4 ?zqk5 ?zqkA ?zqkF ?zqkK ?zqk6 ?zqk7 ?zqk8 ?zqk9 ?zqkB ?zqkD ?_ ?zqc2 ?zqc3 ?zqc4; (case zqkA | zqkF => exact rfl); (case zqkK => first | exact rfl | assumption); (case zqk1 | zqk2 | zqk3 | zqk4 | zqk5 => k_asm); (case zqk6 | zqk7 => k_is); (case zqk8 => ktr_room); (case zqk9 => first | exact BindsTo.of_eq rfl | exact binds_K (by k_in) rfl (by k_is) rfl rfl rfl); (case zqkD => decide +kernel); (case zqkB | zqc2 | zqc3 | zqc4 => exact rfl))
  k_with "w exec For Tuple Attribute cons nil" => (k_here; (rename Fr _ _ _ _ => lF'); (with_unfolding_all refine' For_turns lF' ?_; k_whole))
  k_with "w pyIter ref" => (k_here; (with_reducible show wpAny _ _ (pyIter (Value.ref _)) (fun it s₂ => TurnsAt _ _ _ _ _ _ _ _ _ it s₂) _ _); k_extra "halt iter"; refine halt ?_)
  k_with "w getMethod ref" => (k_here; k_dflt (first | (refine rx_getMethod rx_slot_search rx_type_search (pat_name (by k_asm) (by k_asm)) ?_) | (refine rx_getMethod rx_slot_search rx_type_search (pat_val (by k_asm) (by k_asm)) ?_)))
  k_with "w call builtin:re.Pattern.search" => (k_here; k_extra "my search")
  k_with "w eval ListComp" => (k_here; k_extra "comp yes"; k_dflt (refine LCt.ListComp_T (F₀ := by k_asm) (by with_unfolding_all rfl) (by decide) (by rfl) (by decide) (by rfl) ?_))
  k_with "w call ref" => (k_here; k_extra "my call")
  k_with "w delItem ref str" => (k_here; k_dflt (refine' my_delItem ?zqF ?zqX ?zqI ?zqhQ ?zqhS ?zqhF ?_; (case zqF => k_asm); (case zqX => k_asm); (case zqI => k_inst); (case zqhS => k_is); (case zqhF => k_is); (case zqhQ => k_is); k_whole))
  k_steps
  (rename News _ _ _ _ => nF)
  simp only [List.push_toArray] at nF
  exact hret aT _ _ _ (hT9.add rfl hne hnl hvl) h9 _ _ _ rfl (by k_asm) (news_sub nF sub_rot)
end Mine
end PartN12
section PartRS
open PySem PySem.W PyProof.Rows PySem.Spec PySem.Calls PyProof.V Builtin PySem.Builtin.Re

set_option maxRecDepth 100000
namespace Mine
noncomputable def cut (x : Array Nat) (b e : Nat) : List Str := if b < e then [⟨x.extract b e⟩] else []
/-- the pieces of a substitution from a place on -/
noncomputable def subP (code : Array Nat) (r : Str) (x : Array Nat) : Nat → Nat → Bool → Option (List Str)
  | 0, _, _ => none
  | f + 1, start, must =>
    if failsB 300 (Sre.forSearch code x 0 start x.size must) then some (cut x start x.size)
    else match spanB 300 (Sre.forSearch code x 0 start x.size must) with
      | some (b, e) => (subP code r x f e (e == b)).map fun l => cut x start b ++ (r :: l)
      | none => none
theorem strs_app {vs ws : List Value} {xs ys : List Str} (h : StrsAre vs xs) (k : StrsAre ws ys) : StrsAre (vs ++ ws) (xs ++ ys) := by
  induction h with
  | nil => exact k
  | cons y t _ ih => exact .cons y t ih
section
variable {prog : Program} {w : World} {M : Model} {A : Around} {E : Value → Shared → Prop} {s : Shared} {h₀ : Heap} {L p D : Addr} {m : Str → Option Value} {news : Led} {code : Array Nat} {x r : Str} {t u : Tok}
theorem wp_whole {Q : ReTarget → Shared → Prop} (P : Pat s.heap p code)
    (h : Q { pattern := .ref p, string := .str x t, code := code, text := x.cps, kind := 0, groups := 0, pos := 0, lim := x.cps.size } s) :
    wpAny M A (reWholeTarget (.ref p) (.str x t)) Q E s := by
  unfold reWholeTarget
  refine wpAny_bind (wp_fields P fun y fl c ws n oc hc hd r => ?_)
  refine wpAny_bind (wpAny_of_eq (a := (x.cps, 0)) rfl ?_)
  refine wpAny_bind (wpAny_of_eq (a := ()) rfl ?_)
  refine wpAny_bind (wp_items hc hd (wpAny_pure ?_))
  subst r
  exact h
/-- the ledger's list of pieces, one more -/
theorem push_at {pv : List Value} {n : Nat} {v : Value} {Q : Unit → Shared → Prop} (F : Fr h₀ L s.heap m) (N : News h₀ L s.heap ((D, listOf pv.toArray n) :: news)) (ho : ∀ q ∈ news, q.1 ≠ D) (hz : pv.length ≤ 1000)
    (h : ∀ h', Fr h₀ L h' m → News h₀ L h' ((D, listOf (pv ++ [v]).toArray (n + 1)) :: news) → Q () { s with heap := h' }) : wpAny M A (updateSeq D (·.push v)) Q E s := by
  have hm := N _ (.head _)
  refine wpAny_updateSeq hm.1 rfl (h _ (F.change (Heap.SameBut.update ..) hm.2.1 hm.2.2) ?_) (by rw [List.size_toArray]; simp only [sizeLine]; lia) (by rw [Array.size_push, List.size_toArray]; simp only [sizeLine]; lia)
  refine news_set (pre := []) (o' := listOf (pv ++ [v]).toArray (n + 1)) N (fun _ h => nomatch h) ho (Heap.SameBut.update ..) ?_
  rw [Heap.get?_update_self _ hm.1 (by rw [mapSeq_push]; rfl), mapSeq_push, List.push_toArray]
theorem loop_quiet (args : Args) : (Code.builtin "re.Pattern.sub.loop" args).quiet = true := Code.quiet_builtin args (by decide +kernel)
/-- a piece cut out, pushed -/
theorem wp_cut {β : Type} {b e : Nat} {pv : List Value} {ps : List Str} {n : Nat} {Q : β → Shared → Prop} {jp : Unit → Sem β} (F : Fr h₀ L s.heap m) (N : News h₀ L s.heap ((D, listOf pv.toArray n) :: news)) (ho : ∀ q ∈ news, q.1 ≠ D) (hi : StrsAre pv ps) (hz : pv.length ≤ 1000) (hx : x.cps.size ≤ 1000)
    (h : ∀ h' tk pv' n', Fr h₀ L h' m → News h₀ L h' ((D, listOf pv'.toArray n') :: news) → StrsAre pv' (ps ++ cut x.cps b e) → pv'.length ≤ pv.length + 1 → wpAny M A (jp ()) Q E { s with heap := h', toks := tk }) :
    wpAny M A (if b < e then (reSlice x.cps 0 b e >>= fun v => updateSeq D (·.push v) >>= jp) else jp ()) Q E s := by
  by_cases hbe : b < e
  · rw [if_pos hbe]
    unfold reSlice
    rw [if_pos (by decide)]
    refine wpAny_bind (wpAny_mkStr ?_ ?_)
    · refine wpAny_bind (push_at (s := { s with toks := s.toks + 1 }) F N ho hz fun h' F' N' => ?_)
      refine h h' _ _ _ F' N' ?_ (by rw [List.length_append]; exact Nat.le_refl _)
      unfold cut
      rw [if_pos hbe]
      exact strs_app hi (.cons _ _ .nil)
    · show (x.cps.extract b e).size ≤ sizeLine
      rw [Array.size_extract]
      simp only [sizeLine]
      lia
  · rw [if_neg hbe]
    have e0 : ps ++ cut x.cps b e = ps := by unfold cut; rw [if_neg hbe, List.append_nil]
    exact h s.heap s.toks pv n F N (by rw [e0]; exact hi) (Nat.le_succ _)
theorem sub_loop {R : Result → Shared → Prop} (hP : ∀ h', Fr h₀ L h' m → Pat h' p code) (ho : ∀ q ∈ news, q.1 ≠ D) (hx : x.cps.size ≤ 1000) : ∀ (f start : Nat) (must : Bool) (pv : List Value) (ps : List Str) (n k : Nat) (l : List Str) (s : Shared),
    subP code r x.cps f start must = some l → Fr h₀ L s.heap m → News h₀ L s.heap ((D, listOf pv.toArray n) :: news) → StrsAre pv ps → pv.length + 2 * f ≤ 500 → ((ps ++ l).map (·.length)).sum + (ps ++ l).length ≤ 1048576 → ps ++ l ≠ [] →
    (∀ h' tk t', Fr h₀ L h' m → News h₀ L h' news → R (.ok (.ret (.str (Txt.join ⟨x.cps.extract 0 0⟩ (ps ++ l)) t'))) { s with heap := h', toks := tk }) →
    codeAny (model prog w) A (.builtin "re.Pattern.sub.loop" ⟨[.ref p, .str x t, .str r u, rawInt 0, rawInt 0, rawInt k, rawInt start, rawInt start, .bool must, .ref D, .bool false], []⟩) R s := by
  intro f
  induction f with
  | zero => intro start must pv ps n k l s h; cases h
  | succ f ih =>
    intro start must pv ps n k l s hs F N hi hz hw hne hR
    refine codeAny_builtin rx_entry_loop ?_
    unfold Builtin.«re.Pattern.sub.loop»
    refine wpAny_bind (wp_whole (hP _ F) ?_)
    rw [if_pos (by decide)]
    refine wpAny_bind (wpAny_of_eq (a := ()) rfl ?_)
    dsimp only
    rw [if_neg (by simp)]
    simp only [Int.toNat_natCast]
    unfold reNextFound
    dsimp only
    unfold subP at hs
    split at hs
    · rename_i hf
      cases hs
      refine wpAny_bind (wp_run_fail hf (by decide) ?_)
      dsimp only
      refine wp_cut F N ho hi (by lia) hx fun h' tk pv' n' F' N' hi' hz' => ?_
      unfold reSlice
      rw [if_pos (by decide)]
      refine wpAny_bind (wpAny_mkStr ?_ ?_)
      · refine wpAny_bind (wpAny_seqItems (N' _ (.head _)).1 rfl ?_)
        have hpe : pv' ≠ [] := by
          intro e
          subst e
          generalize ps ++ cut x.cps start x.cps.size = q at hi' hne
          cases hi'
          exact hne rfl
        have hem : ((some pv'.toArray).getD #[]).isEmpty = false := by
          cases pv' with
          | nil => exact absurd rfl hpe
          | cons y ys => rfl
        rw [if_neg (by rw [hem]; exact Bool.false_ne_true)]
        refine wpAny_bind ?_
        refine join_listW (items := pv'.toArray) ⟨_, (N' _ (.head _)).1, rfl, _, rfl⟩ hi' (show (x.cps.extract 0 0).size ≤ 16 by rw [Array.size_extract]; lia) hw fun t' k' => ?_
        rw [if_neg Bool.false_ne_true]
        exact wpAny_pure (hR h' k' t' F' fun q hq => N' q (.tail _ hq))
      · show (x.cps.extract 0 0).size ≤ sizeLine
        rw [Array.size_extract]
        simp only [sizeLine]
        lia
    · split at hs
      · rename_i b e hsp
        obtain ⟨l', hl', rfl⟩ := Option.map_eq_some_iff.mp hs
        refine wpAny_bind (wp_run_ok hsp (by decide) fun m' hb he => ?_)
        subst hb he
        dsimp only
        refine wp_cut F N ho hi (by lia) hx fun h' tk pv' n' F' N' hi' hz' => ?_
        rw [if_pos (by decide)]
        refine wpAny_bind (wpAny_pure ?_)
        rw [if_pos (by rfl)]
        refine wpAny_bind (push_at (s := { s with heap := h', toks := tk }) F' N' ho (by lia) fun h2 F2 N2 => ?_)
        refine wpAny_pure ⟨loop_quiet _, ?_⟩
        have e : ((k : Int) + 1) = ((k + 1 : Nat) : Int) := rfl
        rw [e]
        have el : (ps ++ cut x.cps start m'.start) ++ [r] ++ l' = ps ++ (cut x.cps start m'.start ++ r :: l') := by simp
        refine ih m'.handed _ (pv' ++ [.str r u]) (ps ++ cut x.cps start m'.start ++ [r]) _ (k + 1) l' { s with heap := h2, toks := tk } hl' F2 N2 (strs_app hi' (.cons _ _ .nil)) (by rw [List.length_append, List.length_singleton]; lia) (by rw [el]; exact hw) (by rw [el]; exact hne) ?_
        rw [el]
        exact hR
      · cases hs
theorem str_no_call : typeLookup (.type "str") "__call__" = pure none := by rw [typeLookup_type, builtinLookup_eq_fast]; kernel_rfl
/-- a substitution of a written-down text for every match -/
theorem rx_sub {Q : Value → Shared → Prop} {f : Nat} {l : List Str} (hP : ∀ h', Fr h₀ L h' m → Pat h' p code) (F : Fr h₀ L s.heap m) (N : News h₀ L s.heap news) (hx : x.cps.size ≤ 1000) (hr : r.cps.contains 92 = false)
    (hs : subP code r x.cps f 0 false = some l) (hf : f ≤ 200) (hw : (l.map (·.length)).sum + l.length ≤ 1048576) (hne : l ≠ [])
    (h : ∀ h' tk t', Fr h₀ L h' m → News h₀ L h' news → Q (.str (Txt.join ⟨x.cps.extract 0 0⟩ l) t') { s with heap := h', toks := tk }) :
    wpAny (model prog w) A (call (.builtin "re.Pattern.sub") [.ref p, .str r u, .str x t]) Q E s := by
  refine wpAny_call (codeAny_call_builtin rx_slot_sub.plain rx_entry_sub (rx_slot_sub.check _ _ _ _ _ _ _ _ (hP _ F).typeIs (rx_args_sub _ _ _) ?_))
  unfold Builtin.«re.Pattern.sub» reSubstitute
  dsimp only
  refine wpAny_bind (wpAny_of_eq (a := [some (.str r u), some (.str x t), none]) (by first | rfl | kernel_rfl!) ?_)
  dsimp only
  refine wpAny_bind (wpAny_pure ?_)
  refine wpAny_bind (wpAny_specialOf (T := "str") (typeIs_str s r u) str_no_call ?_)
  rw [if_neg (by decide)]
  refine wpAny_bind (wpAny_of_eq (a := some r) rfl ?_)
  dsimp only
  refine wpAny_bind (wpAny_pure ?_)
  rw [if_neg (by decide)]
  rw [if_pos (by rw [hr]; rfl)]
  refine wpAny_bind (wpAny_pure ?_)
  refine wpAny_bind (wpAny_holding (wp_whole (hP _ F) ?_))
  rw [if_neg (show ¬ (((0 : Int) == 1) = true) by decide)]
  refine wpAny_bind (wpAny_newList ?_)
  refine wpAny_pure ⟨loop_quiet _, ?_⟩
  have N1 : News h₀ L (s.heap.push { cls := .type "list", data := .seq #[] }) ((s.heap.objs.size, listOf ([] : List Value).toArray 0) :: news) := News.push F N _ rfl
  exact sub_loop (s := { s with heap := s.heap.push { cls := .type "list", data := .seq #[] } }) hP (fun q hq => Nat.ne_of_lt (Heap.lt_size (N q hq).1)) hx f 0 false [] [] 0 0 l hs (F.push _) N1 .nil (by simp only [List.length_nil]; lia) hw hne h
end
end Mine
end PartRS
section PartN13
open PySem PySem.W PyProof.Rows PySem.Spec PySem.Calls

set_option maxRecDepth 100000
set_option maxHeartbeats 8000000
namespace Mine
noncomputable def wgt (l : List Str) : Bool := decide ((l.map (·.length)).sum + l.length ≤ 1048576) && !l.isEmpty
noncomputable def subS (code : Array Nat) (r x : Str) : Option Str :=
  if x.cps.size ≤ 1000 then match subP code r x.cps 50 0 false with
    | some l => if wgt l = true then some (Txt.join ⟨x.cps.extract 0 0⟩ l) else none
    | none => none
  else none
noncomputable def crlf : Str := ⟨#[13, 10]⟩
noncomputable def dot2 : Str := ⟨#[46, 46]⟩
noncomputable def quoteB (x : Str) : Option Str := (subS cEnd crlf x).bind (subS cDot dot2)
theorem subS_spec {code : Array Nat} {r x y : Str} (h : subS code r x = some y) : ∃ l, x.cps.size ≤ 1000 ∧ subP code r x.cps 50 0 false = some l ∧ (l.map (·.length)).sum + l.length ≤ 1048576 ∧ l ≠ [] ∧ y = Txt.join ⟨x.cps.extract 0 0⟩ l := by
  unfold subS at h
  split at h
  · rename_i hx
    split at h
    · rename_i l hl
      split at h
      · rename_i hw
        unfold wgt at hw
        rw [Bool.and_eq_true] at hw
        refine ⟨l, hx, hl, of_decide_eq_true hw.1, ?_, (Option.some.inj h).symm⟩
        rintro rfl
        exact absurd hw.2 (by decide)
      · cases h
    · cases h
  · cases h
section
variable {prog : Program} {w : World} {A : Around} {E : Value → Shared → Prop} {s : Shared} {h₀ : Heap} {L : Addr} {m : Str → Option Value} {news : Led} {x y : Str} {t u : Tok}
theorem sub_end {Q : Value → Shared → Prop} (X : (hd02.heap_39 w.params).In h₀) (F : Fr h₀ L s.heap m) (N : News h₀ L s.heap news) (hs : subS cEnd crlf x = some y) (h : ∀ h' tk t', Fr h₀ L h' m → News h₀ L h' news → Q (.str y t') { s with heap := h', toks := tk }) :
    wpAny (model prog w) A (call (.builtin "re.Pattern.sub") [.ref 55, .str crlf u, .str x t]) Q E s := by
  obtain ⟨l, hx, hl, hw, hne, rfl⟩ := subS_spec hs
  exact rx_sub (fun h' F' => pat_end X F') F N hx (by decide +kernel) hl (by decide) hw hne h
theorem sub_dot {Q : Value → Shared → Prop} (X : (hd02.heap_39 w.params).In h₀) (F : Fr h₀ L s.heap m) (N : News h₀ L s.heap news) (hs : subS cDot dot2 x = some y) (h : ∀ h' tk t', Fr h₀ L h' m → News h₀ L h' news → Q (.str y t') { s with heap := h', toks := tk }) :
    wpAny (model prog w) A (call (.builtin "re.Pattern.sub") [.ref 50, .str dot2 u, .str x t]) Q E s := by
  obtain ⟨l, hx, hl, hw, hne, rfl⟩ := subS_spec hs
  exact rx_sub (fun h' F' => pat_dot X F') F N hx (by decide +kernel) hl (by decide) hw hne h
end
theorem c_quote (w : World) {p : Program} {loose : List Str} {mean : ExcName → Option Value} {mg mb : Str → Option Value} (news : Led) (x y : Str) (t : Tok) (hq : quoteB x = some y) :
  Tell PySem.Challenge.rw_sr0074_02.row.prog w (hd02.heap_39 w.params) p loose mean mg mb 62 [.str x t] news 20 200 (fun _ => True)
    (fun Go => Go news (fun r => ∃ t', r = .str y t')) := by
  obtain ⟨z, hz, hy⟩ := Option.bind_eq_some_iff.mp hq
  k_fill
  k_with_none
  k_with "nX" => (first | exact ltA0 ‹_› | exact ltA1 ‹_› | exact ltA2 ‹_› | exact ltA3 ‹_› | exact ltA4 ‹_› | exact ltA5 ‹_› | exact ltA6 ‹_› | exact ltA7 ‹_› | exact ltA8 ‹_› | exact ltA9 ‹_› | exact ltA10 ‹_› | exact ltA11 ‹_› | exact ltA12 ‹_› | exact ltA13 ‹_› | exact neA0 ‹_› | exact neA1 ‹_› | exact neA2 ‹_› | exact neA3 ‹_› | exact neA4 ‹_› | exact neA5 ‹_› | exact neA6 ‹_› | exact neA7 ‹_› | exact neA8 ‹_› | exact neA9 ‹_› | exact neA10 ‹_› | exact neA11 ‹_› | exact neA12 ‹_›)
  k_with "k_ne" => (first | k_extra "nX" | (refine Ne.symm ?_; k_extra "nX"))
  k_with "k_room" => (ktr_room)
  k_with "ent D" => (refine' code_def ?zqk1 ?zqk2 ?zqk3 ?zqk4 ?zqk5 ?zqkA ?zqkF ?zqkK ?zqk6 ?zqk7 ?zqk8 ?zqk9 ?zqkB ?_ ?zqc2 ?zqc3 ?zqc4 ?zqc5; (case zqkA | zqkF => exact rfl); (case zqkK => assumption); (case zqk1 | zqk2 | zqk3 | zqk4 | zqk5 => k_asm); (case zqk6 | zqk7 => k_is); (case zqk8 => ktr_room); (case zqk9 => first | exact BindsTo.of_eq rfl | exact binds_K (by k_in) rfl (by k_is) rfl rfl rfl); (case zqc5 => decide); (case zqkB => exact locs rfl); (case zqc2 | zqc3 | zqc4 => exact rfl))
  k_with "w getMethod ref" => (k_here; k_dflt (first | (refine rx_getMethod rx_slot_sub rx_type_sub (pat_dot (by k_asm) (by k_asm)) ?_) | (refine rx_getMethod rx_slot_sub rx_type_sub (pat_end (by k_asm) (by k_asm)) ?_)))
  k_with "w call builtin:re.Pattern.sub" => (k_here; k_extra "my sub")
  unfold Tell
  intro dp un gd cn cs a ccd cl outer A₀ base h₀ L m s Q E B F X N T hk hl2 hdp hu hret
  refine wpAny_call ?_
  k_dflt k_enter
  have hKd := kdMark
  k_with "my sub" => (k_dflt (first | refine sub_end (by k_asm) (by k_asm) (by k_asm) hz ?_ | refine sub_dot (by k_asm) (by k_asm) (by k_asm) hy ?_); intro h9 tk9 t9 F9 N9)
  k_steps
  exact hret _ _ _ ⟨_, rfl⟩ (by k_asm) (by k_asm)
end Mine
end PartN13
section PartPureR
open PySem PySem.W PyProof.Rows

set_option maxRecDepth 100000
namespace Mine
/-- a row of the table: the letter, the number of dots -/
noncomputable abbrev Row := Nat × Nat
noncomputable def nameS (c : Nat) : Str := ⟨#[c]⟩
noncomputable def dotS (k : Nat) : Str := ⟨(List.replicate k 46).toArray⟩
noncomputable def rowS (r : Row) : Str × Str := (nameS r.1, dotS r.2)
noncomputable def low (c : Nat) : Nat := if c < 97 then c + 32 else c
noncomputable def letters : List Nat := [65, 66, 67, 68, 97, 98, 99, 100]
noncomputable def okRow (r : Row) : Prop := r.1 ∈ letters ∧ (r.2 = 1 ∨ r.2 = 2 ∨ r.2 = 3)
theorem low_eq : ∀ a ∈ letters, ∀ b ∈ letters, (Txt.lower (nameS a) == Txt.lower (nameS b)) = (low a == low b) := by decide +kernel
theorem okName_letter : ∀ a ∈ letters, okName (nameS a) := fun a ha => ⟨by show 1 ≤ 1000; decide, by revert a; decide +kernel⟩
theorem lower_len : ∀ a ∈ letters, (Txt.lower (nameS a)).length ≤ 1000 := by decide +kernel
theorem lower_fails : ∀ a ∈ letters, failsB 300 (Sre.forSearch cName (Txt.lower (nameS a)).cps 0 0 (Txt.lower (nameS a)).cps.size false) = true := by decide +kernel
theorem okName_lower (a : Nat) (ha : a ∈ letters) : okName (Txt.lower (nameS a)) := ⟨lower_len a ha, lower_fails a ha⟩
theorem okVal_dot {k : Nat} (h : k = 1 ∨ k = 2 ∨ k = 3) : okVal (dotS k) := by
  rcases h with rfl | rfl | rfl <;> exact ⟨by decide, by decide +kernel⟩
/-- the dots of the first row of a letter -/
noncomputable def getR (R : List Row) (c : Nat) : Option Nat := (R.find? fun r => low r.1 == low c).map (·.2)
noncomputable def setR (R : List Row) (c k : Nat) : List Row := R.filter (fun r => low r.1 != low c) ++ [(c, k)]
theorem find_rows {c : Nat} (hc : c ∈ letters) : ∀ {R : List Row}, (∀ r ∈ R, okRow r) → (R.map rowS).find? (fun kv => Txt.lower kv.1 == Txt.lower (nameS c)) = (R.find? fun r => low r.1 == low c).map rowS
  | [], _ => rfl
  | r :: R, h => by
    rw [List.map_cons, List.find?_cons, List.find?_cons]
    have e : (Txt.lower (rowS r).1 == Txt.lower (nameS c)) = (low r.1 == low c) := low_eq r.1 (h r (.head _)).1 c hc
    rw [e]
    cases low r.1 == low c with
    | true => rfl
    | false => exact find_rows hc fun q hq => h q (.tail _ hq)
theorem filter_rows {c : Nat} (hc : c ∈ letters) : ∀ {R : List Row}, (∀ r ∈ R, okRow r) → (R.map rowS).filter (fun kv => Txt.lower kv.1 != Txt.lower (nameS c)) = (R.filter fun r => low r.1 != low c).map rowS
  | [], _ => rfl
  | r :: R, h => by
    rw [List.map_cons, List.filter_cons, List.filter_cons]
    have e : (Txt.lower (rowS r).1 != Txt.lower (nameS c)) = (low r.1 != low c) := congrArg (!·) (low_eq r.1 (h r (.head _)).1 c hc)
    rw [e, filter_rows hc fun q hq => h q (.tail _ hq)]
    cases low r.1 != low c <;> rfl
noncomputable def up (k : Nat) : Nat := if k = 3 then 1 else k + 1
noncomputable def ends3 : List Str := [⟨#[10]⟩, ⟨#[13]⟩, ⟨#[13, 10]⟩]
noncomputable def three : List Nat := [1, 2, 3]
noncomputable def quoteC (a b c d : Nat) (e : Str) : Bool := decide (quoteB (Txt.join e [dotS a, dotS b, dotS c, dotS d]) = some (Txt.join crlf [dotS (a + 1), dotS (b + 1), dotS (c + 1), dotS (d + 1)]))
noncomputable def quoteAll (a : Nat) (e : Str) : Bool := three.all fun b => three.all fun c => three.all fun d => quoteC a b c d e
theorem item_up : ∀ i ∈ [0, 1, 2, 3, 4, 5, 6, 7], Txt.item (Str.ofString "ABCDabcd") (0 + ((i : Nat) : Int)) = nameS (letters.getD i 0) := by decide +kernel
theorem letters_mem : ∀ i ∈ [0, 1, 2, 3, 4, 5, 6, 7], letters.getD i 0 ∈ letters := by decide
theorem lt8 {i : Nat} (h : i < 8) : i ∈ [0, 1, 2, 3, 4, 5, 6, 7] := List.mem_range.mpr h
theorem okName_item {i : Nat} (h : i < 8) : okName (Txt.item (Str.ofString "ABCDabcd") (0 + (i : Int))) := by
  rw [item_up i (lt8 h)]
  exact okName_letter _ (letters_mem i (lt8 h))
noncomputable def cnt (v : Int) : Nat := (1 + v.fmod 3).toNat
theorem fmod3 (v : Int) : v.fmod 3 = 0 ∨ v.fmod 3 = 1 ∨ v.fmod 3 = 2 := by
  rw [Int.fmod_eq_emod_of_nonneg _ (by decide)]
  lia
theorem mul_dots (v : Int) : Txt.mul (Str.ofString ".") (1 + v.fmod 3) = dotS (cnt v) := by
  unfold cnt
  rcases fmod3 v with h | h | h <;> rw [h] <;> decide +kernel
theorem cnt_ok (v : Int) : cnt v = 1 ∨ cnt v = 2 ∨ cnt v = 3 := by
  unfold cnt
  rcases fmod3 v with h | h | h <;> rw [h] <;> decide
theorem okVal_mul (v : Int) : okVal (Txt.mul (Str.ofString ".") (1 + v.fmod 3)) := by
  rw [mul_dots]
  exact okVal_dot (cnt_ok v)
/-- the table after the eight headers -/
noncomputable def rows8 (rd : List Int) : List Row := (List.range 8).map fun i => (letters.getD i 0, cnt (rd.getD i 0))
end Mine
end PartPureR
section PartQ1
open PySem PySem.W PyProof.Rows PySem.Spec PySem.Calls PyProof.V Builtin PySem.Builtin.Re

set_option maxRecDepth 100000
namespace Mine
namespace Q
open Sre Sre.M
/-! the machine on texts that are not written down -/
theorem runFor_add : ∀ (a b : Nat) (m : Sre.M), m.runFor (a + b) = (m.runFor a).runFor b
  | 0, b, m => by rw [Nat.zero_add]; rfl
  | a + 1, b, m => by
    have e : a + 1 + b = (a + b) + 1 := by lia
    rw [e]
    show (if m.outcome.isSome = true then m else Sre.M.runFor (a + b) m.step) = Sre.M.runFor b (if m.outcome.isSome = true then m else Sre.M.runFor a m.step)
    by_cases h : m.outcome.isSome = true
    · rw [if_pos h, if_pos h]
      cases b with
      | zero => rfl
      | succ b => exact (if_pos h).symm
    · rw [if_neg h, if_neg h]
      exact runFor_add a b m.step
theorem runFor_done {m : Sre.M} (h : m.outcome.isSome = true) : ∀ n, m.runFor n = m
  | 0 => rfl
  | n + 1 => if_pos h
theorem drv_of {m m' : Sre.M} {n : Nat} (h : m.runFor n = m') (ho : m'.outcome.isSome = true) : ∀ {k : Nat}, 0 < k → n ≤ 4 * k → drv k m = some m' := by
  intro k
  induction k generalizing m n with
  | zero => intro hk; exact absurd hk (Nat.lt_irrefl 0)
  | succ k ih =>
    intro _ hn
    unfold drv
    by_cases hn4 : n ≤ 4
    · have e : m.runFor 4 = m' := by
        rw [show 4 = n + (4 - n) by lia, runFor_add, h, runFor_done ho]
      rw [e, if_pos ho]
    · by_cases h4 : (m.runFor 4).outcome.isSome = true
      · rw [if_pos h4]
        have e : m.runFor n = m.runFor 4 := by
          rw [show n = 4 + (n - 4) by lia, runFor_add, runFor_done h4]
        rw [← h, e]
      · rw [if_neg h4]
        have hk : 0 < k := by lia
        exact ih (m := m.runFor 4) (n := n - 4) (by rw [← runFor_add, show 4 + (n - 4) = n by lia]; exact h) hk (by lia)
theorem fails_of {m m' : Sre.M} {n : Nat} (h : m.runFor n = m') (ho : m'.outcome = some .failed) (hn : n ≤ 1200) : failsB 300 m = true := by
  unfold failsB
  rw [drv_of h (by rw [ho]; rfl) (by decide) (by lia)]
  dsimp only
  rw [ho]
theorem span_of {m m' : Sre.M} {n : Nat} (h : m.runFor n = m') (ho : m'.outcome = some .matched) (hn : n ≤ 1200) : spanB 300 m = some (m'.start, m'.handed) := by
  unfold spanB
  rw [drv_of h (by rw [ho]; rfl) (by decide) (by lia)]
  dsimp only
  rw [ho]
theorem not_fails {m m' : Sre.M} {n : Nat} (h : m.runFor n = m') (ho : m'.outcome = some .matched) (hn : n ≤ 1200) : failsB 300 m = false := by
  unfold failsB
  rw [drv_of h (by rw [ho]; rfl) (by decide) (by lia)]
  dsimp only
  rw [ho]
/-- the state at a start -/
noncomputable def sd (c x : Array Nat) (b lim s : Nat) (ma first : Bool) (sn : Sre.Seen) : Sre.M :=
  { code := c, text := x, lim := lim, start := s, lastStart := lim, mustAdvance := ma, pc := b, pos := s, handed := s, outermost := first, marks := #[], frames := [{ wait := .nextStart, pc := b, pos := s, outermost := first }], weight := 1, seen := sn }
theorem forSearch_dot {x : Array Nat} {s lim : Nat} {ma : Bool} (h : s < lim) : ∃ sn, Sre.forSearch cDot x 0 s lim ma = sd cDot x 5 lim s ma true sn := by
  refine ⟨({} : Sre.Seen).add 14, ?_⟩
  unfold Sre.forSearch
  have h1 : ¬ (s > lim ∨ lim - s < (header cDot).1) := by
    rw [show (header cDot).1 = 1 from rfl]
    lia
  have h2 : (decide (s > lim) || decide (lim - s < (header cDot).1)) = false := by
    rw [show (header cDot).1 = 1 from rfl]
    simp
    lia
  simp only [h2]
  rfl
noncomputable abbrev lineB (x : Array Nat) (s : Nat) : Bool := s == 0 || x.getD (s - 1) 0 == 10
theorem dot_step1 {x : Array Nat} {s lim : Nat} {ma f : Bool} {sn : Sre.Seen} : (sd cDot x 5 lim s ma f sn).step = (if lineB x s = true then { sd cDot x 5 lim s ma f ((sn.add 6).add 44) with pc := 7 } else (sd cDot x 5 lim s ma f ((sn.add 6).add 44)).say false) := rfl
theorem dot_back {x : Array Nat} {s lim : Nat} {ma f : Bool} {sn : Sre.Seen} (hl : s < lim) : ((sd cDot x 5 lim s ma f sn).say false).step = sd cDot x 5 lim (s + 1) false false sn := by
  show (if s < lim then _ else _) = _
  rw [if_pos hl]
  rfl
theorem dot_back' {x : Array Nat} {s lim : Nat} {ma f : Bool} {sn : Sre.Seen} (hl : s < lim) : ({ (sd cDot x 5 lim s ma f sn).say false with pc := 7 }).step = sd cDot x 5 lim (s + 1) false false sn := by
  show (if s < lim then _ else _) = _
  rw [if_pos hl]
  rfl
theorem two (m : Sre.M) (h : m.outcome = none) (h' : m.step.outcome = none) : m.runFor 2 = m.step.step := by
  show (if m.outcome.isSome = true then m else if m.step.outcome.isSome = true then m.step else m.step.step) = _
  rw [h, h']
  rfl
theorem dot_at_no {x : Array Nat} {s lim : Nat} {ma f : Bool} {sn : Sre.Seen} (h : lineB x s = false) (hl : s < lim) :
    ∃ sn', (sd cDot x 5 lim s ma f sn).runFor 2 = sd cDot x 5 lim (s + 1) false false sn' := by
  refine ⟨(sn.add 6).add 44, ?_⟩
  have e1 : (sd cDot x 5 lim s ma f sn).step = (sd cDot x 5 lim s ma f ((sn.add 6).add 44)).say false := by rw [dot_step1, h, if_neg Bool.false_ne_true]
  rw [two _ rfl (by rw [e1]; rfl), e1, dot_back hl]
/-- the dot's word -/
theorem dot_step2 {x : Array Nat} {s lim : Nat} {ma f : Bool} {sn : Sre.Seen} (hl : s < lim) : ({ sd cDot x 5 lim s ma f sn with pc := 7 }).step = (if (x.getD s 0 == 46) = true then { sd cDot x 5 lim s ma f (sn.add 16) with pc := 9, pos := s + 1 } else ({ sd cDot x 5 lim s ma f (sn.add 16) with pc := 7 }).say false) := by
  have e : ({ sd cDot x 5 lim s ma f sn with pc := 7 }).step = (if s ≥ lim then ({ sd cDot x 5 lim s ma f (sn.add 16) with pc := 7 }).say false else match Sre.accepts cDot 7 (x.getD s 0) (sn.add 16) with
    | .error why => ({ sd cDot x 5 lim s ma f (sn.add 16) with pc := 7 }).stick why
    | .ok (false, sn') => ({ sd cDot x 5 lim s ma f sn' with pc := 7 }).say false
    | .ok (true, sn') => { sd cDot x 5 lim s ma f sn' with pc := 9, pos := s + 1 }) := rfl
  rw [e, if_neg (Nat.not_le.mpr hl)]
  have e2 : Sre.accepts cDot 7 (x.getD s 0) (sn.add 16) = .ok (x.getD s 0 == 46, sn.add 16) := rfl
  rw [e2]
  cases x.getD s 0 == 46 <;> rfl
theorem dot_no {x : Array Nat} {s lim : Nat} {ma f : Bool} {sn : Sre.Seen} (h : (x.getD s 0 == 46) = false ∨ lineB x s = false) (hl : s < lim) :
    ∃ n sn', n ≤ 3 ∧ (sd cDot x 5 lim s ma f sn).runFor n = sd cDot x 5 lim (s + 1) false false sn' := by
  cases hb : lineB x s with
  | false =>
    obtain ⟨sn', e⟩ := dot_at_no (ma := ma) (f := f) (sn := sn) hb hl
    exact ⟨2, sn', by decide, e⟩
  | true =>
    have h46 : (x.getD s 0 == 46) = false := h.resolve_right (by rw [hb]; decide)
    refine ⟨3, ((sn.add 6).add 44).add 16, Nat.le_refl _, ?_⟩
    have e1 : (sd cDot x 5 lim s ma f sn).step = { sd cDot x 5 lim s ma f ((sn.add 6).add 44) with pc := 7 } := by rw [dot_step1, hb, if_pos rfl]
    have e2 := dot_step2 (x := x) (s := s) (lim := lim) (ma := ma) (f := f) (sn := (sn.add 6).add 44) hl
    rw [h46, if_neg Bool.false_ne_true] at e2
    have e3 : (sd cDot x 5 lim s ma f sn).runFor 1 = { sd cDot x 5 lim s ma f ((sn.add 6).add 44) with pc := 7 } := by
      rw [← e1]
      rfl
    rw [show 3 = 1 + 2 from rfl, runFor_add, e3, two _ rfl (by rw [e2]; rfl), e2]
    exact dot_back' hl
theorem dot_scan {x : Array Nat} {lim : Nat} : ∀ (k s : Nat) (ma f : Bool) (sn : Sre.Seen), s + k ≤ lim → (∀ p, s ≤ p → p < s + k → (x.getD p 0 == 46) = false ∨ lineB x p = false) →
    ∃ n ma' f' sn', n ≤ 3 * k ∧ (k ≠ 0 ∨ ma' = ma) ∧ (sd cDot x 5 lim s ma f sn).runFor n = sd cDot x 5 lim (s + k) ma' f' sn'
  | 0, s, ma, f, sn, _, _ => ⟨0, ma, f, sn, Nat.le_refl _, .inr rfl, rfl⟩
  | k + 1, s, ma, f, sn, hl, h => by
    obtain ⟨n1, seen1, hn1, e1⟩ := dot_no (ma := ma) (f := f) (sn := sn) (h s (Nat.le_refl _) (by lia)) (by lia : s < lim)
    obtain ⟨n2, ma2, f2, seen2, hn2, _, e2⟩ := dot_scan (x := x) (lim := lim) k (s + 1) false false seen1 (by lia) (fun p hp hq => h p (by lia) (by lia))
    refine ⟨n1 + n2, ma2, f2, seen2, by lia, .inl (by lia), ?_⟩
    rw [runFor_add, e1, e2, show s + 1 + k = s + (k + 1) by lia]
theorem dot_hit {x : Array Nat} {s lim : Nat} {ma f : Bool} {sn : Sre.Seen} (h : x.getD s 0 = 46) (hb : lineB x s = true) (hl : s < lim) :
    ∃ m', (sd cDot x 5 lim s ma f sn).runFor 5 = m' ∧ m'.outcome = some .matched ∧ m'.start = s ∧ m'.handed = s + 1 := by
  have e1 : (sd cDot x 5 lim s ma f sn).step = { sd cDot x 5 lim s ma f ((sn.add 6).add 44) with pc := 7 } := by rw [dot_step1, hb, if_pos rfl]
  have e2 := dot_step2 (x := x) (s := s) (lim := lim) (ma := ma) (f := f) (sn := (sn.add 6).add 44) hl
  rw [h, if_pos (show ((46 : Nat) == 46) = true from rfl)] at e2
  have e3 : (sd cDot x 5 lim s ma f sn).runFor 2 = { sd cDot x 5 lim s ma f (((sn.add 6).add 44).add 16) with pc := 9, pos := s + 1 } := by
    rw [two _ rfl (by rw [e1]; rfl), e1, e2]
  refine ⟨_, rfl, ?_⟩
  rw [show 5 = 2 + 3 from rfl, runFor_add, e3]
  have hne : (s + 1 == s) = false := by simp
  have e4 : ({ sd cDot x 5 lim s ma f (((sn.add 6).add 44).add 16) with pc := 9, pos := s + 1 }).step = (if (f && ((false && (s + 1 != lim)) || (ma && (s + 1 == s)))) = true then ({ sd cDot x 5 lim s ma f ((((sn.add 6).add 44).add 16).add 1) with pc := 9, pos := s + 1 }).say false else ({ sd cDot x 5 lim s ma f ((((sn.add 6).add 44).add 16).add 1) with pc := 9, pos := s + 1, handed := s + 1 }).say true) := rfl
  rw [hne, Bool.and_false, Bool.false_and, Bool.or_false, Bool.and_false, if_neg Bool.false_ne_true] at e4
  have e5 : ({ sd cDot x 5 lim s ma f (((sn.add 6).add 44).add 16) with pc := 9, pos := s + 1 }).runFor 3 = (({ sd cDot x 5 lim s ma f (((sn.add 6).add 44).add 16) with pc := 9, pos := s + 1 }).step).runFor 2 := rfl
  rw [e5, e4]
  exact ⟨rfl, rfl, rfl⟩

theorem forSearch_dot_end {x : Array Nat} {s lim : Nat} {ma : Bool} (h : lim ≤ s) : failsB 300 (Sre.forSearch cDot x 0 s lim ma) = true := by
  have h2 : (decide (s > lim) || decide (lim - s < (Sre.header cDot).1)) = true := by
    rw [show (Sre.header cDot).1 = 1 from rfl]
    simp
    lia
  unfold Sre.forSearch
  simp only [h2]
  exact fails_of (n := 1) rfl rfl (by decide)
/-- a dot's search: where it matches -/
theorem dot_span {x : Array Nat} {s k lim : Nat} {ma : Bool} (hk : s + k < lim) (hk3 : k ≤ 300) (hno : ∀ p, s ≤ p → p < s + k → (x.getD p 0 == 46) = false ∨ lineB x p = false) (h : x.getD (s + k) 0 = 46) (hb : lineB x (s + k) = true) :
    failsB 300 (Sre.forSearch cDot x 0 s lim ma) = false ∧ spanB 300 (Sre.forSearch cDot x 0 s lim ma) = some (s + k, s + k + 1) := by
  obtain ⟨sn, e⟩ := forSearch_dot (x := x) (ma := ma) (by lia : s < lim)
  rw [e]
  obtain ⟨n, ma', f', sn', hn, _, e2⟩ := dot_scan (x := x) (lim := lim) k s ma true sn (by lia) hno
  obtain ⟨m', e3, ho, hs, hh⟩ := dot_hit (x := x) (s := s + k) (lim := lim) (ma := ma') (f := f') (sn := sn') h hb hk
  have e4 : (sd cDot x 5 lim s ma true sn).runFor (n + 5) = m' := by rw [runFor_add, e2, e3]
  exact ⟨not_fails e4 ho (by lia), by rw [span_of e4 ho (by lia), hs, hh]⟩
theorem dot_end {x : Array Nat} {lim : Nat} {ma f : Bool} {sn : Sre.Seen} : ∃ n m', n ≤ 4 ∧ (sd cDot x 5 lim lim ma f sn).runFor n = m' ∧ m'.outcome = some .failed := by
  cases hb : lineB x lim with
  | false =>
    have e1 : (sd cDot x 5 lim lim ma f sn).step = (sd cDot x 5 lim lim ma f ((sn.add 6).add 44)).say false := by rw [dot_step1, hb, if_neg Bool.false_ne_true]
    have e2 : ((sd cDot x 5 lim lim ma f ((sn.add 6).add 44)).say false).step = ({ sd cDot x 5 lim lim ma f ((sn.add 6).add 44) with frames := [], weight := 0 }).say false := by
      show (if lim < lim then _ else _) = _
      rw [if_neg (Nat.lt_irrefl _)]
      rfl
    refine ⟨3, _, by decide, rfl, ?_⟩
    rw [show 3 = 2 + 1 from rfl, runFor_add, two _ rfl (by rw [e1]; rfl), e1, e2]
    rfl
  | true =>
    have e1 : (sd cDot x 5 lim lim ma f sn).step = { sd cDot x 5 lim lim ma f ((sn.add 6).add 44) with pc := 7 } := by rw [dot_step1, hb, if_pos rfl]
    have e2 : ({ sd cDot x 5 lim lim ma f ((sn.add 6).add 44) with pc := 7 }).step = ({ sd cDot x 5 lim lim ma f (((sn.add 6).add 44).add 16) with pc := 7 }).say false := by
      show (if lim ≥ lim then _ else _) = _
      rw [if_pos (Nat.le_refl _)]
      rfl
    have e3 : (({ sd cDot x 5 lim lim ma f (((sn.add 6).add 44).add 16) with pc := 7 }).say false).step = ({ sd cDot x 5 lim lim ma f (((sn.add 6).add 44).add 16) with frames := [], weight := 0 }).say false := by
      show (if lim < lim then _ else _) = _
      rw [if_neg (Nat.lt_irrefl _)]
      rfl
    refine ⟨4, _, by decide, rfl, ?_⟩
    have e6 : (sd cDot x 5 lim lim ma f sn).runFor 2 = ({ sd cDot x 5 lim lim ma f (((sn.add 6).add 44).add 16) with pc := 7 }).say false := by rw [two _ rfl (by rw [e1]; rfl), e1, e2]
    rw [show 4 = 2 + (1 + 1) from rfl, runFor_add, e6, runFor_add]
    have e5 : (({ sd cDot x 5 lim lim ma f (((sn.add 6).add 44).add 16) with pc := 7 }).say false).runFor 1 = (({ sd cDot x 5 lim lim ma f (((sn.add 6).add 44).add 16) with pc := 7 }).say false).step := rfl
    rw [e5, e3]
    rfl
/-- a dot's search that finds nothing more -/
theorem dot_none {x : Array Nat} {s k lim : Nat} {ma : Bool} (hk : s + k = lim) (hk3 : k ≤ 300) (hno : ∀ p, s ≤ p → p < lim → (x.getD p 0 == 46) = false ∨ lineB x p = false) : failsB 300 (Sre.forSearch cDot x 0 s lim ma) = true := by
  by_cases h0 : k = 0
  · exact forSearch_dot_end (by lia)
  obtain ⟨sn, e⟩ := forSearch_dot (x := x) (ma := ma) (by lia : s < lim)
  rw [e]
  obtain ⟨n, ma', f', sn', hn, _, e2⟩ := dot_scan (x := x) (lim := lim) k s ma true sn (by lia) (fun p hp hq => hno p hp (by lia))
  rw [hk] at e2
  obtain ⟨n2, m', hn2, e3, ho⟩ := dot_end (x := x) (lim := lim) (ma := ma') (f := f') (sn := sn')
  exact fails_of (n := n + n2) (by rw [runFor_add, e2, e3]) ho (by lia)
/-! the line ends' machine -/
noncomputable def fr1 (s : Nat) (f : Bool) : List Sre.Frame := [{ wait := .nextStart, pc := 10, pos := s, outermost := f }]
noncomputable def fr2 (alt s : Nat) (f : Bool) : List Sre.Frame := { wait := .nextBranch, pc := alt, pos := s, outermost := f, kept := { lastmark := -1, lastindex := -1, whole := false, marks := #[] } } :: fr1 s f
noncomputable def fr3 (s : Nat) (f : Bool) : List Sre.Frame := { wait := .lookNot, pc := 26, pos := s + 1, outermost := f, kept := { lastmark := -1, lastindex := -1, whole := false, marks := #[] } } :: fr2 23 s f
noncomputable def se (x : Array Nat) (lim s : Nat) (ma f : Bool) (pc pos hd : Nat) (om : Bool) (fr : List Sre.Frame) (wt : Nat) (sn : Sre.Seen) : Sre.M :=
  { code := cEnd, text := x, lim := lim, start := s, lastStart := lim, mustAdvance := ma, pc := pc, pos := pos, handed := hd, outermost := om, marks := #[], frames := fr, weight := wt, seen := sn }
section
variable {x : Array Nat} {lim s : Nat} {ma f : Bool} {sn : Sre.Seen}
theorem eb : (se x lim s ma f 10 s s f (fr1 s f) 1 sn).step = se x lim s ma f 12 s s f (fr2 11 s f) 2 (sn.add 7) := rfl
noncomputable abbrev here (x : Array Nat) (lim p w : Nat) : Bool := decide (p < lim) && x.getD p 0 == w
theorem elit {pc pos hd w : Nat} {om : Bool} {fr : List Sre.Frame} {wt : Nat} (hc : Sre.ops[cEnd.getD pc 0]? = some .LITERAL) (hw : cEnd.getD (pc + 1) 0 = w) (hp : pc < 36) (h16 : cEnd.getD pc 0 = 16) (hi : Sre.itemWidth cEnd pc = 2) :
    (se x lim s ma f pc pos hd om fr wt sn).step = (if here x lim pos w = true then se x lim s ma f (pc + 2) (pos + 1) hd om fr wt (sn.add 16) else (se x lim s ma f pc pos hd om fr wt (sn.add 16)).say false) := by
  have e : (se x lim s ma f pc pos hd om fr wt sn).step = (if pc < 36 then (se x lim s ma f pc pos hd om fr wt sn).exec else _) := rfl
  rw [e, if_pos hp]
  unfold Sre.M.exec
  rw [show (se x lim s ma f pc pos hd om fr wt sn).word 0 = cEnd.getD pc 0 from rfl, hc]
  show (if pos ≥ lim then (se x lim s ma f pc pos hd om fr wt (sn.add (cEnd.getD pc 0))).say false else match Sre.accepts cEnd pc (x.getD pos 0) (sn.add (cEnd.getD pc 0)) with
    | .error why => (se x lim s ma f pc pos hd om fr wt (sn.add (cEnd.getD pc 0))).stick why
    | .ok (false, sn') => (se x lim s ma f pc pos hd om fr wt sn').say false
    | .ok (true, sn') => se x lim s ma f (pc + Sre.itemWidth cEnd pc) (pos + 1) hd om fr wt sn') = _
  rw [h16, hi]
  by_cases hl : pos < lim
  · rw [if_neg (Nat.not_le.mpr hl)]
    have e2 : Sre.accepts cEnd pc (x.getD pos 0) (sn.add 16) = .ok (x.getD pos 0 == w, sn.add 16) := by
      unfold Sre.accepts
      rw [hc, hw]
    rw [e2]
    unfold here
    rw [decide_eq_true hl, Bool.true_and]
    cases x.getD pos 0 == w <;> rfl
  · rw [if_pos (Nat.not_lt.mp hl)]
    unfold here
    rw [decide_eq_false hl, Bool.false_and, if_neg Bool.false_ne_true]
theorem enext {pc pos : Nat} : ((se x lim s ma f pc pos s f (fr2 11 s f) 2 sn).say false).step = se x lim s ma f 19 s s f (fr2 18 s f) 2 sn := rfl
theorem enext2 {pc pos : Nat} : ((se x lim s ma f pc pos s f (fr2 18 s f) 2 sn).say false).step = se x lim s ma f 24 s s f (fr2 23 s f) 2 sn := rfl
theorem ejump1 {pos hd : Nat} {fr : List Sre.Frame} {wt : Nat} : (se x lim s ma f 16 pos hd f fr wt sn).step = se x lim s ma f 35 pos hd f fr wt (sn.add 15) := rfl
theorem ejump2 {pos hd : Nat} {fr : List Sre.Frame} {wt : Nat} : (se x lim s ma f 21 pos hd f fr wt sn).step = se x lim s ma f 35 pos hd f fr wt (sn.add 15) := rfl
theorem ejump3 {pos hd : Nat} {fr : List Sre.Frame} {wt : Nat} : (se x lim s ma f 32 pos hd f fr wt sn).step = se x lim s ma f 35 pos hd f fr wt (sn.add 15) := rfl
theorem enot : (se x lim s ma f 26 (s + 1) s f (fr2 23 s f) 2 sn).step = se x lim s ma f 29 (s + 1) (s + 1) false (fr3 s f) 3 (sn.add 5) := rfl
theorem enotb {pc pos hd : Nat} : ((se x lim s ma f pc pos hd false (fr3 s f) 3 sn).say false).step = se x lim s ma f 32 (s + 1) hd f (fr2 23 s f) 2 sn := rfl
theorem one (m : Sre.M) (h : m.outcome = none) : m.runFor 1 = m.step := by
  show (if m.outcome.isSome = true then m else m.step) = _
  rw [h]
  rfl
theorem ewin {alt pos hd : Nat} (hne : pos ≠ s) : ∃ m', (se x lim s ma f 35 pos hd f (fr2 alt s f) 2 sn).runFor 4 = m' ∧ m'.outcome = some .matched ∧ m'.start = s ∧ m'.handed = pos := by
  refine ⟨_, rfl, ?_⟩
  have h : (pos == s) = false := by simpa using hne
  have e : (se x lim s ma f 35 pos hd f (fr2 alt s f) 2 sn).step = (if (f && ((false && (pos != lim)) || (ma && (pos == s)))) = true then (se x lim s ma f 35 pos hd f (fr2 alt s f) 2 (sn.add 1)).say false else (se x lim s ma f 35 pos pos f (fr2 alt s f) 2 (sn.add 1)).say true) := rfl
  rw [h, Bool.and_false, Bool.false_and, Bool.or_false, Bool.and_false, if_neg Bool.false_ne_true] at e
  rw [show 4 = 1 + 3 from rfl, runFor_add, one _ rfl, e]
  exact ⟨rfl, rfl, rfl⟩
/-- a feed -/
theorem hit_feed (h : x.getD s 0 = 10) (hl : s < lim) : ∃ m', (se x lim s ma f 10 s s f (fr1 s f) 1 sn).runFor 9 = m' ∧ m'.outcome = some .matched ∧ m'.start = s ∧ m'.handed = s + 1 := by
  have b1 : here x lim s 13 = false := by unfold here; rw [h]; simp
  have b2 : here x lim s 10 = true := by unfold here; rw [h]; simp [hl]
  have e2 := elit (x := x) (lim := lim) (s := s) (ma := ma) (f := f) (sn := sn.add 7) (pc := 12) (pos := s) (hd := s) (w := 13) (om := f) (fr := fr2 11 s f) (wt := 2) rfl rfl (by decide) rfl rfl
  rw [b1, if_neg Bool.false_ne_true] at e2
  have e4 := elit (x := x) (lim := lim) (s := s) (ma := ma) (f := f) (sn := (sn.add 7).add 16) (pc := 19) (pos := s) (hd := s) (w := 10) (om := f) (fr := fr2 18 s f) (wt := 2) rfl rfl (by decide) rfl rfl
  rw [b2, if_pos rfl] at e4
  obtain ⟨m', e6, r⟩ := ewin (x := x) (lim := lim) (s := s) (ma := ma) (f := f) (sn := (((sn.add 7).add 16).add 16).add 15) (alt := 18) (pos := s + 1) (hd := s) (by lia)
  refine ⟨m', ?_, r⟩
  rw [show 9 = 1 + (1 + (1 + (1 + (1 + 4)))) from rfl, runFor_add, one _ rfl, eb, runFor_add, one _ rfl, e2, runFor_add, one _ rfl, enext, runFor_add, one _ rfl, e4, runFor_add, one _ rfl, ejump2, e6]
/-- a return and a feed -/
theorem hit_both (h : x.getD s 0 = 13) (h1 : x.getD (s + 1) 0 = 10) (hl : s + 1 < lim) : ∃ m', (se x lim s ma f 10 s s f (fr1 s f) 1 sn).runFor 8 = m' ∧ m'.outcome = some .matched ∧ m'.start = s ∧ m'.handed = s + 2 := by
  have b1 : here x lim s 13 = true := by unfold here; rw [h]; simp; lia
  have b2 : here x lim (s + 1) 10 = true := by unfold here; rw [h1]; simp [hl]
  have e2 := elit (x := x) (lim := lim) (s := s) (ma := ma) (f := f) (sn := sn.add 7) (pc := 12) (pos := s) (hd := s) (w := 13) (om := f) (fr := fr2 11 s f) (wt := 2) rfl rfl (by decide) rfl rfl
  rw [b1, if_pos rfl] at e2
  have e4 := elit (x := x) (lim := lim) (s := s) (ma := ma) (f := f) (sn := (sn.add 7).add 16) (pc := 14) (pos := s + 1) (hd := s) (w := 10) (om := f) (fr := fr2 11 s f) (wt := 2) rfl rfl (by decide) rfl rfl
  rw [b2, if_pos rfl] at e4
  obtain ⟨m', e6, r⟩ := ewin (x := x) (lim := lim) (s := s) (ma := ma) (f := f) (sn := (((sn.add 7).add 16).add 16).add 15) (alt := 11) (pos := s + 1 + 1) (hd := s) (by lia)
  refine ⟨m', ?_, r⟩
  rw [show 8 = 1 + (1 + (1 + (1 + 4))) from rfl, runFor_add, one _ rfl, eb, runFor_add, one _ rfl, e2, runFor_add, one _ rfl, e4, runFor_add, one _ rfl, ejump1, e6]
/-- a return with no feed behind it -/
theorem hit_ret (h : x.getD s 0 = 13) (h1 : here x lim (s + 1) 10 = false) (hl : s < lim) : ∃ m', (se x lim s ma f 10 s s f (fr1 s f) 1 sn).runFor 15 = m' ∧ m'.outcome = some .matched ∧ m'.start = s ∧ m'.handed = s + 1 := by
  have b1 : here x lim s 13 = true := by unfold here; rw [h]; simp [hl]
  have b3 : here x lim s 10 = false := by unfold here; rw [h]; simp
  have e2 := elit (x := x) (lim := lim) (s := s) (ma := ma) (f := f) (sn := sn.add 7) (pc := 12) (pos := s) (hd := s) (w := 13) (om := f) (fr := fr2 11 s f) (wt := 2) rfl rfl (by decide) rfl rfl
  rw [b1, if_pos rfl] at e2
  have e3 := elit (x := x) (lim := lim) (s := s) (ma := ma) (f := f) (sn := (sn.add 7).add 16) (pc := 14) (pos := s + 1) (hd := s) (w := 10) (om := f) (fr := fr2 11 s f) (wt := 2) rfl rfl (by decide) rfl rfl
  rw [h1, if_neg Bool.false_ne_true] at e3
  have e4 := elit (x := x) (lim := lim) (s := s) (ma := ma) (f := f) (sn := ((sn.add 7).add 16).add 16) (pc := 19) (pos := s) (hd := s) (w := 10) (om := f) (fr := fr2 18 s f) (wt := 2) rfl rfl (by decide) rfl rfl
  rw [b3, if_neg Bool.false_ne_true] at e4
  have e5 := elit (x := x) (lim := lim) (s := s) (ma := ma) (f := f) (sn := (((sn.add 7).add 16).add 16).add 16) (pc := 24) (pos := s) (hd := s) (w := 13) (om := f) (fr := fr2 23 s f) (wt := 2) rfl rfl (by decide) rfl rfl
  rw [b1, if_pos rfl] at e5
  have e6 := elit (x := x) (lim := lim) (s := s) (ma := ma) (f := f) (sn := (((((sn.add 7).add 16).add 16).add 16).add 16).add 5) (pc := 29) (pos := s + 1) (hd := s + 1) (w := 10) (om := false) (fr := fr3 s f) (wt := 3) rfl rfl (by decide) rfl rfl
  rw [h1, if_neg Bool.false_ne_true] at e6
  obtain ⟨m', e9, r⟩ := ewin (x := x) (lim := lim) (s := s) (ma := ma) (f := f) (sn := (((((((sn.add 7).add 16).add 16).add 16).add 16).add 5).add 16).add 15) (alt := 23) (pos := s + 1) (hd := s + 1) (by lia)
  refine ⟨m', ?_, r⟩
  rw [show 15 = 1 + (1 + (1 + (1 + (1 + (1 + (1 + (1 + (1 + (1 + (1 + 4)))))))))) from rfl, runFor_add, one _ rfl, eb, runFor_add, one _ rfl, e2, runFor_add, one _ rfl, e3, runFor_add, one _ rfl, enext, runFor_add, one _ rfl, e4, runFor_add, one _ rfl, enext2, runFor_add, one _ rfl, e5, runFor_add, one _ rfl, enot, runFor_add, one _ rfl, e6, runFor_add, one _ rfl, enotb, runFor_add, one _ rfl, ejump3, e9]
/-- the set's first sign -/
theorem set_no {c : Nat} {y : Bool} (h : c ≠ 10 ∧ c ≠ 13) : ∃ sn', Sre.inSet cEnd c 36 5 y sn = .ok (!y, sn') := by
  refine ⟨((sn.add 16).add 16).add 0, ?_⟩
  have e : Sre.inSet cEnd c 36 5 y sn = (if (c == 10) = true then .ok (y, sn.add 16) else if (c == 13) = true then .ok (y, (sn.add 16).add 16) else .ok (!y, ((sn.add 16).add 16).add 0)) := rfl
  have h1 : (c == 10) = false := by simpa using h.1
  have h2 : (c == 13) = false := by simpa using h.2
  rw [e, h1, h2, if_neg Bool.false_ne_true, if_neg Bool.false_ne_true]
theorem set_yes {c : Nat} {y : Bool} (h : c = 10 ∨ c = 13) : ∃ sn', Sre.inSet cEnd c 36 5 y sn = .ok (y, sn') := by
  rcases h with rfl | rfl
  · exact ⟨_, rfl⟩
  · exact ⟨_, rfl⟩
theorem admit {m : Sre.M} (hc : m.code = cEnd) (hx : m.text = x) (hl : m.lim = lim) : ∀ (k s n : Nat) (sn : Sre.Seen), k < n → s + k < lim → (∀ p, s ≤ p → p < s + k → x.getD p 0 ≠ 10 ∧ x.getD p 0 ≠ 13) → (x.getD (s + k) 0 = 10 ∨ x.getD (s + k) 0 = 13) →
    ∃ sn', Sre.M.admitted m n s sn = .ok (some (s + k), sn') := by
  intro k
  induction k with
  | zero =>
    intro s n sn hn hs _ h
    obtain ⟨n, rfl⟩ : ∃ j, n = j + 1 := ⟨n - 1, by lia⟩
    obtain ⟨sn', e⟩ := set_yes (sn := sn) (y := true) h
    refine ⟨sn', ?_⟩
    unfold Sre.M.admitted
    rw [hc, hx, hl, if_neg (by lia : ¬ s ≥ lim)]
    have e' : Sre.inSet cEnd (x.getD s 0) cEnd.size 5 true sn = .ok (true, sn') := e
    rw [e']
    rfl
  | succ k ih =>
    intro s n sn hn hs hno h
    obtain ⟨n, rfl⟩ : ∃ j, n = j + 1 := ⟨n - 1, by lia⟩
    obtain ⟨sn1, e⟩ := set_no (sn := sn) (y := true) (hno s (Nat.le_refl _) (by lia))
    obtain ⟨sn', e2⟩ := ih (s + 1) n sn1 (by lia) (by lia) (fun p hp hq => hno p (by lia) (by lia)) (by rw [show s + 1 + k = s + (k + 1) by lia]; exact h)
    refine ⟨sn', ?_⟩
    unfold Sre.M.admitted
    rw [hc, hx, hl, if_neg (by lia : ¬ s ≥ lim)]
    have e' : Sre.inSet cEnd (x.getD s 0) cEnd.size 5 true sn = .ok (false, sn1) := e
    rw [e']
    dsimp only
    rw [e2, show s + 1 + k = s + (k + 1) by lia]
end
theorem forSearch_end {x : Array Nat} {s k lim : Nat} {ma : Bool} (hs : s + k < lim) (hno : ∀ p, s ≤ p → p < s + k → x.getD p 0 ≠ 10 ∧ x.getD p 0 ≠ 13) (h : x.getD (s + k) 0 = 10 ∨ x.getD (s + k) 0 = 13) :
    ∃ sn, Sre.forSearch cEnd x 0 s lim ma = se x lim (s + k) false true 10 (s + k) (s + k) true (fr1 (s + k) true) 1 sn := by
  have h2 : (decide (s > lim) || decide (lim - s < (Sre.header cEnd).1)) = false := by
    rw [show (Sre.header cEnd).1 = 1 from rfl]
    simp
    lia
  unfold Sre.forSearch
  simp only [h2]
  obtain ⟨sn', e⟩ := admit (x := x) (lim := lim) (m := { code := cEnd, text := x, lim := lim, start := s, lastStart := lim, mustAdvance := ma, pc := 10, pos := s, handed := s, marks := #[], seen := ({} : Sre.Seen).add 14 }) rfl rfl rfl k s (lim + 1 - s) (({} : Sre.Seen).add 14) (by lia) hs hno h
  refine ⟨sn', ?_⟩
  show Sre.M.attemptFrom { code := cEnd, text := x, lim := lim, start := s, lastStart := lim, mustAdvance := ma, pc := 10, pos := s, handed := s, marks := #[], seen := ({} : Sre.Seen).add 14 } s true = _
  unfold Sre.M.attemptFrom
  rw [show (Sre.M.hasFirstSet { code := cEnd, text := x, lim := lim, start := s, lastStart := lim, mustAdvance := ma, pc := 10, pos := s, handed := s, marks := #[], seen := ({} : Sre.Seen).add 14 }) = true from rfl, if_neg (by decide), e]
  rfl
theorem forSearch_end_none {x : Array Nat} {s lim : Nat} {ma : Bool} (h : lim ≤ s) : failsB 300 (Sre.forSearch cEnd x 0 s lim ma) = true := by
  have h2 : (decide (s > lim) || decide (lim - s < (Sre.header cEnd).1)) = true := by
    rw [show (Sre.header cEnd).1 = 1 from rfl]
    simp
    lia
  unfold Sre.forSearch
  simp only [h2]
  exact fails_of (n := 1) rfl rfl (by decide)
/-- a line end's search -/
theorem end_span {x : Array Nat} {s k lim : Nat} {ma : Bool} (hs : s + k < lim) (hno : ∀ p, s ≤ p → p < s + k → x.getD p 0 ≠ 10 ∧ x.getD p 0 ≠ 13) {e : Nat}
    (h : (x.getD (s + k) 0 = 10 ∧ e = 1) ∨ (x.getD (s + k) 0 = 13 ∧ x.getD (s + k + 1) 0 = 10 ∧ s + k + 1 < lim ∧ e = 2) ∨ (x.getD (s + k) 0 = 13 ∧ here x lim (s + k + 1) 10 = false ∧ e = 1)) :
    failsB 300 (Sre.forSearch cEnd x 0 s lim ma) = false ∧ spanB 300 (Sre.forSearch cEnd x 0 s lim ma) = some (s + k, s + k + e) := by
  obtain ⟨sn, e0⟩ := forSearch_end (x := x) (ma := ma) hs hno (by rcases h with h | h | h; exact .inl h.1; exact .inr h.1; exact .inr h.1)
  rw [e0]
  have key : ∃ n m', n ≤ 15 ∧ (se x lim (s + k) false true 10 (s + k) (s + k) true (fr1 (s + k) true) 1 sn).runFor n = m' ∧ m'.outcome = some .matched ∧ m'.start = s + k ∧ m'.handed = s + k + e := by
    rcases h with ⟨h, rfl⟩ | ⟨h, h1, h2, rfl⟩ | ⟨h, h1, rfl⟩
    · obtain ⟨m', r⟩ := hit_feed (x := x) (lim := lim) (s := s + k) (ma := false) (f := true) (sn := sn) h hs
      exact ⟨9, m', by decide, r⟩
    · obtain ⟨m', r⟩ := hit_both (x := x) (lim := lim) (s := s + k) (ma := false) (f := true) (sn := sn) h h1 h2
      exact ⟨8, m', by decide, r⟩
    · obtain ⟨m', r⟩ := hit_ret (x := x) (lim := lim) (s := s + k) (ma := false) (f := true) (sn := sn) h h1 hs
      exact ⟨15, m', by decide, r⟩
  obtain ⟨n, m', hn, e1, ho, h1, h2⟩ := key
  exact ⟨not_fails e1 ho (by lia), by rw [span_of e1 ho (by lia), h1, h2]⟩
end Q
end Mine
end PartQ1
section PartQ2
open PySem PySem.W PyProof.Rows PySem.Spec PySem.Calls PyProof.V Builtin PySem.Builtin.Str

set_option maxRecDepth 100000
namespace Mine
namespace Q
/-! pages: rows, each with a line's end -/
noncomputable abbrev S (l : List Nat) : Str := ⟨l.toArray⟩
noncomputable def body (e : List Nat) : List (List Nat) → List Nat
  | [] => []
  | r :: rs => r ++ (e ++ body e rs)
noncomputable def plain (r : List Nat) : Prop := ∀ c ∈ r, c ≠ 10 ∧ c ≠ 13
noncomputable def cat (l : List Str) : List Nat := l.flatMap fun s => s.cps.toList
theorem cat_app (a b : List Str) : cat (a ++ b) = cat a ++ cat b := List.flatMap_append
theorem gt (l : List Nat) (p : Nat) : l.toArray.getD p 0 = l[p]?.getD 0 := by
  rw [Array.getD_eq_getD_getElem?, List.getElem?_toArray]
theorem at_pre (pre m : List Nat) (i : Nat) : (pre ++ m)[pre.length + i]? = m[i]? := by
  rw [List.getElem?_append_right (Nat.le_add_right _ _), Nat.add_sub_cancel_left]
theorem gt_pre (pre m : List Nat) (i : Nat) : (pre ++ m).toArray.getD (pre.length + i) 0 = m[i]?.getD 0 := by rw [gt, at_pre]
theorem plain_at {r : List Nat} (h : plain r) (i : Nat) : r[i]?.getD 0 ≠ 10 ∧ r[i]?.getD 0 ≠ 13 := by
  cases e : r[i]? with
  | none => exact ⟨by decide, by decide⟩
  | some c => exact h c (List.mem_of_getElem? e)
theorem left_at (r m : List Nat) {i : Nat} (h : i < r.length) : (r ++ m)[i]? = r[i]? := List.getElem?_append_left h
theorem extract_mid (pre r m : List Nat) : ((pre ++ (r ++ m)).toArray.extract pre.length (pre.length + r.length)).toList = r := by
  rw [Array.toList_extract]
  show List.extract (pre ++ (r ++ m)) pre.length (pre.length + r.length) = r
  rw [List.extract_eq_take_drop]
  rw [List.drop_left, Nat.add_sub_cancel_left, List.take_left]
theorem cat_cut (pre r m : List Nat) : cat (cut (pre ++ (r ++ m)).toArray pre.length (pre.length + r.length)) = r := by
  unfold cut
  split
  · show ((pre ++ (r ++ m)).toArray.extract pre.length (pre.length + r.length)).toList ++ [] = r
    rw [List.append_nil, extract_mid]
  · have : r.length = 0 := by lia
    rw [List.length_eq_zero_iff.mp this]
    rfl
theorem cut_len (x : Array Nat) (b e : Nat) : (cut x b e).length ≤ 1 := by
  unfold cut
  split <;> simp
noncomputable def okEnd (e : List Nat) : Prop := e = [10] ∨ e = [13] ∨ e = [13, 10]
/-- the rows, each with its first dot -/
noncomputable def dotted (rs : List (List Nat)) : List (List Nat) := rs.map fun r => 46 :: r
noncomputable def twice (rs : List (List Nat)) : List (List Nat) := rs.map fun r => 46 :: 46 :: r
end Q
end Mine
end PartQ2
section PartQ3
open PySem PySem.W PyProof.Rows PySem.Spec PySem.Calls PyProof.V Builtin PySem.Builtin.Str

set_option maxRecDepth 100000
namespace Mine
namespace Q
theorem join_cat : ∀ (l : List Str) (x : Array Nat), Txt.join ⟨x.extract 0 0⟩ l = S (cat l)
  | [], x => rfl
  | p :: l, x => by
    have e0 : (⟨x.extract 0 0⟩ : Str) = ⟨#[]⟩ := congrArg Str.mk (by simp)
    rw [e0]
    show (⟨l.foldl (fun acc q => acc ++ (#[] : Array Nat) ++ q.cps) p.cps⟩ : Str) = S (cat (p :: l))
    have key : ∀ (l : List Str) (acc : Array Nat), l.foldl (fun acc q => acc ++ (#[] : Array Nat) ++ q.cps) acc = (acc.toList ++ cat l).toArray := by
      intro l
      induction l with
      | nil => intro acc; simp [cat]
      | cons q l ih =>
        intro acc
        rw [List.foldl_cons, ih]
        simp [cat]
    rw [key]
    rfl
theorem sum_len : ∀ (l : List Str), (l.map (·.length)).sum = (cat l).length
  | [] => rfl
  | p :: l => by
    rw [List.map_cons, List.sum_cons, sum_len l]
    show _ = (p.cps.toList ++ cat l).length
    rw [List.length_append]
    simp [Str.length]
theorem wgt_of {l : List Str} {n : Nat} (h : (cat l).length + l.length ≤ n) (hn : n ≤ 1048576) (hne : l ≠ []) : wgt l = true := by
  unfold wgt
  rw [Bool.and_eq_true]
  refine ⟨decide_eq_true ?_, ?_⟩
  · rw [sum_len]
    lia
  · cases l with
    | nil => exact absurd rfl hne
    | cons a l => rfl
theorem subS_of {code : Array Nat} {r : Str} {x : List Nat} {l : List Str} (hx : x.length ≤ 1000) (h : subP code r x.toArray 50 0 false = some l) (hw : wgt l = true) : subS code r (S x) = some (S (cat l)) := by
  unfold subS
  rw [if_pos (by show x.toArray.size ≤ 1000; rw [List.size_toArray]; exact hx)]
  show (match subP code r x.toArray 50 0 false with | some l => _ | none => _) = _
  rw [h]
  dsimp only
  rw [if_pos hw]
  exact congrArg some (join_cat l _)
end Q
end Mine
end PartQ3
section PartQM
open PySem PySem.W PyProof.Rows PySem.Spec PySem.Calls PyProof.V Builtin PySem.Builtin.Str

set_option maxRecDepth 100000
namespace Mine
namespace Q
theorem admit_none {x : Array Nat} {lim : Nat} {m : Sre.M} (hc : m.code = cEnd) (hx : m.text = x) (hl : m.lim = lim) : ∀ (k s n : Nat) (sn : Sre.Seen), k < n → s + k = lim → (∀ p, s ≤ p → p < lim → x.getD p 0 ≠ 10 ∧ x.getD p 0 ≠ 13) →
    ∃ sn', Sre.M.admitted m n s sn = .ok (none, sn') := by
  intro k
  induction k with
  | zero =>
    intro s n sn hn hs _
    obtain ⟨n, rfl⟩ : ∃ j, n = j + 1 := ⟨n - 1, by lia⟩
    refine ⟨sn, ?_⟩
    unfold Sre.M.admitted
    rw [hl, if_pos (by lia : s ≥ lim)]
  | succ k ih =>
    intro s n sn hn hs hno
    obtain ⟨n, rfl⟩ : ∃ j, n = j + 1 := ⟨n - 1, by lia⟩
    obtain ⟨sn1, e⟩ := set_no (sn := sn) (y := true) (hno s (Nat.le_refl _) (by lia))
    obtain ⟨sn', e2⟩ := ih (s + 1) n sn1 (by lia) (by lia) (fun p hp hq => hno p (by lia) hq)
    refine ⟨sn', ?_⟩
    unfold Sre.M.admitted
    rw [hc, hx, hl, if_neg (by lia : ¬ s ≥ lim)]
    have e' : Sre.inSet cEnd (x.getD s 0) cEnd.size 5 true sn = .ok (false, sn1) := e
    rw [e']
    dsimp only
    rw [e2]
theorem end_none {x : Array Nat} {s lim : Nat} {ma : Bool} (hs : s ≤ lim) (hno : ∀ p, s ≤ p → p < lim → x.getD p 0 ≠ 10 ∧ x.getD p 0 ≠ 13) : failsB 300 (Sre.forSearch cEnd x 0 s lim ma) = true := by
  by_cases hl : lim ≤ s
  · exact forSearch_end_none hl
  have h2 : (decide (s > lim) || decide (lim - s < (Sre.header cEnd).1)) = false := by
    rw [show (Sre.header cEnd).1 = 1 from rfl]
    simp
    lia
  unfold Sre.forSearch
  simp only [h2]
  obtain ⟨sn', e⟩ := admit_none (x := x) (lim := lim) (m := { code := cEnd, text := x, lim := lim, start := s, lastStart := lim, mustAdvance := ma, pc := 10, pos := s, handed := s, marks := #[], seen := ({} : Sre.Seen).add 14 }) rfl rfl rfl (lim - s) s (lim + 1 - s) (({} : Sre.Seen).add 14) (by lia) (by lia) hno
  show failsB 300 (Sre.M.attemptFrom { code := cEnd, text := x, lim := lim, start := s, lastStart := lim, mustAdvance := ma, pc := 10, pos := s, handed := s, marks := #[], seen := ({} : Sre.Seen).add 14 } s true) = true
  unfold Sre.M.attemptFrom
  rw [show (Sre.M.hasFirstSet { code := cEnd, text := x, lim := lim, start := s, lastStart := lim, mustAdvance := ma, pc := 10, pos := s, handed := s, marks := #[], seen := ({} : Sre.Seen).add 14 }) = true from rfl, if_neg (by decide), e]
  exact fails_of (n := 1) rfl rfl (by decide)
/-! rows with ends, and a last row without -/
noncomputable def bodyT (e t : List Nat) : List (List Nat) → List Nat
  | [] => t
  | r :: rs => r ++ (e ++ bodyT e t rs)
theorem bodyT_no10 {t : List Nat} (ht : plain t) : ∀ {rs : List (List Nat)}, (∀ r ∈ rs, plain r) → ∀ c ∈ bodyT [13] t rs, c ≠ 10
  | [], _, c, h => (ht c h).1
  | r :: rs, hp, c, h => by
    rcases List.mem_append.mp h with h | h
    · exact (hp r (.head _) c h).1
    rcases List.mem_append.mp h with h | h
    · rw [List.mem_singleton.mp h]; decide
    · exact bodyT_no10 ht (fun q hq => hp q (.tail _ hq)) c h
theorem ends_tail {e t : List Nat} (he : okEnd e) (ht : plain t) : ∀ (rs : List (List Nat)) (pre : List Nat) (f : Nat) (must : Bool), (∀ r ∈ rs, plain r ∧ r.length ≤ 300) → rs.length < f →
    ∃ l, subP cEnd crlf (pre ++ bodyT e t rs).toArray f pre.length must = some l ∧ cat l = bodyT [13, 10] t rs ∧ l.length ≤ 2 * rs.length + 1 ∧ (rs ≠ [] → l ≠ [])
  | [], pre, f, must, _, hf => by
    obtain ⟨f, rfl⟩ : ∃ j, f = j + 1 := ⟨f - 1, by simp only [List.length_nil] at hf; lia⟩
    have hz : (pre ++ bodyT e t []).toArray.size = pre.length + t.length := by simp [bodyT]
    have hfail := end_none (x := (pre ++ bodyT e t []).toArray) (s := pre.length) (lim := (pre ++ bodyT e t []).toArray.size) (ma := must) (by rw [hz]; exact Nat.le_add_right _ _) (fun p h1 h2 => by
      obtain ⟨i, rfl⟩ : ∃ i, p = pre.length + i := ⟨p - pre.length, by lia⟩
      rw [gt_pre]
      exact plain_at ht i)
    refine ⟨cut (pre ++ bodyT e t []).toArray pre.length (pre ++ bodyT e t []).toArray.size, ?_, ?_, ?_, fun h => absurd rfl h⟩
    · unfold subP
      rw [hfail, if_pos rfl]
    · have hc := cat_cut pre t []
      rw [List.append_nil] at hc
      rw [hz]
      exact hc
    · exact Nat.le_trans (cut_len _ _ _) (Nat.le_add_left _ _)
  | r :: rs, pre, f, must, hr, hf => by
    obtain ⟨f, rfl⟩ : ∃ j, f = j + 1 := ⟨f - 1, by simp only [List.length_cons] at hf; lia⟩
    have hr0 := hr r (.head _)
    have hrs : ∀ q ∈ rs, plain q ∧ q.length ≤ 300 := fun q hq => hr q (.tail _ hq)
    have he1 : 1 ≤ e.length := by rcases he with rfl | rfl | rfl <;> decide
    have hz : (pre ++ bodyT e t (r :: rs)).toArray.size = pre.length + (r.length + (e.length + (bodyT e t rs).length)) := by simp [bodyT]
    have hno : ∀ p, pre.length ≤ p → p < pre.length + r.length → (pre ++ bodyT e t (r :: rs)).toArray.getD p 0 ≠ 10 ∧ (pre ++ bodyT e t (r :: rs)).toArray.getD p 0 ≠ 13 := fun p h1 h2 => by
      obtain ⟨i, rfl⟩ : ∃ i, p = pre.length + i := ⟨p - pre.length, by lia⟩
      rw [gt_pre]
      show (r ++ (e ++ bodyT e t rs))[i]?.getD 0 ≠ 10 ∧ (r ++ (e ++ bodyT e t rs))[i]?.getD 0 ≠ 13
      rw [left_at _ _ (by lia)]
      exact plain_at hr0.1 i
    have hat : ∀ i, (pre ++ bodyT e t (r :: rs)).toArray.getD (pre.length + r.length + i) 0 = (e ++ bodyT e t rs)[i]?.getD 0 := fun i => by
      rw [Nat.add_assoc, gt_pre]
      show (r ++ (e ++ bodyT e t rs))[r.length + i]?.getD 0 = _
      rw [at_pre]
    have hsp := end_span (x := (pre ++ bodyT e t (r :: rs)).toArray) (s := pre.length) (k := r.length) (lim := (pre ++ bodyT e t (r :: rs)).toArray.size) (ma := must) (e := e.length) (by rw [hz]; lia) hno (by
      have h0 := hat 0
      have h1 := hat 1
      rw [Nat.add_zero] at h0
      rcases he with rfl | rfl | rfl
      · exact .inl ⟨h0, rfl⟩
      · refine .inr (.inr ⟨h0, ?_, rfl⟩)
        unfold here
        rw [h1]
        show (_ && ((bodyT [13] t rs)[0]?.getD 0 == 10)) = false
        have : (bodyT [13] t rs)[0]?.getD 0 ≠ 10 := by
          cases e0 : (bodyT [13] t rs)[0]? with
          | none => decide
          | some c => exact bodyT_no10 ht (fun q hq => (hrs q hq).1) c (List.mem_of_getElem? e0)
        rw [show ((bodyT [13] t rs)[0]?.getD 0 == 10) = false by simpa using this, Bool.and_false]
      · exact .inr (.inl ⟨h0, h1, by rw [hz]; simp only [List.length_cons, List.length_nil]; lia, rfl⟩))
    obtain ⟨l, hl, hcat, hlen, _⟩ := ends_tail he ht rs (pre ++ (r ++ e)) f (pre.length + r.length + e.length == pre.length + r.length) hrs (by simp only [List.length_cons] at hf; lia)
    have hx : pre ++ (r ++ e) ++ bodyT e t rs = pre ++ bodyT e t (r :: rs) := by simp [bodyT]
    have hpl : (pre ++ (r ++ e)).length = pre.length + r.length + e.length := by simp [Nat.add_assoc]
    rw [hx, hpl] at hl
    refine ⟨cut (pre ++ bodyT e t (r :: rs)).toArray pre.length (pre.length + r.length) ++ crlf :: l, ?_, ?_, ?_, fun _ h => ?_⟩
    · unfold subP
      rw [hsp.1, if_neg Bool.false_ne_true, hsp.2]
      dsimp only
      rw [hl]
      rfl
    · rw [cat_app, show cat (crlf :: l) = [13, 10] ++ cat l from rfl, hcat]
      show cat (cut (pre ++ (r ++ (e ++ bodyT e t rs))).toArray pre.length (pre.length + r.length)) ++ _ = r ++ ([13, 10] ++ bodyT [13, 10] t rs)
      rw [cat_cut]
    · have := cut_len (pre ++ bodyT e t (r :: rs)).toArray pre.length (pre.length + r.length)
      rw [List.length_append, List.length_cons, List.length_cons]
      lia
    · have := congrArg List.length h
      rw [List.length_append, List.length_cons] at this
      simp at this
/-- rows that begin with a dot; the same with two -/
noncomputable def bd (t : List Nat) : List (List Nat) → List Nat
  | [] => 46 :: t
  | r :: rs => 46 :: (r ++ (13 :: 10 :: bd t rs))
noncomputable def bt (t : List Nat) : List (List Nat) → List Nat
  | [] => 46 :: 46 :: t
  | r :: rs => 46 :: 46 :: (r ++ (13 :: 10 :: bt t rs))
theorem bd_body (t : List Nat) : ∀ rs, bodyT [13, 10] (46 :: t) (dotted rs) = bd t rs
  | [] => rfl
  | r :: rs => by
    show (46 :: r) ++ ([13, 10] ++ bodyT [13, 10] (46 :: t) (dotted rs)) = _
    rw [bd_body t rs]
    rfl
theorem bd_at (t : List Nat) : ∀ rs, (bd t rs)[0]?.getD 0 = 46
  | [] => rfl
  | _ :: _ => rfl
theorem bd_pos (t : List Nat) : ∀ rs, 0 < (bd t rs).length
  | [] => Nat.zero_lt_succ _
  | _ :: _ => Nat.zero_lt_succ _
theorem dots_tail {t : List Nat} (ht : plain t) (htl : t.length ≤ 200) : ∀ (rs : List (List Nat)) (pre g : List Nat) (f : Nat) (must : Bool), (∀ r ∈ rs, plain r ∧ r.length ≤ 200) → rs.length + 1 < f → g.length ≤ 210 →
    (∀ p, pre.length ≤ p → p < pre.length + g.length → ((pre ++ (g ++ bd t rs)).toArray.getD p 0 == 46) = false ∨ lineB (pre ++ (g ++ bd t rs)).toArray p = false) →
    lineB (pre ++ (g ++ bd t rs)).toArray (pre.length + g.length) = true →
    ∃ l, subP cDot dot2 (pre ++ (g ++ bd t rs)).toArray f pre.length must = some l ∧ cat l = g ++ bt t rs ∧ l.length ≤ 2 * rs.length + 3 ∧ l ≠ []
  | [], pre, g, f, must, _, hf, hg, hno, hb => by
    obtain ⟨f, rfl⟩ : ∃ j, f = j + 2 := ⟨f - 2, by simp only [List.length_nil] at hf; lia⟩
    have hz : (pre ++ (g ++ bd t [])).toArray.size = pre.length + (g.length + (1 + t.length)) := by simp [bd]; lia
    have hat0 : ∀ i, (pre ++ (g ++ bd t [])).toArray.getD (pre.length + g.length + i) 0 = (46 :: t)[i]?.getD 0 := fun i => by
      rw [Nat.add_assoc, gt_pre, at_pre]
      rfl
    have h46 : (pre ++ (g ++ bd t [])).toArray.getD (pre.length + g.length) 0 = 46 := by
      have := hat0 0
      rw [Nat.add_zero] at this
      rw [this]
      rfl
    have hsp := dot_span (x := (pre ++ (g ++ bd t [])).toArray) (s := pre.length) (k := g.length) (lim := (pre ++ (g ++ bd t [])).toArray.size) (ma := must) (by rw [hz]; lia) (by lia) hno h46 hb
    have hfail := fun ma => dot_none (x := (pre ++ (g ++ bd t [])).toArray) (s := pre.length + g.length + 1) (k := t.length) (lim := (pre ++ (g ++ bd t [])).toArray.size) (ma := ma) (by rw [hz]; lia) (by lia) (fun p h1 h2 => by
      obtain ⟨i, rfl⟩ : ∃ i, p = pre.length + g.length + (i + 1) := ⟨p - (pre.length + g.length + 1), by lia⟩
      refine .inr ?_
      unfold lineB
      have hp0 : (pre.length + g.length + (i + 1) == 0) = false := by simp
      rw [hp0, Bool.false_or, show pre.length + g.length + (i + 1) - 1 = pre.length + g.length + i by lia, hat0]
      cases i with
      | zero => rfl
      | succ i =>
        have := (plain_at ht i).1
        simpa using this)
    refine ⟨cut (pre ++ (g ++ bd t [])).toArray pre.length (pre.length + g.length) ++ dot2 :: cut (pre ++ (g ++ bd t [])).toArray (pre.length + g.length + 1) (pre ++ (g ++ bd t [])).toArray.size, ?_, ?_, ?_, fun h => ?_⟩
    · unfold subP
      rw [hsp.1, if_neg Bool.false_ne_true, hsp.2]
      dsimp only
      unfold subP
      rw [hfail, if_pos rfl]
      rfl
    · have hc := cat_cut (pre ++ (g ++ [46])) t []
      have e1 : pre ++ (g ++ [46]) ++ (t ++ []) = pre ++ (g ++ bd t []) := by simp [bd]
      have e2 : (pre ++ (g ++ [46])).length = pre.length + g.length + 1 := by simp [Nat.add_assoc]
      rw [e1, e2] at hc
      have e3 : pre.length + g.length + 1 + t.length = (pre ++ (g ++ bd t [])).toArray.size := by rw [hz]; lia
      rw [e3] at hc
      rw [cat_app, show ∀ l, cat (dot2 :: l) = [46, 46] ++ cat l from fun _ => rfl, hc, cat_cut]
      rfl
    · have h1 := cut_len (pre ++ (g ++ bd t [])).toArray pre.length (pre.length + g.length)
      have h2 := cut_len (pre ++ (g ++ bd t [])).toArray (pre.length + g.length + 1) (pre ++ (g ++ bd t [])).toArray.size
      rw [List.length_append, List.length_cons]
      simp only [List.length_nil]
      lia
    · have := congrArg List.length h
      rw [List.length_append, List.length_cons] at this
      simp at this
  | r :: rs, pre, g, f, must, hr, hf, hg, hno, hb => by
    obtain ⟨f, rfl⟩ : ∃ j, f = j + 1 := ⟨f - 1, by simp only [List.length_cons] at hf; lia⟩
    have hr0 := hr r (.head _)
    have hz : (pre ++ (g ++ bd t (r :: rs))).toArray.size = pre.length + (g.length + (1 + (r.length + (2 + (bd t rs).length)))) := by simp [bd]; lia
    have h46 : (pre ++ (g ++ bd t (r :: rs))).toArray.getD (pre.length + g.length) 0 = 46 := by
      rw [gt_pre]
      have := at_pre g (bd t (r :: rs)) 0
      rw [Nat.add_zero] at this
      rw [this]
      rfl
    have hsp := dot_span (x := (pre ++ (g ++ bd t (r :: rs))).toArray) (s := pre.length) (k := g.length) (lim := (pre ++ (g ++ bd t (r :: rs))).toArray.size) (ma := must) (by rw [hz]; lia) (by lia) hno h46 hb
    have hx : pre ++ (g ++ [46]) ++ ((r ++ [13, 10]) ++ bd t rs) = pre ++ (g ++ bd t (r :: rs)) := by simp [bd]
    have hpl : (pre ++ (g ++ [46])).length = pre.length + g.length + 1 := by simp [Nat.add_assoc]
    have hgl : (r ++ [13, 10]).length = r.length + 2 := by simp
    have key := dots_tail ht htl rs (pre ++ (g ++ [46])) (r ++ [13, 10]) f (pre.length + g.length + 1 == pre.length + g.length) (fun q hq => hr q (.tail _ hq)) (by simp only [List.length_cons] at hf; lia) (by rw [hgl]; lia)
    have hat : ∀ i, (pre ++ (g ++ [46]) ++ ((r ++ [13, 10]) ++ bd t rs)).toArray.getD ((pre ++ (g ++ [46])).length + i) 0 = ((r ++ [13, 10]) ++ bd t rs)[i]?.getD 0 := fun i => gt_pre _ _ i
    have hbefore : (pre ++ (g ++ [46]) ++ ((r ++ [13, 10]) ++ bd t rs)).toArray.getD (pre.length + g.length) 0 = 46 := by rw [hx]; exact h46
    obtain ⟨l, hl, hcat, hlen, hne⟩ := key (fun p h1 h2 => by
        obtain ⟨i, rfl⟩ : ∃ i, p = (pre ++ (g ++ [46])).length + i := ⟨p - (pre ++ (g ++ [46])).length, by lia⟩
        rw [hgl] at h2
        by_cases hi : i ≤ r.length
        · refine .inr ?_
          unfold lineB
          have hp0 : ((pre ++ (g ++ [46])).length + i == 0) = false := by rw [hpl]; simp
          rw [hp0, Bool.false_or]
          by_cases hi0 : i = 0
          · subst hi0
            have e1 : (pre ++ (g ++ [46])).length + 0 - 1 = pre.length + g.length := by rw [hpl]; lia
            rw [e1, hbefore]
            rfl
          · have e1 : (pre ++ (g ++ [46])).length + i - 1 = (pre ++ (g ++ [46])).length + (i - 1) := by lia
            rw [e1, hat, List.append_assoc, left_at _ _ (by lia)]
            have := (plain_at hr0.1 (i - 1)).1
            simpa using this
        · obtain rfl : i = r.length + 1 := by lia
          refine .inl ?_
          rw [hat, List.append_assoc, at_pre]
          rfl) (by
        rw [hgl]
        unfold lineB
        have e1 : (pre ++ (g ++ [46])).length + (r.length + 2) - 1 = (pre ++ (g ++ [46])).length + (r.length + 1) := by lia
        rw [e1, hat, List.append_assoc, at_pre]
        show (_ || ((10 : Nat) == 10)) = true
        simp)
    rw [hx, hpl] at hl
    refine ⟨cut (pre ++ (g ++ bd t (r :: rs))).toArray pre.length (pre.length + g.length) ++ dot2 :: l, ?_, ?_, ?_, fun h => ?_⟩
    · unfold subP
      rw [hsp.1, if_neg Bool.false_ne_true, hsp.2]
      dsimp only
      rw [hl]
      rfl
    · rw [cat_app, show cat (dot2 :: l) = [46, 46] ++ cat l from rfl, hcat, cat_cut]
      simp [bt]
    · have := cut_len (pre ++ (g ++ bd t (r :: rs))).toArray pre.length (pre.length + g.length)
      rw [List.length_append, List.length_cons, List.length_cons]
      lia
    · have := congrArg List.length h
      rw [List.length_append, List.length_cons] at this
      simp at this
theorem bodyT_len {e t : List Nat} (k : Nat) (ht : t.length ≤ k) : ∀ (rs : List (List Nat)), (∀ r ∈ rs, r.length ≤ k) → (bodyT e t rs).length ≤ rs.length * (k + e.length) + k
  | [], _ => by simpa [bodyT] using ht
  | r :: rs, h => by
    have h1 := h r (.head _)
    have h2 := bodyT_len (e := e) k ht rs fun q hq => h q (.tail _ hq)
    simp only [bodyT, List.length_append, List.length_cons, Nat.succ_mul]
    lia
theorem bt_len {t : List Nat} (k : Nat) (ht : t.length ≤ k) : ∀ (rs : List (List Nat)), (∀ r ∈ rs, r.length ≤ k) → (bt t rs).length ≤ rs.length * (k + 4) + (k + 2)
  | [], _ => by simp [bt]; lia
  | r :: rs, h => by
    have h1 := h r (.head _)
    have h2 := bt_len k ht rs fun q hq => h q (.tail _ hq)
    simp only [bt, List.length_append, List.length_cons, Nat.succ_mul]
    lia
theorem quote_mail {e t : List Nat} (he : okEnd e) (ht : plain t) (htl : t.length ≤ 30) {rs : List (List Nat)} (hr : ∀ r ∈ rs, plain r ∧ r.length ≤ 30) (hn : rs.length ≤ 12) (hn0 : rs ≠ []) :
    quoteB (S (bodyT e (46 :: t) (dotted rs))) = some (S (bt t rs)) := by
  have hel : e.length ≤ 2 := by rcases he with rfl | rfl | rfl <;> decide
  have hcons : ∀ q : List Nat, plain q → plain (46 :: q) := fun q hq c hc => by
    rcases List.mem_cons.mp hc with rfl | hc
    · exact ⟨by decide, by decide⟩
    · exact hq c hc
  have hd : ∀ r ∈ dotted rs, plain r ∧ r.length ≤ 31 := fun r h => by
    obtain ⟨q, hq, rfl⟩ := List.mem_map.mp h
    exact ⟨hcons q (hr q hq).1, by simp only [List.length_cons]; have := (hr q hq).2; lia⟩
  have hlen : (dotted rs).length = rs.length := by simp [dotted]
  have ht1 : (46 :: t).length ≤ 31 := by simp only [List.length_cons]; lia
  obtain ⟨l, hl, hcat, hll, hne⟩ := ends_tail he (hcons t ht) (dotted rs) [] 50 false (fun r h => ⟨(hd r h).1, by have := (hd r h).2; lia⟩) (by rw [hlen]; lia)
  have hl' : subP cEnd crlf (bodyT e (46 :: t) (dotted rs)).toArray 50 0 false = some l := hl
  have hb1 := bodyT_len (e := e) 31 ht1 (dotted rs) fun r h => (hd r h).2
  have hb2 := bodyT_len (e := [13, 10]) 31 ht1 (dotted rs) fun r h => (hd r h).2
  rw [hlen] at hb1 hb2 hll
  have hm1 : rs.length * (31 + e.length) ≤ 12 * 33 := Nat.mul_le_mul hn (by lia)
  have hm2 : rs.length * (31 + [13, 10].length) ≤ 12 * 33 := Nat.mul_le_mul hn (by decide)
  have hne1 : l ≠ [] := hne (by
    intro h
    have := congrArg List.length h
    rw [hlen] at this
    exact hn0 (List.length_eq_zero_iff.mp this))
  unfold quoteB
  have s1 : subS cEnd crlf (S (bodyT e (46 :: t) (dotted rs))) = some (S (bodyT [13, 10] (46 :: t) (dotted rs))) := by
    rw [subS_of (by lia) hl' (wgt_of (n := 1000) (by rw [hcat]; lia) (by decide) hne1), hcat]
  rw [s1]
  show subS cDot dot2 (S (bodyT [13, 10] (46 :: t) (dotted rs))) = _
  rw [bd_body] at hb2 ⊢
  obtain ⟨l2, hl2, hcat2, hll2, hne2⟩ := dots_tail ht (by lia) rs [] [] 50 false (fun r h => ⟨(hr r h).1, by have := (hr r h).2; lia⟩) (by lia) (by decide) (fun p h1 h2 => absurd h2 (by simp)) rfl
  have hb3 := bt_len (t := t) 30 htl rs fun r h => (hr r h).2
  have hm3 : rs.length * (30 + 4) ≤ 12 * 34 := Nat.mul_le_mul hn (by decide)
  have hc2 : cat l2 = bt t rs := hcat2
  rw [← hc2]
  exact subS_of (by lia) hl2 (wgt_of (n := 1000) (by rw [hc2]; lia) (by decide) hne2)
end Q
end Mine
end PartQM
section PartPureQ
open PySem PySem.W PyProof.Rows

set_option maxRecDepth 100000
namespace Mine
/-- dots after the first -/
noncomputable def rp (k : Nat) : List Nat := List.replicate (k - 1) 46
noncomputable def mailC (a b c d : Nat) (e : List Nat) : Bool := decide (Txt.join (Q.S e) [dotS a, dotS b, dotS c, dotS d] = Q.S (Q.bodyT e (46 :: rp d) (Q.dotted [rp a, rp b, rp c])))
noncomputable def sentC (a b c d : Nat) : Bool := decide (Q.S (Q.bt (rp d) [rp a, rp b, rp c]) = Txt.join crlf [dotS (a + 1), dotS (b + 1), dotS (c + 1), dotS (d + 1)])
theorem mails : (three.all fun a => three.all fun b => three.all fun c => three.all fun d => sentC a b c d && [[10], [13], [13, 10]].all fun e => mailC a b c d e) = true := by decide +kernel
theorem rp_plain (k : Nat) : Q.plain (rp k) := fun c hc => by
  rw [(List.mem_replicate.mp hc).2]
  exact ⟨by decide, by decide⟩
theorem rp_len {k : Nat} (h : k = 1 ∨ k = 2 ∨ k = 3) : (rp k).length ≤ 30 := by
  unfold rp
  rw [List.length_replicate]
  lia
theorem quote_all {a b c d : Nat} {e : Str} (ha : a = 1 ∨ a = 2 ∨ a = 3) (hb : b = 1 ∨ b = 2 ∨ b = 3) (hc : c = 1 ∨ c = 2 ∨ c = 3) (hd : d = 1 ∨ d = 2 ∨ d = 3) (he : e ∈ ends3) :
    quoteB (Txt.join e [dotS a, dotS b, dotS c, dotS d]) = some (Txt.join crlf [dotS (a + 1), dotS (b + 1), dotS (c + 1), dotS (d + 1)]) := by
  have m : ∀ {k : Nat}, (k = 1 ∨ k = 2 ∨ k = 3) → k ∈ three := fun {k} h => by
    rcases h with rfl | rfl | rfl
    · exact .head _
    · exact .tail _ (.head _)
    · exact .tail _ (.tail _ (.head _))
  have key : ∃ l : List Nat, l ∈ [[10], [13], [13, 10]] ∧ e = Q.S l ∧ Q.okEnd l := by
    rcases List.mem_cons.mp he with rfl | he
    · exact ⟨[10], .head _, rfl, .inl rfl⟩
    rcases List.mem_cons.mp he with rfl | he
    · exact ⟨[13], .tail _ (.head _), rfl, .inr (.inl rfl)⟩
    rcases List.mem_cons.mp he with rfl | he
    · exact ⟨[13, 10], .tail _ (.tail _ (.head _)), rfl, .inr (.inr rfl)⟩
    · cases he
  obtain ⟨l, hl, rfl, hok⟩ := key
  have h1 := List.all_eq_true.mp mails a (m ha)
  have h2 := List.all_eq_true.mp h1 b (m hb)
  have h3 := List.all_eq_true.mp h2 c (m hc)
  have h4 := List.all_eq_true.mp h3 d (m hd)
  obtain ⟨h5, h6⟩ := Bool.and_eq_true_iff.mp h4
  have h7 : Txt.join (Q.S l) [dotS a, dotS b, dotS c, dotS d] = _ := of_decide_eq_true (List.all_eq_true.mp h6 l hl)
  have h8 : _ = Txt.join crlf _ := of_decide_eq_true h5
  rw [h7, ← h8]
  refine Q.quote_mail hok (rp_plain d) (rp_len hd) (fun r hr => ?_) (by simp) (fun h => nomatch h)
  simp only [List.mem_cons, List.not_mem_nil, or_false] at hr
  rcases hr with rfl | rfl | rfl
  · exact ⟨rp_plain _, rp_len ha⟩
  · exact ⟨rp_plain _, rp_len hb⟩
  · exact ⟨rp_plain _, rp_len hc⟩
end Mine
end PartPureQ
section PartWR
open PySem PySem.W PyProof.Rows PySem.Spec PySem.Calls

set_option maxRecDepth 100000
namespace Mine
theorem subs3 {a b c : Addr × Obj} {news : Led} (ha : a ∈ news) (hb : b ∈ news) (hc : c ∈ news) : ∀ p ∈ a :: b :: c :: news, p ∈ news := fun p hp => by
  rcases List.mem_cons.mp hp with rfl | hp
  · exact ha
  rcases List.mem_cons.mp hp with rfl | hp
  · exact hb
  rcases List.mem_cons.mp hp with rfl | hp
  · exact hc
  · exact hp
theorem tell_more {prog : Program} {w : World} {K : Frag} {p : Program} {loose : List Str} {mean : ExcName → Option Value} {mg mb : Str → Option Value} {f : Addr} {vs : List Value} {big news : Led} {dep uns : Nat} {Base : Heap → Prop} {good : Value → Prop}
    (C : Tell prog w K p loose mean mg mb f vs big dep uns Base (fun Go => Go big good)) (hs : ∀ p ∈ big, p ∈ news) (hb : ∀ p ∈ news, p ∈ big) :
    Tell prog w K p loose mean mg mb f vs news dep uns Base (fun Go => Go news good) := by
  unfold Tell
  intro dp un gd cn cs a ccd cl outer A₀ base h₀ L m s Q E B F X N T hk hl hdp hu hret
  exact C dp un gd cn cs a ccd cl outer A₀ base h₀ L m s Q E B F X (news_sub N hs) T hk hl hdp hu fun r h' tk' hr F' N' => hret r h' tk' hr F' (news_sub N' hb)
/-- get, over any ledger that holds the table -/
theorem c_getM (w : World) {p : Program} {loose : List Str} {mean : ExcName → Option Value} {mg mb : Str → Option Value} {news : Led} {x d H : Addr} {td : Tok} {vs : List Value} {n : Nat} {R : List Row} {c : Nat} {tn : Tok} (hH : (H, listOf vs.toArray n) ∈ news) (hx : (x, instObj 232 d) ∈ news) (hd : (d, tabDict w td H) ∈ news)
    (hT : TbD news vs (R.map rowS)) (hR : ∀ r ∈ R, okRow r) (hl : R.length ≤ 100) (hc : c ∈ letters) {k : Nat} (hk : getR R c = some k) :
  Tell PySem.Challenge.rw_sr0074_02.row.prog w (hd02.heap_39 w.params) p loose mean mg mb 179 [.ref x, .str (nameS c) tn] news 20 200 (fun _ => True) (fun Go => Go news (fun r => ∃ t, r = .str (dotS k) t)) := by
  have C := c_get w (p := p) (loose := loose) (mean := mean) (mg := mg) (mb := mb) news x d H td vs n (R.map rowS) (nameS c) tn hT (okName_lower c hc) (by rw [List.length_map]; exact hl) (okName_letter c hc).len
  rw [find_rows hc hR] at C
  unfold getR at hk
  obtain ⟨r, hr, rfl⟩ := Option.map_eq_some_iff.mp hk
  rw [hr] at C
  exact tell_more C (subs3 hH hx hd) (fun p hp => .tail _ (.tail _ (.tail _ hp)))
theorem allLt_of {a : Nat} : ∀ {l : Led}, AllLt a l → ∀ p ∈ l, p.1 < a := fun h => allLt_all h
theorem off1_app {H : Addr} {pre post : Led} (ha : ∀ p ∈ pre, p.1 ≠ H) (hb : ∀ p ∈ post, p.1 ≠ H) : LCg.Off1 H (pre ++ post) := off1_of fun p hp => (List.mem_append.mp hp).elim (ha p) (hb p)
theorem mem_drop {pre post : Led} {q r : Addr × Obj} (h : q ∈ pre ++ r :: post) (hne : q.1 ≠ r.1) : q ∈ pre ++ post := by
  rcases List.mem_append.mp h with h | h
  · exact List.mem_append.mpr (.inl h)
  · rcases List.mem_cons.mp h with rfl | h
    · exact absurd rfl hne
    · exact List.mem_append.mpr (.inr h)
section
variable {w : World} {p : Program} {loose : List Str} {mean : ExcName → Option Value} {mg mb : Str → Option Value} {news : Led} {x d H : Addr} {td : Tok} {vs : List Value} {n : Nat} {rows rows' : List (Str × Str)} {f : Addr} {args : List Value} {dep uns : Nat} {u : Obj → Led}
/-- a contract that turns the table's list, over any ledger that holds the table -/
theorem tell_turn {T₀ : Led} (C : ∀ own, Tb x d H own T₀ vs rows → Tell PySem.Challenge.rw_sr0074_02.row.prog w (hd02.heap_39 w.params) p loose mean mg mb f args ((H, listOf vs.toArray n) :: (x, instObj 232 d) :: (d, tabDict w td H) :: own) dep uns (fun _ => True)
      (fun Go => ∀ a vs' n' own', Tb x d H ((a, own') :: own) ((a, own') :: T₀) vs' rows' → (H < a ∧ x < a ∧ d < a ∧ AllLt a own) → Go ((H, listOf vs'.toArray n') :: (x, instObj 232 d) :: (d, tabDict w td H) :: (a, own') :: own) (fun r => r = .none)))
    (U : UpdF H (listOf vs.toArray n) news u) (hx : (x, instObj 232 d) ∈ news) (hd : (d, tabDict w td H) ∈ news) (hxH : x ≠ H) (hdH : d ≠ H) (hT : TbD T₀ vs rows) (hs : ∀ p ∈ T₀, p ∈ news) (ho : ∀ p ∈ T₀, p.1 ≠ H) :
    Tell PySem.Challenge.rw_sr0074_02.row.prog w (hd02.heap_39 w.params) p loose mean mg mb f args news dep uns (fun _ => True)
      (fun Go => ∀ a vs' n' own', TbD ((a, own') :: T₀) vs' rows' → (∀ q ∈ news, q.1 < a) → a ≠ H → Go ((a, own') :: u (listOf vs'.toArray n')) (fun r => r = .none)) := by
  obtain ⟨pre, post, rfl, hu, ha, hb⟩ := U.split
  obtain rfl : u = fun o' => pre ++ (H, o') :: post := funext hu
  have hT' : Tb x d H (pre ++ post) T₀ vs rows := ⟨hT.dat, fun p hp => mem_drop (hs p hp) (ho p hp), ⟨hxH, hdH, off1_app ha hb⟩, hT.len⟩
  unfold Tell
  intro dp un gd cn cs a ccd cl outer A₀ base h₀ L m s Q E B F X N T hk hl hdp hun hret
  refine C (pre ++ post) hT' dp un gd cn cs a ccd cl outer A₀ base h₀ L m s Q E B F X (news_sub N ?_) T hk hl hdp hun ?_
  · intro q hq
    rcases List.mem_cons.mp hq with rfl | hq
    · exact List.mem_append.mpr (.inr (.head _))
    rcases List.mem_cons.mp hq with rfl | hq
    · exact hx
    rcases List.mem_cons.mp hq with rfl | hq
    · exact hd
    rcases List.mem_append.mp hq with hq | hq
    · exact List.mem_append.mpr (.inl hq)
    · exact List.mem_append.mpr (.inr (.tail _ hq))
  · intro b vs' n' own' hTb hlt r h' tk' hr F' N'
    refine hret b vs' n' own' ⟨hTb.dat, hTb.len⟩ ?_ (Nat.ne_of_gt hlt.1) r h' tk' hr F' (news_sub N' ?_)
    · intro q hq
      rcases List.mem_append.mp hq with hq | hq
      · exact allLt_of hlt.2.2.2 q (List.mem_append.mpr (.inl hq))
      rcases List.mem_cons.mp hq with rfl | hq
      · exact hlt.1
      · exact allLt_of hlt.2.2.2 q (List.mem_append.mpr (.inr hq))
    · intro q hq
      rcases List.mem_cons.mp hq with rfl | hq
      · exact .tail _ (.tail _ (.tail _ (.head _)))
      rcases List.mem_append.mp hq with hq | hq
      · exact .tail _ (.tail _ (.tail _ (.tail _ (List.mem_append.mpr (.inl hq)))))
      rcases List.mem_cons.mp hq with rfl | hq
      · exact .head _
      · exact .tail _ (.tail _ (.tail _ (.tail _ (List.mem_append.mpr (.inr hq)))))
theorem c_addF (w : World) {p : Program} {loose : List Str} {mean : ExcName → Option Value} {mg mb : Str → Option Value} {T₀ news : Led} {x d H : Addr} {td : Tok} {vs : List Value} {n : Nat} {rows : List (Str × Str)} {u : Obj → Led} {nm val : Str} {tn tv : Tok} (U : UpdF H (listOf vs.toArray n) news u) (hx : (x, instObj 232 d) ∈ news) (hd : (d, tabDict w td H) ∈ news) (hxH : x ≠ H) (hdH : d ≠ H) (hT : TbD T₀ vs rows) (hs : ∀ p ∈ T₀, p ∈ news) (ho : ∀ p ∈ T₀, p.1 ≠ H) (hn : okName nm) (hv : okVal val) (hl : rows.length ≤ 100) :
    Tell PySem.Challenge.rw_sr0074_02.row.prog w (hd02.heap_39 w.params) p loose mean mg mb 229 [.ref x, .str nm tn, .str val tv] news 20 200 (fun _ => True)
      (fun Go => ∀ a vs' n' own', TbD ((a, own') :: T₀) vs' (rows ++ [(nm, val)]) → (∀ q ∈ news, q.1 < a) → a ≠ H → Go ((a, own') :: u (listOf vs'.toArray n')) (fun r => r = .none)) :=
  tell_turn (fun ow hTb => c_add w ow T₀ x d H td vs n rows nm val tn tv hTb hn hv hl) U hx hd hxH hdH hT hs ho
theorem c_setF (w : World) {p : Program} {loose : List Str} {mean : ExcName → Option Value} {mg mb : Str → Option Value} {T₀ news : Led} {x d H : Addr} {td : Tok} {vs : List Value} {n : Nat} {rows : List (Str × Str)} {u : Obj → Led} {nm val : Str} {tn tv : Tok} (U : UpdF H (listOf vs.toArray n) news u) (hx : (x, instObj 232 d) ∈ news) (hd : (d, tabDict w td H) ∈ news) (hxH : x ≠ H) (hdH : d ≠ H) (hT : TbD T₀ vs rows) (hs : ∀ p ∈ T₀, p ∈ news) (ho : ∀ p ∈ T₀, p.1 ≠ H) (hn : okName (Txt.lower nm)) (hn2 : okName nm) (hv : okVal val) (hl : rows.length ≤ 100) :
    Tell PySem.Challenge.rw_sr0074_02.row.prog w (hd02.heap_39 w.params) p loose mean mg mb 145 [.ref x, .str nm tn, .str val tv] news 40 400 (fun _ => True)
      (fun Go => ∀ a vs' n' own', TbD ((a, own') :: T₀) vs' (rows.filter (fun kv => Txt.lower kv.1 != Txt.lower nm) ++ [(nm, val)]) → (∀ q ∈ news, q.1 < a) → a ≠ H → Go ((a, own') :: u (listOf vs'.toArray n')) (fun r => r = .none)) :=
  tell_turn (fun ow hTb => c_set w ow T₀ x d H td vs n rows nm val tn tv hTb hn hn2 hv hl) U hx hd hxH hdH hT hs ho
end
end Mine
end PartWR
section PartN17
open PySem PySem.W PyProof.Rows PySem.Spec PySem.Calls

set_option maxRecDepth 100000
set_option maxHeartbeats 8000000
namespace Mine
theorem allLt_from {d : Nat} : ∀ {l : Led}, (∀ p ∈ l, p.1 < d) → AllLt d l
  | [], _ => trivial
  | p :: l, h => ⟨h p (.head _), allLt_from fun q hq => h q (.tail _ hq)⟩
theorem c_items (w : World) {p : Program} {loose : List Str} {mean : ExcName → Option Value} {mg mb : Str → Option Value} (own : Led) (x d H : Addr) (td : Tok) (vs : List Value) (n : Nat) (hl : vs.length ≤ 100) :
  Tell PySem.Challenge.rw_sr0074_02.row.prog w (hd02.heap_39 w.params) p loose mean mg mb 196 [.ref x] ((H, listOf vs.toArray n) :: (x, instObj 232 d) :: (d, tabDict w td H) :: own) 20 200 (fun _ => True)
    (fun Go => ∀ a n', (H < a ∧ x < a ∧ d < a ∧ AllLt a own) → Go ((a, listOf vs.toArray n') :: (H, listOf vs.toArray n) :: (x, instObj 232 d) :: (d, tabDict w td H) :: own) (fun r => r = .ref a)) := by
  k_fill
  k_with_none
  k_with "nX" => (first | exact ltA0 ‹_› | exact ltA1 ‹_› | exact ltA2 ‹_› | exact ltA3 ‹_› | exact ltA4 ‹_› | exact ltA5 ‹_› | exact ltA6 ‹_› | exact ltA7 ‹_› | exact ltA8 ‹_› | exact ltA9 ‹_› | exact ltA10 ‹_› | exact ltA11 ‹_› | exact ltA12 ‹_› | exact ltA13 ‹_› | exact neA0 ‹_› | exact neA1 ‹_› | exact neA2 ‹_› | exact neA3 ‹_› | exact neA4 ‹_› | exact neA5 ‹_› | exact neA6 ‹_› | exact neA7 ‹_› | exact neA8 ‹_› | exact neA9 ‹_› | exact neA10 ‹_› | exact neA11 ‹_› | exact neA12 ‹_›)
  k_with "k_ne" => (first | k_extra "nX" | (refine Ne.symm ?_; k_extra "nX"))
  k_with "k_all" => (first | exact List.forall_mem_nil _ | exact al3s ‹_› | exact al0 ‹_› | exact al1 ‹_› | exact al2 ‹_› | exact al3 ‹_› | exact al4 ‹_› | exact al5 ‹_› | exact al6 ‹_› | exact al7 ‹_› | exact al8 ‹_› | exact al9 ‹_› | exact al10 ‹_› | exact al11 ‹_› | exact of2 ‹_› | (refine' List.forall_mem_cons.mpr ⟨?zqa, ?zqb⟩; (case zqa => k_ne); (case zqb => k_all)))
  k_with "k_room" => (ktr_room)
  k_with "ent D" => (refine' code_def ?zqk1 ?zqk2 ?zqk3 ?zqk4 ?zqk5 ?zqkA ?zqkF ?zqkK ?zqk6 ?zqk7 ?zqk8 ?zqk9 ?zqkB ?_ ?zqc2 ?zqc3 ?zqc4 ?zqc5; (case zqkA | zqkF => exact rfl); (case zqkK => assumption); (case zqk1 | zqk2 | zqk3 | zqk4 | zqk5 => k_asm); (case zqk6 | zqk7 => k_is); (case zqk8 => ktr_room); (case zqk9 => first | exact BindsTo.of_eq rfl | exact binds_K (by k_in) rfl (by k_is) rfl rfl rfl); (case zqc5 => decide); (case zqkB => exact locs rfl); (case zqc2 | zqc3 | zqc4 => exact rfl))
  k_with "ent C" => (refine' code_defC ?zqk1 ?zqk2 ?zqk3 ?zqk4 ?zqk5 ?zqkA ?zqkF ?zqkK ?zqk6 ?zqk7 ?zqk8 ?zqk9 ?zqkB ?zqkD ?_ ?zqc2 ?zqc3 ?zqc4; (case zqkA | zqkF => exact rfl); (case zqkK => first | exact rfl | assumption); (case zqk1 | zqk2 | zqk3 | zqk4 | zqk5 => k_asm); (case zqk6 | zqk7 => k_is); (case zqk8 => ktr_room); (case zqk9 => first | exact BindsTo.of_eq rfl | exact binds_K (by k_in) rfl (by k_is) rfl rfl rfl); (case zqkD => decide +kernel); (case zqkB | zqc2 | zqc3 | zqc4 => exact rfl))
  k_with "w exec For Tuple Attribute cons nil" => (k_here; (rename Fr _ _ _ _ => lF'); (with_unfolding_all refine' For_turns lF' ?_; k_whole))
  k_with "w pyIter ref" => (k_here; (with_reducible show wpAny _ _ (pyIter (Value.ref _)) (fun it s₂ => TurnsAt _ _ _ _ _ _ _ _ _ it s₂) _ _); k_extra "halt iter"; refine halt ?_)
  k_with "w getMethod ref" => (k_here; k_dflt (first | (refine rx_getMethod rx_slot_search rx_type_search (pat_name (by k_asm) (by k_asm)) ?_) | (refine rx_getMethod rx_slot_search rx_type_search (pat_val (by k_asm) (by k_asm)) ?_)))
  k_with "w call builtin:re.Pattern.search" => (k_here; k_extra "my search")
  k_with "w eval ListComp" => (k_here; k_extra "comp yes"; k_dflt (refine LCt.ListComp_T (F₀ := by k_asm) (by with_unfolding_all rfl) (by decide) (by rfl) (by decide) (by rfl) ?_))
  k_with "w call ref" => (k_here; k_extra "my call")
  k_with "w subscriptTail Name Slice ref ref" => (k_extra "halt slice"; refine halt ?_)
  unfold Tell
  intro dp un gd cn cs a ccd cl outer A₀ base h₀ L m s Q E B F X N T hk hl2 hdp hu hret
  refine wpAny_call ?_
  k_dflt k_enter
  have hKd := kdMark
  k_with "halt slice" => skip
  k_steps
  refine unhalt ?_
  refine' kmk_slice_lit (zs := vs) ?wF ?wN ?wl ?wp ?wq ?we ?_ ?ws ?wt ?wz
  case wF => k_asm
  case wN => k_asm
  case wl => kmk_list
  case wp => kmk_part
  case wq => kmk_part
  case we => rw [slicePick_all]
  case ws => with_unfolding_all rfl
  case wt => kmk_pure
  case wz => rw [List.size_toArray]; simp only [sizeLine]; omega
  intro D h9 F9 N9 l9
  (try k_fold)
  k_steps
  (rename News h₀ L _ _ => nE)
  refine hret D 0 ⟨l9 _ (.head _), l9 _ (.tail _ (.head _)), l9 _ (.tail _ (.tail _ (.head _))), ?_⟩ _ _ _ rfl (by k_asm) nE
  exact allLt_from fun q hq => l9 q (.tail _ (.tail _ (.tail _ hq)))
/-- items(), over any ledger that holds the table -/
theorem c_itemsM (w : World) {p : Program} {loose : List Str} {mean : ExcName → Option Value} {mg mb : Str → Option Value} {news : Led} {x d H : Addr} {td : Tok} {vs : List Value} {n : Nat} (hH : (H, listOf vs.toArray n) ∈ news) (hx : (x, instObj 232 d) ∈ news) (hd : (d, tabDict w td H) ∈ news) (hl : vs.length ≤ 100) :
  Tell PySem.Challenge.rw_sr0074_02.row.prog w (hd02.heap_39 w.params) p loose mean mg mb 196 [.ref x] news 20 200 (fun _ => True)
    (fun Go => ∀ a n', (∀ q ∈ news, q.1 < a) → Go ((a, listOf vs.toArray n') :: news) (fun r => r = .ref a)) := by
  unfold Tell
  intro dp un gd cn cs a ccd cl outer A₀ base h₀ L m s Q E B F X N T hk hl2 hdp hu hret
  refine c_items w news x d H td vs n hl dp un gd cn cs a ccd cl outer A₀ base h₀ L m s Q E B F X (news_sub N (subs3 hH hx hd)) T hk hl2 hdp hu ?_
  intro b n' hlt r h' tk' hr F' N'
  refine hret b n' (fun q hq => allLt_all hlt.2.2.2 q hq) r h' tk' hr F' (news_sub N' fun q hq => ?_)
  rcases List.mem_cons.mp hq with rfl | hq
  · exact .head _
  · exact .tail _ (.tail _ (.tail _ (.tail _ hq)))
end Mine
end PartN17
section PartRY
open PySem PySem.W PyProof.Rows PySem.Spec PySem.Calls PyProof.V Builtin PySem.Builtin.Re

set_option maxRecDepth 100000
namespace Mine
theorem mt_nobool : typeLookup (.type "re.Match") "__bool__" = pure none := by rw [typeLookup_type, builtinLookup_eq_fast]; kernel_rfl
theorem mt_nolen : typeLookup (.type "re.Match") "__len__" = pure none := by rw [typeLookup_type, builtinLookup_eq_fast]; kernel_rfl
section
variable {prog : Program} {w : World} {A : Around} {E : Value → Shared → Prop} {s : Shared} {h₀ : Heap} {L : Addr} {m : Str → Option Value} {news : List (Addr × Obj)}
theorem mt_truthy {a : Addr} {Q : Bool → Shared → Prop} (hT : s.TypeIs (.ref a) "re.Match") (h : Q true s) : wpAny (model prog w) A (truthy (.ref a)) Q E s := by
  unfold truthy
  refine wpAny_bind (wpAny_callSpecial?_none (name := Str.ofString "__bool__") hT mt_nobool ?_)
  refine wpAny_bind (wpAny_specialOf (name := Str.ofString "__len__") hT mt_nolen ?_)
  exact wpAny_pure h
/-- a search that finds -/
theorem rx_search_some {p : Addr} {code : Array Nat} {x : Str} {t : Tok} {k b e : Nat} {Q : Value → Shared → Prop} (F : Fr h₀ L s.heap m) (N : News h₀ L s.heap news) (P : Pat s.heap p code) (hx : x.cps.size ≤ 2 ^ 60) (hk : k ≤ 2 ^ 64) (hf : spanB k (Sre.forSearch code x.cps 0 0 x.cps.size false) = some (b, e))
    (h : ∀ a h' o, Fr h₀ L h' m → News h₀ L h' ((a, o) :: news) → o.cls = .type "re.Match" → (∀ q ∈ news, q.1 < a) → Q (.ref a) { s with heap := h' }) : wpAny (model prog w) A (call (.builtin "re.Pattern.search") [.ref p, .str x t]) Q E s := by
  refine wpAny_call_entry rx_slot_search P.typeIs rx_entry_search ?_ (rx_args_search _ _)
  unfold Builtin.«re.Pattern.search»
  refine wpAny_bind (wp_target P ?_)
  unfold reAnswer
  dsimp only
  rw [show min 0 x.cps.size = 0 from Nat.zero_min _, show min (2 ^ 63 - 1) x.cps.size = x.cps.size from Nat.min_eq_right (by lia)]
  refine wpAny_bind (wp_run_ok hf hk fun m' e1 e2 => ?_)
  dsimp only
  refine wpAny_bind ?_
  unfold reNewMatch
  refine wpAny_bind (wpAny_newTuple ?_ (by show 2 ≤ sizeLine; decide))
  refine wpAny_newObj_type ?_
  refine wpAny_pure ⟨_, rfl, ?_⟩
  refine h _ _ ({ cls := .type "re.Match", data := .fields #[.str x t, .ref p, rawInt (0 : Nat), rawInt (x.cps.size : Nat), rawInt m'.lastindex, .ref s.heap.objs.size] } : Obj) ((F.push _).push _) (fun p hp => News.push (F.push _) (News.push F N _ rfl) _ rfl p ?_) rfl (fun q hq => ?_)
  · rcases List.mem_cons.mp hp with rfl | hp
    · exact .head _
    · exact .tail _ (.tail _ hp)
  · have h1 := Heap.lt_size (N q hq).1
    show q.1 < (Heap.push _ _).objs.size
    rw [Heap.size_push]
    exact Nat.lt_succ_of_lt h1
end
end Mine
end PartRY
section PartN18
open PySem PySem.W PyProof.Rows PySem.Spec PySem.Calls

set_option maxRecDepth 100000
set_option maxHeartbeats 8000000
namespace Mine
noncomputable def badV : Str := ⟨#[46, 46, 13, 10, 46, 46]⟩
theorem quote_bad : quoteB (Str.ofString ".\n.") = some badV := by decide +kernel
theorem badV_val : ∃ b e, spanB 300 (Sre.forSearch cVal badV.cps 0 0 badV.cps.size false) = some (b, e) := by
  have h : (spanB 300 (Sre.forSearch cVal badV.cps 0 0 badV.cps.size false)).isSome = true := by decide +kernel
  obtain ⟨⟨b, e⟩, h⟩ := Option.isSome_iff_exists.mp h
  exact ⟨b, e, h⟩
theorem c_refused (w : World) {p : Program} {loose : List Str} {mean : ExcName → Option Value} {mg mb : Str → Option Value} (own T₀ : Led) (x d H : Addr) (td : Tok) (vs : List Value) (n : Nat) (rows : List (Str × Str)) (nm : Str) (tn tv : Tok) (hT : Tb x d H own T₀ vs rows) (hn : okName (Txt.lower nm)) (hn2 : okName nm) (hl : rows.length ≤ 100) :
  Tell0 PySem.Challenge.rw_sr0074_02.row.prog w (hd02.heap_39 w.params) p loose mean mg mb 282 [.ref x, .str nm tn, .str badV tv] ((H, listOf vs.toArray n) :: (x, instObj 232 d) :: (d, tabDict w td H) :: own) 60 600
    (fun Go => ∀ vs' n', Tb x d H own T₀ vs' (rows.filter (fun kv => Txt.lower kv.1 != Txt.lower nm)) → Go ((H, listOf vs'.toArray n') :: (x, instObj 232 d) :: (d, tabDict w td H) :: own) (fun r => r = .bool true)) := by
  k_fill
  k_with_none
  k_with "nX" => (first | exact ltA0 ‹_› | exact ltA1 ‹_› | exact ltA2 ‹_› | exact ltA3 ‹_› | exact ltA4 ‹_› | exact ltA5 ‹_› | exact ltA6 ‹_› | exact ltA7 ‹_› | exact ltA8 ‹_› | exact ltA9 ‹_› | exact ltA10 ‹_› | exact ltA11 ‹_› | exact ltA12 ‹_› | exact ltA13 ‹_› | exact neA0 ‹_› | exact neA1 ‹_› | exact neA2 ‹_› | exact neA3 ‹_› | exact neA4 ‹_› | exact neA5 ‹_› | exact neA6 ‹_› | exact neA7 ‹_› | exact neA8 ‹_› | exact neA9 ‹_› | exact neA10 ‹_› | exact neA11 ‹_› | exact neA12 ‹_›)
  k_with "k_ne" => (first | k_extra "nX" | (refine Ne.symm ?_; k_extra "nX"))
  k_with "k_all" => (first | exact List.forall_mem_nil _ | exact al3s ‹_› | exact al0 ‹_› | exact al1 ‹_› | exact al2 ‹_› | exact al3 ‹_› | exact al4 ‹_› | exact al5 ‹_› | exact al6 ‹_› | exact al7 ‹_› | exact al8 ‹_› | exact al9 ‹_› | exact al10 ‹_› | exact al11 ‹_› | exact of2 ‹_› | (refine' List.forall_mem_cons.mpr ⟨?zqa, ?zqb⟩; (case zqa => k_ne); (case zqb => k_all)))
  k_with "k_room" => (ktr_room)
  k_with "ent S" => (refine' code_defS ?zqk1 ?zqk2 ?zqk3 ?zqk4 ?zqk5 ?zqXB ?zqTB ?zqD ?zqT0 ?zqkA ?zqk6 ?zqk7 ?zqk8 ?zqk9 ?zqkB ?_ ?zqcK ?zqc2 ?zqc3 ?zqc4 ?zqc5; (case zqkA => exact rfl); (case zqk2 | zqk1 | zqk3 | zqk4 | zqk5 => k_asm); (case zqXB | zqTB | zqD => assumption); (case zqT0 => first | assumption | exact KtsTurn.refl); (case zqk6 | zqk7 => k_is); (case zqk8 => ktr_room); (case zqk9 => first | exact binds_K (by k_in) rfl (by k_is) rfl rfl rfl | exact BindsTo.of_eq rfl); (case zqkB => exact locs rfl); (case zqcK => first | exact rfl | assumption); (case zqc5 => decide); (case zqc2 | zqc3 | zqc4 => exact rfl))
  k_with "ent D" => (refine' code_def ?zqk1 ?zqk2 ?zqk3 ?zqk4 ?zqk5 ?zqkA ?zqkF ?zqkK ?zqk6 ?zqk7 ?zqk8 ?zqk9 ?zqkB ?_ ?zqc2 ?zqc3 ?zqc4 ?zqc5; (case zqkA | zqkF => exact rfl); (case zqkK => assumption); (case zqk1 | zqk2 | zqk3 | zqk4 | zqk5 => k_asm); (case zqk6 | zqk7 => k_is); (case zqk8 => ktr_room); (case zqk9 => first | exact BindsTo.of_eq rfl | exact binds_K (by k_in) rfl (by k_is) rfl rfl rfl); (case zqc5 => decide); (case zqkB => exact locs rfl); (case zqc2 | zqc3 | zqc4 => exact rfl))
  k_with "ent C" => (refine' code_defC ?zqk1 ?zqk2 ?zqk3 ?zqk4 ?zqk5 ?zqkA ?zqkF ?zqkK ?zqk6 ?zqk7 ?zqk8 ?zqk9 ?zqkB ?zqkD ?_ ?zqc2 ?zqc3 ?zqc4; (case zqkA | zqkF => exact rfl); (case zqkK => first | exact rfl | assumption); (case zqk1 | zqk2 | zqk3 | zqk4 | zqk5 => k_asm); (case zqk6 | zqk7 => k_is); (case zqk8 => ktr_room); (case zqk9 => first | exact BindsTo.of_eq rfl | exact binds_K (by k_in) rfl (by k_is) rfl rfl rfl); (case zqkD => decide +kernel); (case zqkB | zqc2 | zqc3 | zqc4 => exact rfl))
  k_with "w exec For Tuple Attribute cons nil" => (k_here; (rename Fr _ _ _ _ => lF'); (with_unfolding_all refine' For_turns lF' ?_; k_whole))
  k_with "w pyIter ref" => (k_here; (with_reducible show wpAny _ _ (pyIter (Value.ref _)) (fun it s₂ => TurnsAt _ _ _ _ _ _ _ _ _ it s₂) _ _); k_extra "halt iter"; refine halt ?_)
  k_with "w getMethod ref" => (k_here; k_dflt (first | (refine rx_getMethod rx_slot_search rx_type_search (pat_name (by k_asm) (by k_asm)) ?_) | (refine rx_getMethod rx_slot_search rx_type_search (pat_val (by k_asm) (by k_asm)) ?_)))
  k_with "w call builtin:re.Pattern.search" => (k_here; k_extra "my search")
  k_with "w eval ListComp" => (k_here; k_extra "comp yes"; k_dflt (refine LCt.ListComp_T (F₀ := by k_asm) (by with_unfolding_all rfl) (by decide) (by rfl) (by decide) (by rfl) ?_))
  k_with "w call ref" => (k_here; k_extra "my call")
  k_with "w delItem ref str" => (k_here; k_dflt (refine' my_delItem ?zqF ?zqX ?zqI ?zqhQ ?zqhS ?zqhF ?_; (case zqF => k_asm); (case zqX => k_asm); (case zqI => k_inst); (case zqhS => k_is); (case zqhF => k_is); (case zqhQ => k_is); k_whole))
  k_with "w truthy ref" => (k_dflt (refine mt_truthy ⟨_, News.get (by k_asm) (by k_mem), by assumption⟩ ?_))
  k_with "w truthy" => (k_dflt (refine mt_truthy ⟨_, News.get (by k_asm) (by k_mem), by assumption⟩ ?_))
  unfold Tell0
  intro dp un gd cn cs a ccd cl A₀ base h₀ L m s Q E B F X N T hk XB TB hdp hu hret
  refine wpAny_call ?_
  k_dflt (refine' code_try ?k1 ?k2 ?k3 ?k4 ?k5 ?kA ?kF ?kK ?k6 ?k7 ?k8 ?k9 ?kB ?_ ?c2 ?c3 ?c4 ?c5; (case kA => exact rfl); (case kF => exact rfl); (case kK => assumption); (case k1 => k_asm); (case k2 => k_asm); (case k3 => k_asm); (case k4 => k_asm); (case k5 => k_asm); (case k6 => k_is); (case k7 => k_is); (case k8 => ktr_room); (case k9 => exact BindsTo.of_eq rfl); (case c5 => decide); (case kB => exact locs rfl); (case c2 => exact rfl); (case c3 => exact rfl); (case c4 => exact rfl); k_whole)
  intro g' L' h' FG' F' N' B' X' T' D'
  (try dsimp only)
  (try k_fold)
  have hKd := kdMark
  have hvs : vs.length ≤ 100 := by rw [hT.length]; exact hl
  have hoff := hT.off
  have hnl := hn2.len
  obtain ⟨sb, se, hsp⟩ := badV_val
  k_with "my search" => (k_dflt (first | refine rx_search_none (k := 300) (pat_name (by k_asm) (by k_asm)) hn2.small (by decide) hn2.fails ?_ | (refine rx_search_some (k := 300) (by k_asm) (by k_asm) (pat_val (by k_asm) (by k_asm)) (by decide) (by decide) hsp ?_; intro aM hM oM FM NM cM lM; (try k_lt lM))))
  k_with "my call" => (first | (k_dflt (refine' Tell.use (c_del w own T₀ x d H td vs n rows nm tn hT hn hl hnl) ?k1 ?k2 ?k3 ?k4 ?k5 ?kK trivial ?kd ?ku ?_); (case k1 => k_asm); (case k2 => k_asm); (case k3 => k_asm); (case k4 => k_asm); (case k5 => k_asm); (case kK => first | exact rfl | assumption); (case kd => ktr_room); (case ku => ktr_units); intro vs9 n9 hT9 r9 h9 tk9 hr9 F9 N9; subst hr9; (try dsimp only); (try k_fold)) | (refine wpAny_call ?_; k_dflt k_enter))
  k_steps
  (rename Tb _ _ _ _ _ _ _ => hT9)
  (rename News h₀ L _ _ => nE)
  exact hret vs9 n9 hT9 _ _ _ rfl (by k_asm) (news_sub nE (fun p hp => .tail _ hp))
end Mine
end PartN18
section PartPureK
open PySem PySem.W PyProof.Rows

set_option maxRecDepth 100000
namespace Mine
noncomputable def four : List Nat := [97, 66, 99, 68]
noncomputable def heldK (R : List Row) : List Nat := four.map fun c => (getR R c).getD 0
noncomputable def mayP (h : List Nat) (i : Nat) : Bool := if i = 0 then up (h.getD 3 0) == up (h.getD 0 0) else up (h.getD (i - 1) 0) != h.getD i 0
noncomputable def mayK (h : List Nat) : List Nat := (List.range 4).filter (mayP h)
noncomputable def pickK (v : Int) (m : List Nat) : Nat := if v < 256 then m.getD (v.fmod m.length).toNat 0 else m.reverse.getD (v.fmod m.length).toNat 0
noncomputable def letK (t p : Nat) : Nat := if t % 2 = 0 then 97 + p else 65 + p
noncomputable def stepK (rd : List Int) (t : Nat) (R : List Row) : List Row :=
  setR R (letK t (pickK (rd.getD (t % 9) 0) (mayK (heldK R)))) (up ((heldK R).getD ((pickK (rd.getD (t % 9) 0) (mayK (heldK R)) + 3) % 4) 0))
noncomputable abbrev Ent := List Nat × List Nat × Nat
noncomputable def entK (rd : List Int) (t : Nat) (R : List Row) : Ent := (heldK R, mayK (heldK R), pickK (rd.getD (t % 9) 0) (mayK (heldK R)))
noncomputable def runK (rd : List Int) : Nat → List Row × List Ent
  | 0 => (rows8 rd, [])
  | t + 1 => (stepK rd t (runK rd t).1, (runK rd t).2 ++ [entK rd t (runK rd t).1])
structure goodR (R : List Row) : Prop where
  ok : ∀ r ∈ R, okRow r
  len : R.length ≤ 8
  all : ∀ c ∈ four, ∃ k, getR R c = some k
theorem getR_three {R : List Row} (h : ∀ r ∈ R, okRow r) {c k : Nat} (e : getR R c = some k) : k ∈ three := by
  unfold getR at e
  obtain ⟨r, hr, rfl⟩ := Option.map_eq_some_iff.mp e
  rcases (h r (List.mem_of_find?_eq_some hr)).2 with h | h | h <;> rw [h] <;> decide
theorem goodR.held {R : List Row} (g : goodR R) : ∃ a b c d, a ∈ three ∧ b ∈ three ∧ c ∈ three ∧ d ∈ three ∧ heldK R = [a, b, c, d] ∧ getR R 97 = some a ∧ getR R 66 = some b ∧ getR R 99 = some c ∧ getR R 68 = some d := by
  obtain ⟨a, ha⟩ := g.all 97 (by decide)
  obtain ⟨b, hb⟩ := g.all 66 (by decide)
  obtain ⟨c, hc⟩ := g.all 99 (by decide)
  obtain ⟨d, hd⟩ := g.all 68 (by decide)
  refine ⟨a, b, c, d, getR_three g.ok ha, getR_three g.ok hb, getR_three g.ok hc, getR_three g.ok hd, ?_, ha, hb, hc, hd⟩
  simp only [heldK, four, List.map_cons, List.map_nil, ha, hb, hc, hd, Option.getD_some]
theorem mayK_ne : ∀ a ∈ three, ∀ b ∈ three, ∀ c ∈ three, ∀ d ∈ three, mayK [a, b, c, d] ≠ [] := by decide +kernel
theorem getD_mem {m : List Nat} {i : Nat} (h : i < m.length) : m.getD i 0 ∈ m := by
  rw [List.getD_eq_getElem?_getD, List.getElem?_eq_getElem h]
  exact List.getElem_mem h
theorem pickK_mem (v : Int) {m : List Nat} (h : m ≠ []) : pickK v m ∈ m := by
  have hl : 0 < m.length := List.length_pos_iff.mpr h
  have h1 : (v.fmod m.length).toNat < m.length := by
    have a1 := Int.fmod_lt_of_pos v (b := (m.length : Int)) (by lia)
    have a2 := Int.fmod_nonneg_of_pos v (b := (m.length : Int)) (by lia)
    lia
  unfold pickK
  split
  · exact getD_mem h1
  · exact List.mem_reverse.mp (getD_mem (by rw [List.length_reverse]; exact h1))
theorem mayK_lt (h : List Nat) : ∀ i ∈ mayK h, i < 4 := fun i hi => List.mem_range.mp (List.mem_filter.mp hi).1
theorem letK_ok (t : Nat) : ∀ p, p < 4 → letK t p ∈ letters ∧ low (letK t p) = 97 + p := fun p hp => by
  have : p = 0 ∨ p = 1 ∨ p = 2 ∨ p = 3 := four_cases (by assumption)
  unfold letK
  split <;> rcases this with rfl | rfl | rfl | rfl <;> exact ⟨by decide, by decide⟩
theorem getR_set_same (R : List Row) (c k : Nat) {c' : Nat} (h : low c' = low c) : getR (setR R c k) c' = some k := by
  unfold getR setR
  rw [List.find?_append]
  have : (R.filter fun r => low r.1 != low c).find? (fun r => low r.1 == low c') = none := by
    rw [List.find?_eq_none]
    intro r hr
    have := (List.mem_filter.mp hr).2
    simp only [h]
    simpa using this
  rw [this]
  simp [h]
theorem getR_set_other (R : List Row) (c k : Nat) {c' : Nat} (h : low c' ≠ low c) : getR (setR R c k) c' = getR R c' := by
  unfold getR setR
  rw [List.find?_append, List.find?_filter]
  have e : (fun r : Row => decide ((low r.1 != low c) = true ∧ (low r.1 == low c') = true)) = fun r => low r.1 == low c' := by
    funext r
    by_cases h1 : low r.1 = low c'
    · simp [h1, h]
    · simp [h1]
  have e2 : List.find? (fun r : Row => low r.1 == low c') [(c, k)] = none := by
    simp [Ne.symm h]
  first
    | rw [e, e2]; simp
    | (simp only [e2, Option.or_none]; congr 1; congr 1; funext r; by_cases h1 : low r.1 = low c' <;> simp [h1, h])
theorem setR_len {R : List Row} {c k : Nat} (h : ∃ r ∈ R, low r.1 = low c) : (setR R c k).length ≤ R.length := by
  obtain ⟨r, hr, e⟩ := h
  unfold setR
  rw [List.length_append, List.length_singleton]
  have := List.length_filter_lt_length_iff_exists (p := fun r : Row => low r.1 != low c) (l := R)
  have h2 := this.mpr ⟨r, hr, by simp [e]⟩
  lia
theorem up_three : ∀ a ∈ three, up a ∈ three := by decide
theorem three_or : ∀ a ∈ three, a = 1 ∨ a = 2 ∨ a = 3 := by decide
theorem four_low : ∀ c ∈ four, low c = 97 + four.idxOf c := by decide
theorem goodR.set {R : List Row} (g : goodR R) {t p k : Nat} (hp : p < 4) (hk : k ∈ three) : goodR (setR R (letK t p) k) where
  ok := fun r hr => by
    unfold setR at hr
    rcases List.mem_append.mp hr with hr | hr
    · exact g.ok r (List.mem_filter.mp hr).1
    · rw [List.mem_singleton.mp hr]; exact ⟨(letK_ok t p hp).1, three_or k hk⟩
  len := by
    refine Nat.le_trans (setR_len ?_) g.len
    have h4 : four.getD p 0 ∈ four ∧ low (four.getD p 0) = 97 + p := by
      have : p = 0 ∨ p = 1 ∨ p = 2 ∨ p = 3 := four_cases (by assumption)
      rcases this with rfl | rfl | rfl | rfl <;> decide
    obtain ⟨k', hk'⟩ := g.all _ h4.1
    unfold getR at hk'
    obtain ⟨r, hr, _⟩ := Option.map_eq_some_iff.mp hk'
    refine ⟨r, List.mem_of_find?_eq_some hr, ?_⟩
    have := List.find?_some hr
    rw [(letK_ok t p hp).2, ← h4.2]
    simpa using this
  all := fun c hc => by
    by_cases h : low c = low (letK t p)
    · exact ⟨k, getR_set_same R _ k h⟩
    · rw [getR_set_other R _ k h]; exact g.all c hc
theorem held_set {R : List Row} {t p k : Nat} (hp : p < 4) : heldK (setR R (letK t p) k) = (heldK R).set p k := by
  have e : ∀ c, (getR (setR R (letK t p) k) c).getD 0 = if low c = 97 + p then k else (getR R c).getD 0 := fun c => by
    by_cases h : low c = 97 + p
    · rw [if_pos h, getR_set_same R _ k (by rw [h, (letK_ok t p hp).2])]; rfl
    · rw [if_neg h, getR_set_other R _ k (by rw [(letK_ok t p hp).2]; exact h)]
  have : p = 0 ∨ p = 1 ∨ p = 2 ∨ p = 3 := four_cases (by assumption)
  simp only [heldK, four, List.map_cons, List.map_nil, e]
  rcases this with rfl | rfl | rfl | rfl <;> rfl
theorem rows8_good (rd : List Int) : goodR (rows8 rd) where
  ok := fun r hr => by
    unfold rows8 at hr
    obtain ⟨i, hi, rfl⟩ := List.mem_map.mp hr
    exact ⟨letters_mem i (lt8 (List.mem_range.mp hi)), cnt_ok _⟩
  len := by unfold rows8; rw [List.length_map, List.length_range]; exact Nat.le_refl _
  all := fun c hc => by
    have : c = 97 ∨ c = 66 ∨ c = 99 ∨ c = 68 := by revert hc; unfold four; simp
    rcases this with rfl | rfl | rfl | rfl <;> exact ⟨_, rfl⟩
theorem three_getD : ∀ a ∈ three, ∀ b ∈ three, ∀ c ∈ three, ∀ d ∈ three, ∀ i ∈ [0, 1, 2, 3], [a, b, c, d].getD i 0 ∈ three := by decide +kernel
theorem step_good {rd : List Int} {t : Nat} {R : List Row} (g : goodR R) : goodR (stepK rd t R) := by
  obtain ⟨a, b, c, d, ha, hb, hc, hd, e, _⟩ := g.held
  have hm : mayK (heldK R) ≠ [] := by rw [e]; exact mayK_ne a ha b hb c hc d hd
  refine g.set (mayK_lt _ _ (pickK_mem _ hm)) (up_three _ ?_)
  rw [e]
  have h4 := Nat.mod_lt (pickK (rd.getD (t % 9) 0) (mayK [a, b, c, d]) + 3) (show 4 > 0 by decide)
  refine three_getD a ha b hb c hc d hd _ ?_
  generalize (pickK (rd.getD (t % 9) 0) (mayK [a, b, c, d]) + 3) % 4 = j at h4 ⊢
  have : j = 0 ∨ j = 1 ∨ j = 2 ∨ j = 3 := four_cases (by assumption)
  rcases this with rfl | rfl | rfl | rfl <;> decide
theorem runK_good (rd : List Int) : ∀ t, goodR (runK rd t).1
  | 0 => rows8_good rd
  | t + 1 => step_good (runK_good rd t)
end Mine
end PartPureK
section PartNP
open PySem PySem.W PyProof.Rows PySem.Spec PySem.Calls

set_option maxRecDepth 100000
set_option maxHeartbeats 8000000
namespace Mine
theorem lit_item {prog : Program} {w : World} {A : Around} {E : Value → Shared → Prop} {s : Shared} {h₀ : Heap} {L l : Addr} {value slice : PySem.Expr} {news : Led} {us : List Value} {v : Value} {k : Int} {u : Tok} {Q : Value → Shared → Prop} (N : News h₀ L s.heap news) (hm : (l, LCg.lst us) ∈ news)
    (h0 : 0 ≤ k) (h1 : k < 1000) (hv : us[k.toNat]? = some v) (h : Q v s)
    (hs : subscripted slice false (.ref l) (.int k u) = operate [.ref l, .int k u] (getItem (.ref l) (.int k u)) := by with_unfolding_all rfl) :
    wpAny (model prog w) A (subscriptTail value slice (.ref l) (.int k u)) Q E s := by
  have hl : s.heap.IsList l us.toArray := ⟨_, (N _ hm).1, rfl, _, rfl⟩
  exact tail_any hl.typeIs slot_list_getitem.lookup (wpAny_getItem_list hl h0 (Int.lt_trans h1 (by decide)) (by rw [List.getElem?_toArray]; exact hv) h) hs
theorem sub_h4 {k a b c e : Addr × Obj} {r : Led} : ∀ p ∈ k :: a :: b :: c :: e :: r, p ∈ a :: b :: c :: e :: k :: r := fun p hp => by
  rcases List.mem_cons.mp hp with rfl | hp
  · exact .tail _ (.tail _ (.tail _ (.tail _ (.head _))))
  rcases List.mem_cons.mp hp with rfl | hp
  · exact .head _
  rcases List.mem_cons.mp hp with rfl | hp
  · exact .tail _ (.head _)
  rcases List.mem_cons.mp hp with rfl | hp
  · exact .tail _ (.tail _ (.head _))
  rcases List.mem_cons.mp hp with rfl | hp
  · exact .tail _ (.tail _ (.tail _ (.head _)))
  · exact .tail _ (.tail _ (.tail _ (.tail _ (.tail _ hp))))
theorem sub_pull {k : Addr × Obj} {news nw own9 : Led} (hsub : ∀ p ∈ news, p ∈ nw) : ∀ p ∈ k :: (news ++ (nw ++ own9)), p ∈ [k] ++ (nw ++ own9) := fun p hp => by
  show p ∈ k :: (nw ++ own9)
  rcases List.mem_cons.mp hp with rfl | hp
  · exact .head _
  rcases List.mem_append.mp hp with hp | hp
  · exact .tail _ (List.mem_append.mpr (.inl (hsub p hp)))
  · exact .tail _ hp
theorem sub_done {k : Addr × Obj} {news nw T : Led} (hsub : ∀ p ∈ news, p ∈ nw) (hT : ∀ p ∈ T, p ∈ nw) : ∀ p ∈ k :: (news ++ T), p ∈ [k] ++ nw := fun p hp => by
  show p ∈ k :: nw
  rcases List.mem_cons.mp hp with rfl | hp
  · exact .head _
  rcases List.mem_append.mp hp with hp | hp
  · exact .tail _ (hsub p hp)
  · exact .tail _ (hT p hp)
theorem fr_name {h₀ h : Heap} {L : Addr} {m : Str → Option Value} (_ : Fr h₀ L h m) : ∃ y : Addr, y = L := ⟨_, rfl⟩
theorem rows_next (rd : List Int) {rows9 : List (Str × Str)} {i : Nat} (h : rows9 = ((rows8 rd).take i).map rowS) (hi : i < 8) : rows9 ++ [(Txt.item (Str.ofString "ABCDabcd") (0 + (i : Int)), Txt.mul (Str.ofString ".") (1 + (rd.getD i 0).fmod 3))] = ((rows8 rd).take (i + 1)).map rowS := by
  have hl : (rows8 rd).length = 8 := by unfold rows8; rw [List.length_map, List.length_range]
  have e : (rows8 rd).take (i + 1) = (rows8 rd).take i ++ [(letters.getD i 0, cnt (rd.getD i 0))] := by
    rw [List.take_add_one, List.getElem?_eq_getElem (by lia)]
    simp [rows8]
  rw [h, e, List.map_append, item_up i (lt8 hi), mul_dots]
  rfl
theorem sub_six {a b c e f k : Addr × Obj} {r : Led} : ∀ p ∈ a :: b :: c :: e :: f :: k :: r, p ∈ b :: a :: f :: c :: e :: k :: r := fun p hp => by
  simp only [List.mem_cons] at hp ⊢
  rcases hp with h | h | h | h | h | h | h <;> simp [h]
theorem cells_name {h₀ h : Heap} {L c1 c2 c3 le lg H : Addr} {o1 o2 o3 oe ol oH : Obj} {r : Led} (_ : News h₀ L h ((lg, ol) :: (H, oH) :: (le, oe) :: (c1, o1) :: (c2, o2) :: (c3, o3) :: r)) : ∃ (y z : Addr) (a b c : Obj), y = lg ∧ z = le ∧ a = o1 ∧ b = o2 ∧ c = o3 := ⟨_, _, _, _, _, rfl, rfl, rfl, rfl, rfl⟩
theorem ownOff4 {l : Led} {a b c e : Addr} (ha : ∀ q ∈ l, q.1 ≠ a) (hb : ∀ q ∈ l, q.1 ≠ b) (hc : ∀ q ∈ l, q.1 ≠ c) (he : ∀ q ∈ l, q.1 ≠ e) : OwnOff l [a, b, c, e] := fun q hq x hx => by
  rcases List.mem_cons.mp hx with rfl | hx
  · exact ha q hq
  rcases List.mem_cons.mp hx with rfl | hx
  · exact hb q hq
  rcases List.mem_cons.mp hx with rfl | hx
  · exact hc q hq
  rw [List.mem_singleton.mp hx]
  exact he q hq
theorem sub_four {a b c e : Addr × Obj} {nw own9 : Led} {W0 : Led} {x1 x2 x3 x4 x5 : Addr × Obj} (hsub : ∀ p ∈ x1 :: x2 :: x3 :: x4 :: x5 :: W0, p ∈ nw) : ∀ p ∈ a :: b :: c :: e :: x1 :: x2 :: x3 :: x4 :: x5 :: (W0 ++ (nw ++ own9)), p ∈ [a, b, c, e] ++ (nw ++ own9) := fun p hp => by
  show p ∈ a :: b :: c :: e :: (nw ++ own9)
  have key : p ∈ x1 :: x2 :: x3 :: x4 :: x5 :: W0 → p ∈ a :: b :: c :: e :: (nw ++ own9) := fun h => .tail _ (.tail _ (.tail _ (.tail _ (List.mem_append.mpr (.inl (hsub p h))))))
  simp only [List.mem_cons, List.mem_append] at hp key ⊢
  rcases hp with h | h | h | h | h | h | h | h | h | h | h | h
  · simp [h]
  · simp [h]
  · simp [h]
  · simp [h]
  · exact key (by simp [h])
  · exact key (by simp [h])
  · exact key (by simp [h])
  · exact key (by simp [h])
  · exact key (by simp [h])
  · exact key (by simp [h])
  · simp [h]
  · simp [h]
theorem item_four : ∀ i ∈ [0, 1, 2, 3], Txt.item (Str.ofString "aBcD") (0 + ((i : Nat) : Int)) = nameS (four.getD i 0) := by decide +kernel
theorem lt4 {i : Nat} (h : i < 4) : i ∈ [0, 1, 2, 3] := by
  have : i = 0 ∨ i = 1 ∨ i = 2 ∨ i = 3 := four_cases (by assumption)
  rcases this with rfl | rfl | rfl | rfl <;> decide
theorem four_mem : ∀ i ∈ [0, 1, 2, 3], four.getD i 0 ∈ letters := by decide
theorem held_at {R : List Row} (g : goodR R) {j : Nat} (hj : j < 4) : getR R (four.getD j 0) = some ((heldK R).getD j 0) := by
  obtain ⟨k, hk⟩ := g.all (four.getD j 0) (by have : j = 0 ∨ j = 1 ∨ j = 2 ∨ j = 3 := four_cases (by assumption)
                                              rcases this with rfl | rfl | rfl | rfl <;> decide)
  have : (heldK R).getD j 0 = (getR R (four.getD j 0)).getD 0 := by
    have : j = 0 ∨ j = 1 ∨ j = 2 ∨ j = 3 := four_cases (by assumption)
    rcases this with rfl | rfl | rfl | rfl <;> rfl
  rw [this, hk]; rfl
theorem c_getN (w : World) {p : Program} {loose : List Str} {mean : ExcName → Option Value} {mg mb : Str → Option Value} {news : Led} {x d H : Addr} {td : Tok} {vs : List Value} {n : Nat} {R : List Row} {j : Nat} {nm : Str} {tn : Tok} (hH : (H, listOf vs.toArray n) ∈ news) (hx : (x, instObj 232 d) ∈ news) (hd : (d, tabDict w td H) ∈ news)
    (hT : TbD news vs (R.map rowS)) (g : goodR R) (hj : j < 4) (hn : nm = Txt.item (Str.ofString "aBcD") (0 + (j : Int))) :
  Tell PySem.Challenge.rw_sr0074_02.row.prog w (hd02.heap_39 w.params) p loose mean mg mb 179 [.ref x, .str nm tn] news 20 200 (fun _ => True) (fun Go => Go news (fun r => ∃ t, r = .str (dotS ((heldK R).getD j 0)) t)) := by
  subst hn
  rw [item_four j (lt4 hj)]
  exact c_getM w hH hx hd hT g.ok (Nat.le_trans g.len (by decide)) (four_mem j (lt4 hj)) (held_at g hj)
theorem heldK_len (R : List Row) : (heldK R).length = 4 := rfl
theorem take_held {R : List Row} {j : Nat} (hj : j < 4) : (heldK R).take (j + 1) = (heldK R).take j ++ [(heldK R).getD j 0] := by
  rw [List.take_add_one, List.getElem?_eq_getElem (by rw [heldK_len]; exact hj), List.getD_eq_getElem?_getD, List.getElem?_eq_getElem (by rw [heldK_len]; exact hj)]
  rfl
theorem TbD.more {T W : Led} {vs : List Value} {rows : List (Str × Str)} (h : TbD T vs rows) (s : ∀ q ∈ T, q ∈ W) : TbD W vs rows := ⟨h.dat.mono s, h.len⟩
theorem strs_dots {ys : List Value} : ∀ {ks : List Nat}, DatAll [] ys (ks.map fun k => .str (dotS k)) → StrsAre ys (ks.map dotS)
  | [], h => by cases h; exact .nil
  | k :: ks, h => by
    cases h with
    | cons hd r => cases hd; exact .cons _ _ (strs_dots r)
noncomputable def ends3D : List Dat := [.str (Str.ofString "\n"), .str (Str.ofString "\r"), .str (Str.ofString "\r\n")]
theorem ends3_of {dd : Dat} (h : dd ∈ ends3D) : ∃ e ∈ ends3, dd = .str e := by
  unfold ends3D at h
  rcases List.mem_cons.mp h with rfl | h
  · exact ⟨_, .head _, rfl⟩
  rcases List.mem_cons.mp h with rfl | h
  · exact ⟨_, .tail _ (.head _), rfl⟩
  rw [List.mem_singleton.mp h]
  exact ⟨_, .tail _ (.tail _ (.head _)), rfl⟩
theorem ends3_len : ∀ e ∈ ends3, e.length ≤ 16 := by decide
noncomputable def splitC (a b c d : Nat) : Bool := decide (Txt.split (Txt.join crlf [dotS (a + 1), dotS (b + 1), dotS (c + 1), dotS (d + 1)]) crlf = [dotS (a + 1), dotS (b + 1), dotS (c + 1), dotS (d + 1)] ∧ (Txt.join crlf [dotS (a + 1), dotS (b + 1), dotS (c + 1), dotS (d + 1)]).length + 2 ≤ sizeLine)
theorem split_all : ∀ a ∈ three, ∀ b ∈ three, ∀ c ∈ three, ∀ d ∈ three, splitC a b c d = true := by decide +kernel
theorem join_wt : ∀ a ∈ three, ∀ b ∈ three, ∀ c ∈ three, ∀ d ∈ three, (([a, b, c, d].map dotS).map (·.length)).sum + ([a, b, c, d].map dotS).length ≤ 1048576 := by decide +kernel
theorem strs_at : ∀ {vs : List Value} {ss : List Str} {i : Nat} {v : Value}, StrsAre vs ss → vs.toArray[i]? = some v → i < ss.length ∧ ∃ t, v = .str (ss.getD i default) t := fun {vs ss i v} h => by
  rw [List.getElem?_toArray]
  induction h generalizing i with
  | nil => exact fun h => by simp at h
  | cons y t _ ih =>
    intro hv
    cases i with
    | zero => exact ⟨by simp, t, by simpa using hv.symm⟩
    | succ j =>
      obtain ⟨h1, t', h2⟩ := ih (i := j) (by simpa using hv)
      exact ⟨by simpa using h1, t', by simpa using h2⟩
theorem strs_len {vs : List Value} {ss : List Str} (h : StrsAre vs ss) : vs.length = ss.length := h.length
theorem dot_lit : dotS (1 + 1) = Str.ofString ".." ∧ dotS (2 + 1) = Str.ofString "..." ∧ dotS (3 + 1) = Str.ofString "...." := by decide +kernel
theorem four_at {a b c d j : Nat} (hj : j < 4) (ha : a ∈ three) (hb : b ∈ three) (hc : c ∈ three) (hd : d ∈ three) : ∃ k, k ∈ three ∧ [a, b, c, d].getD j 0 = k ∧ [dotS (a + 1), dotS (b + 1), dotS (c + 1), dotS (d + 1)].getD j default = dotS (k + 1) := by
  have : j = 0 ∨ j = 1 ∨ j = 2 ∨ j = 3 := four_cases (by assumption)
  rcases this with rfl | rfl | rfl | rfl
  · exact ⟨a, ha, rfl, rfl⟩
  · exact ⟨b, hb, rfl, rfl⟩
  · exact ⟨c, hc, rfl, rfl⟩
  · exact ⟨d, hd, rfl, rfl⟩
theorem strs_four {ys : List Value} {a b c d : Str} (h : StrsAre ys [a, b, c, d]) : ∃ t1 t2 t3 t4, ys = [.str a t1, .str b t2, .str c t3, .str d t4] := by
  cases h with
  | cons _ t1 h =>
    cases h with
    | cons _ t2 h =>
      cases h with
      | cons _ t3 h =>
        cases h with
        | cons _ t4 h => cases h; exact ⟨_, _, _, _, rfl⟩
theorem dotS_beq : ∀ a ∈ three, ∀ b ∈ three, (dotS a == dotS b) = (a == b) := by decide +kernel
theorem may_yes {h : List Nat} {i : Nat} {ys : List Value} {t : Tok} (hc : mayP h i = true) (hy : IntsAre ys (((List.range i).filter (mayP h)).map fun (q : Nat) => (q : Int))) : IntsAre (ys ++ [.int (0 + (i : Int)) t]) (((List.range (i + 1)).filter (mayP h)).map fun (q : Nat) => (q : Int)) := by
  rw [List.range_succ, List.filter_append, List.map_append, List.filter_cons_of_pos hc, Int.zero_add]
  exact IntsAre.append hy (.cons _ _ .nil)
theorem may_no {h : List Nat} {i : Nat} {ys : List Value} (hc : mayP h i = false) (hy : IntsAre ys (((List.range i).filter (mayP h)).map fun (q : Nat) => (q : Int))) : IntsAre ys (((List.range (i + 1)).filter (mayP h)).map fun (q : Nat) => (q : Int)) := by
  rw [List.range_succ, List.filter_append, List.filter_cons_of_neg (by rw [hc]; decide), List.filter_nil, List.append_nil]
  exact hy
theorem ints_item {prog : Program} {w : World} {A : Around} {E : Value → Shared → Prop} {s : Shared} {h₀ : Heap} {L l : Addr} {value slice : PySem.Expr} {news : Led} {us : List Value} {n : Nat} {rd : List Int} {k : Int} {u : Tok} {Q : Value → Shared → Prop} (N : News h₀ L s.heap news) (hm : (l, listOf us.toArray n) ∈ news) (hi : IntsAre us rd)
    {v : Int} (h0 : 0 ≤ k) (h1 : k < rd.length) (h2 : k < 1000) (hv : rd.getD k.toNat 0 = v) (h : ∀ t, Q (.int v t) s)
    (hs : subscripted slice false (.ref l) (.int k u) = operate [.ref l, .int k u] (getItem (.ref l) (.int k u)) := by with_unfolding_all rfl) :
    wpAny (model prog w) A (subscriptTail value slice (.ref l) (.int k u)) Q E s := by
  have hl : s.heap.IsList l us.toArray := ⟨_, (N _ hm).1, rfl, _, rfl⟩
  have hlt : k.toNat < rd.length := by lia
  obtain ⟨t, ht⟩ := hi.get k.toNat (rd.getD k.toNat 0) (by rw [List.getD_eq_getElem?_getD, List.getElem?_eq_getElem hlt]; rfl)
  rw [hv] at ht
  exact tail_any hl.typeIs slot_list_getitem.lookup (wpAny_getItem_list hl h0 (Int.lt_trans h2 (by decide)) (by rw [List.getElem?_toArray]; exact ht) (h t)) hs
theorem fmod9 (i : Nat) : ((0 + (i : Int)).fmod 9).toNat = i % 9 := by
  rw [Int.zero_add, Int.fmod_eq_emod_of_nonneg _ (by decide)]
  lia
theorem len_list2 {prog : Program} {w : World} {A : Around} {E : Value → Shared → Prop} {s : Shared} {h₀ : Heap} {L l : Addr} {news : Led} {us : List Value} {k : Nat} {Q : Value → Shared → Prop} (N : News h₀ L s.heap news) (hm : (l, LCg.lst us) ∈ news) (hk : us.length = k) (hfit : k < 1000)
    (h : Q (.int (k : Int) (s.toks + 1)) { s with toks := s.toks + 1 + 1 }) : wpAny (model prog w) A (call (.builtin "len") [.ref l]) Q E s := by
  have hl : s.heap.IsList l us.toArray := ⟨_, (N _ hm).1, rfl, _, rfl⟩
  have e : us.toArray.size = k := by rw [List.size_toArray, hk]
  exact len_list hl (by rw [e]; lia) (by rw [e]; exact h)
theorem runK_len (rd : List Int) : ∀ t, (runK rd t).2.length = t
  | 0 => rfl
  | t + 1 => by show ((runK rd t).2 ++ [_]).length = t + 1; rw [List.length_append, runK_len rd t]; rfl
theorem pick_lt {num : Int} {M : List Nat} (hn : num < 256) (hl : 0 < M.length) : (M.map fun (q : Nat) => (q : Int)).getD (num.fmod (M.length : Int)).toNat 0 = ((pickK num M : Nat) : Int) := by
  have h1 : (num.fmod M.length).toNat < M.length := by
    have a1 := Int.fmod_lt_of_pos num (b := (M.length : Int)) (by lia)
    have a2 := Int.fmod_nonneg_of_pos num (b := (M.length : Int)) (by lia)
    lia
  unfold pickK
  rw [if_pos hn, List.getD_eq_getElem?_getD, List.getD_eq_getElem?_getD, List.getElem?_map, List.getElem?_eq_getElem h1]
  rfl
theorem pick_ge {num : Int} {M : List Nat} (hn : ¬ num < 256) (hl : 0 < M.length) : (M.map fun (q : Nat) => (q : Int)).reverse.getD (num.fmod (M.length : Int)).toNat 0 = ((pickK num M : Nat) : Int) := by
  have h1 : (num.fmod M.length).toNat < M.length := by
    have a1 := Int.fmod_lt_of_pos num (b := (M.length : Int)) (by lia)
    have a2 := Int.fmod_nonneg_of_pos num (b := (M.length : Int)) (by lia)
    lia
  unfold pickK
  rw [if_neg hn, ← List.map_reverse, List.getD_eq_getElem?_getD, List.getD_eq_getElem?_getD, List.getElem?_map, List.getElem?_eq_getElem (by rw [List.length_reverse]; exact h1)]
  rfl
theorem rows_item {prog : Program} {w : World} {A : Around} {E : Value → Shared → Prop} {s : Shared} {h₀ : Heap} {L l : Addr} {value slice : PySem.Expr} {news : Led} {a b c d q : Nat} {t1 t2 t3 t4 u : Tok} {Q : Value → Shared → Prop} (N : News h₀ L s.heap news) (hm : (l, LCg.lst [.str (dotS (up a)) t1, .str (dotS (up b)) t2, .str (dotS (up c)) t3, .str (dotS (up d)) t4]) ∈ news)
    (hq : q < 4) (h : ∀ t, Q (.str (dotS (up ([a, b, c, d].getD ((q + 3) % 4) 0))) t) s)
    (hs : subscripted slice false (.ref l) (.int ((q : Int) - 1) u) = operate [.ref l, .int ((q : Int) - 1) u] (getItem (.ref l) (.int ((q : Int) - 1) u)) := by with_unfolding_all rfl) :
    wpAny (model prog w) A (subscriptTail value slice (.ref l) (.int ((q : Int) - 1) u)) Q E s := by
  have hl : s.heap.IsList l ([.str (dotS (up a)) t1, .str (dotS (up b)) t2, .str (dotS (up c)) t3, .str (dotS (up d)) t4] : List Value).toArray := ⟨_, (N _ hm).1, rfl, _, rfl⟩
  have : q = 0 ∨ q = 1 ∨ q = 2 ∨ q = 3 := four_cases (by assumption)
  rcases this with rfl | rfl | rfl | rfl
  · exact tail_any hl.typeIs slot_list_getitem.lookup (wpAny_getItem_list_neg hl (by decide) (by show (-4 : Int) ≤ -1; decide) (by decide) rfl (h t4)) hs
  · exact tail_any hl.typeIs slot_list_getitem.lookup (wpAny_getItem_list hl (by decide) (by decide) rfl (h t1)) hs
  · exact tail_any hl.typeIs slot_list_getitem.lookup (wpAny_getItem_list hl (by decide) (by decide) rfl (h t2)) hs
  · exact tail_any hl.typeIs slot_list_getitem.lookup (wpAny_getItem_list hl (by decide) (by decide) rfl (h t3)) hs
structure NeH (a b : Nat) : Prop where
  ne : @Ne Nat a b
structure TS where
  vs : List Value
  n : Nat
  T : Led
  us : List Value
  un : Nat
  o1 : Obj
  o2 : Obj
  R : List Row
  lg : List Ent
noncomputable def entD (e : Ent) : Dat := .tuple [.list (e.1.map fun k => .str (dotS k)), .list (e.2.1.map fun i => .int (i : Nat)), .int (e.2.2 : Nat)]
theorem item_low : ∀ q ∈ [0, 1, 2, 3], Txt.item (Str.ofString "abcd") ((q : Nat) : Int) = nameS (97 + q) := by decide +kernel
theorem item_upp : ∀ q ∈ [0, 1, 2, 3], Txt.item (Str.ofString "ABCD") ((q : Nat) : Int) = nameS (65 + q) := by decide +kernel
theorem item_even {i q : Nat} (h : ((0 : Int) + (i : Int)).fmod 2 = 0) (hq : q < 4) : Txt.item (Str.ofString "abcd") (q : Int) = nameS (letK i q) := by
  rw [Int.zero_add, Int.fmod_eq_emod_of_nonneg _ (by decide)] at h
  have : i % 2 = 0 := by lia
  rw [item_low q (lt4 hq), letK, if_pos this]
theorem item_odd {i q : Nat} (h : ((0 : Int) + (i : Int)).fmod 2 ≠ 0) (hq : q < 4) : Txt.item (Str.ofString "ABCD") (q : Int) = nameS (letK i q) := by
  rw [Int.zero_add, Int.fmod_eq_emod_of_nonneg _ (by decide)] at h
  have : ¬ i % 2 = 0 := by lia
  rw [item_upp q (lt4 hq), letK, if_neg this]
theorem c_setN (w : World) {p : Program} {loose : List Str} {mean : ExcName → Option Value} {mg mb : Str → Option Value} {T₀ news : Led} {x d H : Addr} {td : Tok} {vs : List Value} {n : Nat} {R : List Row} {t q k : Nat} {u : Obj → Led} {nm val : Str} {tn tv : Tok} (U : UpdF H (listOf vs.toArray n) news u) (hx : (x, instObj 232 d) ∈ news) (hd : (d, tabDict w td H) ∈ news) (hxH : x ≠ H) (hdH : d ≠ H) (hT : TbD T₀ vs (R.map rowS)) (hs : ∀ p ∈ T₀, p ∈ news) (ho : ∀ p ∈ T₀, p.1 ≠ H) (g : goodR R) (hq : q < 4) (hk : k ∈ three) (hn : nm = nameS (letK t q)) (hv : val = dotS k) :
    Tell PySem.Challenge.rw_sr0074_02.row.prog w (hd02.heap_39 w.params) p loose mean mg mb 145 [.ref x, .str nm tn, .str val tv] news 40 400 (fun _ => True)
      (fun Go => ∀ a vs' n' own', TbD ((a, own') :: T₀) vs' ((setR R (letK t q) k).map rowS) → (∀ q ∈ news, q.1 < a) → a ≠ H → Go ((a, own') :: u (listOf vs'.toArray n')) (fun r => r = .none)) := by
  subst hn hv
  have hl := (letK_ok t q hq).1
  have e : (R.map rowS).filter (fun kv => Txt.lower kv.1 != Txt.lower (nameS (letK t q))) ++ [(nameS (letK t q), dotS k)] = (setR R (letK t q) k).map rowS := by
    rw [filter_rows hl g.ok, setR, List.map_append]; rfl
  rw [← e]
  exact c_setF w U hx hd hxH hdH hT hs ho (okName_lower _ hl) (okName_letter _ hl) (okVal_dot (three_or k hk)) (by rw [List.length_map]; exact Nat.le_trans g.len (by decide))
theorem ints_dat {L : Led} {ys : List Value} : ∀ {ns : List Nat}, IntsAre ys (ns.map fun (q : Nat) => (q : Int)) → DatAll L ys (ns.map fun i => .int (i : Nat))
  | [], h => by cases h; exact .nil
  | n :: ns, h => by
    cases h with
    | cons _ t r => exact .cons (.int _ _) (ints_dat r)
theorem end_name {h₀ h : Heap} {L a1 a2 a3 a4 a5 a6 a7 a8 a9 a10 : Addr} {o1 o2 o3 o4 o5 o6 o7 o8 o9 o10 : Obj} {r : Led} (_ : News h₀ L h ((a1, o1) :: (a2, o2) :: (a3, o3) :: (a4, o4) :: (a5, o5) :: (a6, o6) :: (a7, o7) :: (a8, o8) :: (a9, o9) :: (a10, o10) :: r)) : ∃ (y z v : Addr) (b c : Obj), y = a2 ∧ z = a3 ∧ v = a6 ∧ b = o9 ∧ c = o10 := ⟨_, _, _, _, _, rfl, rfl, rfl, rfl, rfl⟩
theorem off_of {a : Addr} {W own : Led} (h : LCg.Off1 a W) (s : ∀ q ∈ own, q ∈ W) : ∀ q ∈ own, q.1 ≠ a := fun q hq => Off.of1 h q (s q hq)
theorem end_name2 {h₀ h : Heap} {L a1 a2 a0 a3 a4 a5 a6 a7 a8 a9 a10 : Addr} {o1 o2 o0 o3 o4 o5 o6 o7 o8 o9 o10 : Obj} {r : Led} (_ : News h₀ L h ((a1, o1) :: (a2, o2) :: (a0, o0) :: (a3, o3) :: (a4, o4) :: (a5, o5) :: (a6, o6) :: (a7, o7) :: (a8, o8) :: (a9, o9) :: (a10, o10) :: r)) : ∃ (y z v : Addr) (b c : Obj), y = a2 ∧ z = a3 ∧ v = a6 ∧ b = o9 ∧ c = o10 := ⟨_, _, _, _, _, rfl, rfl, rfl, rfl, rfl⟩
theorem sub_endR {a b c e x1 x2 x3 x4 x5 : Addr × Obj} {own T9 nw : Led} (hsub : ∀ p ∈ x1 :: x2 :: x3 :: x4 :: x5 :: (own ++ T9), p ∈ nw) : ∀ p ∈ a :: b :: x3 :: x4 :: x5 :: (own ++ nw), p ∈ [a, b, c, e] ++ nw := fun p hp => by
  show p ∈ a :: b :: c :: e :: nw
  have key : p ∈ x1 :: x2 :: x3 :: x4 :: x5 :: (own ++ T9) → p ∈ a :: b :: c :: e :: nw := fun h => .tail _ (.tail _ (.tail _ (.tail _ (hsub p h))))
  simp only [List.mem_cons, List.mem_append] at hp key ⊢
  rcases hp with h | h | h | h | h | h | h
  · simp [h]
  · simp [h]
  · exact key (by simp [h])
  · exact key (by simp [h])
  · exact key (by simp [h])
  · exact key (by simp [h])
  · simp [h]
end Mine
end PartNP
section PartN14
open PySem PySem.W PyProof.Rows PySem.Spec PySem.Calls

set_option maxRecDepth 100000
set_option maxHeartbeats 8000000
namespace Mine
theorem c_run (w : World) {p : Program} {loose : List Str} {mean : ExcName → Option Value} {mg mb : Str → Option Value} (own : Led) (vs₀ : List Value) (n₀ : Nat) (x d H l : Addr) (td : Tok) (us : List Value) (nr : Nat) (rd : List Int) (hT0 : TbD [] vs₀ []) (hoff : @Ne Nat x H ∧ @Ne Nat d H ∧ @Ne Nat l H) (hO : ∀ p ∈ own, p.1 ≠ H) (hi : IntsAre us rd) (hlen : rd.length = 10) (hb : ∀ v ∈ rd, 0 ≤ v ∧ v ≤ 333334) :
  Tell PySem.Challenge.rw_sr0074_02.row.prog w (hd02.heap_39 w.params) p loose mean mg mb 265 [.ref x, .ref l] ((H, listOf vs₀.toArray n₀) :: (x, instObj 232 d) :: (d, tabDict w td H) :: (l, listOf us.toArray nr) :: own) 60 600 (fun _ => True)
    (fun Go => ∀ lg usL nL T' vs' n' nw', TbD T' vs' ((runK rd 20).1.map rowS) → (∀ q ∈ T', q ∈ nw') → DatAll nw' usL ((runK rd 20).2.map entD) → (∀ q ∈ nw', q.1 ≠ H) → lg ≠ H → Go ((H, listOf vs'.toArray n') :: (lg, listOf usL.toArray nL) :: (x, instObj 232 d) :: (d, tabDict w td H) :: (l, listOf us.toArray nr) :: (own ++ nw')) (fun r => r = .ref lg)) := by
  k_fill
  k_with_none
  k_with "nX" => (first | exact ltA0 ‹_› | exact ltA1 ‹_› | exact ltA2 ‹_› | exact ltA3 ‹_› | exact ltA4 ‹_› | exact ltA5 ‹_› | exact ltA6 ‹_› | exact ltA7 ‹_› | exact ltA8 ‹_› | exact ltA9 ‹_› | exact ltA10 ‹_› | exact ltA11 ‹_› | exact ltA12 ‹_› | exact ltA13 ‹_› | exact neA0 ‹_› | exact neA1 ‹_› | exact neA2 ‹_› | exact neA3 ‹_› | exact neA4 ‹_› | exact neA5 ‹_› | exact neA6 ‹_› | exact neA7 ‹_› | exact neA8 ‹_› | exact neA9 ‹_› | exact neA10 ‹_› | exact neA11 ‹_› | exact neA12 ‹_›)
  k_with "k_ne" => (first | k_extra "nX" | (refine Ne.symm ?_; k_extra "nX"))
  k_with "k_all" => (first | exact List.forall_mem_nil _ | (refine' List.forall_mem_cons.mpr ⟨?zqa, ?zqb⟩; (case zqa => k_ne); (case zqb => k_all)) | assumption | exact al3s ‹_› | exact al0 ‹_› | exact al1 ‹_› | exact al2 ‹_› | exact al3 ‹_› | exact al4 ‹_› | exact al5 ‹_› | exact al6 ‹_› | exact al7 ‹_› | exact al8 ‹_› | exact al9 ‹_› | exact al10 ‹_› | exact al11 ‹_› | exact of2 ‹_›)
  k_with "ent D" => (refine' code_def ?zqk1 ?zqk2 ?zqk3 ?zqk4 ?zqk5 ?zqkA ?zqkF ?zqkK ?zqk6 ?zqk7 ?zqk8 ?zqk9 ?zqkB ?_ ?zqc2 ?zqc3 ?zqc4 ?zqc5; (case zqkA | zqkF => exact rfl); (case zqkK => assumption); (case zqk1 | zqk2 | zqk3 | zqk4 | zqk5 => (k_dflt k_asm)); (case zqk6 | zqk7 => k_is); (case zqk8 => ktr_room); (case zqk9 => first | exact BindsTo.of_eq rfl | exact binds_K (by k_in) rfl (by k_is) rfl rfl rfl); (case zqc5 => decide); (case zqkB => exact locs rfl); (case zqc2 | zqc3 | zqc4 => exact rfl))
  k_with "ent C" => (refine' code_defC ?zqk1 ?zqk2 ?zqk3 ?zqk4 ?zqk5 ?zqkA ?zqkF ?zqkK ?zqk6 ?zqk7 ?zqk8 ?zqk9 ?zqkB ?zqkD ?_ ?zqc2 ?zqc3 ?zqc4; (case zqkA | zqkF => exact rfl); (case zqkK => first | exact rfl | assumption); (case zqk1 | zqk2 | zqk3 | zqk4 | zqk5 => (k_dflt k_asm)); (case zqk6 | zqk7 => k_is); (case zqk8 => ktr_room); (case zqk9 => first | exact BindsTo.of_eq rfl | exact binds_K (by k_in) rfl (by k_is) rfl rfl rfl); (case zqkD => decide +kernel); (case zqkB | zqc2 | zqc3 | zqc4 => exact rfl))
  k_with "k_room" => (ktr_room)
  k_with "w call ref" => (k_here; k_extra "my call")
  k_with "w exec For Name Call cons nil" => (k_here; (rename Fr _ _ _ _ => lF'); (with_unfolding_all refine' For_invVF lF' ?zqk1 ?zqk2 ?_; (case zqk1 => exact rfl); (case zqk2 => exact rfl); k_whole))
  k_with "w eval ListComp" => (k_here; k_extra "comp yes"; k_dflt (first | refine LCg.ListComp_U (F₀ := by k_asm) (by with_unfolding_all rfl) (by decide) (by rfl) (by decide) (by rfl) ?_ | refine LCt.ListComp_T (F₀ := by k_asm) (by with_unfolding_all rfl) (by decide) (by rfl) (by decide) (by rfl) ?_))
  k_with "w exec Assign cons ListComp" => (k_here; k_extra "comp yes"; k_dflt (refine wpAny_Assign_Name ?_))
  k_with "w CompSrc" => (k_extra "halt src"; refine halt ?_)
  k_with "w CompSrcT" => (k_extra "halt src"; refine halt ?_)
  k_with "w call builtin:str.join" => (k_extra "halt join"; refine halt ?_)
  k_with "w call builtin:str.split" => (k_extra "halt split"; refine halt ?_)
  k_with "w subscriptTail Name BinOp ref int" => (k_extra "halt sub"; refine halt ?_)
  k_with "w subscriptTail Name BinOp ref int" => (k_here; k_extra "lit sub")
  k_with "w subscriptTail" => (k_here; k_extra "lit sub")
  k_with "w call builtin:len" => (k_extra "halt len"; refine halt ?_)
  k_with "w subscriptTail Name Slice ref ref" => (k_extra "halt slice"; refine halt ?_)
  k_with "w subscriptTail Subscript BinOp ref int" => (k_extra "halt sub"; refine halt ?_)
  k_with "w call builtin:list.append" => (k_here; k_extra "my append")
  k_with "w subscriptTail" => (k_extra "halt any"; refine halt ?_)
  k_with "w pyIter ref" => (k_extra "halt iter"; refine halt ?_)
  k_with "k_ne" => (first | exact NeH.ne ‹_› | exact Ne.symm (NeH.ne ‹_›))
  k_with "w eval IfExp" => (k_extra "halt if"; refine halt ?_)
  k_with "w exec Expr" => (k_extra "halt stm"; refine halt ?_)
  unfold Tell
  intro dp un gd cn cs a ccd cl outer A₀ base h₀ L m s Q E B F X N T hk hl2 hdp hu hret
  refine wpAny_call ?_
  k_dflt k_enter
  have hKd := kdMark
  have hul := hi.length
  (rename (_ ∧ _ ∧ _ ∧ _ ∧ AllLt _ own) => l1A)
  have hv0 : vs₀.length ≤ 100 := by rw [hT0.length]; decide
  k_with "my call" => (refine halt ?_; refine unhalt ?_; ((with_unfolding_all refine' Tell.use (c_addF (x := x) (d := d) (H := H) (td := td) w ?zU ?zx ?zd ?zxH ?zdH ?zT ?zs ?zo ?zn ?zv ?zl) ?k1 ?k2 ?k3 ?k4 ?k5 ?kK trivial ?kd ?ku ?_); (case k1 => (k_dflt k_asm)); (case k2 => (k_dflt k_asm)); (case k3 => (k_dflt k_asm)); (case k4 => (k_dflt k_asm)); (case k5 => (k_dflt k_asm)); (case zU => (k_dflt k_updF)); (case zx => (k_dflt k_mem)); (case zd => (k_dflt k_mem)); (case zxH => exact hoff.1); (case zdH => exact hoff.2.1); (case zT => (k_dflt assumption)); (case zs => (repeat' first | exact List.forall_mem_nil _ | (refine List.forall_mem_cons.mpr ⟨?_, ?_⟩) | k_mem)); (case zo => (repeat' first | exact List.forall_mem_nil _ | (refine List.forall_mem_cons.mpr ⟨?_, ?_⟩) | assumption)); (case zn => exact okName_item (by decide)); (case zv => exact okVal_mul _); (case zl => (simp only [List.length_append, List.length_cons, List.length_nil]; omega)); (case kK => first | exact rfl | assumption); (case kd => ktr_room); (case ku => ktr_units); intro a9 vs9 n9 o9 hT9 hl9 hne9 r9 h9 tk9 hr9 F9 N9; subst hr9; (try k_lt hl9); (try dsimp only); (try k_fold)))
  k_with "halt iter" => skip
  k_steps
  refine unhalt ?_
  (rename Fr _ _ _ _ => lF)
  (rename News _ _ _ _ => lN)
  (rename IsRange _ _ _ _ _ _ _ _ => rgX)
  obtain ⟨LA, eLA⟩ := fr_name lF
  subst eLA
  with_unfolding_all refine' ls_range (σ := List Value × Nat × Led × List (Str × Str)) (n := 8) (Mu := fun c => [(H, listOf c.1.toArray c.2.1)]) (ps := fun _ => []) (Facts := fun nw c => TbD c.2.2.1 c.1 c.2.2.2 ∧ (∀ q ∈ c.2.2.1, q ∈ nw) ∧ (∀ q ∈ c.2.2.1, q.1 ≠ H) ∧ ∀ q ∈ c.2.2.1, @LT.lt Nat _ (LA + 1 + 1 + 1) q.1) (stored := []) (P := fun i c => c.2.2.2 = ((rows8 rd).take i).map rowS) (adr := [H]) (c₀ := (vs₀, n₀, [], [])) (news := _ :: _ :: _ :: _ :: (x, instObj 232 d) :: (d, tabDict w td H) :: (l, listOf us.toArray nr) :: own) (by rfl) rgX (by rfl) (by rfl) lF (news_sub lN sub_h4) rfl ?zoff ⟨hT0, (fun _ h => nomatch h), (fun _ h => nomatch h), (fun _ h => nomatch h)⟩ (List.forall_mem_nil _) rfl ?turn ?done
  case zoff =>
    refine fun q hq b hb' => List.mem_singleton.mp hb' ▸ (?zall : ∀ q ∈ _, (q : Addr × Obj).1 ≠ H) q hq
    k_all
  case turn =>
    rintro i t ⟨vs9, n9, T9, rows9⟩ nw u h tk own9 hi8 hsub o1 o2 o3 _ ⟨hTd, hTs, hTo, hTl⟩ hP F9 N9
    dsimp only [kstB] at F9 hTd hTs hTo hP N9
    have hO9 : ∀ q ∈ own ++ (nw ++ own9), q.1 ≠ H := fun q hq => by
      rcases List.mem_append.mp hq with hq | hq
      · exact hO q hq
      rcases List.mem_append.mp hq with hq | hq
      · exact o3 q hq _ (.head _)
      · exact o1 q hq _ (.head _)
    have N9' := news_sub N9 (sub_pull hsub)
    simp only [List.cons_append] at N9'
    clear N9 lF lN
    have hrl : rows9.length ≤ 100 := by rw [hP, List.length_map]; exact Nat.le_trans (List.length_take_le' _ _) (by unfold rows8; rw [List.length_map, List.length_range]; decide)
    have hTd' : TbD T9 vs9 rows9 := hTd
    have hvl9 : vs9.length ≤ 100 := by rw [hTd'.length]; exact hrl
    k_with_none
    k_with "nX" => (first | exact ltA0 ‹_› | exact ltA1 ‹_› | exact ltA2 ‹_› | exact ltA3 ‹_› | exact ltA4 ‹_› | exact ltA5 ‹_› | exact ltA6 ‹_› | exact ltA7 ‹_› | exact ltA8 ‹_› | exact ltA9 ‹_› | exact ltA10 ‹_› | exact ltA11 ‹_› | exact ltA12 ‹_› | exact ltA13 ‹_› | exact neA0 ‹_› | exact neA1 ‹_› | exact neA2 ‹_› | exact neA3 ‹_› | exact neA4 ‹_› | exact neA5 ‹_› | exact neA6 ‹_› | exact neA7 ‹_› | exact neA8 ‹_› | exact neA9 ‹_› | exact neA10 ‹_› | exact neA11 ‹_› | exact neA12 ‹_›)
    k_with "k_ne" => (first | k_extra "nX" | (refine Ne.symm ?_; k_extra "nX"))
    k_with "k_all" => (first | exact List.forall_mem_nil _ | (refine' List.forall_mem_cons.mpr ⟨?zqa, ?zqb⟩; (case zqa => k_ne); (case zqb => k_all)) | assumption | exact al3s ‹_› | exact al0 ‹_› | exact al1 ‹_› | exact al2 ‹_› | exact al3 ‹_› | exact al4 ‹_› | exact al5 ‹_› | exact al6 ‹_› | exact al7 ‹_› | exact al8 ‹_› | exact al9 ‹_› | exact al10 ‹_› | exact al11 ‹_› | exact of2 ‹_›)
    k_with "ent D" => (refine' code_def ?zqk1 ?zqk2 ?zqk3 ?zqk4 ?zqk5 ?zqkA ?zqkF ?zqkK ?zqk6 ?zqk7 ?zqk8 ?zqk9 ?zqkB ?_ ?zqc2 ?zqc3 ?zqc4 ?zqc5; (case zqkA | zqkF => exact rfl); (case zqkK => assumption); (case zqk1 | zqk2 | zqk3 | zqk4 | zqk5 => (k_dflt k_asm)); (case zqk6 | zqk7 => k_is); (case zqk8 => ktr_room); (case zqk9 => first | exact BindsTo.of_eq rfl | exact binds_K (by k_in) rfl (by k_is) rfl rfl rfl); (case zqc5 => decide); (case zqkB => exact locs rfl); (case zqc2 | zqc3 | zqc4 => exact rfl))
    k_with "ent C" => (refine' code_defC ?zqk1 ?zqk2 ?zqk3 ?zqk4 ?zqk5 ?zqkA ?zqkF ?zqkK ?zqk6 ?zqk7 ?zqk8 ?zqk9 ?zqkB ?zqkD ?_ ?zqc2 ?zqc3 ?zqc4; (case zqkA | zqkF => exact rfl); (case zqkK => first | exact rfl | assumption); (case zqk1 | zqk2 | zqk3 | zqk4 | zqk5 => (k_dflt k_asm)); (case zqk6 | zqk7 => k_is); (case zqk8 => ktr_room); (case zqk9 => first | exact BindsTo.of_eq rfl | exact binds_K (by k_in) rfl (by k_is) rfl rfl rfl); (case zqkD => decide +kernel); (case zqkB | zqc2 | zqc3 | zqc4 => exact rfl))
    k_with "k_room" => (ktr_room)
    k_with "w call ref" => (k_here; k_extra "my call")
    k_with "w exec For Name Call cons nil" => (k_here; (rename Fr _ _ _ _ => lF'); (with_unfolding_all refine' For_invVF lF' ?zqk1 ?zqk2 ?_; (case zqk1 => exact rfl); (case zqk2 => exact rfl); k_whole))
    k_with "w eval ListComp" => (k_here; k_extra "comp yes"; k_dflt (first | refine LCg.ListComp_U (F₀ := by k_asm) (by with_unfolding_all rfl) (by decide) (by rfl) (by decide) (by rfl) ?_ | refine LCt.ListComp_T (F₀ := by k_asm) (by with_unfolding_all rfl) (by decide) (by rfl) (by decide) (by rfl) ?_))
    k_with "w exec Assign cons ListComp" => (k_here; k_extra "comp yes"; k_dflt (refine wpAny_Assign_Name ?_))
    k_with "w CompSrc" => (k_extra "halt src"; refine halt ?_)
    k_with "w CompSrcT" => (k_extra "halt src"; refine halt ?_)
    k_with "w call builtin:str.join" => (k_extra "halt join"; refine halt ?_)
    k_with "w call builtin:str.split" => (k_extra "halt split"; refine halt ?_)
    k_with "w subscriptTail Name BinOp ref int" => (k_extra "halt sub"; refine halt ?_)
    k_with "w subscriptTail Name BinOp ref int" => (k_here; k_extra "lit sub")
    k_with "w subscriptTail" => (k_here; k_extra "lit sub")
    k_with "w call builtin:len" => (k_extra "halt len"; refine halt ?_)
    k_with "w subscriptTail Name Slice ref ref" => (k_extra "halt slice"; refine halt ?_)
    k_with "w subscriptTail Subscript BinOp ref int" => (k_extra "halt sub"; refine halt ?_)
    k_with "w call builtin:list.append" => (k_here; k_extra "my append")
    k_with "w subscriptTail" => (k_extra "halt any"; refine halt ?_)
    k_with "w pyIter ref" => (k_extra "halt iter"; refine halt ?_)
    k_with "k_ne" => (first | exact NeH.ne ‹_› | exact Ne.symm (NeH.ne ‹_›))
    k_with "w eval IfExp" => (k_extra "halt if"; refine halt ?_)
    k_with "w exec Expr" => (k_extra "halt stm"; refine halt ?_)
    k_with "my call" => (with_unfolding_all refine' Tell.use (c_addF (x := x) (d := d) (H := H) (td := td) w ?zU ?zx ?zd ?zxH ?zdH ?zT ?zs ?zo ?zn ?zv ?zl) ?k1 ?k2 ?k3 ?k4 ?k5 ?kK trivial ?kd ?ku ?_; (case k1 => (k_dflt k_asm)); (case k2 => (k_dflt k_asm)); (case k3 => (k_dflt k_asm)); (case k4 => (k_dflt k_asm)); (case k5 => (k_dflt k_asm)); (case zU => (k_dflt k_updF)); (case zx => (k_dflt k_mem)); (case zd => (k_dflt k_mem)); (case zxH => exact hoff.1); (case zdH => exact hoff.2.1); (case zT => exact hTd'); (case zs => (intro q hq; repeat (first | exact List.mem_append.mpr (.inr (List.mem_append.mpr (.inl (hTs q hq)))) | refine List.Mem.tail _ ?_))); (case zo => exact hTo); (case zn => exact okName_item hi8); (case zv => exact okVal_mul _); (case zl => exact hrl); (case kK => first | exact rfl | assumption); (case kd => ktr_room); (case ku => ktr_units); intro a9 vs9' n9' o9 hT9 hl9 hne9 r9 h9 tk9 hr9 F9 N9; subst hr9; (have hlt9 := hl9); (try k_lt hl9); (try dsimp only); (try k_fold))
    try k_fold
    refine hideI ?_
    intro Q9 eQ9
    k_steps
    refine eQ9 _ _ ?_
    k_steps
    (rename News _ _ _ _ => nE)
    (rename TbD _ _ (_ ++ [_]) => hT9)
    refine' ls_end (c := (vs9', n9', (a9, o9) :: T9, rows9 ++ [(Txt.item (Str.ofString "ABCDabcd") (0 + (i : Int)), Txt.mul (Str.ofString ".") (1 + (rd.getD i 0).fmod 3))])) (add := [(a9, o9)]) (by assumption) nE hsub o1 o2 o3 ?zhn ?zho rfl ?zhw ?zhb ⟨?zT9, ?zf1, ?zf2, ?zf3⟩ (List.forall_mem_nil _) ?zsame ?zP
    case zhn =>
      intro q hq
      rcases List.mem_cons.mp hq with rfl | hq
      · exact .tail _ (.head _)
      rcases List.mem_cons.mp hq with rfl | hq
      · exact .head _
      · (repeat refine List.Mem.tail _ ?_); exact List.mem_append.mpr (.inr (List.mem_append.mpr (.inl hq)))
    case zho => exact fun q hq => by (repeat refine List.Mem.tail _ ?_); exact List.mem_append.mpr (.inr (List.mem_append.mpr (.inr hq)))
    case zhw =>
      intro q hq p hp
      rw [List.mem_singleton.mp hq]
      exact Nat.ne_of_lt (hlt9 p (by (repeat refine List.Mem.tail _ ?_); exact List.mem_append.mpr (.inr (List.mem_append.mpr (.inr hp)))))
    case zhb =>
      intro q hq b hb
      rw [List.mem_singleton.mp hq, List.mem_singleton.mp hb]
      exact hne9
    case zT9 => (have e0 : ((0 : Int) + (i : Int)).toNat = i := by omega); rw [e0] at hT9; exact hT9
    case zf1 =>
      intro q hq
      rcases List.mem_cons.mp hq with rfl | hq
      · exact List.mem_cons_self
      · exact List.mem_cons_of_mem _ (hTs q hq)
    case zf2 =>
      intro q hq
      rcases List.mem_cons.mp hq with rfl | hq
      · exact hne9
      · exact hTo q hq
    case zf3 =>
      intro q hq
      rcases List.mem_cons.mp hq with rfl | hq
      · exact hlt9 (LA + 1 + 1 + 1, _) (.tail _ (.tail _ (.head _)))
      · exact hTl q hq
    case zsame => kst_same
    case zP => exact rows_next rd hP hi8
  case done =>
    rintro ⟨vs9, n9, T9, rows9⟩ nw u h tk hsub o1 _ ⟨hTd, hTs, hTo, hTl⟩ hP F9 N9
    dsimp only [kstB] at F9 hTd hTs hTo hP N9
    have hTd' : TbD T9 vs9 ((rows8 rd).map rowS) := by
      have : rows9 = (rows8 rd).map rowS := by rw [hP, List.take_of_length_le]; unfold rows8; rw [List.length_map, List.length_range]; exact Nat.le_refl _
      exact this ▸ hTd
    have hO9 : ∀ q ∈ own ++ T9, q.1 ≠ H := fun q hq => by
      rcases List.mem_append.mp hq with hq | hq
      · exact hO q hq
      · exact hTo q hq
    have hO8 : ∀ q ∈ own ++ T9, @Ne Nat q.1 (LA + 1 + 1 + 1) ∧ @Ne Nat q.1 (LA + 1 + 1) := fun q hq => by
      rcases List.mem_append.mp hq with hq | hq
      · have : @LT.lt Nat _ q.1 LA := allLt_all l1A.2.2.2.2 q hq
        constructor <;> omega
      · have := hTl q hq
        constructor <;> omega
    have hvl9 : vs9.length ≤ 100 := by rw [hTd'.length, List.length_map]; unfold rows8; rw [List.length_map, List.length_range]; decide
    have N9' := news_sub N9 (sub_done hsub hTs)
    simp only [List.cons_append] at N9'
    clear N9 lF lN hTd hP
    k_with_none
    k_with "nX" => (first | exact ltA0 ‹_› | exact ltA1 ‹_› | exact ltA2 ‹_› | exact ltA3 ‹_› | exact ltA4 ‹_› | exact ltA5 ‹_› | exact ltA6 ‹_› | exact ltA7 ‹_› | exact ltA8 ‹_› | exact ltA9 ‹_› | exact ltA10 ‹_› | exact ltA11 ‹_› | exact ltA12 ‹_› | exact ltA13 ‹_› | exact neA0 ‹_› | exact neA1 ‹_› | exact neA2 ‹_› | exact neA3 ‹_› | exact neA4 ‹_› | exact neA5 ‹_› | exact neA6 ‹_› | exact neA7 ‹_› | exact neA8 ‹_› | exact neA9 ‹_› | exact neA10 ‹_› | exact neA11 ‹_› | exact neA12 ‹_›)
    k_with "k_ne" => (first | k_extra "nX" | (refine Ne.symm ?_; k_extra "nX"))
    k_with "k_all" => (first | exact List.forall_mem_nil _ | (refine' List.forall_mem_cons.mpr ⟨?zqa, ?zqb⟩; (case zqa => k_ne); (case zqb => k_all)) | assumption | exact al3s ‹_› | exact al0 ‹_› | exact al1 ‹_› | exact al2 ‹_› | exact al3 ‹_› | exact al4 ‹_› | exact al5 ‹_› | exact al6 ‹_› | exact al7 ‹_› | exact al8 ‹_› | exact al9 ‹_› | exact al10 ‹_› | exact al11 ‹_› | exact of2 ‹_›)
    k_with "ent D" => (refine' code_def ?zqk1 ?zqk2 ?zqk3 ?zqk4 ?zqk5 ?zqkA ?zqkF ?zqkK ?zqk6 ?zqk7 ?zqk8 ?zqk9 ?zqkB ?_ ?zqc2 ?zqc3 ?zqc4 ?zqc5; (case zqkA | zqkF => exact rfl); (case zqkK => assumption); (case zqk1 | zqk2 | zqk3 | zqk4 | zqk5 => (k_dflt k_asm)); (case zqk6 | zqk7 => k_is); (case zqk8 => ktr_room); (case zqk9 => first | exact BindsTo.of_eq rfl | exact binds_K (by k_in) rfl (by k_is) rfl rfl rfl); (case zqc5 => decide); (case zqkB => exact locs rfl); (case zqc2 | zqc3 | zqc4 => exact rfl))
    k_with "ent C" => (refine' code_defC ?zqk1 ?zqk2 ?zqk3 ?zqk4 ?zqk5 ?zqkA ?zqkF ?zqkK ?zqk6 ?zqk7 ?zqk8 ?zqk9 ?zqkB ?zqkD ?_ ?zqc2 ?zqc3 ?zqc4; (case zqkA | zqkF => exact rfl); (case zqkK => first | exact rfl | assumption); (case zqk1 | zqk2 | zqk3 | zqk4 | zqk5 => (k_dflt k_asm)); (case zqk6 | zqk7 => k_is); (case zqk8 => ktr_room); (case zqk9 => first | exact BindsTo.of_eq rfl | exact binds_K (by k_in) rfl (by k_is) rfl rfl rfl); (case zqkD => decide +kernel); (case zqkB | zqc2 | zqc3 | zqc4 => exact rfl))
    k_with "k_room" => (ktr_room)
    k_with "w call ref" => (k_here; k_extra "my call")
    k_with "w exec For Name Call cons nil" => (k_here; (rename Fr _ _ _ _ => lF'); (with_unfolding_all refine' For_invVF lF' ?zqk1 ?zqk2 ?_; (case zqk1 => exact rfl); (case zqk2 => exact rfl); k_whole))
    k_with "w eval ListComp" => (k_here; k_extra "comp yes"; k_dflt (first | refine LCg.ListComp_U (F₀ := by k_asm) (by with_unfolding_all rfl) (by decide) (by rfl) (by decide) (by rfl) ?_ | refine LCt.ListComp_T (F₀ := by k_asm) (by with_unfolding_all rfl) (by decide) (by rfl) (by decide) (by rfl) ?_))
    k_with "w exec Assign cons ListComp" => (k_here; k_extra "comp yes"; k_dflt (refine wpAny_Assign_Name ?_))
    k_with "w CompSrc" => (k_extra "halt src"; refine halt ?_)
    k_with "w CompSrcT" => (k_extra "halt src"; refine halt ?_)
    k_with "w call builtin:str.join" => (k_extra "halt join"; refine halt ?_)
    k_with "w call builtin:str.split" => (k_extra "halt split"; refine halt ?_)
    k_with "w subscriptTail Name BinOp ref int" => (k_extra "halt sub"; refine halt ?_)
    k_with "w subscriptTail Name BinOp ref int" => (k_here; k_extra "lit sub")
    k_with "w subscriptTail" => (k_here; k_extra "lit sub")
    k_with "w call builtin:len" => (k_extra "halt len"; refine halt ?_)
    k_with "w subscriptTail Name Slice ref ref" => (k_extra "halt slice"; refine halt ?_)
    k_with "w subscriptTail Subscript BinOp ref int" => (k_extra "halt sub"; refine halt ?_)
    k_with "w call builtin:list.append" => (k_here; k_extra "my append")
    k_with "w subscriptTail" => (k_extra "halt any"; refine halt ?_)
    k_with "w pyIter ref" => (k_extra "halt iter"; refine halt ?_)
    k_with "k_ne" => (first | exact NeH.ne ‹_› | exact Ne.symm (NeH.ne ‹_›))
    k_with "w eval IfExp" => (k_extra "halt if"; refine halt ?_)
    k_with "w exec Expr" => (k_extra "halt stm"; refine halt ?_)
    k_with "halt iter" => skip
    try k_fold
    k_steps
    (rename News _ _ _ _ => lN)
    refine unhalt ?_
    (rename Fr _ _ _ _ => lF)
    (rename IsRange _ _ _ _ _ _ _ _ => rgX2)
    obtain ⟨lg, le, oc1, oc2, oc3, eg, ee, e1, e2, e3⟩ := cells_name lN
    subst eg ee e1 e2 e3
    have hT9W : ∀ q ∈ T9, q ∈ own ++ T9 := fun q hq => List.mem_append.mpr (.inr hq)
    (rename (_ ∧ _ ∧ _ ∧ _ ∧ _ ∧ _ ∧ _ ∧ _ ∧ AllLt lg _) => lgA)
    have hO7 : ∀ q ∈ own ++ T9, @Ne Nat q.1 lg := fun q hq => Nat.ne_of_lt (allLt_all (by first | exact lgA.2.2.2.2.2.2.2.2 | exact lgA.2.2.2.2.2.2.2.2.2) q hq)
    have hO6 : ∀ q ∈ own ++ T9, @Ne Nat q.1 (LA + 1 + 1 + 1) := fun q hq => (hO8 q hq).1
    have hO5 : ∀ q ∈ own ++ T9, @Ne Nat q.1 (LA + 1 + 1) := fun q hq => (hO8 q hq).2
    with_unfolding_all refine' ls_range (σ := TS) (n := 20) (Mu := fun c => [(H, listOf c.vs.toArray c.n), (lg, listOf c.us.toArray c.un), (LA + 1 + 1 + 1, c.o1), (LA + 1 + 1, c.o2)]) (ps := fun _ => []) (Facts := fun nw c => TbD c.T c.vs (c.R.map rowS) ∧ (∀ q ∈ c.T, q ∈ nw) ∧ DatAll nw c.us (c.lg.map entD) ∧ (∃ v, c.o1.data = .cell v) ∧ (∃ v, c.o2.data = .cell v)) (stored := [Str.ofString "may", Str.ofString "number", Str.ofString "picked"]) (P := fun i c => (c.R, c.lg) = runK rd i) (adr := [H, lg, LA + 1 + 1 + 1, LA + 1 + 1]) (c₀ := ⟨vs9, n9, T9, [], 0, oc1, oc2, rows8 rd, []⟩) (news := (le, _) :: (LA + 1, oc3) :: (x, instObj 232 d) :: (d, tabDict w td H) :: (l, listOf us.toArray nr) :: (own ++ T9)) (by rfl) rgX2 (by rfl) (by rfl) lF (news_sub lN sub_six) rfl ?zoff ⟨hTd', (fun q hq => .tail _ (.tail _ (.tail _ (.tail _ (.tail _ (hT9W q hq)))))), .nil, ⟨_, by assumption⟩, ⟨_, by assumption⟩⟩ (List.forall_mem_nil _) rfl ?turn ?done
    case zoff => refine ownOff4 ?a1 ?a2 ?a3 ?a4 <;> k_all
    case turn =>
      rintro i t ⟨vs8, n8, T8, us8, un8, o81, o82, R8, lg8⟩ nw u h tk own9 hi20 hsub o1 o2 o3 _ ⟨hTb, hTs, hDs, ⟨v81, hv81⟩, v82, hv82⟩ hP F9 N9
      dsimp only [kstB] at F9 hTb hTs hDs hv81 hv82 hP N9
      have hR8 : R8 = (runK rd i).1 := congrArg Prod.fst hP
      have hL8 : lg8 = (runK rd i).2 := congrArg Prod.snd hP
      have hul8 : us8.length ≤ 100 := by rw [hDs.length, List.length_map, hL8, runK_len]; omega
      have hgood : goodR R8 := hR8 ▸ runK_good rd i
      have N8 := news_sub N9 (sub_four hsub)
      clear N9 lF lN
      have offA : ∀ q ∈ (own ++ T9) ++ (nw ++ own9), ∀ b ∈ [H, lg, LA + 1 + 1 + 1, LA + 1 + 1], q.1 ≠ b := fun q hq b hb => by
        rcases List.mem_append.mp hq with hq | hq
        · exact o3 q (hsub q (.tail _ (.tail _ (.tail _ (.tail _ (.tail _ hq)))))) b hb
        rcases List.mem_append.mp hq with hq | hq
        · exact o3 q hq b hb
        · exact o1 q hq b hb
      have hW1 : ∀ q ∈ nw, q ∈ (own ++ T9) ++ (nw ++ own9) := fun q hq => List.mem_append.mpr (.inr (List.mem_append.mpr (.inl hq)))
      have hW2 : ∀ q ∈ own9, q ∈ (own ++ T9) ++ (nw ++ own9) := fun q hq => List.mem_append.mpr (.inr (List.mem_append.mpr (.inr hq)))
      generalize (own ++ T9) ++ (nw ++ own9) = W at N8 offA hW1 hW2
      (try simp only [List.cons_append, List.nil_append] at N8)
      have hW3 : ∀ q ∈ T8, q ∈ W := fun q hq => hW1 q (hTs q hq)
      have hDW : DatAll W us8 (lg8.map entD) := hDs.mono hW1
      have q1 : ∀ q ∈ W, @Ne Nat q.1 H := fun q hq => offA q hq H (by simp)
      have q2 : ∀ q ∈ W, @Ne Nat q.1 lg := fun q hq => offA q hq lg (by simp)
      have q3 : ∀ q ∈ W, @Ne Nat q.1 (LA + 1 + 1 + 1) := fun q hq => offA q hq (LA + 1 + 1 + 1) (by simp)
      have q4 : ∀ q ∈ W, @Ne Nat q.1 (LA + 1 + 1) := fun q hq => offA q hq (LA + 1 + 1) (by simp)
      k_with_none
      k_with "nX" => (first | exact ltA0 ‹_› | exact ltA1 ‹_› | exact ltA2 ‹_› | exact ltA3 ‹_› | exact ltA4 ‹_› | exact ltA5 ‹_› | exact ltA6 ‹_› | exact ltA7 ‹_› | exact ltA8 ‹_› | exact ltA9 ‹_› | exact ltA10 ‹_› | exact ltA11 ‹_› | exact ltA12 ‹_› | exact ltA13 ‹_› | exact neA0 ‹_› | exact neA1 ‹_› | exact neA2 ‹_› | exact neA3 ‹_› | exact neA4 ‹_› | exact neA5 ‹_› | exact neA6 ‹_› | exact neA7 ‹_› | exact neA8 ‹_› | exact neA9 ‹_› | exact neA10 ‹_› | exact neA11 ‹_› | exact neA12 ‹_›)
      k_with "k_ne" => (first | k_extra "nX" | (refine Ne.symm ?_; k_extra "nX"))
      k_with "k_all" => (first | exact List.forall_mem_nil _ | (refine' List.forall_mem_cons.mpr ⟨?zqa, ?zqb⟩; (case zqa => k_ne); (case zqb => k_all)) | assumption | exact al3s ‹_› | exact al0 ‹_› | exact al1 ‹_› | exact al2 ‹_› | exact al3 ‹_› | exact al4 ‹_› | exact al5 ‹_› | exact al6 ‹_› | exact al7 ‹_› | exact al8 ‹_› | exact al9 ‹_› | exact al10 ‹_› | exact al11 ‹_› | exact of2 ‹_›)
      k_with "ent D" => (refine' code_def ?zqk1 ?zqk2 ?zqk3 ?zqk4 ?zqk5 ?zqkA ?zqkF ?zqkK ?zqk6 ?zqk7 ?zqk8 ?zqk9 ?zqkB ?_ ?zqc2 ?zqc3 ?zqc4 ?zqc5; (case zqkA | zqkF => exact rfl); (case zqkK => assumption); (case zqk1 | zqk2 | zqk3 | zqk4 | zqk5 => (k_dflt k_asm)); (case zqk6 | zqk7 => k_is); (case zqk8 => ktr_room); (case zqk9 => first | exact BindsTo.of_eq rfl | exact binds_K (by k_in) rfl (by k_is) rfl rfl rfl); (case zqc5 => decide); (case zqkB => exact locs rfl); (case zqc2 | zqc3 | zqc4 => exact rfl))
      k_with "ent C" => (refine' code_defC ?zqk1 ?zqk2 ?zqk3 ?zqk4 ?zqk5 ?zqkA ?zqkF ?zqkK ?zqk6 ?zqk7 ?zqk8 ?zqk9 ?zqkB ?zqkD ?_ ?zqc2 ?zqc3 ?zqc4; (case zqkA | zqkF => exact rfl); (case zqkK => first | exact rfl | assumption); (case zqk1 | zqk2 | zqk3 | zqk4 | zqk5 => (k_dflt k_asm)); (case zqk6 | zqk7 => k_is); (case zqk8 => ktr_room); (case zqk9 => first | exact BindsTo.of_eq rfl | exact binds_K (by k_in) rfl (by k_is) rfl rfl rfl); (case zqkD => decide +kernel); (case zqkB | zqc2 | zqc3 | zqc4 => exact rfl))
      k_with "k_room" => (ktr_room)
      k_with "w call ref" => (k_here; k_extra "my call")
      k_with "w exec For Name Call cons nil" => (k_here; (rename Fr _ _ _ _ => lF'); (with_unfolding_all refine' For_invVF lF' ?zqk1 ?zqk2 ?_; (case zqk1 => exact rfl); (case zqk2 => exact rfl); k_whole))
      k_with "w eval ListComp" => (k_here; k_extra "comp yes"; k_dflt (first | refine LCg.ListComp_U (F₀ := by k_asm) (by with_unfolding_all rfl) (by decide) (by rfl) (by decide) (by rfl) ?_ | refine LCt.ListComp_T (F₀ := by k_asm) (by with_unfolding_all rfl) (by decide) (by rfl) (by decide) (by rfl) ?_))
      k_with "w exec Assign cons ListComp" => (k_here; k_extra "comp yes"; k_dflt (refine wpAny_Assign_Name ?_))
      k_with "w CompSrc" => (k_extra "halt src"; refine halt ?_)
      k_with "w CompSrcT" => (k_extra "halt src"; refine halt ?_)
      k_with "w call builtin:str.join" => (k_extra "halt join"; refine halt ?_)
      k_with "w call builtin:str.split" => (k_extra "halt split"; refine halt ?_)
      k_with "w subscriptTail Name BinOp ref int" => (k_extra "halt sub"; refine halt ?_)
      k_with "w subscriptTail Name BinOp ref int" => (k_here; k_extra "lit sub")
      k_with "w subscriptTail" => (k_here; k_extra "lit sub")
      k_with "w call builtin:len" => (k_extra "halt len"; refine halt ?_)
      k_with "w subscriptTail Name Slice ref ref" => (k_extra "halt slice"; refine halt ?_)
      k_with "w subscriptTail Subscript BinOp ref int" => (k_extra "halt sub"; refine halt ?_)
      k_with "w call builtin:list.append" => (k_here; k_extra "my append")
      k_with "w subscriptTail" => (k_extra "halt any"; refine halt ?_)
      k_with "w pyIter ref" => (k_extra "halt iter"; refine halt ?_)
      k_with "k_ne" => (first | exact NeH.ne ‹_› | exact Ne.symm (NeH.ne ‹_›))
      k_with "w eval IfExp" => (k_extra "halt if"; refine halt ?_)
      k_with "w exec Expr" => (k_extra "halt stm"; refine halt ?_)
      k_with "comp yes" => skip
      k_with "halt src" => skip
      obtain ⟨ka, kb, kc, kd, ma, mb9, mc, md, hheld, ga, gb, gc, gd9⟩ := hgood.held
      have hRl : R8.length ≤ 100 := Nat.le_trans hgood.len (by decide)
      have hTbW : TbD W vs8 (R8.map rowS) := ⟨hTb.dat.mono hW3, hTb.len⟩
      refine hideI ?_
      intro Q9 eQ9
      k_steps
      (rename IsRange _ _ _ _ _ _ _ _ => rgH)
      refine unhalt ?_
      refine' LCg.CompSrc.range (by rfl) (by k_asm) (by k_asm) rgH (by rfl) (by rfl) (by decide) ?_
      intro g9
      refine comp_inv (fun i ys nw => nw = _ ∧ DatAll [] ys ((heldK R8).take i |>.map fun k => .str (dotS k))) 4 ?_ ?_ _ 0 [] _ (by rfl) ⟨rfl, .nil⟩
      · rintro j v I oI Cn oC D m₂ h tk ys nw9 E' hj ⟨tj, rfl⟩ ⟨rfl, hys⟩ ho hx F9 N9 off9 ne9
        k_with "my call" => (with_unfolding_all refine' Tell.use (c_getN (x := x) (d := d) (H := H) (td := td) (R := R8) (j := j) w ?zH ?zx ?zd ?zT hgood hj rfl) ?k1 ?k2 ?k3 ?k4 ?k5 ?kK trivial ?kd ?ku ?_; (case k1 => (k_dflt k_asm)); (case k2 => (k_dflt k_asm)); (case k3 => (k_dflt k_asm)); (case k4 => (k_dflt k_asm)); (case k5 => (k_dflt k_asm)); (case zH => (k_dflt k_mem)); (case zx => (k_dflt k_mem)); (case zd => (k_dflt k_mem)); (case zT => exact hTbW.more (fun q hq => by (repeat refine List.Mem.tail _ ?_); exact hq)); (case kK => first | exact rfl | assumption); (case kd => ktr_room); (case ku => ktr_units); intro r9 h9 tk9 hr9 F9 N9; obtain ⟨t9, hr9⟩ := hr9; subst hr9; (try dsimp only); (try k_fold))
        k_steps
        refine LCg.CompEnd.intro (by k_asm) (by assumption) _ ?sub off9 trivial ⟨rfl, ?hd⟩
        case sub => kqd_sub
        case hd => rw [take_held hj, List.map_append]; exact hys.append (.cons (.str _ _) .nil)
      · rintro ys nw9 ⟨rfl, hys⟩
        have e4 : (heldK R8).take 4 = heldK R8 := List.take_of_length_le (Nat.le_refl 4)
        rw [e4, hheld] at hys
        k_with "halt sub" => skip
        k_steps
        (rename (_ ≠ _ ∧ _) => oCoa)
        obtain ⟨oa1, oa2, oa3, oa4, oa5, oa6, oa7, oa8, oa9, oaO⟩ := oCoa
        replace oa1 := NeH.mk oa1
        replace oa2 := NeH.mk oa2
        replace oa3 := NeH.mk oa3
        replace oa4 := NeH.mk oa4
        replace oa5 := NeH.mk oa5
        replace oa6 := NeH.mk oa6
        replace oa7 := NeH.mk oa7
        replace oa8 := NeH.mk oa8
        replace oa9 := NeH.mk oa9
        refine unhalt ?_
        refine' kd_item (L9 := []) (ds := ends3D) (by assumption) (by k_mem) (.cons (.str _ _) (.cons (.str _ _) (.cons (.str _ _) .nil))) ?i0 ?i1 ?i2 ?_ (by with_unfolding_all rfl)
        case i0 => exact Int.fmod_nonneg_of_pos _ (by decide)
        case i1 => exact Int.fmod_lt_of_pos _ (by decide)
        case i2 => exact Int.lt_trans (Int.fmod_lt_of_pos _ (by decide)) (by decide)
        intro v9 dd9 _ hd9 hv9
        obtain ⟨e, he, rfl⟩ := ends3_of hd9
        cases hv9
        try k_fold
        k_with "halt join" => skip
        k_with "halt split" => skip
        k_steps
        refine unhalt ?_
        refine' join_listW (ys := [ka, kb, kc, kd].map dotS) ?j1 (strs_dots hys) (ends3_len e he) (join_wt ka ma kb mb9 kc mc kd md) ?_
        case j1 => exact News.isList (by k_asm) (by k_mem)
        intro _ _
        have hq9 := quote_all (three_or ka ma) (three_or kb mb9) (three_or kc mc) (three_or kd md) he
        try k_fold
        k_with "my call" => (with_unfolding_all refine' Tell.use (c_quote w _ _ _ _ hq9) ?k1 ?k2 ?k3 ?k4 ?k5 ?kK trivial ?kd ?ku ?_; (case k1 => (k_dflt k_asm)); (case k2 => (k_dflt k_asm)); (case k3 => (k_dflt k_asm)); (case k4 => (k_dflt k_asm)); (case k5 => (k_dflt k_asm)); (case kK => first | exact rfl | assumption); (case kd => ktr_room); (case ku => ktr_units); intro r9 h9 tk9 hr9 F9 N9; obtain ⟨t9, hr9⟩ := hr9; subst hr9; (try dsimp only); (try k_fold))
        k_steps
        refine unhalt ?_
        have hs9 := of_decide_eq_true (split_all ka ma kb mb9 kc mc kd md)
        refine' KSpl.split1 (by k_asm) (by k_asm) (by decide) ?_ hs9.2
        intro D9 l9 h9 k9 el9 al9 F9 N9 l1
        rw [show Txt.split (Txt.join crlf [dotS (ka + 1), dotS (kb + 1), dotS (kc + 1), dotS (kd + 1)]) (Str.ofString "\r\n") = _ from hs9.1] at el9
        rw [el9] at al9
        generalize strValues l9 = wv at al9 N9
        have hw4 : wv.length = 4 := al9.length
        k_lt l1
        try k_fold
        k_steps
        refine unhalt ?_

        refine LCg.CompSrc.ledger (by rfl) (by k_asm) (by k_asm) (by k_mem) ?hsz ?_
        case hsz => rw [List.size_toArray, hw4]; decide
        intro g8
        refine comp_inv (fun i ys nw => nw = _ ∧ DatAll [] ys ((heldK R8).take i |>.map fun k => .str (dotS (up k)))) _ ?_ ?_ _ 0 [] _ (Nat.zero_add _) ⟨rfl, .nil⟩
        · rintro j v I oI Cn oC D m₂ h tk ys nw9 E' hj hv ⟨rfl, hys8⟩ ho hx F9 N9 off9 ne9
          obtain ⟨hj4, tj, rfl⟩ := strs_at al9 hv
          obtain ⟨k9, hk9, hg9, hdot⟩ := four_at (a := ka) (b := kb) (c := kc) (d := kd) hj4 ma mb9 mc md
          rw [hdot] at hx
          clear hdot
          rcases three_or k9 hk9 with rfl | rfl | rfl
          · rw [dot_lit.1] at hx
            k_steps
            refine LCg.CompEnd.intro (by k_asm) (by assumption) _ ?subA off9 (by first | trivial | exact Or.inr ⟨_, by k_mem, rfl, _, rfl⟩) ⟨rfl, ?hdA⟩
            case subA => kqd_sub
            case hdA => rw [take_held hj4, List.map_append, hheld, hg9]; exact (hheld ▸ hys8).append (.cons (.str _ _) .nil)
          · rw [dot_lit.2.1] at hx
            k_steps
            refine LCg.CompEnd.intro (by k_asm) (by assumption) _ ?subB off9 (by first | trivial | exact Or.inr ⟨_, by k_mem, rfl, _, rfl⟩) ⟨rfl, ?hdB⟩
            case subB => kqd_sub
            case hdB => rw [take_held hj4, List.map_append, hheld, hg9]; exact (hheld ▸ hys8).append (.cons (.str _ _) .nil)
          · rw [dot_lit.2.2] at hx
            k_steps
            refine LCg.CompEnd.intro (by k_asm) (by assumption) _ ?subC off9 (by first | trivial | exact Or.inr ⟨_, by k_mem, rfl, _, rfl⟩) ⟨rfl, ?hdC⟩
            case subC => kqd_sub
            case hdC => rw [take_held hj4, List.map_append, hheld, hg9]; exact (hheld ▸ hys8).append (.cons (.str _ _) .nil)
        · rintro ys9 nw9 ⟨rfl, hys9⟩
          rw [show (heldK R8).take wv.toArray.size = heldK R8 from by rw [List.size_toArray, hw4]; rfl, hheld] at hys9
          have hup9 := strs_dots (ks := [ka, kb, kc, kd].map up) (by rw [List.map_map]; exact hys9)
          have hst9 := strs_dots hys
          obtain ⟨x1, x2, x3, x4, rfl⟩ := strs_four hst9
          obtain ⟨z1, z2, z3, z4, rfl⟩ := strs_four hup9
          k_steps
          (rename (_ ≠ _ ∧ _) => oCob)
          obtain ⟨ob1, ob2, ob3, ob4, ob5, ob6, ob7, ob8, ob9, ob10, ob11, obO⟩ := oCob
          replace ob1 := NeH.mk ob1
          replace ob2 := NeH.mk ob2
          replace ob3 := NeH.mk ob3
          replace ob4 := NeH.mk ob4
          replace ob5 := NeH.mk ob5
          replace ob6 := NeH.mk ob6
          replace ob7 := NeH.mk ob7
          replace ob8 := NeH.mk ob8
          replace ob9 := NeH.mk ob9
          replace ob10 := NeH.mk ob10
          replace ob11 := NeH.mk ob11
          refine unhalt ?_
          (rename IsRange _ _ _ _ _ _ _ _ => rgM)
          refine' LCt.CompSrcT.range (by rfl) (by k_asm) (by k_asm) rgM (by rfl) (by rfl) (by decide) ?_
          intro g7
          refine comp_invT (fun i ys nw => nw = _ ∧ IntsAre ys (((List.range i).filter (mayP [ka, kb, kc, kd])).map fun (q : Nat) => (q : Int))) 4 ?_ ?_ _ 0 [] _ (by rfl) ⟨rfl, .nil⟩
          · rintro j v I oI Cn oC D m₂ h tk ys nw9 E' hj ⟨tj, rfl⟩ ⟨rfl, hysM⟩ ho hx F9 N9 off9 ne9
            have hj4 : j = 0 ∨ j = 1 ∨ j = 2 ∨ j = 3 := four_cases (by assumption)
            have hm0 : (dotS (up kd) == dotS (up ka)) = mayP [ka, kb, kc, kd] 0 := dotS_beq _ (up_three kd md) _ (up_three ka ma)
            have hm1 : (dotS (up ka) != dotS kb) = mayP [ka, kb, kc, kd] 1 := congrArg (!·) (dotS_beq _ (up_three ka ma) _ mb9)
            have hm2 : (dotS (up kb) != dotS kc) = mayP [ka, kb, kc, kd] 2 := congrArg (!·) (dotS_beq _ (up_three kb mb9) _ mc)
            have hm3 : (dotS (up kc) != dotS kd) = mayP [ka, kb, kc, kd] 3 := congrArg (!·) (dotS_beq _ (up_three kc mc) _ md)
            k_with "halt sub" => fail ""
            k_with "lit sub" => (k_dflt (refine' lit_item ?l1 ?l2 ?l3 ?l4 ?l5 ?_ ?l6); (case l1 => (k_dflt k_asm)); (case l2 => (k_dflt k_mem)); (case l3 => decide); (case l4 => decide); (case l5 => (with_unfolding_all exact rfl)); (case l6 => with_unfolding_all rfl); (try k_fold))
            rcases hj4 with rfl | rfl | rfl | rfl
            · k_steps
              · (rename @Eq Bool _ true => hc)
                refine LCg.CompEnd.intro (by k_asm) (by assumption) _ ?subY0 off9 trivial ⟨rfl, may_yes (hm0 ▸ hc) hysM⟩
                kqd_sub
              · (rename @Eq Bool _ false => hc)
                refine LCg.CompEnd.intro (by k_asm) (by assumption) _ ?subN0 off9 trivial ⟨rfl, may_no (hm0 ▸ hc) hysM⟩
                kqd_sub
            · k_steps
              · (rename @Eq Bool _ true => hc)
                refine LCg.CompEnd.intro (by k_asm) (by assumption) _ ?subY1 off9 trivial ⟨rfl, may_yes (hm1 ▸ hc) hysM⟩
                kqd_sub
              · (rename @Eq Bool _ false => hc)
                refine LCg.CompEnd.intro (by k_asm) (by assumption) _ ?subN1 off9 trivial ⟨rfl, may_no (hm1 ▸ hc) hysM⟩
                kqd_sub
            · k_steps
              · (rename @Eq Bool _ true => hc)
                refine LCg.CompEnd.intro (by k_asm) (by assumption) _ ?subY2 off9 trivial ⟨rfl, may_yes (hm2 ▸ hc) hysM⟩
                kqd_sub
              · (rename @Eq Bool _ false => hc)
                refine LCg.CompEnd.intro (by k_asm) (by assumption) _ ?subN2 off9 trivial ⟨rfl, may_no (hm2 ▸ hc) hysM⟩
                kqd_sub
            · k_steps
              · (rename @Eq Bool _ true => hc)
                refine LCg.CompEnd.intro (by k_asm) (by assumption) _ ?subY3 off9 trivial ⟨rfl, may_yes (hm3 ▸ hc) hysM⟩
                kqd_sub
              · (rename @Eq Bool _ false => hc)
                refine LCg.CompEnd.intro (by k_asm) (by assumption) _ ?subN3 off9 trivial ⟨rfl, may_no (hm3 ▸ hc) hysM⟩
                kqd_sub
          · rintro ysM nwM ⟨rfl, hysM⟩
            have hysM' : IntsAre ysM ((mayK [ka, kb, kc, kd]).map fun (q : Nat) => (q : Int)) := hysM
            clear hysM
            have hMne : mayK [ka, kb, kc, kd] ≠ [] := mayK_ne ka ma kb mb9 kc mc kd md
            have hMlen : 0 < (mayK [ka, kb, kc, kd]).length := List.length_pos_iff.mpr hMne
            k_with "halt sub" => skip
            k_steps
            (rename (_ ≠ _ ∧ _) => oCoc)
            obtain ⟨oc1, oc2, oc3, oc4, oc5, oc6, oc7, oc8, oc9, oc10, oc11, oc12, ocO⟩ := oCoc
            replace oc1 := NeH.mk oc1
            replace oc2 := NeH.mk oc2
            replace oc3 := NeH.mk oc3
            replace oc4 := NeH.mk oc4
            replace oc5 := NeH.mk oc5
            replace oc6 := NeH.mk oc6
            replace oc7 := NeH.mk oc7
            replace oc8 := NeH.mk oc8
            replace oc9 := NeH.mk oc9
            replace oc10 := NeH.mk oc10
            replace oc11 := NeH.mk oc11
            replace oc12 := NeH.mk oc12
            refine unhalt ?_
            obtain ⟨num, hnum⟩ : ∃ num, rd.getD (i % 9) 0 = num := ⟨_, rfl⟩
            refine' ints_item (rd := rd) (v := num) (by k_asm) (by k_mem) hi ?i3 ?i4 ?i5 ?i6 ?_ (by with_unfolding_all rfl)
            case i3 => exact Int.fmod_nonneg_of_pos _ (by decide)
            case i4 => rw [hlen]; exact Int.lt_trans (Int.fmod_lt_of_pos _ (by decide)) (by decide)
            case i5 => exact Int.lt_trans (Int.fmod_lt_of_pos _ (by decide)) (by decide)
            case i6 => rw [fmod9 i]; exact hnum
            intro tn9
            k_with "my call" => (k_dflt (first | refine' Tell.use (c_isterm w _ _ _) ?k1 ?k2 ?k3 ?k4 ?k5 ?kK trivial ?kd ?ku ?_ | refine' Tell.use (c_isnont w _ _ _) ?k1 ?k2 ?k3 ?k4 ?k5 ?kK trivial ?kd ?ku ?_); (case k1 => k_asm); (case k2 => k_asm); (case k3 => k_asm); (case k4 => k_asm); (case k5 => k_asm); (case kK => first | exact rfl | assumption); (case kd => ktr_room); (case ku => ktr_units); intro r9 h9 tk9 hr9 F9 N9; subst hr9; (try dsimp only); (try k_fold))
            k_with "halt len" => skip
            k_with "halt slice" => skip
            have hMl9 : ysM.length = (mayK [ka, kb, kc, kd]).length := by rw [hysM'.length, List.length_map]
            have hM4 : (mayK [ka, kb, kc, kd]).length ≤ 4 := Nat.le_trans (List.length_filter_le _ _) (by decide)
            obtain ⟨q, hq⟩ : ∃ q, pickK num (mayK [ka, kb, kc, kd]) = q := ⟨_, rfl⟩
            have hq4 : q < 4 := hq ▸ mayK_lt _ _ (pickK_mem num hMne)
            have hk3 : up ([ka, kb, kc, kd].getD ((q + 3) % 4) 0) ∈ three := up_three _ (three_getD ka ma kb mb9 kc mc kd md _ (lt4 (Nat.mod_lt _ (by decide))))
            have hstep : stepK rd i R8 = setR R8 (letK i q) (up ([ka, kb, kc, kd].getD ((q + 3) % 4) 0)) := by unfold stepK; rw [hnum, hheld, hq]
            have hent : entK rd i R8 = ([ka, kb, kc, kd], mayK [ka, kb, kc, kd], q) := by unfold entK; rw [hnum, hheld, hq]
            refine' fork ?zj ?zb
            case zb =>
              intro jn
              by_cases hn : num < 256
              · skip
                k_steps
                refine unhalt ?_
                refine' len_list2 (k := (mayK [ka, kb, kc, kd]).length) (by k_asm) (by k_mem) hMl9 (by omega) ?_
                try k_fold
                k_steps
                refine unhalt ?_
                refine' ints_item (v := (q : Int)) (by k_asm) (by k_mem) hysM' ?i3 ?i4 ?i5 ?i6 ?_ (by with_unfolding_all rfl)
                case i3 => exact Int.fmod_nonneg_of_pos _ (by omega)
                case i4 => rw [List.length_map]; exact Int.fmod_lt_of_pos _ (by omega)
                case i5 => exact Int.lt_of_lt_of_le (Int.fmod_lt_of_pos _ (by omega)) (by omega)
                case i6 => rw [pick_lt hn hMlen, hq]
                intro tq
                try k_fold
                k_with "halt stm" => skip
                k_steps
                (rename Fr _ _ _ _ => lF)
                (rename News _ _ _ _ => lN)
                refine unhalt ?_
                (try dsimp only)
                refine toks_var ?_
                intro tkz
                have jn' := jn _ tkz tq lF lN
                exact jn'
              · skip
                k_with_none
                k_with "nX" => (first | exact ltA0 ‹_› | exact ltA1 ‹_› | exact ltA2 ‹_› | exact ltA3 ‹_› | exact ltA4 ‹_› | exact ltA5 ‹_› | exact ltA6 ‹_› | exact ltA7 ‹_› | exact ltA8 ‹_› | exact ltA9 ‹_› | exact ltA10 ‹_› | exact ltA11 ‹_› | exact ltA12 ‹_› | exact ltA13 ‹_› | exact neA0 ‹_› | exact neA1 ‹_› | exact neA2 ‹_› | exact neA3 ‹_› | exact neA4 ‹_› | exact neA5 ‹_› | exact neA6 ‹_› | exact neA7 ‹_› | exact neA8 ‹_› | exact neA9 ‹_› | exact neA10 ‹_› | exact neA11 ‹_› | exact neA12 ‹_›)
                k_with "k_ne" => (first | k_extra "nX" | (refine Ne.symm ?_; k_extra "nX"))
                k_with "k_all" => (first | exact List.forall_mem_nil _ | (refine' List.forall_mem_cons.mpr ⟨?zqa, ?zqb⟩; (case zqa => k_ne); (case zqb => k_all)) | assumption | exact al3s ‹_› | exact al0 ‹_› | exact al1 ‹_› | exact al2 ‹_› | exact al3 ‹_› | exact al4 ‹_› | exact al5 ‹_› | exact al6 ‹_› | exact al7 ‹_› | exact al8 ‹_› | exact al9 ‹_› | exact al10 ‹_› | exact al11 ‹_› | exact of2 ‹_›)
                k_with "ent D" => (refine' code_def ?zqk1 ?zqk2 ?zqk3 ?zqk4 ?zqk5 ?zqkA ?zqkF ?zqkK ?zqk6 ?zqk7 ?zqk8 ?zqk9 ?zqkB ?_ ?zqc2 ?zqc3 ?zqc4 ?zqc5; (case zqkA | zqkF => exact rfl); (case zqkK => assumption); (case zqk1 | zqk2 | zqk3 | zqk4 | zqk5 => (k_dflt k_asm)); (case zqk6 | zqk7 => k_is); (case zqk8 => ktr_room); (case zqk9 => first | exact BindsTo.of_eq rfl | exact binds_K (by k_in) rfl (by k_is) rfl rfl rfl); (case zqc5 => decide); (case zqkB => exact locs rfl); (case zqc2 | zqc3 | zqc4 => exact rfl))
                k_with "ent C" => (refine' code_defC ?zqk1 ?zqk2 ?zqk3 ?zqk4 ?zqk5 ?zqkA ?zqkF ?zqkK ?zqk6 ?zqk7 ?zqk8 ?zqk9 ?zqkB ?zqkD ?_ ?zqc2 ?zqc3 ?zqc4; (case zqkA | zqkF => exact rfl); (case zqkK => first | exact rfl | assumption); (case zqk1 | zqk2 | zqk3 | zqk4 | zqk5 => (k_dflt k_asm)); (case zqk6 | zqk7 => k_is); (case zqk8 => ktr_room); (case zqk9 => first | exact BindsTo.of_eq rfl | exact binds_K (by k_in) rfl (by k_is) rfl rfl rfl); (case zqkD => decide +kernel); (case zqkB | zqc2 | zqc3 | zqc4 => exact rfl))
                k_with "k_room" => (ktr_room)
                k_with "w call ref" => (k_here; k_extra "my call")
                k_with "w exec For Name Call cons nil" => (k_here; (rename Fr _ _ _ _ => lF'); (with_unfolding_all refine' For_invVF lF' ?zqk1 ?zqk2 ?_; (case zqk1 => exact rfl); (case zqk2 => exact rfl); k_whole))
                k_with "w eval ListComp" => (k_here; k_extra "comp yes"; k_dflt (first | refine LCg.ListComp_U (F₀ := by k_asm) (by with_unfolding_all rfl) (by decide) (by rfl) (by decide) (by rfl) ?_ | refine LCt.ListComp_T (F₀ := by k_asm) (by with_unfolding_all rfl) (by decide) (by rfl) (by decide) (by rfl) ?_))
                k_with "w exec Assign cons ListComp" => (k_here; k_extra "comp yes"; k_dflt (refine wpAny_Assign_Name ?_))
                k_with "w CompSrc" => (k_extra "halt src"; refine halt ?_)
                k_with "w CompSrcT" => (k_extra "halt src"; refine halt ?_)
                k_with "w call builtin:str.join" => (k_extra "halt join"; refine halt ?_)
                k_with "w call builtin:str.split" => (k_extra "halt split"; refine halt ?_)
                k_with "w subscriptTail Name BinOp ref int" => (k_extra "halt sub"; refine halt ?_)
                k_with "w subscriptTail Name BinOp ref int" => (k_here; k_extra "lit sub")
                k_with "w subscriptTail" => (k_here; k_extra "lit sub")
                k_with "w call builtin:len" => (k_extra "halt len"; refine halt ?_)
                k_with "w subscriptTail Name Slice ref ref" => (k_extra "halt slice"; refine halt ?_)
                k_with "w subscriptTail Subscript BinOp ref int" => (k_extra "halt sub"; refine halt ?_)
                k_with "w call builtin:list.append" => (k_here; k_extra "my append")
                k_with "w subscriptTail" => (k_extra "halt any"; refine halt ?_)
                k_with "w pyIter ref" => (k_extra "halt iter"; refine halt ?_)
                k_with "k_ne" => (first | exact NeH.ne ‹_› | exact Ne.symm (NeH.ne ‹_›))
                k_with "w eval IfExp" => (k_extra "halt if"; refine halt ?_)
                k_with "w exec Expr" => (k_extra "halt stm"; refine halt ?_)
                k_with "halt sub" => skip
                k_with "halt len" => skip
                k_with "halt slice" => skip
                k_with "halt any" => skip
                k_with "my call" => (k_dflt (first | refine' Tell.use (c_isterm w _ _ _) ?k1 ?k2 ?k3 ?k4 ?k5 ?kK trivial ?kd ?ku ?_ | refine' Tell.use (c_isnont w _ _ _) ?k1 ?k2 ?k3 ?k4 ?k5 ?kK trivial ?kd ?ku ?_); (case k1 => k_asm); (case k2 => k_asm); (case k3 => k_asm); (case k4 => k_asm); (case k5 => k_asm); (case kK => first | exact rfl | assumption); (case kd => ktr_room); (case ku => ktr_units); intro r9 h9 tk9 hr9 F9 N9; subst hr9; (try dsimp only); (try k_fold))
                k_steps
                refine unhalt ?_
                refine' krv_ints (by k_asm) (by k_asm) (News.isList (by k_asm) (by k_mem)) (IsPart.int _ _) hysM' ?_ (by with_unfolding_all rfl) (by kmk_pure) ?z
                case z => rw [List.size_toArray, hMl9]; exact Nat.le_trans hM4 (by decide)
                intro Drv wsr hrv F9 N9 l1r hirev hcrev
                k_lt l1r
                try k_fold
                k_steps
                refine unhalt ?_
                refine' len_list2 (k := (mayK [ka, kb, kc, kd]).length) (by k_asm) (by k_mem) hMl9 (by omega) ?_
                try k_fold
                k_steps
                refine unhalt ?_
                refine' ints_item (v := (q : Int)) (by k_asm) (by k_mem) hirev ?i3 ?i4 ?i5 ?i6 ?_ (by with_unfolding_all rfl)
                case i3 => exact Int.fmod_nonneg_of_pos _ (by omega)
                case i4 => rw [List.length_reverse, List.length_map]; exact Int.fmod_lt_of_pos _ (by omega)
                case i5 => exact Int.lt_of_lt_of_le (Int.fmod_lt_of_pos _ (by omega)) (by omega)
                case i6 => rw [pick_ge hn hMlen, hq]
                intro tq
                try k_fold
                k_with "halt stm" => skip
                k_steps
                (rename Fr _ _ _ _ => lF)
                (rename News _ _ _ _ => lN)
                refine unhalt ?_
                (try dsimp only)
                refine toks_var ?_
                intro tkz
                have jn' := jn _ tkz tq lF (news_sub lN (by kqd_sub))
                exact jn'
            case zj =>
              intro h8 tk8 tq F8 N8
              (try dsimp only)
              try k_fold
              k_with_none
              k_with "nX" => (first | exact ltA0 ‹_› | exact ltA1 ‹_› | exact ltA2 ‹_› | exact ltA3 ‹_› | exact ltA4 ‹_› | exact ltA5 ‹_› | exact ltA6 ‹_› | exact ltA7 ‹_› | exact ltA8 ‹_› | exact ltA9 ‹_› | exact ltA10 ‹_› | exact ltA11 ‹_› | exact ltA12 ‹_› | exact ltA13 ‹_› | exact neA0 ‹_› | exact neA1 ‹_› | exact neA2 ‹_› | exact neA3 ‹_› | exact neA4 ‹_› | exact neA5 ‹_› | exact neA6 ‹_› | exact neA7 ‹_› | exact neA8 ‹_› | exact neA9 ‹_› | exact neA10 ‹_› | exact neA11 ‹_› | exact neA12 ‹_›)
              k_with "k_ne" => (first | k_extra "nX" | (refine Ne.symm ?_; k_extra "nX"))
              k_with "k_all" => (first | exact List.forall_mem_nil _ | (refine' List.forall_mem_cons.mpr ⟨?zqa, ?zqb⟩; (case zqa => k_ne); (case zqb => k_all)) | assumption | exact al3s ‹_› | exact al0 ‹_› | exact al1 ‹_› | exact al2 ‹_› | exact al3 ‹_› | exact al4 ‹_› | exact al5 ‹_› | exact al6 ‹_› | exact al7 ‹_› | exact al8 ‹_› | exact al9 ‹_› | exact al10 ‹_› | exact al11 ‹_› | exact of2 ‹_›)
              k_with "ent D" => (refine' code_def ?zqk1 ?zqk2 ?zqk3 ?zqk4 ?zqk5 ?zqkA ?zqkF ?zqkK ?zqk6 ?zqk7 ?zqk8 ?zqk9 ?zqkB ?_ ?zqc2 ?zqc3 ?zqc4 ?zqc5; (case zqkA | zqkF => exact rfl); (case zqkK => assumption); (case zqk1 | zqk2 | zqk3 | zqk4 | zqk5 => (k_dflt k_asm)); (case zqk6 | zqk7 => k_is); (case zqk8 => ktr_room); (case zqk9 => first | exact BindsTo.of_eq rfl | exact binds_K (by k_in) rfl (by k_is) rfl rfl rfl); (case zqc5 => decide); (case zqkB => exact locs rfl); (case zqc2 | zqc3 | zqc4 => exact rfl))
              k_with "ent C" => (refine' code_defC ?zqk1 ?zqk2 ?zqk3 ?zqk4 ?zqk5 ?zqkA ?zqkF ?zqkK ?zqk6 ?zqk7 ?zqk8 ?zqk9 ?zqkB ?zqkD ?_ ?zqc2 ?zqc3 ?zqc4; (case zqkA | zqkF => exact rfl); (case zqkK => first | exact rfl | assumption); (case zqk1 | zqk2 | zqk3 | zqk4 | zqk5 => (k_dflt k_asm)); (case zqk6 | zqk7 => k_is); (case zqk8 => ktr_room); (case zqk9 => first | exact BindsTo.of_eq rfl | exact binds_K (by k_in) rfl (by k_is) rfl rfl rfl); (case zqkD => decide +kernel); (case zqkB | zqc2 | zqc3 | zqc4 => exact rfl))
              k_with "k_room" => (ktr_room)
              k_with "w call ref" => (k_here; k_extra "my call")
              k_with "w exec For Name Call cons nil" => (k_here; (rename Fr _ _ _ _ => lF'); (with_unfolding_all refine' For_invVF lF' ?zqk1 ?zqk2 ?_; (case zqk1 => exact rfl); (case zqk2 => exact rfl); k_whole))
              k_with "w eval ListComp" => (k_here; k_extra "comp yes"; k_dflt (first | refine LCg.ListComp_U (F₀ := by k_asm) (by with_unfolding_all rfl) (by decide) (by rfl) (by decide) (by rfl) ?_ | refine LCt.ListComp_T (F₀ := by k_asm) (by with_unfolding_all rfl) (by decide) (by rfl) (by decide) (by rfl) ?_))
              k_with "w exec Assign cons ListComp" => (k_here; k_extra "comp yes"; k_dflt (refine wpAny_Assign_Name ?_))
              k_with "w CompSrc" => (k_extra "halt src"; refine halt ?_)
              k_with "w CompSrcT" => (k_extra "halt src"; refine halt ?_)
              k_with "w call builtin:str.join" => (k_extra "halt join"; refine halt ?_)
              k_with "w call builtin:str.split" => (k_extra "halt split"; refine halt ?_)
              k_with "w subscriptTail Name BinOp ref int" => (k_extra "halt sub"; refine halt ?_)
              k_with "w subscriptTail Name BinOp ref int" => (k_here; k_extra "lit sub")
              k_with "w subscriptTail" => (k_here; k_extra "lit sub")
              k_with "w call builtin:len" => (k_extra "halt len"; refine halt ?_)
              k_with "w subscriptTail Name Slice ref ref" => (k_extra "halt slice"; refine halt ?_)
              k_with "w subscriptTail Subscript BinOp ref int" => (k_extra "halt sub"; refine halt ?_)
              k_with "w call builtin:list.append" => (k_here; k_extra "my append")
              k_with "w subscriptTail" => (k_extra "halt any"; refine halt ?_)
              k_with "w pyIter ref" => (k_extra "halt iter"; refine halt ?_)
              k_with "k_ne" => (first | exact NeH.ne ‹_› | exact Ne.symm (NeH.ne ‹_›))
              k_with "w eval IfExp" => (k_extra "halt if"; refine halt ?_)
              k_with "w exec Expr" => (k_extra "halt stm"; refine halt ?_)
              k_with "halt sub" => skip
              k_with "my append" => ((with_reducible show wpAny _ _ (call (Value.builtin _) [Value.ref _, _]) _ _ _); (k_dflt (refine' append_K ?k1 ?k2 ?k3 ?_ ?z; (case k1 => k_asm); (case k2 => k_asm); (case k3 => k_upd); (case z => size_fits); k_whole)); intro h' F' N'; (try k_fold))
              k_steps
              refine unhalt ?_
              refine' rows_item (by k_asm) (by k_mem) hq4 ?_ (by with_unfolding_all rfl)
              intro tr
              try k_fold
              k_with_none
              k_with "nX" => (first | exact ltA0 ‹_› | exact ltA1 ‹_› | exact ltA2 ‹_› | exact ltA3 ‹_› | exact ltA4 ‹_› | exact ltA5 ‹_› | exact ltA6 ‹_› | exact ltA7 ‹_› | exact ltA8 ‹_› | exact ltA9 ‹_› | exact ltA10 ‹_› | exact ltA11 ‹_› | exact ltA12 ‹_› | exact ltA13 ‹_› | exact neA0 ‹_› | exact neA1 ‹_› | exact neA2 ‹_› | exact neA3 ‹_› | exact neA4 ‹_› | exact neA5 ‹_› | exact neA6 ‹_› | exact neA7 ‹_› | exact neA8 ‹_› | exact neA9 ‹_› | exact neA10 ‹_› | exact neA11 ‹_› | exact neA12 ‹_›)
              k_with "k_ne" => (first | k_extra "nX" | (refine Ne.symm ?_; k_extra "nX"))
              k_with "k_all" => (first | exact List.forall_mem_nil _ | (refine' List.forall_mem_cons.mpr ⟨?zqa, ?zqb⟩; (case zqa => k_ne); (case zqb => k_all)) | assumption | exact al3s ‹_› | exact al0 ‹_› | exact al1 ‹_› | exact al2 ‹_› | exact al3 ‹_› | exact al4 ‹_› | exact al5 ‹_› | exact al6 ‹_› | exact al7 ‹_› | exact al8 ‹_› | exact al9 ‹_› | exact al10 ‹_› | exact al11 ‹_› | exact of2 ‹_›)
              k_with "ent D" => (refine' code_def ?zqk1 ?zqk2 ?zqk3 ?zqk4 ?zqk5 ?zqkA ?zqkF ?zqkK ?zqk6 ?zqk7 ?zqk8 ?zqk9 ?zqkB ?_ ?zqc2 ?zqc3 ?zqc4 ?zqc5; (case zqkA | zqkF => exact rfl); (case zqkK => assumption); (case zqk1 | zqk2 | zqk3 | zqk4 | zqk5 => (k_dflt k_asm)); (case zqk6 | zqk7 => k_is); (case zqk8 => ktr_room); (case zqk9 => first | exact BindsTo.of_eq rfl | exact binds_K (by k_in) rfl (by k_is) rfl rfl rfl); (case zqc5 => decide); (case zqkB => exact locs rfl); (case zqc2 | zqc3 | zqc4 => exact rfl))
              k_with "ent C" => (refine' code_defC ?zqk1 ?zqk2 ?zqk3 ?zqk4 ?zqk5 ?zqkA ?zqkF ?zqkK ?zqk6 ?zqk7 ?zqk8 ?zqk9 ?zqkB ?zqkD ?_ ?zqc2 ?zqc3 ?zqc4; (case zqkA | zqkF => exact rfl); (case zqkK => first | exact rfl | assumption); (case zqk1 | zqk2 | zqk3 | zqk4 | zqk5 => (k_dflt k_asm)); (case zqk6 | zqk7 => k_is); (case zqk8 => ktr_room); (case zqk9 => first | exact BindsTo.of_eq rfl | exact binds_K (by k_in) rfl (by k_is) rfl rfl rfl); (case zqkD => decide +kernel); (case zqkB | zqc2 | zqc3 | zqc4 => exact rfl))
              k_with "k_room" => (ktr_room)
              k_with "w call ref" => (k_here; k_extra "my call")
              k_with "w exec For Name Call cons nil" => (k_here; (rename Fr _ _ _ _ => lF'); (with_unfolding_all refine' For_invVF lF' ?zqk1 ?zqk2 ?_; (case zqk1 => exact rfl); (case zqk2 => exact rfl); k_whole))
              k_with "w eval ListComp" => (k_here; k_extra "comp yes"; k_dflt (first | refine LCg.ListComp_U (F₀ := by k_asm) (by with_unfolding_all rfl) (by decide) (by rfl) (by decide) (by rfl) ?_ | refine LCt.ListComp_T (F₀ := by k_asm) (by with_unfolding_all rfl) (by decide) (by rfl) (by decide) (by rfl) ?_))
              k_with "w exec Assign cons ListComp" => (k_here; k_extra "comp yes"; k_dflt (refine wpAny_Assign_Name ?_))
              k_with "w CompSrc" => (k_extra "halt src"; refine halt ?_)
              k_with "w CompSrcT" => (k_extra "halt src"; refine halt ?_)
              k_with "w call builtin:str.join" => (k_extra "halt join"; refine halt ?_)
              k_with "w call builtin:str.split" => (k_extra "halt split"; refine halt ?_)
              k_with "w subscriptTail Name BinOp ref int" => (k_extra "halt sub"; refine halt ?_)
              k_with "w subscriptTail Name BinOp ref int" => (k_here; k_extra "lit sub")
              k_with "w subscriptTail" => (k_here; k_extra "lit sub")
              k_with "w call builtin:len" => (k_extra "halt len"; refine halt ?_)
              k_with "w subscriptTail Name Slice ref ref" => (k_extra "halt slice"; refine halt ?_)
              k_with "w subscriptTail Subscript BinOp ref int" => (k_extra "halt sub"; refine halt ?_)
              k_with "w call builtin:list.append" => (k_here; k_extra "my append")
              k_with "w subscriptTail" => (k_extra "halt any"; refine halt ?_)
              k_with "w pyIter ref" => (k_extra "halt iter"; refine halt ?_)
              k_with "k_ne" => (first | exact NeH.ne ‹_› | exact Ne.symm (NeH.ne ‹_›))
              k_with "w eval IfExp" => (k_extra "halt if"; refine halt ?_)
              k_with "w exec Expr" => (k_extra "halt stm"; refine halt ?_)
              k_with "halt if" => skip
              k_steps
              refine unhalt ?_
              (try dsimp only)
              (rename Fr _ _ _ _ => lF)
              (rename News _ _ _ _ => lN)
              with_unfolding_all refine wp_join (fun v => ∃ t, v = .str (nameS (letK i q)) t) lF lN ?_ ?_
              · k_with_none
                k_with "nX" => (first | exact ltA0 ‹_› | exact ltA1 ‹_› | exact ltA2 ‹_› | exact ltA3 ‹_› | exact ltA4 ‹_› | exact ltA5 ‹_› | exact ltA6 ‹_› | exact ltA7 ‹_› | exact ltA8 ‹_› | exact ltA9 ‹_› | exact ltA10 ‹_› | exact ltA11 ‹_› | exact ltA12 ‹_› | exact ltA13 ‹_› | exact neA0 ‹_› | exact neA1 ‹_› | exact neA2 ‹_› | exact neA3 ‹_› | exact neA4 ‹_› | exact neA5 ‹_› | exact neA6 ‹_› | exact neA7 ‹_› | exact neA8 ‹_› | exact neA9 ‹_› | exact neA10 ‹_› | exact neA11 ‹_› | exact neA12 ‹_›)
                k_with "k_ne" => (first | k_extra "nX" | (refine Ne.symm ?_; k_extra "nX"))
                k_with "k_all" => (first | exact List.forall_mem_nil _ | (refine' List.forall_mem_cons.mpr ⟨?zqa, ?zqb⟩; (case zqa => k_ne); (case zqb => k_all)) | assumption | exact al3s ‹_› | exact al0 ‹_› | exact al1 ‹_› | exact al2 ‹_› | exact al3 ‹_› | exact al4 ‹_› | exact al5 ‹_› | exact al6 ‹_› | exact al7 ‹_› | exact al8 ‹_› | exact al9 ‹_› | exact al10 ‹_› | exact al11 ‹_› | exact of2 ‹_›)
                k_with "ent D" => (refine' code_def ?zqk1 ?zqk2 ?zqk3 ?zqk4 ?zqk5 ?zqkA ?zqkF ?zqkK ?zqk6 ?zqk7 ?zqk8 ?zqk9 ?zqkB ?_ ?zqc2 ?zqc3 ?zqc4 ?zqc5; (case zqkA | zqkF => exact rfl); (case zqkK => assumption); (case zqk1 | zqk2 | zqk3 | zqk4 | zqk5 => (k_dflt k_asm)); (case zqk6 | zqk7 => k_is); (case zqk8 => ktr_room); (case zqk9 => first | exact BindsTo.of_eq rfl | exact binds_K (by k_in) rfl (by k_is) rfl rfl rfl); (case zqc5 => decide); (case zqkB => exact locs rfl); (case zqc2 | zqc3 | zqc4 => exact rfl))
                k_with "ent C" => (refine' code_defC ?zqk1 ?zqk2 ?zqk3 ?zqk4 ?zqk5 ?zqkA ?zqkF ?zqkK ?zqk6 ?zqk7 ?zqk8 ?zqk9 ?zqkB ?zqkD ?_ ?zqc2 ?zqc3 ?zqc4; (case zqkA | zqkF => exact rfl); (case zqkK => first | exact rfl | assumption); (case zqk1 | zqk2 | zqk3 | zqk4 | zqk5 => (k_dflt k_asm)); (case zqk6 | zqk7 => k_is); (case zqk8 => ktr_room); (case zqk9 => first | exact BindsTo.of_eq rfl | exact binds_K (by k_in) rfl (by k_is) rfl rfl rfl); (case zqkD => decide +kernel); (case zqkB | zqc2 | zqc3 | zqc4 => exact rfl))
                k_with "k_room" => (ktr_room)
                k_with "w call ref" => (k_here; k_extra "my call")
                k_with "w exec For Name Call cons nil" => (k_here; (rename Fr _ _ _ _ => lF'); (with_unfolding_all refine' For_invVF lF' ?zqk1 ?zqk2 ?_; (case zqk1 => exact rfl); (case zqk2 => exact rfl); k_whole))
                k_with "w eval ListComp" => (k_here; k_extra "comp yes"; k_dflt (first | refine LCg.ListComp_U (F₀ := by k_asm) (by with_unfolding_all rfl) (by decide) (by rfl) (by decide) (by rfl) ?_ | refine LCt.ListComp_T (F₀ := by k_asm) (by with_unfolding_all rfl) (by decide) (by rfl) (by decide) (by rfl) ?_))
                k_with "w exec Assign cons ListComp" => (k_here; k_extra "comp yes"; k_dflt (refine wpAny_Assign_Name ?_))
                k_with "w CompSrc" => (k_extra "halt src"; refine halt ?_)
                k_with "w CompSrcT" => (k_extra "halt src"; refine halt ?_)
                k_with "w call builtin:str.join" => (k_extra "halt join"; refine halt ?_)
                k_with "w call builtin:str.split" => (k_extra "halt split"; refine halt ?_)
                k_with "w subscriptTail Name BinOp ref int" => (k_extra "halt sub"; refine halt ?_)
                k_with "w subscriptTail Name BinOp ref int" => (k_here; k_extra "lit sub")
                k_with "w subscriptTail" => (k_here; k_extra "lit sub")
                k_with "w call builtin:len" => (k_extra "halt len"; refine halt ?_)
                k_with "w subscriptTail Name Slice ref ref" => (k_extra "halt slice"; refine halt ?_)
                k_with "w subscriptTail Subscript BinOp ref int" => (k_extra "halt sub"; refine halt ?_)
                k_with "w call builtin:list.append" => (k_here; k_extra "my append")
                k_with "w subscriptTail" => (k_extra "halt any"; refine halt ?_)
                k_with "w pyIter ref" => (k_extra "halt iter"; refine halt ?_)
                k_with "k_ne" => (first | exact NeH.ne ‹_› | exact Ne.symm (NeH.ne ‹_›))
                k_with "w eval IfExp" => (k_extra "halt if"; refine halt ?_)
                k_with "w exec Expr" => (k_extra "halt stm"; refine halt ?_)
                refine hideI ?_
                intro Q8 eQ8
                k_steps
                · refine eQ8 _ _ ?_
                  exact ⟨_, _, ⟨_, congrArg (fun z => Value.str z _) (by first | exact item_even (by assumption) hq4 | exact item_odd (by assumption) hq4)⟩, rfl, by k_asm, by assumption⟩
                · refine eQ8 _ _ ?_
                  exact ⟨_, _, ⟨_, congrArg (fun z => Value.str z _) (by first | exact item_even (by assumption) hq4 | exact item_odd (by assumption) hq4)⟩, rfl, by k_asm, by assumption⟩
              intro v8 h8 tk8 hv8 F8 N8
              obtain ⟨tv8, rfl⟩ := hv8
              clear lF lN
              (try dsimp only)
              try k_fold
              k_with_none
              k_with "nX" => (first | exact ltA0 ‹_› | exact ltA1 ‹_› | exact ltA2 ‹_› | exact ltA3 ‹_› | exact ltA4 ‹_› | exact ltA5 ‹_› | exact ltA6 ‹_› | exact ltA7 ‹_› | exact ltA8 ‹_› | exact ltA9 ‹_› | exact ltA10 ‹_› | exact ltA11 ‹_› | exact ltA12 ‹_› | exact ltA13 ‹_› | exact neA0 ‹_› | exact neA1 ‹_› | exact neA2 ‹_› | exact neA3 ‹_› | exact neA4 ‹_› | exact neA5 ‹_› | exact neA6 ‹_› | exact neA7 ‹_› | exact neA8 ‹_› | exact neA9 ‹_› | exact neA10 ‹_› | exact neA11 ‹_› | exact neA12 ‹_›)
              k_with "k_ne" => (first | k_extra "nX" | (refine Ne.symm ?_; k_extra "nX"))
              k_with "k_all" => (first | exact List.forall_mem_nil _ | (refine' List.forall_mem_cons.mpr ⟨?zqa, ?zqb⟩; (case zqa => k_ne); (case zqb => k_all)) | assumption | exact al3s ‹_› | exact al0 ‹_› | exact al1 ‹_› | exact al2 ‹_› | exact al3 ‹_› | exact al4 ‹_› | exact al5 ‹_› | exact al6 ‹_› | exact al7 ‹_› | exact al8 ‹_› | exact al9 ‹_› | exact al10 ‹_› | exact al11 ‹_› | exact of2 ‹_›)
              k_with "ent D" => (refine' code_def ?zqk1 ?zqk2 ?zqk3 ?zqk4 ?zqk5 ?zqkA ?zqkF ?zqkK ?zqk6 ?zqk7 ?zqk8 ?zqk9 ?zqkB ?_ ?zqc2 ?zqc3 ?zqc4 ?zqc5; (case zqkA | zqkF => exact rfl); (case zqkK => assumption); (case zqk1 | zqk2 | zqk3 | zqk4 | zqk5 => (k_dflt k_asm)); (case zqk6 | zqk7 => k_is); (case zqk8 => ktr_room); (case zqk9 => first | exact BindsTo.of_eq rfl | exact binds_K (by k_in) rfl (by k_is) rfl rfl rfl); (case zqc5 => decide); (case zqkB => exact locs rfl); (case zqc2 | zqc3 | zqc4 => exact rfl))
              k_with "ent C" => (refine' code_defC ?zqk1 ?zqk2 ?zqk3 ?zqk4 ?zqk5 ?zqkA ?zqkF ?zqkK ?zqk6 ?zqk7 ?zqk8 ?zqk9 ?zqkB ?zqkD ?_ ?zqc2 ?zqc3 ?zqc4; (case zqkA | zqkF => exact rfl); (case zqkK => first | exact rfl | assumption); (case zqk1 | zqk2 | zqk3 | zqk4 | zqk5 => (k_dflt k_asm)); (case zqk6 | zqk7 => k_is); (case zqk8 => ktr_room); (case zqk9 => first | exact BindsTo.of_eq rfl | exact binds_K (by k_in) rfl (by k_is) rfl rfl rfl); (case zqkD => decide +kernel); (case zqkB | zqc2 | zqc3 | zqc4 => exact rfl))
              k_with "k_room" => (ktr_room)
              k_with "w call ref" => (k_here; k_extra "my call")
              k_with "w exec For Name Call cons nil" => (k_here; (rename Fr _ _ _ _ => lF'); (with_unfolding_all refine' For_invVF lF' ?zqk1 ?zqk2 ?_; (case zqk1 => exact rfl); (case zqk2 => exact rfl); k_whole))
              k_with "w eval ListComp" => (k_here; k_extra "comp yes"; k_dflt (first | refine LCg.ListComp_U (F₀ := by k_asm) (by with_unfolding_all rfl) (by decide) (by rfl) (by decide) (by rfl) ?_ | refine LCt.ListComp_T (F₀ := by k_asm) (by with_unfolding_all rfl) (by decide) (by rfl) (by decide) (by rfl) ?_))
              k_with "w exec Assign cons ListComp" => (k_here; k_extra "comp yes"; k_dflt (refine wpAny_Assign_Name ?_))
              k_with "w CompSrc" => (k_extra "halt src"; refine halt ?_)
              k_with "w CompSrcT" => (k_extra "halt src"; refine halt ?_)
              k_with "w call builtin:str.join" => (k_extra "halt join"; refine halt ?_)
              k_with "w call builtin:str.split" => (k_extra "halt split"; refine halt ?_)
              k_with "w subscriptTail Name BinOp ref int" => (k_extra "halt sub"; refine halt ?_)
              k_with "w subscriptTail Name BinOp ref int" => (k_here; k_extra "lit sub")
              k_with "w subscriptTail" => (k_here; k_extra "lit sub")
              k_with "w call builtin:len" => (k_extra "halt len"; refine halt ?_)
              k_with "w subscriptTail Name Slice ref ref" => (k_extra "halt slice"; refine halt ?_)
              k_with "w subscriptTail Subscript BinOp ref int" => (k_extra "halt sub"; refine halt ?_)
              k_with "w call builtin:list.append" => (k_here; k_extra "my append")
              k_with "w subscriptTail" => (k_extra "halt any"; refine halt ?_)
              k_with "w pyIter ref" => (k_extra "halt iter"; refine halt ?_)
              k_with "k_ne" => (first | exact NeH.ne ‹_› | exact Ne.symm (NeH.ne ‹_›))
              k_with "w eval IfExp" => (k_extra "halt if"; refine halt ?_)
              k_with "w exec Expr" => (k_extra "halt stm"; refine halt ?_)
              k_with "my call" => ((with_unfolding_all refine' Tell.use (c_setN (x := x) (d := d) (H := H) (td := td) (R := R8) (T₀ := T8) (t := i) (q := q) (k := up ([ka, kb, kc, kd].getD ((q + 3) % 4) 0)) w ?zU ?zx ?zd ?zxH ?zdH ?zT ?zs ?zo hgood hq4 ?zk ?zn rfl) ?k1 ?k2 ?k3 ?k4 ?k5 ?kK trivial ?kd ?ku ?_; (case k1 => (k_dflt k_asm)); (case k2 => (k_dflt k_asm)); (case k3 => (k_dflt k_asm)); (case k4 => (k_dflt k_asm)); (case k5 => (k_dflt k_asm)); (case zU => (k_dflt k_updF)); (case zx => (k_dflt k_mem)); (case zd => (k_dflt k_mem)); (case zxH => exact hoff.1); (case zdH => exact hoff.2.1); (case zT => exact hTb); (case zs => (intro q hq; repeat (first | exact hW3 q hq | refine List.Mem.tail _ ?_))); (case zo => exact fun q hq => q1 q (hW3 q hq)); (case zk => exact hk3); (case zn => exact rfl); (case kK => first | exact rfl | assumption); (case kd => ktr_room); (case ku => ktr_units); intro a9 vs9' n9' o9 hT9 hl9 hne9 r9 h9 tk9 hr9 F9 N9; subst hr9; (have hlt9 := hl9); (try k_lt hl9); (try dsimp only); (try k_fold)))
              k_steps
              refine eQ9 _ _ ?_
              k_steps
              (rename News _ _ _ _ => nE)
              obtain ⟨aT, Dm, Dh, o71, o72, e1, e2, e3, e4', e5⟩ := end_name nE
              subst e1 e2 e3 e4' e5
              (rename (_ ∧ _ ∧ _ ∧ _ ∧ _ ∧ _ ∧ _ ∧ _ ∧ _ ∧ _ ∧ _ ∧ _ ∧ _ ∧ AllLt aT _) => lT)
              have w2 : ∀ p ∈ W, p.1 ≠ aT := allLt_ne lT.2.2.2.2.2.2.2.2.2.2.2.2.2
              have w3 : ∀ p ∈ W, p.1 ≠ Dm := Off.of1 ocO
              have w4 : ∀ p ∈ W, p.1 ≠ Dh := Off.of1 oaO
              rw [show us8.toArray.push (Value.ref aT) = (us8 ++ [Value.ref aT]).toArray from List.push_toArray ..] at nE
              refine' ls_end (c := ⟨vs9', n9', (a9, o9) :: T8, us8 ++ [.ref aT], un8 + 1, o71, o72, stepK rd i R8, lg8 ++ [entK rd i R8]⟩) (add := [(a9, o9), (aT, ({ cls := .type "tuple", data := .seq #[.ref Dh, .ref Dm, .int (q : Int) tq] } : Obj)), (Dm, LCg.lst ysM), (Dh, LCg.lst [.str (dotS ka) x1, .str (dotS kb) x2, .str (dotS kc) x3, .str (dotS kd) x4])]) (by assumption) nE hsub o1 o2 o3 ?zhn ?zho rfl ?zhw ?zhb ⟨?zT9, ?zf1, ?zf2, ⟨_, by assumption⟩, ⟨_, by assumption⟩⟩ (List.forall_mem_nil _) ?zsame ?zP
              case zhn =>
                simp only [List.cons_append, List.nil_append]
                repeat' (first | (refine List.forall_mem_cons.mpr ⟨?_, ?_⟩))
                all_goals first | k_mem | (intro q9 hq9'; repeat (first | exact hW1 q9 hq9' | refine List.Mem.tail _ ?_))
              case zho => intro q9 hq9'; repeat (first | exact hW2 q9 hq9' | refine List.Mem.tail _ ?_)
              case zhw =>
                intro q9 hq9' p9 hp9'
                simp only [List.mem_cons, List.not_mem_nil, or_false] at hq9'
                rcases hq9' with rfl | rfl | rfl | rfl
                · exact Nat.ne_of_lt (hlt9 p9 (by repeat (first | exact hW2 p9 hp9' | refine List.Mem.tail _ ?_)))
                · exact w2 p9 (hW2 p9 hp9')
                · exact w3 p9 (hW2 p9 hp9')
                · exact w4 p9 (hW2 p9 hp9')
              case zhb =>
                exact ownOff4 (by k_all) (by k_all) (by k_all) (by k_all)
              case zT9 => rw [hstep]; exact hT9
              case zf1 =>
                intro q9 hq9'
                rcases List.mem_cons.mp hq9' with rfl | hq9'
                · exact List.mem_cons_self
                · exact List.mem_append.mpr (.inr (hTs q9 hq9'))
              case zf2 =>
                rw [hent, List.map_append]
                refine (hDs.mono (fun q9 hq9' => List.mem_append.mpr (.inr hq9'))).append (.cons ?_ .nil)
                exact DatIn.tuple (.tail _ (.head _)) (.cons (.list (.tail _ (.tail _ (.tail _ (.head _)))) (.cons (.str _ _) (.cons (.str _ _) (.cons (.str _ _) (.cons (.str _ _) .nil))))) (.cons (.list (.tail _ (.tail _ (.head _))) (ints_dat hysM')) (.cons (.int _ _) .nil)))
              case zsame => kst_same
              case zP =>
                show (stepK rd i R8, lg8 ++ [entK rd i R8]) = (stepK rd i (runK rd i).1, (runK rd i).2 ++ [entK rd i (runK rd i).1])
                rw [← hR8, ← hL8]
    case done =>
      rintro ⟨vs8, n8, T8, us8, un8, o81, o82, R8, lg8⟩ nw u h tk hsub o1 _ ⟨hTb, hTs, hDs, ⟨v81, hv81⟩, v82, hv82⟩ hP F9 N9
      dsimp only [kstB] at F9 hTb hTs hDs hv81 hv82 hP N9
      have hR8 : R8 = (runK rd 20).1 := congrArg Prod.fst hP
      have hL8 : lg8 = (runK rd 20).2 := congrArg Prod.snd hP
      have N8 := news_sub N9 (sub_endR hsub)
      clear N9 lF lN
      have hTb' : TbD T8 vs8 ((runK rd 20).1.map rowS) := by rw [← hR8]; exact hTb
      have hDs' : DatAll nw us8 ((runK rd 20).2.map entD) := by rw [← hL8]; exact hDs
      k_with_none
      k_with "nX" => (first | exact ltA0 ‹_› | exact ltA1 ‹_› | exact ltA2 ‹_› | exact ltA3 ‹_› | exact ltA4 ‹_› | exact ltA5 ‹_› | exact ltA6 ‹_› | exact ltA7 ‹_› | exact ltA8 ‹_› | exact ltA9 ‹_› | exact ltA10 ‹_› | exact ltA11 ‹_› | exact ltA12 ‹_› | exact ltA13 ‹_› | exact neA0 ‹_› | exact neA1 ‹_› | exact neA2 ‹_› | exact neA3 ‹_› | exact neA4 ‹_› | exact neA5 ‹_› | exact neA6 ‹_› | exact neA7 ‹_› | exact neA8 ‹_› | exact neA9 ‹_› | exact neA10 ‹_› | exact neA11 ‹_› | exact neA12 ‹_›)
      k_with "k_ne" => (first | k_extra "nX" | (refine Ne.symm ?_; k_extra "nX"))
      k_with "k_all" => (first | exact List.forall_mem_nil _ | (refine' List.forall_mem_cons.mpr ⟨?zqa, ?zqb⟩; (case zqa => k_ne); (case zqb => k_all)) | assumption | exact al3s ‹_› | exact al0 ‹_› | exact al1 ‹_› | exact al2 ‹_› | exact al3 ‹_› | exact al4 ‹_› | exact al5 ‹_› | exact al6 ‹_› | exact al7 ‹_› | exact al8 ‹_› | exact al9 ‹_› | exact al10 ‹_› | exact al11 ‹_› | exact of2 ‹_›)
      k_with "ent D" => (refine' code_def ?zqk1 ?zqk2 ?zqk3 ?zqk4 ?zqk5 ?zqkA ?zqkF ?zqkK ?zqk6 ?zqk7 ?zqk8 ?zqk9 ?zqkB ?_ ?zqc2 ?zqc3 ?zqc4 ?zqc5; (case zqkA | zqkF => exact rfl); (case zqkK => assumption); (case zqk1 | zqk2 | zqk3 | zqk4 | zqk5 => (k_dflt k_asm)); (case zqk6 | zqk7 => k_is); (case zqk8 => ktr_room); (case zqk9 => first | exact BindsTo.of_eq rfl | exact binds_K (by k_in) rfl (by k_is) rfl rfl rfl); (case zqc5 => decide); (case zqkB => exact locs rfl); (case zqc2 | zqc3 | zqc4 => exact rfl))
      k_with "ent C" => (refine' code_defC ?zqk1 ?zqk2 ?zqk3 ?zqk4 ?zqk5 ?zqkA ?zqkF ?zqkK ?zqk6 ?zqk7 ?zqk8 ?zqk9 ?zqkB ?zqkD ?_ ?zqc2 ?zqc3 ?zqc4; (case zqkA | zqkF => exact rfl); (case zqkK => first | exact rfl | assumption); (case zqk1 | zqk2 | zqk3 | zqk4 | zqk5 => (k_dflt k_asm)); (case zqk6 | zqk7 => k_is); (case zqk8 => ktr_room); (case zqk9 => first | exact BindsTo.of_eq rfl | exact binds_K (by k_in) rfl (by k_is) rfl rfl rfl); (case zqkD => decide +kernel); (case zqkB | zqc2 | zqc3 | zqc4 => exact rfl))
      k_with "k_room" => (ktr_room)
      k_with "w call ref" => (k_here; k_extra "my call")
      k_with "w exec For Name Call cons nil" => (k_here; (rename Fr _ _ _ _ => lF'); (with_unfolding_all refine' For_invVF lF' ?zqk1 ?zqk2 ?_; (case zqk1 => exact rfl); (case zqk2 => exact rfl); k_whole))
      k_with "w eval ListComp" => (k_here; k_extra "comp yes"; k_dflt (first | refine LCg.ListComp_U (F₀ := by k_asm) (by with_unfolding_all rfl) (by decide) (by rfl) (by decide) (by rfl) ?_ | refine LCt.ListComp_T (F₀ := by k_asm) (by with_unfolding_all rfl) (by decide) (by rfl) (by decide) (by rfl) ?_))
      k_with "w exec Assign cons ListComp" => (k_here; k_extra "comp yes"; k_dflt (refine wpAny_Assign_Name ?_))
      k_with "w CompSrc" => (k_extra "halt src"; refine halt ?_)
      k_with "w CompSrcT" => (k_extra "halt src"; refine halt ?_)
      k_with "w call builtin:str.join" => (k_extra "halt join"; refine halt ?_)
      k_with "w call builtin:str.split" => (k_extra "halt split"; refine halt ?_)
      k_with "w subscriptTail Name BinOp ref int" => (k_extra "halt sub"; refine halt ?_)
      k_with "w subscriptTail Name BinOp ref int" => (k_here; k_extra "lit sub")
      k_with "w subscriptTail" => (k_here; k_extra "lit sub")
      k_with "w call builtin:len" => (k_extra "halt len"; refine halt ?_)
      k_with "w subscriptTail Name Slice ref ref" => (k_extra "halt slice"; refine halt ?_)
      k_with "w subscriptTail Subscript BinOp ref int" => (k_extra "halt sub"; refine halt ?_)
      k_with "w call builtin:list.append" => (k_here; k_extra "my append")
      k_with "w subscriptTail" => (k_extra "halt any"; refine halt ?_)
      k_with "w pyIter ref" => (k_extra "halt iter"; refine halt ?_)
      k_with "k_ne" => (first | exact NeH.ne ‹_› | exact Ne.symm (NeH.ne ‹_›))
      k_with "w eval IfExp" => (k_extra "halt if"; refine halt ?_)
      k_with "w exec Expr" => (k_extra "halt stm"; refine halt ?_)
      try k_fold
      k_steps
      (rename News _ _ _ _ => nE)
      refine hret lg us8 un8 T8 vs8 n8 nw hTb' hTs hDs' (fun q hq => o1 q hq H (.head _)) (Nat.ne_of_gt lgA.1) _ _ _ rfl (by k_asm) nE
end Mine
end PartN14
section PartPureD
open PySem PySem.W PyProof.Rows PySem.Spec PySem.Calls

set_option maxRecDepth 100000
namespace Mine
/-- the ring of whole numbers -/
noncomputable def ring0 (told : List Int) : List Nat := (List.range 4).map fun i => (((told.getD i 0).fmod 3 + 1 - (i : Int)).fmod 3).toNat
noncomputable def dot (r i : Nat) : Nat := 1 + (r + i + 2) % 3
noncomputable def heldR (r : List Nat) : List Nat := (List.range 4).map fun i => dot (r.getD i 0) i
noncomputable def mayRP (r : List Nat) (i : Nat) : Bool := if i = 0 then r.getD 0 0 == r.getD 3 0 else r.getD i 0 != r.getD (i - 1) 0
noncomputable def mayR (r : List Nat) : List Nat := (List.range 4).filter (mayRP r)
noncomputable def nextR (r : List Nat) (q : Nat) : List Nat := r.set q (if 0 < q then r.getD (q - 1) 0 else (r.getD 0 0 + 1) % 3)
noncomputable def entR (told : List Int) (t : Nat) (r : List Nat) : Ent := (heldR r, mayR r, pickK (told.getD (t % 9) 0) (mayR r))
noncomputable def runR (told : List Int) : Nat → List Nat × List Ent
  | 0 => (ring0 told, [])
  | t + 1 => (nextR (runR told t).1 (pickK (told.getD (t % 9) 0) (mayR (runR told t).1)), (runR told t).2 ++ [entR told t (runR told t).1])
noncomputable def okRing (r : List Nat) : Prop := ∃ a b c d, r = [a, b, c, d] ∧ a < 3 ∧ b < 3 ∧ c < 3 ∧ d < 3
theorem lt3 {a : Nat} (h : a < 3) : a ∈ [0, 1, 2] := by
  have : a = 0 ∨ a = 1 ∨ a = 2 := match a, h with
    | 0, _ => .inl rfl
    | 1, _ => .inr (.inl rfl)
    | 2, _ => .inr (.inr rfl)
    | n + 3, h => absurd h (Nat.not_lt.mpr (Nat.le_add_left 3 n))
  rcases this with rfl | rfl | rfl <;> decide
theorem mayR_ne : ∀ a ∈ [0, 1, 2], ∀ b ∈ [0, 1, 2], ∀ c ∈ [0, 1, 2], ∀ d ∈ [0, 1, 2], mayR [a, b, c, d] ≠ [] := by decide +kernel
theorem okRing.ne {r : List Nat} (h : okRing r) : mayR r ≠ [] := by
  obtain ⟨a, b, c, d, rfl, ha, hb, hc, hd⟩ := h
  exact mayR_ne a (lt3 ha) b (lt3 hb) c (lt3 hc) d (lt3 hd)
theorem mayR_lt (r : List Nat) : ∀ i ∈ mayR r, i < 4 := fun _ hi => List.mem_range.mp (List.mem_filter.mp hi).1
theorem okRing.next {r : List Nat} (h : okRing r) {q : Nat} (hq : q < 4) : okRing (nextR r q) := by
  obtain ⟨a, b, c, d, rfl, ha, hb, hc, hd⟩ := h
  have h3 : (a + 1) % 3 < 3 := Nat.mod_lt _ (by decide)
  have : q = 0 ∨ q = 1 ∨ q = 2 ∨ q = 3 := four_cases (by assumption)
  rcases this with rfl | rfl | rfl | rfl
  · exact ⟨(a + 1) % 3, b, c, d, rfl, h3, hb, hc, hd⟩
  · exact ⟨a, a, c, d, rfl, ha, ha, hc, hd⟩
  · exact ⟨a, b, b, d, rfl, ha, hb, hb, hd⟩
  · exact ⟨a, b, c, c, rfl, ha, hb, hc, hc⟩
theorem fmod3_lt (v : Int) : (v.fmod 3).toNat < 3 := by
  have := Int.fmod_lt_of_pos v (b := 3) (by decide)
  have := Int.fmod_nonneg_of_pos v (b := 3) (by decide)
  lia
theorem ring0_ok (told : List Int) : okRing (ring0 told) := ⟨_, _, _, _, rfl, fmod3_lt _, fmod3_lt _, fmod3_lt _, fmod3_lt _⟩
theorem runR_ok (told : List Int) : ∀ t, okRing (runR told t).1
  | 0 => ring0_ok told
  | t + 1 => (runR_ok told t).next (mayR_lt _ _ (pickK_mem _ (runR_ok told t).ne))
theorem runR_len (told : List Int) : ∀ t, (runR told t).2.length = t
  | 0 => rfl
  | t + 1 => by show ((runR told t).2 ++ [_]).length = t + 1; rw [List.length_append, runR_len told t]; rfl
/-- the boxes and the ring tell the same -/
theorem may_same : ∀ a ∈ [0, 1, 2], ∀ b ∈ [0, 1, 2], ∀ c ∈ [0, 1, 2], ∀ d ∈ [0, 1, 2], mayK (heldR [a, b, c, d]) = mayR [a, b, c, d] := by decide +kernel
theorem next_same : ∀ a ∈ [0, 1, 2], ∀ b ∈ [0, 1, 2], ∀ c ∈ [0, 1, 2], ∀ d ∈ [0, 1, 2], ∀ q ∈ mayR [a, b, c, d], (heldR [a, b, c, d]).set q (up ((heldR [a, b, c, d]).getD ((q + 3) % 4) 0)) = heldR (nextR [a, b, c, d] q) := by decide +kernel
theorem held0 (told rd : List Int) (h : ∀ i, i < 4 → rd.getD i 0 = told.getD i 0) : heldK (rows8 rd) = heldR (ring0 told) := by
  have key : ∀ v : Int, ∀ i : Nat, i < 4 → cnt v = dot (((v.fmod 3 + 1 - (i : Int)).fmod 3).toNat) i := fun v i hi => by
    unfold cnt dot
    have h3 := fmod3 v
    have : i = 0 ∨ i = 1 ∨ i = 2 ∨ i = 3 := four_cases (by assumption)
    rcases h3 with h3 | h3 | h3 <;> rw [h3] <;> rcases this with rfl | rfl | rfl | rfl <;> decide
  have e : heldK (rows8 rd) = [cnt (rd.getD 0 0), cnt (rd.getD 1 0), cnt (rd.getD 2 0), cnt (rd.getD 3 0)] := rfl
  rw [e, h 0 (by decide), h 1 (by decide), h 2 (by decide), h 3 (by decide), key _ 0 (by decide), key _ 1 (by decide), key _ 2 (by decide), key _ 3 (by decide)]
  rfl
theorem run_same {told rd : List Int} (h : ∀ i, i < 9 → rd.getD i 0 = told.getD i 0) : ∀ t, heldK (runK rd t).1 = heldR (runR told t).1 ∧ (runK rd t).2 = (runR told t).2
  | 0 => ⟨held0 told rd fun i hi => h i (by lia), rfl⟩
  | t + 1 => by
    obtain ⟨h1, h2⟩ := run_same h t
    obtain ⟨a, b, c, d, e, ha, hb, hc, hd⟩ := runR_ok told t
    have hm := may_same a (lt3 ha) b (lt3 hb) c (lt3 hc) d (lt3 hd)
    have h9 : rd.getD (t % 9) 0 = told.getD (t % 9) 0 := h _ (Nat.mod_lt _ (by decide))
    have hq : pickK (told.getD (t % 9) 0) (mayR [a, b, c, d]) ∈ mayR [a, b, c, d] := pickK_mem _ (mayR_ne a (lt3 ha) b (lt3 hb) c (lt3 hc) d (lt3 hd))
    constructor
    · show heldK (stepK rd t (runK rd t).1) = heldR (nextR (runR told t).1 _)
      unfold stepK
      rw [h1, h9, e, hm, held_set (mayR_lt _ _ hq), h1, e]
      exact next_same a (lt3 ha) b (lt3 hb) c (lt3 hc) d (lt3 hd) _ hq
    · show (runK rd t).2 ++ [entK rd t (runK rd t).1] = (runR told t).2 ++ [entR told t (runR told t).1]
      rw [h2]
      unfold entK entR
      rw [h1, h9, e, hm]
theorem ring0_cast (told : List Int) : ((List.range 4).map fun (k : Nat) => ((told.getD k 0).fmod 3 + 1 - (0 + (k : Int))).fmod 3) = (ring0 told).map fun (q : Nat) => (q : Int) := by
  unfold ring0
  rw [List.map_map]
  refine List.map_congr_left fun k _ => ?_
  show _ = ((((told.getD k 0).fmod 3 + 1 - (k : Int)).fmod 3).toNat : Int)
  rw [Int.zero_add, Int.toNat_of_nonneg (Int.fmod_nonneg_of_pos _ (by decide))]
theorem one_int {a b : Int} {t : Tok} (h : a = b) : IntsAre [.int a t] [b] := h ▸ .cons _ _ .nil
structure DS where
  us : List Value
  un : Nat
  vs : List Value
  nR : Nat
  T : Led
  r : List Nat
  lg : List Ent
theorem ints_four {ys : List Value} {a b c d : Int} (h : IntsAre ys [a, b, c, d]) : ∃ t1 t2 t3 t4, ys = [.int a t1, .int b t2, .int c t3, .int d t4] := by
  cases h with
  | cons _ t1 h =>
    cases h with
    | cons _ t2 h =>
      cases h with
      | cons _ t3 h =>
        cases h with
        | cons _ t4 h => cases h; exact ⟨_, _, _, _, rfl⟩
theorem rev_getD {m : List Nat} {k : Nat} (h : k < m.length) : m.reverse.getD k 0 = m.getD (m.length - 1 - k) 0 := by
  rw [List.getD_eq_getElem?_getD, List.getD_eq_getElem?_getD, List.getElem?_reverse h]
theorem mayR_yes {r : List Nat} {i : Nat} {ys : List Value} {t : Tok} (hc : mayRP r i = true) (hy : IntsAre ys (((List.range i).filter (mayRP r)).map fun (q : Nat) => (q : Int))) : IntsAre (ys ++ [.int (0 + (i : Int)) t]) (((List.range (i + 1)).filter (mayRP r)).map fun (q : Nat) => (q : Int)) := by
  rw [List.range_succ, List.filter_append, List.map_append, List.filter_cons_of_pos hc, Int.zero_add]
  exact IntsAre.append hy (.cons _ _ .nil)
theorem mayR_no {r : List Nat} {i : Nat} {ys : List Value} (hc : mayRP r i = false) (hy : IntsAre ys (((List.range i).filter (mayRP r)).map fun (q : Nat) => (q : Int))) : IntsAre ys (((List.range (i + 1)).filter (mayRP r)).map fun (q : Nat) => (q : Int)) := by
  rw [List.range_succ, List.filter_append, List.filter_cons_of_neg (by rw [hc]; decide), List.filter_nil, List.append_nil]
  exact hy
theorem sub_two {a b x1 x2 : Addr × Obj} {own nw own9 : Led} (hsub : ∀ p ∈ x1 :: x2 :: own, p ∈ nw) : ∀ p ∈ a :: b :: x1 :: x2 :: (own ++ (nw ++ own9)), p ∈ [a, b] ++ (nw ++ own9) := fun p hp => by
  show p ∈ a :: b :: (nw ++ own9)
  have key : p ∈ x1 :: x2 :: own → p ∈ a :: b :: (nw ++ own9) := fun h => .tail _ (.tail _ (List.mem_append.mpr (.inl (hsub p h))))
  simp only [List.mem_cons, List.mem_append] at hp key ⊢
  rcases hp with h | h | h | h | h | h | h
  · simp [h]
  · simp [h]
  · exact key (by simp [h])
  · exact key (by simp [h])
  · exact key (by simp [h])
  · simp [h]
  · simp [h]
theorem ownOff2 {l : Led} {a b : Addr} (ha : ∀ q ∈ l, q.1 ≠ a) (hb : ∀ q ∈ l, q.1 ≠ b) : OwnOff l [a, b] := fun q hq x hx => by
  rcases List.mem_cons.mp hx with rfl | hx
  · exact ha q hq
  rw [List.mem_singleton.mp hx]
  exact hb q hq
theorem due_name {h₀ h : Heap} {L a1 a2 : Addr} {o1 o2 c d : Obj} {e f : Addr} {r : Led} (_ : News h₀ L h ((a1, o1) :: (a2, o2) :: (e, c) :: (f, d) :: r)) : ∃ (y z : Addr) (b g : Obj), y = a1 ∧ z = a2 ∧ b = c ∧ g = d := ⟨_, _, _, _, rfl, rfl, rfl, rfl⟩
theorem lit_itemN {prog : Program} {w : World} {A : Around} {E : Value → Shared → Prop} {s : Shared} {h₀ : Heap} {L l : Addr} {value slice : PySem.Expr} {news : Led} {us : List Value} {n : Nat} {v : Value} {k : Int} {u : Tok} {Q : Value → Shared → Prop} (N : News h₀ L s.heap news) (hm : (l, listOf us.toArray n) ∈ news)
    (h0 : 0 ≤ k) (h1 : k < 1000) (hv : us[k.toNat]? = some v) (h : Q v s)
    (hs : subscripted slice false (.ref l) (.int k u) = operate [.ref l, .int k u] (getItem (.ref l) (.int k u)) := by with_unfolding_all rfl) :
    wpAny (model prog w) A (subscriptTail value slice (.ref l) (.int k u)) Q E s := by
  have hl : s.heap.IsList l us.toArray := ⟨_, (N _ hm).1, rfl, _, rfl⟩
  exact tail_any hl.typeIs slot_list_getitem.lookup (wpAny_getItem_list hl h0 (Int.lt_trans h1 (by decide)) (by rw [List.getElem?_toArray]; exact hv) h) hs
theorem pick_ge2 {num : Int} {M : List Nat} (hn : ¬ num < 256) (hl : 0 < M.length) : (M.map fun (q : Nat) => (q : Int)).getD ((M.length : Int) - 1 - num.fmod (M.length : Int)).toNat 0 = ((pickK num M : Nat) : Int) := by
  rw [← pick_ge hn hl]
  have a1 := Int.fmod_lt_of_pos num (b := (M.length : Int)) (by lia)
  have a2 := Int.fmod_nonneg_of_pos num (b := (M.length : Int)) (by lia)
  have h1 : (num.fmod M.length).toNat < (M.map fun (q : Nat) => (q : Int)).length := by rw [List.length_map]; lia
  rw [List.getD_eq_getElem?_getD, List.getD_eq_getElem?_getD, List.getElem?_reverse h1, List.length_map]
  congr 2
  lia
theorem mul_dot (r j : Nat) : Txt.mul (Str.ofString ".") (1 + ((r : Int) + (0 + (j : Int)) - 1).fmod 3) = dotS (dot r j) := by
  have e : (1 + ((r : Int) + (0 + (j : Int)) - 1).fmod 3) = 1 + ((r + j + 2 : Nat) : Int).fmod 3 := by
    rw [Int.fmod_eq_emod_of_nonneg _ (by decide), Int.fmod_eq_emod_of_nonneg _ (by decide)]
    lia
  rw [e, mul_dots]
  unfold cnt dot
  congr 1
theorem mayRP_0t {ra rb rc re : Nat} (h : (ra : Int) = (re : Int)) : mayRP [ra, rb, rc, re] 0 = true := by
  show (ra == re) = true
  simp
  lia
theorem mayRP_0f {ra rb rc re : Nat} (h : (ra : Int) ≠ (re : Int)) : mayRP [ra, rb, rc, re] 0 = false := by
  show (ra == re) = false
  simp
  lia
theorem mayRP_1t {ra rb rc re : Nat} (h : (rb : Int) ≠ (ra : Int)) : mayRP [ra, rb, rc, re] 1 = true := by
  show (rb != ra) = true
  simp
  lia
theorem mayRP_1f {ra rb rc re : Nat} (h : (rb : Int) = (ra : Int)) : mayRP [ra, rb, rc, re] 1 = false := by
  show (rb != ra) = false
  simp
  lia
theorem mayRP_2t {ra rb rc re : Nat} (h : (rc : Int) ≠ (rb : Int)) : mayRP [ra, rb, rc, re] 2 = true := by
  show (rc != rb) = true
  simp
  lia
theorem mayRP_2f {ra rb rc re : Nat} (h : (rc : Int) = (rb : Int)) : mayRP [ra, rb, rc, re] 2 = false := by
  show (rc != rb) = false
  simp
  lia
theorem mayRP_3t {ra rb rc re : Nat} (h : (re : Int) ≠ (rc : Int)) : mayRP [ra, rb, rc, re] 3 = true := by
  show (re != rc) = true
  simp
  lia
theorem mayRP_3f {ra rb rc re : Nat} (h : (re : Int) = (rc : Int)) : mayRP [ra, rb, rc, re] 3 = false := by
  show (re != rc) = false
  simp
  lia
theorem item_dot {a b c d j : Nat} (hj : j = 0 ∨ j = 1 ∨ j = 2 ∨ j = 3) : Txt.mul (Str.ofString ".") (1 + (([a, b, c, d].map fun (q : Nat) => (q : Int)).getD ((0 : Int) + (j : Int)).toNat 0 + (0 + (j : Int)) - 1).fmod 3) = dotS (dot ([a, b, c, d].getD j 0) j) := by
  rw [← mul_dot]
  rcases hj with rfl | rfl | rfl | rfl <;> rfl
theorem one_str {x y : Str} {t : Tok} {L : Led} (h : x = y) : DatAll L [.str x t] [.str y] := h ▸ .cons (.str _ _) .nil
theorem ints_set {vs : List Value} {ns : List Int} (h : IntsAre vs ns) (k : Nat) (x : Int) (t : Tok) : IntsAre (vs.set k (.int x t)) (ns.set k x) := by
  induction h generalizing k with
  | nil => exact .nil
  | cons y u _ ih =>
    cases k with
    | zero => exact .cons _ _ (by assumption)
    | succ k => exact .cons _ _ (ih k)
theorem ring_set {r : List Nat} {vs : List Value} {q y : Nat} {X : Int} {t : Tok} (h : IntsAre vs (r.map fun (q : Nat) => (q : Int))) (hX : X = ((y : Nat) : Int)) : IntsAre (vs.set ((q : Int)).toNat (.int X t)) ((r.set q y).map fun (q : Nat) => (q : Int)) := by
  rw [List.map_set, ← hX]
  exact ints_set h q X t
theorem due_end {h₀ h : Heap} {L a1 a2 a3 lg rg : Addr} {o1 o2 o3 ol : Obj} {us : List Value} {nR : Nat} {r : Led} {ns : List Int} (N : News h₀ L h ((a1, o1) :: (a2, o2) :: (a3, o3) :: (lg, ol) :: (rg, listOf us.toArray nR) :: r)) (hI : IntsAre us ns) :
    ∃ (y z v : Addr) (vsN : List Value), y = a1 ∧ z = a2 ∧ v = a3 ∧ News h₀ L h ((a1, o1) :: (a2, o2) :: (a3, o3) :: (lg, ol) :: (rg, listOf vsN.toArray nR) :: r) ∧ IntsAre vsN ns := ⟨_, _, _, us, rfl, rfl, rfl, N, hI⟩
theorem ring_up (ra rb rc re : Nat) : ((([ra, rb, rc, re].map fun (q : Nat) => (q : Int)).getD (Int.toNat 0) 0 + 1).fmod 3) = (((ra + 1) % 3 : Nat) : Int) := by
  show (((ra : Int) + 1).fmod 3) = _
  rw [Int.fmod_eq_emod_of_nonneg _ (by decide)]
  lia
theorem four_dots {ys : List Value} {ra rb rc re : Nat} (h : DatAll [] ys ((List.range 4).map fun (k : Nat) => .str (dotS (dot ([ra, rb, rc, re].getD k 0) k)))) : DatAll [] ys ((heldR [ra, rb, rc, re]).map fun k => .str (dotS k)) := h
theorem sub_dueEnd {a b x1 x2 : Addr × Obj} {own T nw : Led} (hsub : ∀ p ∈ x1 :: x2 :: own, p ∈ nw) (hT : ∀ p ∈ T, p ∈ nw) : ∀ p ∈ a :: b :: x1 :: x2 :: (T ++ own), p ∈ [a, b] ++ nw := fun p hp => by
  show p ∈ a :: b :: nw
  have key : p ∈ x1 :: x2 :: own → p ∈ a :: b :: nw := fun h => .tail _ (.tail _ (hsub p h))
  have key2 : p ∈ T → p ∈ a :: b :: nw := fun h => .tail _ (.tail _ (hT p h))
  simp only [List.mem_cons, List.mem_append] at hp key key2 ⊢
  rcases hp with h | h | h | h | h | h
  · simp [h]
  · simp [h]
  · exact key (by simp [h])
  · exact key (by simp [h])
  · exact key2 h
  · exact key (by simp [h])
end Mine
end PartPureD
section PartN15
open PySem PySem.W PyProof.Rows PySem.Spec PySem.Calls

set_option maxRecDepth 100000
set_option maxHeartbeats 8000000
namespace Mine
theorem c_due (w : World) {p : Program} {loose : List Str} {mean : ExcName → Option Value} {mg mb : Str → Option Value} (own : Led) (l : Addr) (us : List Value) (nr : Nat) (told : List Int) (hm : (l, listOf us.toArray nr) ∈ own) (hi : IntsAre us told) (hlen : told.length = 9) :
  Tell PySem.Challenge.rw_sr0074_02.row.prog w (hd02.heap_39 w.params) p loose mean mg mb 270 [.ref l] own 20 200 (fun _ => True)
    (fun Go => ∀ a lg rg usL nL vsr nR nw', DatAll nw' usL ((runR told 20).2.map entD) → IntsAre vsr ((runR told 20).1.map fun (q : Nat) => (q : Int)) → (∀ q ∈ nw', ∀ p ∈ own, p.1 ≠ q.1) → (∀ p ∈ own, p.1 ≠ a ∧ p.1 ≠ lg ∧ p.1 ≠ rg) → Go ((a, ({ cls := .type "tuple", data := .seq #[.ref lg, .ref rg] } : Obj)) :: (lg, listOf usL.toArray nL) :: (rg, listOf vsr.toArray nR) :: (nw' ++ own)) (fun r => r = .ref a)) := by
  k_fill
  k_with_none
  k_with "nX" => (first | exact ltA0 ‹_› | exact ltA1 ‹_› | exact ltA2 ‹_› | exact ltA3 ‹_› | exact ltA4 ‹_› | exact ltA5 ‹_› | exact ltA6 ‹_› | exact ltA7 ‹_› | exact ltA8 ‹_› | exact ltA9 ‹_› | exact ltA10 ‹_› | exact ltA11 ‹_› | exact ltA12 ‹_› | exact ltA13 ‹_› | exact neA0 ‹_› | exact neA1 ‹_› | exact neA2 ‹_› | exact neA3 ‹_› | exact neA4 ‹_› | exact neA5 ‹_› | exact neA6 ‹_› | exact neA7 ‹_› | exact neA8 ‹_› | exact neA9 ‹_› | exact neA10 ‹_› | exact neA11 ‹_› | exact neA12 ‹_›)
  k_with "k_ne" => (first | k_extra "nX" | (refine Ne.symm ?_; k_extra "nX"))
  k_with "k_all" => (first | exact List.forall_mem_nil _ | (refine' List.forall_mem_cons.mpr ⟨?zqa, ?zqb⟩; (case zqa => k_ne); (case zqb => k_all)) | assumption | exact al3s ‹_› | exact al0 ‹_› | exact al1 ‹_› | exact al2 ‹_› | exact al3 ‹_› | exact al4 ‹_› | exact al5 ‹_› | exact al6 ‹_› | exact al7 ‹_› | exact al8 ‹_› | exact al9 ‹_› | exact al10 ‹_› | exact al11 ‹_› | exact of2 ‹_›)
  k_with "ent D" => (refine' code_def ?zqk1 ?zqk2 ?zqk3 ?zqk4 ?zqk5 ?zqkA ?zqkF ?zqkK ?zqk6 ?zqk7 ?zqk8 ?zqk9 ?zqkB ?_ ?zqc2 ?zqc3 ?zqc4 ?zqc5; (case zqkA | zqkF => exact rfl); (case zqkK => assumption); (case zqk1 | zqk2 | zqk3 | zqk4 | zqk5 => (k_dflt k_asm)); (case zqk6 | zqk7 => k_is); (case zqk8 => ktr_room); (case zqk9 => first | exact BindsTo.of_eq rfl | exact binds_K (by k_in) rfl (by k_is) rfl rfl rfl); (case zqc5 => decide); (case zqkB => exact locs rfl); (case zqc2 | zqc3 | zqc4 => exact rfl))
  k_with "ent C" => (refine' code_defC ?zqk1 ?zqk2 ?zqk3 ?zqk4 ?zqk5 ?zqkA ?zqkF ?zqkK ?zqk6 ?zqk7 ?zqk8 ?zqk9 ?zqkB ?zqkD ?_ ?zqc2 ?zqc3 ?zqc4; (case zqkA | zqkF => exact rfl); (case zqkK => first | exact rfl | assumption); (case zqk1 | zqk2 | zqk3 | zqk4 | zqk5 => (k_dflt k_asm)); (case zqk6 | zqk7 => k_is); (case zqk8 => ktr_room); (case zqk9 => first | exact BindsTo.of_eq rfl | exact binds_K (by k_in) rfl (by k_is) rfl rfl rfl); (case zqkD => decide +kernel); (case zqkB | zqc2 | zqc3 | zqc4 => exact rfl))
  k_with "k_room" => (ktr_room)
  k_with "w exec For Name Call cons nil" => (k_here; (rename Fr _ _ _ _ => lF'); (with_unfolding_all refine' For_invVF lF' ?zqk1 ?zqk2 ?_; (case zqk1 => exact rfl); (case zqk2 => exact rfl); k_whole))
  k_with "w eval ListComp" => (k_here; k_extra "comp yes"; k_dflt (first | refine LCg.ListComp_U (F₀ := by k_asm) (by with_unfolding_all rfl) (by decide) (by rfl) (by decide) (by rfl) ?_ | refine LCt.ListComp_T (F₀ := by k_asm) (by with_unfolding_all rfl) (by decide) (by rfl) (by decide) (by rfl) ?_))
  k_with "w exec Assign cons ListComp" => (k_here; k_extra "comp yes"; k_dflt (refine wpAny_Assign_Name ?_))
  k_with "w CompSrc" => (k_extra "halt src"; refine halt ?_)
  k_with "w CompSrcT" => (k_extra "halt src"; refine halt ?_)
  k_with "w call builtin:str.join" => (k_extra "halt join"; refine halt ?_)
  k_with "w call builtin:str.split" => (k_extra "halt split"; refine halt ?_)
  k_with "w subscriptTail Name BinOp ref int" => (k_extra "halt sub"; refine halt ?_)
  k_with "w subscriptTail Name BinOp ref int" => (k_here; k_extra "lit sub")
  k_with "w subscriptTail" => (k_here; k_extra "lit sub")
  k_with "w call builtin:len" => (k_extra "halt len"; refine halt ?_)
  k_with "w subscriptTail Name Slice ref ref" => (k_extra "halt slice"; refine halt ?_)
  k_with "w subscriptTail Subscript BinOp ref int" => (k_extra "halt sub"; refine halt ?_)
  k_with "w call builtin:list.append" => (k_here; k_extra "my append")
  k_with "w subscriptTail" => (k_extra "halt any"; refine halt ?_)
  k_with "w pyIter ref" => (k_extra "halt iter"; refine halt ?_)
  k_with "w exec Expr" => (k_extra "halt stm"; refine halt ?_)
  k_with "w eval IfExp" => (k_extra "halt if"; refine halt ?_)
  unfold Tell
  intro dp un gd cn cs a ccd cl outer A₀ base h₀ L m s Q E B F X N T hk hl2 hdp hu hret
  refine wpAny_call ?_
  k_dflt k_enter
  have hKd := kdMark
  have hul := hi.length
  k_with "comp yes" => skip
  k_with "halt src" => skip
  k_with "halt iter" => skip
  k_with "halt sub" => skip
  k_steps
  refine unhalt ?_
  (rename IsRange _ _ _ _ _ _ _ _ => rgA)
  (rename News _ _ _ _ => nA)
  (rename Fr _ _ _ _ => fA)
  obtain ⟨LA, eLA⟩ := fr_name fA
  subst eLA
  (rename (∀ (p : Addr × Obj), p ∈ own → p.1 < LA) => l1A)
  have hOa : ∀ q ∈ own, @Ne Nat q.1 (LA + 1) := fun q hq => by have : @LT.lt Nat _ q.1 LA := l1A q hq; omega
  have hOb : ∀ q ∈ own, @Ne Nat q.1 (LA + 1 + 1) := fun q hq => by have : @LT.lt Nat _ q.1 LA := l1A q hq; omega
  refine' LCg.CompSrc.range (by rfl) (by k_asm) (by k_asm) rgA (by rfl) (by rfl) (by decide) ?_
  intro g9
  refine comp_inv (fun i ys nw => nw = _ ∧ IntsAre ys ((List.range i).map fun (k : Nat) => ((told.getD k 0).fmod 3 + 1 - (0 + (k : Int))).fmod 3)) 4 ?_ ?_ _ 0 [] _ (by rfl) ⟨rfl, .nil⟩
  · rintro j v I oI Cn oC D m₂ h tk ys nw9 E' hj ⟨tj, rfl⟩ ⟨rfl, hys⟩ ho hx F9 N9 off9 ne9
    have hjt : ((0 : Int) + (j : Int)).toNat = j := by omega
    k_with_none
    k_with "nX" => (first | exact ltA0 ‹_› | exact ltA1 ‹_› | exact ltA2 ‹_› | exact ltA3 ‹_› | exact ltA4 ‹_› | exact ltA5 ‹_› | exact ltA6 ‹_› | exact ltA7 ‹_› | exact ltA8 ‹_› | exact ltA9 ‹_› | exact ltA10 ‹_› | exact ltA11 ‹_› | exact ltA12 ‹_› | exact ltA13 ‹_› | exact neA0 ‹_› | exact neA1 ‹_› | exact neA2 ‹_› | exact neA3 ‹_› | exact neA4 ‹_› | exact neA5 ‹_› | exact neA6 ‹_› | exact neA7 ‹_› | exact neA8 ‹_› | exact neA9 ‹_› | exact neA10 ‹_› | exact neA11 ‹_› | exact neA12 ‹_›)
    k_with "k_ne" => (first | k_extra "nX" | (refine Ne.symm ?_; k_extra "nX"))
    k_with "k_all" => (first | exact List.forall_mem_nil _ | (refine' List.forall_mem_cons.mpr ⟨?zqa, ?zqb⟩; (case zqa => k_ne); (case zqb => k_all)) | assumption | exact al3s ‹_› | exact al0 ‹_› | exact al1 ‹_› | exact al2 ‹_› | exact al3 ‹_› | exact al4 ‹_› | exact al5 ‹_› | exact al6 ‹_› | exact al7 ‹_› | exact al8 ‹_› | exact al9 ‹_› | exact al10 ‹_› | exact al11 ‹_› | exact of2 ‹_›)
    k_with "ent D" => (refine' code_def ?zqk1 ?zqk2 ?zqk3 ?zqk4 ?zqk5 ?zqkA ?zqkF ?zqkK ?zqk6 ?zqk7 ?zqk8 ?zqk9 ?zqkB ?_ ?zqc2 ?zqc3 ?zqc4 ?zqc5; (case zqkA | zqkF => exact rfl); (case zqkK => assumption); (case zqk1 | zqk2 | zqk3 | zqk4 | zqk5 => (k_dflt k_asm)); (case zqk6 | zqk7 => k_is); (case zqk8 => ktr_room); (case zqk9 => first | exact BindsTo.of_eq rfl | exact binds_K (by k_in) rfl (by k_is) rfl rfl rfl); (case zqc5 => decide); (case zqkB => exact locs rfl); (case zqc2 | zqc3 | zqc4 => exact rfl))
    k_with "ent C" => (refine' code_defC ?zqk1 ?zqk2 ?zqk3 ?zqk4 ?zqk5 ?zqkA ?zqkF ?zqkK ?zqk6 ?zqk7 ?zqk8 ?zqk9 ?zqkB ?zqkD ?_ ?zqc2 ?zqc3 ?zqc4; (case zqkA | zqkF => exact rfl); (case zqkK => first | exact rfl | assumption); (case zqk1 | zqk2 | zqk3 | zqk4 | zqk5 => (k_dflt k_asm)); (case zqk6 | zqk7 => k_is); (case zqk8 => ktr_room); (case zqk9 => first | exact BindsTo.of_eq rfl | exact binds_K (by k_in) rfl (by k_is) rfl rfl rfl); (case zqkD => decide +kernel); (case zqkB | zqc2 | zqc3 | zqc4 => exact rfl))
    k_with "k_room" => (ktr_room)
    k_with "w exec For Name Call cons nil" => (k_here; (rename Fr _ _ _ _ => lF'); (with_unfolding_all refine' For_invVF lF' ?zqk1 ?zqk2 ?_; (case zqk1 => exact rfl); (case zqk2 => exact rfl); k_whole))
    k_with "w eval ListComp" => (k_here; k_extra "comp yes"; k_dflt (first | refine LCg.ListComp_U (F₀ := by k_asm) (by with_unfolding_all rfl) (by decide) (by rfl) (by decide) (by rfl) ?_ | refine LCt.ListComp_T (F₀ := by k_asm) (by with_unfolding_all rfl) (by decide) (by rfl) (by decide) (by rfl) ?_))
    k_with "w exec Assign cons ListComp" => (k_here; k_extra "comp yes"; k_dflt (refine wpAny_Assign_Name ?_))
    k_with "w CompSrc" => (k_extra "halt src"; refine halt ?_)
    k_with "w CompSrcT" => (k_extra "halt src"; refine halt ?_)
    k_with "w call builtin:str.join" => (k_extra "halt join"; refine halt ?_)
    k_with "w call builtin:str.split" => (k_extra "halt split"; refine halt ?_)
    k_with "w subscriptTail Name BinOp ref int" => (k_extra "halt sub"; refine halt ?_)
    k_with "w subscriptTail Name BinOp ref int" => (k_here; k_extra "lit sub")
    k_with "w subscriptTail" => (k_here; k_extra "lit sub")
    k_with "w call builtin:len" => (k_extra "halt len"; refine halt ?_)
    k_with "w subscriptTail Name Slice ref ref" => (k_extra "halt slice"; refine halt ?_)
    k_with "w subscriptTail Subscript BinOp ref int" => (k_extra "halt sub"; refine halt ?_)
    k_with "w call builtin:list.append" => (k_here; k_extra "my append")
    k_with "w subscriptTail" => (k_extra "halt any"; refine halt ?_)
    k_with "w pyIter ref" => (k_extra "halt iter"; refine halt ?_)
    k_with "w exec Expr" => (k_extra "halt stm"; refine halt ?_)
    k_with "w eval IfExp" => (k_extra "halt if"; refine halt ?_)
    k_with "lit sub" => ((k_dflt (refine' ints_item (v := told.getD j 0) ?l1 ?l2 hi ?l3 ?l4 ?l5 ?l6 ?_ ?l7)); (case l1 => (k_dflt k_asm)); (case l2 => (repeat (first | exact hm | refine List.Mem.tail _ ?_))); (case l3 => omega); (case l4 => (rw [hlen]; omega)); (case l5 => omega); (case l6 => rw [hjt]); (case l7 => with_unfolding_all rfl); intro tq; (try k_fold))
    k_steps
    refine LCg.CompEnd.intro (by k_asm) (by assumption) _ ?sub off9 trivial ⟨rfl, ?hd⟩
    case sub => kqd_sub
    case hd => rw [List.range_succ, List.map_append]; exact IntsAre.append hys (one_int (by rw [hjt]))
  · rintro ysR nwR ⟨rfl, hysR⟩
    have hysR' : IntsAre ysR ((ring0 told).map fun (q : Nat) => (q : Int)) := ring0_cast told ▸ hysR
    clear hysR
    k_with_none
    k_with "nX" => (first | exact ltA0 ‹_› | exact ltA1 ‹_› | exact ltA2 ‹_› | exact ltA3 ‹_› | exact ltA4 ‹_› | exact ltA5 ‹_› | exact ltA6 ‹_› | exact ltA7 ‹_› | exact ltA8 ‹_› | exact ltA9 ‹_› | exact ltA10 ‹_› | exact ltA11 ‹_› | exact ltA12 ‹_› | exact ltA13 ‹_› | exact neA0 ‹_› | exact neA1 ‹_› | exact neA2 ‹_› | exact neA3 ‹_› | exact neA4 ‹_› | exact neA5 ‹_› | exact neA6 ‹_› | exact neA7 ‹_› | exact neA8 ‹_› | exact neA9 ‹_› | exact neA10 ‹_› | exact neA11 ‹_› | exact neA12 ‹_›)
    k_with "k_ne" => (first | k_extra "nX" | (refine Ne.symm ?_; k_extra "nX"))
    k_with "k_all" => (first | exact List.forall_mem_nil _ | (refine' List.forall_mem_cons.mpr ⟨?zqa, ?zqb⟩; (case zqa => k_ne); (case zqb => k_all)) | assumption | exact al3s ‹_› | exact al0 ‹_› | exact al1 ‹_› | exact al2 ‹_› | exact al3 ‹_› | exact al4 ‹_› | exact al5 ‹_› | exact al6 ‹_› | exact al7 ‹_› | exact al8 ‹_› | exact al9 ‹_› | exact al10 ‹_› | exact al11 ‹_› | exact of2 ‹_›)
    k_with "ent D" => (refine' code_def ?zqk1 ?zqk2 ?zqk3 ?zqk4 ?zqk5 ?zqkA ?zqkF ?zqkK ?zqk6 ?zqk7 ?zqk8 ?zqk9 ?zqkB ?_ ?zqc2 ?zqc3 ?zqc4 ?zqc5; (case zqkA | zqkF => exact rfl); (case zqkK => assumption); (case zqk1 | zqk2 | zqk3 | zqk4 | zqk5 => (k_dflt k_asm)); (case zqk6 | zqk7 => k_is); (case zqk8 => ktr_room); (case zqk9 => first | exact BindsTo.of_eq rfl | exact binds_K (by k_in) rfl (by k_is) rfl rfl rfl); (case zqc5 => decide); (case zqkB => exact locs rfl); (case zqc2 | zqc3 | zqc4 => exact rfl))
    k_with "ent C" => (refine' code_defC ?zqk1 ?zqk2 ?zqk3 ?zqk4 ?zqk5 ?zqkA ?zqkF ?zqkK ?zqk6 ?zqk7 ?zqk8 ?zqk9 ?zqkB ?zqkD ?_ ?zqc2 ?zqc3 ?zqc4; (case zqkA | zqkF => exact rfl); (case zqkK => first | exact rfl | assumption); (case zqk1 | zqk2 | zqk3 | zqk4 | zqk5 => (k_dflt k_asm)); (case zqk6 | zqk7 => k_is); (case zqk8 => ktr_room); (case zqk9 => first | exact BindsTo.of_eq rfl | exact binds_K (by k_in) rfl (by k_is) rfl rfl rfl); (case zqkD => decide +kernel); (case zqkB | zqc2 | zqc3 | zqc4 => exact rfl))
    k_with "k_room" => (ktr_room)
    k_with "w exec For Name Call cons nil" => (k_here; (rename Fr _ _ _ _ => lF'); (with_unfolding_all refine' For_invVF lF' ?zqk1 ?zqk2 ?_; (case zqk1 => exact rfl); (case zqk2 => exact rfl); k_whole))
    k_with "w eval ListComp" => (k_here; k_extra "comp yes"; k_dflt (first | refine LCg.ListComp_U (F₀ := by k_asm) (by with_unfolding_all rfl) (by decide) (by rfl) (by decide) (by rfl) ?_ | refine LCt.ListComp_T (F₀ := by k_asm) (by with_unfolding_all rfl) (by decide) (by rfl) (by decide) (by rfl) ?_))
    k_with "w exec Assign cons ListComp" => (k_here; k_extra "comp yes"; k_dflt (refine wpAny_Assign_Name ?_))
    k_with "w CompSrc" => (k_extra "halt src"; refine halt ?_)
    k_with "w CompSrcT" => (k_extra "halt src"; refine halt ?_)
    k_with "w call builtin:str.join" => (k_extra "halt join"; refine halt ?_)
    k_with "w call builtin:str.split" => (k_extra "halt split"; refine halt ?_)
    k_with "w subscriptTail Name BinOp ref int" => (k_extra "halt sub"; refine halt ?_)
    k_with "w subscriptTail Name BinOp ref int" => (k_here; k_extra "lit sub")
    k_with "w subscriptTail" => (k_here; k_extra "lit sub")
    k_with "w call builtin:len" => (k_extra "halt len"; refine halt ?_)
    k_with "w subscriptTail Name Slice ref ref" => (k_extra "halt slice"; refine halt ?_)
    k_with "w subscriptTail Subscript BinOp ref int" => (k_extra "halt sub"; refine halt ?_)
    k_with "w call builtin:list.append" => (k_here; k_extra "my append")
    k_with "w subscriptTail" => (k_extra "halt any"; refine halt ?_)
    k_with "w pyIter ref" => (k_extra "halt iter"; refine halt ?_)
    k_with "w exec Expr" => (k_extra "halt stm"; refine halt ?_)
    k_with "w eval IfExp" => (k_extra "halt if"; refine halt ?_)
    k_with "halt iter" => skip
    k_steps
    refine unhalt ?_
    (rename News _ _ _ _ => lN)
    (rename Fr _ _ _ _ => lF)
    (rename IsRange _ _ _ _ _ _ _ _ => rgX)
    obtain ⟨lg, rg, oc2, oc1, e1, e2, e3, e4⟩ := due_name lN
    subst e1 e2 e3 e4
    (rename (_ ∧ _ ∧ _ ∧ AllLt lg own) => lgA)
    (rename (_ ∧ _ ∧ LCg.Off1 rg own) => rgA2)
    have hlA : @LT.lt Nat _ LA lg := by have : @LT.lt Nat _ (LA + 1) lg := lgA.2.2.1; omega
    have hO1 : ∀ q ∈ own, q.1 ≠ lg := allLt_ne lgA.2.2.2
    have hO2 : ∀ q ∈ own, q.1 ≠ rg := Off.of1 rgA2.2.2
    with_unfolding_all refine' ls_range (σ := DS) (n := 20) (Mu := fun c => [(lg, listOf c.us.toArray c.un), (rg, listOf c.vs.toArray c.nR)]) (ps := fun _ => []) (Facts := fun nw c => IntsAre c.vs (c.r.map fun (q : Nat) => (q : Int)) ∧ DatAll c.T c.us (c.lg.map entD) ∧ (∀ q ∈ c.T, q ∈ nw) ∧ ∀ q ∈ c.T, ∀ p ∈ own, p.1 ≠ q.1) (stored := [Str.ofString "may", Str.ofString "place", Str.ofString "picked"]) (P := fun i c => (c.r, c.lg) = runR told i) (adr := [lg, rg]) (c₀ := ⟨[], 0, ysR, ysR.length, [], ring0 told, []⟩) (news := (LA + 1 + 1, oc2) :: (LA + 1, oc1) :: own) (by rfl) rgX (by rfl) (by rfl) lF lN rfl ?zoff ⟨hysR', .nil, (fun _ h => nomatch h), (fun _ h => nomatch h)⟩ (List.forall_mem_nil _) rfl ?turn ?done
    case zoff => exact ownOff2 (by k_all) (by k_all)
    case turn =>
      rintro i t ⟨us8, un8, vs8, nR8, T8, r8, lg8⟩ nw u h tk own9 hi20 hsub o1 o2 o3 _ ⟨hIs, hDs, hTs, hTl⟩ hP F9 N9
      dsimp only [kstB] at F9 hIs hTs hTl hDs hP N9
      have hR8 : r8 = (runR told i).1 := congrArg Prod.fst hP
      have hL8 : lg8 = (runR told i).2 := congrArg Prod.snd hP
      have hul8 : us8.length ≤ 100 := by rw [hDs.length, List.length_map, hL8, runR_len]; omega
      have hok : okRing r8 := hR8 ▸ runR_ok told i
      have N8 := news_sub N9 (sub_two hsub)
      clear N9 lF lN
      have offA : ∀ q ∈ own ++ (nw ++ own9), ∀ b ∈ [lg, rg], q.1 ≠ b := fun q hq b hb => by
        rcases List.mem_append.mp hq with hq | hq
        · exact o3 q (hsub q (.tail _ (.tail _ hq))) b hb
        rcases List.mem_append.mp hq with hq | hq
        · exact o3 q hq b hb
        · exact o1 q hq b hb
      have hW1 : ∀ q ∈ nw, q ∈ own ++ (nw ++ own9) := fun q hq => List.mem_append.mpr (.inr (List.mem_append.mpr (.inl hq)))
      have hW2 : ∀ q ∈ own9, q ∈ own ++ (nw ++ own9) := fun q hq => List.mem_append.mpr (.inr (List.mem_append.mpr (.inr hq)))
      have hmW : (l, listOf us.toArray nr) ∈ own ++ (nw ++ own9) := List.mem_append.mpr (.inl hm)
      have hWo : ∀ q ∈ own, q ∈ own ++ (nw ++ own9) := fun q hq => List.mem_append.mpr (.inl hq)
      generalize own ++ (nw ++ own9) = W at N8 offA hW1 hW2 hmW hWo
      have q1 : ∀ q ∈ W, @Ne Nat q.1 lg := fun q hq => offA q hq lg (by simp)
      have q2 : ∀ q ∈ W, @Ne Nat q.1 rg := fun q hq => offA q hq rg (by simp)
      obtain ⟨ra, rb, rc, re, hr8, ha3, hb3, hc3, hd3⟩ := hok
      rw [hr8] at hIs
      obtain ⟨v1, v2, v3, v4, hvs⟩ := ints_four hIs
      subst hvs
      k_with_none
      k_with "nX" => (first | exact ltA0 ‹_› | exact ltA1 ‹_› | exact ltA2 ‹_› | exact ltA3 ‹_› | exact ltA4 ‹_› | exact ltA5 ‹_› | exact ltA6 ‹_› | exact ltA7 ‹_› | exact ltA8 ‹_› | exact ltA9 ‹_› | exact ltA10 ‹_› | exact ltA11 ‹_› | exact ltA12 ‹_› | exact ltA13 ‹_› | exact neA0 ‹_› | exact neA1 ‹_› | exact neA2 ‹_› | exact neA3 ‹_› | exact neA4 ‹_› | exact neA5 ‹_› | exact neA6 ‹_› | exact neA7 ‹_› | exact neA8 ‹_› | exact neA9 ‹_› | exact neA10 ‹_› | exact neA11 ‹_› | exact neA12 ‹_›)
      k_with "k_ne" => (first | k_extra "nX" | (refine Ne.symm ?_; k_extra "nX"))
      k_with "k_all" => (first | exact List.forall_mem_nil _ | (refine' List.forall_mem_cons.mpr ⟨?zqa, ?zqb⟩; (case zqa => k_ne); (case zqb => k_all)) | assumption | exact al3s ‹_› | exact al0 ‹_› | exact al1 ‹_› | exact al2 ‹_› | exact al3 ‹_› | exact al4 ‹_› | exact al5 ‹_› | exact al6 ‹_› | exact al7 ‹_› | exact al8 ‹_› | exact al9 ‹_› | exact al10 ‹_› | exact al11 ‹_› | exact of2 ‹_›)
      k_with "ent D" => (refine' code_def ?zqk1 ?zqk2 ?zqk3 ?zqk4 ?zqk5 ?zqkA ?zqkF ?zqkK ?zqk6 ?zqk7 ?zqk8 ?zqk9 ?zqkB ?_ ?zqc2 ?zqc3 ?zqc4 ?zqc5; (case zqkA | zqkF => exact rfl); (case zqkK => assumption); (case zqk1 | zqk2 | zqk3 | zqk4 | zqk5 => (k_dflt k_asm)); (case zqk6 | zqk7 => k_is); (case zqk8 => ktr_room); (case zqk9 => first | exact BindsTo.of_eq rfl | exact binds_K (by k_in) rfl (by k_is) rfl rfl rfl); (case zqc5 => decide); (case zqkB => exact locs rfl); (case zqc2 | zqc3 | zqc4 => exact rfl))
      k_with "ent C" => (refine' code_defC ?zqk1 ?zqk2 ?zqk3 ?zqk4 ?zqk5 ?zqkA ?zqkF ?zqkK ?zqk6 ?zqk7 ?zqk8 ?zqk9 ?zqkB ?zqkD ?_ ?zqc2 ?zqc3 ?zqc4; (case zqkA | zqkF => exact rfl); (case zqkK => first | exact rfl | assumption); (case zqk1 | zqk2 | zqk3 | zqk4 | zqk5 => (k_dflt k_asm)); (case zqk6 | zqk7 => k_is); (case zqk8 => ktr_room); (case zqk9 => first | exact BindsTo.of_eq rfl | exact binds_K (by k_in) rfl (by k_is) rfl rfl rfl); (case zqkD => decide +kernel); (case zqkB | zqc2 | zqc3 | zqc4 => exact rfl))
      k_with "k_room" => (ktr_room)
      k_with "w exec For Name Call cons nil" => (k_here; (rename Fr _ _ _ _ => lF'); (with_unfolding_all refine' For_invVF lF' ?zqk1 ?zqk2 ?_; (case zqk1 => exact rfl); (case zqk2 => exact rfl); k_whole))
      k_with "w eval ListComp" => (k_here; k_extra "comp yes"; k_dflt (first | refine LCg.ListComp_U (F₀ := by k_asm) (by with_unfolding_all rfl) (by decide) (by rfl) (by decide) (by rfl) ?_ | refine LCt.ListComp_T (F₀ := by k_asm) (by with_unfolding_all rfl) (by decide) (by rfl) (by decide) (by rfl) ?_))
      k_with "w exec Assign cons ListComp" => (k_here; k_extra "comp yes"; k_dflt (refine wpAny_Assign_Name ?_))
      k_with "w CompSrc" => (k_extra "halt src"; refine halt ?_)
      k_with "w CompSrcT" => (k_extra "halt src"; refine halt ?_)
      k_with "w call builtin:str.join" => (k_extra "halt join"; refine halt ?_)
      k_with "w call builtin:str.split" => (k_extra "halt split"; refine halt ?_)
      k_with "w subscriptTail Name BinOp ref int" => (k_extra "halt sub"; refine halt ?_)
      k_with "w subscriptTail Name BinOp ref int" => (k_here; k_extra "lit sub")
      k_with "w subscriptTail" => (k_here; k_extra "lit sub")
      k_with "w call builtin:len" => (k_extra "halt len"; refine halt ?_)
      k_with "w subscriptTail Name Slice ref ref" => (k_extra "halt slice"; refine halt ?_)
      k_with "w subscriptTail Subscript BinOp ref int" => (k_extra "halt sub"; refine halt ?_)
      k_with "w call builtin:list.append" => (k_here; k_extra "my append")
      k_with "w subscriptTail" => (k_extra "halt any"; refine halt ?_)
      k_with "w pyIter ref" => (k_extra "halt iter"; refine halt ?_)
      k_with "w exec Expr" => (k_extra "halt stm"; refine halt ?_)
      k_with "w eval IfExp" => (k_extra "halt if"; refine halt ?_)
      k_with "comp yes" => skip
      k_with "halt src" => skip
      refine hideI ?_
      intro Q9 eQ9
      k_steps
      refine unhalt ?_
      (rename IsRange _ _ _ _ _ _ _ _ => rgM)
      refine' LCt.CompSrcT.range (by rfl) (by k_asm) (by k_asm) rgM (by rfl) (by rfl) (by decide) ?_
      intro g7
      refine comp_invT (fun i ys nw => nw = _ ∧ IntsAre ys (((List.range i).filter (mayRP [ra, rb, rc, re])).map fun (q : Nat) => (q : Int))) 4 ?_ ?_ _ 0 [] _ (by rfl) ⟨rfl, .nil⟩
      · rintro j v I oI Cn oC D m₂ h tk ys nw9 E' hj ⟨tj, rfl⟩ ⟨rfl, hysM⟩ ho hx F9 N9 off9 ne9
        have hj4 : j = 0 ∨ j = 1 ∨ j = 2 ∨ j = 3 := four_cases (by assumption)
        k_with "lit sub" => (k_dflt (refine' lit_itemN ?l1 ?l2 ?l3 ?l4 ?l5 ?_ ?l6); (case l1 => (k_dflt k_asm)); (case l2 => (k_dflt k_mem)); (case l3 => decide); (case l4 => decide); (case l5 => (with_unfolding_all exact rfl)); (case l6 => with_unfolding_all rfl); (try k_fold))
        rcases hj4 with rfl | rfl | rfl | rfl
        · k_steps
          · (rename @Eq Int _ _ => hc)
            have hc2 : (ra : Int) = (re : Int) := hc
            have hc3 : mayRP [ra, rb, rc, re] 0 = true := mayRP_0t hc2
            refine LCg.CompEnd.intro (by k_asm) (by assumption) _ ?subY0 off9 trivial ⟨rfl, mayR_yes hc3 hysM⟩
            kqd_sub
          · (rename @Ne Int _ _ => hc)
            have hc2 : (ra : Int) ≠ (re : Int) := hc
            have hc3 : mayRP [ra, rb, rc, re] 0 = false := mayRP_0f hc2
            refine LCg.CompEnd.intro (by k_asm) (by assumption) _ ?subN0 off9 trivial ⟨rfl, mayR_no hc3 hysM⟩
            kqd_sub
        · k_steps
          · (rename @Ne Int _ _ => hc)
            have hc2 : (rb : Int) ≠ (ra : Int) := hc
            have hc3 : mayRP [ra, rb, rc, re] 1 = true := mayRP_1t hc2
            refine LCg.CompEnd.intro (by k_asm) (by assumption) _ ?subY1 off9 trivial ⟨rfl, mayR_yes hc3 hysM⟩
            kqd_sub
          · (rename @Eq Int _ _ => hc)
            have hc2 : (rb : Int) = (ra : Int) := hc
            have hc3 : mayRP [ra, rb, rc, re] 1 = false := mayRP_1f hc2
            refine LCg.CompEnd.intro (by k_asm) (by assumption) _ ?subN1 off9 trivial ⟨rfl, mayR_no hc3 hysM⟩
            kqd_sub
        · k_steps
          · (rename @Ne Int _ _ => hc)
            have hc2 : (rc : Int) ≠ (rb : Int) := hc
            have hc3 : mayRP [ra, rb, rc, re] 2 = true := mayRP_2t hc2
            refine LCg.CompEnd.intro (by k_asm) (by assumption) _ ?subY2 off9 trivial ⟨rfl, mayR_yes hc3 hysM⟩
            kqd_sub
          · (rename @Eq Int _ _ => hc)
            have hc2 : (rc : Int) = (rb : Int) := hc
            have hc3 : mayRP [ra, rb, rc, re] 2 = false := mayRP_2f hc2
            refine LCg.CompEnd.intro (by k_asm) (by assumption) _ ?subN2 off9 trivial ⟨rfl, mayR_no hc3 hysM⟩
            kqd_sub
        · k_steps
          · (rename @Ne Int _ _ => hc)
            have hc2 : (re : Int) ≠ (rc : Int) := hc
            have hc3 : mayRP [ra, rb, rc, re] 3 = true := mayRP_3t hc2
            refine LCg.CompEnd.intro (by k_asm) (by assumption) _ ?subY3 off9 trivial ⟨rfl, mayR_yes hc3 hysM⟩
            kqd_sub
          · (rename @Eq Int _ _ => hc)
            have hc2 : (re : Int) = (rc : Int) := hc
            have hc3 : mayRP [ra, rb, rc, re] 3 = false := mayRP_3f hc2
            refine LCg.CompEnd.intro (by k_asm) (by assumption) _ ?subN3 off9 trivial ⟨rfl, mayR_no hc3 hysM⟩
            kqd_sub
      · rintro ysM nwM ⟨rfl, hysM⟩
        have hysM' : IntsAre ysM ((mayR [ra, rb, rc, re]).map fun (q : Nat) => (q : Int)) := hysM
        clear hysM
        have hMne : mayR [ra, rb, rc, re] ≠ [] := mayR_ne ra (lt3 ha3) rb (lt3 hb3) rc (lt3 hc3) re (lt3 hd3)
        have hMlen : 0 < (mayR [ra, rb, rc, re]).length := List.length_pos_iff.mpr hMne
        have hMl9 : ysM.length = (mayR [ra, rb, rc, re]).length := by rw [hysM'.length, List.length_map]
        have hM4 : (mayR [ra, rb, rc, re]).length ≤ 4 := Nat.le_trans (List.length_filter_le _ _) (by decide)
        obtain ⟨num, hnum⟩ : ∃ num, told.getD (i % 9) 0 = num := ⟨_, rfl⟩
        obtain ⟨q, hq⟩ : ∃ q, pickK num (mayR [ra, rb, rc, re]) = q := ⟨_, rfl⟩
        have hq4 : q < 4 := hq ▸ mayR_lt _ _ (pickK_mem num hMne)
        k_with_none
        k_with "nX" => (first | exact ltA0 ‹_› | exact ltA1 ‹_› | exact ltA2 ‹_› | exact ltA3 ‹_› | exact ltA4 ‹_› | exact ltA5 ‹_› | exact ltA6 ‹_› | exact ltA7 ‹_› | exact ltA8 ‹_› | exact ltA9 ‹_› | exact ltA10 ‹_› | exact ltA11 ‹_› | exact ltA12 ‹_› | exact ltA13 ‹_› | exact neA0 ‹_› | exact neA1 ‹_› | exact neA2 ‹_› | exact neA3 ‹_› | exact neA4 ‹_› | exact neA5 ‹_› | exact neA6 ‹_› | exact neA7 ‹_› | exact neA8 ‹_› | exact neA9 ‹_› | exact neA10 ‹_› | exact neA11 ‹_› | exact neA12 ‹_›)
        k_with "k_ne" => (first | k_extra "nX" | (refine Ne.symm ?_; k_extra "nX"))
        k_with "k_all" => (first | exact List.forall_mem_nil _ | (refine' List.forall_mem_cons.mpr ⟨?zqa, ?zqb⟩; (case zqa => k_ne); (case zqb => k_all)) | assumption | exact al3s ‹_› | exact al0 ‹_› | exact al1 ‹_› | exact al2 ‹_› | exact al3 ‹_› | exact al4 ‹_› | exact al5 ‹_› | exact al6 ‹_› | exact al7 ‹_› | exact al8 ‹_› | exact al9 ‹_› | exact al10 ‹_› | exact al11 ‹_› | exact of2 ‹_›)
        k_with "ent D" => (refine' code_def ?zqk1 ?zqk2 ?zqk3 ?zqk4 ?zqk5 ?zqkA ?zqkF ?zqkK ?zqk6 ?zqk7 ?zqk8 ?zqk9 ?zqkB ?_ ?zqc2 ?zqc3 ?zqc4 ?zqc5; (case zqkA | zqkF => exact rfl); (case zqkK => assumption); (case zqk1 | zqk2 | zqk3 | zqk4 | zqk5 => (k_dflt k_asm)); (case zqk6 | zqk7 => k_is); (case zqk8 => ktr_room); (case zqk9 => first | exact BindsTo.of_eq rfl | exact binds_K (by k_in) rfl (by k_is) rfl rfl rfl); (case zqc5 => decide); (case zqkB => exact locs rfl); (case zqc2 | zqc3 | zqc4 => exact rfl))
        k_with "ent C" => (refine' code_defC ?zqk1 ?zqk2 ?zqk3 ?zqk4 ?zqk5 ?zqkA ?zqkF ?zqkK ?zqk6 ?zqk7 ?zqk8 ?zqk9 ?zqkB ?zqkD ?_ ?zqc2 ?zqc3 ?zqc4; (case zqkA | zqkF => exact rfl); (case zqkK => first | exact rfl | assumption); (case zqk1 | zqk2 | zqk3 | zqk4 | zqk5 => (k_dflt k_asm)); (case zqk6 | zqk7 => k_is); (case zqk8 => ktr_room); (case zqk9 => first | exact BindsTo.of_eq rfl | exact binds_K (by k_in) rfl (by k_is) rfl rfl rfl); (case zqkD => decide +kernel); (case zqkB | zqc2 | zqc3 | zqc4 => exact rfl))
        k_with "k_room" => (ktr_room)
        k_with "w exec For Name Call cons nil" => (k_here; (rename Fr _ _ _ _ => lF'); (with_unfolding_all refine' For_invVF lF' ?zqk1 ?zqk2 ?_; (case zqk1 => exact rfl); (case zqk2 => exact rfl); k_whole))
        k_with "w eval ListComp" => (k_here; k_extra "comp yes"; k_dflt (first | refine LCg.ListComp_U (F₀ := by k_asm) (by with_unfolding_all rfl) (by decide) (by rfl) (by decide) (by rfl) ?_ | refine LCt.ListComp_T (F₀ := by k_asm) (by with_unfolding_all rfl) (by decide) (by rfl) (by decide) (by rfl) ?_))
        k_with "w exec Assign cons ListComp" => (k_here; k_extra "comp yes"; k_dflt (refine wpAny_Assign_Name ?_))
        k_with "w CompSrc" => (k_extra "halt src"; refine halt ?_)
        k_with "w CompSrcT" => (k_extra "halt src"; refine halt ?_)
        k_with "w call builtin:str.join" => (k_extra "halt join"; refine halt ?_)
        k_with "w call builtin:str.split" => (k_extra "halt split"; refine halt ?_)
        k_with "w subscriptTail Name BinOp ref int" => (k_extra "halt sub"; refine halt ?_)
        k_with "w subscriptTail Name BinOp ref int" => (k_here; k_extra "lit sub")
        k_with "w subscriptTail" => (k_here; k_extra "lit sub")
        k_with "w call builtin:len" => (k_extra "halt len"; refine halt ?_)
        k_with "w subscriptTail Name Slice ref ref" => (k_extra "halt slice"; refine halt ?_)
        k_with "w subscriptTail Subscript BinOp ref int" => (k_extra "halt sub"; refine halt ?_)
        k_with "w call builtin:list.append" => (k_here; k_extra "my append")
        k_with "w subscriptTail" => (k_extra "halt any"; refine halt ?_)
        k_with "w pyIter ref" => (k_extra "halt iter"; refine halt ?_)
        k_with "w exec Expr" => (k_extra "halt stm"; refine halt ?_)
        k_with "w eval IfExp" => (k_extra "halt if"; refine halt ?_)
        k_with "halt len" => skip
        k_with "halt any" => skip
        k_with "lit sub" => ((k_dflt (refine' ints_item (v := num) ?l1 ?l2 hi ?l3 ?l4 ?l5 ?l6 ?_ ?l7)); (case l1 => (k_dflt k_asm)); (case l2 => (repeat (first | exact hmW | refine List.Mem.tail _ ?_))); (case l3 => exact Int.fmod_nonneg_of_pos _ (by decide)); (case l4 => (rw [hlen]; exact Int.fmod_lt_of_pos _ (by decide))); (case l5 => exact Int.lt_trans (Int.fmod_lt_of_pos _ (by decide)) (by decide)); (case l6 => (rw [fmod9 i]; exact hnum)); (case l7 => with_unfolding_all rfl); intro tn9; (try k_fold))
        k_steps
        refine unhalt ?_
        refine' len_list2 (k := (mayR [ra, rb, rc, re]).length) (by k_asm) (by k_mem) hMl9 (by omega) ?_
        try k_fold
        refine' fork ?zj ?zb
        case zb =>
          intro jn
          by_cases hn : num < 256
          · skip
            k_steps
            refine unhalt ?_
            have g1 := Int.fmod_nonneg_of_pos num (b := ((mayR [ra, rb, rc, re]).length : Int)) (by omega)
            have g2 := Int.fmod_lt_of_pos num (b := ((mayR [ra, rb, rc, re]).length : Int)) (by omega)
            refine' ints_item (v := (q : Int)) (by k_asm) (by k_mem) hysM' ?i3 ?i4 ?i5 ?i6 ?_ (by with_unfolding_all rfl)
            case i3 => omega
            case i4 => rw [List.length_map]; omega
            case i5 => omega
            case i6 => rw [pick_lt hn hMlen, hq]
            intro tq
            clear g1 g2
            try k_fold
            k_with_none
            k_with "nX" => (first | exact ltA0 ‹_› | exact ltA1 ‹_› | exact ltA2 ‹_› | exact ltA3 ‹_› | exact ltA4 ‹_› | exact ltA5 ‹_› | exact ltA6 ‹_› | exact ltA7 ‹_› | exact ltA8 ‹_› | exact ltA9 ‹_› | exact ltA10 ‹_› | exact ltA11 ‹_› | exact ltA12 ‹_› | exact ltA13 ‹_› | exact neA0 ‹_› | exact neA1 ‹_› | exact neA2 ‹_› | exact neA3 ‹_› | exact neA4 ‹_› | exact neA5 ‹_› | exact neA6 ‹_› | exact neA7 ‹_› | exact neA8 ‹_› | exact neA9 ‹_› | exact neA10 ‹_› | exact neA11 ‹_› | exact neA12 ‹_›)
            k_with "k_ne" => (first | k_extra "nX" | (refine Ne.symm ?_; k_extra "nX"))
            k_with "k_all" => (first | exact List.forall_mem_nil _ | (refine' List.forall_mem_cons.mpr ⟨?zqa, ?zqb⟩; (case zqa => k_ne); (case zqb => k_all)) | assumption | exact al3s ‹_› | exact al0 ‹_› | exact al1 ‹_› | exact al2 ‹_› | exact al3 ‹_› | exact al4 ‹_› | exact al5 ‹_› | exact al6 ‹_› | exact al7 ‹_› | exact al8 ‹_› | exact al9 ‹_› | exact al10 ‹_› | exact al11 ‹_› | exact of2 ‹_›)
            k_with "ent D" => (refine' code_def ?zqk1 ?zqk2 ?zqk3 ?zqk4 ?zqk5 ?zqkA ?zqkF ?zqkK ?zqk6 ?zqk7 ?zqk8 ?zqk9 ?zqkB ?_ ?zqc2 ?zqc3 ?zqc4 ?zqc5; (case zqkA | zqkF => exact rfl); (case zqkK => assumption); (case zqk1 | zqk2 | zqk3 | zqk4 | zqk5 => (k_dflt k_asm)); (case zqk6 | zqk7 => k_is); (case zqk8 => ktr_room); (case zqk9 => first | exact BindsTo.of_eq rfl | exact binds_K (by k_in) rfl (by k_is) rfl rfl rfl); (case zqc5 => decide); (case zqkB => exact locs rfl); (case zqc2 | zqc3 | zqc4 => exact rfl))
            k_with "ent C" => (refine' code_defC ?zqk1 ?zqk2 ?zqk3 ?zqk4 ?zqk5 ?zqkA ?zqkF ?zqkK ?zqk6 ?zqk7 ?zqk8 ?zqk9 ?zqkB ?zqkD ?_ ?zqc2 ?zqc3 ?zqc4; (case zqkA | zqkF => exact rfl); (case zqkK => first | exact rfl | assumption); (case zqk1 | zqk2 | zqk3 | zqk4 | zqk5 => (k_dflt k_asm)); (case zqk6 | zqk7 => k_is); (case zqk8 => ktr_room); (case zqk9 => first | exact BindsTo.of_eq rfl | exact binds_K (by k_in) rfl (by k_is) rfl rfl rfl); (case zqkD => decide +kernel); (case zqkB | zqc2 | zqc3 | zqc4 => exact rfl))
            k_with "k_room" => (ktr_room)
            k_with "w exec For Name Call cons nil" => (k_here; (rename Fr _ _ _ _ => lF'); (with_unfolding_all refine' For_invVF lF' ?zqk1 ?zqk2 ?_; (case zqk1 => exact rfl); (case zqk2 => exact rfl); k_whole))
            k_with "w eval ListComp" => (k_here; k_extra "comp yes"; k_dflt (first | refine LCg.ListComp_U (F₀ := by k_asm) (by with_unfolding_all rfl) (by decide) (by rfl) (by decide) (by rfl) ?_ | refine LCt.ListComp_T (F₀ := by k_asm) (by with_unfolding_all rfl) (by decide) (by rfl) (by decide) (by rfl) ?_))
            k_with "w exec Assign cons ListComp" => (k_here; k_extra "comp yes"; k_dflt (refine wpAny_Assign_Name ?_))
            k_with "w CompSrc" => (k_extra "halt src"; refine halt ?_)
            k_with "w CompSrcT" => (k_extra "halt src"; refine halt ?_)
            k_with "w call builtin:str.join" => (k_extra "halt join"; refine halt ?_)
            k_with "w call builtin:str.split" => (k_extra "halt split"; refine halt ?_)
            k_with "w subscriptTail Name BinOp ref int" => (k_extra "halt sub"; refine halt ?_)
            k_with "w subscriptTail Name BinOp ref int" => (k_here; k_extra "lit sub")
            k_with "w subscriptTail" => (k_here; k_extra "lit sub")
            k_with "w call builtin:len" => (k_extra "halt len"; refine halt ?_)
            k_with "w subscriptTail Name Slice ref ref" => (k_extra "halt slice"; refine halt ?_)
            k_with "w subscriptTail Subscript BinOp ref int" => (k_extra "halt sub"; refine halt ?_)
            k_with "w call builtin:list.append" => (k_here; k_extra "my append")
            k_with "w subscriptTail" => (k_extra "halt any"; refine halt ?_)
            k_with "w pyIter ref" => (k_extra "halt iter"; refine halt ?_)
            k_with "w exec Expr" => (k_extra "halt stm"; refine halt ?_)
            k_with "w eval IfExp" => (k_extra "halt if"; refine halt ?_)
            k_with "halt stm" => skip
            k_steps
            (rename Fr _ _ _ _ => lF)
            (rename News _ _ _ _ => lN)
            refine unhalt ?_
            (try dsimp only)
            refine toks_var ?_
            intro tkz
            have jn' := jn _ tkz tq lF lN
            exact jn'
          · skip
            k_with_none
            k_with "nX" => (first | exact ltA0 ‹_› | exact ltA1 ‹_› | exact ltA2 ‹_› | exact ltA3 ‹_› | exact ltA4 ‹_› | exact ltA5 ‹_› | exact ltA6 ‹_› | exact ltA7 ‹_› | exact ltA8 ‹_› | exact ltA9 ‹_› | exact ltA10 ‹_› | exact ltA11 ‹_› | exact ltA12 ‹_› | exact ltA13 ‹_› | exact neA0 ‹_› | exact neA1 ‹_› | exact neA2 ‹_› | exact neA3 ‹_› | exact neA4 ‹_› | exact neA5 ‹_› | exact neA6 ‹_› | exact neA7 ‹_› | exact neA8 ‹_› | exact neA9 ‹_› | exact neA10 ‹_› | exact neA11 ‹_› | exact neA12 ‹_›)
            k_with "k_ne" => (first | k_extra "nX" | (refine Ne.symm ?_; k_extra "nX"))
            k_with "k_all" => (first | exact List.forall_mem_nil _ | (refine' List.forall_mem_cons.mpr ⟨?zqa, ?zqb⟩; (case zqa => k_ne); (case zqb => k_all)) | assumption | exact al3s ‹_› | exact al0 ‹_› | exact al1 ‹_› | exact al2 ‹_› | exact al3 ‹_› | exact al4 ‹_› | exact al5 ‹_› | exact al6 ‹_› | exact al7 ‹_› | exact al8 ‹_› | exact al9 ‹_› | exact al10 ‹_› | exact al11 ‹_› | exact of2 ‹_›)
            k_with "ent D" => (refine' code_def ?zqk1 ?zqk2 ?zqk3 ?zqk4 ?zqk5 ?zqkA ?zqkF ?zqkK ?zqk6 ?zqk7 ?zqk8 ?zqk9 ?zqkB ?_ ?zqc2 ?zqc3 ?zqc4 ?zqc5; (case zqkA | zqkF => exact rfl); (case zqkK => assumption); (case zqk1 | zqk2 | zqk3 | zqk4 | zqk5 => (k_dflt k_asm)); (case zqk6 | zqk7 => k_is); (case zqk8 => ktr_room); (case zqk9 => first | exact BindsTo.of_eq rfl | exact binds_K (by k_in) rfl (by k_is) rfl rfl rfl); (case zqc5 => decide); (case zqkB => exact locs rfl); (case zqc2 | zqc3 | zqc4 => exact rfl))
            k_with "ent C" => (refine' code_defC ?zqk1 ?zqk2 ?zqk3 ?zqk4 ?zqk5 ?zqkA ?zqkF ?zqkK ?zqk6 ?zqk7 ?zqk8 ?zqk9 ?zqkB ?zqkD ?_ ?zqc2 ?zqc3 ?zqc4; (case zqkA | zqkF => exact rfl); (case zqkK => first | exact rfl | assumption); (case zqk1 | zqk2 | zqk3 | zqk4 | zqk5 => (k_dflt k_asm)); (case zqk6 | zqk7 => k_is); (case zqk8 => ktr_room); (case zqk9 => first | exact BindsTo.of_eq rfl | exact binds_K (by k_in) rfl (by k_is) rfl rfl rfl); (case zqkD => decide +kernel); (case zqkB | zqc2 | zqc3 | zqc4 => exact rfl))
            k_with "k_room" => (ktr_room)
            k_with "w exec For Name Call cons nil" => (k_here; (rename Fr _ _ _ _ => lF'); (with_unfolding_all refine' For_invVF lF' ?zqk1 ?zqk2 ?_; (case zqk1 => exact rfl); (case zqk2 => exact rfl); k_whole))
            k_with "w eval ListComp" => (k_here; k_extra "comp yes"; k_dflt (first | refine LCg.ListComp_U (F₀ := by k_asm) (by with_unfolding_all rfl) (by decide) (by rfl) (by decide) (by rfl) ?_ | refine LCt.ListComp_T (F₀ := by k_asm) (by with_unfolding_all rfl) (by decide) (by rfl) (by decide) (by rfl) ?_))
            k_with "w exec Assign cons ListComp" => (k_here; k_extra "comp yes"; k_dflt (refine wpAny_Assign_Name ?_))
            k_with "w CompSrc" => (k_extra "halt src"; refine halt ?_)
            k_with "w CompSrcT" => (k_extra "halt src"; refine halt ?_)
            k_with "w call builtin:str.join" => (k_extra "halt join"; refine halt ?_)
            k_with "w call builtin:str.split" => (k_extra "halt split"; refine halt ?_)
            k_with "w subscriptTail Name BinOp ref int" => (k_extra "halt sub"; refine halt ?_)
            k_with "w subscriptTail Name BinOp ref int" => (k_here; k_extra "lit sub")
            k_with "w subscriptTail" => (k_here; k_extra "lit sub")
            k_with "w call builtin:len" => (k_extra "halt len"; refine halt ?_)
            k_with "w subscriptTail Name Slice ref ref" => (k_extra "halt slice"; refine halt ?_)
            k_with "w subscriptTail Subscript BinOp ref int" => (k_extra "halt sub"; refine halt ?_)
            k_with "w call builtin:list.append" => (k_here; k_extra "my append")
            k_with "w subscriptTail" => (k_extra "halt any"; refine halt ?_)
            k_with "w pyIter ref" => (k_extra "halt iter"; refine halt ?_)
            k_with "w exec Expr" => (k_extra "halt stm"; refine halt ?_)
            k_with "w eval IfExp" => (k_extra "halt if"; refine halt ?_)
            k_with "halt len" => skip
            k_with "halt any" => skip
            k_with "lit sub" => ((k_dflt (refine' ints_item (v := num) ?l1 ?l2 hi ?l3 ?l4 ?l5 ?l6 ?_ ?l7)); (case l1 => (k_dflt k_asm)); (case l2 => (repeat (first | exact hmW | refine List.Mem.tail _ ?_))); (case l3 => exact Int.fmod_nonneg_of_pos _ (by decide)); (case l4 => (rw [hlen]; exact Int.fmod_lt_of_pos _ (by decide))); (case l5 => exact Int.lt_trans (Int.fmod_lt_of_pos _ (by decide)) (by decide)); (case l6 => (rw [fmod9 i]; exact hnum)); (case l7 => with_unfolding_all rfl); intro tn9; (try k_fold))
            k_steps
            refine unhalt ?_
            refine' len_list2 (k := (mayR [ra, rb, rc, re]).length) (by k_asm) (by k_mem) hMl9 (by omega) ?_
            try k_fold
            k_steps
            refine unhalt ?_
            have g1 := Int.fmod_nonneg_of_pos num (b := ((mayR [ra, rb, rc, re]).length : Int)) (by omega)
            have g2 := Int.fmod_lt_of_pos num (b := ((mayR [ra, rb, rc, re]).length : Int)) (by omega)
            refine' ints_item (v := (q : Int)) (by k_asm) (by k_mem) hysM' ?i3 ?i4 ?i5 ?i6 ?_ (by with_unfolding_all rfl)
            case i3 => omega
            case i4 => rw [List.length_map]; omega
            case i5 => omega
            case i6 => rw [pick_ge2 hn hMlen, hq]
            intro tq
            clear g1 g2
            try k_fold
            k_with_none
            k_with "nX" => (first | exact ltA0 ‹_› | exact ltA1 ‹_› | exact ltA2 ‹_› | exact ltA3 ‹_› | exact ltA4 ‹_› | exact ltA5 ‹_› | exact ltA6 ‹_› | exact ltA7 ‹_› | exact ltA8 ‹_› | exact ltA9 ‹_› | exact ltA10 ‹_› | exact ltA11 ‹_› | exact ltA12 ‹_› | exact ltA13 ‹_› | exact neA0 ‹_› | exact neA1 ‹_› | exact neA2 ‹_› | exact neA3 ‹_› | exact neA4 ‹_› | exact neA5 ‹_› | exact neA6 ‹_› | exact neA7 ‹_› | exact neA8 ‹_› | exact neA9 ‹_› | exact neA10 ‹_› | exact neA11 ‹_› | exact neA12 ‹_›)
            k_with "k_ne" => (first | k_extra "nX" | (refine Ne.symm ?_; k_extra "nX"))
            k_with "k_all" => (first | exact List.forall_mem_nil _ | (refine' List.forall_mem_cons.mpr ⟨?zqa, ?zqb⟩; (case zqa => k_ne); (case zqb => k_all)) | assumption | exact al3s ‹_› | exact al0 ‹_› | exact al1 ‹_› | exact al2 ‹_› | exact al3 ‹_› | exact al4 ‹_› | exact al5 ‹_› | exact al6 ‹_› | exact al7 ‹_› | exact al8 ‹_› | exact al9 ‹_› | exact al10 ‹_› | exact al11 ‹_› | exact of2 ‹_›)
            k_with "ent D" => (refine' code_def ?zqk1 ?zqk2 ?zqk3 ?zqk4 ?zqk5 ?zqkA ?zqkF ?zqkK ?zqk6 ?zqk7 ?zqk8 ?zqk9 ?zqkB ?_ ?zqc2 ?zqc3 ?zqc4 ?zqc5; (case zqkA | zqkF => exact rfl); (case zqkK => assumption); (case zqk1 | zqk2 | zqk3 | zqk4 | zqk5 => (k_dflt k_asm)); (case zqk6 | zqk7 => k_is); (case zqk8 => ktr_room); (case zqk9 => first | exact BindsTo.of_eq rfl | exact binds_K (by k_in) rfl (by k_is) rfl rfl rfl); (case zqc5 => decide); (case zqkB => exact locs rfl); (case zqc2 | zqc3 | zqc4 => exact rfl))
            k_with "ent C" => (refine' code_defC ?zqk1 ?zqk2 ?zqk3 ?zqk4 ?zqk5 ?zqkA ?zqkF ?zqkK ?zqk6 ?zqk7 ?zqk8 ?zqk9 ?zqkB ?zqkD ?_ ?zqc2 ?zqc3 ?zqc4; (case zqkA | zqkF => exact rfl); (case zqkK => first | exact rfl | assumption); (case zqk1 | zqk2 | zqk3 | zqk4 | zqk5 => (k_dflt k_asm)); (case zqk6 | zqk7 => k_is); (case zqk8 => ktr_room); (case zqk9 => first | exact BindsTo.of_eq rfl | exact binds_K (by k_in) rfl (by k_is) rfl rfl rfl); (case zqkD => decide +kernel); (case zqkB | zqc2 | zqc3 | zqc4 => exact rfl))
            k_with "k_room" => (ktr_room)
            k_with "w exec For Name Call cons nil" => (k_here; (rename Fr _ _ _ _ => lF'); (with_unfolding_all refine' For_invVF lF' ?zqk1 ?zqk2 ?_; (case zqk1 => exact rfl); (case zqk2 => exact rfl); k_whole))
            k_with "w eval ListComp" => (k_here; k_extra "comp yes"; k_dflt (first | refine LCg.ListComp_U (F₀ := by k_asm) (by with_unfolding_all rfl) (by decide) (by rfl) (by decide) (by rfl) ?_ | refine LCt.ListComp_T (F₀ := by k_asm) (by with_unfolding_all rfl) (by decide) (by rfl) (by decide) (by rfl) ?_))
            k_with "w exec Assign cons ListComp" => (k_here; k_extra "comp yes"; k_dflt (refine wpAny_Assign_Name ?_))
            k_with "w CompSrc" => (k_extra "halt src"; refine halt ?_)
            k_with "w CompSrcT" => (k_extra "halt src"; refine halt ?_)
            k_with "w call builtin:str.join" => (k_extra "halt join"; refine halt ?_)
            k_with "w call builtin:str.split" => (k_extra "halt split"; refine halt ?_)
            k_with "w subscriptTail Name BinOp ref int" => (k_extra "halt sub"; refine halt ?_)
            k_with "w subscriptTail Name BinOp ref int" => (k_here; k_extra "lit sub")
            k_with "w subscriptTail" => (k_here; k_extra "lit sub")
            k_with "w call builtin:len" => (k_extra "halt len"; refine halt ?_)
            k_with "w subscriptTail Name Slice ref ref" => (k_extra "halt slice"; refine halt ?_)
            k_with "w subscriptTail Subscript BinOp ref int" => (k_extra "halt sub"; refine halt ?_)
            k_with "w call builtin:list.append" => (k_here; k_extra "my append")
            k_with "w subscriptTail" => (k_extra "halt any"; refine halt ?_)
            k_with "w pyIter ref" => (k_extra "halt iter"; refine halt ?_)
            k_with "w exec Expr" => (k_extra "halt stm"; refine halt ?_)
            k_with "w eval IfExp" => (k_extra "halt if"; refine halt ?_)
            k_with "halt stm" => skip
            k_steps
            (rename Fr _ _ _ _ => lF)
            (rename News _ _ _ _ => lN)
            refine unhalt ?_
            (try dsimp only)
            refine toks_var ?_
            intro tkz
            have jn' := jn _ tkz tq lF (news_sub lN (by kqd_sub))
            exact jn'
        case zj =>
          intro h8 tk8 tq F8 N8
          (try dsimp only)
          try k_fold
          k_with_none
          k_with "nX" => (first | exact ltA0 ‹_› | exact ltA1 ‹_› | exact ltA2 ‹_› | exact ltA3 ‹_› | exact ltA4 ‹_› | exact ltA5 ‹_› | exact ltA6 ‹_› | exact ltA7 ‹_› | exact ltA8 ‹_› | exact ltA9 ‹_› | exact ltA10 ‹_› | exact ltA11 ‹_› | exact ltA12 ‹_› | exact ltA13 ‹_› | exact neA0 ‹_› | exact neA1 ‹_› | exact neA2 ‹_› | exact neA3 ‹_› | exact neA4 ‹_› | exact neA5 ‹_› | exact neA6 ‹_› | exact neA7 ‹_› | exact neA8 ‹_› | exact neA9 ‹_› | exact neA10 ‹_› | exact neA11 ‹_› | exact neA12 ‹_›)
          k_with "k_ne" => (first | k_extra "nX" | (refine Ne.symm ?_; k_extra "nX"))
          k_with "k_all" => (first | exact List.forall_mem_nil _ | (refine' List.forall_mem_cons.mpr ⟨?zqa, ?zqb⟩; (case zqa => k_ne); (case zqb => k_all)) | assumption | exact al3s ‹_› | exact al0 ‹_› | exact al1 ‹_› | exact al2 ‹_› | exact al3 ‹_› | exact al4 ‹_› | exact al5 ‹_› | exact al6 ‹_› | exact al7 ‹_› | exact al8 ‹_› | exact al9 ‹_› | exact al10 ‹_› | exact al11 ‹_› | exact of2 ‹_›)
          k_with "ent D" => (refine' code_def ?zqk1 ?zqk2 ?zqk3 ?zqk4 ?zqk5 ?zqkA ?zqkF ?zqkK ?zqk6 ?zqk7 ?zqk8 ?zqk9 ?zqkB ?_ ?zqc2 ?zqc3 ?zqc4 ?zqc5; (case zqkA | zqkF => exact rfl); (case zqkK => assumption); (case zqk1 | zqk2 | zqk3 | zqk4 | zqk5 => (k_dflt k_asm)); (case zqk6 | zqk7 => k_is); (case zqk8 => ktr_room); (case zqk9 => first | exact BindsTo.of_eq rfl | exact binds_K (by k_in) rfl (by k_is) rfl rfl rfl); (case zqc5 => decide); (case zqkB => exact locs rfl); (case zqc2 | zqc3 | zqc4 => exact rfl))
          k_with "ent C" => (refine' code_defC ?zqk1 ?zqk2 ?zqk3 ?zqk4 ?zqk5 ?zqkA ?zqkF ?zqkK ?zqk6 ?zqk7 ?zqk8 ?zqk9 ?zqkB ?zqkD ?_ ?zqc2 ?zqc3 ?zqc4; (case zqkA | zqkF => exact rfl); (case zqkK => first | exact rfl | assumption); (case zqk1 | zqk2 | zqk3 | zqk4 | zqk5 => (k_dflt k_asm)); (case zqk6 | zqk7 => k_is); (case zqk8 => ktr_room); (case zqk9 => first | exact BindsTo.of_eq rfl | exact binds_K (by k_in) rfl (by k_is) rfl rfl rfl); (case zqkD => decide +kernel); (case zqkB | zqc2 | zqc3 | zqc4 => exact rfl))
          k_with "k_room" => (ktr_room)
          k_with "w exec For Name Call cons nil" => (k_here; (rename Fr _ _ _ _ => lF'); (with_unfolding_all refine' For_invVF lF' ?zqk1 ?zqk2 ?_; (case zqk1 => exact rfl); (case zqk2 => exact rfl); k_whole))
          k_with "w eval ListComp" => (k_here; k_extra "comp yes"; k_dflt (first | refine LCg.ListComp_U (F₀ := by k_asm) (by with_unfolding_all rfl) (by decide) (by rfl) (by decide) (by rfl) ?_ | refine LCt.ListComp_T (F₀ := by k_asm) (by with_unfolding_all rfl) (by decide) (by rfl) (by decide) (by rfl) ?_))
          k_with "w exec Assign cons ListComp" => (k_here; k_extra "comp yes"; k_dflt (refine wpAny_Assign_Name ?_))
          k_with "w CompSrc" => (k_extra "halt src"; refine halt ?_)
          k_with "w CompSrcT" => (k_extra "halt src"; refine halt ?_)
          k_with "w call builtin:str.join" => (k_extra "halt join"; refine halt ?_)
          k_with "w call builtin:str.split" => (k_extra "halt split"; refine halt ?_)
          k_with "w subscriptTail Name BinOp ref int" => (k_extra "halt sub"; refine halt ?_)
          k_with "w subscriptTail Name BinOp ref int" => (k_here; k_extra "lit sub")
          k_with "w subscriptTail" => (k_here; k_extra "lit sub")
          k_with "w call builtin:len" => (k_extra "halt len"; refine halt ?_)
          k_with "w subscriptTail Name Slice ref ref" => (k_extra "halt slice"; refine halt ?_)
          k_with "w subscriptTail Subscript BinOp ref int" => (k_extra "halt sub"; refine halt ?_)
          k_with "w call builtin:list.append" => (k_here; k_extra "my append")
          k_with "w subscriptTail" => (k_extra "halt any"; refine halt ?_)
          k_with "w pyIter ref" => (k_extra "halt iter"; refine halt ?_)
          k_with "w exec Expr" => (k_extra "halt stm"; refine halt ?_)
          k_with "w eval IfExp" => (k_extra "halt if"; refine halt ?_)
          k_with "comp yes" => skip
          k_with "halt src" => skip
          k_steps
          refine unhalt ?_
          (rename IsRange _ _ _ _ _ _ _ _ => rgH)
          refine' LCg.CompSrc.range (by rfl) (by k_asm) (by k_asm) rgH (by rfl) (by rfl) (by decide) ?_
          intro g6
          refine comp_inv (fun i ys nw => nw = _ ∧ DatAll [] ys ((List.range i).map fun (k : Nat) => .str (dotS (dot ([ra, rb, rc, re].getD k 0) k)))) 4 ?_ ?_ _ 0 [] _ (by rfl) ⟨rfl, .nil⟩
          · rintro j v I oI Cn oC D m₂ h tk ys nw9 E' hj ⟨tj, rfl⟩ ⟨rfl, hys⟩ ho hx F9 N9 off9 ne9
            have hj4 : j = 0 ∨ j = 1 ∨ j = 2 ∨ j = 3 := four_cases (by assumption)
            obtain ⟨rj, hrj⟩ : ∃ rj, [ra, rb, rc, re].getD j 0 = rj := ⟨_, rfl⟩
            obtain ⟨tv, htv⟩ : ∃ tv, [Value.int (ra : Int) v1, .int (rb : Int) v2, .int (rc : Int) v3, .int (re : Int) v4][((0 : Int) + (j : Int)).toNat]? = some (.int (rj : Int) tv) := by
              rcases hj4 with rfl | rfl | rfl | rfl <;> (subst hrj; exact ⟨_, rfl⟩)
            k_with_none
            k_with "nX" => (first | exact ltA0 ‹_› | exact ltA1 ‹_› | exact ltA2 ‹_› | exact ltA3 ‹_› | exact ltA4 ‹_› | exact ltA5 ‹_› | exact ltA6 ‹_› | exact ltA7 ‹_› | exact ltA8 ‹_› | exact ltA9 ‹_› | exact ltA10 ‹_› | exact ltA11 ‹_› | exact ltA12 ‹_› | exact ltA13 ‹_› | exact neA0 ‹_› | exact neA1 ‹_› | exact neA2 ‹_› | exact neA3 ‹_› | exact neA4 ‹_› | exact neA5 ‹_› | exact neA6 ‹_› | exact neA7 ‹_› | exact neA8 ‹_› | exact neA9 ‹_› | exact neA10 ‹_› | exact neA11 ‹_› | exact neA12 ‹_›)
            k_with "k_ne" => (first | k_extra "nX" | (refine Ne.symm ?_; k_extra "nX"))
            k_with "k_all" => (first | exact List.forall_mem_nil _ | (refine' List.forall_mem_cons.mpr ⟨?zqa, ?zqb⟩; (case zqa => k_ne); (case zqb => k_all)) | assumption | exact al3s ‹_› | exact al0 ‹_› | exact al1 ‹_› | exact al2 ‹_› | exact al3 ‹_› | exact al4 ‹_› | exact al5 ‹_› | exact al6 ‹_› | exact al7 ‹_› | exact al8 ‹_› | exact al9 ‹_› | exact al10 ‹_› | exact al11 ‹_› | exact of2 ‹_›)
            k_with "ent D" => (refine' code_def ?zqk1 ?zqk2 ?zqk3 ?zqk4 ?zqk5 ?zqkA ?zqkF ?zqkK ?zqk6 ?zqk7 ?zqk8 ?zqk9 ?zqkB ?_ ?zqc2 ?zqc3 ?zqc4 ?zqc5; (case zqkA | zqkF => exact rfl); (case zqkK => assumption); (case zqk1 | zqk2 | zqk3 | zqk4 | zqk5 => (k_dflt k_asm)); (case zqk6 | zqk7 => k_is); (case zqk8 => ktr_room); (case zqk9 => first | exact BindsTo.of_eq rfl | exact binds_K (by k_in) rfl (by k_is) rfl rfl rfl); (case zqc5 => decide); (case zqkB => exact locs rfl); (case zqc2 | zqc3 | zqc4 => exact rfl))
            k_with "ent C" => (refine' code_defC ?zqk1 ?zqk2 ?zqk3 ?zqk4 ?zqk5 ?zqkA ?zqkF ?zqkK ?zqk6 ?zqk7 ?zqk8 ?zqk9 ?zqkB ?zqkD ?_ ?zqc2 ?zqc3 ?zqc4; (case zqkA | zqkF => exact rfl); (case zqkK => first | exact rfl | assumption); (case zqk1 | zqk2 | zqk3 | zqk4 | zqk5 => (k_dflt k_asm)); (case zqk6 | zqk7 => k_is); (case zqk8 => ktr_room); (case zqk9 => first | exact BindsTo.of_eq rfl | exact binds_K (by k_in) rfl (by k_is) rfl rfl rfl); (case zqkD => decide +kernel); (case zqkB | zqc2 | zqc3 | zqc4 => exact rfl))
            k_with "k_room" => (ktr_room)
            k_with "w exec For Name Call cons nil" => (k_here; (rename Fr _ _ _ _ => lF'); (with_unfolding_all refine' For_invVF lF' ?zqk1 ?zqk2 ?_; (case zqk1 => exact rfl); (case zqk2 => exact rfl); k_whole))
            k_with "w eval ListComp" => (k_here; k_extra "comp yes"; k_dflt (first | refine LCg.ListComp_U (F₀ := by k_asm) (by with_unfolding_all rfl) (by decide) (by rfl) (by decide) (by rfl) ?_ | refine LCt.ListComp_T (F₀ := by k_asm) (by with_unfolding_all rfl) (by decide) (by rfl) (by decide) (by rfl) ?_))
            k_with "w exec Assign cons ListComp" => (k_here; k_extra "comp yes"; k_dflt (refine wpAny_Assign_Name ?_))
            k_with "w CompSrc" => (k_extra "halt src"; refine halt ?_)
            k_with "w CompSrcT" => (k_extra "halt src"; refine halt ?_)
            k_with "w call builtin:str.join" => (k_extra "halt join"; refine halt ?_)
            k_with "w call builtin:str.split" => (k_extra "halt split"; refine halt ?_)
            k_with "w subscriptTail Name BinOp ref int" => (k_extra "halt sub"; refine halt ?_)
            k_with "w subscriptTail Name BinOp ref int" => (k_here; k_extra "lit sub")
            k_with "w subscriptTail" => (k_here; k_extra "lit sub")
            k_with "w call builtin:len" => (k_extra "halt len"; refine halt ?_)
            k_with "w subscriptTail Name Slice ref ref" => (k_extra "halt slice"; refine halt ?_)
            k_with "w subscriptTail Subscript BinOp ref int" => (k_extra "halt sub"; refine halt ?_)
            k_with "w call builtin:list.append" => (k_here; k_extra "my append")
            k_with "w subscriptTail" => (k_extra "halt any"; refine halt ?_)
            k_with "w pyIter ref" => (k_extra "halt iter"; refine halt ?_)
            k_with "w exec Expr" => (k_extra "halt stm"; refine halt ?_)
            k_with "w eval IfExp" => (k_extra "halt if"; refine halt ?_)
            k_with "lit sub" => ((k_dflt (refine' lit_itemN ?l1 ?l2 ?l3 ?l4 htv ?_ ?l6)); (case l1 => (k_dflt k_asm)); (case l2 => (k_dflt k_mem)); (case l3 => omega); (case l4 => omega); (case l6 => with_unfolding_all rfl); (try k_fold))
            k_steps
            refine LCg.CompEnd.intro (by k_asm) (by assumption) _ ?subHA off9 trivial ⟨rfl, ?hdHA⟩
            case subHA => kqd_sub
            case hdHA => rw [List.range_succ, List.map_append]; exact hys.append (one_str (item_dot hj4))
          · rintro ysH nwH ⟨rfl, hysH⟩
            k_with_none
            k_with "nX" => (first | exact ltA0 ‹_› | exact ltA1 ‹_› | exact ltA2 ‹_› | exact ltA3 ‹_› | exact ltA4 ‹_› | exact ltA5 ‹_› | exact ltA6 ‹_› | exact ltA7 ‹_› | exact ltA8 ‹_› | exact ltA9 ‹_› | exact ltA10 ‹_› | exact ltA11 ‹_› | exact ltA12 ‹_› | exact ltA13 ‹_› | exact neA0 ‹_› | exact neA1 ‹_› | exact neA2 ‹_› | exact neA3 ‹_› | exact neA4 ‹_› | exact neA5 ‹_› | exact neA6 ‹_› | exact neA7 ‹_› | exact neA8 ‹_› | exact neA9 ‹_› | exact neA10 ‹_› | exact neA11 ‹_› | exact neA12 ‹_›)
            k_with "k_ne" => (first | k_extra "nX" | (refine Ne.symm ?_; k_extra "nX"))
            k_with "k_all" => (first | exact List.forall_mem_nil _ | (refine' List.forall_mem_cons.mpr ⟨?zqa, ?zqb⟩; (case zqa => k_ne); (case zqb => k_all)) | assumption | exact al3s ‹_› | exact al0 ‹_› | exact al1 ‹_› | exact al2 ‹_› | exact al3 ‹_› | exact al4 ‹_› | exact al5 ‹_› | exact al6 ‹_› | exact al7 ‹_› | exact al8 ‹_› | exact al9 ‹_› | exact al10 ‹_› | exact al11 ‹_› | exact of2 ‹_›)
            k_with "ent D" => (refine' code_def ?zqk1 ?zqk2 ?zqk3 ?zqk4 ?zqk5 ?zqkA ?zqkF ?zqkK ?zqk6 ?zqk7 ?zqk8 ?zqk9 ?zqkB ?_ ?zqc2 ?zqc3 ?zqc4 ?zqc5; (case zqkA | zqkF => exact rfl); (case zqkK => assumption); (case zqk1 | zqk2 | zqk3 | zqk4 | zqk5 => (k_dflt k_asm)); (case zqk6 | zqk7 => k_is); (case zqk8 => ktr_room); (case zqk9 => first | exact BindsTo.of_eq rfl | exact binds_K (by k_in) rfl (by k_is) rfl rfl rfl); (case zqc5 => decide); (case zqkB => exact locs rfl); (case zqc2 | zqc3 | zqc4 => exact rfl))
            k_with "ent C" => (refine' code_defC ?zqk1 ?zqk2 ?zqk3 ?zqk4 ?zqk5 ?zqkA ?zqkF ?zqkK ?zqk6 ?zqk7 ?zqk8 ?zqk9 ?zqkB ?zqkD ?_ ?zqc2 ?zqc3 ?zqc4; (case zqkA | zqkF => exact rfl); (case zqkK => first | exact rfl | assumption); (case zqk1 | zqk2 | zqk3 | zqk4 | zqk5 => (k_dflt k_asm)); (case zqk6 | zqk7 => k_is); (case zqk8 => ktr_room); (case zqk9 => first | exact BindsTo.of_eq rfl | exact binds_K (by k_in) rfl (by k_is) rfl rfl rfl); (case zqkD => decide +kernel); (case zqkB | zqc2 | zqc3 | zqc4 => exact rfl))
            k_with "k_room" => (ktr_room)
            k_with "w exec For Name Call cons nil" => (k_here; (rename Fr _ _ _ _ => lF'); (with_unfolding_all refine' For_invVF lF' ?zqk1 ?zqk2 ?_; (case zqk1 => exact rfl); (case zqk2 => exact rfl); k_whole))
            k_with "w eval ListComp" => (k_here; k_extra "comp yes"; k_dflt (first | refine LCg.ListComp_U (F₀ := by k_asm) (by with_unfolding_all rfl) (by decide) (by rfl) (by decide) (by rfl) ?_ | refine LCt.ListComp_T (F₀ := by k_asm) (by with_unfolding_all rfl) (by decide) (by rfl) (by decide) (by rfl) ?_))
            k_with "w exec Assign cons ListComp" => (k_here; k_extra "comp yes"; k_dflt (refine wpAny_Assign_Name ?_))
            k_with "w CompSrc" => (k_extra "halt src"; refine halt ?_)
            k_with "w CompSrcT" => (k_extra "halt src"; refine halt ?_)
            k_with "w call builtin:str.join" => (k_extra "halt join"; refine halt ?_)
            k_with "w call builtin:str.split" => (k_extra "halt split"; refine halt ?_)
            k_with "w subscriptTail Name BinOp ref int" => (k_extra "halt sub"; refine halt ?_)
            k_with "w subscriptTail Name BinOp ref int" => (k_here; k_extra "lit sub")
            k_with "w subscriptTail" => (k_here; k_extra "lit sub")
            k_with "w call builtin:len" => (k_extra "halt len"; refine halt ?_)
            k_with "w subscriptTail Name Slice ref ref" => (k_extra "halt slice"; refine halt ?_)
            k_with "w subscriptTail Subscript BinOp ref int" => (k_extra "halt sub"; refine halt ?_)
            k_with "w call builtin:list.append" => (k_here; k_extra "my append")
            k_with "w subscriptTail" => (k_extra "halt any"; refine halt ?_)
            k_with "w pyIter ref" => (k_extra "halt iter"; refine halt ?_)
            k_with "w exec Expr" => (k_extra "halt stm"; refine halt ?_)
            k_with "w eval IfExp" => (k_extra "halt if"; refine halt ?_)
            k_with "my append" => ((with_reducible show wpAny _ _ (call (Value.builtin _) [Value.ref _, _]) _ _ _); (k_dflt (refine' append_K ?k1 ?k2 ?k3 ?_ ?z; (case k1 => k_asm); (case k2 => k_asm); (case k3 => k_upd); (case z => size_fits); k_whole)); intro h' F' N'; (try k_fold); refine halt ?_)
            k_steps
            refine unhalt ?_
            k_with_none
            k_with "nX" => (first | exact ltA0 ‹_› | exact ltA1 ‹_› | exact ltA2 ‹_› | exact ltA3 ‹_› | exact ltA4 ‹_› | exact ltA5 ‹_› | exact ltA6 ‹_› | exact ltA7 ‹_› | exact ltA8 ‹_› | exact ltA9 ‹_› | exact ltA10 ‹_› | exact ltA11 ‹_› | exact ltA12 ‹_› | exact ltA13 ‹_› | exact neA0 ‹_› | exact neA1 ‹_› | exact neA2 ‹_› | exact neA3 ‹_› | exact neA4 ‹_› | exact neA5 ‹_› | exact neA6 ‹_› | exact neA7 ‹_› | exact neA8 ‹_› | exact neA9 ‹_› | exact neA10 ‹_› | exact neA11 ‹_› | exact neA12 ‹_›)
            k_with "k_ne" => (first | k_extra "nX" | (refine Ne.symm ?_; k_extra "nX"))
            k_with "k_all" => (first | exact List.forall_mem_nil _ | (refine' List.forall_mem_cons.mpr ⟨?zqa, ?zqb⟩; (case zqa => k_ne); (case zqb => k_all)) | assumption | exact al3s ‹_› | exact al0 ‹_› | exact al1 ‹_› | exact al2 ‹_› | exact al3 ‹_› | exact al4 ‹_› | exact al5 ‹_› | exact al6 ‹_› | exact al7 ‹_› | exact al8 ‹_› | exact al9 ‹_› | exact al10 ‹_› | exact al11 ‹_› | exact of2 ‹_›)
            k_with "ent D" => (refine' code_def ?zqk1 ?zqk2 ?zqk3 ?zqk4 ?zqk5 ?zqkA ?zqkF ?zqkK ?zqk6 ?zqk7 ?zqk8 ?zqk9 ?zqkB ?_ ?zqc2 ?zqc3 ?zqc4 ?zqc5; (case zqkA | zqkF => exact rfl); (case zqkK => assumption); (case zqk1 | zqk2 | zqk3 | zqk4 | zqk5 => (k_dflt k_asm)); (case zqk6 | zqk7 => k_is); (case zqk8 => ktr_room); (case zqk9 => first | exact BindsTo.of_eq rfl | exact binds_K (by k_in) rfl (by k_is) rfl rfl rfl); (case zqc5 => decide); (case zqkB => exact locs rfl); (case zqc2 | zqc3 | zqc4 => exact rfl))
            k_with "ent C" => (refine' code_defC ?zqk1 ?zqk2 ?zqk3 ?zqk4 ?zqk5 ?zqkA ?zqkF ?zqkK ?zqk6 ?zqk7 ?zqk8 ?zqk9 ?zqkB ?zqkD ?_ ?zqc2 ?zqc3 ?zqc4; (case zqkA | zqkF => exact rfl); (case zqkK => first | exact rfl | assumption); (case zqk1 | zqk2 | zqk3 | zqk4 | zqk5 => (k_dflt k_asm)); (case zqk6 | zqk7 => k_is); (case zqk8 => ktr_room); (case zqk9 => first | exact BindsTo.of_eq rfl | exact binds_K (by k_in) rfl (by k_is) rfl rfl rfl); (case zqkD => decide +kernel); (case zqkB | zqc2 | zqc3 | zqc4 => exact rfl))
            k_with "k_room" => (ktr_room)
            k_with "w exec For Name Call cons nil" => (k_here; (rename Fr _ _ _ _ => lF'); (with_unfolding_all refine' For_invVF lF' ?zqk1 ?zqk2 ?_; (case zqk1 => exact rfl); (case zqk2 => exact rfl); k_whole))
            k_with "w eval ListComp" => (k_here; k_extra "comp yes"; k_dflt (first | refine LCg.ListComp_U (F₀ := by k_asm) (by with_unfolding_all rfl) (by decide) (by rfl) (by decide) (by rfl) ?_ | refine LCt.ListComp_T (F₀ := by k_asm) (by with_unfolding_all rfl) (by decide) (by rfl) (by decide) (by rfl) ?_))
            k_with "w exec Assign cons ListComp" => (k_here; k_extra "comp yes"; k_dflt (refine wpAny_Assign_Name ?_))
            k_with "w CompSrc" => (k_extra "halt src"; refine halt ?_)
            k_with "w CompSrcT" => (k_extra "halt src"; refine halt ?_)
            k_with "w call builtin:str.join" => (k_extra "halt join"; refine halt ?_)
            k_with "w call builtin:str.split" => (k_extra "halt split"; refine halt ?_)
            k_with "w subscriptTail Name BinOp ref int" => (k_extra "halt sub"; refine halt ?_)
            k_with "w subscriptTail Name BinOp ref int" => (k_here; k_extra "lit sub")
            k_with "w subscriptTail" => (k_here; k_extra "lit sub")
            k_with "w call builtin:len" => (k_extra "halt len"; refine halt ?_)
            k_with "w subscriptTail Name Slice ref ref" => (k_extra "halt slice"; refine halt ?_)
            k_with "w subscriptTail Subscript BinOp ref int" => (k_extra "halt sub"; refine halt ?_)
            k_with "w call builtin:list.append" => (k_here; k_extra "my append")
            k_with "w subscriptTail" => (k_extra "halt any"; refine halt ?_)
            k_with "w pyIter ref" => (k_extra "halt iter"; refine halt ?_)
            k_with "w exec Expr" => (k_extra "halt stm"; refine halt ?_)
            k_with "w eval IfExp" => (k_extra "halt if"; refine halt ?_)
            k_with "halt if" => skip
            k_steps
            refine unhalt ?_
            (try dsimp only)
            (rename Fr _ _ _ _ => lF)
            (rename News _ _ _ _ => lN)
            with_unfolding_all refine wp_join (fun v => ∃ t, v = .int (((if 0 < q then [ra, rb, rc, re].getD (q - 1) 0 else ([ra, rb, rc, re].getD 0 0 + 1) % 3 : Nat)) : Int) t) lF lN ?_ ?_
            · k_with_none
              k_with "nX" => (first | exact ltA0 ‹_› | exact ltA1 ‹_› | exact ltA2 ‹_› | exact ltA3 ‹_› | exact ltA4 ‹_› | exact ltA5 ‹_› | exact ltA6 ‹_› | exact ltA7 ‹_› | exact ltA8 ‹_› | exact ltA9 ‹_› | exact ltA10 ‹_› | exact ltA11 ‹_› | exact ltA12 ‹_› | exact ltA13 ‹_› | exact neA0 ‹_› | exact neA1 ‹_› | exact neA2 ‹_› | exact neA3 ‹_› | exact neA4 ‹_› | exact neA5 ‹_› | exact neA6 ‹_› | exact neA7 ‹_› | exact neA8 ‹_› | exact neA9 ‹_› | exact neA10 ‹_› | exact neA11 ‹_› | exact neA12 ‹_›)
              k_with "k_ne" => (first | k_extra "nX" | (refine Ne.symm ?_; k_extra "nX"))
              k_with "k_all" => (first | exact List.forall_mem_nil _ | (refine' List.forall_mem_cons.mpr ⟨?zqa, ?zqb⟩; (case zqa => k_ne); (case zqb => k_all)) | assumption | exact al3s ‹_› | exact al0 ‹_› | exact al1 ‹_› | exact al2 ‹_› | exact al3 ‹_› | exact al4 ‹_› | exact al5 ‹_› | exact al6 ‹_› | exact al7 ‹_› | exact al8 ‹_› | exact al9 ‹_› | exact al10 ‹_› | exact al11 ‹_› | exact of2 ‹_›)
              k_with "ent D" => (refine' code_def ?zqk1 ?zqk2 ?zqk3 ?zqk4 ?zqk5 ?zqkA ?zqkF ?zqkK ?zqk6 ?zqk7 ?zqk8 ?zqk9 ?zqkB ?_ ?zqc2 ?zqc3 ?zqc4 ?zqc5; (case zqkA | zqkF => exact rfl); (case zqkK => assumption); (case zqk1 | zqk2 | zqk3 | zqk4 | zqk5 => (k_dflt k_asm)); (case zqk6 | zqk7 => k_is); (case zqk8 => ktr_room); (case zqk9 => first | exact BindsTo.of_eq rfl | exact binds_K (by k_in) rfl (by k_is) rfl rfl rfl); (case zqc5 => decide); (case zqkB => exact locs rfl); (case zqc2 | zqc3 | zqc4 => exact rfl))
              k_with "ent C" => (refine' code_defC ?zqk1 ?zqk2 ?zqk3 ?zqk4 ?zqk5 ?zqkA ?zqkF ?zqkK ?zqk6 ?zqk7 ?zqk8 ?zqk9 ?zqkB ?zqkD ?_ ?zqc2 ?zqc3 ?zqc4; (case zqkA | zqkF => exact rfl); (case zqkK => first | exact rfl | assumption); (case zqk1 | zqk2 | zqk3 | zqk4 | zqk5 => (k_dflt k_asm)); (case zqk6 | zqk7 => k_is); (case zqk8 => ktr_room); (case zqk9 => first | exact BindsTo.of_eq rfl | exact binds_K (by k_in) rfl (by k_is) rfl rfl rfl); (case zqkD => decide +kernel); (case zqkB | zqc2 | zqc3 | zqc4 => exact rfl))
              k_with "k_room" => (ktr_room)
              k_with "w exec For Name Call cons nil" => (k_here; (rename Fr _ _ _ _ => lF'); (with_unfolding_all refine' For_invVF lF' ?zqk1 ?zqk2 ?_; (case zqk1 => exact rfl); (case zqk2 => exact rfl); k_whole))
              k_with "w eval ListComp" => (k_here; k_extra "comp yes"; k_dflt (first | refine LCg.ListComp_U (F₀ := by k_asm) (by with_unfolding_all rfl) (by decide) (by rfl) (by decide) (by rfl) ?_ | refine LCt.ListComp_T (F₀ := by k_asm) (by with_unfolding_all rfl) (by decide) (by rfl) (by decide) (by rfl) ?_))
              k_with "w exec Assign cons ListComp" => (k_here; k_extra "comp yes"; k_dflt (refine wpAny_Assign_Name ?_))
              k_with "w CompSrc" => (k_extra "halt src"; refine halt ?_)
              k_with "w CompSrcT" => (k_extra "halt src"; refine halt ?_)
              k_with "w call builtin:str.join" => (k_extra "halt join"; refine halt ?_)
              k_with "w call builtin:str.split" => (k_extra "halt split"; refine halt ?_)
              k_with "w subscriptTail Name BinOp ref int" => (k_extra "halt sub"; refine halt ?_)
              k_with "w subscriptTail Name BinOp ref int" => (k_here; k_extra "lit sub")
              k_with "w subscriptTail" => (k_here; k_extra "lit sub")
              k_with "w call builtin:len" => (k_extra "halt len"; refine halt ?_)
              k_with "w subscriptTail Name Slice ref ref" => (k_extra "halt slice"; refine halt ?_)
              k_with "w subscriptTail Subscript BinOp ref int" => (k_extra "halt sub"; refine halt ?_)
              k_with "w call builtin:list.append" => (k_here; k_extra "my append")
              k_with "w subscriptTail" => (k_extra "halt any"; refine halt ?_)
              k_with "w pyIter ref" => (k_extra "halt iter"; refine halt ?_)
              k_with "w exec Expr" => (k_extra "halt stm"; refine halt ?_)
              k_with "w eval IfExp" => (k_extra "halt if"; refine halt ?_)
              refine hideI ?_
              intro Q8 eQ8
              have hq4' : q = 0 ∨ q = 1 ∨ q = 2 ∨ q = 3 := four_cases (by assumption)
              rcases hq4' with rfl | rfl | rfl | rfl
              · k_steps
                refine eQ8 _ _ ?_
                exact ⟨_, _, ⟨_, congrArg (fun z => Value.int z _) ((ring_up ra rb rc re))⟩, rfl, by k_asm, by assumption⟩
              · k_steps
                refine eQ8 _ _ ?_
                exact ⟨_, _, ⟨_, congrArg (fun z => Value.int z _) (rfl)⟩, rfl, by k_asm, by assumption⟩
              · k_steps
                refine eQ8 _ _ ?_
                exact ⟨_, _, ⟨_, congrArg (fun z => Value.int z _) (rfl)⟩, rfl, by k_asm, by assumption⟩
              · k_steps
                refine eQ8 _ _ ?_
                exact ⟨_, _, ⟨_, congrArg (fun z => Value.int z _) (rfl)⟩, rfl, by k_asm, by assumption⟩
            intro v8 h8 tk8 hv8 F8 N8
            obtain ⟨tv8, rfl⟩ := hv8
            clear lF lN
            (try dsimp only)
            try k_fold
            k_with_none
            k_with "nX" => (first | exact ltA0 ‹_› | exact ltA1 ‹_› | exact ltA2 ‹_› | exact ltA3 ‹_› | exact ltA4 ‹_› | exact ltA5 ‹_› | exact ltA6 ‹_› | exact ltA7 ‹_› | exact ltA8 ‹_› | exact ltA9 ‹_› | exact ltA10 ‹_› | exact ltA11 ‹_› | exact ltA12 ‹_› | exact ltA13 ‹_› | exact neA0 ‹_› | exact neA1 ‹_› | exact neA2 ‹_› | exact neA3 ‹_› | exact neA4 ‹_› | exact neA5 ‹_› | exact neA6 ‹_› | exact neA7 ‹_› | exact neA8 ‹_› | exact neA9 ‹_› | exact neA10 ‹_› | exact neA11 ‹_› | exact neA12 ‹_›)
            k_with "k_ne" => (first | k_extra "nX" | (refine Ne.symm ?_; k_extra "nX"))
            k_with "k_all" => (first | exact List.forall_mem_nil _ | (refine' List.forall_mem_cons.mpr ⟨?zqa, ?zqb⟩; (case zqa => k_ne); (case zqb => k_all)) | assumption | exact al3s ‹_› | exact al0 ‹_› | exact al1 ‹_› | exact al2 ‹_› | exact al3 ‹_› | exact al4 ‹_› | exact al5 ‹_› | exact al6 ‹_› | exact al7 ‹_› | exact al8 ‹_› | exact al9 ‹_› | exact al10 ‹_› | exact al11 ‹_› | exact of2 ‹_›)
            k_with "ent D" => (refine' code_def ?zqk1 ?zqk2 ?zqk3 ?zqk4 ?zqk5 ?zqkA ?zqkF ?zqkK ?zqk6 ?zqk7 ?zqk8 ?zqk9 ?zqkB ?_ ?zqc2 ?zqc3 ?zqc4 ?zqc5; (case zqkA | zqkF => exact rfl); (case zqkK => assumption); (case zqk1 | zqk2 | zqk3 | zqk4 | zqk5 => (k_dflt k_asm)); (case zqk6 | zqk7 => k_is); (case zqk8 => ktr_room); (case zqk9 => first | exact BindsTo.of_eq rfl | exact binds_K (by k_in) rfl (by k_is) rfl rfl rfl); (case zqc5 => decide); (case zqkB => exact locs rfl); (case zqc2 | zqc3 | zqc4 => exact rfl))
            k_with "ent C" => (refine' code_defC ?zqk1 ?zqk2 ?zqk3 ?zqk4 ?zqk5 ?zqkA ?zqkF ?zqkK ?zqk6 ?zqk7 ?zqk8 ?zqk9 ?zqkB ?zqkD ?_ ?zqc2 ?zqc3 ?zqc4; (case zqkA | zqkF => exact rfl); (case zqkK => first | exact rfl | assumption); (case zqk1 | zqk2 | zqk3 | zqk4 | zqk5 => (k_dflt k_asm)); (case zqk6 | zqk7 => k_is); (case zqk8 => ktr_room); (case zqk9 => first | exact BindsTo.of_eq rfl | exact binds_K (by k_in) rfl (by k_is) rfl rfl rfl); (case zqkD => decide +kernel); (case zqkB | zqc2 | zqc3 | zqc4 => exact rfl))
            k_with "k_room" => (ktr_room)
            k_with "w exec For Name Call cons nil" => (k_here; (rename Fr _ _ _ _ => lF'); (with_unfolding_all refine' For_invVF lF' ?zqk1 ?zqk2 ?_; (case zqk1 => exact rfl); (case zqk2 => exact rfl); k_whole))
            k_with "w eval ListComp" => (k_here; k_extra "comp yes"; k_dflt (first | refine LCg.ListComp_U (F₀ := by k_asm) (by with_unfolding_all rfl) (by decide) (by rfl) (by decide) (by rfl) ?_ | refine LCt.ListComp_T (F₀ := by k_asm) (by with_unfolding_all rfl) (by decide) (by rfl) (by decide) (by rfl) ?_))
            k_with "w exec Assign cons ListComp" => (k_here; k_extra "comp yes"; k_dflt (refine wpAny_Assign_Name ?_))
            k_with "w CompSrc" => (k_extra "halt src"; refine halt ?_)
            k_with "w CompSrcT" => (k_extra "halt src"; refine halt ?_)
            k_with "w call builtin:str.join" => (k_extra "halt join"; refine halt ?_)
            k_with "w call builtin:str.split" => (k_extra "halt split"; refine halt ?_)
            k_with "w subscriptTail Name BinOp ref int" => (k_extra "halt sub"; refine halt ?_)
            k_with "w subscriptTail Name BinOp ref int" => (k_here; k_extra "lit sub")
            k_with "w subscriptTail" => (k_here; k_extra "lit sub")
            k_with "w call builtin:len" => (k_extra "halt len"; refine halt ?_)
            k_with "w subscriptTail Name Slice ref ref" => (k_extra "halt slice"; refine halt ?_)
            k_with "w subscriptTail Subscript BinOp ref int" => (k_extra "halt sub"; refine halt ?_)
            k_with "w call builtin:list.append" => (k_here; k_extra "my append")
            k_with "w subscriptTail" => (k_extra "halt any"; refine halt ?_)
            k_with "w pyIter ref" => (k_extra "halt iter"; refine halt ?_)
            k_with "w exec Expr" => (k_extra "halt stm"; refine halt ?_)
            k_with "w eval IfExp" => (k_extra "halt if"; refine halt ?_)
            k_steps
            refine eQ9 _ _ ?_
            k_steps
            (rename News _ _ _ _ => nE0)
            obtain ⟨aT, Dh, Dm, vsN, e1, e2, e3, nE, hIN⟩ := due_end nE0 (ring_set (q := q) hIs rfl)
            subst e1 e2 e3
            clear nE0
            (rename (_ ∧ _ ∧ _ ∧ _ ∧ _ ∧ _ ∧ AllLt aT _) => lT)
            (rename (_ ∧ _ ∧ _ ∧ _ ∧ LCg.Off1 Dm W) => lM)
            (rename (_ ∧ _ ∧ _ ∧ _ ∧ _ ∧ LCg.Off1 Dh W) => lH)
            have w2 : ∀ p ∈ W, p.1 ≠ aT := allLt_ne lT.2.2.2.2.2.2
            have w3 : ∀ p ∈ W, p.1 ≠ Dm := Off.of1 lM.2.2.2.2
            have w4 : ∀ p ∈ W, p.1 ≠ Dh := Off.of1 lH.2.2.2.2.2
            rw [show us8.toArray.push (Value.ref aT) = (us8 ++ [Value.ref aT]).toArray from List.push_toArray ..] at nE
            refine' ls_end (c := ⟨us8 ++ [.ref aT], un8 + 1, vsN, nR8, [(aT, ({ cls := .type "tuple", data := .seq #[.ref Dh, .ref Dm, .int ((q : Nat) : Int) tq] } : Obj)), (Dm, LCg.lst ysM), (Dh, LCg.lst ysH)] ++ T8, nextR r8 q, lg8 ++ [entR told i r8]⟩) (add := [(aT, ({ cls := .type "tuple", data := .seq #[.ref Dh, .ref Dm, .int ((q : Nat) : Int) tq] } : Obj)), (Dm, LCg.lst ysM), (Dh, LCg.lst ysH)]) (by assumption) nE hsub o1 o2 o3 ?zhn ?zho rfl ?zhw ?zhb ⟨?zI, ?zf2, ?zf1, ?zf3⟩ (List.forall_mem_nil _) ?zsame ?zP
            case zhn =>
              simp only [List.cons_append, List.nil_append]
              repeat' (first | (refine List.forall_mem_cons.mpr ⟨?_, ?_⟩))
              all_goals first | k_mem | (intro q9 hq9'; repeat (first | exact hW1 q9 hq9' | refine List.Mem.tail _ ?_))
            case zho => intro q9 hq9'; repeat (first | exact hW2 q9 hq9' | refine List.Mem.tail _ ?_)
            case zhw =>
              intro q9 hq9' p9 hp9'
              simp only [List.mem_cons, List.not_mem_nil, or_false] at hq9'
              rcases hq9' with rfl | rfl | rfl
              · exact w2 p9 (hW2 p9 hp9')
              · exact w3 p9 (hW2 p9 hp9')
              · exact w4 p9 (hW2 p9 hp9')
            case zhb => exact ownOff2 (by k_all) (by k_all)
            case zI => rw [hr8]; exact hIN
            case zf1 =>
              intro q9 hq9'
              rcases List.mem_append.mp hq9' with hq9' | hq9'
              · exact List.mem_append.mpr (.inl hq9')
              · exact List.mem_append.mpr (.inr (hTs q9 hq9'))
            case zf3 =>
              intro q9 hq9' p9 hp9'
              rcases List.mem_append.mp hq9' with hq9' | hq9'
              · simp only [List.mem_cons, List.not_mem_nil, or_false] at hq9'
                rcases hq9' with rfl | rfl | rfl
                · exact w2 p9 (hWo p9 hp9')
                · exact w3 p9 (hWo p9 hp9')
                · exact w4 p9 (hWo p9 hp9')
              · exact hTl q9 hq9' p9 hp9'
            case zf2 =>
              have hent : entR told i r8 = (heldR [ra, rb, rc, re], mayR [ra, rb, rc, re], q) := by unfold entR; rw [hnum, hr8, hq]
              rw [hent, List.map_append]
              refine (hDs.mono (fun q9 hq9' => List.mem_append.mpr (.inr hq9'))).append (.cons ?_ .nil)
              exact DatIn.tuple (.head _) (.cons (.list (.tail _ (.tail _ (.head _))) ((four_dots hysH).mono (fun _ h9 => absurd h9 List.not_mem_nil))) (.cons (.list (.tail _ (.head _)) (ints_dat hysM')) (.cons (.int _ _) .nil)))
            case zsame => kst_same
            case zP =>
              show (nextR r8 q, lg8 ++ [entR told i r8]) = (nextR (runR told i).1 (pickK (told.getD (i % 9) 0) (mayR (runR told i).1)), (runR told i).2 ++ [entR told i (runR told i).1])
              rw [← hR8, ← hL8, hnum, hr8, hq]
    case done =>
      rintro ⟨us8, un8, vs8, nR8, T8, r8, lg8⟩ nw u h tk hsub o1 _ ⟨hIs, hDs, hTs, hTl⟩ hP F9 N9
      dsimp only [kstB] at F9 hIs hTs hTl hDs hP N9
      have hR8 : r8 = (runR told 20).1 := congrArg Prod.fst hP
      have hL8 : lg8 = (runR told 20).2 := congrArg Prod.snd hP
      have N8 := news_sub N9 (sub_dueEnd hsub hTs)
      clear N9 lF lN
      have hIs' : IntsAre vs8 ((runR told 20).1.map fun (q : Nat) => (q : Int)) := by rw [← hR8]; exact hIs
      have hDs' : DatAll T8 us8 ((runR told 20).2.map entD) := by rw [← hL8]; exact hDs
      k_with_none
      k_with "nX" => (first | exact ltA0 ‹_› | exact ltA1 ‹_› | exact ltA2 ‹_› | exact ltA3 ‹_› | exact ltA4 ‹_› | exact ltA5 ‹_› | exact ltA6 ‹_› | exact ltA7 ‹_› | exact ltA8 ‹_› | exact ltA9 ‹_› | exact ltA10 ‹_› | exact ltA11 ‹_› | exact ltA12 ‹_› | exact ltA13 ‹_› | exact neA0 ‹_› | exact neA1 ‹_› | exact neA2 ‹_› | exact neA3 ‹_› | exact neA4 ‹_› | exact neA5 ‹_› | exact neA6 ‹_› | exact neA7 ‹_› | exact neA8 ‹_› | exact neA9 ‹_› | exact neA10 ‹_› | exact neA11 ‹_› | exact neA12 ‹_›)
      k_with "k_ne" => (first | k_extra "nX" | (refine Ne.symm ?_; k_extra "nX"))
      k_with "k_all" => (first | exact List.forall_mem_nil _ | (refine' List.forall_mem_cons.mpr ⟨?zqa, ?zqb⟩; (case zqa => k_ne); (case zqb => k_all)) | assumption | exact al3s ‹_› | exact al0 ‹_› | exact al1 ‹_› | exact al2 ‹_› | exact al3 ‹_› | exact al4 ‹_› | exact al5 ‹_› | exact al6 ‹_› | exact al7 ‹_› | exact al8 ‹_› | exact al9 ‹_› | exact al10 ‹_› | exact al11 ‹_› | exact of2 ‹_›)
      k_with "ent D" => (refine' code_def ?zqk1 ?zqk2 ?zqk3 ?zqk4 ?zqk5 ?zqkA ?zqkF ?zqkK ?zqk6 ?zqk7 ?zqk8 ?zqk9 ?zqkB ?_ ?zqc2 ?zqc3 ?zqc4 ?zqc5; (case zqkA | zqkF => exact rfl); (case zqkK => assumption); (case zqk1 | zqk2 | zqk3 | zqk4 | zqk5 => (k_dflt k_asm)); (case zqk6 | zqk7 => k_is); (case zqk8 => ktr_room); (case zqk9 => first | exact BindsTo.of_eq rfl | exact binds_K (by k_in) rfl (by k_is) rfl rfl rfl); (case zqc5 => decide); (case zqkB => exact locs rfl); (case zqc2 | zqc3 | zqc4 => exact rfl))
      k_with "ent C" => (refine' code_defC ?zqk1 ?zqk2 ?zqk3 ?zqk4 ?zqk5 ?zqkA ?zqkF ?zqkK ?zqk6 ?zqk7 ?zqk8 ?zqk9 ?zqkB ?zqkD ?_ ?zqc2 ?zqc3 ?zqc4; (case zqkA | zqkF => exact rfl); (case zqkK => first | exact rfl | assumption); (case zqk1 | zqk2 | zqk3 | zqk4 | zqk5 => (k_dflt k_asm)); (case zqk6 | zqk7 => k_is); (case zqk8 => ktr_room); (case zqk9 => first | exact BindsTo.of_eq rfl | exact binds_K (by k_in) rfl (by k_is) rfl rfl rfl); (case zqkD => decide +kernel); (case zqkB | zqc2 | zqc3 | zqc4 => exact rfl))
      k_with "k_room" => (ktr_room)
      k_with "w exec For Name Call cons nil" => (k_here; (rename Fr _ _ _ _ => lF'); (with_unfolding_all refine' For_invVF lF' ?zqk1 ?zqk2 ?_; (case zqk1 => exact rfl); (case zqk2 => exact rfl); k_whole))
      k_with "w eval ListComp" => (k_here; k_extra "comp yes"; k_dflt (first | refine LCg.ListComp_U (F₀ := by k_asm) (by with_unfolding_all rfl) (by decide) (by rfl) (by decide) (by rfl) ?_ | refine LCt.ListComp_T (F₀ := by k_asm) (by with_unfolding_all rfl) (by decide) (by rfl) (by decide) (by rfl) ?_))
      k_with "w exec Assign cons ListComp" => (k_here; k_extra "comp yes"; k_dflt (refine wpAny_Assign_Name ?_))
      k_with "w CompSrc" => (k_extra "halt src"; refine halt ?_)
      k_with "w CompSrcT" => (k_extra "halt src"; refine halt ?_)
      k_with "w call builtin:str.join" => (k_extra "halt join"; refine halt ?_)
      k_with "w call builtin:str.split" => (k_extra "halt split"; refine halt ?_)
      k_with "w subscriptTail Name BinOp ref int" => (k_extra "halt sub"; refine halt ?_)
      k_with "w subscriptTail Name BinOp ref int" => (k_here; k_extra "lit sub")
      k_with "w subscriptTail" => (k_here; k_extra "lit sub")
      k_with "w call builtin:len" => (k_extra "halt len"; refine halt ?_)
      k_with "w subscriptTail Name Slice ref ref" => (k_extra "halt slice"; refine halt ?_)
      k_with "w subscriptTail Subscript BinOp ref int" => (k_extra "halt sub"; refine halt ?_)
      k_with "w call builtin:list.append" => (k_here; k_extra "my append")
      k_with "w subscriptTail" => (k_extra "halt any"; refine halt ?_)
      k_with "w pyIter ref" => (k_extra "halt iter"; refine halt ?_)
      k_with "w exec Expr" => (k_extra "halt stm"; refine halt ?_)
      k_with "w eval IfExp" => (k_extra "halt if"; refine halt ?_)
      try k_fold
      k_steps
      (rename News _ _ _ _ => nE)
      obtain ⟨aZ, eZ⟩ := led1 nE
      subst eZ
      (rename (_ ∧ _ ∧ _ ∧ _ ∧ AllLt aZ _) => lZ)
      have hZ : ∀ p ∈ own, p.1 ≠ aZ := fun p hp => allLt_ne lZ.2.2.2.2 p (List.mem_append.mpr (.inr hp))
      refine hret aZ lg rg us8 un8 vs8 nR8 T8 hDs' hIs' hTl (fun p hp => ⟨hZ p hp, hO1 p hp, hO2 p hp⟩) _ _ _ rfl (by k_asm) (news_sub nE (fun p hp => ?_))
      simp only [List.mem_cons] at hp ⊢
      rcases hp with h | h | h | h
      · simp [h]
      · simp [h]
      · simp [h]
      · exact .inr (.inr (.inr (.inr (.inr h))))
end Mine
end PartN15
section PartSZ
open PySem PySem.W PyProof.Rows PySem.Spec PySem.Calls

set_option maxRecDepth 100000
namespace Mine
open PySem PySem.F
section
variable {prog : Program} {w : World} {A : Around} {E : Value → Shared → Prop} {s : Shared}
/-- one number of a range, drawn by hand -/
theorem zl_draw {it : Addr} {x left : Int} {Q : Value → Shared → Prop} (hit : IsRangeIter s.heap it x left 1) (hleft : 0 < left)
    (hQ : ∀ h', IsRangeIter h' it (x + 1) (left - 1) 1 → Heap.SameBut it s.heap h' → Q (.int x s.toks) { s with heap := h', toks := s.toks + 1 }) :
    wpAny (model prog w) A (Builtin.SmallTypes.nextOf (.ref it)) Q E s := by
  have hT : s.TypeIs (.ref it) "range_iterator" := ⟨_, hit, rfl⟩
  unfold Builtin.SmallTypes.nextOf
  refine wpAny_bind (wpAny_callSpecial?_slot (name := Str.ofString "__next__") hT F.slot_range_iterator_next
    (call_meets F.slot_range_iterator_next hT F.entry_range_iterator_next (F.args_range_iterator_next_1 _) (AutoRange.range_iterator___next___range_iterator_1 it x left 1 (by lia)) ⟨hit, ?_⟩))
  exact wpAny_pure (hQ _ (Heap.get?_update_self _ (Heap.get?_update_self _ hit rfl) rfl) ((Heap.SameBut.update ..).trans (Heap.SameBut.update ..)))
noncomputable abbrev ZipW (h : Heap) (z TI TO : Addr) (f0 : Value) (b : Bool) : Prop :=
  h.get? z = some { cls := .type "zip", dict := none, data := .fields #[f0, .bool b, .bool false, .ref TI, .ref TO], slots := #[] }
/-- the second and later pairs, when the pair handed out is held -/
theorem zl_next {z TI TO i1 i2 l1 T₀ : Addr} {b : Bool} {k1 : Nat} {xs : Array Value} {x : Value} {y left : Int} {oT : Obj} {Q : Value → Shared → Prop} (D : ZipApart z TI TO i1 i2 l1 l1)
    (hz : ZipW s.heap z TI TO (rawInt T₀) b) (hTI : IsPair s.heap TI (.ref i1) (.ref i2)) (hT₀ : s.heap.get? T₀ = some oT) (hTz : T₀ ≠ z)
    (h1 : s.heap.IsListIter i1 l1 k1) (h2 : IsRangeIter s.heap i2 y left 1) (hl1 : s.heap.IsList l1 xs) (hx : xs[k1]? = some x) (hleft : 0 < left)
    (hQ : ∀ h', ZipW h' z TI TO (rawInt T₀) true → h'.IsListIter i1 l1 (k1 + 1) → IsRangeIter h' i2 (y + 1) (left - 1) 1 → IsPair h' s.heap.objs.size x (.int y s.toks) → h'.objs.size = s.heap.objs.size + 1 →
      (∀ c o, c ≠ z → c ≠ i1 → c ≠ i2 → s.heap.get? c = some o → h'.get? c = some o) → Q (.ref s.heap.objs.size) { s with heap := h', toks := s.toks + 1 }) :
    wpAny (model prog w) A (Builtin.«zip.__next__» ⟨[.ref z], []⟩) (fun fin s' => ∃ v, fin = .done (.ret v) ∧ Q v s') E s := by
  show wpAny _ _ (field (.ref z) 2 >>= _) _ _ _
  refine wpAny_bind (wpAny_field hz rfl (x := .bool false) rfl ?_)
  show wpAny _ _ (field (.ref z) 3 >>= _) _ _ _
  refine wpAny_bind (wpAny_field hz rfl (x := .ref TI) rfl ?_)
  refine wpAny_bind (wpAny_seqItems hTI rfl ?_)
  show wpAny _ _ (Builtin.SmallTypes.ownedTupleIsFree (.ref z) >>= _) _ _ _
  refine wpAny_bind ?_
  unfold Builtin.SmallTypes.ownedTupleIsFree
  refine wpAny_bind (wpAny_field hz rfl (x := rawInt T₀) rfl ?_)
  show wpAny _ _ (loadIfAlive ((T₀ : Int).toNat) >>= _) _ _ _
  rw [Int.toNat_natCast]
  refine wpAny_bind (kdx_alive hT₀ ?_)
  simp only [Option.isNone_some, Bool.false_eq_true, if_false]
  refine wpAny_bind (wpAny_field hz rfl (x := .bool b) rfl ?_)
  cases b with
  | true =>
    rw [if_neg (show ¬ ((Value.bool true != Value.bool true) = true) from Bool.false_ne_true)]
    refine wpAny_pure ?_
    simp only [Bool.false_eq_true, if_false]
    have hz₁ := hz
    have hs₁ : Heap.SameBut z s.heap s.heap := Heap.SameBut.refl _ _
    rw [← Array.forIn_toList]
    simp only [List.forIn_cons, List.forIn_nil]
    refine wpAny_bind ?_
    refine wpAny_bind ?_
    refine wpAny_bind (wpAny_holding ?_)
    show wpAny _ _ (Builtin.SmallTypes.nextOf (.ref i1) >>= _) _ _ _
    refine wpAny_bind (wpAny_nextOf_list_item (h1.extBut hs₁.extBut D.i1z) (hl1.extBut hs₁.extBut D.l1z) hx fun h₂ h1₂ hs₂ => wpAny_pure ?_)
    dsimp only
    refine wpAny_pure ?_
    dsimp only
    refine wpAny_bind (wpAny_bind (wpAny_holding ?_))
    show wpAny _ _ (Builtin.SmallTypes.nextOf (.ref i2) >>= _) _ _ _
    refine wpAny_bind (zl_draw (hs₂.extBut _ _ D.i12.symm (hs₁.extBut _ _ D.i2z h2)) hleft fun h₃ h2₃ hs₃ => wpAny_pure ?_)
    dsimp only
    refine wpAny_pure ?_
    dsimp only
    refine wpAny_pure ?_
    dsimp only
    refine wpAny_bind (wpAny_newTuple ?_ (by show 2 ≤ sizeLine; decide))
    have hsz : h₃.objs.size = s.heap.objs.size := by rw [hs₃.1, hs₂.1, hs₁.1]
    refine wpAny_pure ⟨_, rfl, ?_⟩
    have hz₃ := hs₃.extBut _ _ D.i2z.symm (hs₂.extBut _ _ D.i1z.symm hz₁)
    have up : ∀ c o, c ≠ z → c ≠ i1 → c ≠ i2 → s.heap.get? c = some o → (h₃.push { cls := .type "tuple", data := .seq #[x, .int y s.toks] }).get? c = some o := fun c o c1 c2 c3 e => Heap.get?_push_of_some _ (hs₃.extBut _ _ c3 (hs₂.extBut _ _ c2 (hs₁.extBut _ _ c1 e)))
    show Q (.ref h₃.objs.size) _
    rw [hsz]
    refine hQ _ (Heap.get?_push_of_some _ hz₃) ((h1₂.extBut hs₃.extBut D.i12).at fun o e => Heap.get?_push_of_some _ e) (Heap.get?_push_of_some _ h2₃) (by rw [← hsz]; exact Heap.get?_push_size _ rfl) (by rw [Heap.size_push, hsz]) up
  | false =>
    rw [if_pos (show (Value.bool false != Value.bool true) = true from rfl)]
    refine wpAny_bind (wpAny_setField_rec hz (by simp) fun h₁ hz₁ hs₁ => ?_)
    replace hz₁ : ZipW h₁ z TI TO (rawInt T₀) true := hz₁
    replace hs₁ : Heap.SameBut z s.heap h₁ := hs₁
    refine wpAny_pure ?_
    simp only [Bool.false_eq_true, if_false]
    rw [← Array.forIn_toList]
    simp only [List.forIn_cons, List.forIn_nil]
    refine wpAny_bind ?_
    refine wpAny_bind ?_
    refine wpAny_bind (wpAny_holding ?_)
    show wpAny _ _ (Builtin.SmallTypes.nextOf (.ref i1) >>= _) _ _ _
    refine wpAny_bind (wpAny_nextOf_list_item (h1.extBut hs₁.extBut D.i1z) (hl1.extBut hs₁.extBut D.l1z) hx fun h₂ h1₂ hs₂ => wpAny_pure ?_)
    dsimp only
    refine wpAny_pure ?_
    dsimp only
    refine wpAny_bind (wpAny_bind (wpAny_holding ?_))
    show wpAny _ _ (Builtin.SmallTypes.nextOf (.ref i2) >>= _) _ _ _
    refine wpAny_bind (zl_draw (hs₂.extBut _ _ D.i12.symm (hs₁.extBut _ _ D.i2z h2)) hleft fun h₃ h2₃ hs₃ => wpAny_pure ?_)
    dsimp only
    refine wpAny_pure ?_
    dsimp only
    refine wpAny_pure ?_
    dsimp only
    refine wpAny_bind (wpAny_newTuple ?_ (by show 2 ≤ sizeLine; decide))
    have hsz : h₃.objs.size = s.heap.objs.size := by rw [hs₃.1, hs₂.1, hs₁.1]
    refine wpAny_pure ⟨_, rfl, ?_⟩
    have hz₃ := hs₃.extBut _ _ D.i2z.symm (hs₂.extBut _ _ D.i1z.symm hz₁)
    have up : ∀ c o, c ≠ z → c ≠ i1 → c ≠ i2 → s.heap.get? c = some o → (h₃.push { cls := .type "tuple", data := .seq #[x, .int y s.toks] }).get? c = some o := fun c o c1 c2 c3 e => Heap.get?_push_of_some _ (hs₃.extBut _ _ c3 (hs₂.extBut _ _ c2 (hs₁.extBut _ _ c1 e)))
    show Q (.ref h₃.objs.size) _
    rw [hsz]
    refine hQ _ (Heap.get?_push_of_some _ hz₃) ((h1₂.extBut hs₃.extBut D.i12).at fun o e => Heap.get?_push_of_some _ e) (Heap.get?_push_of_some _ h2₃) (by rw [← hsz]; exact Heap.get?_push_size _ rfl) (by rw [Heap.size_push, hsz]) up
/-- the first pair -/
theorem zl_first {z TI TO i1 i2 l1 : Addr} {k1 : Nat} {xs : Array Value} {x a b : Value} {y left : Int} {Q : Value → Shared → Prop} (D : ZipApart z TI TO i1 i2 l1 l1)
    (hz : ZipW s.heap z TI TO .none false) (hTI : IsPair s.heap TI (.ref i1) (.ref i2)) (hTO : IsPair s.heap TO a b)
    (h1 : s.heap.IsListIter i1 l1 k1) (h2 : IsRangeIter s.heap i2 y left 1) (hl1 : s.heap.IsList l1 xs) (hx : xs[k1]? = some x) (hleft : 0 < left)
    (hQ : ∀ h', ZipW h' z TI TO (rawInt s.heap.objs.size) false → IsPair h' TO x (.int y s.toks) → h'.IsListIter i1 l1 (k1 + 1) → IsRangeIter h' i2 (y + 1) (left - 1) 1 → IsPair h' s.heap.objs.size x (.int y s.toks) → h'.objs.size = s.heap.objs.size + 1 →
      (∀ c o, c ≠ z → c ≠ TO → c ≠ i1 → c ≠ i2 → s.heap.get? c = some o → h'.get? c = some o) → Q (.ref s.heap.objs.size) { s with heap := h', toks := s.toks + 1 }) :
    wpAny (model prog w) A (Builtin.«zip.__next__» ⟨[.ref z], []⟩) (fun fin s' => ∃ v, fin = .done (.ret v) ∧ Q v s') E s := by
  show wpAny _ _ (field (.ref z) 2 >>= _) _ _ _
  refine wpAny_bind (wpAny_field hz rfl (x := .bool false) rfl ?_)
  show wpAny _ _ (field (.ref z) 3 >>= _) _ _ _
  refine wpAny_bind (wpAny_field hz rfl (x := .ref TI) rfl ?_)
  refine wpAny_bind (wpAny_seqItems hTI rfl ?_)
  show wpAny _ _ (Builtin.SmallTypes.ownedTupleIsFree (.ref z) >>= _) _ _ _
  refine wpAny_bind ?_
  unfold Builtin.SmallTypes.ownedTupleIsFree
  refine wpAny_bind (wpAny_field hz rfl (x := .none) rfl (wpAny_pure ?_))
  simp only [if_true]
  refine wpAny_bind (wpAny_rule ?_)
  refine wpAny_bind (wpAny_field hz rfl (x := .ref TO) rfl ?_)
  refine wpAny_bind (wpAny_setField_rec hz (by simp) fun h₁ hz₁ hs₁ => ?_)
  replace hz₁ : ZipW h₁ z TI TO .ellipsis false := hz₁
  refine wpAny_bind ?_
  simp only [List.zipIdx_cons, List.zipIdx_nil, List.forIn_cons, List.forIn_nil]
  refine wpAny_bind (wpAny_bind (wpAny_onRaise ?_))
  show wpAny _ _ (Builtin.SmallTypes.nextOf (.ref i1) >>= _) _ _ _
  refine wpAny_bind (wpAny_nextOf_list_item (h1.extBut hs₁.extBut D.i1z) (hl1.extBut hs₁.extBut D.l1z) hx fun h₂ h1₂ hs₂ => wpAny_pure ?_)
  have hTO₂ : IsPair h₂ TO a b := hs₂.extBut _ _ D.TOi1 (hs₁.extBut _ _ D.TOz hTO)
  refine wpAny_bind (wpAny_seqItems hTO₂ rfl ?_)
  refine wpAny_bind (wpAny_updateSeq_pair hTO₂ fun h₃ hTO₃ hs₃ => ?_)
  replace hTO₃ : IsPair h₃ TO x b := hTO₃
  refine wpAny_bind (wpAny_letGo (wpAny_pure ?_))
  refine wpAny_bind (wpAny_bind (wpAny_onRaise ?_))
  show wpAny _ _ (Builtin.SmallTypes.nextOf (.ref i2) >>= _) _ _ _
  have h2₃ : IsRangeIter h₃ i2 y left 1 := hs₃.extBut _ _ D.TOi2.symm (hs₂.extBut _ _ D.i12.symm (hs₁.extBut _ _ D.i2z h2))
  refine wpAny_bind (zl_draw h2₃ hleft fun h₄ h2₄ hs₄ => wpAny_pure ?_)
  have hTO₄ : IsPair h₄ TO x b := hs₄.extBut _ _ D.TOi2 hTO₃
  refine wpAny_bind (wpAny_seqItems hTO₄ rfl ?_)
  refine wpAny_bind (wpAny_updateSeq_pair hTO₄ fun h₅ hTO₅ hs₅ => ?_)
  replace hTO₅ : IsPair h₅ TO x (.int y s.toks) := hTO₅
  refine wpAny_bind (wpAny_letGo (wpAny_pure (wpAny_pure ?_)))
  refine wpAny_bind (wpAny_seqItems hTO₅ rfl ?_)
  refine wpAny_bind (wpAny_newTuple ?_ (by show 2 ≤ sizeLine; decide))
  have hsz : h₅.objs.size = s.heap.objs.size := by rw [hs₅.1, hs₄.1, hs₃.1, hs₂.1, hs₁.1]
  have hz₅ : ZipW h₅ z TI TO .ellipsis false := hs₅.extBut _ _ D.TOz.symm (hs₄.extBut _ _ D.i2z.symm (hs₃.extBut _ _ D.TOz.symm (hs₂.extBut _ _ D.i1z.symm hz₁)))
  have hk₅ : ∀ c o, c ≠ z → c ≠ TO → c ≠ i1 → c ≠ i2 → s.heap.get? c = some o → h₅.get? c = some o := fun c o c1 c2 c3 c4 e =>
    hs₅.extBut _ _ c2 (hs₄.extBut _ _ c4 (hs₃.extBut _ _ c2 (hs₂.extBut _ _ c3 (hs₁.extBut _ _ c1 e))))
  have h1₅ : h₅.IsListIter i1 l1 (k1 + 1) := ((h1₂.extBut hs₃.extBut D.TOi1.symm).extBut hs₄.extBut D.i12).extBut hs₅.extBut D.TOi1.symm
  have h2₅ : IsRangeIter h₅ i2 (y + 1) (left - 1) 1 := hs₅.extBut _ _ D.TOi2.symm h2₄
  have hzlt : z < h₅.objs.size := Heap.lt_size hz₅
  show wpAny _ _ (Builtin.SmallTypes.ownedTupleHandOut (.ref z) (.ref h₅.objs.size) >>= _) _ _ _
  refine wpAny_bind ?_
  unfold Builtin.SmallTypes.ownedTupleHandOut
  have hz₆ : ZipW (h₅.push { cls := .type "tuple", data := .seq #[x, .int y s.toks] }) z TI TO .ellipsis false := Heap.get?_push_of_some _ hz₅
  refine wpAny_bind (wpAny_setField_rec hz₆ (by simp) fun h₇ hz₇ hs₇ => ?_)
  replace hz₇ : ZipW h₇ z TI TO (rawInt h₅.objs.size) false := hz₇
  refine wpAny_setField_rec hz₇ (by simp) fun h₈ hz₈ hs₈ => ?_
  replace hz₈ : ZipW h₈ z TI TO (rawInt h₅.objs.size) false := hz₈
  have up : ∀ c o, c ≠ z → h₅.get? c = some o → h₈.get? c = some o := fun c o c1 e => hs₈.extBut _ _ c1 (hs₇.extBut _ _ c1 (Heap.get?_push_of_some _ e))
  have hT₈ : IsPair h₈ h₅.objs.size x (.int y s.toks) := hs₈.extBut _ _ (Nat.ne_of_gt hzlt) (hs₇.extBut _ _ (Nat.ne_of_gt hzlt) (Heap.get?_push_size _ rfl))
  have hz8 : h₈.objs.size = h₅.objs.size + 1 := by rw [hs₈.1, hs₇.1, Heap.size_push]
  rw [hsz] at hz₈ hT₈ hz8
  refine wpAny_pure ⟨_, rfl, ?_⟩
  show Q (.ref h₅.objs.size) _
  rw [hsz]
  exact hQ h₈ hz₈ (up _ _ D.TOz hTO₅) (h1₅.at fun o e => up _ o D.i1z e) (up _ _ D.i2z h2₅) hT₈ hz8 fun c o c1 c2 c3 c4 e => up c o c1 (hk₅ c o c1 c2 c3 c4 e)
/-- the end -/
theorem zl_end {z TI TO i1 i2 l1 T₀ : Addr} {b : Bool} {k1 : Nat} {xs : Array Value} {oT : Obj} {Q : Fin → Shared → Prop} (hh : A.handled = none) (D : ZipApart z TI TO i1 i2 l1 l1)
    (hz : ZipW s.heap z TI TO (rawInt T₀) b) (hTI : IsPair s.heap TI (.ref i1) (.ref i2)) (hT₀ : s.heap.get? T₀ = some oT) (hTz : T₀ ≠ z)
    (h1 : s.heap.IsListIter i1 l1 k1) (hl1 : s.heap.IsList l1 xs) (hx : xs[k1]? = none)
    (hE : ∀ h' e, (∀ c o, c ≠ z → c ≠ i1 → c ≠ i2 → s.heap.get? c = some o → h'.get? c = some o) → (∃ o, h'.get? e = some o ∧ o.cls = .type "StopIteration") → E (.ref e) { s with heap := h' }) :
    wpAny (model prog w) A (Builtin.«zip.__next__» ⟨[.ref z], []⟩) Q E s := by
  show wpAny _ _ (field (.ref z) 2 >>= _) _ _ _
  refine wpAny_bind (wpAny_field hz rfl (x := .bool false) rfl ?_)
  show wpAny _ _ (field (.ref z) 3 >>= _) _ _ _
  refine wpAny_bind (wpAny_field hz rfl (x := .ref TI) rfl ?_)
  refine wpAny_bind (wpAny_seqItems hTI rfl ?_)
  show wpAny _ _ (Builtin.SmallTypes.ownedTupleIsFree (.ref z) >>= _) _ _ _
  refine wpAny_bind ?_
  unfold Builtin.SmallTypes.ownedTupleIsFree
  refine wpAny_bind (wpAny_field hz rfl (x := rawInt T₀) rfl ?_)
  show wpAny _ _ (loadIfAlive ((T₀ : Int).toNat) >>= _) _ _ _
  rw [Int.toNat_natCast]
  refine wpAny_bind (kdx_alive hT₀ ?_)
  simp only [Option.isNone_some, Bool.false_eq_true, if_false]
  refine wpAny_bind (wpAny_field hz rfl (x := .bool b) rfl ?_)
  cases b with
  | true =>
    rw [if_neg (show ¬ ((Value.bool true != Value.bool true) = true) from Bool.false_ne_true)]
    refine wpAny_pure ?_
    simp only [Bool.false_eq_true, if_false]
    rw [← Array.forIn_toList]
    simp only [List.forIn_cons, List.forIn_nil]
    refine wpAny_bind (wpAny_bind (wpAny_bind (wpAny_holding ?_)))
    show wpAny _ _ (Builtin.SmallTypes.nextOf (.ref i1) >>= _) _ _ _
    exact wpAny_bind (wpAny_nextOf_list_end hh h1 hl1 hx fun h₂ e hs₂ he => hE h₂ e (fun c o c1 c2 c3 e => hs₂ _ _ c2 e) he)
  | false =>
    rw [if_pos (show (Value.bool false != Value.bool true) = true from rfl)]
    refine wpAny_bind (wpAny_setField_rec hz (by simp) fun h₁ hz₁ hs₁ => ?_)
    replace hs₁ : Heap.SameBut z s.heap h₁ := hs₁
    refine wpAny_pure ?_
    simp only [Bool.false_eq_true, if_false]
    rw [← Array.forIn_toList]
    simp only [List.forIn_cons, List.forIn_nil]
    refine wpAny_bind (wpAny_bind (wpAny_bind (wpAny_holding ?_)))
    show wpAny _ _ (Builtin.SmallTypes.nextOf (.ref i1) >>= _) _ _ _
    exact wpAny_bind (wpAny_nextOf_list_end hh (h1.extBut hs₁.extBut D.i1z) (hl1.extBut hs₁.extBut D.l1z) hx fun h₂ e hs₂ he => hE h₂ e (fun c o c1 c2 c3 e => hs₂ _ _ c2 (hs₁.extBut _ _ c1 e)) he)
end
end Mine
end PartSZ
section PartSY
open PySem PySem.W PyProof.Rows PySem.Spec PySem.Calls

set_option maxRecDepth 100000
namespace Mine
open PySem PySem.F
noncomputable abbrev zl1 (h : Heap) (l1 : Addr) : Heap := h.push { cls := .type "list_iterator", data := .fields #[.ref l1, .int 0 0] }
noncomputable abbrev zl2 (h : Heap) (l1 : Addr) (a b : Int) : Heap := (zl1 h l1).push { cls := .type "range_iterator", data := .fields #[rawInt a, rawInt (Builtin.Range.rangeSize a b 1), rawInt 1] }
noncomputable abbrev zl3 (h : Heap) (l1 : Addr) (a b : Int) : Heap := (zl2 h l1 a b).push { cls := .type "tuple", data := .seq #[.ref h.objs.size, .ref (zl1 h l1).objs.size] }
noncomputable abbrev zl4 (h : Heap) (l1 : Addr) (a b : Int) : Heap := (zl3 h l1 a b).push { cls := .type "tuple", data := .seq #[.none, .none] }
noncomputable abbrev zl5 (h : Heap) (l1 : Addr) (a b : Int) : Heap := (zl4 h l1 a b).push { cls := .type "zip", data := .fields #[.none, .bool false, .bool false, .ref (zl2 h l1 a b).objs.size, .ref (zl3 h l1 a b).objs.size] }
theorem zl_meets (l1 r : Addr) (xs : Array Value) (a b : Int) (t u v : Tok) (hsmall : Builtin.Range.small a b 1 = true) :
    Meets (Builtin.«zip.__new__» ⟨[.type "zip", .ref l1, .ref r], []⟩) (fun _ R s => s.heap.IsList l1 xs ∧ IsRange s.heap r a b 1 t u v ∧
      R (.ok (.ret (.ref (zl4 s.heap l1 a b).objs.size))) { s with heap := zl5 s.heap l1 a b }) :=
  .of_wp fun prog w A R s h => by
    obtain ⟨hp, g, d, tk, os⟩ := s; obtain ⟨hl1, hr, h⟩ := h
    have hsub := sub_zip
    have hL1 : Heap.IsList (Shared.heap ⟨hp, g, d, tk, os⟩) l1 xs := hl1
    have hR : IsRange (Shared.heap ⟨hp.push { cls := .type "list_iterator", data := .fields #[.ref l1, .int 0 0] }, g, d, tk, os⟩) r a b 1 t u v := Heap.get?_push_of_some _ hr
    wp_walk using wpAny_pyIter_list hL1, wpAny_pyIter_range hR hsmall
    exact ⟨_, rfl, h⟩
section
variable {prog : Program} {w : World} {A : Around} {E : Value → Shared → Prop} {s : Shared}
theorem zl_call {l1 r : Addr} {xs : Array Value} {a b : Int} {t u v : Tok} {Q : Value → Shared → Prop} (hl1 : s.heap.IsList l1 xs) (hr : IsRange s.heap r a b 1 t u v) (hsmall : Builtin.Range.small a b 1 = true)
    (h : ∀ h', ZipW h' (s.heap.objs.size + 4) (s.heap.objs.size + 2) (s.heap.objs.size + 3) .none false → IsPair h' (s.heap.objs.size + 2) (.ref s.heap.objs.size) (.ref (s.heap.objs.size + 1)) →
      IsPair h' (s.heap.objs.size + 3) .none .none → h'.IsListIter s.heap.objs.size l1 0 → IsRangeIter h' (s.heap.objs.size + 1) a (Builtin.Range.rangeSize a b 1) 1 → h'.objs.size = s.heap.objs.size + 5 →
      (∀ c o, s.heap.get? c = some o → h'.get? c = some o) → Q (.ref (s.heap.objs.size + 4)) { s with heap := h' }) :
    wpAny (model prog w) A (call (.type "zip") [.ref l1, .ref r]) Q E s := by
  refine callType_new F.called_zip (by decide) (F.typeCall_zip_2 _ _) (F.newCall_zip_2 _ _) (fun obj => F.args_object_init_3 obj _ _) F.entry_zip_new
    (zl_meets l1 r xs a b t u v hsmall) ⟨hl1, hr, ?_⟩
  have z1 : (zl1 s.heap l1).objs.size = s.heap.objs.size + 1 := Heap.size_push ..
  have z2 : (zl2 s.heap l1 a b).objs.size = s.heap.objs.size + 2 := by rw [Heap.size_push, z1]
  have z3 : (zl3 s.heap l1 a b).objs.size = s.heap.objs.size + 3 := by rw [Heap.size_push, z2]
  have z4 : (zl4 s.heap l1 a b).objs.size = s.heap.objs.size + 4 := by rw [Heap.size_push, z3]
  have z5 : (zl5 s.heap l1 a b).objs.size = s.heap.objs.size + 5 := by rw [Heap.size_push, z4]
  have g5 : (zl5 s.heap l1 a b).get? (zl4 s.heap l1 a b).objs.size = some _ := Heap.get?_push_size _ rfl
  have g4 : (zl5 s.heap l1 a b).get? (zl3 s.heap l1 a b).objs.size = some _ := Heap.get?_push_of_some _ (Heap.get?_push_size _ rfl)
  have g3 : (zl5 s.heap l1 a b).get? (zl2 s.heap l1 a b).objs.size = some _ := Heap.get?_push_of_some _ (Heap.get?_push_of_some _ (Heap.get?_push_size _ rfl))
  have g2 : (zl5 s.heap l1 a b).get? (zl1 s.heap l1).objs.size = some _ := Heap.get?_push_of_some _ (Heap.get?_push_of_some _ (Heap.get?_push_of_some _ (Heap.get?_push_size _ rfl)))
  have g1 : (zl5 s.heap l1 a b).get? s.heap.objs.size = some _ := Heap.get?_push_of_some _ (Heap.get?_push_of_some _ (Heap.get?_push_of_some _ (Heap.get?_push_of_some _ (Heap.get?_push_size _ rfl))))
  show _ ∧ _
  rw [z2, z3, z4] at g5
  rw [z1, z2] at g3
  rw [z3] at g4
  rw [z1] at g2
  rw [z4]
  exact ⟨⟨_, g5, rfl⟩, h _ g5 g3 g4 ⟨_, g1, rfl, rfl⟩ g2 z5 fun c o x =>
    Heap.get?_push_of_some _ (Heap.get?_push_of_some _ (Heap.get?_push_of_some _ (Heap.get?_push_of_some _ (Heap.get?_push_of_some _ x))))⟩
/-- what the zip is before its pair k -/
structure ZipAt (z TI TO i1 i2 l1 : Addr) (xs : Array Value) (n k : Nat) (h : Heap) : Prop where
  pair : IsPair h TI (.ref i1) (.ref i2)
  own : ∃ a b, IsPair h TO a b
  it1 : h.IsListIter i1 l1 k
  it2 : IsRangeIter h i2 (k : Int) ((n : Int) - k) 1
  lst : h.IsList l1 xs
  zip : (k = 0 ∧ ZipW h z TI TO .none false) ∨ (∃ (T₀ : Addr) (b : Bool) (oT : Obj), ZipW h z TI TO (rawInt T₀) b ∧ h.get? T₀ = some oT ∧ T₀ ≠ z ∧ T₀ ≠ TO ∧ T₀ ≠ i1 ∧ T₀ ≠ i2)
theorem ZipAt.type {z TI TO i1 i2 l1 : Addr} {xs : Array Value} {n k : Nat} (Z : ZipAt z TI TO i1 i2 l1 xs n k s.heap) : s.TypeIs (.ref z) "zip" := by
  rcases Z.zip with ⟨_, h⟩ | ⟨_, _, _, h, _⟩
  · exact ⟨_, h, rfl⟩
  · exact ⟨_, h, rfl⟩
theorem ZipAt.lt {z TI TO i1 i2 l1 : Addr} {xs : Array Value} {n k : Nat} {h : Heap} (Z : ZipAt z TI TO i1 i2 l1 xs n k h) : z < h.objs.size ∧ TI < h.objs.size ∧ TO < h.objs.size ∧ i1 < h.objs.size ∧ i2 < h.objs.size ∧ l1 < h.objs.size := by
  obtain ⟨_, _, h1⟩ := Z.own
  refine ⟨?_, Heap.lt_size Z.pair, Heap.lt_size h1, ?_, Heap.lt_size Z.it2, ?_⟩
  · rcases Z.zip with ⟨_, h⟩ | ⟨_, _, _, h, _⟩ <;> exact Heap.lt_size h
  · obtain ⟨_, e, _⟩ := Z.it1; exact Heap.lt_size e
  · obtain ⟨_, e, _⟩ := Z.lst; exact Heap.lt_size e
theorem ZipAt.keep {z TI TO i1 i2 l1 : Addr} {xs : Array Value} {n k : Nat} {h h' : Heap} (Z : ZipAt z TI TO i1 i2 l1 xs n k h) {S : Addr} (hS : z ≠ S ∧ TI ≠ S ∧ TO ≠ S ∧ i1 ≠ S ∧ i2 ≠ S ∧ l1 ≠ S) (hT : ∀ o, h.get? S = some o → ∃ o', h'.get? S = some o') (hk : ∀ c o, c ≠ S → h.get? c = some o → h'.get? c = some o) : ZipAt z TI TO i1 i2 l1 xs n k h' where
  pair := hk _ _ hS.2.1 Z.pair
  own := by obtain ⟨a, b, e⟩ := Z.own; exact ⟨a, b, hk _ _ hS.2.2.1 e⟩
  it1 := Z.it1.at fun o e => hk _ o hS.2.2.2.1 e
  it2 := hk _ _ hS.2.2.2.2.1 Z.it2
  lst := Z.lst.at fun o e => hk _ o hS.2.2.2.2.2 e
  zip := by
    rcases Z.zip with ⟨e, h⟩ | ⟨T₀, b, oT, h, hT₀, r⟩
    · exact .inl ⟨e, hk _ _ hS.1 h⟩
    · by_cases hTS : T₀ = S
      · obtain ⟨o', ho'⟩ := hT oT (hTS ▸ hT₀)
        exact .inr ⟨T₀, b, o', hk _ _ hS.1 h, hTS ▸ ho', r⟩
      · exact .inr ⟨T₀, b, oT, hk _ _ hS.1 h, hk _ _ hTS hT₀, r⟩
theorem zl_step {z TI TO i1 i2 l1 : Addr} {xs : Array Value} {n k : Nat} {x : Value} {Q : Option Value → Shared → Prop} (D : ZipApart z TI TO i1 i2 l1 l1) (Z : ZipAt z TI TO i1 i2 l1 xs n k s.heap) (hk : k < n) (hx : xs[k]? = some x)
    (hQ : ∀ h', ZipAt z TI TO i1 i2 l1 xs n (k + 1) h' → IsPair h' s.heap.objs.size x (.int (k : Int) s.toks) → h'.objs.size = s.heap.objs.size + 1 →
      (∀ c o, c ≠ z → c ≠ TO → c ≠ i1 → c ≠ i2 → s.heap.get? c = some o → h'.get? c = some o) → Q (some (.ref s.heap.objs.size)) { s with heap := h', toks := s.toks + 1 }) :
    wpAny (model prog w) A (pyNext (.ref z)) Q E s := by
  have hT := Z.type
  obtain ⟨g1, g2, g3, g4, g5, g6⟩ := Z.lt
  have e1 : ((n : Int) - k) - 1 = (n : Int) - (k + 1 : Nat) := by lia
  have e2 : (k : Int) + 1 = ((k + 1 : Nat) : Int) := by lia
  unfold pyNext
  refine wpAny_bind (wpAny_attempt (wpAny_callSpecial?_slot (name := Str.ofString "__next__") hT F.slot_zip_next
    (wpAny_call_entry F.slot_zip_next hT F.entry_zip_next ?_ (F.args_zip_next_1 _))))
  obtain ⟨a, b, hTO⟩ := Z.own
  have ne : s.heap.objs.size ≠ z ∧ s.heap.objs.size ≠ TO ∧ s.heap.objs.size ≠ i1 ∧ s.heap.objs.size ≠ i2 := ⟨Nat.ne_of_gt g1, Nat.ne_of_gt g3, Nat.ne_of_gt g4, Nat.ne_of_gt g5⟩
  rcases Z.zip with ⟨rfl, hz⟩ | ⟨T₀, bb, oT, hz, hT₀, t1, t2, t3, t4⟩
  · refine zl_first D hz Z.pair hTO Z.it1 Z.it2 Z.lst hx (by lia) fun h' a1 a0 a2 a3 a4 a5 a6 => wpAny_pure (hQ h' ⟨a6 _ _ D.TIz D.TITO D.TIi1 D.TIi2 Z.pair, ⟨_, _, a0⟩, a2, ?_, Z.lst.at fun o e => a6 _ o D.l1z D.l1TO D.l1i1 D.l1i2 e, .inr ⟨_, _, _, a1, a4, ne⟩⟩ a4 a5 a6)
    rw [e1, e2] at a3; exact a3
  · refine zl_next D hz Z.pair hT₀ t1 Z.it1 Z.it2 Z.lst hx (by lia) fun h' a1 a2 a3 a4 a5 a6 => wpAny_pure (hQ h' ⟨a6 _ _ D.TIz D.TIi1 D.TIi2 Z.pair, ⟨a, b, a6 _ _ D.TOz D.TOi1 D.TOi2 hTO⟩, a2, ?_, Z.lst.at fun o e => a6 _ o D.l1z D.l1i1 D.l1i2 e, .inr ⟨_, _, _, a1, a6 _ _ t1 t3 t4 hT₀, t1, t2, t3, t4⟩⟩ a4 a5 fun c o c1 _ c3 c4 e => a6 c o c1 c3 c4 e)
    rw [e1, e2] at a3; exact a3
theorem zl_stop {z TI TO i1 i2 l1 : Addr} {xs : Array Value} {n k : Nat} {Q : Option Value → Shared → Prop} (hh : A.handled = none) (D : ZipApart z TI TO i1 i2 l1 l1) (Z : ZipAt z TI TO i1 i2 l1 xs n k s.heap) (h0 : 0 < k) (hx : xs[k]? = none)
    (hQ : ∀ h', (∀ c o, c ≠ z → c ≠ i1 → c ≠ i2 → s.heap.get? c = some o → h'.get? c = some o) → Q none { s with heap := h' }) :
    wpAny (model prog w) A (pyNext (.ref z)) Q E s := by
  have hT := Z.type
  rcases Z.zip with ⟨rfl, hz⟩ | ⟨T₀, bb, oT, hz, hT₀, t1, t2, t3, t4⟩
  · exact absurd h0 (Nat.lt_irrefl 0)
  unfold pyNext
  refine wpAny_bind (wpAny_attempt (wpAny_callSpecial?_slot (name := Str.ofString "__next__") hT F.slot_zip_next
    (wpAny_call_entry F.slot_zip_next hT F.entry_zip_next (zl_end hh D hz Z.pair hT₀ t1 Z.it1 Z.lst hx fun h' e hk he => ?_) (F.args_zip_next_1 _))))
  obtain ⟨o, ho, hc⟩ := he
  refine wpAny_bind (wpAny_isInstance (T := "StopIteration") (b := true) ⟨o, ho, hc⟩ isSubtype_stop ?_)
  exact wpAny_pure (hQ _ hk)
end
structure ZlG (xs : Array Value) (lo : Addr) (h : Heap) (as : List Addr) : Prop where
  rise : as.Pairwise (· < ·)
  above : ∀ a ∈ as, lo ≤ a
  pairs : ∀ (j : Nat) (a : Addr), as[j]? = some a → ∃ x t, xs[j]? = some x ∧ IsPair h a x (.int (j : Int) t)
theorem ZlG.there {xs : Array Value} {lo : Addr} {h : Heap} {as : List Addr} (g : ZlG xs lo h as) {a : Addr} (ha : a ∈ as) : a < h.objs.size := by
  obtain ⟨j, hj⟩ := List.mem_iff_getElem?.mp ha
  obtain ⟨_, _, _, e⟩ := g.pairs j a hj
  exact Heap.lt_size e
section
variable {prog : Program} {w : World} {A : Around} {s : Shared} {R : Result → Shared → Prop}
theorem zl_loop {S z TI TO i1 i2 l1 lo : Addr} {xs : Array Value} {n : Nat} (hh : A.handled = none) (D : ZipApart z TI TO i1 i2 l1 l1) (hS : z ≠ S ∧ TI ≠ S ∧ TO ≠ S ∧ i1 ≠ S ∧ i2 ≠ S ∧ l1 ≠ S)
    (hlo : S < lo ∧ z < lo ∧ TO < lo ∧ i1 < lo ∧ i2 < lo) (hxs : xs.size = n) (h0 : 0 < n) (hn : n ≤ sizeLine) (res : Value) {h₁ : Heap}
    (hR : ∀ h' tk acc c as, (∀ b o, b ≠ S → b ≠ z → b ≠ TO → b ≠ i1 → b ≠ i2 → h₁.get? b = some o → h'.get? b = some o) → h'.get? S = some { cls := .type "list", dict := none, data := .seq acc c, slots := #[] } → as.length = n → ZlG xs lo h' as →
      acc.toList = as.map Value.ref → R (.ok (.ret res)) { s with heap := h', toks := tk }) :
    ∀ (k i : Nat) (h : Heap) (tk c : Nat) (acc : Array Value) (as : List Addr), n - i = k → i ≤ n → ZipAt z TI TO i1 i2 l1 xs n i h → (∀ b o, b ≠ S → b ≠ z → b ≠ TO → b ≠ i1 → b ≠ i2 → h₁.get? b = some o → h.get? b = some o) →
      h.get? S = some { cls := .type "list", dict := none, data := .seq acc c, slots := #[] } → acc.toList = as.map Value.ref → as.length = i → ZlG xs lo h as → lo ≤ h.objs.size →
      codeAny (model prog w) A (.builtin "list.extend.loop" ⟨[.ref S, .ref z, res], []⟩) R { s with heap := h, toks := tk } := by
  obtain ⟨n1, n2, n3, n4, n5, n6⟩ := hS
  obtain ⟨l1', l2', l3', l4', l5'⟩ := hlo
  intro k
  induction k with
  | zero =>
    intro i h tk c acc as hk hi hZ hkeep hSl hacc hal hG hIs
    have hin : i = n := by lia
    refine codeAny_builtin PySem.F.entry_extend_loop ?_
    rw [Around.under_plainId PySem.F.plain_extend_loop _]
    show wpAny _ A.in1 (pyNext (.ref z) >>= _) _ _ _
    refine wpAny_bind (zl_stop (s := { s with heap := h, toks := tk }) (A := A.in1) hh D hZ (by lia) (Array.getElem?_eq_none (by lia)) fun h' he => ?_)
    refine wpAny_pure (hR h' tk acc c as (fun b o b1 b2 b3 b4 b5 e => he b o b2 b4 b5 (hkeep b o b1 b2 b3 b4 b5 e)) (he S _ (Ne.symm n1) (Ne.symm n4) (Ne.symm n5) hSl) (by lia) ⟨hG.rise, hG.above, fun j a hj => ?_⟩ hacc)
    obtain ⟨x, t, e1, e2⟩ := hG.pairs j a hj
    have ha := hG.above a (List.mem_of_getElem? hj)
    exact ⟨x, t, e1, he a _ (Nat.ne_of_gt (Nat.lt_of_lt_of_le l2' ha)) (Nat.ne_of_gt (Nat.lt_of_lt_of_le l4' ha)) (Nat.ne_of_gt (Nat.lt_of_lt_of_le l5' ha)) e2⟩
  | succ k ih =>
    intro i h tk c acc as hk hi hZ hkeep hSl hacc hal hG hIs
    have hlt : i < n := by lia
    obtain ⟨x, hx⟩ : ∃ p, xs[i]? = some p := ⟨xs[i]'(by lia), Array.getElem?_eq_getElem (by lia)⟩
    have hsz : acc.size = i := by rw [← Array.length_toList, hacc, List.length_map, hal]
    refine codeAny_builtin PySem.F.entry_extend_loop ?_
    rw [Around.under_plainId PySem.F.plain_extend_loop _]
    show wpAny _ A.in1 (pyNext (.ref z) >>= _) _ _ _
    refine wpAny_bind (zl_step (s := { s with heap := h, toks := tk }) D hZ hlt hx fun h' hZ' ht hz hkp => ?_)
    dsimp only at ht hz hkp ⊢
    have hS' := hkp S _ (Ne.symm n1) (Ne.symm n3) (Ne.symm n4) (Ne.symm n5) hSl
    have up : ∀ b o, b ≠ S → h'.get? b = some o → (h'.update S (Obj.mapSeq (·.push (Value.ref h.objs.size)))).get? b = some o := fun b o hb e => (Heap.get?_update_other _ _ (Ne.symm hb)).trans e
    have hSlt : S < h.objs.size := Heap.lt_size hSl
    have hS2 := Heap.get?_update_self (Obj.mapSeq (·.push (Value.ref h.objs.size))) hS' rfl
    show wpAny _ A.in1 (updateSeq S (·.push (Value.ref h.objs.size)) >>= _) _ _ _
    refine wpAny_bind ?_
    refine wpAny_updateSeq hS' rfl (wpAny_pure ⟨plainId_quiet PySem.F.plain_extend_loop _, ih (i + 1) _ (tk + 1) _ (acc.push (Value.ref h.objs.size)) (as ++ [h.objs.size]) (by lia) hlt (hZ'.keep ⟨n1, n2, n3, n4, n5, n6⟩ (fun o _ => ⟨_, hS2⟩) up)
      (fun b o b1 b2 b3 b4 b5 e => up b o b1 (hkp b o b2 b3 b4 b5 (hkeep b o b1 b2 b3 b4 b5 e))) hS2 (by rw [Array.toList_push, hacc, List.map_append]; rfl) (by rw [List.length_append, hal]; rfl) ⟨?_, ?_, ?_⟩ ?_⟩) (by rw [hsz]; lia) (by show (acc.push (Value.ref h.objs.size)).size ≤ sizeLine + 1; rw [Array.size_push, hsz]; lia)
    · refine List.pairwise_append.mpr ⟨hG.rise, List.pairwise_singleton _ _, fun a ha b hb => ?_⟩
      rw [List.mem_singleton.mp hb]
      exact hG.there ha
    · intro a ha
      rcases List.mem_append.mp ha with ha | ha
      · exact hG.above a ha
      · rw [List.mem_singleton.mp ha]; exact hIs
    · intro j b hj
      rcases Nat.lt_trichotomy j as.length with h1 | h1 | h1
      · rw [List.getElem?_append_left h1] at hj
        obtain ⟨x', t', e1, e2⟩ := hG.pairs j b hj
        have hb := hG.above b (List.mem_of_getElem? hj)
        exact ⟨x', t', e1, up b _ (Nat.ne_of_gt (Nat.lt_of_lt_of_le l1' hb)) (hkp b _ (Nat.ne_of_gt (Nat.lt_of_lt_of_le l2' hb)) (Nat.ne_of_gt (Nat.lt_of_lt_of_le l3' hb)) (Nat.ne_of_gt (Nat.lt_of_lt_of_le l4' hb)) (Nat.ne_of_gt (Nat.lt_of_lt_of_le l5' hb)) e2)⟩
      · subst h1
        have hb : h.objs.size = b := by simpa using hj
        subst hb
        rw [hal] at *
        exact ⟨x, tk, hx, up _ _ (Nat.ne_of_gt hSlt) ht⟩
      · have hnone : (as ++ [h.objs.size])[j]? = none := List.getElem?_eq_none (by rw [List.length_append, List.length_singleton]; lia)
        rw [hnone] at hj; cases hj
    · have e : (h'.update S (Obj.mapSeq (·.push (Value.ref h.objs.size)))).get? h.objs.size = _ := up _ _ (Nat.ne_of_gt hSlt) ht
      exact Nat.le_of_lt (Nat.lt_of_le_of_lt hIs (Heap.lt_size e))
end
theorem zl_nolen : typeLookup (.type "zip") "__len__" = pure none := by rw [typeLookup_type, builtinLookup_eq_fast]; kernel_rfl
theorem zl_nohint : typeLookup (.type "zip") "__length_hint__" = pure none := by rw [typeLookup_type, builtinLookup_eq_fast]; kernel_rfl
end Mine
end PartSY
section PartSX
open PySem PySem.W PyProof.Rows PySem.Spec PySem.Calls

set_option maxRecDepth 100000
namespace Mine
open PySem PySem.F
section
variable {prog : Program} {w : World} {A : Around} {E : Value → Shared → Prop} {s : Shared}
theorem ZlG.low {xs : Array Value} {lo lo' : Addr} {h : Heap} {as : List Addr} (g : ZlG xs lo h as) (hl : lo' ≤ lo) : ZlG xs lo' h as := ⟨g.rise, fun a ha => Nat.le_trans hl (g.above a ha), g.pairs⟩
theorem zl_collect {z TI TO i1 i2 l1 : Addr} {xs : Array Value} {n : Nat} {R : List Value → Shared → Prop} (hh : A.handled = none) (D : ZipApart z TI TO i1 i2 l1 l1) (hz : ZipW s.heap z TI TO .none false)
    (Z : ZipAt z TI TO i1 i2 l1 xs n 0 s.heap) (hxs : xs.size = n) (h0 : 0 < n) (hn : n ≤ sizeLine)
    (h : ∀ h' tk as, (∀ b o, b ≠ z → b ≠ TO → b ≠ i1 → b ≠ i2 → s.heap.get? b = some o → h'.get? b = some o) → as.length = n → ZlG xs s.heap.objs.size h' as → R (as.map Value.ref) { s with heap := h', toks := tk }) :
    wpAny (model prog w) A (collect (.ref z)) R E s := by
  obtain ⟨g1, g2, g3, g4, g5, g6⟩ := Z.lt
  have hSz : s.heap.objs.size ≠ z := Nat.ne_of_gt g1
  unfold collect
  refine wpAny_bind (wpAny_runValue (codeAny_builtin entry_proto_collect' ?_))
  rw [Around.under_plainId PySem.F.plain_proto_collect _]
  show wpAny _ A.in1 (newList [] >>= fun l => again (.builtin "list.__iadd__" ⟨[l, .ref z], []⟩)) _ _ s
  refine wpAny_bind (wpAny_newObj_type ?_)
  refine wpAny_pure ⟨plainId_quiet PySem.F.plain_list_iadd _, codeAny_builtin entry_list_iadd' ?_⟩
  rw [Around.under_plainId PySem.F.plain_list_iadd _]
  have hz₁ : ZipW (s.heap.push { cls := .type "list", data := .seq ([] : List Value).toArray }) z TI TO .none false := Heap.get?_push_of_some _ hz
  have hT₁ : Shared.TypeIs { s with heap := s.heap.push { cls := .type "list", data := .seq ([] : List Value).toArray } } (.ref z) "zip" := ⟨_, hz₁, rfl⟩
  show wpAny _ A.in1 (Builtin.List.listExtendWith (.ref s.heap.objs.size) (.ref z) (.ref s.heap.objs.size)) _ _ _
  unfold Builtin.List.listExtendWith
  refine wpAny_bind (wpAny_typeOf hT₁ ?_)
  have h1 : Builtin.List.listSameRef (.ref s.heap.objs.size) (.ref z) = false := by simp [Builtin.List.listSameRef, hSz]
  have h2 : (Value.type "zip" == Value.type "list") = false := by decide
  have h3 : (Value.type "zip" == Value.type "tuple") = false := by decide
  simp only [h1, h2, h3, Bool.or_false, Bool.false_eq_true, if_false]
  refine wpAny_bind (wpAny_pyIter_zip hz₁ ?_)
  refine wpAny_bind (wpAny_holding ?_)
  unfold Builtin.List.listLengthHint
  refine wpAny_bind (wpAny_specialOf hT₁ zl_nolen ?_)
  show wpAny _ A.in1 (specialOf (Value.ref z) (Str.ofString "__length_hint__") >>= _) _ _ _
  refine wpAny_bind (wpAny_specialOf hT₁ zl_nohint ?_)
  refine wpAny_pure ?_
  show wpAny _ A.in1 (rule "list.extend.makes-room" >>= fun _ => Builtin.List.listTouch (.ref s.heap.objs.size) >>= fun _ =>
    again (.builtin "list.extend.loop" ⟨[.ref s.heap.objs.size, .ref z, .ref s.heap.objs.size], []⟩)) _ _ _
  refine wpAny_bind (wpAny_rule ?_)
  have hS₁ : (s.heap.push { cls := .type "list", data := .seq ([] : List Value).toArray }).get? s.heap.objs.size = some { cls := .type "list", data := .seq ([] : List Value).toArray } := Heap.get?_push_size _ rfl
  refine wpAny_bind ?_
  show wpAny _ A.in1 (updateSeq s.heap.objs.size (·.push .none) >>= fun _ => updateSeq s.heap.objs.size (·.pop)) _ _ _
  refine wpAny_bind (wpAny_updateSeq hS₁ rfl ?_)
  have hS₂ := Heap.get?_update_self (Obj.mapSeq (·.push Value.none)) hS₁ rfl
  refine wpAny_updateSeq (hz := by seq_fits) hS₂ rfl ?_
  have hS₃ := Heap.get?_update_self (Obj.mapSeq (·.pop)) hS₂ rfl
  have oth : ∀ b o, b ≠ s.heap.objs.size → (s.heap.push { cls := .type "list", data := .seq ([] : List Value).toArray }).get? b = some o →
      (((s.heap.push { cls := .type "list", data := .seq ([] : List Value).toArray }).update s.heap.objs.size (Obj.mapSeq (·.push Value.none))).update s.heap.objs.size (Obj.mapSeq (·.pop))).get? b = some o :=
    fun b o hb e => (Heap.get?_update_other _ _ (Ne.symm hb)).trans ((Heap.get?_update_other _ _ (Ne.symm hb)).trans e)
  have all : ∀ b o, s.heap.get? b = some o → (((s.heap.push { cls := .type "list", data := .seq ([] : List Value).toArray }).update s.heap.objs.size (Obj.mapSeq (·.push Value.none))).update s.heap.objs.size (Obj.mapSeq (·.pop))).get? b = some o :=
    fun b o e => oth b o (Nat.ne_of_lt (Heap.lt_size e)) (Heap.get?_push_of_some _ e)
  have hZ₃ := Z.keep (S := s.heap.objs.size) ⟨Nat.ne_of_lt g1, Nat.ne_of_lt g2, Nat.ne_of_lt g3, Nat.ne_of_lt g4, Nat.ne_of_lt g5, Nat.ne_of_lt g6⟩ (fun o e => absurd (Heap.lt_size e) (Nat.lt_irrefl _)) fun c o _ e => all c o e
  have hsz : (((s.heap.push { cls := .type "list", data := .seq ([] : List Value).toArray }).update s.heap.objs.size (Obj.mapSeq (·.push Value.none))).update s.heap.objs.size (Obj.mapSeq (·.pop))).objs.size = s.heap.objs.size + 1 := by
    rw [Heap.size_update, Heap.size_update, Heap.size_push]
  refine wpAny_pure ⟨plainId_quiet PySem.F.plain_extend_loop _, zl_loop (s := s) (lo := s.heap.objs.size + 1) (h₁ := s.heap) (xs := xs) (n := n) hh D ⟨Nat.ne_of_lt g1, Nat.ne_of_lt g2, Nat.ne_of_lt g3, Nat.ne_of_lt g4, Nat.ne_of_lt g5, Nat.ne_of_lt g6⟩
    ⟨Nat.lt_succ_self _, Nat.lt_succ_of_lt g1, Nat.lt_succ_of_lt g3, Nat.lt_succ_of_lt g4, Nat.lt_succ_of_lt g5⟩ hxs h0 hn (.ref s.heap.objs.size) ?_ n 0 _ _ _ #[] [] (Nat.sub_zero _) (Nat.zero_le _) hZ₃ (fun b o _ _ _ _ _ e => all b o e) hS₃ rfl rfl
    ⟨List.Pairwise.nil, (fun _ ha => nomatch ha), (fun j a hj => by simp at hj)⟩ (Nat.le_of_eq hsz.symm)⟩
  intro h' tk acc c as hk hS' hl hG hacc
  show wpAny _ A (load s.heap.objs.size >>= _) _ _ _
  refine wpAny_bind (wpAny_load hS' ?_)
  refine wpAny_pure ?_
  show R acc.toList _
  rw [hacc]
  exact h h' tk as (fun b o b2 b3 b4 b5 e => hk b o (Nat.ne_of_lt (Heap.lt_size e)) b2 b3 b4 b5 e) hl (hG.low (Nat.le_succ _))
end
section
variable {prog : Program} {w : World} {A : Around} {E : Value → Shared → Prop} {s : Shared} {h₀ : Heap} {L : Addr} {m : Str → Option Value} {news : List (Addr × Obj)}
noncomputable abbrev zoZip (TI TO : Addr) : Obj := { cls := .type "zip", dict := none, data := .fields #[.none, .bool false, .bool false, .ref TI, .ref TO], slots := #[] }
noncomputable abbrev zoTup (x y : Value) : Obj := { cls := .type "tuple", data := .seq #[x, y] }
theorem zne {a b : Nat} (h : a < b ∨ b < a) : @Ne Nat a b := by lia
theorem zl_get {h : Heap} {c : Addr} {o : Obj} (e : h.get? c = some o) : c < h.objs.size := Heap.lt_size e
/-- zip(list, range) in the ledger -/
theorem zl_zipK {l r : Addr} {xs : Array Value} {nl : Nat} {k : Nat} {t u v : Tok} {Q : Value → Shared → Prop} (F : Fr h₀ L s.heap m) (N : News h₀ L s.heap news) (hl : (l, listOf xs nl) ∈ news) (hr : IsRange s.heap r 0 k 1 t u v) (hk : Builtin.Range.small 0 k 1 = true) (hkk : Builtin.Range.rangeSize 0 k 1 = k)
    (h : ∀ (z TI TO i1 i2 : Addr) oz oTI oTO o1 o2 h', Fr h₀ L h' m → News h₀ L h' ((z, oz) :: (TI, oTI) :: (TO, oTO) :: (i1, o1) :: (i2, o2) :: news) → ZipW h' z TI TO .none false → ZipApart z TI TO i1 i2 l l → ZipAt z TI TO i1 i2 l xs k 0 h' →
      (∀ q ∈ news, q.1 ≠ z ∧ q.1 ≠ TO ∧ q.1 ≠ i1 ∧ q.1 ≠ i2) → Q (.ref z) { s with heap := h' }) :
    wpAny (model prog w) A (call (.type "zip") [.ref l, .ref r]) Q E s := by
  have hl1 : s.heap.IsList l xs := ⟨_, (N _ hl).1, rfl, nl, rfl⟩
  refine zl_call hl1 hr hk fun h' hz hTI hTO h1 h2 hsz hkeep => ?_
  have hlt : ∀ q ∈ news, q.1 < s.heap.objs.size := fun q hq => Heap.lt_size (N q hq).1
  have hL : L < s.heap.objs.size := F.ns.lt
  have up : ∀ c, s.heap.objs.size ≤ c → c ≠ L ∧ h₀.get? c = none := fun c hc => kdx_fresh F hc
  obtain ⟨o1, e1, r1⟩ := id h1
  obtain ⟨oz, ez⟩ : ∃ o, h'.get? (s.heap.objs.size + 4) = some o := ⟨_, hz⟩
  obtain ⟨oTI, eTI⟩ : ∃ o, h'.get? (s.heap.objs.size + 2) = some o := ⟨_, hTI⟩
  obtain ⟨oTO, eTO⟩ : ∃ o, h'.get? (s.heap.objs.size + 3) = some o := ⟨_, hTO⟩
  obtain ⟨o2, e2⟩ : ∃ o, h'.get? (s.heap.objs.size + 1) = some o := ⟨_, h2⟩
  refine h (s.heap.objs.size + 4) (s.heap.objs.size + 2) (s.heap.objs.size + 3) s.heap.objs.size (s.heap.objs.size + 1) oz oTI oTO o1 o2 h' (F.keptAll hkeep) ?_ hz ?_ ?_ ?_
  · intro p hp
    rcases List.mem_cons.mp hp with rfl | hp
    · exact ⟨ez, up _ (Nat.le_add_right _ _)⟩
    rcases List.mem_cons.mp hp with rfl | hp
    · exact ⟨eTI, up _ (Nat.le_add_right _ _)⟩
    rcases List.mem_cons.mp hp with rfl | hp
    · exact ⟨eTO, up _ (Nat.le_add_right _ _)⟩
    rcases List.mem_cons.mp hp with rfl | hp
    · exact ⟨e1, up _ (Nat.le_refl _)⟩
    rcases List.mem_cons.mp hp with rfl | hp
    · exact ⟨e2, up _ (Nat.le_add_right _ _)⟩
    exact ⟨hkeep _ _ (N p hp).1, (N p hp).2⟩
  · have this : @LT.lt Nat instLTNat l s.heap.objs.size := hlt _ hl
    constructor <;> (refine zne ?_; lia)
  · refine ⟨hTI, ⟨_, _, hTO⟩, h1, ?_, hl1.at fun o e => hkeep _ _ e, .inl ⟨rfl, hz⟩⟩
    rw [hkk] at h2
    exact h2
  · intro q hq
    have this : @LT.lt Nat instLTNat q.1 s.heap.objs.size := hlt q hq
    refine ⟨?_, ?_, ?_, ?_⟩ <;> (refine zne ?_; lia)
theorem zl_keepN {h h' : Heap} {z TI TO i1 i2 : Addr} {oz oTI oTO o1 o2 : Obj} (F : Fr h₀ L h m) (N : News h₀ L h ((z, oz) :: (TI, oTI) :: (TO, oTO) :: (i1, o1) :: (i2, o2) :: news)) (hd : ∀ q ∈ news, q.1 ≠ z ∧ q.1 ≠ TO ∧ q.1 ≠ i1 ∧ q.1 ≠ i2)
    (hk : ∀ b o, b ≠ z → b ≠ TO → b ≠ i1 → b ≠ i2 → h.get? b = some o → h'.get? b = some o) : Fr h₀ L h' m ∧ News h₀ L h' news := by
  have nz := N _ (.head _)
  have nT := N (TO, oTO) (.tail _ (.tail _ (.head _)))
  have n1 := N (i1, o1) (.tail _ (.tail _ (.tail _ (.head _))))
  have n2 := N (i2, o2) (.tail _ (.tail _ (.tail _ (.tail _ (.head _)))))
  have no : ∀ {c b : Addr} {o : Obj}, h₀.get? c = none → h₀.get? b = some o → b ≠ c := fun a b e => by rw [e, a] at b; cases b
  refine ⟨⟨?_, fun b o e => hk b o (no nz.2.2 e) (no nT.2.2 e) (no n1.2.2 e) (no n2.2.2 e) (F.keep b o e), F.above⟩, fun p hp => ?_⟩
  · obtain ⟨o, es, ep, ho, r⟩ := F.ns
    exact ⟨o, es, ep, hk _ _ nz.2.1.symm nT.2.1.symm n1.2.1.symm n2.2.1.symm ho, r⟩
  obtain ⟨d1, d2, d3, d4⟩ := hd p hp
  have := N p (.tail _ (.tail _ (.tail _ (.tail _ (.tail _ hp)))))
  exact ⟨hk _ _ d1 d2 d3 d4 this.1, this.2⟩
theorem four_list {α : Type} {as : List α} (h : as.length = 4) : ∃ a b c d, as = [a, b, c, d] := by
  match as, h with
  | [a, b, c, d], _ => exact ⟨a, b, c, d, rfl⟩
theorem zl_sortedK {z TI TO i1 i2 l : Addr} {oz oTI oTO o1 o2 : Obj} {xs : Array Value} {x0 x1 x2 x3 : Value} {Q : Value → Shared → Prop} (hh : A.handled = none) (F : Fr h₀ L s.heap m) (N : News h₀ L s.heap ((z, oz) :: (TI, oTI) :: (TO, oTO) :: (i1, o1) :: (i2, o2) :: news))
    (hz : ZipW s.heap z TI TO .none false) (D : ZipApart z TI TO i1 i2 l l) (Z : ZipAt z TI TO i1 i2 l xs 4 0 s.heap) (hd : ∀ q ∈ news, q.1 ≠ z ∧ q.1 ≠ TO ∧ q.1 ≠ i1 ∧ q.1 ≠ i2) (hx : xs = #[x0, x1, x2, x3])
    (h : ∀ (a0 a1 a2 a3 S : Addr) (t0 t1 t2 t3 : Tok) h' tk, (∀ q ∈ news, q.1 < a0) → a0 < a1 → a1 < a2 → a2 < a3 → a3 < S → Fr h₀ L h' m →
      News h₀ L h' ((S, listOf #[.ref a0, .ref a1, .ref a2, .ref a3] 0) :: (a0, zoTup x0 (.int 0 t0)) :: (a1, zoTup x1 (.int 1 t1)) :: (a2, zoTup x2 (.int 2 t2)) :: (a3, zoTup x3 (.int 3 t3)) :: news) →
      wpAny (model prog w) A.in1 (call (.builtin "list.sort") [.ref S]) (fun _ s' => Q (.ref S) s') E { s with heap := h', toks := tk }) :
    wpAny (model prog w) A (call (.builtin "sorted") [.ref z]) Q E s := by
  refine call_function_entry kind_sorted plain_sorted entry_sorted (args_sorted1 _) ?_
  unfold Builtin.«sorted»
  refine wpAny_bind (m := checkCount "sorted" 1 1 _) (wpAny_pure ?_)
  refine wpAny_bind (zl_collect (A := A.in1) hh D hz Z (by rw [hx]; rfl) (by decide) (by decide) fun h' tk as hk hl hG => ?_)
  obtain ⟨F', N'⟩ := zl_keepN F N hd hk
  obtain ⟨a0, a1, a2, a3, rfl⟩ := four_list hl
  refine wpAny_bind (wpAny_newList ?_ (by show 4 ≤ sizeLine; decide))
  have hr := hG.rise
  simp only [List.pairwise_cons, List.mem_cons, List.not_mem_nil, or_false, forall_eq_or_imp, forall_eq] at hr
  obtain ⟨⟨r1, _⟩, ⟨r2, _⟩, r3, _⟩ := hr
  have q0 := hG.above a0 (.head _)
  have there := fun a (ha : a ∈ [a0, a1, a2, a3]) => hG.there ha
  have e0 := hG.pairs 0 a0 rfl
  have e1 := hG.pairs 1 a1 rfl
  have e2 := hG.pairs 2 a2 rfl
  have e3 := hG.pairs 3 a3 rfl
  rw [hx] at e0 e1 e2 e3
  obtain ⟨_, t0, ⟨⟩, e0⟩ := e0
  obtain ⟨_, t1, ⟨⟩, e1⟩ := e1
  obtain ⟨_, t2, ⟨⟩, e2⟩ := e2
  obtain ⟨_, t3, ⟨⟩, e3⟩ := e3
  have up : ∀ a ∈ [a0, a1, a2, a3], a ≠ L ∧ h₀.get? a = none := fun a ha => kdx_fresh F (hG.above a ha)
  have hg := h a0 a1 a2 a3 h'.objs.size t0 t1 t2 t3 (h'.push { cls := .type "list", data := .seq ([a0, a1, a2, a3].map Value.ref).toArray }) tk
    (fun q hq => Nat.lt_of_lt_of_le (Heap.lt_size (N q (.tail _ (.tail _ (.tail _ (.tail _ (.tail _ hq)))))).1) q0) r1 r2 r3 (there a3 (by simp)) (F'.push _) (News.push F' (news := (a0, zoTup x0 (.int 0 t0)) :: (a1, zoTup x1 (.int 1 t1)) :: (a2, zoTup x2 (.int 2 t2)) :: (a3, zoTup x3 (.int 3 t3)) :: news) (fun p hp => ?_) _ rfl)
  · exact wpAny_bind (wpAny_holding (wpAny_mono hg (fun _ s' x => wpAny_pure ⟨_, rfl, x⟩) fun _ _ e => e))
  · rcases List.mem_cons.mp hp with rfl | hp
    · exact ⟨e0, up _ (by simp)⟩
    rcases List.mem_cons.mp hp with rfl | hp
    · exact ⟨e1, up _ (by simp)⟩
    rcases List.mem_cons.mp hp with rfl | hp
    · exact ⟨e2, up _ (by simp)⟩
    rcases List.mem_cons.mp hp with rfl | hp
    · exact ⟨e3, up _ (by simp)⟩
    exact N' p hp
end
end Mine
end PartSX
section PartSW
open PySem PySem.W PyProof.Rows PySem.Spec PySem.Calls

set_option maxRecDepth 100000
set_option maxHeartbeats 2000000
namespace Mine
theorem chain5 {a b c d e : Nat} (h0 : a < b) (h1 : b < c) (h2 : c < d) (h3 : d < e) : a < c ∧ a < d ∧ a < e ∧ b < d ∧ b < e ∧ c < e :=
  ⟨Nat.lt_trans h0 h1, Nat.lt_trans h0 (Nat.lt_trans h1 h2), Nat.lt_trans h0 (Nat.lt_trans h1 (Nat.lt_trans h2 h3)), Nat.lt_trans h1 h2, Nat.lt_trans h1 (Nat.lt_trans h2 h3), Nat.lt_trans h2 h3⟩
section
variable {prog : Program} {w : World} {A : Around} {E : Value → Shared → Prop} {s : Shared} {h₀ : Heap} {L : Addr} {m : Str → Option Value} {news : List (Addr × Obj)}
theorem news_rot {h₀ h : Heap} {L : Addr} {e a b c d : Addr × Obj} {r : List (Addr × Obj)} (N : News h₀ L h (e :: a :: b :: c :: d :: r)) : News h₀ L h (e :: b :: c :: d :: a :: r) := fun p hp => by
  refine N p ?_
  simp only [List.mem_cons] at hp ⊢
  rcases hp with h | h | h | h | h | h <;> simp [h]
theorem sort4 {a0 a1 a2 a3 S : Addr} {t0 t1 t2 t3 u0 u1 u2 u3 : Tok} {Q : Value → Shared → Prop} (st : Nat) (hst : st < 4) (F : Fr h₀ L s.heap m) (hd : ∀ q ∈ news, q.1 < a0) (l0 : a0 < a1) (l1 : a1 < a2) (l2 : a2 < a3) (l3 : a3 < S) (c0 c1 c2 c3 : Int)
    (e0 : c0 = 16 + ((4 - st) % 4 : Nat)) (e1 : c1 = 16 + ((5 - st) % 4 : Nat)) (e2 : c2 = 16 + ((6 - st) % 4 : Nat)) (e3 : c3 = 16 + ((7 - st) % 4 : Nat))
    (N : News h₀ L s.heap ((S, listOf #[.ref a0, .ref a1, .ref a2, .ref a3] 0) :: (a0, zoTup (.int c0 u0) (.int 0 t0)) :: (a1, zoTup (.int c1 u1) (.int 1 t1)) :: (a2, zoTup (.int c2 u2) (.int 2 t2)) :: (a3, zoTup (.int c3 u3) (.int 3 t3)) :: news))
    (h : ∀ (b0 b1 b2 b3 : Addr) (v0 v1 v2 v3 : Value) (d0 d1 d2 d3 : Tok) n h' tk, Fr h₀ L h' m → News h₀ L h' ((S, listOf #[.ref b0, .ref b1, .ref b2, .ref b3] n) :: (b0, zoTup v0 (.int ((st % 4 : Nat) : Int) d0)) :: (b1, zoTup v1 (.int (((st + 1) % 4 : Nat) : Int) d1)) :: (b2, zoTup v2 (.int (((st + 2) % 4 : Nat) : Int) d2)) :: (b3, zoTup v3 (.int (((st + 3) % 4 : Nat) : Int) d3)) :: news) →
      (∀ q ∈ news, q.1 < b0 ∧ q.1 < b1 ∧ q.1 < b2 ∧ q.1 < b3 ∧ q.1 < S) → (b0 < S ∧ b1 < S ∧ b2 < S ∧ b3 < S) → ((@Ne Nat b0 b1) ∧ (@Ne Nat b0 b2) ∧ (@Ne Nat b0 b3) ∧ (@Ne Nat b1 b2) ∧ (@Ne Nat b1 b3) ∧ (@Ne Nat b2 b3)) → Q (.ref S) { s with heap := h', toks := tk }) :
    wpAny (model prog w) A (call (.builtin "list.sort") [.ref S]) (fun _ s' => Q (.ref S) s') E s := by
  have ch := chain5 l0 l1 l2 l3
  have hoff : ∀ p ∈ ((a0, zoTup (.int c0 u0) (.int 0 t0)) :: (a1, zoTup (.int c1 u1) (.int 1 t1)) :: (a2, zoTup (.int c2 u2) (.int 2 t2)) :: (a3, zoTup (.int c3 u3) (.int 3 t3)) :: news), p.1 ≠ S := by
    intro p hp
    simp only [List.mem_cons] at hp
    rcases hp with rfl | rfl | rfl | rfl | hp
    · exact Nat.ne_of_lt ch.2.2.1
    · exact Nat.ne_of_lt ch.2.2.2.2.1
    · exact Nat.ne_of_lt ch.2.2.2.2.2
    · exact Nat.ne_of_lt l3
    · exact Nat.ne_of_lt (Nat.lt_trans (hd p hp) ch.2.2.1)
  dsimp only [zoTup] at N hoff
  have hcs : st = 0 ∨ st = 1 ∨ st = 2 ∨ st = 3 := four_cases (by assumption)
  have hA : ∀ q ∈ news, q.1 < a0 ∧ q.1 < a1 ∧ q.1 < a2 ∧ q.1 < a3 ∧ q.1 < S := fun q hq =>
    have k4 := hd q hq
    ⟨k4, Nat.lt_trans k4 l0, Nat.lt_trans k4 ch.1, Nat.lt_trans k4 ch.2.1, Nat.lt_trans k4 ch.2.2.1⟩
  have c0 : a0 < S := ch.2.2.1
  have c1 : a1 < S := ch.2.2.2.2.1
  have c2 : a2 < S := ch.2.2.2.2.2
  have d01 : @Ne Nat a0 a1 := Nat.ne_of_lt l0
  have d02 : @Ne Nat a0 a2 := Nat.ne_of_lt ch.1
  have d03 : @Ne Nat a0 a3 := Nat.ne_of_lt ch.2.1
  have d12 : @Ne Nat a1 a2 := Nat.ne_of_lt l1
  have d13 : @Ne Nat a1 a3 := Nat.ne_of_lt ch.2.2.2.1
  have d23 : @Ne Nat a2 a3 := Nat.ne_of_lt l2
  subst e0; subst e1; subst e2; subst e3
  k_with_none
  k_with "k_all" => (assumption)
  k_with "w keyLt'" => (with_unfolding_all refine' kat_lt ?zqa ?zqb ?zqc ?zqd ?_; (case zqa => exact News.get (by k_asm) (by k_mem)); (case zqb => exact rfl); (case zqc => exact News.get (by k_asm) (by k_mem)); (case zqd => exact rfl); k_whole)
  k_with "w eqBool" => (refine wpAny_eqBool_int ?_)
  k_with "w oneLt'" => (kat_flag; with_unfolding_all refine oneLt_int ?_)
  with_unfolding_all refine' kat_lsort ?F ?N ?U ?e ?z ?y ?_
  case F => k_asm
  case N => k_asm
  case U => k_updF
  case e => kso_lit
  case z => exact Nat.le_of_ble_eq_true rfl
  case y => exact Nat.le_of_ble_eq_true rfl
  k_whole
  intro e' h' F' N'
  (try dsimp only at N')
  (try k_sweep)
  kat_kinds
  rcases hcs with rfl | rfl | rfl | rfl
  · k_steps
    rename_i F9 N9
    exact h a0 a1 a2 a3 _ _ _ _ t0 t1 t2 t3 _ _ _ F9 N9 (fun q hq => (hA q hq)) ⟨c0, c1, c2, l3⟩ ⟨d01, d02, d03, d12, d13, d23⟩
  · k_steps
    rename_i F9 N9
    exact h a1 a2 a3 a0 _ _ _ _ t1 t2 t3 t0 _ _ _ F9 (news_rot N9) (fun q hq => let ⟨g0, g1, g2, g3, g4⟩ := hA q hq; ⟨g1, g2, g3, g0, g4⟩) ⟨c1, c2, l3, c0⟩ ⟨d12, d13, d01.symm, d23, d02.symm, d03.symm⟩
  · k_steps
    rename_i F9 N9
    exact h a2 a3 a0 a1 _ _ _ _ t2 t3 t0 t1 _ _ _ F9 (news_rot (news_rot N9)) (fun q hq => let ⟨g0, g1, g2, g3, g4⟩ := hA q hq; ⟨g2, g3, g0, g1, g4⟩) ⟨c2, l3, c0, c1⟩ ⟨d23, d02.symm, d12.symm, d03.symm, d13.symm, d01⟩
  · k_steps
    rename_i F9 N9
    exact h a3 a0 a1 a2 _ _ _ _ t3 t0 t1 t2 _ _ _ F9 (news_rot (news_rot (news_rot N9))) (fun q hq => let ⟨g0, g1, g2, g3, g4⟩ := hA q hq; ⟨g3, g0, g1, g2, g4⟩) ⟨l3, c0, c1, c2⟩ ⟨d03.symm, d13.symm, d23.symm, d01, d02, d12⟩
/-- sorted(zip(last, range(4))) when the lasts go round from st -/
theorem sorted4 {z TI TO i1 i2 l : Addr} {oz oTI oTO o1 o2 : Obj} {xs : Array Value} {c0 c1 c2 c3 : Int} {u0 u1 u2 u3 : Tok} {Q : Value → Shared → Prop} (st : Nat) (hst : st < 4) (hh : A.handled = none) (F : Fr h₀ L s.heap m) (N : News h₀ L s.heap ((z, oz) :: (TI, oTI) :: (TO, oTO) :: (i1, o1) :: (i2, o2) :: news))
    (hz : ZipW s.heap z TI TO .none false) (D : ZipApart z TI TO i1 i2 l l) (Z : ZipAt z TI TO i1 i2 l xs 4 0 s.heap) (hd : ∀ q ∈ news, q.1 ≠ z ∧ q.1 ≠ TO ∧ q.1 ≠ i1 ∧ q.1 ≠ i2) (hx : xs = #[.int c0 u0, .int c1 u1, .int c2 u2, .int c3 u3])
    (e0 : c0 = 16 + ((4 - st) % 4 : Nat)) (e1 : c1 = 16 + ((5 - st) % 4 : Nat)) (e2 : c2 = 16 + ((6 - st) % 4 : Nat)) (e3 : c3 = 16 + ((7 - st) % 4 : Nat))
    (h : ∀ (S b0 b1 b2 b3 : Addr) (v0 v1 v2 v3 : Value) (d0 d1 d2 d3 : Tok) n h' tk, Fr h₀ L h' m → News h₀ L h' ((S, listOf #[.ref b0, .ref b1, .ref b2, .ref b3] n) :: (b0, zoTup v0 (.int ((st % 4 : Nat) : Int) d0)) :: (b1, zoTup v1 (.int (((st + 1) % 4 : Nat) : Int) d1)) :: (b2, zoTup v2 (.int (((st + 2) % 4 : Nat) : Int) d2)) :: (b3, zoTup v3 (.int (((st + 3) % 4 : Nat) : Int) d3)) :: news) →
      (∀ q ∈ news, q.1 < b0 ∧ q.1 < b1 ∧ q.1 < b2 ∧ q.1 < b3 ∧ q.1 < S) → (b0 < S ∧ b1 < S ∧ b2 < S ∧ b3 < S) → ((@Ne Nat b0 b1) ∧ (@Ne Nat b0 b2) ∧ (@Ne Nat b0 b3) ∧ (@Ne Nat b1 b2) ∧ (@Ne Nat b1 b3) ∧ (@Ne Nat b2 b3)) → Q (.ref S) { s with heap := h', toks := tk }) :
    wpAny (model prog w) A (call (.builtin "sorted") [.ref z]) Q E s :=
  zl_sortedK hh F N hz D Z hd hx fun a0 a1 a2 a3 S t0 t1 t2 t3 h' tk hd' l0 l1 l2 l3 F' N' =>
    sort4 (s := { s with heap := h', toks := tk }) st hst F' hd' l0 l1 l2 l3 c0 c1 c2 c3 e0 e1 e2 e3 N' fun b0 b1 b2 b3 v0 v1 v2 v3 d0 d1 d2 d3 n h2 tk2 F2 N2 g1 g2 g3 => h S b0 b1 b2 b3 v0 v1 v2 v3 d0 d1 d2 d3 n h2 tk2 F2 N2 g1 g2 g3
end
end Mine
end PartSW
section PartSC
open PySem PySem.W PyProof.Rows PySem.Spec PySem.Calls

set_option maxRecDepth 100000
namespace Mine
open LCg
noncomputable abbrev celO (v : Option Value) : Obj := { cls := .type "cell", data := .cell v }
section
variable {prog : Program} {w : World} {A : Around} {E : Value → Shared → Prop} {s : Shared} {h₀ : Heap} {L : Addr} {m : Str → Option Value} {env : Env}
theorem store_cell {x : Str} {c : Addr} {v₀ : Option Value} {v : Value} {Q : Unit → Shared → Prop} (hk : env.scope.kind = .function) (hl : env.kindOf x = some .cell) (hc : env.cells.lookup x = some c) (hv : s.heap.get? c = some (celO v₀))
    (h : ∀ h', h'.get? c = some (celO (some v)) → Heap.SameBut c s.heap h' → Q () { s with heap := h' }) : wpAny (model prog w) A (storeName env x v) Q E s := by
  unfold storeName
  simp only [hl, hk]
  refine wpAny_bind (wpAny_cellOf hc ?_)
  unfold cellSet
  refine wpAny_bind (wpAny_load hv ?_)
  exact wpAny_update hv (h _ (Heap.get?_update_self _ hv rfl) (Heap.SameBut.update ..))
/-- the loop's state -/
inductive CcI (h₀ : Heap) (L : Addr) (m : Str → Option Value) (s₂ : Shared) (I : Addr) (n : Nat) (St : Nat → Heap → Prop) (J : Nat → List Value → Led → Prop) (oC : Obj) (a b c : Addr) (k : Nat) (s' : Shared) : Prop
  | mk (h' : Heap) (tk i : Nat) (ys : List Value) (v₀ : Option Value) (news' : Led) (e : s' = { s₂ with heap := h', toks := tk }) (hi : i ≤ n) (hk : k = n + 1 - i) (hy : ys.length = i) (hs : St i h') (hF : Fr h₀ L h' m) (hx : h'.get? c = some (celO v₀)) (hN : News h₀ L h' ((a, lst ys) :: (b, oC) :: news'))
      (ho : Off3 I c a ((b, oC) :: news')) (hc : Off1 b news') (hJ : J i ys news') : CcI h₀ L m s₂ I n St J oC a b c k s'
/-- a comprehension over range(n) whose own variable is shared with an inner one -/
theorem block_C {elt iter : Expr} {x : Str} {px : Pos} {scope : Scope} {cl : List (Str × Addr)} {pos : Pos} {s₂ : Shared} {I : Addr} {fp : List Addr} {n : Nat} {P : Nat → Value → Prop} {St : Nat → Heap → Prop} {news : List (Addr × Obj)}
    {RR : Value → Addr → Result → Shared → Prop} (J : Nat → List Value → Led → Prop)
    (W : Walks prog w A I fp [I] n P St) (hsz : n ≤ sizeLine) (hIo : ∀ i h, St i h → ∃ o, h.get? I = some o)
    (hSt : ∀ i h h' o nw, St i h → h.get? I = some o → h'.get? I = some o → (∀ b o, h₀.get? b = some o → h'.get? b = some o) → News h₀ L h' nw → True → St i h')
    (hone : ∀ k, cellsFrom k scope.names cl = (x, k) :: cl) (hone' : ∀ h : Heap, pushCells h scope.names = h.push (celO none)) (hkind : scope.kind = .function) (hx : (relabel scope env).names.lookup x = some .cell) (hst : St 0 s₂.heap) (hfp : ∀ b ∈ fp, b < s₂.heap.objs.size)
    (F : Fr h₀ L s₂.heap m) (N : News h₀ L s₂.heap news) (hIL : L ≠ I) (hI₀ : h₀.get? I = none) (off : ∀ p ∈ news, p.1 ≠ I)
    (hJ : J 0 [] news)
    (turn : ∀ i v I oI C oC cx D h tk ys nw (E' : Value → Shared → Prop), i < n → P i v → J i ys nw → Fr h₀ L h m → News h₀ L h ((I, oI) :: (cx, celO (some v)) :: (D, lst ys) :: (C, oC) :: nw) → Off3 I cx D ((C, oC) :: nw) → Off1 C nw → ((@Ne Nat I cx) ∧ (@Ne Nat I D) ∧ (@Ne Nat cx D)) →
      wpAny (model prog w) A (eval elt (compEnvC scope ((x, cx) :: cl) C env)) (CompEnd h₀ L m { s₂ with heap := h, toks := tk } I oI cx (celO (some v)) D (lst ys) (fun _ => True) (fun y nw' => ∃ nw₁, nw' = (C, oC) :: nw₁ ∧ Off1 C nw₁ ∧ J (i + 1) (ys ++ [y]) nw₁)) E' { s₂ with heap := h, toks := tk })
    (hRR : ∀ D C h tk m' ys news', Fr h₀ L h m → News h₀ L h ((D, lst ys) :: news') → Off1 D news' → h.Ns C m' → h₀.get? C = none → h₀.get? D = none → C ≠ L → D ≠ L → C ≠ D → (∀ p ∈ news', p.1 ≠ C) → J n ys news' → RR (.ref D) C (.ok .next) { s₂ with heap := h, toks := tk }) :
    wpAny (model prog w) A (newList []) (fun acc s₃ => wpAny (model prog w) A (newFunctionEnv scope env.globals cl [] env.qual none .none (some env)) (fun cenv s₄ =>
      codeAny (model prog w) A (.compStart (.ListComp elt [⟨.Name x px, iter, [], 0⟩] scope pos) 0 (.ref I) acc { cenv with scope := relabel scope env }) (RR acc cenv.locals) s₄) E s₃) E s₂ := by
  refine wpAny_newObj_type ?_
  generalize hH2 : s₂.heap.push { cls := .type "list", dict := none, data := .seq ([] : List Value).toArray } = H2
  simp only [newFunctionEnv, Option.isSome_some, if_true]
  refine wpAny_bind (wpAny_alloc ?_)
  refine wpAny_bind (wpAny_layCells _ (fun name kind cells => by cases hkc : kind == NameKind.cell <;> simp [hkc]) _ _ _ _ ?_)
  rw [List.forIn_nil]
  dsimp only
  rw [hone, hone']
  refine wpAny_bind (wpAny_pure (wpAny_pure ?_))
  generalize hH3 : H2.push { cls := Value.type "dict", dict := none, data := .dict #[], slots := #[] } = H3
  generalize hh1 : H3.push (celO none) = h₁
  have hC : H2.objs.size = s₂.heap.objs.size + 1 := by rw [← hH2, Heap.size_push]
  have hX : H3.objs.size = s₂.heap.objs.size + 1 + 1 := by rw [← hH3, Heap.size_push, hC]
  have hDC : s₂.heap.objs.size ≠ H2.objs.size := by rw [hC]; exact Nat.ne_of_lt (Nat.lt_succ_self _)
  have hDX : s₂.heap.objs.size ≠ H3.objs.size := by rw [hX]; exact Nat.ne_of_lt (by lia)
  have hCX : H2.objs.size ≠ H3.objs.size := by rw [hC, hX]; exact Nat.ne_of_lt (by lia)
  have below : ∀ b, b < s₂.heap.objs.size → b ≠ H2.objs.size ∧ b ≠ s₂.heap.objs.size ∧ b ≠ H3.objs.size := fun b hb => ⟨by rw [hC]; exact Nat.ne_of_lt (Nat.lt_succ_of_lt hb), Nat.ne_of_lt hb, by rw [hX]; exact Nat.ne_of_lt (Nat.lt_succ_of_lt (Nat.lt_succ_of_lt hb))⟩
  have hDf : s₂.heap.objs.size ∉ fp := fun hm => Nat.lt_irrefl _ (hfp _ hm)
  have hXf : H3.objs.size ∉ fp := fun hm => by
    have q := hfp _ hm
    rw [hX] at q
    exact Nat.lt_irrefl _ (Nat.lt_of_succ_lt (Nat.lt_of_succ_lt q))
  have hIf : I ∈ fp := W.sub I (List.mem_singleton.mpr rfl)
  have hIlt : I < s₂.heap.objs.size := hfp I hIf
  have up2 : ∀ b o, H2.get? b = some o → h₁.get? b = some o := fun b o e => hh1 ▸ Heap.get?_push_of_some _ (hH3 ▸ Heap.get?_push_of_some _ e)
  have old : ∀ b o, s₂.heap.get? b = some o → h₁.get? b = some o := fun b o e => up2 b o (hH2 ▸ Heap.get?_push_of_some _ e)
  have hacc : h₁.get? s₂.heap.objs.size = some (lst []) := up2 _ _ (hH2 ▸ Heap.get?_push_size _ rfl)
  have hCo : h₁.get? H2.objs.size = some { cls := Value.type "dict", dict := none, data := .dict #[], slots := #[] } := hh1 ▸ Heap.get?_push_of_some _ (hH3 ▸ Heap.get?_push_size _ rfl)
  have hXo : h₁.get? H3.objs.size = some (celO none) := hh1 ▸ Heap.get?_push_size _ rfl
  have hst₁ : St 0 h₁ := W.frame _ _ _ hst fun b _ o e => old b o e
  have fresh : ∀ a, s₂.heap.objs.size ≤ a → s₂.heap.get? a = none := fun a ha => by
    cases e : s₂.heap.get? a with
    | none => rfl
    | some o' => exact absurd (Heap.lt_size e) (Nat.not_lt.mpr ha)
  have fresh₀ : ∀ a, s₂.heap.objs.size ≤ a → h₀.get? a = none := fun a ha => by
    cases e : h₀.get? a with
    | none => rfl
    | some o' => have := F.keep a o' e; rw [fresh a ha] at this; cases this
  have hD₀ : h₀.get? s₂.heap.objs.size = none := fresh₀ _ (Nat.le_refl _)
  have hC₀ : h₀.get? H2.objs.size = none := fresh₀ _ (by rw [hC]; exact Nat.le_succ _)
  have hX₀ : h₀.get? H3.objs.size = none := fresh₀ _ (by rw [hX]; exact Nat.le_succ_of_le (Nat.le_succ _))
  have hLlt : L < s₂.heap.objs.size := F.ns.lt
  have hDL : s₂.heap.objs.size ≠ L := Ne.symm (below L hLlt).2.1
  have hCL : H2.objs.size ≠ L := Ne.symm (below L hLlt).1
  have hXL : H3.objs.size ≠ L := Ne.symm (below L hLlt).2.2
  have hCI : I ≠ H2.objs.size := (below I hIlt).1
  have hDI : I ≠ s₂.heap.objs.size := (below I hIlt).2.1
  have hXI : I ≠ H3.objs.size := (below I hIlt).2.2
  have nsC : ∃ m', ∀ h : Heap, h.get? H2.objs.size = some { cls := Value.type "dict", dict := none, data := .dict #[], slots := #[] } → h.Ns H2.objs.size m' := by
    refine ⟨fun _ => none, fun h e => ⟨_, #[], 0, e, rfl, ?_, fun _ => rfl⟩⟩
    intro e he
    simp at he
  obtain ⟨m', nsC⟩ := nsC
  generalize hoC : ({ cls := Value.type "dict", dict := none, data := .dict #[], slots := #[] } : Obj) = oC at hCo nsC
  have off₀ : Off3 I H3.objs.size s₂.heap.objs.size ((H2.objs.size, oC) :: news) := Off3.of fun p hp => by
    rcases List.mem_cons.mp hp with rfl | hp
    · exact ⟨hCI.symm, hCX, hDC.symm⟩
    · exact ⟨off p hp, (below _ (Heap.lt_size (N p hp).1)).2.2, (below _ (Heap.lt_size (N p hp).1)).2.1⟩
  have offC₀ : Off1 H2.objs.size news := (Off3.one (I := I) (C := I) (Off3.of fun p hp => ⟨off p hp, off p hp, (below _ (Heap.lt_size (N p hp).1)).1⟩))
  have loop : ∀ s₃ : Shared, (∃ tk, s₃ = { s₂ with heap := h₁, toks := tk }) →
      codeAny (model prog w) A (.compLoop (.ListComp elt [⟨.Name x px, iter, [], 0⟩] scope pos) 0 (.ref I) (.ref s₂.heap.objs.size) (compEnvC scope ((x, H3.objs.size) :: cl) H2.objs.size env))
        (RR (.ref s₂.heap.objs.size) H2.objs.size) s₃ := by
    rintro s₃ ⟨tk₀, rfl⟩
    refine codeAny_compLoop_tests
      (CcI h₀ L m s₂ I n St J oC s₂.heap.objs.size H2.objs.size H3.objs.size) ?_ (n + 1)
      ⟨h₁, _, 0, [], none, news, rfl, Nat.zero_le _, rfl, rfl, hst₁, F.keeps old, hXo, fun p hp => ?_, off₀, offC₀, hJ⟩
    · rintro k s' ⟨h', tk, i, ys, v₀, news', rfl, hi, rfl, hyl, hst', F', hx', N', off', offC', J'⟩
      have off3 := off'.mem
      by_cases hlt : i < n
      · refine W.item i _ _ _ hlt hst' fun v h₂ tk₂ hPv hst₂ hk₂ => ?_
        refine wpAny_assign_Name (store_cell (env := compEnvC scope ((x, H3.objs.size) :: cl) H2.objs.size env) (by simp [compEnvC, relabel, hkind]) hx (by simp [compEnvC]) (hk₂ _ _ (by simpa using Ne.symm hXI) hx') (fun h₃ hx₃ hs₃ => ?_))
        refine wpAny_tests_nil ?_
        simp only [if_true]
        have hst₃ : St (i + 1) h₃ := W.frame _ _ _ hst₂ fun b hb o e => hs₃.extBut b o (fun q => hXf (by have q' : b = H3.objs.size := q; rw [← q']; exact hb)) e
        obtain ⟨oI, heI⟩ := hIo _ _ hst₃
        have F₃ : Fr h₀ L h₃ m := (fr_but F' hk₂ hIL hI₀).change hs₃ hXL hX₀
        have N₂ : News h₀ L h₂ ((s₂.heap.objs.size, lst ys) :: (H2.objs.size, oC) :: news') := news_but N' hk₂ fun p hp => by
          rcases List.mem_cons.mp hp with rfl | hp
          · exact Ne.symm hDI
          · exact (off3 p hp).1
        have N₃ : News h₀ L h₃ ((I, oI) :: (H3.objs.size, celO (some v)) :: (s₂.heap.objs.size, lst ys) :: (H2.objs.size, oC) :: news') := fun p hp => by
          rcases List.mem_cons.mp hp with rfl | hp
          · exact ⟨heI, Ne.symm hIL, hI₀⟩
          · rcases List.mem_cons.mp hp with rfl | hp
            · exact ⟨hx₃, hXL, hX₀⟩
            · have z := N₂ p hp
              refine ⟨hs₃.extBut _ _ ?_ z.1, z.2⟩
              rcases List.mem_cons.mp hp with rfl | hp
              · exact hDX
              · exact (off3 p hp).2.1
        refine wpAny_mono (turn i v I oI H2.objs.size oC H3.objs.size s₂.heap.objs.size h₃ _ ys news' _ hlt hPv J' F₃ N₃ off' offC' ⟨hXI, hDI, Ne.symm hDX⟩) (fun y s₄ h₄ => ?_) fun _ _ e => e
        obtain ⟨h₄, tk₄, news₄, rfl, F₄, N₄, off₄, _, nw₁, rfl, offC₄, J₄⟩ := h₄
        have zI := (N₄ (I, oI) List.mem_cons_self).1
        have zX := (N₄ (H3.objs.size, celO (some v)) (List.mem_cons_of_mem _ List.mem_cons_self)).1
        have zD := (N₄ (s₂.heap.objs.size, lst ys) (List.mem_cons_of_mem _ (List.mem_cons_of_mem _ List.mem_cons_self))).1
        have N₄' : News h₀ L h₄ ((H2.objs.size, oC) :: nw₁) := fun p hp => N₄ p (List.mem_cons_of_mem _ (List.mem_cons_of_mem _ (List.mem_cons_of_mem _ hp)))
        have hst₄ : St (i + 1) h₄ := hSt _ _ _ _ _ hst₃ heI zI F₄.keep N₄' trivial
        refine append_at (hsz := by show ys.toArray.size ≤ sizeLine; rw [List.size_toArray, hyl]; exact Nat.le_trans hi hsz) zD fun h₅ hs₅ hD₅ => ?_
        have off4 := off₄.mem
        refine ⟨n + 1 - (i + 1), by lia, h₅, tk₄, i + 1, ys ++ [y], _, nw₁, rfl, hlt, rfl, by rw [List.length_append, List.length_singleton, hyl], W.frame _ _ _ hst₄ fun b hb o e => hs₅.extBut b o (fun q => hDf (q ▸ hb)) e, F₄.change hs₅ hDL hD₀,
          hs₅.extBut _ _ (Ne.symm hDX) zX, fun p hp => ?_, off₄, offC₄, J₄⟩
        rcases List.mem_cons.mp hp with rfl | hp
        · exact ⟨hD₅.trans (congrArg some (lst_snoc ys y)), hDL, hD₀⟩
        · exact ⟨hs₅.extBut _ _ (off4 p hp).2.2 (N₄' p hp).1, (N₄' p hp).2⟩
      · obtain rfl : i = n := Nat.le_antisymm hi (Nat.not_lt.mp hlt)
        refine W.done _ _ _ hst' fun h₂ tk₂ hk₂ => ?_
        have N₂ : News h₀ L h₂ ((s₂.heap.objs.size, lst ys) :: (H2.objs.size, oC) :: news') := news_but N' hk₂ fun p hp => by
          rcases List.mem_cons.mp hp with rfl | hp
          · exact Ne.symm hDI
          · exact (off3 p hp).1
        exact hRR _ _ h₂ tk₂ _ ys news' (fr_but F' hk₂ hIL hI₀) (fun p hp => N₂ p (by
          rcases List.mem_cons.mp hp with h | h
          · exact h ▸ .head _
          · exact .tail _ (.tail _ h))) off'.one.2 (nsC _ (N₂ _ (.tail _ (.head _))).1) hC₀ hD₀ hCL hDL (Ne.symm hDC) (Off.of1 offC') J'
    · rcases List.mem_cons.mp hp with rfl | hp
      · exact ⟨hacc, hDL, hD₀⟩
      rcases List.mem_cons.mp hp with rfl | hp
      · exact ⟨hCo, hCL, hC₀⟩
      · exact ⟨old _ _ (N p hp).1, (N p hp).2⟩
  exact codeAny_compStart_list (loop _ ⟨_, rfl⟩) (W.self 0 _ _ _ hst₁ (loop _ ⟨_, rfl⟩))
noncomputable def SrcC (prog : Program) (w : World) (A : Around) (h₀ : Heap) (L : Addr) (m : Str → Option Value) (env : Env) (elt : Expr) (x : Str) (scope : Scope) (cl : List (Str × Addr)) (Q : Value → Shared → Prop) (xv : Value) (s₁ : Shared) : Prop :=
  ∃ (J : Nat → List Value → Led → Prop) (n : Nat) (r : Addr) (t u v : Tok) (news : Led), xv = .ref r ∧ A.handled = none ∧ Fr h₀ L s₁.heap m ∧ News h₀ L s₁.heap news ∧ IsRange s₁.heap r 0 n 1 t u v ∧ Builtin.Range.small 0 n 1 = true ∧ Builtin.Range.rangeSize 0 n 1 = ((n : Nat) : Int) ∧ n ≤ sizeLine ∧
    J 0 [] news ∧
    (∀ g, ∀ i v I oI C oC cx oX D h tk ys nw (E' : Value → Shared → Prop), i < n → (∃ t, v = .int (0 + (i : Int)) t) → oX.data = .cell (some v) → J i ys nw → Fr h₀ L h m → News h₀ L h ((I, oI) :: (cx, oX) :: (D, lst ys) :: (C, oC) :: nw) → Off3 I cx D ((C, oC) :: nw) → Off1 C nw → ((@Ne Nat I cx) ∧ (@Ne Nat I D) ∧ (@Ne Nat cx D)) →
      wpAny (model prog w) A (eval elt (compEnvC scope ((x, cx) :: cl) C env)) (CompEnd h₀ L m { s₁ with heap := h, toks := tk } I oI cx oX D (lst ys) (fun _ => True) (fun y nw' => ∃ nw₁, nw' = (C, oC) :: nw₁ ∧ Off1 C nw₁ ∧ J (i + 1) (ys ++ [y]) nw₁)) E' { ({ s₁ with heap := g } : Shared) with heap := h, toks := tk }) ∧
    (∀ ys nw, J n ys nw → FinE h₀ L m s₁ Q ys nw)
theorem ListComp_C {elt iter : Expr} {x : Str} {px : Pos} {scope : Scope} {cl : List (Str × Addr)} {pos : Pos} {Q : Value → Shared → Prop} (F₀ : Fr h₀ L s.heap m)
    (hclos : closureFor scope env = pure cl) (hone : ∀ k, cellsFrom k scope.names cl = (x, k) :: cl) (hone' : ∀ h : Heap, pushCells h scope.names = h.push (celO none)) (hkind : scope.kind = .function)
    (hnames : ∀ y ∈ scope.names, y.2 = .local → scope.names.lookup y.1 = some .local) (hx : (relabel scope env).names.lookup x = some .cell)
    (h : wpAny (model prog w) A (eval iter env) (SrcC prog w A h₀ L m env elt x scope cl Q) E s)
    (hs : ∀ x, foldedSetIterable iter env x = pure x := by intro _; rfl) :
    wpAny (model prog w) A (eval (.ListComp elt [⟨.Name x px, iter, [], 0⟩] scope pos) env) Q E s := by
  rw [eval_ListComp]
  refine wpAny_comprehension_free (use := none) rfl hs hclos hkind hnames (wpAny_mono h (fun xv s₁ h₁ => ?_) fun _ _ e => e)
  obtain ⟨J, n, r, t, u, v, news, rfl, hh, F, N, hr, hsm, hn, hsz, hJ, turn, fin⟩ := h₁
  refine wpAny_pyIter_range hr hsm ?_
  refine block_C (n := n) J (range_walks hh 0 n) hsz (fun i h st => ⟨_, st⟩) range_st hone hone' hkind hx (by show IsRangeIter _ _ _ _ _; rw [hn]; simpa using Heap.get?_push_size _ rfl) (fun b hb => ?_)
    (F.keeps fun _ _ e => Heap.get?_push_of_some _ e) (N.grown fun _ _ e => Heap.get?_push_of_some _ e) (Nat.ne_of_lt F.ns.lt) (next_is_new F) (fun p hp => Nat.ne_of_lt (Heap.lt_size (N p hp).1)) hJ
    (fun i v I oI C oC cx D h tk ys nw E' hi hP hJi F' N' o1 o2 o3 => turn _ i v I oI C oC cx (celO (some v)) D h tk ys nw E' hi hP rfl hJi F' N' o1 o2 o3) ?_
  · rw [List.mem_singleton.mp hb]
    show s₁.heap.objs.size < (s₁.heap.push _).objs.size
    rw [Heap.size_push]; exact Nat.lt_succ_self _
  · intro D C h tk m' ys news' F' N' o1 hn hC₀ hD₀ hCL hDL hCD offC hJn
    refine ⟨m', hn, fun h'' hs'' => fin ys news' hJn D h'' tk (F'.change hs'' hCL hC₀) (fun p hp => ?_) o1⟩
    refine ⟨hs''.extBut _ _ ?_ (N' p hp).1, (N' p hp).2⟩
    rcases List.mem_cons.mp hp with rfl | hp
    · exact Ne.symm hCD
    · exact offC p hp
end
end Mine
end PartSC
section PartN16
open PySem PySem.W PyProof.Rows PySem.Spec PySem.Calls

set_option maxRecDepth 100000
set_option maxHeartbeats 8000000
namespace Mine
noncomputable def pickOf (es : List (List Nat × List Nat × Nat)) (t : Nat) : Nat := (es.getD t ([], [], 0)).2.2
section
variable {prog : Program} {w : World} {A : Around} {s : Shared} {h₀ : Heap} {L : Addr} {m : Str → Option Value} {env : Env} {elt : Expr} {x x₂ : Str} {scope : Scope} {cl : List (Str × Addr)} {S : List (Addr × Obj) → Prop} {P : Nat → Value → Prop} {Fin : List Value → List (Addr × Obj) → Prop}
theorem comp_invP (J : Nat → List Value → Led → Prop) (n : Nat)
    (turn : ∀ i v ys nw, i < n → P i v → J i ys nw → ∃ (t : Addr) (ot : Obj) (v₁ v₂ : Value) (nt : Nat), v = .ref t ∧ (t, ot) ∈ nw ∧ ot.cls = .type "tuple" ∧ ot.data = .seq #[v₁, v₂] nt ∧
      ∀ I oI C oC D m₂ h tk (E' : Value → Shared → Prop), LCg.NsObj oC m₂ → m₂ x = some v₁ → m₂ x₂ = some v₂ → Fr h₀ L h m → News h₀ L h ((I, oI) :: (C, oC) :: (D, LCg.lst ys) :: nw) → LCg.Off3 I C D nw → ((@Ne Nat I C) ∧ (@Ne Nat I D) ∧ (@Ne Nat C D)) →
      wpAny (model prog w) A (eval elt (compEnvC scope cl C env)) (LCg.CompEnd h₀ L m { s with heap := h, toks := tk } I oI C oC D (LCg.lst ys) S (fun y nw' => J (i + 1) (ys ++ [y]) nw')) E' { s with heap := h, toks := tk })
    (fin : ∀ ys nw, J n ys nw → Fin ys nw) : ∀ k i ys nw, i + k = n → J i ys nw → LCp.CompRestP prog w A h₀ L m env elt x x₂ scope cl s S P Fin k i ys nw := by
  intro k
  induction k with
  | zero =>
    intro i ys nw e hJ
    exact fin ys nw (by rw [Nat.add_zero] at e; exact e ▸ hJ)
  | succ k ih =>
    intro i ys nw e hJ
    intro v hP
    obtain ⟨t, ot, v₁, v₂, nt, e1, e2, e3, e4, go⟩ := turn i v ys nw (by lia) hP hJ
    refine ⟨t, ot, v₁, v₂, nt, e1, e2, e3, e4, fun I oI C oC D m₂ h tk E' hC hx hx2 F N off ne => ?_⟩
    refine wpAny_mono (go I oI C oC D m₂ h tk E' hC hx hx2 F N off ne) (fun y s₂ q => ?_) fun _ _ e => e
    obtain ⟨h', tk', nw', es, F', N', off', hS, hJ'⟩ := q
    exact ⟨h', tk', nw', es, F', N', off', hS, ih (i + 1) _ _ (by lia) hJ'⟩
end
theorem log_item {prog : Program} {w : World} {A : Around} {E : Value → Shared → Prop} {s : Shared} {h₀ : Heap} {L l : Addr} {value slice : PySem.Expr} {news nw : Led} {us : List Value} {n : Nat} {es : List Ent} {k : Int} {u : Tok} {Q : Value → Shared → Prop} (N : News h₀ L s.heap news) (hm : (l, listOf us.toArray n) ∈ news)
    (hd : DatAll nw us (es.map entD)) (hs : ∀ q ∈ nw, q ∈ news) (h0 : 0 ≤ k) (h1 : k < es.length) (h2 : k < 1000)
    (h : ∀ (a : Addr) (v1 v2 : Value) (t : Tok) (nt : Nat), (a, ({ cls := .type "tuple", data := .seq #[v1, v2, .int (pickOf es k.toNat : Nat) t] nt } : Obj)) ∈ news → Q (.ref a) s)
    (hs' : subscripted slice false (.ref l) (.int k u) = operate [.ref l, .int k u] (getItem (.ref l) (.int k u)) := by with_unfolding_all rfl) :
    wpAny (model prog w) A (subscriptTail value slice (.ref l) (.int k u)) Q E s := by
  have hl : s.heap.IsList l us.toArray := ⟨_, (N _ hm).1, rfl, _, rfl⟩
  have hlt : k.toNat < es.length := by lia
  obtain ⟨v, hv, hD⟩ := hd.get (k := k.toNat) (by rw [List.length_map]; exact hlt)
  have e : es.getD k.toNat ([], [], 0) = es[k.toNat] := by rw [List.getD_eq_getElem?_getD, List.getElem?_eq_getElem hlt]; rfl
  rw [List.getElem_map] at hD
  unfold entD at hD
  rw [show pickOf es k.toNat = es[k.toNat].2.2 from by unfold pickOf; rw [e]] at h
  cases hD with
  | tuple hm2 r =>
    cases r with
    | cons r1 r =>
      cases r with
      | cons r2 r =>
        cases r with
        | cons r3 r =>
          cases r3
          cases r
          exact tail_any hl.typeIs slot_list_getitem.lookup (wpAny_getItem_list hl h0 (Int.lt_trans h2 (by decide)) (by rw [List.getElem?_toArray]; exact hv) (h _ _ _ _ _ (hs _ hm2))) hs'
theorem tup_item3 {prog : Program} {w : World} {A : Around} {E : Value → Shared → Prop} {s : Shared} {h₀ : Heap} {L a : Addr} {value slice : PySem.Expr} {news : Led} {v1 v2 : Value} {v : Int} {t u : Tok} {nt : Nat} {Q : Value → Shared → Prop} (N : News h₀ L s.heap news)
    (hm : (a, ({ cls := .type "tuple", data := .seq #[v1, v2, .int v t] nt } : Obj)) ∈ news) (h : ∀ t', Q (.int v t') s)
    (hs : subscripted slice false (.ref a) (.int 2 u) = operate [.ref a, .int 2 u] (getItem (.ref a) (.int 2 u)) := by with_unfolding_all rfl) :
    wpAny (model prog w) A (subscriptTail value slice (.ref a) (.int 2 u)) Q E s := by
  have ht : IsTup s.heap a #[v1, v2, .int v t] := ⟨_, (N _ hm).1, rfl, _, rfl⟩
  exact tail_any ht.typeIs slot_tuple_getitem.lookup (getItem_tuple ht (by lia) (by decide) rfl (x := .int v t) rfl (h t)) hs
noncomputable def pickP (es : List Ent) (b t : Nat) : Bool := pickOf es t == b
theorem pick_yes {es : List Ent} {b i : Nat} {ys : List Value} {t : Tok} (hc : pickP es b i = true) (hy : IntsAre ys (((List.range i).filter (pickP es b)).map fun (q : Nat) => (q : Int))) : IntsAre (ys ++ [.int (0 + (i : Int)) t]) (((List.range (i + 1)).filter (pickP es b)).map fun (q : Nat) => (q : Int)) := by
  rw [List.range_succ, List.filter_append, List.map_append, List.filter_cons_of_pos hc, Int.zero_add]
  exact IntsAre.append hy (.cons _ _ .nil)
theorem pick_no {es : List Ent} {b i : Nat} {ys : List Value} (hc : pickP es b i = false) (hy : IntsAre ys (((List.range i).filter (pickP es b)).map fun (q : Nat) => (q : Int))) : IntsAre ys (((List.range (i + 1)).filter (pickP es b)).map fun (q : Nat) => (q : Int)) := by
  rw [List.range_succ, List.filter_append, List.filter_cons_of_neg (by rw [hc]; decide), List.filter_nil, List.append_nil]
  exact hy
noncomputable def lastN (st b : Nat) : Nat := 16 + (b + 4 - st) % 4
theorem lastN_int (st b : Nat) : ((lastN st b : Nat) : Int) = 16 + ((b + 4 - st) % 4 : Nat) := rfl
theorem turn_on : ∀ st, st < 4 → ∀ b, b < 4 → (st + (b + 4 - st) % 4) % 4 = b := by decide
theorem turn_back : ∀ st, st < 4 → ∀ u, u < 4 → ((st + u) % 4 + 4 - st) % 4 = u := by decide
theorem mod4 (n : Nat) : n % 4 < 4 := Nat.mod_lt _ (by decide)
theorem last_mem {es : List Ent} {st b : Nat} (hst : st < 4) (hb : b < 4) (hgo : ∀ j, j < 4 → pickOf es (16 + j) = (st + j) % 4) : ((lastN st b : Nat) : Int) ∈ ((List.range 20).filter (pickP es b)).map fun (q : Nat) => (q : Int) := by
  refine List.mem_map.mpr ⟨lastN st b, List.mem_filter.mpr ⟨List.mem_range.mpr (Nat.add_lt_add_left (mod4 _) 16), ?_⟩, rfl⟩
  unfold pickP lastN
  rw [hgo _ (mod4 _)]
  exact beq_iff_eq.mpr (turn_on st hst b hb)
theorem last_max {es : List Ent} {st b : Nat} {M : Int} (hst : st < 4) (hb : b < 4) (hgo : ∀ j, j < 4 → pickOf es (16 + j) = (st + j) % 4) (h1 : M ∈ ((List.range 20).filter (pickP es b)).map fun (q : Nat) => (q : Int)) (h2 : ∀ a, a ∈ (((List.range 20).filter (pickP es b)).map fun (q : Nat) => (q : Int)) → a ≤ M) : M = ((lastN st b : Nat) : Int) := by
  have h3 := h2 _ (last_mem hst hb hgo)
  obtain ⟨t, ht, rfl⟩ := List.mem_map.mp h1
  obtain ⟨ht, hp⟩ := List.mem_filter.mp ht
  have ht := List.mem_range.mp ht
  have hp : pickOf es t = b := beq_iff_eq.mp hp
  have hT : 16 ≤ t := Nat.le_trans (Nat.le_add_right 16 _) (Int.ofNat_le.mp h3)
  have h5 : t - 16 < 4 := Nat.sub_lt_left_of_lt_add hT ht
  have h4 := hgo (t - 16) h5
  rw [Nat.add_sub_cancel' hT, hp] at h4
  have h6 : t = lastN st b := by
    unfold lastN
    rw [h4, turn_back st hst _ h5, Nat.add_sub_cancel' hT]
  rw [← h6]
section
variable {prog : Program} {w : World} {A : Around} {h₀ : Heap} {L : Addr} {m : Str → Option Value} {env : Env} {elt ct : Expr} {x : Str} {scope : Scope} {cl : List (Str × Addr)} {s : Shared} {S : Led → Prop} {Fin : List Value → Led → Prop}
/-- over a list of ints: each turn makes one datum, kept behind -/
theorem comp_datsW {vs : List Value} {ns : List Int} (hi : IntsAre vs ns) (c1 c2 c3 c4 : Addr × Obj) (own : Led) (D : Int → Dat)
    (turn : ∀ n t I oI Cn oC Dd m₂ h tk ys T (E' : Value → Shared → Prop), n ∈ ns → LCg.NsObj oC m₂ → m₂ x = some (.int n t) → Fr h₀ L h m → News h₀ L h ((I, oI) :: (Cn, oC) :: (Dd, LCg.lst ys) :: c1 :: c2 :: c3 :: c4 :: (own ++ T)) → LCg.Off3 I Cn Dd (c1 :: c2 :: c3 :: c4 :: (own ++ T)) → ((@Ne Nat I Cn) ∧ (@Ne Nat I Dd) ∧ (@Ne Nat Cn Dd)) →
      wpAny (model prog w) A (eval elt (compEnvC scope cl Cn env)) (LCg.CompEnd h₀ L m { s with heap := h, toks := tk } I oI Cn oC Dd (LCg.lst ys) S (fun y nw' => ∃ e : Addr × Obj, nw' = c1 :: c2 :: c3 :: c4 :: (own ++ (e :: T)) ∧ DatIn [e] y (D n) ∧ ∀ p ∈ own, p.1 ≠ e.1)) E' { s with heap := h, toks := tk })
    (fin : ∀ ys T, DatAll T ys (ns.map D) → (∀ q ∈ T, ∀ p ∈ own, p.1 ≠ q.1) → Fin ys (c1 :: c2 :: c3 :: c4 :: (own ++ T))) :
    LCg.CompRest prog w A h₀ L m env elt x scope cl s S (fun i v => vs.toArray[i]? = some v) Fin vs.toArray.size 0 [] (c1 :: c2 :: c3 :: c4 :: own) := by
  refine comp_inv (fun i ys nw => ∃ T, nw = c1 :: c2 :: c3 :: c4 :: (own ++ T) ∧ DatAll T ys ((ns.take i).map D) ∧ ∀ q ∈ T, ∀ p ∈ own, p.1 ≠ q.1) vs.toArray.size ?_ ?_ _ 0 [] _ (by lia) ⟨[], by rw [List.append_nil], .nil, fun _ h => nomatch h⟩
  · rintro i v I oI Cn oC Dd m₂ h tk ys nw E' hin hv ⟨T, rfl, hd, hT⟩ ho hx F N off ne
    have hlt : i < ns.length := by rw [← hi.length]; simpa using hin
    obtain ⟨t, ht⟩ := hi.get i ns[i] (by simp [hlt])
    have ev : v = .int ns[i] t := by
      have : vs[i]? = some v := by simpa using hv
      rw [ht] at this; exact (Option.some.inj this).symm
    subst ev
    refine wpAny_mono (turn _ t I oI Cn oC Dd m₂ h tk ys T E' (List.getElem_mem hlt) ho hx F N off ne) (fun y s₂ q => ?_) fun _ _ e => e
    obtain ⟨h', tk', nw', es, F', N', off', hS, e, rfl, hy, he⟩ := q
    refine ⟨h', tk', _, es, F', N', off', hS, e :: T, rfl, ?_, ?_⟩
    · rw [show ns.take (i + 1) = ns.take i ++ [ns[i]] from by rw [List.take_add_one, List.getElem?_eq_getElem hlt]; rfl, List.map_append]
      exact (hd.mono (fun p hp => .tail _ hp)).append (.cons (hy.mono (fun p hp => by rw [List.mem_singleton.mp hp]; exact .head _)) .nil)
    · intro q hq
      rcases List.mem_cons.mp hq with rfl | hq
      · exact he
      · exact hT q hq
  · rintro ys nw ⟨T, rfl, hd, hT⟩
    refine fin ys T ?_ hT
    have : ns.take vs.toArray.size = ns := by rw [List.size_toArray, hi.length]; exact List.take_length
    rwa [this] at hd
theorem datsW_sub {I C D a e c1 c2 c3 c4 : Addr × Obj} {own T : Led} (he : a = e) : ∀ p ∈ I :: C :: D :: c1 :: c2 :: c3 :: c4 :: (own ++ (e :: T)), p ∈ a :: I :: C :: D :: c1 :: c2 :: c3 :: c4 :: (own ++ T) := fun p hp => by
  subst he
  simp only [List.mem_cons, List.mem_append] at hp ⊢
  rcases hp with h | h | h | h | h | h | h | h | h | h <;> simp [h]
theorem datsW_off {I C D a : Addr} {o : Obj} {c1 c2 c3 c4 : Addr × Obj} {own T : Led} (off : LCg.Off3 I C D (c1 :: c2 :: c3 :: c4 :: (own ++ T))) (hI : @Ne Nat a I) (hC : @Ne Nat a C) (hD : @Ne Nat a D) : LCg.Off3 I C D (c1 :: c2 :: c3 :: c4 :: (own ++ ((a, o) :: T))) := LCg.Off3.of fun p hp => by
  have h := off.mem
  simp only [List.mem_cons, List.mem_append] at hp h
  rcases hp with e | e | e | e | e | e | e
  · exact h p (.inl e)
  · exact h p (.inr (.inl e))
  · exact h p (.inr (.inr (.inl e)))
  · exact h p (.inr (.inr (.inr (.inl e))))
  · exact h p (.inr (.inr (.inr (.inr (.inl e)))))
  · subst e; exact ⟨hI, hC, hD⟩
  · exact h p (.inr (.inr (.inr (.inr (.inr e)))))
theorem base_name {h : Heap} {a d c3 c2 c1 : Addr} {oa od o3 o2 o1 : Obj} {e1 e2 e3 e4 e5 : Addr × Obj} {r : Led} (_ : News h₀ L h ((a, oa) :: e1 :: e2 :: e3 :: e4 :: e5 :: (d, od) :: (c3, o3) :: (c2, o2) :: (c1, o1) :: r)) : ∃ (a' d' : Addr) (x3 x2 : Obj), a' = a ∧ d' = d ∧ x3 = o3 ∧ x2 = o2 := ⟨_, _, _, _, rfl, rfl, rfl, rfl⟩
theorem base_sub {a e1 e2 e3 e4 e5 d c3 c2 c1 : Addr × Obj} {r : Led} : ∀ p ∈ a :: d :: c3 :: c2 :: r, p ∈ a :: e1 :: e2 :: e3 :: e4 :: e5 :: d :: c3 :: c2 :: c1 :: r := fun p hp => by
  simp only [List.mem_cons] at hp ⊢
  rcases hp with h | h | h | h | h <;> simp [h]
end
noncomputable def pairD (st : Nat) (ring : List Nat) (v : Int) : Dat := .tuple [.str (if lastN st v.toNat % 2 = 0 then Txt.item (Str.ofString "abcd") v else Txt.item (Str.ofString "ABCD") v), .str (dotS (dot (ring.getD v.toNat 0) v.toNat))]
theorem mul_dot2 (r j : Nat) : Txt.mul (Str.ofString ".") (1 + ((r : Int) + (j : Int) - 1).fmod 3) = dotS (dot r j) := by
  have h := mul_dot r j
  rwa [Int.zero_add] at h
theorem pair_dat {T : Led} {st b : Nat} {ring : List Nat} {x y : Str} {tx ty : Tok} {a : Addr} {n : Nat} (hm : (a, ({ cls := .type "tuple", data := .seq #[.str x tx, .str y ty] n } : Obj)) ∈ T)
    (hx : x = if lastN st b % 2 = 0 then Txt.item (Str.ofString "abcd") (b : Int) else Txt.item (Str.ofString "ABCD") (b : Int)) (hy : y = Txt.mul (Str.ofString ".") (1 + (((ring.getD b 0 : Nat) : Int) + (b : Int) - 1).fmod 3)) : DatIn T (.ref a) (pairD st ring (b : Int)) := by
  subst hx hy
  unfold pairD
  rw [Int.toNat_natCast, ← mul_dot2]
  exact DatIn.tuple hm (.cons (.str _ _) (.cons (.str _ _) .nil))
theorem getD_cast (l : List Nat) (b : Nat) : (l.map fun (q : Nat) => (q : Int)).getD b 0 = ((l.getD b 0 : Nat) : Int) := by
  rw [List.getD_eq_getElem?_getD, List.getD_eq_getElem?_getD, List.getElem?_map]
  cases l[b]? <;> rfl
theorem last_at {st b : Nat} (hb : b < 4) : ((List.range 4).map fun (k : Nat) => ((lastN st k : Nat) : Int)).getD b 0 = ((lastN st b : Nat) : Int) := by
  have h : b = 0 ∨ b = 1 ∨ b = 2 ∨ b = 3 := four_cases (by assumption)
  rcases h with rfl | rfl | rfl | rfl <;> rfl
theorem c_pairs (w : World) {p : Program} {loose : List Str} {mean : ExcName → Option Value} {mg mb : Str → Option Value} (own : Led) (lg rg : Addr) (usL vsr : List Value) (nL nR : Nat) (es : List (List Nat × List Nat × Nat)) (ring : List Nat) (st : Nat)
    (hlg : (lg, listOf usL.toArray nL) ∈ own) (hrg : (rg, listOf vsr.toArray nR) ∈ own) (hD : DatAll own usL (es.map entD)) (hlen : es.length = 20) (hI : IntsAre vsr (ring.map fun (q : Nat) => (q : Int))) (hrl : ring.length = 4) (hst : st < 4) (hgo : ∀ j, j < 4 → pickOf es (16 + j) = (st + j) % 4) :
  Tell PySem.Challenge.rw_sr0074_02.row.prog w (hd02.heap_39 w.params) p loose mean mg mb 275 [.ref lg, .ref rg] own 30 400 (fun _ => True)
    (fun Go => ∀ a usP nP nw', DatAll nw' usP ((List.range 4).map fun (k : Nat) => pairD st ring (((st + k) % 4 : Nat) : Int)) → (∀ q ∈ nw', ∀ p ∈ own, p.1 ≠ q.1) → (∀ p ∈ own, p.1 ≠ a) → Go ((a, listOf usP.toArray nP) :: (nw' ++ own)) (fun r => r = .ref a)) := by
  k_fill
  k_with_none
  k_with "nX" => (first | exact ltA0 ‹_› | exact ltA1 ‹_› | exact ltA2 ‹_› | exact ltA3 ‹_› | exact ltA4 ‹_› | exact ltA5 ‹_› | exact ltA6 ‹_› | exact ltA7 ‹_› | exact ltA8 ‹_› | exact ltA9 ‹_› | exact ltA10 ‹_› | exact ltA11 ‹_› | exact ltA12 ‹_› | exact ltA13 ‹_› | exact neA0 ‹_› | exact neA1 ‹_› | exact neA2 ‹_› | exact neA3 ‹_› | exact neA4 ‹_› | exact neA5 ‹_› | exact neA6 ‹_› | exact neA7 ‹_› | exact neA8 ‹_› | exact neA9 ‹_› | exact neA10 ‹_› | exact neA11 ‹_› | exact neA12 ‹_›)
  k_with "k_ne" => (first | k_extra "nX" | (refine Ne.symm ?_; k_extra "nX"))
  k_with "k_all" => (first | exact List.forall_mem_nil _ | (refine' List.forall_mem_cons.mpr ⟨?zqa, ?zqb⟩; (case zqa => k_ne); (case zqb => k_all)) | assumption | exact al3s ‹_› | exact al0 ‹_› | exact al1 ‹_› | exact al2 ‹_› | exact al3 ‹_› | exact al4 ‹_› | exact al5 ‹_› | exact al6 ‹_› | exact al7 ‹_› | exact al8 ‹_› | exact al9 ‹_› | exact al10 ‹_› | exact al11 ‹_› | exact of2 ‹_›)
  k_with "ent D" => (refine' code_def ?zqk1 ?zqk2 ?zqk3 ?zqk4 ?zqk5 ?zqkA ?zqkF ?zqkK ?zqk6 ?zqk7 ?zqk8 ?zqk9 ?zqkB ?_ ?zqc2 ?zqc3 ?zqc4 ?zqc5; (case zqkA | zqkF => exact rfl); (case zqkK => assumption); (case zqk1 | zqk2 | zqk3 | zqk4 | zqk5 => (k_dflt k_asm)); (case zqk6 | zqk7 => k_is); (case zqk8 => ktr_room); (case zqk9 => first | exact BindsTo.of_eq rfl | exact binds_K (by k_in) rfl (by k_is) rfl rfl rfl); (case zqc5 => decide); (case zqkB => exact locs rfl); (case zqc2 | zqc3 | zqc4 => exact rfl))
  k_with "ent C" => (refine' code_defC ?zqk1 ?zqk2 ?zqk3 ?zqk4 ?zqk5 ?zqkA ?zqkF ?zqkK ?zqk6 ?zqk7 ?zqk8 ?zqk9 ?zqkB ?zqkD ?_ ?zqc2 ?zqc3 ?zqc4; (case zqkA | zqkF => exact rfl); (case zqkK => first | exact rfl | assumption); (case zqk1 | zqk2 | zqk3 | zqk4 | zqk5 => (k_dflt k_asm)); (case zqk6 | zqk7 => k_is); (case zqk8 => ktr_room); (case zqk9 => first | exact BindsTo.of_eq rfl | exact binds_K (by k_in) rfl (by k_is) rfl rfl rfl); (case zqkD => decide +kernel); (case zqkB | zqc2 | zqc3 | zqc4 => exact rfl))
  k_with "k_room" => (ktr_room)
  k_with "w exec For Name Call cons nil" => (k_here; (rename Fr _ _ _ _ => lF'); (with_unfolding_all refine' For_invVF lF' ?zqk1 ?zqk2 ?_; (case zqk1 => exact rfl); (case zqk2 => exact rfl); k_whole))
  k_with "w eval ListComp" => (k_here; k_extra "comp yes"; k_dflt (first | refine LCg.ListComp_U (F₀ := by k_asm) (by with_unfolding_all rfl) (by decide) (by rfl) (by decide) (by rfl) ?_ | refine LCt.ListComp_T (F₀ := by k_asm) (by with_unfolding_all rfl) (by decide) (by rfl) (by decide) (by rfl) ?_))
  k_with "w eval ListComp" => (k_here; k_extra "comp c"; (with_unfolding_all refine' ListComp_C (F₀ := by k_asm) ?zqa ?zqb ?zqc ?zqd ?zqe ?zqf ?_; (case zqa => with_unfolding_all rfl); (case zqb => exact fun _ => by with_unfolding_all rfl); (case zqc => exact fun _ => by with_unfolding_all rfl); (case zqd => with_unfolding_all rfl); (case zqe => with_unfolding_all decide); (case zqf => with_unfolding_all rfl)))
  k_with "w exec Assign cons ListComp" => (k_here; k_extra "comp ap"; (with_unfolding_all refine' LCp.Assign_ListComp_P (F₀ := by k_asm) ?zqz ?zqy ?zqa ?zqb ?zqc ?zqd ?zqe ?zqf ?zqg ?zqi ?zqj ?_); (case zqz => with_unfolding_all rfl); (case zqy => with_unfolding_all rfl); (case zqa => with_unfolding_all rfl); (case zqb => with_unfolding_all decide); (case zqc => with_unfolding_all rfl); (case zqd => with_unfolding_all decide); (case zqe => with_unfolding_all rfl); (case zqf => with_unfolding_all rfl); (case zqg => with_unfolding_all decide); (case zqi => with_unfolding_all rfl); (case zqj => with_unfolding_all rfl))
  k_with "w eval ListComp" => (k_here; k_extra "comp p"; (with_unfolding_all refine' LCp.ListComp_P (F₀ := by k_asm) ?zqa ?zqb ?zqc ?zqd ?zqe ?zqf ?zqg ?_); (case zqa => with_unfolding_all rfl); (case zqb => with_unfolding_all decide); (case zqc => with_unfolding_all rfl); (case zqd => with_unfolding_all decide); (case zqe => with_unfolding_all rfl); (case zqf => with_unfolding_all rfl); (case zqg => with_unfolding_all decide))
  k_with "w SrcLP" => (k_extra "halt src"; refine halt ?_)
  k_with "w eval ListComp" => (k_here; k_extra "comp t"; (with_unfolding_all refine' LCt.ListComp_T (F₀ := by k_asm) ?zqa ?zqb ?zqc ?zqd ?zqe ?_); (case zqa => with_unfolding_all rfl); (case zqb => with_unfolding_all decide); (case zqc => with_unfolding_all rfl); (case zqd => with_unfolding_all decide); (case zqe => with_unfolding_all rfl))
  k_with "w eval ListComp" => (k_here; k_extra "comp u"; (with_unfolding_all refine' LCg.ListComp_U (F₀ := by k_asm) ?zqa ?zqb ?zqc ?zqd ?zqe ?_); (case zqa => with_unfolding_all rfl); (case zqb => with_unfolding_all decide); (case zqc => with_unfolding_all rfl); (case zqd => with_unfolding_all decide); (case zqe => with_unfolding_all rfl))
  k_with "w SrcC" => (k_extra "halt src"; refine halt ?_)
  k_with "w exec Assign cons ListComp" => (k_here; k_extra "comp yes"; k_dflt (refine wpAny_Assign_Name ?_))
  k_with "w CompSrc" => (k_extra "halt src"; refine halt ?_)
  k_with "w CompSrcT" => (k_extra "halt src"; refine halt ?_)
  k_with "w call builtin:str.join" => (k_extra "halt join"; refine halt ?_)
  k_with "w call builtin:str.split" => (k_extra "halt split"; refine halt ?_)
  k_with "w subscriptTail Name BinOp ref int" => (k_extra "halt sub"; refine halt ?_)
  k_with "w subscriptTail Name BinOp ref int" => (k_here; k_extra "lit sub")
  k_with "w subscriptTail" => (k_here; k_extra "lit sub")
  k_with "w call builtin:len" => (k_extra "halt len"; refine halt ?_)
  k_with "w subscriptTail Name Slice ref ref" => (k_extra "halt slice"; refine halt ?_)
  k_with "w subscriptTail Subscript BinOp ref int" => (k_extra "halt sub"; refine halt ?_)
  k_with "w call builtin:list.append" => (k_here; k_extra "my append")
  k_with "w subscriptTail" => (k_extra "halt any"; refine halt ?_)
  k_with "w pyIter ref" => (k_extra "halt iter"; refine halt ?_)
  k_with "w call builtin:max" => (k_extra "halt max"; refine halt ?_)
  k_with "w call type:zip" => (k_extra "halt zip"; refine halt ?_)
  k_with "w call builtin:sorted" => (k_extra "halt sorted"; refine halt ?_)
  k_with "w subscriptTail Subscript Constant ref int" => (k_extra "halt any"; refine halt ?_)
  unfold Tell
  intro dp un gd cn cs a ccd cl outer A₀ base h₀ L m s Q E B F X N T hk hl2 hdp hu hret
  refine wpAny_call ?_
  k_dflt k_enter
  have hKd := kdMark
  k_with "comp yes" => skip
  k_with "comp c" => skip
  k_with "halt src" => skip
  k_with "halt iter" => skip
  k_with "halt sub" => skip
  k_steps
  refine unhalt ?_
  (rename IsRange _ _ _ _ _ _ _ _ => rgA)
  (rename News _ _ _ _ => nA)
  (rename Fr _ _ _ _ => fA)
  obtain ⟨LA, eLA⟩ := fr_name fA
  subst eLA
  (rename (∀ (p : Addr × Obj), p ∈ own → p.1 < LA) => l1)
  refine ⟨fun i ys nw => nw = _ ∧ IntsAre ys ((List.range i).map fun (k : Nat) => ((lastN st k : Nat) : Int)), 4, _, _, _, _, _, rfl, rfl, fA, nA, rgA, rfl, rfl, by decide, ⟨rfl, .nil⟩, ?turn, ?fin⟩
  case turn =>
    rintro g j v I oI Cn oC cx oX D h tk ys nw9 E' hj ⟨tj, rfl⟩ hoX ⟨rfl, hys⟩ F9 N9 off9 offC9 ne9
    k_with_none
    k_with "nX" => (first | exact ltA0 ‹_› | exact ltA1 ‹_› | exact ltA2 ‹_› | exact ltA3 ‹_› | exact ltA4 ‹_› | exact ltA5 ‹_› | exact ltA6 ‹_› | exact ltA7 ‹_› | exact ltA8 ‹_› | exact ltA9 ‹_› | exact ltA10 ‹_› | exact ltA11 ‹_› | exact ltA12 ‹_› | exact ltA13 ‹_› | exact neA0 ‹_› | exact neA1 ‹_› | exact neA2 ‹_› | exact neA3 ‹_› | exact neA4 ‹_› | exact neA5 ‹_› | exact neA6 ‹_› | exact neA7 ‹_› | exact neA8 ‹_› | exact neA9 ‹_› | exact neA10 ‹_› | exact neA11 ‹_› | exact neA12 ‹_›)
    k_with "k_ne" => (first | k_extra "nX" | (refine Ne.symm ?_; k_extra "nX"))
    k_with "k_all" => (first | exact List.forall_mem_nil _ | (refine' List.forall_mem_cons.mpr ⟨?zqa, ?zqb⟩; (case zqa => k_ne); (case zqb => k_all)) | assumption | exact al3s ‹_› | exact al0 ‹_› | exact al1 ‹_› | exact al2 ‹_› | exact al3 ‹_› | exact al4 ‹_› | exact al5 ‹_› | exact al6 ‹_› | exact al7 ‹_› | exact al8 ‹_› | exact al9 ‹_› | exact al10 ‹_› | exact al11 ‹_› | exact of2 ‹_›)
    k_with "ent D" => (refine' code_def ?zqk1 ?zqk2 ?zqk3 ?zqk4 ?zqk5 ?zqkA ?zqkF ?zqkK ?zqk6 ?zqk7 ?zqk8 ?zqk9 ?zqkB ?_ ?zqc2 ?zqc3 ?zqc4 ?zqc5; (case zqkA | zqkF => exact rfl); (case zqkK => assumption); (case zqk1 | zqk2 | zqk3 | zqk4 | zqk5 => (k_dflt k_asm)); (case zqk6 | zqk7 => k_is); (case zqk8 => ktr_room); (case zqk9 => first | exact BindsTo.of_eq rfl | exact binds_K (by k_in) rfl (by k_is) rfl rfl rfl); (case zqc5 => decide); (case zqkB => exact locs rfl); (case zqc2 | zqc3 | zqc4 => exact rfl))
    k_with "ent C" => (refine' code_defC ?zqk1 ?zqk2 ?zqk3 ?zqk4 ?zqk5 ?zqkA ?zqkF ?zqkK ?zqk6 ?zqk7 ?zqk8 ?zqk9 ?zqkB ?zqkD ?_ ?zqc2 ?zqc3 ?zqc4; (case zqkA | zqkF => exact rfl); (case zqkK => first | exact rfl | assumption); (case zqk1 | zqk2 | zqk3 | zqk4 | zqk5 => (k_dflt k_asm)); (case zqk6 | zqk7 => k_is); (case zqk8 => ktr_room); (case zqk9 => first | exact BindsTo.of_eq rfl | exact binds_K (by k_in) rfl (by k_is) rfl rfl rfl); (case zqkD => decide +kernel); (case zqkB | zqc2 | zqc3 | zqc4 => exact rfl))
    k_with "k_room" => (ktr_room)
    k_with "w exec For Name Call cons nil" => (k_here; (rename Fr _ _ _ _ => lF'); (with_unfolding_all refine' For_invVF lF' ?zqk1 ?zqk2 ?_; (case zqk1 => exact rfl); (case zqk2 => exact rfl); k_whole))
    k_with "w eval ListComp" => (k_here; k_extra "comp yes"; k_dflt (first | refine LCg.ListComp_U (F₀ := by k_asm) (by with_unfolding_all rfl) (by decide) (by rfl) (by decide) (by rfl) ?_ | refine LCt.ListComp_T (F₀ := by k_asm) (by with_unfolding_all rfl) (by decide) (by rfl) (by decide) (by rfl) ?_))
    k_with "w eval ListComp" => (k_here; k_extra "comp c"; (with_unfolding_all refine' ListComp_C (F₀ := by k_asm) ?zqa ?zqb ?zqc ?zqd ?zqe ?zqf ?_; (case zqa => with_unfolding_all rfl); (case zqb => exact fun _ => by with_unfolding_all rfl); (case zqc => exact fun _ => by with_unfolding_all rfl); (case zqd => with_unfolding_all rfl); (case zqe => with_unfolding_all decide); (case zqf => with_unfolding_all rfl)))
    k_with "w exec Assign cons ListComp" => (k_here; k_extra "comp ap"; (with_unfolding_all refine' LCp.Assign_ListComp_P (F₀ := by k_asm) ?zqz ?zqy ?zqa ?zqb ?zqc ?zqd ?zqe ?zqf ?zqg ?zqi ?zqj ?_); (case zqz => with_unfolding_all rfl); (case zqy => with_unfolding_all rfl); (case zqa => with_unfolding_all rfl); (case zqb => with_unfolding_all decide); (case zqc => with_unfolding_all rfl); (case zqd => with_unfolding_all decide); (case zqe => with_unfolding_all rfl); (case zqf => with_unfolding_all rfl); (case zqg => with_unfolding_all decide); (case zqi => with_unfolding_all rfl); (case zqj => with_unfolding_all rfl))
    k_with "w eval ListComp" => (k_here; k_extra "comp p"; (with_unfolding_all refine' LCp.ListComp_P (F₀ := by k_asm) ?zqa ?zqb ?zqc ?zqd ?zqe ?zqf ?zqg ?_); (case zqa => with_unfolding_all rfl); (case zqb => with_unfolding_all decide); (case zqc => with_unfolding_all rfl); (case zqd => with_unfolding_all decide); (case zqe => with_unfolding_all rfl); (case zqf => with_unfolding_all rfl); (case zqg => with_unfolding_all decide))
    k_with "w SrcLP" => (k_extra "halt src"; refine halt ?_)
    k_with "w eval ListComp" => (k_here; k_extra "comp t"; (with_unfolding_all refine' LCt.ListComp_T (F₀ := by k_asm) ?zqa ?zqb ?zqc ?zqd ?zqe ?_); (case zqa => with_unfolding_all rfl); (case zqb => with_unfolding_all decide); (case zqc => with_unfolding_all rfl); (case zqd => with_unfolding_all decide); (case zqe => with_unfolding_all rfl))
    k_with "w eval ListComp" => (k_here; k_extra "comp u"; (with_unfolding_all refine' LCg.ListComp_U (F₀ := by k_asm) ?zqa ?zqb ?zqc ?zqd ?zqe ?_); (case zqa => with_unfolding_all rfl); (case zqb => with_unfolding_all decide); (case zqc => with_unfolding_all rfl); (case zqd => with_unfolding_all decide); (case zqe => with_unfolding_all rfl))
    k_with "w SrcC" => (k_extra "halt src"; refine halt ?_)
    k_with "w exec Assign cons ListComp" => (k_here; k_extra "comp yes"; k_dflt (refine wpAny_Assign_Name ?_))
    k_with "w CompSrc" => (k_extra "halt src"; refine halt ?_)
    k_with "w CompSrcT" => (k_extra "halt src"; refine halt ?_)
    k_with "w call builtin:str.join" => (k_extra "halt join"; refine halt ?_)
    k_with "w call builtin:str.split" => (k_extra "halt split"; refine halt ?_)
    k_with "w subscriptTail Name BinOp ref int" => (k_extra "halt sub"; refine halt ?_)
    k_with "w subscriptTail Name BinOp ref int" => (k_here; k_extra "lit sub")
    k_with "w subscriptTail" => (k_here; k_extra "lit sub")
    k_with "w call builtin:len" => (k_extra "halt len"; refine halt ?_)
    k_with "w subscriptTail Name Slice ref ref" => (k_extra "halt slice"; refine halt ?_)
    k_with "w subscriptTail Subscript BinOp ref int" => (k_extra "halt sub"; refine halt ?_)
    k_with "w call builtin:list.append" => (k_here; k_extra "my append")
    k_with "w subscriptTail" => (k_extra "halt any"; refine halt ?_)
    k_with "w pyIter ref" => (k_extra "halt iter"; refine halt ?_)
    k_with "w call builtin:max" => (k_extra "halt max"; refine halt ?_)
    k_with "w call type:zip" => (k_extra "halt zip"; refine halt ?_)
    k_with "w call builtin:sorted" => (k_extra "halt sorted"; refine halt ?_)
    k_with "w subscriptTail Subscript Constant ref int" => (k_extra "halt any"; refine halt ?_)
    k_with "comp t" => skip
    k_with "halt src" => skip
    k_steps
    refine unhalt ?_
    (rename IsRange _ _ _ _ _ _ _ _ => rgM)
    refine' LCt.CompSrcT.range (by rfl) (by k_asm) (by k_asm) rgM (by rfl) (by rfl) (by decide) ?_
    intro g7
    have hjN : (0 : Int) + (j : Int) = (j : Int) := Int.zero_add _
    refine comp_invT (fun i ys nw => nw = _ ∧ IntsAre ys (((List.range i).filter (pickP es j)).map fun (q : Nat) => (q : Int))) 20 ?_ ?_ _ 0 [] _ (by rfl) ⟨rfl, .nil⟩
    · rintro i v I2 oI2 Cn2 oC2 D2 m2 h2 tk2 ys2 nw2 E2 hi20 ⟨ti, rfl⟩ ⟨rfl, hysM⟩ ho hx F8 N8 off8 ne8
      have hi0 : (0 : Int) + (i : Int) = (i : Int) := Int.zero_add _
      have hiN : ((0 : Int) + (i : Int)).toNat = i := by omega
      k_with_none
      k_with "nX" => (first | exact ltA0 ‹_› | exact ltA1 ‹_› | exact ltA2 ‹_› | exact ltA3 ‹_› | exact ltA4 ‹_› | exact ltA5 ‹_› | exact ltA6 ‹_› | exact ltA7 ‹_› | exact ltA8 ‹_› | exact ltA9 ‹_› | exact ltA10 ‹_› | exact ltA11 ‹_› | exact ltA12 ‹_› | exact ltA13 ‹_› | exact neA0 ‹_› | exact neA1 ‹_› | exact neA2 ‹_› | exact neA3 ‹_› | exact neA4 ‹_› | exact neA5 ‹_› | exact neA6 ‹_› | exact neA7 ‹_› | exact neA8 ‹_› | exact neA9 ‹_› | exact neA10 ‹_› | exact neA11 ‹_› | exact neA12 ‹_›)
      k_with "k_ne" => (first | k_extra "nX" | (refine Ne.symm ?_; k_extra "nX"))
      k_with "k_all" => (first | exact List.forall_mem_nil _ | (refine' List.forall_mem_cons.mpr ⟨?zqa, ?zqb⟩; (case zqa => k_ne); (case zqb => k_all)) | assumption | exact al3s ‹_› | exact al0 ‹_› | exact al1 ‹_› | exact al2 ‹_› | exact al3 ‹_› | exact al4 ‹_› | exact al5 ‹_› | exact al6 ‹_› | exact al7 ‹_› | exact al8 ‹_› | exact al9 ‹_› | exact al10 ‹_› | exact al11 ‹_› | exact of2 ‹_›)
      k_with "ent D" => (refine' code_def ?zqk1 ?zqk2 ?zqk3 ?zqk4 ?zqk5 ?zqkA ?zqkF ?zqkK ?zqk6 ?zqk7 ?zqk8 ?zqk9 ?zqkB ?_ ?zqc2 ?zqc3 ?zqc4 ?zqc5; (case zqkA | zqkF => exact rfl); (case zqkK => assumption); (case zqk1 | zqk2 | zqk3 | zqk4 | zqk5 => (k_dflt k_asm)); (case zqk6 | zqk7 => k_is); (case zqk8 => ktr_room); (case zqk9 => first | exact BindsTo.of_eq rfl | exact binds_K (by k_in) rfl (by k_is) rfl rfl rfl); (case zqc5 => decide); (case zqkB => exact locs rfl); (case zqc2 | zqc3 | zqc4 => exact rfl))
      k_with "ent C" => (refine' code_defC ?zqk1 ?zqk2 ?zqk3 ?zqk4 ?zqk5 ?zqkA ?zqkF ?zqkK ?zqk6 ?zqk7 ?zqk8 ?zqk9 ?zqkB ?zqkD ?_ ?zqc2 ?zqc3 ?zqc4; (case zqkA | zqkF => exact rfl); (case zqkK => first | exact rfl | assumption); (case zqk1 | zqk2 | zqk3 | zqk4 | zqk5 => (k_dflt k_asm)); (case zqk6 | zqk7 => k_is); (case zqk8 => ktr_room); (case zqk9 => first | exact BindsTo.of_eq rfl | exact binds_K (by k_in) rfl (by k_is) rfl rfl rfl); (case zqkD => decide +kernel); (case zqkB | zqc2 | zqc3 | zqc4 => exact rfl))
      k_with "k_room" => (ktr_room)
      k_with "w exec For Name Call cons nil" => (k_here; (rename Fr _ _ _ _ => lF'); (with_unfolding_all refine' For_invVF lF' ?zqk1 ?zqk2 ?_; (case zqk1 => exact rfl); (case zqk2 => exact rfl); k_whole))
      k_with "w eval ListComp" => (k_here; k_extra "comp yes"; k_dflt (first | refine LCg.ListComp_U (F₀ := by k_asm) (by with_unfolding_all rfl) (by decide) (by rfl) (by decide) (by rfl) ?_ | refine LCt.ListComp_T (F₀ := by k_asm) (by with_unfolding_all rfl) (by decide) (by rfl) (by decide) (by rfl) ?_))
      k_with "w eval ListComp" => (k_here; k_extra "comp c"; (with_unfolding_all refine' ListComp_C (F₀ := by k_asm) ?zqa ?zqb ?zqc ?zqd ?zqe ?zqf ?_; (case zqa => with_unfolding_all rfl); (case zqb => exact fun _ => by with_unfolding_all rfl); (case zqc => exact fun _ => by with_unfolding_all rfl); (case zqd => with_unfolding_all rfl); (case zqe => with_unfolding_all decide); (case zqf => with_unfolding_all rfl)))
      k_with "w exec Assign cons ListComp" => (k_here; k_extra "comp ap"; (with_unfolding_all refine' LCp.Assign_ListComp_P (F₀ := by k_asm) ?zqz ?zqy ?zqa ?zqb ?zqc ?zqd ?zqe ?zqf ?zqg ?zqi ?zqj ?_); (case zqz => with_unfolding_all rfl); (case zqy => with_unfolding_all rfl); (case zqa => with_unfolding_all rfl); (case zqb => with_unfolding_all decide); (case zqc => with_unfolding_all rfl); (case zqd => with_unfolding_all decide); (case zqe => with_unfolding_all rfl); (case zqf => with_unfolding_all rfl); (case zqg => with_unfolding_all decide); (case zqi => with_unfolding_all rfl); (case zqj => with_unfolding_all rfl))
      k_with "w eval ListComp" => (k_here; k_extra "comp p"; (with_unfolding_all refine' LCp.ListComp_P (F₀ := by k_asm) ?zqa ?zqb ?zqc ?zqd ?zqe ?zqf ?zqg ?_); (case zqa => with_unfolding_all rfl); (case zqb => with_unfolding_all decide); (case zqc => with_unfolding_all rfl); (case zqd => with_unfolding_all decide); (case zqe => with_unfolding_all rfl); (case zqf => with_unfolding_all rfl); (case zqg => with_unfolding_all decide))
      k_with "w SrcLP" => (k_extra "halt src"; refine halt ?_)
      k_with "w eval ListComp" => (k_here; k_extra "comp t"; (with_unfolding_all refine' LCt.ListComp_T (F₀ := by k_asm) ?zqa ?zqb ?zqc ?zqd ?zqe ?_); (case zqa => with_unfolding_all rfl); (case zqb => with_unfolding_all decide); (case zqc => with_unfolding_all rfl); (case zqd => with_unfolding_all decide); (case zqe => with_unfolding_all rfl))
      k_with "w eval ListComp" => (k_here; k_extra "comp u"; (with_unfolding_all refine' LCg.ListComp_U (F₀ := by k_asm) ?zqa ?zqb ?zqc ?zqd ?zqe ?_); (case zqa => with_unfolding_all rfl); (case zqb => with_unfolding_all decide); (case zqc => with_unfolding_all rfl); (case zqd => with_unfolding_all decide); (case zqe => with_unfolding_all rfl))
      k_with "w SrcC" => (k_extra "halt src"; refine halt ?_)
      k_with "w exec Assign cons ListComp" => (k_here; k_extra "comp yes"; k_dflt (refine wpAny_Assign_Name ?_))
      k_with "w CompSrc" => (k_extra "halt src"; refine halt ?_)
      k_with "w CompSrcT" => (k_extra "halt src"; refine halt ?_)
      k_with "w call builtin:str.join" => (k_extra "halt join"; refine halt ?_)
      k_with "w call builtin:str.split" => (k_extra "halt split"; refine halt ?_)
      k_with "w subscriptTail Name BinOp ref int" => (k_extra "halt sub"; refine halt ?_)
      k_with "w subscriptTail Name BinOp ref int" => (k_here; k_extra "lit sub")
      k_with "w subscriptTail" => (k_here; k_extra "lit sub")
      k_with "w call builtin:len" => (k_extra "halt len"; refine halt ?_)
      k_with "w subscriptTail Name Slice ref ref" => (k_extra "halt slice"; refine halt ?_)
      k_with "w subscriptTail Subscript BinOp ref int" => (k_extra "halt sub"; refine halt ?_)
      k_with "w call builtin:list.append" => (k_here; k_extra "my append")
      k_with "w subscriptTail" => (k_extra "halt any"; refine halt ?_)
      k_with "w pyIter ref" => (k_extra "halt iter"; refine halt ?_)
      k_with "w call builtin:max" => (k_extra "halt max"; refine halt ?_)
      k_with "w call type:zip" => (k_extra "halt zip"; refine halt ?_)
      k_with "w call builtin:sorted" => (k_extra "halt sorted"; refine halt ?_)
      k_with "w subscriptTail Subscript Constant ref int" => (k_extra "halt any"; refine halt ?_)
      k_with "halt any" => skip
      k_steps
      refine unhalt ?_
      refine' log_item ?l1 ?l2 hD ?l3 ?l4 ?l5 ?l6 ?_ ?l7
      case l1 => (k_dflt k_asm)
      case l2 => (repeat (first | exact hlg | refine List.Mem.tail _ ?_))
      case l3 => (intro q hq; repeat (first | exact hq | refine List.Mem.tail _ ?_))
      case l4 => omega
      case l5 => (rw [hlen]; omega)
      case l6 => omega
      case l7 => with_unfolding_all rfl
      intro aT v1 v2 tT nT hmT
      rw [hiN] at hmT
      k_steps
      refine unhalt ?_
      refine' tup_item3 ?l1 hmT ?_ ?l2
      case l1 => (k_dflt k_asm)
      case l2 => with_unfolding_all rfl
      intro tI
      (try k_fold)
      k_steps
      · (rename @Eq Int _ _ => hc)
        have hc3 : pickP es j i = true := by unfold pickP; exact beq_iff_eq.mpr (by omega)
        refine LCg.CompEnd.intro (by k_asm) (by assumption) _ ?subY off8 trivial ⟨rfl, pick_yes hc3 hysM⟩
        kqd_sub
      · (rename @Ne Int _ _ => hc)
        have hc3 : pickP es j i = false := by unfold pickP; exact beq_eq_false_iff_ne.mpr (by omega)
        refine LCg.CompEnd.intro (by k_asm) (by assumption) _ ?subN off8 trivial ⟨rfl, pick_no hc3 hysM⟩
        kqd_sub
    · rintro ysM nwM ⟨rfl, hysM⟩
      k_with_none
      k_with "nX" => (first | exact ltA0 ‹_› | exact ltA1 ‹_› | exact ltA2 ‹_› | exact ltA3 ‹_› | exact ltA4 ‹_› | exact ltA5 ‹_› | exact ltA6 ‹_› | exact ltA7 ‹_› | exact ltA8 ‹_› | exact ltA9 ‹_› | exact ltA10 ‹_› | exact ltA11 ‹_› | exact ltA12 ‹_› | exact ltA13 ‹_› | exact neA0 ‹_› | exact neA1 ‹_› | exact neA2 ‹_› | exact neA3 ‹_› | exact neA4 ‹_› | exact neA5 ‹_› | exact neA6 ‹_› | exact neA7 ‹_› | exact neA8 ‹_› | exact neA9 ‹_› | exact neA10 ‹_› | exact neA11 ‹_› | exact neA12 ‹_›)
      k_with "k_ne" => (first | k_extra "nX" | (refine Ne.symm ?_; k_extra "nX"))
      k_with "k_all" => (first | exact List.forall_mem_nil _ | (refine' List.forall_mem_cons.mpr ⟨?zqa, ?zqb⟩; (case zqa => k_ne); (case zqb => k_all)) | assumption | exact al3s ‹_› | exact al0 ‹_› | exact al1 ‹_› | exact al2 ‹_› | exact al3 ‹_› | exact al4 ‹_› | exact al5 ‹_› | exact al6 ‹_› | exact al7 ‹_› | exact al8 ‹_› | exact al9 ‹_› | exact al10 ‹_› | exact al11 ‹_› | exact of2 ‹_›)
      k_with "ent D" => (refine' code_def ?zqk1 ?zqk2 ?zqk3 ?zqk4 ?zqk5 ?zqkA ?zqkF ?zqkK ?zqk6 ?zqk7 ?zqk8 ?zqk9 ?zqkB ?_ ?zqc2 ?zqc3 ?zqc4 ?zqc5; (case zqkA | zqkF => exact rfl); (case zqkK => assumption); (case zqk1 | zqk2 | zqk3 | zqk4 | zqk5 => (k_dflt k_asm)); (case zqk6 | zqk7 => k_is); (case zqk8 => ktr_room); (case zqk9 => first | exact BindsTo.of_eq rfl | exact binds_K (by k_in) rfl (by k_is) rfl rfl rfl); (case zqc5 => decide); (case zqkB => exact locs rfl); (case zqc2 | zqc3 | zqc4 => exact rfl))
      k_with "ent C" => (refine' code_defC ?zqk1 ?zqk2 ?zqk3 ?zqk4 ?zqk5 ?zqkA ?zqkF ?zqkK ?zqk6 ?zqk7 ?zqk8 ?zqk9 ?zqkB ?zqkD ?_ ?zqc2 ?zqc3 ?zqc4; (case zqkA | zqkF => exact rfl); (case zqkK => first | exact rfl | assumption); (case zqk1 | zqk2 | zqk3 | zqk4 | zqk5 => (k_dflt k_asm)); (case zqk6 | zqk7 => k_is); (case zqk8 => ktr_room); (case zqk9 => first | exact BindsTo.of_eq rfl | exact binds_K (by k_in) rfl (by k_is) rfl rfl rfl); (case zqkD => decide +kernel); (case zqkB | zqc2 | zqc3 | zqc4 => exact rfl))
      k_with "k_room" => (ktr_room)
      k_with "w exec For Name Call cons nil" => (k_here; (rename Fr _ _ _ _ => lF'); (with_unfolding_all refine' For_invVF lF' ?zqk1 ?zqk2 ?_; (case zqk1 => exact rfl); (case zqk2 => exact rfl); k_whole))
      k_with "w eval ListComp" => (k_here; k_extra "comp yes"; k_dflt (first | refine LCg.ListComp_U (F₀ := by k_asm) (by with_unfolding_all rfl) (by decide) (by rfl) (by decide) (by rfl) ?_ | refine LCt.ListComp_T (F₀ := by k_asm) (by with_unfolding_all rfl) (by decide) (by rfl) (by decide) (by rfl) ?_))
      k_with "w eval ListComp" => (k_here; k_extra "comp c"; (with_unfolding_all refine' ListComp_C (F₀ := by k_asm) ?zqa ?zqb ?zqc ?zqd ?zqe ?zqf ?_; (case zqa => with_unfolding_all rfl); (case zqb => exact fun _ => by with_unfolding_all rfl); (case zqc => exact fun _ => by with_unfolding_all rfl); (case zqd => with_unfolding_all rfl); (case zqe => with_unfolding_all decide); (case zqf => with_unfolding_all rfl)))
      k_with "w exec Assign cons ListComp" => (k_here; k_extra "comp ap"; (with_unfolding_all refine' LCp.Assign_ListComp_P (F₀ := by k_asm) ?zqz ?zqy ?zqa ?zqb ?zqc ?zqd ?zqe ?zqf ?zqg ?zqi ?zqj ?_); (case zqz => with_unfolding_all rfl); (case zqy => with_unfolding_all rfl); (case zqa => with_unfolding_all rfl); (case zqb => with_unfolding_all decide); (case zqc => with_unfolding_all rfl); (case zqd => with_unfolding_all decide); (case zqe => with_unfolding_all rfl); (case zqf => with_unfolding_all rfl); (case zqg => with_unfolding_all decide); (case zqi => with_unfolding_all rfl); (case zqj => with_unfolding_all rfl))
      k_with "w eval ListComp" => (k_here; k_extra "comp p"; (with_unfolding_all refine' LCp.ListComp_P (F₀ := by k_asm) ?zqa ?zqb ?zqc ?zqd ?zqe ?zqf ?zqg ?_); (case zqa => with_unfolding_all rfl); (case zqb => with_unfolding_all decide); (case zqc => with_unfolding_all rfl); (case zqd => with_unfolding_all decide); (case zqe => with_unfolding_all rfl); (case zqf => with_unfolding_all rfl); (case zqg => with_unfolding_all decide))
      k_with "w SrcLP" => (k_extra "halt src"; refine halt ?_)
      k_with "w eval ListComp" => (k_here; k_extra "comp t"; (with_unfolding_all refine' LCt.ListComp_T (F₀ := by k_asm) ?zqa ?zqb ?zqc ?zqd ?zqe ?_); (case zqa => with_unfolding_all rfl); (case zqb => with_unfolding_all decide); (case zqc => with_unfolding_all rfl); (case zqd => with_unfolding_all decide); (case zqe => with_unfolding_all rfl))
      k_with "w eval ListComp" => (k_here; k_extra "comp u"; (with_unfolding_all refine' LCg.ListComp_U (F₀ := by k_asm) ?zqa ?zqb ?zqc ?zqd ?zqe ?_); (case zqa => with_unfolding_all rfl); (case zqb => with_unfolding_all decide); (case zqc => with_unfolding_all rfl); (case zqd => with_unfolding_all decide); (case zqe => with_unfolding_all rfl))
      k_with "w SrcC" => (k_extra "halt src"; refine halt ?_)
      k_with "w exec Assign cons ListComp" => (k_here; k_extra "comp yes"; k_dflt (refine wpAny_Assign_Name ?_))
      k_with "w CompSrc" => (k_extra "halt src"; refine halt ?_)
      k_with "w CompSrcT" => (k_extra "halt src"; refine halt ?_)
      k_with "w call builtin:str.join" => (k_extra "halt join"; refine halt ?_)
      k_with "w call builtin:str.split" => (k_extra "halt split"; refine halt ?_)
      k_with "w subscriptTail Name BinOp ref int" => (k_extra "halt sub"; refine halt ?_)
      k_with "w subscriptTail Name BinOp ref int" => (k_here; k_extra "lit sub")
      k_with "w subscriptTail" => (k_here; k_extra "lit sub")
      k_with "w call builtin:len" => (k_extra "halt len"; refine halt ?_)
      k_with "w subscriptTail Name Slice ref ref" => (k_extra "halt slice"; refine halt ?_)
      k_with "w subscriptTail Subscript BinOp ref int" => (k_extra "halt sub"; refine halt ?_)
      k_with "w call builtin:list.append" => (k_here; k_extra "my append")
      k_with "w subscriptTail" => (k_extra "halt any"; refine halt ?_)
      k_with "w pyIter ref" => (k_extra "halt iter"; refine halt ?_)
      k_with "w call builtin:max" => (k_extra "halt max"; refine halt ?_)
      k_with "w call type:zip" => (k_extra "halt zip"; refine halt ?_)
      k_with "w call builtin:sorted" => (k_extra "halt sorted"; refine halt ?_)
      k_with "w subscriptTail Subscript Constant ref int" => (k_extra "halt any"; refine halt ?_)
      k_with "halt max" => skip
      k_steps
      refine unhalt ?_
      (rename News _ _ _ _ => nM)
      (rename Fr _ _ _ _ => fM)
      refine' kso_max fM nM ?hl hysM ?hne ?hh ?_
      case hl => exact ⟨_, nM.get (by k_mem), rfl, _, rfl⟩
      case hne => exact List.length_pos_of_mem (last_mem hst hj hgo)
      case hh => with_unfolding_all rfl
      intro h8 M tM k8 F8 N8 hM1 hM2
      have hM := last_max hst hj hgo hM1 hM2
      clear hM1 hM2 nM fM
      (try k_fold)
      k_steps
      refine LCg.CompEnd.intro (by k_asm) (by assumption) ((Cn, oC) :: _) ?sub off9 trivial ⟨_, rfl, offC9, rfl, ?hd⟩
      case sub => kqd_sub
      case hd => rw [List.range_succ, List.map_append]; exact IntsAre.append hys (one_int hM)
  case fin =>
    rintro ysR nwR ⟨rfl, hysR⟩
    have hOc : ∀ q ∈ own, q.1 ≠ (LA + 1 + 1 + 1) := fun q hq => by have : @LT.lt Nat _ q.1 LA := l1 q hq; show @Ne Nat _ _; omega
    k_with_none
    k_with "nX" => (first | exact ltA0 ‹_› | exact ltA1 ‹_› | exact ltA2 ‹_› | exact ltA3 ‹_› | exact ltA4 ‹_› | exact ltA5 ‹_› | exact ltA6 ‹_› | exact ltA7 ‹_› | exact ltA8 ‹_› | exact ltA9 ‹_› | exact ltA10 ‹_› | exact ltA11 ‹_› | exact ltA12 ‹_› | exact ltA13 ‹_› | exact neA0 ‹_› | exact neA1 ‹_› | exact neA2 ‹_› | exact neA3 ‹_› | exact neA4 ‹_› | exact neA5 ‹_› | exact neA6 ‹_› | exact neA7 ‹_› | exact neA8 ‹_› | exact neA9 ‹_› | exact neA10 ‹_› | exact neA11 ‹_› | exact neA12 ‹_›)
    k_with "k_ne" => (first | k_extra "nX" | (refine Ne.symm ?_; k_extra "nX"))
    k_with "k_all" => (first | exact List.forall_mem_nil _ | (refine' List.forall_mem_cons.mpr ⟨?zqa, ?zqb⟩; (case zqa => k_ne); (case zqb => k_all)) | assumption | exact al3s ‹_› | exact al0 ‹_› | exact al1 ‹_› | exact al2 ‹_› | exact al3 ‹_› | exact al4 ‹_› | exact al5 ‹_› | exact al6 ‹_› | exact al7 ‹_› | exact al8 ‹_› | exact al9 ‹_› | exact al10 ‹_› | exact al11 ‹_› | exact of2 ‹_›)
    k_with "ent D" => (refine' code_def ?zqk1 ?zqk2 ?zqk3 ?zqk4 ?zqk5 ?zqkA ?zqkF ?zqkK ?zqk6 ?zqk7 ?zqk8 ?zqk9 ?zqkB ?_ ?zqc2 ?zqc3 ?zqc4 ?zqc5; (case zqkA | zqkF => exact rfl); (case zqkK => assumption); (case zqk1 | zqk2 | zqk3 | zqk4 | zqk5 => (k_dflt k_asm)); (case zqk6 | zqk7 => k_is); (case zqk8 => ktr_room); (case zqk9 => first | exact BindsTo.of_eq rfl | exact binds_K (by k_in) rfl (by k_is) rfl rfl rfl); (case zqc5 => decide); (case zqkB => exact locs rfl); (case zqc2 | zqc3 | zqc4 => exact rfl))
    k_with "ent C" => (refine' code_defC ?zqk1 ?zqk2 ?zqk3 ?zqk4 ?zqk5 ?zqkA ?zqkF ?zqkK ?zqk6 ?zqk7 ?zqk8 ?zqk9 ?zqkB ?zqkD ?_ ?zqc2 ?zqc3 ?zqc4; (case zqkA | zqkF => exact rfl); (case zqkK => first | exact rfl | assumption); (case zqk1 | zqk2 | zqk3 | zqk4 | zqk5 => (k_dflt k_asm)); (case zqk6 | zqk7 => k_is); (case zqk8 => ktr_room); (case zqk9 => first | exact BindsTo.of_eq rfl | exact binds_K (by k_in) rfl (by k_is) rfl rfl rfl); (case zqkD => decide +kernel); (case zqkB | zqc2 | zqc3 | zqc4 => exact rfl))
    k_with "k_room" => (ktr_room)
    k_with "w exec For Name Call cons nil" => (k_here; (rename Fr _ _ _ _ => lF'); (with_unfolding_all refine' For_invVF lF' ?zqk1 ?zqk2 ?_; (case zqk1 => exact rfl); (case zqk2 => exact rfl); k_whole))
    k_with "w eval ListComp" => (k_here; k_extra "comp yes"; k_dflt (first | refine LCg.ListComp_U (F₀ := by k_asm) (by with_unfolding_all rfl) (by decide) (by rfl) (by decide) (by rfl) ?_ | refine LCt.ListComp_T (F₀ := by k_asm) (by with_unfolding_all rfl) (by decide) (by rfl) (by decide) (by rfl) ?_))
    k_with "w eval ListComp" => (k_here; k_extra "comp c"; (with_unfolding_all refine' ListComp_C (F₀ := by k_asm) ?zqa ?zqb ?zqc ?zqd ?zqe ?zqf ?_; (case zqa => with_unfolding_all rfl); (case zqb => exact fun _ => by with_unfolding_all rfl); (case zqc => exact fun _ => by with_unfolding_all rfl); (case zqd => with_unfolding_all rfl); (case zqe => with_unfolding_all decide); (case zqf => with_unfolding_all rfl)))
    k_with "w exec Assign cons ListComp" => (k_here; k_extra "comp ap"; (with_unfolding_all refine' LCp.Assign_ListComp_P (F₀ := by k_asm) ?zqz ?zqy ?zqa ?zqb ?zqc ?zqd ?zqe ?zqf ?zqg ?zqi ?zqj ?_); (case zqz => with_unfolding_all rfl); (case zqy => with_unfolding_all rfl); (case zqa => with_unfolding_all rfl); (case zqb => with_unfolding_all decide); (case zqc => with_unfolding_all rfl); (case zqd => with_unfolding_all decide); (case zqe => with_unfolding_all rfl); (case zqf => with_unfolding_all rfl); (case zqg => with_unfolding_all decide); (case zqi => with_unfolding_all rfl); (case zqj => with_unfolding_all rfl))
    k_with "w eval ListComp" => (k_here; k_extra "comp p"; (with_unfolding_all refine' LCp.ListComp_P (F₀ := by k_asm) ?zqa ?zqb ?zqc ?zqd ?zqe ?zqf ?zqg ?_); (case zqa => with_unfolding_all rfl); (case zqb => with_unfolding_all decide); (case zqc => with_unfolding_all rfl); (case zqd => with_unfolding_all decide); (case zqe => with_unfolding_all rfl); (case zqf => with_unfolding_all rfl); (case zqg => with_unfolding_all decide))
    k_with "w SrcLP" => (k_extra "halt src"; refine halt ?_)
    k_with "w eval ListComp" => (k_here; k_extra "comp t"; (with_unfolding_all refine' LCt.ListComp_T (F₀ := by k_asm) ?zqa ?zqb ?zqc ?zqd ?zqe ?_); (case zqa => with_unfolding_all rfl); (case zqb => with_unfolding_all decide); (case zqc => with_unfolding_all rfl); (case zqd => with_unfolding_all decide); (case zqe => with_unfolding_all rfl))
    k_with "w eval ListComp" => (k_here; k_extra "comp u"; (with_unfolding_all refine' LCg.ListComp_U (F₀ := by k_asm) ?zqa ?zqb ?zqc ?zqd ?zqe ?_); (case zqa => with_unfolding_all rfl); (case zqb => with_unfolding_all decide); (case zqc => with_unfolding_all rfl); (case zqd => with_unfolding_all decide); (case zqe => with_unfolding_all rfl))
    k_with "w SrcC" => (k_extra "halt src"; refine halt ?_)
    k_with "w exec Assign cons ListComp" => (k_here; k_extra "comp yes"; k_dflt (refine wpAny_Assign_Name ?_))
    k_with "w CompSrc" => (k_extra "halt src"; refine halt ?_)
    k_with "w CompSrcT" => (k_extra "halt src"; refine halt ?_)
    k_with "w call builtin:str.join" => (k_extra "halt join"; refine halt ?_)
    k_with "w call builtin:str.split" => (k_extra "halt split"; refine halt ?_)
    k_with "w subscriptTail Name BinOp ref int" => (k_extra "halt sub"; refine halt ?_)
    k_with "w subscriptTail Name BinOp ref int" => (k_here; k_extra "lit sub")
    k_with "w subscriptTail" => (k_here; k_extra "lit sub")
    k_with "w call builtin:len" => (k_extra "halt len"; refine halt ?_)
    k_with "w subscriptTail Name Slice ref ref" => (k_extra "halt slice"; refine halt ?_)
    k_with "w subscriptTail Subscript BinOp ref int" => (k_extra "halt sub"; refine halt ?_)
    k_with "w call builtin:list.append" => (k_here; k_extra "my append")
    k_with "w subscriptTail" => (k_extra "halt any"; refine halt ?_)
    k_with "w pyIter ref" => (k_extra "halt iter"; refine halt ?_)
    k_with "w call builtin:max" => (k_extra "halt max"; refine halt ?_)
    k_with "w call type:zip" => (k_extra "halt zip"; refine halt ?_)
    k_with "w call builtin:sorted" => (k_extra "halt sorted"; refine halt ?_)
    k_with "w subscriptTail Subscript Constant ref int" => (k_extra "halt any"; refine halt ?_)
    k_with "halt zip" => skip
    k_with "comp ap" => skip
    k_with "halt src" => skip
    k_steps
    refine unhalt ?_
    (rename IsRange _ _ _ _ _ _ _ _ => rgZ)
    (rename News _ _ _ _ => nZ)
    (rename Fr _ _ _ _ => fZ)
    obtain ⟨u0, u1, u2, u3, hx4⟩ := ints_four (show IntsAre ysR [((lastN st 0 : Nat) : Int), ((lastN st 1 : Nat) : Int), ((lastN st 2 : Nat) : Int), ((lastN st 3 : Nat) : Int)] from hysR)
    refine' zl_zipK (k := 4) fZ nZ ?hl rgZ ?small ?rs ?_
    case hl => k_mem
    case small => rfl
    case rs => rfl
    intro zz TI TO i1 i2 oz oTI oTO o1 o2 hZ FZ NZ hz hAp hAt hoff
    k_with_none
    k_with "nX" => (first | exact ltA0 ‹_› | exact ltA1 ‹_› | exact ltA2 ‹_› | exact ltA3 ‹_› | exact ltA4 ‹_› | exact ltA5 ‹_› | exact ltA6 ‹_› | exact ltA7 ‹_› | exact ltA8 ‹_› | exact ltA9 ‹_› | exact ltA10 ‹_› | exact ltA11 ‹_› | exact ltA12 ‹_› | exact ltA13 ‹_› | exact neA0 ‹_› | exact neA1 ‹_› | exact neA2 ‹_› | exact neA3 ‹_› | exact neA4 ‹_› | exact neA5 ‹_› | exact neA6 ‹_› | exact neA7 ‹_› | exact neA8 ‹_› | exact neA9 ‹_› | exact neA10 ‹_› | exact neA11 ‹_› | exact neA12 ‹_›)
    k_with "k_ne" => (first | k_extra "nX" | (refine Ne.symm ?_; k_extra "nX"))
    k_with "k_all" => (first | exact List.forall_mem_nil _ | (refine' List.forall_mem_cons.mpr ⟨?zqa, ?zqb⟩; (case zqa => k_ne); (case zqb => k_all)) | assumption | exact al3s ‹_› | exact al0 ‹_› | exact al1 ‹_› | exact al2 ‹_› | exact al3 ‹_› | exact al4 ‹_› | exact al5 ‹_› | exact al6 ‹_› | exact al7 ‹_› | exact al8 ‹_› | exact al9 ‹_› | exact al10 ‹_› | exact al11 ‹_› | exact of2 ‹_›)
    k_with "ent D" => (refine' code_def ?zqk1 ?zqk2 ?zqk3 ?zqk4 ?zqk5 ?zqkA ?zqkF ?zqkK ?zqk6 ?zqk7 ?zqk8 ?zqk9 ?zqkB ?_ ?zqc2 ?zqc3 ?zqc4 ?zqc5; (case zqkA | zqkF => exact rfl); (case zqkK => assumption); (case zqk1 | zqk2 | zqk3 | zqk4 | zqk5 => (k_dflt k_asm)); (case zqk6 | zqk7 => k_is); (case zqk8 => ktr_room); (case zqk9 => first | exact BindsTo.of_eq rfl | exact binds_K (by k_in) rfl (by k_is) rfl rfl rfl); (case zqc5 => decide); (case zqkB => exact locs rfl); (case zqc2 | zqc3 | zqc4 => exact rfl))
    k_with "ent C" => (refine' code_defC ?zqk1 ?zqk2 ?zqk3 ?zqk4 ?zqk5 ?zqkA ?zqkF ?zqkK ?zqk6 ?zqk7 ?zqk8 ?zqk9 ?zqkB ?zqkD ?_ ?zqc2 ?zqc3 ?zqc4; (case zqkA | zqkF => exact rfl); (case zqkK => first | exact rfl | assumption); (case zqk1 | zqk2 | zqk3 | zqk4 | zqk5 => (k_dflt k_asm)); (case zqk6 | zqk7 => k_is); (case zqk8 => ktr_room); (case zqk9 => first | exact BindsTo.of_eq rfl | exact binds_K (by k_in) rfl (by k_is) rfl rfl rfl); (case zqkD => decide +kernel); (case zqkB | zqc2 | zqc3 | zqc4 => exact rfl))
    k_with "k_room" => (ktr_room)
    k_with "w exec For Name Call cons nil" => (k_here; (rename Fr _ _ _ _ => lF'); (with_unfolding_all refine' For_invVF lF' ?zqk1 ?zqk2 ?_; (case zqk1 => exact rfl); (case zqk2 => exact rfl); k_whole))
    k_with "w eval ListComp" => (k_here; k_extra "comp yes"; k_dflt (first | refine LCg.ListComp_U (F₀ := by k_asm) (by with_unfolding_all rfl) (by decide) (by rfl) (by decide) (by rfl) ?_ | refine LCt.ListComp_T (F₀ := by k_asm) (by with_unfolding_all rfl) (by decide) (by rfl) (by decide) (by rfl) ?_))
    k_with "w eval ListComp" => (k_here; k_extra "comp c"; (with_unfolding_all refine' ListComp_C (F₀ := by k_asm) ?zqa ?zqb ?zqc ?zqd ?zqe ?zqf ?_; (case zqa => with_unfolding_all rfl); (case zqb => exact fun _ => by with_unfolding_all rfl); (case zqc => exact fun _ => by with_unfolding_all rfl); (case zqd => with_unfolding_all rfl); (case zqe => with_unfolding_all decide); (case zqf => with_unfolding_all rfl)))
    k_with "w exec Assign cons ListComp" => (k_here; k_extra "comp ap"; (with_unfolding_all refine' LCp.Assign_ListComp_P (F₀ := by k_asm) ?zqz ?zqy ?zqa ?zqb ?zqc ?zqd ?zqe ?zqf ?zqg ?zqi ?zqj ?_); (case zqz => with_unfolding_all rfl); (case zqy => with_unfolding_all rfl); (case zqa => with_unfolding_all rfl); (case zqb => with_unfolding_all decide); (case zqc => with_unfolding_all rfl); (case zqd => with_unfolding_all decide); (case zqe => with_unfolding_all rfl); (case zqf => with_unfolding_all rfl); (case zqg => with_unfolding_all decide); (case zqi => with_unfolding_all rfl); (case zqj => with_unfolding_all rfl))
    k_with "w eval ListComp" => (k_here; k_extra "comp p"; (with_unfolding_all refine' LCp.ListComp_P (F₀ := by k_asm) ?zqa ?zqb ?zqc ?zqd ?zqe ?zqf ?zqg ?_); (case zqa => with_unfolding_all rfl); (case zqb => with_unfolding_all decide); (case zqc => with_unfolding_all rfl); (case zqd => with_unfolding_all decide); (case zqe => with_unfolding_all rfl); (case zqf => with_unfolding_all rfl); (case zqg => with_unfolding_all decide))
    k_with "w SrcLP" => (k_extra "halt src"; refine halt ?_)
    k_with "w eval ListComp" => (k_here; k_extra "comp t"; (with_unfolding_all refine' LCt.ListComp_T (F₀ := by k_asm) ?zqa ?zqb ?zqc ?zqd ?zqe ?_); (case zqa => with_unfolding_all rfl); (case zqb => with_unfolding_all decide); (case zqc => with_unfolding_all rfl); (case zqd => with_unfolding_all decide); (case zqe => with_unfolding_all rfl))
    k_with "w eval ListComp" => (k_here; k_extra "comp u"; (with_unfolding_all refine' LCg.ListComp_U (F₀ := by k_asm) ?zqa ?zqb ?zqc ?zqd ?zqe ?_); (case zqa => with_unfolding_all rfl); (case zqb => with_unfolding_all decide); (case zqc => with_unfolding_all rfl); (case zqd => with_unfolding_all decide); (case zqe => with_unfolding_all rfl))
    k_with "w SrcC" => (k_extra "halt src"; refine halt ?_)
    k_with "w exec Assign cons ListComp" => (k_here; k_extra "comp yes"; k_dflt (refine wpAny_Assign_Name ?_))
    k_with "w CompSrc" => (k_extra "halt src"; refine halt ?_)
    k_with "w CompSrcT" => (k_extra "halt src"; refine halt ?_)
    k_with "w call builtin:str.join" => (k_extra "halt join"; refine halt ?_)
    k_with "w call builtin:str.split" => (k_extra "halt split"; refine halt ?_)
    k_with "w subscriptTail Name BinOp ref int" => (k_extra "halt sub"; refine halt ?_)
    k_with "w subscriptTail Name BinOp ref int" => (k_here; k_extra "lit sub")
    k_with "w subscriptTail" => (k_here; k_extra "lit sub")
    k_with "w call builtin:len" => (k_extra "halt len"; refine halt ?_)
    k_with "w subscriptTail Name Slice ref ref" => (k_extra "halt slice"; refine halt ?_)
    k_with "w subscriptTail Subscript BinOp ref int" => (k_extra "halt sub"; refine halt ?_)
    k_with "w call builtin:list.append" => (k_here; k_extra "my append")
    k_with "w subscriptTail" => (k_extra "halt any"; refine halt ?_)
    k_with "w pyIter ref" => (k_extra "halt iter"; refine halt ?_)
    k_with "w call builtin:max" => (k_extra "halt max"; refine halt ?_)
    k_with "w call type:zip" => (k_extra "halt zip"; refine halt ?_)
    k_with "w call builtin:sorted" => (k_extra "halt sorted"; refine halt ?_)
    k_with "w subscriptTail Subscript Constant ref int" => (k_extra "halt any"; refine halt ?_)
    k_with "halt sorted" => skip
    k_steps
    refine unhalt ?_
    refine' sorted4 st hst ?hh FZ NZ hz hAp hAt hoff ?hx ?e0 ?e1 ?e2 ?e3 ?_
    case hh => with_unfolding_all rfl
    case hx => rw [hx4]
    case e0 => exact lastN_int st 0
    case e1 => exact lastN_int st 1
    case e2 => exact lastN_int st 2
    case e3 => exact lastN_int st 3
    intro S b0 b1 b2 b3 v0 v1 v2 v3 d0 d1 d2 d3 n9 h9 tk9 F9 N9 g1 g2 g3
    clear nZ fZ FZ NZ
    k_with_none
    k_with "nX" => (first | exact ltA0 ‹_› | exact ltA1 ‹_› | exact ltA2 ‹_› | exact ltA3 ‹_› | exact ltA4 ‹_› | exact ltA5 ‹_› | exact ltA6 ‹_› | exact ltA7 ‹_› | exact ltA8 ‹_› | exact ltA9 ‹_› | exact ltA10 ‹_› | exact ltA11 ‹_› | exact ltA12 ‹_› | exact ltA13 ‹_› | exact neA0 ‹_› | exact neA1 ‹_› | exact neA2 ‹_› | exact neA3 ‹_› | exact neA4 ‹_› | exact neA5 ‹_› | exact neA6 ‹_› | exact neA7 ‹_› | exact neA8 ‹_› | exact neA9 ‹_› | exact neA10 ‹_› | exact neA11 ‹_› | exact neA12 ‹_›)
    k_with "k_ne" => (first | k_extra "nX" | (refine Ne.symm ?_; k_extra "nX"))
    k_with "k_all" => (first | exact List.forall_mem_nil _ | (refine' List.forall_mem_cons.mpr ⟨?zqa, ?zqb⟩; (case zqa => k_ne); (case zqb => k_all)) | assumption | exact al3s ‹_› | exact al0 ‹_› | exact al1 ‹_› | exact al2 ‹_› | exact al3 ‹_› | exact al4 ‹_› | exact al5 ‹_› | exact al6 ‹_› | exact al7 ‹_› | exact al8 ‹_› | exact al9 ‹_› | exact al10 ‹_› | exact al11 ‹_› | exact of2 ‹_›)
    k_with "ent D" => (refine' code_def ?zqk1 ?zqk2 ?zqk3 ?zqk4 ?zqk5 ?zqkA ?zqkF ?zqkK ?zqk6 ?zqk7 ?zqk8 ?zqk9 ?zqkB ?_ ?zqc2 ?zqc3 ?zqc4 ?zqc5; (case zqkA | zqkF => exact rfl); (case zqkK => assumption); (case zqk1 | zqk2 | zqk3 | zqk4 | zqk5 => (k_dflt k_asm)); (case zqk6 | zqk7 => k_is); (case zqk8 => ktr_room); (case zqk9 => first | exact BindsTo.of_eq rfl | exact binds_K (by k_in) rfl (by k_is) rfl rfl rfl); (case zqc5 => decide); (case zqkB => exact locs rfl); (case zqc2 | zqc3 | zqc4 => exact rfl))
    k_with "ent C" => (refine' code_defC ?zqk1 ?zqk2 ?zqk3 ?zqk4 ?zqk5 ?zqkA ?zqkF ?zqkK ?zqk6 ?zqk7 ?zqk8 ?zqk9 ?zqkB ?zqkD ?_ ?zqc2 ?zqc3 ?zqc4; (case zqkA | zqkF => exact rfl); (case zqkK => first | exact rfl | assumption); (case zqk1 | zqk2 | zqk3 | zqk4 | zqk5 => (k_dflt k_asm)); (case zqk6 | zqk7 => k_is); (case zqk8 => ktr_room); (case zqk9 => first | exact BindsTo.of_eq rfl | exact binds_K (by k_in) rfl (by k_is) rfl rfl rfl); (case zqkD => decide +kernel); (case zqkB | zqc2 | zqc3 | zqc4 => exact rfl))
    k_with "k_room" => (ktr_room)
    k_with "w exec For Name Call cons nil" => (k_here; (rename Fr _ _ _ _ => lF'); (with_unfolding_all refine' For_invVF lF' ?zqk1 ?zqk2 ?_; (case zqk1 => exact rfl); (case zqk2 => exact rfl); k_whole))
    k_with "w eval ListComp" => (k_here; k_extra "comp yes"; k_dflt (first | refine LCg.ListComp_U (F₀ := by k_asm) (by with_unfolding_all rfl) (by decide) (by rfl) (by decide) (by rfl) ?_ | refine LCt.ListComp_T (F₀ := by k_asm) (by with_unfolding_all rfl) (by decide) (by rfl) (by decide) (by rfl) ?_))
    k_with "w eval ListComp" => (k_here; k_extra "comp c"; (with_unfolding_all refine' ListComp_C (F₀ := by k_asm) ?zqa ?zqb ?zqc ?zqd ?zqe ?zqf ?_; (case zqa => with_unfolding_all rfl); (case zqb => exact fun _ => by with_unfolding_all rfl); (case zqc => exact fun _ => by with_unfolding_all rfl); (case zqd => with_unfolding_all rfl); (case zqe => with_unfolding_all decide); (case zqf => with_unfolding_all rfl)))
    k_with "w exec Assign cons ListComp" => (k_here; k_extra "comp ap"; (with_unfolding_all refine' LCp.Assign_ListComp_P (F₀ := by k_asm) ?zqz ?zqy ?zqa ?zqb ?zqc ?zqd ?zqe ?zqf ?zqg ?zqi ?zqj ?_); (case zqz => with_unfolding_all rfl); (case zqy => with_unfolding_all rfl); (case zqa => with_unfolding_all rfl); (case zqb => with_unfolding_all decide); (case zqc => with_unfolding_all rfl); (case zqd => with_unfolding_all decide); (case zqe => with_unfolding_all rfl); (case zqf => with_unfolding_all rfl); (case zqg => with_unfolding_all decide); (case zqi => with_unfolding_all rfl); (case zqj => with_unfolding_all rfl))
    k_with "w eval ListComp" => (k_here; k_extra "comp p"; (with_unfolding_all refine' LCp.ListComp_P (F₀ := by k_asm) ?zqa ?zqb ?zqc ?zqd ?zqe ?zqf ?zqg ?_); (case zqa => with_unfolding_all rfl); (case zqb => with_unfolding_all decide); (case zqc => with_unfolding_all rfl); (case zqd => with_unfolding_all decide); (case zqe => with_unfolding_all rfl); (case zqf => with_unfolding_all rfl); (case zqg => with_unfolding_all decide))
    k_with "w SrcLP" => (k_extra "halt src"; refine halt ?_)
    k_with "w eval ListComp" => (k_here; k_extra "comp t"; (with_unfolding_all refine' LCt.ListComp_T (F₀ := by k_asm) ?zqa ?zqb ?zqc ?zqd ?zqe ?_); (case zqa => with_unfolding_all rfl); (case zqb => with_unfolding_all decide); (case zqc => with_unfolding_all rfl); (case zqd => with_unfolding_all decide); (case zqe => with_unfolding_all rfl))
    k_with "w eval ListComp" => (k_here; k_extra "comp u"; (with_unfolding_all refine' LCg.ListComp_U (F₀ := by k_asm) ?zqa ?zqb ?zqc ?zqd ?zqe ?_); (case zqa => with_unfolding_all rfl); (case zqb => with_unfolding_all decide); (case zqc => with_unfolding_all rfl); (case zqd => with_unfolding_all decide); (case zqe => with_unfolding_all rfl))
    k_with "w SrcC" => (k_extra "halt src"; refine halt ?_)
    k_with "w exec Assign cons ListComp" => (k_here; k_extra "comp yes"; k_dflt (refine wpAny_Assign_Name ?_))
    k_with "w CompSrc" => (k_extra "halt src"; refine halt ?_)
    k_with "w CompSrcT" => (k_extra "halt src"; refine halt ?_)
    k_with "w call builtin:str.join" => (k_extra "halt join"; refine halt ?_)
    k_with "w call builtin:str.split" => (k_extra "halt split"; refine halt ?_)
    k_with "w subscriptTail Name BinOp ref int" => (k_extra "halt sub"; refine halt ?_)
    k_with "w subscriptTail Name BinOp ref int" => (k_here; k_extra "lit sub")
    k_with "w subscriptTail" => (k_here; k_extra "lit sub")
    k_with "w call builtin:len" => (k_extra "halt len"; refine halt ?_)
    k_with "w subscriptTail Name Slice ref ref" => (k_extra "halt slice"; refine halt ?_)
    k_with "w subscriptTail Subscript BinOp ref int" => (k_extra "halt sub"; refine halt ?_)
    k_with "w call builtin:list.append" => (k_here; k_extra "my append")
    k_with "w subscriptTail" => (k_extra "halt any"; refine halt ?_)
    k_with "w pyIter ref" => (k_extra "halt iter"; refine halt ?_)
    k_with "w call builtin:max" => (k_extra "halt max"; refine halt ?_)
    k_with "w call type:zip" => (k_extra "halt zip"; refine halt ?_)
    k_with "w call builtin:sorted" => (k_extra "halt sorted"; refine halt ?_)
    k_with "w subscriptTail Subscript Constant ref int" => (k_extra "halt any"; refine halt ?_)
    k_with "halt src" => skip
    k_steps
    refine unhalt ?_
    have hp : ∀ (i : Nat) (v : Value), i < 4 → #[Value.ref b0, Value.ref b1, Value.ref b2, Value.ref b3][i]? = some v → ∃ (b : Addr) (v₁ : Value) (d : Tok), v = .ref b ∧ ∀ r : Led, (b, zoTup v₁ (.int (((st + i) % 4 : Nat) : Int) d)) ∈ (S, listOf #[Value.ref b0, Value.ref b1, Value.ref b2, Value.ref b3] n9) :: (b0, zoTup v0 (.int ((st % 4 : Nat) : Int) d0)) :: (b1, zoTup v1 (.int (((st + 1) % 4 : Nat) : Int) d1)) :: (b2, zoTup v2 (.int (((st + 2) % 4 : Nat) : Int) d2)) :: (b3, zoTup v3 (.int (((st + 3) % 4 : Nat) : Int) d3)) :: r := by
      intro i v hi hv
      have hi4 : i = 0 ∨ i = 1 ∨ i = 2 ∨ i = 3 := four_cases (by assumption)
      rcases hi4 with rfl | rfl | rfl | rfl
      · cases hv; exact ⟨b0, v0, d0, rfl, fun r => by simp⟩
      · cases hv; exact ⟨b1, v1, d1, rfl, fun r => by simp⟩
      · cases hv; exact ⟨b2, v2, d2, rfl, fun r => by simp⟩
      · cases hv; exact ⟨b3, v3, d3, rfl, fun r => by simp⟩
    refine' LCp.SrcLP.ledger (by rfl) (by k_asm) (by k_asm) (by k_mem) (by exact Nat.le_of_ble_eq_true rfl) ?_
    intro g9
    refine comp_invP (fun i ys nw => nw = _ ∧ IntsAre ys ((List.range i).map fun (k : Nat) => (((st + k) % 4 : Nat) : Int))) 4 ?_ ?_ _ 0 [] _ (by rfl) ⟨rfl, .nil⟩
    · rintro j v ys nw hj hv ⟨rfl, hys⟩
      obtain ⟨bj, vj, dj, rfl, hbj⟩ := hp j v hj hv
      refine ⟨bj, _, vj, _, _, rfl, hbj _, rfl, rfl, ?_⟩
      intro I oI Cn oC D m₂ h tk E' ho hx1 hx2 F8 N8 off8 ne8
      k_with_none
      k_with "nX" => (first | exact ltA0 ‹_› | exact ltA1 ‹_› | exact ltA2 ‹_› | exact ltA3 ‹_› | exact ltA4 ‹_› | exact ltA5 ‹_› | exact ltA6 ‹_› | exact ltA7 ‹_› | exact ltA8 ‹_› | exact ltA9 ‹_› | exact ltA10 ‹_› | exact ltA11 ‹_› | exact ltA12 ‹_› | exact ltA13 ‹_› | exact neA0 ‹_› | exact neA1 ‹_› | exact neA2 ‹_› | exact neA3 ‹_› | exact neA4 ‹_› | exact neA5 ‹_› | exact neA6 ‹_› | exact neA7 ‹_› | exact neA8 ‹_› | exact neA9 ‹_› | exact neA10 ‹_› | exact neA11 ‹_› | exact neA12 ‹_›)
      k_with "k_ne" => (first | k_extra "nX" | (refine Ne.symm ?_; k_extra "nX"))
      k_with "k_all" => (first | exact List.forall_mem_nil _ | (refine' List.forall_mem_cons.mpr ⟨?zqa, ?zqb⟩; (case zqa => k_ne); (case zqb => k_all)) | assumption | exact al3s ‹_› | exact al0 ‹_› | exact al1 ‹_› | exact al2 ‹_› | exact al3 ‹_› | exact al4 ‹_› | exact al5 ‹_› | exact al6 ‹_› | exact al7 ‹_› | exact al8 ‹_› | exact al9 ‹_› | exact al10 ‹_› | exact al11 ‹_› | exact of2 ‹_›)
      k_with "ent D" => (refine' code_def ?zqk1 ?zqk2 ?zqk3 ?zqk4 ?zqk5 ?zqkA ?zqkF ?zqkK ?zqk6 ?zqk7 ?zqk8 ?zqk9 ?zqkB ?_ ?zqc2 ?zqc3 ?zqc4 ?zqc5; (case zqkA | zqkF => exact rfl); (case zqkK => assumption); (case zqk1 | zqk2 | zqk3 | zqk4 | zqk5 => (k_dflt k_asm)); (case zqk6 | zqk7 => k_is); (case zqk8 => ktr_room); (case zqk9 => first | exact BindsTo.of_eq rfl | exact binds_K (by k_in) rfl (by k_is) rfl rfl rfl); (case zqc5 => decide); (case zqkB => exact locs rfl); (case zqc2 | zqc3 | zqc4 => exact rfl))
      k_with "ent C" => (refine' code_defC ?zqk1 ?zqk2 ?zqk3 ?zqk4 ?zqk5 ?zqkA ?zqkF ?zqkK ?zqk6 ?zqk7 ?zqk8 ?zqk9 ?zqkB ?zqkD ?_ ?zqc2 ?zqc3 ?zqc4; (case zqkA | zqkF => exact rfl); (case zqkK => first | exact rfl | assumption); (case zqk1 | zqk2 | zqk3 | zqk4 | zqk5 => (k_dflt k_asm)); (case zqk6 | zqk7 => k_is); (case zqk8 => ktr_room); (case zqk9 => first | exact BindsTo.of_eq rfl | exact binds_K (by k_in) rfl (by k_is) rfl rfl rfl); (case zqkD => decide +kernel); (case zqkB | zqc2 | zqc3 | zqc4 => exact rfl))
      k_with "k_room" => (ktr_room)
      k_with "w exec For Name Call cons nil" => (k_here; (rename Fr _ _ _ _ => lF'); (with_unfolding_all refine' For_invVF lF' ?zqk1 ?zqk2 ?_; (case zqk1 => exact rfl); (case zqk2 => exact rfl); k_whole))
      k_with "w eval ListComp" => (k_here; k_extra "comp yes"; k_dflt (first | refine LCg.ListComp_U (F₀ := by k_asm) (by with_unfolding_all rfl) (by decide) (by rfl) (by decide) (by rfl) ?_ | refine LCt.ListComp_T (F₀ := by k_asm) (by with_unfolding_all rfl) (by decide) (by rfl) (by decide) (by rfl) ?_))
      k_with "w eval ListComp" => (k_here; k_extra "comp c"; (with_unfolding_all refine' ListComp_C (F₀ := by k_asm) ?zqa ?zqb ?zqc ?zqd ?zqe ?zqf ?_; (case zqa => with_unfolding_all rfl); (case zqb => exact fun _ => by with_unfolding_all rfl); (case zqc => exact fun _ => by with_unfolding_all rfl); (case zqd => with_unfolding_all rfl); (case zqe => with_unfolding_all decide); (case zqf => with_unfolding_all rfl)))
      k_with "w exec Assign cons ListComp" => (k_here; k_extra "comp ap"; (with_unfolding_all refine' LCp.Assign_ListComp_P (F₀ := by k_asm) ?zqz ?zqy ?zqa ?zqb ?zqc ?zqd ?zqe ?zqf ?zqg ?zqi ?zqj ?_); (case zqz => with_unfolding_all rfl); (case zqy => with_unfolding_all rfl); (case zqa => with_unfolding_all rfl); (case zqb => with_unfolding_all decide); (case zqc => with_unfolding_all rfl); (case zqd => with_unfolding_all decide); (case zqe => with_unfolding_all rfl); (case zqf => with_unfolding_all rfl); (case zqg => with_unfolding_all decide); (case zqi => with_unfolding_all rfl); (case zqj => with_unfolding_all rfl))
      k_with "w eval ListComp" => (k_here; k_extra "comp p"; (with_unfolding_all refine' LCp.ListComp_P (F₀ := by k_asm) ?zqa ?zqb ?zqc ?zqd ?zqe ?zqf ?zqg ?_); (case zqa => with_unfolding_all rfl); (case zqb => with_unfolding_all decide); (case zqc => with_unfolding_all rfl); (case zqd => with_unfolding_all decide); (case zqe => with_unfolding_all rfl); (case zqf => with_unfolding_all rfl); (case zqg => with_unfolding_all decide))
      k_with "w SrcLP" => (k_extra "halt src"; refine halt ?_)
      k_with "w eval ListComp" => (k_here; k_extra "comp t"; (with_unfolding_all refine' LCt.ListComp_T (F₀ := by k_asm) ?zqa ?zqb ?zqc ?zqd ?zqe ?_); (case zqa => with_unfolding_all rfl); (case zqb => with_unfolding_all decide); (case zqc => with_unfolding_all rfl); (case zqd => with_unfolding_all decide); (case zqe => with_unfolding_all rfl))
      k_with "w eval ListComp" => (k_here; k_extra "comp u"; (with_unfolding_all refine' LCg.ListComp_U (F₀ := by k_asm) ?zqa ?zqb ?zqc ?zqd ?zqe ?_); (case zqa => with_unfolding_all rfl); (case zqb => with_unfolding_all decide); (case zqc => with_unfolding_all rfl); (case zqd => with_unfolding_all decide); (case zqe => with_unfolding_all rfl))
      k_with "w SrcC" => (k_extra "halt src"; refine halt ?_)
      k_with "w exec Assign cons ListComp" => (k_here; k_extra "comp yes"; k_dflt (refine wpAny_Assign_Name ?_))
      k_with "w CompSrc" => (k_extra "halt src"; refine halt ?_)
      k_with "w CompSrcT" => (k_extra "halt src"; refine halt ?_)
      k_with "w call builtin:str.join" => (k_extra "halt join"; refine halt ?_)
      k_with "w call builtin:str.split" => (k_extra "halt split"; refine halt ?_)
      k_with "w subscriptTail Name BinOp ref int" => (k_extra "halt sub"; refine halt ?_)
      k_with "w subscriptTail Name BinOp ref int" => (k_here; k_extra "lit sub")
      k_with "w subscriptTail" => (k_here; k_extra "lit sub")
      k_with "w call builtin:len" => (k_extra "halt len"; refine halt ?_)
      k_with "w subscriptTail Name Slice ref ref" => (k_extra "halt slice"; refine halt ?_)
      k_with "w subscriptTail Subscript BinOp ref int" => (k_extra "halt sub"; refine halt ?_)
      k_with "w call builtin:list.append" => (k_here; k_extra "my append")
      k_with "w subscriptTail" => (k_extra "halt any"; refine halt ?_)
      k_with "w pyIter ref" => (k_extra "halt iter"; refine halt ?_)
      k_with "w call builtin:max" => (k_extra "halt max"; refine halt ?_)
      k_with "w call type:zip" => (k_extra "halt zip"; refine halt ?_)
      k_with "w call builtin:sorted" => (k_extra "halt sorted"; refine halt ?_)
      k_with "w subscriptTail Subscript Constant ref int" => (k_extra "halt any"; refine halt ?_)
      k_steps
      refine LCg.CompEnd.intro (by k_asm) (by assumption) _ ?subO off8 (.inr ⟨_, .head _, rfl, _, rfl⟩) ⟨rfl, ?hdO⟩
      case subO => kqd_sub
      case hdO => rw [List.range_succ, List.map_append]; exact IntsAre.append hys (.cons _ _ .nil)
    · rintro ysO nwO ⟨rfl, hysO⟩
      clear hp
      k_with_none
      k_with "nX" => (first | exact ltA0 ‹_› | exact ltA1 ‹_› | exact ltA2 ‹_› | exact ltA3 ‹_› | exact ltA4 ‹_› | exact ltA5 ‹_› | exact ltA6 ‹_› | exact ltA7 ‹_› | exact ltA8 ‹_› | exact ltA9 ‹_› | exact ltA10 ‹_› | exact ltA11 ‹_› | exact ltA12 ‹_› | exact ltA13 ‹_› | exact neA0 ‹_› | exact neA1 ‹_› | exact neA2 ‹_› | exact neA3 ‹_› | exact neA4 ‹_› | exact neA5 ‹_› | exact neA6 ‹_› | exact neA7 ‹_› | exact neA8 ‹_› | exact neA9 ‹_› | exact neA10 ‹_› | exact neA11 ‹_› | exact neA12 ‹_›)
      k_with "k_ne" => (first | k_extra "nX" | (refine Ne.symm ?_; k_extra "nX"))
      k_with "k_all" => (first | exact List.forall_mem_nil _ | (refine' List.forall_mem_cons.mpr ⟨?zqa, ?zqb⟩; (case zqa => k_ne); (case zqb => k_all)) | assumption | exact al3s ‹_› | exact al0 ‹_› | exact al1 ‹_› | exact al2 ‹_› | exact al3 ‹_› | exact al4 ‹_› | exact al5 ‹_› | exact al6 ‹_› | exact al7 ‹_› | exact al8 ‹_› | exact al9 ‹_› | exact al10 ‹_› | exact al11 ‹_› | exact of2 ‹_›)
      k_with "ent D" => (refine' code_def ?zqk1 ?zqk2 ?zqk3 ?zqk4 ?zqk5 ?zqkA ?zqkF ?zqkK ?zqk6 ?zqk7 ?zqk8 ?zqk9 ?zqkB ?_ ?zqc2 ?zqc3 ?zqc4 ?zqc5; (case zqkA | zqkF => exact rfl); (case zqkK => assumption); (case zqk1 | zqk2 | zqk3 | zqk4 | zqk5 => (k_dflt k_asm)); (case zqk6 | zqk7 => k_is); (case zqk8 => ktr_room); (case zqk9 => first | exact BindsTo.of_eq rfl | exact binds_K (by k_in) rfl (by k_is) rfl rfl rfl); (case zqc5 => decide); (case zqkB => exact locs rfl); (case zqc2 | zqc3 | zqc4 => exact rfl))
      k_with "ent C" => (refine' code_defC ?zqk1 ?zqk2 ?zqk3 ?zqk4 ?zqk5 ?zqkA ?zqkF ?zqkK ?zqk6 ?zqk7 ?zqk8 ?zqk9 ?zqkB ?zqkD ?_ ?zqc2 ?zqc3 ?zqc4; (case zqkA | zqkF => exact rfl); (case zqkK => first | exact rfl | assumption); (case zqk1 | zqk2 | zqk3 | zqk4 | zqk5 => (k_dflt k_asm)); (case zqk6 | zqk7 => k_is); (case zqk8 => ktr_room); (case zqk9 => first | exact BindsTo.of_eq rfl | exact binds_K (by k_in) rfl (by k_is) rfl rfl rfl); (case zqkD => decide +kernel); (case zqkB | zqc2 | zqc3 | zqc4 => exact rfl))
      k_with "k_room" => (ktr_room)
      k_with "w exec For Name Call cons nil" => (k_here; (rename Fr _ _ _ _ => lF'); (with_unfolding_all refine' For_invVF lF' ?zqk1 ?zqk2 ?_; (case zqk1 => exact rfl); (case zqk2 => exact rfl); k_whole))
      k_with "w eval ListComp" => (k_here; k_extra "comp yes"; k_dflt (first | refine LCg.ListComp_U (F₀ := by k_asm) (by with_unfolding_all rfl) (by decide) (by rfl) (by decide) (by rfl) ?_ | refine LCt.ListComp_T (F₀ := by k_asm) (by with_unfolding_all rfl) (by decide) (by rfl) (by decide) (by rfl) ?_))
      k_with "w eval ListComp" => (k_here; k_extra "comp c"; (with_unfolding_all refine' ListComp_C (F₀ := by k_asm) ?zqa ?zqb ?zqc ?zqd ?zqe ?zqf ?_; (case zqa => with_unfolding_all rfl); (case zqb => exact fun _ => by with_unfolding_all rfl); (case zqc => exact fun _ => by with_unfolding_all rfl); (case zqd => with_unfolding_all rfl); (case zqe => with_unfolding_all decide); (case zqf => with_unfolding_all rfl)))
      k_with "w exec Assign cons ListComp" => (k_here; k_extra "comp ap"; (with_unfolding_all refine' LCp.Assign_ListComp_P (F₀ := by k_asm) ?zqz ?zqy ?zqa ?zqb ?zqc ?zqd ?zqe ?zqf ?zqg ?zqi ?zqj ?_); (case zqz => with_unfolding_all rfl); (case zqy => with_unfolding_all rfl); (case zqa => with_unfolding_all rfl); (case zqb => with_unfolding_all decide); (case zqc => with_unfolding_all rfl); (case zqd => with_unfolding_all decide); (case zqe => with_unfolding_all rfl); (case zqf => with_unfolding_all rfl); (case zqg => with_unfolding_all decide); (case zqi => with_unfolding_all rfl); (case zqj => with_unfolding_all rfl))
      k_with "w eval ListComp" => (k_here; k_extra "comp p"; (with_unfolding_all refine' LCp.ListComp_P (F₀ := by k_asm) ?zqa ?zqb ?zqc ?zqd ?zqe ?zqf ?zqg ?_); (case zqa => with_unfolding_all rfl); (case zqb => with_unfolding_all decide); (case zqc => with_unfolding_all rfl); (case zqd => with_unfolding_all decide); (case zqe => with_unfolding_all rfl); (case zqf => with_unfolding_all rfl); (case zqg => with_unfolding_all decide))
      k_with "w SrcLP" => (k_extra "halt src"; refine halt ?_)
      k_with "w eval ListComp" => (k_here; k_extra "comp t"; (with_unfolding_all refine' LCt.ListComp_T (F₀ := by k_asm) ?zqa ?zqb ?zqc ?zqd ?zqe ?_); (case zqa => with_unfolding_all rfl); (case zqb => with_unfolding_all decide); (case zqc => with_unfolding_all rfl); (case zqd => with_unfolding_all decide); (case zqe => with_unfolding_all rfl))
      k_with "w eval ListComp" => (k_here; k_extra "comp u"; (with_unfolding_all refine' LCg.ListComp_U (F₀ := by k_asm) ?zqa ?zqb ?zqc ?zqd ?zqe ?_); (case zqa => with_unfolding_all rfl); (case zqb => with_unfolding_all decide); (case zqc => with_unfolding_all rfl); (case zqd => with_unfolding_all decide); (case zqe => with_unfolding_all rfl))
      k_with "w SrcC" => (k_extra "halt src"; refine halt ?_)
      k_with "w exec Assign cons ListComp" => (k_here; k_extra "comp yes"; k_dflt (refine wpAny_Assign_Name ?_))
      k_with "w CompSrc" => (k_extra "halt src"; refine halt ?_)
      k_with "w CompSrcT" => (k_extra "halt src"; refine halt ?_)
      k_with "w call builtin:str.join" => (k_extra "halt join"; refine halt ?_)
      k_with "w call builtin:str.split" => (k_extra "halt split"; refine halt ?_)
      k_with "w subscriptTail Name BinOp ref int" => (k_extra "halt sub"; refine halt ?_)
      k_with "w subscriptTail Name BinOp ref int" => (k_here; k_extra "lit sub")
      k_with "w subscriptTail" => (k_here; k_extra "lit sub")
      k_with "w call builtin:len" => (k_extra "halt len"; refine halt ?_)
      k_with "w subscriptTail Name Slice ref ref" => (k_extra "halt slice"; refine halt ?_)
      k_with "w subscriptTail Subscript BinOp ref int" => (k_extra "halt sub"; refine halt ?_)
      k_with "w call builtin:list.append" => (k_here; k_extra "my append")
      k_with "w subscriptTail" => (k_extra "halt any"; refine halt ?_)
      k_with "w pyIter ref" => (k_extra "halt iter"; refine halt ?_)
      k_with "w call builtin:max" => (k_extra "halt max"; refine halt ?_)
      k_with "w call type:zip" => (k_extra "halt zip"; refine halt ?_)
      k_with "w call builtin:sorted" => (k_extra "halt sorted"; refine halt ?_)
      k_with "w subscriptTail Subscript Constant ref int" => (k_extra "halt any"; refine halt ?_)
      k_with "comp u" => skip
      k_with "halt src" => skip
      k_steps
      refine unhalt ?_
      clear hKd
      have hKd := kdMark
      (rename News _ _ _ _ => nW0)
      (rename _ ∧ _ ∧ _ ∧ _ ∧ _ ∧ _ ∧ _ ∧ _ ∧ _ ∧ LCg.Off1 _ own => oW)
      obtain ⟨DO, DL, x3, x2, e1, e2, e3, e4⟩ := base_name nW0
      subst e1 e2 e3 e4
      have nW := news_sub nW0 base_sub
      clear nW0
      refine LCg.CompSrc.ledger (by rfl) (by k_asm) nW (.head _) ?hszW ?_
      case hszW => rw [List.size_toArray, hysO.length, List.length_map, List.length_range]; decide
      intro g8
      refine comp_datsW hysO _ _ _ _ _ (pairD st ring) ?_ ?_
      · intro n t I oI Cn oC Dd m₂ h tk yy T9 E' hn ho hx F9 N9 off9 ne9
        obtain ⟨b, hb4, rfl⟩ : ∃ b : Nat, b < 4 ∧ n = (b : Int) := by
          obtain ⟨k, _, rfl⟩ := List.mem_map.mp hn
          exact ⟨_, Nat.mod_lt _ (by decide), rfl⟩
        clear nW
        k_with_none
        k_with "nX" => (first | exact ltA0 ‹_› | exact ltA1 ‹_› | exact ltA2 ‹_› | exact ltA3 ‹_› | exact ltA4 ‹_› | exact ltA5 ‹_› | exact ltA6 ‹_› | exact ltA7 ‹_› | exact ltA8 ‹_› | exact ltA9 ‹_› | exact ltA10 ‹_› | exact ltA11 ‹_› | exact ltA12 ‹_› | exact ltA13 ‹_› | exact neA0 ‹_› | exact neA1 ‹_› | exact neA2 ‹_› | exact neA3 ‹_› | exact neA4 ‹_› | exact neA5 ‹_› | exact neA6 ‹_› | exact neA7 ‹_› | exact neA8 ‹_› | exact neA9 ‹_› | exact neA10 ‹_› | exact neA11 ‹_› | exact neA12 ‹_›)
        k_with "k_ne" => (first | k_extra "nX" | (refine Ne.symm ?_; k_extra "nX"))
        k_with "k_all" => (first | exact List.forall_mem_nil _ | (refine' List.forall_mem_cons.mpr ⟨?zqa, ?zqb⟩; (case zqa => k_ne); (case zqb => k_all)) | assumption | exact al3s ‹_› | exact al0 ‹_› | exact al1 ‹_› | exact al2 ‹_› | exact al3 ‹_› | exact al4 ‹_› | exact al5 ‹_› | exact al6 ‹_› | exact al7 ‹_› | exact al8 ‹_› | exact al9 ‹_› | exact al10 ‹_› | exact al11 ‹_› | exact of2 ‹_›)
        k_with "ent D" => (refine' code_def ?zqk1 ?zqk2 ?zqk3 ?zqk4 ?zqk5 ?zqkA ?zqkF ?zqkK ?zqk6 ?zqk7 ?zqk8 ?zqk9 ?zqkB ?_ ?zqc2 ?zqc3 ?zqc4 ?zqc5; (case zqkA | zqkF => exact rfl); (case zqkK => assumption); (case zqk1 | zqk2 | zqk3 | zqk4 | zqk5 => (k_dflt k_asm)); (case zqk6 | zqk7 => k_is); (case zqk8 => ktr_room); (case zqk9 => first | exact BindsTo.of_eq rfl | exact binds_K (by k_in) rfl (by k_is) rfl rfl rfl); (case zqc5 => decide); (case zqkB => exact locs rfl); (case zqc2 | zqc3 | zqc4 => exact rfl))
        k_with "ent C" => (refine' code_defC ?zqk1 ?zqk2 ?zqk3 ?zqk4 ?zqk5 ?zqkA ?zqkF ?zqkK ?zqk6 ?zqk7 ?zqk8 ?zqk9 ?zqkB ?zqkD ?_ ?zqc2 ?zqc3 ?zqc4; (case zqkA | zqkF => exact rfl); (case zqkK => first | exact rfl | assumption); (case zqk1 | zqk2 | zqk3 | zqk4 | zqk5 => (k_dflt k_asm)); (case zqk6 | zqk7 => k_is); (case zqk8 => ktr_room); (case zqk9 => first | exact BindsTo.of_eq rfl | exact binds_K (by k_in) rfl (by k_is) rfl rfl rfl); (case zqkD => decide +kernel); (case zqkB | zqc2 | zqc3 | zqc4 => exact rfl))
        k_with "k_room" => (ktr_room)
        k_with "w exec For Name Call cons nil" => (k_here; (rename Fr _ _ _ _ => lF'); (with_unfolding_all refine' For_invVF lF' ?zqk1 ?zqk2 ?_; (case zqk1 => exact rfl); (case zqk2 => exact rfl); k_whole))
        k_with "w eval ListComp" => (k_here; k_extra "comp yes"; k_dflt (first | refine LCg.ListComp_U (F₀ := by k_asm) (by with_unfolding_all rfl) (by decide) (by rfl) (by decide) (by rfl) ?_ | refine LCt.ListComp_T (F₀ := by k_asm) (by with_unfolding_all rfl) (by decide) (by rfl) (by decide) (by rfl) ?_))
        k_with "w eval ListComp" => (k_here; k_extra "comp c"; (with_unfolding_all refine' ListComp_C (F₀ := by k_asm) ?zqa ?zqb ?zqc ?zqd ?zqe ?zqf ?_; (case zqa => with_unfolding_all rfl); (case zqb => exact fun _ => by with_unfolding_all rfl); (case zqc => exact fun _ => by with_unfolding_all rfl); (case zqd => with_unfolding_all rfl); (case zqe => with_unfolding_all decide); (case zqf => with_unfolding_all rfl)))
        k_with "w exec Assign cons ListComp" => (k_here; k_extra "comp ap"; (with_unfolding_all refine' LCp.Assign_ListComp_P (F₀ := by k_asm) ?zqz ?zqy ?zqa ?zqb ?zqc ?zqd ?zqe ?zqf ?zqg ?zqi ?zqj ?_); (case zqz => with_unfolding_all rfl); (case zqy => with_unfolding_all rfl); (case zqa => with_unfolding_all rfl); (case zqb => with_unfolding_all decide); (case zqc => with_unfolding_all rfl); (case zqd => with_unfolding_all decide); (case zqe => with_unfolding_all rfl); (case zqf => with_unfolding_all rfl); (case zqg => with_unfolding_all decide); (case zqi => with_unfolding_all rfl); (case zqj => with_unfolding_all rfl))
        k_with "w eval ListComp" => (k_here; k_extra "comp p"; (with_unfolding_all refine' LCp.ListComp_P (F₀ := by k_asm) ?zqa ?zqb ?zqc ?zqd ?zqe ?zqf ?zqg ?_); (case zqa => with_unfolding_all rfl); (case zqb => with_unfolding_all decide); (case zqc => with_unfolding_all rfl); (case zqd => with_unfolding_all decide); (case zqe => with_unfolding_all rfl); (case zqf => with_unfolding_all rfl); (case zqg => with_unfolding_all decide))
        k_with "w SrcLP" => (k_extra "halt src"; refine halt ?_)
        k_with "w eval ListComp" => (k_here; k_extra "comp t"; (with_unfolding_all refine' LCt.ListComp_T (F₀ := by k_asm) ?zqa ?zqb ?zqc ?zqd ?zqe ?_); (case zqa => with_unfolding_all rfl); (case zqb => with_unfolding_all decide); (case zqc => with_unfolding_all rfl); (case zqd => with_unfolding_all decide); (case zqe => with_unfolding_all rfl))
        k_with "w eval ListComp" => (k_here; k_extra "comp u"; (with_unfolding_all refine' LCg.ListComp_U (F₀ := by k_asm) ?zqa ?zqb ?zqc ?zqd ?zqe ?_); (case zqa => with_unfolding_all rfl); (case zqb => with_unfolding_all decide); (case zqc => with_unfolding_all rfl); (case zqd => with_unfolding_all decide); (case zqe => with_unfolding_all rfl))
        k_with "w SrcC" => (k_extra "halt src"; refine halt ?_)
        k_with "w exec Assign cons ListComp" => (k_here; k_extra "comp yes"; k_dflt (refine wpAny_Assign_Name ?_))
        k_with "w CompSrc" => (k_extra "halt src"; refine halt ?_)
        k_with "w CompSrcT" => (k_extra "halt src"; refine halt ?_)
        k_with "w call builtin:str.join" => (k_extra "halt join"; refine halt ?_)
        k_with "w call builtin:str.split" => (k_extra "halt split"; refine halt ?_)
        k_with "w subscriptTail Name BinOp ref int" => (k_extra "halt sub"; refine halt ?_)
        k_with "w subscriptTail Name BinOp ref int" => (k_here; k_extra "lit sub")
        k_with "w subscriptTail" => (k_here; k_extra "lit sub")
        k_with "w call builtin:len" => (k_extra "halt len"; refine halt ?_)
        k_with "w subscriptTail Name Slice ref ref" => (k_extra "halt slice"; refine halt ?_)
        k_with "w subscriptTail Subscript BinOp ref int" => (k_extra "halt sub"; refine halt ?_)
        k_with "w call builtin:list.append" => (k_here; k_extra "my append")
        k_with "w subscriptTail" => (k_extra "halt any"; refine halt ?_)
        k_with "w pyIter ref" => (k_extra "halt iter"; refine halt ?_)
        k_with "w call builtin:max" => (k_extra "halt max"; refine halt ?_)
        k_with "w call type:zip" => (k_extra "halt zip"; refine halt ?_)
        k_with "w call builtin:sorted" => (k_extra "halt sorted"; refine halt ?_)
        k_with "w subscriptTail Subscript Constant ref int" => (k_extra "halt any"; refine halt ?_)
        k_with "lit sub" => (first
          | ((k_dflt (refine' ints_item (v := ((lastN st b : Nat) : Int)) ?l1 ?l2 hysR ?l3 ?l4 ?l5 ?l6 ?_ ?l7)); (case l1 => (k_dflt k_asm)); (case l2 => (k_dflt k_mem)); (case l3 => omega); (case l4 => (rw [List.length_map, List.length_range]; omega)); (case l5 => omega); (case l6 => (rw [Int.toNat_natCast]; exact last_at hb4)); (case l7 => with_unfolding_all rfl); intro tq; (try k_fold))
          | ((k_dflt (refine' ints_item (v := ((ring.getD b 0 : Nat) : Int)) ?l1 ?l2 hI ?l3 ?l4 ?l5 ?l6 ?_ ?l7)); (case l1 => (k_dflt k_asm)); (case l2 => (repeat (first | exact List.mem_append.mpr (.inl hrg) | refine List.Mem.tail _ ?_))); (case l3 => omega); (case l4 => (rw [List.length_map, hrl]; omega)); (case l5 => omega); (case l6 => (rw [Int.toNat_natCast]; exact getD_cast ring b)); (case l7 => with_unfolding_all rfl); intro tq; (try k_fold)))
        k_steps
        · (rename @Eq Int _ _ => hc)
          rw [Int.fmod_eq_emod_of_nonneg _ (by decide)] at hc
          (rename News _ _ _ _ => lN)
          obtain ⟨aT, e1⟩ := led1 lN
          subst e1
          (rename (_ ∧ _ ∧ _ ∧ _ ∧ _ ∧ _ ∧ _ ∧ AllLt aT _) => hl9)
          refine' LCg.CompEnd.intro (news' := _ :: _ :: _ :: _ :: (own ++ ((aT, _) :: T9))) (by k_asm) lN (datsW_sub rfl) (datsW_off off9 ?u1 ?u2 ?u3) (.inr ⟨_, .head _, rfl, _, rfl⟩) ⟨_, rfl, pair_dat (.head _) ?pd1 ?pd2, ?pd3⟩
          case u1 => exact Nat.ne_of_gt hl9.1
          case u2 => exact Nat.ne_of_gt hl9.2.1
          case u3 => exact Nat.ne_of_gt hl9.2.2.1
          case pd1 => rw [if_pos (by omega)]
          case pd2 => rw [Int.toNat_natCast, getD_cast]
          case pd3 => exact fun p hp => allLt_ne hl9.2.2.2.2.2.2.2 p (List.mem_append.mpr (.inl hp))
        · (rename @Ne Int _ _ => hc)
          rw [Int.fmod_eq_emod_of_nonneg _ (by decide)] at hc
          (rename News _ _ _ _ => lN)
          obtain ⟨aT, e1⟩ := led1 lN
          subst e1
          (rename (_ ∧ _ ∧ _ ∧ _ ∧ _ ∧ _ ∧ _ ∧ AllLt aT _) => hl9)
          refine' LCg.CompEnd.intro (news' := _ :: _ :: _ :: _ :: (own ++ ((aT, _) :: T9))) (by k_asm) lN (datsW_sub rfl) (datsW_off off9 ?v1 ?v2 ?v3) (.inr ⟨_, .head _, rfl, _, rfl⟩) ⟨_, rfl, pair_dat (.head _) ?qd1 ?qd2, ?qd3⟩
          case v1 => exact Nat.ne_of_gt hl9.1
          case v2 => exact Nat.ne_of_gt hl9.2.1
          case v3 => exact Nat.ne_of_gt hl9.2.2.1
          case qd1 => rw [if_neg (by omega)]
          case qd2 => rw [Int.toNat_natCast, getD_cast]
          case qd3 => exact fun p hp => allLt_ne hl9.2.2.2.2.2.2.2 p (List.mem_append.mpr (.inl hp))
      · intro usP TP hDP hTP
        have hDP' : DatAll TP usP ((List.range 4).map fun (k : Nat) => pairD st ring (((st + k) % 4 : Nat) : Int)) := by rw [List.map_map] at hDP; exact hDP
        k_with_none
        k_with "nX" => (first | exact ltA0 ‹_› | exact ltA1 ‹_› | exact ltA2 ‹_› | exact ltA3 ‹_› | exact ltA4 ‹_› | exact ltA5 ‹_› | exact ltA6 ‹_› | exact ltA7 ‹_› | exact ltA8 ‹_› | exact ltA9 ‹_› | exact ltA10 ‹_› | exact ltA11 ‹_› | exact ltA12 ‹_› | exact ltA13 ‹_› | exact neA0 ‹_› | exact neA1 ‹_› | exact neA2 ‹_› | exact neA3 ‹_› | exact neA4 ‹_› | exact neA5 ‹_› | exact neA6 ‹_› | exact neA7 ‹_› | exact neA8 ‹_› | exact neA9 ‹_› | exact neA10 ‹_› | exact neA11 ‹_› | exact neA12 ‹_›)
        k_with "k_ne" => (first | k_extra "nX" | (refine Ne.symm ?_; k_extra "nX"))
        k_with "k_all" => (first | exact List.forall_mem_nil _ | (refine' List.forall_mem_cons.mpr ⟨?zqa, ?zqb⟩; (case zqa => k_ne); (case zqb => k_all)) | assumption | exact al3s ‹_› | exact al0 ‹_› | exact al1 ‹_› | exact al2 ‹_› | exact al3 ‹_› | exact al4 ‹_› | exact al5 ‹_› | exact al6 ‹_› | exact al7 ‹_› | exact al8 ‹_› | exact al9 ‹_› | exact al10 ‹_› | exact al11 ‹_› | exact of2 ‹_›)
        k_with "ent D" => (refine' code_def ?zqk1 ?zqk2 ?zqk3 ?zqk4 ?zqk5 ?zqkA ?zqkF ?zqkK ?zqk6 ?zqk7 ?zqk8 ?zqk9 ?zqkB ?_ ?zqc2 ?zqc3 ?zqc4 ?zqc5; (case zqkA | zqkF => exact rfl); (case zqkK => assumption); (case zqk1 | zqk2 | zqk3 | zqk4 | zqk5 => (k_dflt k_asm)); (case zqk6 | zqk7 => k_is); (case zqk8 => ktr_room); (case zqk9 => first | exact BindsTo.of_eq rfl | exact binds_K (by k_in) rfl (by k_is) rfl rfl rfl); (case zqc5 => decide); (case zqkB => exact locs rfl); (case zqc2 | zqc3 | zqc4 => exact rfl))
        k_with "ent C" => (refine' code_defC ?zqk1 ?zqk2 ?zqk3 ?zqk4 ?zqk5 ?zqkA ?zqkF ?zqkK ?zqk6 ?zqk7 ?zqk8 ?zqk9 ?zqkB ?zqkD ?_ ?zqc2 ?zqc3 ?zqc4; (case zqkA | zqkF => exact rfl); (case zqkK => first | exact rfl | assumption); (case zqk1 | zqk2 | zqk3 | zqk4 | zqk5 => (k_dflt k_asm)); (case zqk6 | zqk7 => k_is); (case zqk8 => ktr_room); (case zqk9 => first | exact BindsTo.of_eq rfl | exact binds_K (by k_in) rfl (by k_is) rfl rfl rfl); (case zqkD => decide +kernel); (case zqkB | zqc2 | zqc3 | zqc4 => exact rfl))
        k_with "k_room" => (ktr_room)
        k_with "w exec For Name Call cons nil" => (k_here; (rename Fr _ _ _ _ => lF'); (with_unfolding_all refine' For_invVF lF' ?zqk1 ?zqk2 ?_; (case zqk1 => exact rfl); (case zqk2 => exact rfl); k_whole))
        k_with "w eval ListComp" => (k_here; k_extra "comp yes"; k_dflt (first | refine LCg.ListComp_U (F₀ := by k_asm) (by with_unfolding_all rfl) (by decide) (by rfl) (by decide) (by rfl) ?_ | refine LCt.ListComp_T (F₀ := by k_asm) (by with_unfolding_all rfl) (by decide) (by rfl) (by decide) (by rfl) ?_))
        k_with "w eval ListComp" => (k_here; k_extra "comp c"; (with_unfolding_all refine' ListComp_C (F₀ := by k_asm) ?zqa ?zqb ?zqc ?zqd ?zqe ?zqf ?_; (case zqa => with_unfolding_all rfl); (case zqb => exact fun _ => by with_unfolding_all rfl); (case zqc => exact fun _ => by with_unfolding_all rfl); (case zqd => with_unfolding_all rfl); (case zqe => with_unfolding_all decide); (case zqf => with_unfolding_all rfl)))
        k_with "w exec Assign cons ListComp" => (k_here; k_extra "comp ap"; (with_unfolding_all refine' LCp.Assign_ListComp_P (F₀ := by k_asm) ?zqz ?zqy ?zqa ?zqb ?zqc ?zqd ?zqe ?zqf ?zqg ?zqi ?zqj ?_); (case zqz => with_unfolding_all rfl); (case zqy => with_unfolding_all rfl); (case zqa => with_unfolding_all rfl); (case zqb => with_unfolding_all decide); (case zqc => with_unfolding_all rfl); (case zqd => with_unfolding_all decide); (case zqe => with_unfolding_all rfl); (case zqf => with_unfolding_all rfl); (case zqg => with_unfolding_all decide); (case zqi => with_unfolding_all rfl); (case zqj => with_unfolding_all rfl))
        k_with "w eval ListComp" => (k_here; k_extra "comp p"; (with_unfolding_all refine' LCp.ListComp_P (F₀ := by k_asm) ?zqa ?zqb ?zqc ?zqd ?zqe ?zqf ?zqg ?_); (case zqa => with_unfolding_all rfl); (case zqb => with_unfolding_all decide); (case zqc => with_unfolding_all rfl); (case zqd => with_unfolding_all decide); (case zqe => with_unfolding_all rfl); (case zqf => with_unfolding_all rfl); (case zqg => with_unfolding_all decide))
        k_with "w SrcLP" => (k_extra "halt src"; refine halt ?_)
        k_with "w eval ListComp" => (k_here; k_extra "comp t"; (with_unfolding_all refine' LCt.ListComp_T (F₀ := by k_asm) ?zqa ?zqb ?zqc ?zqd ?zqe ?_); (case zqa => with_unfolding_all rfl); (case zqb => with_unfolding_all decide); (case zqc => with_unfolding_all rfl); (case zqd => with_unfolding_all decide); (case zqe => with_unfolding_all rfl))
        k_with "w eval ListComp" => (k_here; k_extra "comp u"; (with_unfolding_all refine' LCg.ListComp_U (F₀ := by k_asm) ?zqa ?zqb ?zqc ?zqd ?zqe ?_); (case zqa => with_unfolding_all rfl); (case zqb => with_unfolding_all decide); (case zqc => with_unfolding_all rfl); (case zqd => with_unfolding_all decide); (case zqe => with_unfolding_all rfl))
        k_with "w SrcC" => (k_extra "halt src"; refine halt ?_)
        k_with "w exec Assign cons ListComp" => (k_here; k_extra "comp yes"; k_dflt (refine wpAny_Assign_Name ?_))
        k_with "w CompSrc" => (k_extra "halt src"; refine halt ?_)
        k_with "w CompSrcT" => (k_extra "halt src"; refine halt ?_)
        k_with "w call builtin:str.join" => (k_extra "halt join"; refine halt ?_)
        k_with "w call builtin:str.split" => (k_extra "halt split"; refine halt ?_)
        k_with "w subscriptTail Name BinOp ref int" => (k_extra "halt sub"; refine halt ?_)
        k_with "w subscriptTail Name BinOp ref int" => (k_here; k_extra "lit sub")
        k_with "w subscriptTail" => (k_here; k_extra "lit sub")
        k_with "w call builtin:len" => (k_extra "halt len"; refine halt ?_)
        k_with "w subscriptTail Name Slice ref ref" => (k_extra "halt slice"; refine halt ?_)
        k_with "w subscriptTail Subscript BinOp ref int" => (k_extra "halt sub"; refine halt ?_)
        k_with "w call builtin:list.append" => (k_here; k_extra "my append")
        k_with "w subscriptTail" => (k_extra "halt any"; refine halt ?_)
        k_with "w pyIter ref" => (k_extra "halt iter"; refine halt ?_)
        k_with "w call builtin:max" => (k_extra "halt max"; refine halt ?_)
        k_with "w call type:zip" => (k_extra "halt zip"; refine halt ?_)
        k_with "w call builtin:sorted" => (k_extra "halt sorted"; refine halt ?_)
        k_with "w subscriptTail Subscript Constant ref int" => (k_extra "halt any"; refine halt ?_)
        k_steps
        (rename News _ _ _ _ => lN)
        obtain ⟨DP, e1⟩ := led1 lN
        subst e1
        (rename (_ ∧ _ ∧ _ ∧ _ ∧ LCg.Off1 DP _) => hP9)
        have hDPo : ∀ p ∈ own, p.1 ≠ DP := fun p hp => Off.of1 hP9.2.2.2.2 p (List.mem_append.mpr (.inl hp))
        refine hret DP usP usP.length TP hDP' hTP hDPo _ _ _ rfl (by k_asm) (news_sub lN (fun p hp => ?_))
        simp only [List.mem_cons, List.mem_append] at hp ⊢
        rcases hp with h | h | h
        · simp [h]
        · simp [h]
        · simp [h]
end Mine
end PartN16
section PartLP
open PySem PySem.W PyProof.Rows PySem.Spec PySem.Calls

set_option maxRecDepth 100000
namespace Mine
theorem cell_ne {h₀ h : Heap} {L : Addr} {news : Led} {a c : Addr} {oa oc : Obj} {v : Option Value} (N : News h₀ L h news) (ha : (a, oa) ∈ news) (hc : (c, oc) ∈ news) (dc : oc.data = .cell v) (da : ∀ v, oa.data ≠ .cell v) : @Ne Nat a c := fun e => by
  have e' : a = c := e
  subst e'
  have h1 := (N _ ha).1
  have h2 := (N _ hc).1
  have e3 : oa = oc := Option.some.inj (h1.symm.trans h2)
  exact da v (e3 ▸ dc)
mutual
theorem dat_filter {nw : Led} {f : Addr × Obj → Bool} (hf : ∀ a o xs n, (a, o) ∈ nw → o.data = .seq xs n → f (a, o) = true) : ∀ {v : Value} {d : Dat}, DatIn nw v d → DatIn (nw.filter f) v d
  | _, _, .none => .none
  | _, _, .bool b => .bool b
  | _, _, .int i t => .int i t
  | _, _, .str x t => .str x t
  | _, _, .bytes b t => .bytes b t
  | _, _, .tuple h r => .tuple (List.mem_filter.mpr ⟨h, hf _ _ _ _ h rfl⟩) (dat_filterAll hf r)
  | _, _, .list h r => .list (List.mem_filter.mpr ⟨h, hf _ _ _ _ h rfl⟩) (dat_filterAll hf r)
theorem dat_filterAll {nw : Led} {f : Addr × Obj → Bool} (hf : ∀ a o xs n, (a, o) ∈ nw → o.data = .seq xs n → f (a, o) = true) : ∀ {vs : List Value} {ds : List Dat}, DatAll nw vs ds → DatAll (nw.filter f) vs ds
  | _, _, .nil => .nil
  | _, _, .cons h r => .cons (dat_filter hf h) (dat_filterAll hf r)
end
/-- what a call made, off the two cells of the law -/
theorem off_cells {h₀ h : Heap} {L c1 c2 : Addr} {o1 o2 : Obj} {v1 v2 : Option Value} {news nw : Led} (N : News h₀ L h news) (hs : ∀ q ∈ nw, q ∈ news) (h1 : (c1, o1) ∈ news) (h2 : (c2, o2) ∈ news) (d1 : o1.data = .cell v1) (d2 : o2.data = .cell v2) :
    ∃ nw₂ : Led, (∀ q ∈ nw₂, q ∈ nw) ∧ (∀ q ∈ nw₂, @Ne Nat q.1 c1) ∧ (∀ q ∈ nw₂, @Ne Nat q.1 c2) ∧ (∀ vs ds, DatAll nw vs ds → DatAll nw₂ vs ds) ∧ (∀ a o xs n, (a, o) ∈ nw → o.data = .seq xs n → (a, o) ∈ nw₂) := by
  have hf : ∀ a o xs n, (a, o) ∈ nw → o.data = .seq xs n → (fun q : Addr × Obj => decide (@Ne Nat q.1 c1) && decide (@Ne Nat q.1 c2)) (a, o) = true := fun a o xs n hm hd => by
    have n1 : @Ne Nat a c1 := cell_ne N (hs _ hm) h1 d1 fun v e => by rw [hd] at e; cases e
    have n2 : @Ne Nat a c2 := cell_ne N (hs _ hm) h2 d2 fun v e => by rw [hd] at e; cases e
    simp only [Bool.and_eq_true, decide_eq_true_eq]
    exact ⟨n1, n2⟩
  refine ⟨nw.filter (fun q : Addr × Obj => decide (@Ne Nat q.1 c1) && decide (@Ne Nat q.1 c2)), fun q hq => (List.mem_filter.mp hq).1, fun q hq => ?_, fun q hq => ?_, fun vs ds hD => dat_filterAll hf hD, fun a o xs n hm hd => List.mem_filter.mpr ⟨hm, hf a o xs n hm hd⟩⟩
  · have := (List.mem_filter.mp hq).2
    simp only [Bool.and_eq_true, decide_eq_true_eq] at this
    exact this.1
  · have := (List.mem_filter.mp hq).2
    simp only [Bool.and_eq_true, decide_eq_true_eq] at this
    exact this.2
theorem run_bounds {told : List Int} (h : ∀ v ∈ told, 1 ≤ v ∧ v ≤ 333334) : ∀ v ∈ told ++ [0], 0 ≤ v ∧ v ≤ 333334 := fun v hv => by
  rcases List.mem_append.mp hv with hv | hv
  · have := h v hv; lia
  · rw [List.mem_singleton.mp hv]; lia
theorem run_end {w : World} {td : Tok} {h₀ h : Heap} {L H lg x d aR aT c1 c2 : Addr} {vs us ur ut : Array Value} {n nL nr nt : Nat} {o1 o2 : Obj} {v1 v2 : Option Value} {nw : Led}
    (N : News h₀ L h ((H, listOf vs n) :: (lg, listOf us nL) :: (x, instObj 232 d) :: (d, tabDict w td H) :: (aR, listOf ur nr) :: ([(aT, listOf ut nt), (c2, o2), (c1, o1)] ++ nw))) (d2 : o2.data = .cell v2) (d1 : o1.data = .cell v1) (hN : ∀ q ∈ nw, q.1 ≠ H) (hl : lg ≠ H) (hx : @Ne Nat x H ∧ @Ne Nat d H ∧ LCg.Off1 H ((aR, listOf ur nr) :: (aT, listOf ut nt) :: (c2, o2) :: (c1, o1) :: [])) :
    ∃ nw₂ : Led, News h₀ L h ((H, listOf vs n) :: (lg, listOf us nL) :: (x, instObj 232 d) :: (d, tabDict w td H) :: (aR, listOf ur nr) :: (aT, listOf ut nt) :: (c2, o2) :: (c1, o1) :: nw₂) ∧ (∀ q ∈ nw₂, q.1 ≠ H) ∧ (∀ q ∈ nw₂, q.1 ≠ c1) ∧ (∀ q ∈ nw₂, q.1 ≠ c2) ∧ (∀ vs ds, DatAll nw vs ds → DatAll nw₂ vs ds) ∧
      (@Ne Nat H c1 ∧ @Ne Nat lg c1 ∧ @Ne Nat x c1 ∧ @Ne Nat d c1 ∧ @Ne Nat aR c1 ∧ @Ne Nat aT c1) ∧ (@Ne Nat H c2 ∧ @Ne Nat lg c2 ∧ @Ne Nat x c2 ∧ @Ne Nat d c2 ∧ @Ne Nat aR c2 ∧ @Ne Nat aT c2) := by
  replace N : News h₀ L h ((H, listOf vs n) :: (lg, listOf us nL) :: (x, instObj 232 d) :: (d, tabDict w td H) :: (aR, listOf ur nr) :: (aT, listOf ut nt) :: (c2, o2) :: (c1, o1) :: nw) := N
  have m1 : (c1, o1) ∈ (H, listOf vs n) :: (lg, listOf us nL) :: (x, instObj 232 d) :: (d, tabDict w td H) :: (aR, listOf ur nr) :: (aT, listOf ut nt) :: (c2, o2) :: (c1, o1) :: nw := .tail _ (.tail _ (.tail _ (.tail _ (.tail _ (.tail _ (.tail _ (.head _)))))))
  have m2 : (c2, o2) ∈ (H, listOf vs n) :: (lg, listOf us nL) :: (x, instObj 232 d) :: (d, tabDict w td H) :: (aR, listOf ur nr) :: (aT, listOf ut nt) :: (c2, o2) :: (c1, o1) :: nw := .tail _ (.tail _ (.tail _ (.tail _ (.tail _ (.tail _ (.head _))))))
  have hs : ∀ q ∈ nw, q ∈ (H, listOf vs n) :: (lg, listOf us nL) :: (x, instObj 232 d) :: (d, tabDict w td H) :: (aR, listOf ur nr) :: (aT, listOf ut nt) :: (c2, o2) :: (c1, o1) :: nw := fun q hq => .tail _ (.tail _ (.tail _ (.tail _ (.tail _ (.tail _ (.tail _ (.tail _ (hq))))))))
  obtain ⟨nw₂, hsub, n1, n2, hD, _⟩ := off_cells N hs m1 m2 d1 d2
  refine ⟨nw₂, news_sub N ?_, fun q hq => hN q (hsub q hq), fun q hq => n1 q hq, fun q hq => n2 q hq, hD, ⟨?_, ?_, ?_, ?_, ?_, ?_⟩, ⟨?_, ?_, ?_, ?_, ?_, ?_⟩⟩
  · iterate 8 refine List.forall_mem_cons.mpr ⟨by k_mem, ?_⟩
    exact fun p hp => .tail _ (.tail _ (.tail _ (.tail _ (.tail _ (.tail _ (.tail _ (.tail _ (hsub p hp))))))))
  · exact cell_ne N (.head _) m1 d1 fun v e => by cases e
  · exact cell_ne N (.tail _ (.head _)) m1 d1 fun v e => by cases e
  · exact cell_ne N (.tail _ (.tail _ (.head _))) m1 d1 fun v e => by cases e
  · exact cell_ne N (.tail _ (.tail _ (.tail _ (.head _)))) m1 d1 fun v e => by cases e
  · exact cell_ne N (.tail _ (.tail _ (.tail _ (.tail _ (.head _))))) m1 d1 fun v e => by cases e
  · exact cell_ne N (.tail _ (.tail _ (.tail _ (.tail _ (.tail _ (.head _)))))) m1 d1 fun v e => by cases e
  · exact cell_ne N (.head _) m2 d2 fun v e => by cases e
  · exact cell_ne N (.tail _ (.head _)) m2 d2 fun v e => by cases e
  · exact cell_ne N (.tail _ (.tail _ (.head _))) m2 d2 fun v e => by cases e
  · exact cell_ne N (.tail _ (.tail _ (.tail _ (.head _)))) m2 d2 fun v e => by cases e
  · exact cell_ne N (.tail _ (.tail _ (.tail _ (.tail _ (.head _))))) m2 d2 fun v e => by cases e
  · exact cell_ne N (.tail _ (.tail _ (.tail _ (.tail _ (.tail _ (.head _)))))) m2 d2 fun v e => by cases e
theorem dat_ints {nw : Led} : ∀ {vs : List Value} {ns : List Nat}, DatAll nw vs (ns.map fun i => .int (i : Nat)) → IntsAre vs (ns.map fun (q : Nat) => (q : Int))
  | _, [], h => by cases h; exact .nil
  | _, n :: ns, h => by
    cases h with
    | cons h1 h2 =>
      cases h1
      exact .cons _ _ (dat_ints h2)
noncomputable abbrev mayOf (es : List Ent) (t : Nat) : List Nat := (es.getD t ([], [], 0)).2.1
/-- log[turn] with its list of may -/
theorem log_itemM {prog : Program} {w : World} {A : Around} {E : Value → Shared → Prop} {s : Shared} {h₀ : Heap} {L l : Addr} {value slice : PySem.Expr} {news nw : Led} {us : List Value} {n : Nat} {es : List Ent} {k : Int} {u : Tok} {Q : Value → Shared → Prop} (N : News h₀ L s.heap news) (hm : (l, listOf us.toArray n) ∈ news)
    (hd : DatAll nw us (es.map entD)) (hs : ∀ q ∈ nw, q ∈ news) (j : Nat) (hj : k = (j : Int)) (h1 : j < es.length) (h2 : j < 1000)
    (h : ∀ (a aM : Addr) (v1 : Value) (vM : List Value) (nM : Nat) (t : Tok) (nt : Nat), (a, ({ cls := .type "tuple", data := .seq #[v1, .ref aM, .int (((es.getD j ([], [], 0)).2.2 : Nat) : Int) t] nt } : Obj)) ∈ news → (aM, listOf vM.toArray nM) ∈ news → IntsAre vM ((mayOf es j).map fun (q : Nat) => (q : Int)) → Q (.ref a) s)
    (hs' : subscripted slice false (.ref l) (.int k u) = operate [.ref l, .int k u] (getItem (.ref l) (.int k u)) := by with_unfolding_all rfl) :
    wpAny (model prog w) A (subscriptTail value slice (.ref l) (.int k u)) Q E s := by
  have hl : s.heap.IsList l us.toArray := ⟨_, (N _ hm).1, rfl, _, rfl⟩
  obtain ⟨v, hv, hD⟩ := hd.get (k := j) (by rw [List.length_map]; exact h1)
  have e : es.getD j ([], [], 0) = es[j] := by rw [List.getD_eq_getElem?_getD, List.getElem?_eq_getElem h1]; rfl
  rw [List.getElem_map] at hD
  unfold entD at hD
  unfold mayOf at h
  rw [e] at h
  have hkj : k.toNat = j := by lia
  cases hD with
  | tuple hm2 r =>
    cases r with
    | cons r1 r =>
      cases r with
      | cons r2 r =>
        cases r with
        | cons r3 r =>
          cases r3
          cases r
          cases r2 with
          | list hmM rM =>
            refine tail_any hl.typeIs slot_list_getitem.lookup (wpAny_getItem_list hl (by lia) (by lia) (by rw [List.getElem?_toArray, hkj]; exact hv) ?_) hs'
            exact h _ _ _ _ _ _ _ (hs _ hm2) (hs _ hmM) (dat_ints rM)
theorem tup_at {prog : Program} {w : World} {A : Around} {E : Value → Shared → Prop} {s : Shared} {h₀ : Heap} {L a : Addr} {value slice : PySem.Expr} {news : Led} {xs : Array Value} {v : Value} {k : Int} {u : Tok} {nt : Nat} {Q : Value → Shared → Prop} (N : News h₀ L s.heap news)
    (hm : (a, ({ cls := .type "tuple", data := .seq xs nt } : Obj)) ∈ news) (h0 : 0 ≤ k) (h1 : k < 2 ^ 63) (hn : k < (xs.size : Int)) (hv : xs[k.toNat]? = some v) (h : Q v s)
    (hs : subscripted slice false (.ref a) (.int k u) = operate [.ref a, .int k u] (getItem (.ref a) (.int k u)) := by with_unfolding_all rfl) :
    wpAny (model prog w) A (subscriptTail value slice (.ref a) (.int k u)) Q E s := by
  have ht : IsTup s.heap a xs := ⟨_, (N _ hm).1, rfl, _, rfl⟩
  exact tail_any ht.typeIs slot_tuple_getitem.lookup (getItem_tuple ht (by lia) h1 (seqIndex_of h0 hn) hv h) hs
section
variable {prog : Program} {w : World} {A : Around} {E : Value → Shared → Prop} {s : Shared} {h₀ : Heap} {L a b : Addr} {news n1 n2 : Led} {xs ys : List Value} {ka kb : Nat} {ds : List Dat} {Q : Value → Shared → Prop}
theorem ne_same (N : News h₀ L s.heap news) (ma : (a, listOf xs.toArray ka) ∈ news) (Da : DatAll n1 xs ds) (sa : ∀ q ∈ n1, q ∈ news) (mb : (b, listOf ys.toArray kb) ∈ news) (Db : DatAll n2 ys ds) (sb : ∀ q ∈ n2, q ∈ news) (ha : ∀ d ∈ ds, kqdOk 8 d = true) (hu : A.units + 64 < cLine) (h : Q (.bool false) s) : wpAny (model prog w) A (compareOp .NotEq (.ref a) (.ref b)) Q E s :=
  kqd_ne N ma rfl rfl Da sa mb rfl rfl Db sb ha ha hu (by simpa using h)
theorem eq_same (N : News h₀ L s.heap news) (ma : (a, listOf xs.toArray ka) ∈ news) (Da : DatAll n1 xs ds) (sa : ∀ q ∈ n1, q ∈ news) (mb : (b, listOf ys.toArray kb) ∈ news) (Db : DatAll n2 ys ds) (sb : ∀ q ∈ n2, q ∈ news) (ha : ∀ d ∈ ds, kqdOk 8 d = true) (hu : A.units + 64 < cLine) (h : Q (.bool true) s) : wpAny (model prog w) A (compareOp .Eq (.ref a) (.ref b)) Q E s :=
  kqd_eq N ma rfl rfl Da sa mb rfl rfl Db sb ha ha hu (by simpa using h)
end
theorem one_may {V : List Value} {M : List Nat} {p : Nat} (h : IntsAre V (M.map fun (q : Nat) => (q : Int))) (e : M = [p]) : DatAll [] V [.int (p : Int)] := by
  subst e
  exact ints_dat (ns := [p]) h
theorem no_off {news : Led} : ∀ q ∈ ([] : Led), q ∈ news := fun _ h => nomatch h
theorem int_ok (p : Int) : ∀ d ∈ [Dat.int p], kqdOk 8 d = true := fun d h => by
  rw [List.mem_singleton.mp h]; rfl
theorem bubble {h₀ h : Heap} {L : Addr} (xs ys : Led) {nw tl : Led} (N : News h₀ L h (xs ++ (nw ++ (ys ++ tl)))) : News h₀ L h (xs ++ (ys ++ (nw ++ tl))) := fun p hp => N p (by
  simp only [List.mem_append] at hp ⊢
  rcases hp with h | h | h | h <;> simp [h])
theorem dot_ok (k : Nat) : PyData.strOk (dotS k) = true := by
  unfold PyData.strOk dotS
  rw [Array.all_eq_true_iff_forall_mem]
  intro x hx
  have hx' : x ∈ List.replicate k 46 := by simpa using hx
  rw [List.eq_of_mem_replicate hx']
  rfl
theorem name_ok : ∀ c ∈ letters, PyData.strOk (nameS c) = true := by decide +kernel
theorem ent_ok (es : List Ent) : ∀ d ∈ es.map entD, kqdOk 8 d = true := fun d hd => by
  obtain ⟨e, _, rfl⟩ := List.mem_map.mp hd
  unfold entD
  have h1 : (e.1.map fun k => Dat.str (dotS k)).all (fun d => kqdOk 6 d) = true := by rw [List.all_eq_true]; intro d hd; obtain ⟨k, _, rfl⟩ := List.mem_map.mp hd; simp only [kqdOk]; exact dot_ok k
  have h2 : (e.2.1.map fun i => Dat.int (i : Nat)).all (fun d => kqdOk 6 d) = true := by rw [List.all_eq_true]; intro d hd; obtain ⟨k, _, rfl⟩ := List.mem_map.mp hd; simp only [kqdOk]
  simp only [kqdOk, List.all_cons, List.all_nil, h1, h2, Bool.and_self]
theorem row_ok {R : List Row} (h : ∀ r ∈ R, okRow r) : ∀ kv ∈ R.map rowS, kqdOk 8 (rowD kv) = true := fun kv hk => by
  obtain ⟨r, hr, rfl⟩ := List.mem_map.mp hk
  unfold rowD rowS
  simp only [kqdOk, List.all_cons, List.all_nil, name_ok _ (h r hr).1, dot_ok, Bool.and_self]
theorem rows_ok {rows : List (Str × Str)} (h : ∀ kv ∈ rows, kqdOk 8 (rowD kv) = true) : ∀ d ∈ rows.map rowD, kqdOk 8 d = true := fun d hd => by
  obtain ⟨kv, hk, rfl⟩ := List.mem_map.mp hd
  exact h kv hk
theorem told_get {told : List Int} (hl : told.length = 9) : ∀ i, i < 9 → (told ++ [0]).getD i 0 = told.getD i 0 := fun i hi => by
  rw [List.getD_eq_getElem?_getD, List.getD_eq_getElem?_getD, List.getElem?_append_left (by lia)]
theorem go_round {f : Nat → Nat} (h : ∀ t, 14 ≤ t → t < 20 → f t = (f (t - 1) + 1) % 4) : f 16 < 4 ∧ ∀ j, j < 4 → f (16 + j) = (f 16 + j) % 4 := by
  have h16 := h 16 (by lia) (by lia)
  have h17 := h 17 (by lia) (by lia)
  have h18 := h 18 (by lia) (by lia)
  have h19 := h 19 (by lia) (by lia)
  simp only [Nat.reduceSub] at h16 h17 h18 h19
  have l16 : f 16 < 4 := h16 ▸ Nat.mod_lt _ (by decide)
  have e18 : f 18 = (f 16 + 2) % 4 := by rw [h18, h17, Nat.mod_add_mod]
  refine ⟨l16, fun j hj => ?_⟩
  match j, hj with
  | 0, _ => exact (Nat.mod_eq_of_lt l16).symm
  | 1, _ => exact h17
  | 2, _ => exact e18
  | 3, _ => show f 19 = (f 16 + 3) % 4; rw [h19, e18, Nat.mod_add_mod]
theorem okRing_len {r : List Nat} (h : okRing r) : r.length = 4 := by
  obtain ⟨a, b, c, d, rfl, _⟩ := h
  rfl
theorem box_name {told : List Int} (v : Int) : ∃ c ∈ letters, Txt.item (Str.ofString "aBcD") (v.fmod 4) = nameS c := by
  have h1 := Int.fmod_nonneg_of_pos v (b := 4) (by decide)
  have h2 := Int.fmod_lt_of_pos v (b := 4) (by decide)
  have hj : (v.fmod 4).toNat < 4 := by lia
  have e : v.fmod 4 = 0 + (((v.fmod 4).toNat : Nat) : Int) := by lia
  exact ⟨_, four_mem _ (lt4 hj), (congrArg _ e).trans (item_four _ (lt4 hj))⟩
theorem off_at {nw own : Led} {a : Addr} {o : Obj} (h : ∀ q ∈ nw, ∀ p ∈ own, p.1 ≠ q.1) (hm : (a, o) ∈ own) : ∀ q ∈ nw, q.1 ≠ a := fun q hq => (h q hq (a, o) hm).symm
theorem app3 {a b c : Led} {x : Addr} (h1 : ∀ q ∈ a, q.1 ≠ x) (h2 : ∀ q ∈ b, q.1 ≠ x) (h3 : ∀ q ∈ c, q.1 ≠ x) : ∀ q ∈ a ++ (b ++ c), q.1 ≠ x := fun q hq => by
  rcases List.mem_append.mp hq with hq | hq
  · exact h1 q hq
  rcases List.mem_append.mp hq with hq | hq
  · exact h2 q hq
  · exact h3 q hq
theorem to_front {h₀ h : Heap} {L : Addr} {a1 a2 a3 a4 a5 t l x d : Addr × Obj} {r : Led} (N : News h₀ L h (a1 :: a2 :: a3 :: a4 :: a5 :: t :: l :: x :: d :: r)) : News h₀ L h (t :: x :: d :: a1 :: a2 :: a3 :: a4 :: a5 :: l :: r) := fun p hp => N p (by
  simp only [List.mem_cons] at hp ⊢
  rcases hp with h | h | h | h | h | h | h | h | h | h <;> simp [h])
theorem front_off {H : Addr} {a1 a2 a3 a4 a5 l b1 b2 b3 b4 : Addr × Obj} {r : Led} (h1 : a1.1 ≠ H) (h2 : a2.1 ≠ H) (h3 : a3.1 ≠ H) (h4 : a4.1 ≠ H) (h5 : a5.1 ≠ H) (h6 : l.1 ≠ H) (hb : LCg.Off1 H [b1, b2, b3, b4]) (hr : ∀ q ∈ r, q.1 ≠ H) : LCg.Off1 H (a1 :: a2 :: a3 :: a4 :: a5 :: l :: b1 :: b2 :: b3 :: b4 :: r) :=
  ⟨h1, h2, h3, h4, h5, h6, hb.1, hb.2.1, hb.2.2.1, hb.2.2.2.1, off1_of hr⟩
end Mine
end PartLP
section PartGW
open PySem PySem.W PyProof.Rows PySem.Spec PySem.Calls

set_option maxRecDepth 100000
set_option maxHeartbeats 8000000
namespace Mine
theorem law_good {s₁ : Shared} {cl : Str → Option Addr} {mean : ExcName → Option Value} {ns : List Int} {L : Addr} {m : Str → Option Value} {h' : Heap} {tk : Nat} (F : Fr s₁.heap L h' m) (hg : s₁.gens = #[]) :
    GoodW PySem.Challenge.rw_sr0074_02.row.claim cl mean [ofPy (PyData.list (List.map PyData.int ns))] s₁ (Except.ok (Flow.ret (Value.bool true))) { heap := h', gens := s₁.gens, drawn := s₁.drawn, toks := tk, os := s₁.os } := by
  refine goodW_bool (by assumption) (by assumption) (raisesW_false ?_) ?_
  · wrow_none_raised
  · wrow_post
end Mine
end PartGW
section PartPL
open PySem PySem.W PyProof.Rows PySem.Spec PySem.Calls

set_option maxRecDepth 100000
namespace Mine
noncomputable abbrev HK (rd : List Int) (t : Nat) : List Nat := heldK (runK rd t).1
noncomputable abbrev pk (rd : List Int) (t : Nat) : Nat := pickK (rd.getD (t % 9) 0) (mayK (HK rd t))
noncomputable def nxt (h : List Nat) (q : Nat) : List Nat := h.set q (up (h.getD ((q + 3) % 4) 0))
theorem es_at (rd : List Int) : ∀ n t, t < n → (runK rd n).2.getD t ([], [], 0) = entK rd t (runK rd t).1
  | 0, t, h => absurd h (Nat.not_lt_zero t)
  | n + 1, t, h => by
    have hl := runK_len rd n
    show ((runK rd n).2 ++ [entK rd n (runK rd n).1]).getD t ([], [], 0) = _
    rw [List.getD_eq_getElem?_getD]
    by_cases ht : t < n
    · rw [List.getElem?_append_left (by lia), ← List.getD_eq_getElem?_getD]
      exact es_at rd n t ht
    · have e : t = n := by lia
      subst e
      rw [List.getElem?_append_right (by lia), hl, Nat.sub_self]
      rfl
theorem may_at (rd : List Int) {t : Nat} (h : t < 20) : mayOf (runK rd 20).2 t = mayK (HK rd t) := by
  unfold mayOf; rw [es_at rd 20 t h]; rfl
theorem pick_at (rd : List Int) {t : Nat} (h : t < 20) : pickOf (runK rd 20).2 t = pk rd t := by
  unfold pickOf; rw [es_at rd 20 t h]; rfl
noncomputable def all81 : List (List Nat) := three.flatMap fun a => three.flatMap fun b => three.flatMap fun c => three.map fun d => [a, b, c, d]
theorem hk_mem (rd : List Int) (t : Nat) : HK rd t ∈ all81 := by
  obtain ⟨a, b, c, d, ha, hb, hc, hd, e, _⟩ := (runK_good rd t).held
  unfold HK
  rw [e]
  exact List.mem_flatMap.mpr ⟨a, ha, List.mem_flatMap.mpr ⟨b, hb, List.mem_flatMap.mpr ⟨c, hc, List.mem_map.mpr ⟨d, hd, rfl⟩⟩⟩⟩
theorem may_ne (rd : List Int) (t : Nat) : mayK (HK rd t) ≠ [] := by
  obtain ⟨a, b, c, d, ha, hb, hc, hd, e, _⟩ := (runK_good rd t).held
  unfold HK
  rw [e]
  exact mayK_ne a ha b hb c hc d hd
theorem pk_mem (rd : List Int) (t : Nat) : pk rd t ∈ mayK (HK rd t) := pickK_mem _ (may_ne rd t)
theorem hk_next (rd : List Int) (t : Nat) : HK rd (t + 1) = nxt (HK rd t) (pk rd t) := held_set (mayK_lt _ _ (pk_mem rd t))
theorem less81 : ∀ h ∈ all81, ∀ q ∈ mayK h, (mayK (nxt h q)).length ≤ (mayK h).length := by decide +kernel
theorem round81 : ∀ h ∈ all81, ∀ q ∈ mayK h, (mayK h).length = 1 → mayK (nxt h q) = [(q + 1) % 4] := by decide +kernel
noncomputable def badK : Nat → List (List Nat)
  | 0 => all81.filter fun h => decide (1 < (mayK h).length)
  | n + 1 => (((badK n).flatMap fun h => (mayK h).map (nxt h)).filter fun h => decide (1 < (mayK h).length)).eraseDups
theorem bad13 : badK 13 = [] := by decide +kernel
theorem bad_at (rd : List Int) : ∀ t, 1 < (mayK (HK rd t)).length → HK rd t ∈ badK t
  | 0, h => List.mem_filter.mpr ⟨hk_mem rd 0, decide_eq_true h⟩
  | t + 1, h => by
    have h1 := less81 _ (hk_mem rd t) _ (pk_mem rd t)
    rw [← hk_next] at h1
    have ih := bad_at rd t (by lia)
    show _ ∈ (_ : List (List Nat)).eraseDups
    rw [List.mem_eraseDups]
    refine List.mem_filter.mpr ⟨List.mem_flatMap.mpr ⟨_, ih, List.mem_map.mpr ⟨_, pk_mem rd t, (hk_next rd t).symm⟩⟩, decide_eq_true h⟩
theorem one_at (rd : List Int) : ∀ k, (mayK (HK rd (13 + k))).length = 1
  | 0 => by
    have h1 : 0 < (mayK (HK rd 13)).length := List.length_pos_iff.mpr (may_ne rd 13)
    by_cases h : 1 < (mayK (HK rd 13)).length
    · have := bad_at rd 13 h
      rw [bad13] at this
      cases this
    · show (mayK (HK rd 13)).length = 1
      lia
  | k + 1 => by
    have ih := one_at rd k
    have h1 := less81 _ (hk_mem rd (13 + k)) _ (pk_mem rd (13 + k))
    rw [← hk_next] at h1
    have h2 : 0 < (mayK (HK rd (13 + k + 1))).length := List.length_pos_iff.mpr (may_ne rd _)
    show (mayK (HK rd (13 + k + 1))).length = 1
    lia
theorem single {m : List Nat} {p : Nat} (h : m.length = 1) (hp : p ∈ m) : m = [p] := by
  match m, h with
  | [x], _ => rw [List.mem_singleton.mp hp]
theorem es_P0 (rd : List Int) : ∀ t, t < 20 → (mayOf (runK rd 20).2 t).length ≤ 4 := fun t h => by
  rw [may_at rd h]
  exact Nat.le_trans (List.length_filter_le _ _) (by decide)
theorem es_P1 (rd : List Int) : ∀ t, t < 19 → (mayOf (runK rd 20).2 (t + 1)).length ≤ (mayOf (runK rd 20).2 t).length := fun t h => by
  rw [may_at rd (by lia), may_at rd (by lia), hk_next]
  exact less81 _ (hk_mem rd t) _ (pk_mem rd t)
theorem es_P2 (rd : List Int) : ∀ t, 13 ≤ t → t < 20 → mayOf (runK rd 20).2 t = [pickOf (runK rd 20).2 t] := fun t h1 h2 => by
  rw [may_at rd h2, pick_at rd h2]
  refine single ?_ (pk_mem rd t)
  have := one_at rd (t - 13)
  rwa [show 13 + (t - 13) = t by lia] at this
theorem es_P3 (rd : List Int) : ∀ t, 14 ≤ t → t < 20 → pickOf (runK rd 20).2 t = (pickOf (runK rd 20).2 (t - 1) + 1) % 4 := fun t h1 h2 => by
  obtain ⟨u, rfl⟩ : ∃ u, t = u + 1 := ⟨t - 1, by lia⟩
  rw [Nat.add_sub_cancel, pick_at rd h2, pick_at rd (by lia)]
  have h3 := one_at rd (u - 13)
  rw [show 13 + (u - 13) = u by lia] at h3
  have h4 := round81 _ (hk_mem rd u) _ (pk_mem rd u) h3
  rw [← hk_next] at h4
  have h5 := pk_mem rd (u + 1)
  rw [h4] at h5
  exact List.mem_singleton.mp h5
theorem four_sets {R : List Row} (hok : ∀ r ∈ R, okRow r) {s c0 c1 c2 c3 k0 k1 k2 k3 : Nat} (hs : s < 4) (h0 : low c0 = 97 + s) (h1 : low c1 = 97 + (s + 1) % 4) (h2 : low c2 = 97 + (s + 2) % 4) (h3 : low c3 = 97 + (s + 3) % 4) :
    setR (setR (setR (setR R c0 k0) c1 k1) c2 k2) c3 k3 = [(c0, k0), (c1, k1), (c2, k2), (c3, k3)] := by
  have key : ∀ s < 4, (97 + s != 97 + (s + 1) % 4) = true ∧ (97 + s != 97 + (s + 2) % 4) = true ∧ (97 + s != 97 + (s + 3) % 4) = true ∧ (97 + (s + 1) % 4 != 97 + (s + 2) % 4) = true ∧ (97 + (s + 1) % 4 != 97 + (s + 3) % 4) = true ∧ (97 + (s + 2) % 4 != 97 + (s + 3) % 4) = true ∧
      ∀ l ∈ [97, 98, 99, 100], l = 97 + s ∨ l = 97 + (s + 1) % 4 ∨ l = 97 + (s + 2) % 4 ∨ l = 97 + (s + 3) % 4 := by decide
  obtain ⟨e01, e02, e03, e12, e13, e23, ek⟩ := key s hs
  rw [← h0, ← h1] at e01
  rw [← h0, ← h2] at e02
  rw [← h0, ← h3] at e03
  rw [← h1, ← h2] at e12
  rw [← h1, ← h3] at e13
  rw [← h2, ← h3] at e23
  have e : ((((R.filter fun r => low r.1 != low c0).filter fun r => low r.1 != low c1).filter fun r => low r.1 != low c2).filter fun r => low r.1 != low c3) = [] := by
    rw [List.eq_nil_iff_forall_not_mem]
    intro r hr
    simp only [List.mem_filter, bne_iff_ne, ne_eq] at hr
    obtain ⟨⟨⟨⟨hr, n0⟩, n1⟩, n2⟩, n3⟩ := hr
    have hl : low r.1 ∈ [97, 98, 99, 100] := by
      have := (hok r hr).1
      revert this
      generalize r.1 = c
      revert c
      decide
    rcases ek _ hl with h | h | h | h
    · exact n0 (h.trans h0.symm)
    · exact n1 (h.trans h1.symm)
    · exact n2 (h.trans h2.symm)
    · exact n3 (h.trans h3.symm)
  unfold setR
  simp only [List.filter_append, List.filter_cons, List.filter_nil, e01, e02, e03, e12, e13, e23, if_true, List.append_assoc, List.cons_append, List.nil_append]
  rw [e]
  rfl
theorem four_get {h : List Nat} {s k0 k1 k2 k3 : Nat} (hl : h.length = 4) (hs : s < 4) :
    let g := (((h.set s k0).set ((s + 1) % 4) k1).set ((s + 2) % 4) k2).set ((s + 3) % 4) k3
    g.getD s 0 = k0 ∧ g.getD ((s + 1) % 4) 0 = k1 ∧ g.getD ((s + 2) % 4) 0 = k2 ∧ g.getD ((s + 3) % 4) 0 = k3 := by
  match h, hl with
  | [a, b, c, d], _ =>
    have : s = 0 ∨ s = 1 ∨ s = 2 ∨ s = 3 := four_cases (by assumption)
    rcases this with rfl | rfl | rfl | rfl <;> exact ⟨rfl, rfl, rfl, rfl⟩
theorem hk_len (rd : List Int) (t : Nat) : (HK rd t).length = 4 := by unfold HK heldK four; rfl
theorem rows_end (rd : List Int) {s : Nat} (hs : s < 4) (hgo : ∀ j, j < 4 → pk rd (16 + j) = (s + j) % 4) :
    (runK rd 20).1 = (List.range 4).map fun j => (letK (16 + j) ((s + j) % 4), (HK rd 20).getD ((s + j) % 4) 0) := by
  have p0 : pk rd 16 = s := (hgo 0 (by lia)).trans (by lia)
  have p1 : pk rd 17 = (s + 1) % 4 := hgo 1 (by lia)
  have p2 : pk rd 18 = (s + 2) % 4 := hgo 2 (by lia)
  have p3 : pk rd 19 = (s + 3) % 4 := hgo 3 (by lia)
  have st : ∀ t p, pk rd t = p → (runK rd (t + 1)).1 = setR (runK rd t).1 (letK t p) (up ((HK rd t).getD ((p + 3) % 4) 0)) := fun t p e => by subst e; rfl
  have r17 := st 16 _ p0
  have r18 := st 17 _ p1
  have r19 := st 18 _ p2
  have r20 := st 19 _ p3
  have hh : ∀ t p, pk rd t = p → HK rd (t + 1) = (HK rd t).set p (up ((HK rd t).getD ((p + 3) % 4) 0)) := fun t p e => by subst e; exact hk_next rd t
  have g17 := hh 16 _ p0
  have g18 := hh 17 _ p1
  have g19 := hh 18 _ p2
  have g20 := hh 19 _ p3
  generalize up ((HK rd 16).getD ((s + 3) % 4) 0) = k0 at r17 g17
  generalize up ((HK rd 17).getD (((s + 1) % 4 + 3) % 4) 0) = k1 at r18 g18
  generalize up ((HK rd 18).getD (((s + 2) % 4 + 3) % 4) 0) = k2 at r19 g19
  generalize up ((HK rd 19).getD (((s + 3) % 4 + 3) % 4) 0) = k3 at r20 g20
  have hG : HK rd 20 = ((((HK rd 16).set s k0).set ((s + 1) % 4) k1).set ((s + 2) % 4) k2).set ((s + 3) % 4) k3 := by
    rw [← g17, ← g18, ← g19, ← g20]
  obtain ⟨q0, q1, q2, q3⟩ := four_get (k0 := k0) (k1 := k1) (k2 := k2) (k3 := k3) (hk_len rd 16) hs
  rw [← hG] at q0 q1 q2 q3
  have e4 : (runK rd 20).1 = [(letK 16 s, k0), (letK 17 ((s + 1) % 4), k1), (letK 18 ((s + 2) % 4), k2), (letK 19 ((s + 3) % 4), k3)] := by
    show (runK rd (19 + 1)).1 = _
    rw [r20, show (runK rd 19).1 = _ from r19, show (runK rd 18).1 = _ from r18, show (runK rd 17).1 = _ from r17]
    exact four_sets (runK_good rd 16).ok hs (letK_ok 16 s hs).2 (letK_ok 17 _ (Nat.mod_lt _ (by decide))).2 (letK_ok 18 _ (Nat.mod_lt _ (by decide))).2 (letK_ok 19 _ (Nat.mod_lt _ (by decide))).2
  rw [e4]
  show _ = [(letK 16 ((s + 0) % 4), (HK rd 20).getD ((s + 0) % 4) 0), (letK 17 ((s + 1) % 4), (HK rd 20).getD ((s + 1) % 4) 0), (letK 18 ((s + 2) % 4), (HK rd 20).getD ((s + 2) % 4) 0), (letK 19 ((s + 3) % 4), (HK rd 20).getD ((s + 3) % 4) 0)]
  rw [show (s + 0) % 4 = s by lia, q0, q1, q2, q3]
theorem heldR_get {r : List Nat} {p : Nat} (hp : p < 4) : (heldR r).getD p 0 = dot (r.getD p 0) p := by
  have : p = 0 ∨ p = 1 ∨ p = 2 ∨ p = 3 := four_cases (by assumption)
  rcases this with rfl | rfl | rfl | rfl <;> rfl
theorem pair_row {s j : Nat} {ring : List Nat} (hs : s < 4) (hj : j < 4) : rowD (rowS (letK (16 + j) ((s + j) % 4), dot (ring.getD ((s + j) % 4) 0) ((s + j) % 4))) = pairD s ring (((s + j) % 4 : Nat) : Int) := by
  have hp : (s + j) % 4 < 4 := Nat.mod_lt _ (by decide)
  unfold pairD rowD rowS
  rw [Int.toNat_natCast]
  have hl : lastN s ((s + j) % 4) = 16 + j := congrArg (16 + ·) (turn_back s hs j hj)
  rw [hl]
  unfold letK
  by_cases h : (16 + j) % 2 = 0
  · rw [if_pos h, if_pos h, item_low _ (lt4 hp)]
  · rw [if_neg h, if_neg h, item_upp _ (lt4 hp)]
theorem es_E4 {told : List Int} (hl : told.length = 9) : ((runK (told ++ [0]) 20).1.map rowS).map rowD = (List.range 4).map fun k => pairD (pickOf (runK (told ++ [0]) 20).2 16) (runR told 20).1 (((pickOf (runK (told ++ [0]) 20).2 16 + k) % 4 : Nat) : Int) := by
  obtain ⟨h16, hgo⟩ := go_round (es_P3 (told ++ [0]))
  have hsame := (run_same (told_get hl) 20).1
  rw [rows_end (told ++ [0]) h16 (fun j hj => by rw [← hgo j hj, pick_at _ (by lia)])]
  rw [List.map_map, List.map_map]
  refine List.map_congr_left fun j hj => ?_
  have hj4 : j < 4 := List.mem_range.mp hj
  show rowD (rowS (letK (16 + j) _, (HK (told ++ [0]) 20).getD _ 0)) = _
  rw [show HK (told ++ [0]) 20 = heldR (runR told 20).1 from hsame, heldR_get (Nat.mod_lt _ (by decide))]
  exact pair_row h16 hj4
end Mine
end PartPL
section PartL2
open PySem PySem.W PyProof.Rows PySem.Spec PySem.Calls

set_option maxRecDepth 100000
set_option maxHeartbeats 8000000
namespace Mine
local macro_rules | `(tactic| k_qdec) => `(tactic| decide +kernel)
theorem X : PySem.Challenge.rw_sr0074_02.Holds := by
  refine holds_law HD.said2 fun said => ?_
  refine holds_open (q := hd02.view_39) (loose := loose2) (Xt := fun s => xlAt hd02.view_39 [] s && recOk (RowW.records PySem.Challenge.rw_sr0074_02.row.toRowW) s) (XP := XL hd02.view_39 []) (Yf := Hook.obs (kHook hd02.heap_39 as2 (fun _ => by kernel_rfl))) (Ya := Hook.val (kHook hd02.heap_39 as2 (fun _ => by kernel_rfl))) (YP := Hook.says (kHook hd02.heap_39 as2 (fun _ => by kernel_rfl))) (N := 6202) HD.left2 (Hook.of (kHook hd02.heap_39 as2 (fun _ => by kernel_rfl))) (Hook.keeps (kHook hd02.heap_39 as2 (fun _ => by kernel_rfl))) (fun s e => xl_of s (Bool.and_eq_true_iff.mp e).1) XL.keeps (by rfl) (by rfl) (by rfl) (fun s e => recFacts_of (Bool.and_eq_true_iff.mp e).2) (by rfl) said HD.oks2 HD.bare2 HD.wit2 ?hc
  clear said
  k_with_none
  k_with "nX" => (first | exact ltA0 ‹_› | exact ltA1 ‹_› | exact ltA2 ‹_› | exact ltA3 ‹_› | exact ltA4 ‹_› | exact ltA5 ‹_› | exact ltA6 ‹_› | exact ltA7 ‹_› | exact ltA8 ‹_› | exact ltA9 ‹_› | exact ltA10 ‹_› | exact ltA11 ‹_› | exact ltA12 ‹_› | exact ltA13 ‹_› | exact neA0 ‹_› | exact neA1 ‹_› | exact neA2 ‹_› | exact neA3 ‹_› | exact neA4 ‹_› | exact neA5 ‹_› | exact neA6 ‹_› | exact neA7 ‹_› | exact neA8 ‹_› | exact neA9 ‹_› | exact neA10 ‹_› | exact neA11 ‹_› | exact neA12 ‹_›)
  k_with "k_ne" => (first | k_extra "nX" | (refine Ne.symm ?_; k_extra "nX"))
  k_with "k_room" => (ktr_room)
  k_with "w call ref" => (k_extra "halt call"; refine halt ?_)
  k_with "w CompSrc" => (k_extra "halt src"; refine halt ?_)
  k_with "w CompSrcT" => (k_extra "halt src"; refine halt ?_)
  k_with "w subscriptTail" => (k_extra "halt any"; refine halt ?_)
  k_with "w subscriptTail Subscript Constant ref int" => (k_extra "halt any"; refine halt ?_)
  k_with "w subscriptTail Name Constant ref int" => (k_extra "halt any"; refine halt ?_)
  k_with "w compareOp NotEq ref ref" => (k_extra "halt cmp"; refine halt ?_)
  k_with "w compareOp Eq ref ref" => (k_extra "halt cmp"; refine halt ?_)
  k_with "w call builtin:len" => (k_extra "halt len"; refine halt ?_)
  k_with "w eval Name" => (k_here; k_extra "built"; k_dflt (refine LCgL.ld_built (by k_asm) (by k_asm) (by k_asm) (by k_is) (by boot_by_name) (by decide) ?_))
  k_with "k_all" => (first | exact List.forall_mem_nil _ | (refine' List.forall_mem_cons.mpr ⟨?zqa, ?zqb⟩; (case zqa => k_ne); (case zqb => k_all)) | assumption | exact al3s ‹_› | exact al0 ‹_› | exact al1 ‹_› | exact al2 ‹_› | exact al3 ‹_› | exact al4 ‹_› | exact al5 ‹_› | exact al6 ‹_› | exact al7 ‹_› | exact al8 ‹_› | exact al9 ‹_› | exact al10 ‹_› | exact al11 ‹_› | exact of2 ‹_›)
  k_with "w eval ListComp" => (k_here; k_extra "comp t"; (with_unfolding_all refine' LCt.ListComp_T (F₀ := by k_asm) ?zqa ?zqb ?zqc ?zqd ?zqe ?_); (case zqa => with_unfolding_all rfl); (case zqb => with_unfolding_all decide); (case zqc => with_unfolding_all rfl); (case zqd => with_unfolding_all decide); (case zqe => with_unfolding_all rfl))
  k_with "w eval ListComp" => (k_here; k_extra "comp u"; (with_unfolding_all refine' LCg.ListComp_U (F₀ := by k_asm) ?zqa ?zqb ?zqc ?zqd ?zqe ?_); (case zqa => with_unfolding_all rfl); (case zqb => with_unfolding_all decide); (case zqc => with_unfolding_all rfl); (case zqd => with_unfolding_all decide); (case zqe => with_unfolding_all rfl))
  k_go0
  (try k_fold)
  refine hideI ?_
  intro Q0 eQ0
  (rename IntsAre _ _ => hI)
  (rename Heap.IsList _ _ _ => hLs)
  (rename Shared.gens _ = #[] => hgens)
  (try ((rename Dflts _ _ _ => q1); clear q1))
  (try ((rename CellsAre _ _ _ => q1); clear q1))
  (try ((rename Heap.CodeRec _ _ _ => q1); clear q1))
  (try ((rename Heap.CodeRec _ _ _ _ => q1); clear q1))
  (try ((rename ReadsAllW _ _ _ _ _ _ => q1); clear q1))
  (try ((rename ReadsAll _ _ _ _ => q1); clear q1))
  (try ((rename Well _ _ _ _ => q1); clear q1))
  (try ((rename Reads _ _ _ _ => q1); clear q1))
  (try ((rename BMod _ _ _ _ _ => q1); clear q1))
  (try ((rename Ground _ _ _ _ _ _ _ _ _ => q1); clear q1))
  (try ((rename Glob _ _ _ _ _ _ _ => q1); clear q1))
  (try ((rename TopE _ _ _ _ => q1); clear q1))
  (try ((rename TopW _ _ _ => q1); clear q1))
  (try ((rename Tables _ _ _ _ => q1); clear q1))
  (try ((rename LooseAre _ _ _ => q1); clear q1))
  k_with "halt call" => skip
  k_steps
  refine unhalt ?_
  (rename News _ _ _ _ => nA)
  refine' Tell.use (c_numbers _ _ _ _ _ hI ?za0) ?za1 ?za2 ?za3 nA ?za5 ?za6 ?zab ?za8 ?za9 ?_
  case za0 => omega
  case zab => exact hLs
  case za1 => k_asm
  case za2 => k_asm
  case za3 => k_asm
  case za5 => k_asm
  case za6 => first | exact rfl | assumption
  case za8 => first | ktr_room | decide
  case za9 => first | ktr_units | decide
  intro aT us nT told hT1 hT2 hT3 hT4 r9 h9 tk9 hr9 F9 N9
  subst hr9
  clear nA
  (try dsimp only)
  (try k_fold)
  k_steps
  refine unhalt ?_
  (rename News _ _ _ _ => nA)
  refine' Tell.use (c_tape _ _ _ _ _ _ hT1 ?zb0 hT2 hT3) ?zb1 ?zb2 ?zb3 nA ?zb5 ?zb6 trivial ?zb8 ?zb9 ?_
  case zb0 => k_mem
  case zb1 => k_asm
  case zb2 => k_asm
  case zb3 => k_asm
  case zb5 => k_asm
  case zb6 => first | exact rfl | assumption
  case zb8 => first | ktr_room | decide
  case zb9 => first | ktr_units | decide
  intro oct hS hSl r9 h9 tk9 hr9 F9 N9
  obtain ⟨tB, e9⟩ := hr9
  subst e9
  clear nA
  (try dsimp only)
  (try k_fold)
  k_steps
  refine unhalt ?_
  (rename News _ _ _ _ => nA)
  refine' Tell0.use (c_read _ _ _ _ _ hS hT2 hT3) ?zc1 ?zc2 ?zc3 nA ?zc5 ?zc6 ?zcc ?zcd ?zc8 ?zc9 ?_
  case zc1 => k_asm
  case zc2 => k_asm
  case zc3 => k_asm
  case zc5 => k_asm
  case zc6 => first | exact rfl | assumption
  case zcc => k_asm
  case zcd => k_asm
  case zc8 => first | ktr_room | decide
  case zc9 => first | ktr_units | decide
  intro aR us2 nR hR1 hR2 r9 h9 tk9 hr9 F9 N9
  subst hr9
  clear hSl
  clear nA
  (try dsimp only)
  (try k_fold)
  k_steps
  refine unhalt ?_
  (rename News _ _ _ _ => nA)
  refine' TellS.use (c_kinds _ _ _ _ _ _ ?zd0 hT1 hT2) ?zd1 ?zd2 ?zd3 nA ?zd5 ?zd6 trivial ?zd8 ?zd9 ?_
  case zd0 => k_mem
  case zd1 => k_asm
  case zd2 => k_asm
  case zd3 => k_asm
  case zd5 => k_asm
  case zd6 => first | exact rfl | assumption
  case zd8 => first | ktr_room | decide
  case zd9 => first | ktr_units | decide
  intro r9 h9 tk9 hr9 F9 N9
  subst hr9
  clear nA
  (try dsimp only)
  (try k_fold)
  k_steps
  refine unhalt ?_
  (rename News _ _ _ _ => nA)
  refine' Tell.use (c_new _ _) ?ze1 ?ze2 ?ze3 (news_sub nA (fun p hp => List.Mem.tail _ (List.Mem.tail _ hp))) ?ze5 ?ze6 trivial ?ze8 ?ze9 ?_
  case ze1 => k_asm
  case ze2 => k_asm
  case ze3 => k_asm
  case ze5 => k_asm
  case ze6 => first | exact rfl | assumption
  case ze8 => first | ktr_room | decide
  case ze9 => first | ktr_units | decide
  intro tx td0 tH tdt hTb r9 h9 tk9 hr9 F9 N9
  subst hr9
  clear nA
  (try dsimp only)
  (try k_fold)
  k_steps
  have hbR := run_bounds hT3
  have hlR : (told ++ [0]).length = 10 := by rw [List.length_append, hT2]; rfl
  have hO1 := hTb.off
  refine unhalt ?_
  (rename News _ _ _ _ => nA)
  refine' Tell.use (c_run _ _ _ _ _ _ _ _ _ _ _ _ ⟨.nil, fun _ h => nomatch h⟩ ⟨hO1.1, hO1.2.1, hO1.2.2.1⟩ (Off.of1 hO1.2.2.2) hR1 hlR hbR) ?zf1 ?zf2 ?zf3 nA ?zf5 ?zf6 trivial ?zf8 ?zf9 ?_
  case zf1 => k_asm
  case zf2 => k_asm
  case zf3 => k_asm
  case zf5 => k_asm
  case zf6 => first | exact rfl | assumption
  case zf8 => first | ktr_room | decide
  case zf9 => first | ktr_units | decide
  intro lg usL nL T9 vs9 n9 nw9 hTD hTs hDL hNoff hlgH r9 h9 tk9 hr9 F9 N9
  subst hr9
  clear nA
  (try dsimp only)
  (try k_fold)
  (rename News _ _ _ _ => nB)
  obtain ⟨nw2, nC, hnH, hn1, hn2, hDW, hne1, hne2⟩ := run_end nB (by assumption) (by assumption) hNoff hlgH hO1
  have hTD2 : TbD nw2 vs9 ((runK (told ++ [0]) 20).1.map rowS) := ⟨hDW _ _ (hTD.dat.mono hTs), hTD.len⟩
  have hDL2 := hDW _ _ hDL
  obtain ⟨hz1, hz2, hz3, hz4, hz5, hz6⟩ := hne1
  obtain ⟨hy1, hy2, hy3, hy4, hy5, hy6⟩ := hne2
  clear nB hTD hTs hDL hNoff hDW hTb hS
  k_with "comp t" => skip
  k_with "halt src" => skip
  have hEl : (runK (told ++ [0]) 20).2.length = 20 := runK_len _ _
  have hP0 := es_P0 (told ++ [0])
  have hP1 := es_P1 (told ++ [0])
  have hP2 := es_P2 (told ++ [0])
  have hP3 := es_P3 (told ++ [0])
  generalize hes : (runK (told ++ [0]) 20).2 = es at hDL2 hEl hP0 hP1 hP2 hP3
  k_steps
  refine unhalt ?_
  (rename IsRange _ _ _ _ _ _ _ _ => rgA)
  refine' LCt.CompSrcT.range (by rfl) (by k_asm) (by k_asm) rgA (by rfl) (by rfl) (by decide) ?_
  intro g7
  refine comp_invT (fun i ys nw => nw = _ ∧ ys = []) 19 ?_ ?_ _ 0 [] _ (by rfl) ⟨rfl, rfl⟩
  · rintro i v I oI Cn oC D m₂ h tk ys nw9 E' hj ⟨tj, rfl⟩ ⟨rfl, rfl⟩ ho hx F9 N9 off9 ne9
    k_with_none
    k_with "nX" => (first | exact ltA0 ‹_› | exact ltA1 ‹_› | exact ltA2 ‹_› | exact ltA3 ‹_› | exact ltA4 ‹_› | exact ltA5 ‹_› | exact ltA6 ‹_› | exact ltA7 ‹_› | exact ltA8 ‹_› | exact ltA9 ‹_› | exact ltA10 ‹_› | exact ltA11 ‹_› | exact ltA12 ‹_› | exact ltA13 ‹_› | exact neA0 ‹_› | exact neA1 ‹_› | exact neA2 ‹_› | exact neA3 ‹_› | exact neA4 ‹_› | exact neA5 ‹_› | exact neA6 ‹_› | exact neA7 ‹_› | exact neA8 ‹_› | exact neA9 ‹_› | exact neA10 ‹_› | exact neA11 ‹_› | exact neA12 ‹_›)
    k_with "k_ne" => (first | k_extra "nX" | (refine Ne.symm ?_; k_extra "nX"))
    k_with "k_room" => (ktr_room)
    k_with "w call ref" => (k_extra "halt call"; refine halt ?_)
    k_with "w CompSrc" => (k_extra "halt src"; refine halt ?_)
    k_with "w CompSrcT" => (k_extra "halt src"; refine halt ?_)
    k_with "w subscriptTail" => (k_extra "halt any"; refine halt ?_)
    k_with "w subscriptTail Subscript Constant ref int" => (k_extra "halt any"; refine halt ?_)
    k_with "w subscriptTail Name Constant ref int" => (k_extra "halt any"; refine halt ?_)
    k_with "w compareOp NotEq ref ref" => (k_extra "halt cmp"; refine halt ?_)
    k_with "w compareOp Eq ref ref" => (k_extra "halt cmp"; refine halt ?_)
    k_with "w call builtin:len" => (k_extra "halt len"; refine halt ?_)
    k_with "w eval Name" => (k_here; k_extra "built"; k_dflt (refine LCgL.ld_built (by k_asm) (by k_asm) (by k_asm) (by k_is) (by boot_by_name) (by decide) ?_))
    k_with "k_all" => (first | exact List.forall_mem_nil _ | (refine' List.forall_mem_cons.mpr ⟨?zqa, ?zqb⟩; (case zqa => k_ne); (case zqb => k_all)) | assumption | exact al3s ‹_› | exact al0 ‹_› | exact al1 ‹_› | exact al2 ‹_› | exact al3 ‹_› | exact al4 ‹_› | exact al5 ‹_› | exact al6 ‹_› | exact al7 ‹_› | exact al8 ‹_› | exact al9 ‹_› | exact al10 ‹_› | exact al11 ‹_› | exact of2 ‹_›)
    k_with "w eval ListComp" => (k_here; k_extra "comp t"; (with_unfolding_all refine' LCt.ListComp_T (F₀ := by k_asm) ?zqa ?zqb ?zqc ?zqd ?zqe ?_); (case zqa => with_unfolding_all rfl); (case zqb => with_unfolding_all decide); (case zqc => with_unfolding_all rfl); (case zqd => with_unfolding_all decide); (case zqe => with_unfolding_all rfl))
    k_with "w eval ListComp" => (k_here; k_extra "comp u"; (with_unfolding_all refine' LCg.ListComp_U (F₀ := by k_asm) ?zqa ?zqb ?zqc ?zqd ?zqe ?_); (case zqa => with_unfolding_all rfl); (case zqb => with_unfolding_all decide); (case zqc => with_unfolding_all rfl); (case zqd => with_unfolding_all decide); (case zqe => with_unfolding_all rfl))
    k_with "halt any" => skip
    k_with "halt len" => skip
    k_with "built" => skip
    k_steps
    refine unhalt ?_
    (rename News _ _ _ _ => nA)
    refine' log_itemM nA ?xa1 hDL2 ?xa2 (i + 1) ?xa3 ?xa4 ?xa5 ?_ ?xa6
    case xa1 => k_mem
    case xa2 => (intro q hq; repeat (first | exact hq | refine List.Mem.tail _ ?_))
    case xa3 => omega
    case xa4 => (rw [hEl]; omega)
    case xa5 => omega
    case xa6 => with_unfolding_all rfl
    intro xaa xaM xav xaV xan xat xau xah1 xah2 xah3
    (try k_fold)
    k_steps
    refine unhalt ?_
    (rename News _ _ _ _ => nA)
    refine' tup_at (v := .ref xaM) nA xah1 ?xb1 ?xb2 ?xb3 ?xb4 ?_ ?xb5
    case xb1 => decide
    case xb2 => decide
    case xb3 => exact Int.lt_of_lt_of_le (by decide) (Int.le_refl 3)
    case xb4 => rfl
    case xb5 => with_unfolding_all rfl
    (try k_fold)
    k_steps
    refine unhalt ?_
    (rename News _ _ _ _ => nA)
    refine' my_len nA xah2 xah3 ?xc1 ?_
    case xc1 => (rw [List.length_map]; have h0 := hP0 (i + 1) (by omega); omega)
    (try k_fold)
    k_steps
    refine unhalt ?_
    (rename News _ _ _ _ => nA)
    refine' log_itemM nA ?xd1 hDL2 ?xd2 (i) ?xd3 ?xd4 ?xd5 ?_ ?xd6
    case xd1 => k_mem
    case xd2 => (intro q hq; repeat (first | exact hq | refine List.Mem.tail _ ?_))
    case xd3 => omega
    case xd4 => (rw [hEl]; omega)
    case xd5 => omega
    case xd6 => with_unfolding_all rfl
    intro xda xdM xdv xdV xdn xdt xdu xdh1 xdh2 xdh3
    (try k_fold)
    k_steps
    refine unhalt ?_
    (rename News _ _ _ _ => nA)
    refine' tup_at (v := .ref xdM) nA xdh1 ?xe1 ?xe2 ?xe3 ?xe4 ?_ ?xe5
    case xe1 => decide
    case xe2 => decide
    case xe3 => exact Int.lt_of_lt_of_le (by decide) (Int.le_refl 3)
    case xe4 => rfl
    case xe5 => with_unfolding_all rfl
    (try k_fold)
    k_steps
    refine unhalt ?_
    (rename News _ _ _ _ => nA)
    refine' my_len nA xdh2 xdh3 ?xf1 ?_
    case xf1 => (rw [List.length_map]; have h0 := hP0 (i) (by omega); omega)
    (try k_fold)
    k_steps
    · exfalso
      (rename @LT.lt Int _ _ _ => hc)
      rw [List.length_map, List.length_map] at hc
      have h0 := hP1 i (by omega)
      omega
    · refine LCg.CompEnd.intro (by k_asm) (by assumption) _ ?xg off9 trivial ⟨rfl, rfl⟩
      kqd_sub
  · rintro ysA nwA ⟨rfl, rfl⟩
    k_with_none
    k_with "nX" => (first | exact ltA0 ‹_› | exact ltA1 ‹_› | exact ltA2 ‹_› | exact ltA3 ‹_› | exact ltA4 ‹_› | exact ltA5 ‹_› | exact ltA6 ‹_› | exact ltA7 ‹_› | exact ltA8 ‹_› | exact ltA9 ‹_› | exact ltA10 ‹_› | exact ltA11 ‹_› | exact ltA12 ‹_› | exact ltA13 ‹_› | exact neA0 ‹_› | exact neA1 ‹_› | exact neA2 ‹_› | exact neA3 ‹_› | exact neA4 ‹_› | exact neA5 ‹_› | exact neA6 ‹_› | exact neA7 ‹_› | exact neA8 ‹_› | exact neA9 ‹_› | exact neA10 ‹_› | exact neA11 ‹_› | exact neA12 ‹_›)
    k_with "k_ne" => (first | k_extra "nX" | (refine Ne.symm ?_; k_extra "nX"))
    k_with "k_room" => (ktr_room)
    k_with "w call ref" => (k_extra "halt call"; refine halt ?_)
    k_with "w CompSrc" => (k_extra "halt src"; refine halt ?_)
    k_with "w CompSrcT" => (k_extra "halt src"; refine halt ?_)
    k_with "w subscriptTail" => (k_extra "halt any"; refine halt ?_)
    k_with "w subscriptTail Subscript Constant ref int" => (k_extra "halt any"; refine halt ?_)
    k_with "w subscriptTail Name Constant ref int" => (k_extra "halt any"; refine halt ?_)
    k_with "w compareOp NotEq ref ref" => (k_extra "halt cmp"; refine halt ?_)
    k_with "w compareOp Eq ref ref" => (k_extra "halt cmp"; refine halt ?_)
    k_with "w call builtin:len" => (k_extra "halt len"; refine halt ?_)
    k_with "w eval Name" => (k_here; k_extra "built"; k_dflt (refine LCgL.ld_built (by k_asm) (by k_asm) (by k_asm) (by k_is) (by boot_by_name) (by decide) ?_))
    k_with "k_all" => (first | exact List.forall_mem_nil _ | (refine' List.forall_mem_cons.mpr ⟨?zqa, ?zqb⟩; (case zqa => k_ne); (case zqb => k_all)) | assumption | exact al3s ‹_› | exact al0 ‹_› | exact al1 ‹_› | exact al2 ‹_› | exact al3 ‹_› | exact al4 ‹_› | exact al5 ‹_› | exact al6 ‹_› | exact al7 ‹_› | exact al8 ‹_› | exact al9 ‹_› | exact al10 ‹_› | exact al11 ‹_› | exact of2 ‹_›)
    k_with "w eval ListComp" => (k_here; k_extra "comp t"; (with_unfolding_all refine' LCt.ListComp_T (F₀ := by k_asm) ?zqa ?zqb ?zqc ?zqd ?zqe ?_); (case zqa => with_unfolding_all rfl); (case zqb => with_unfolding_all decide); (case zqc => with_unfolding_all rfl); (case zqd => with_unfolding_all decide); (case zqe => with_unfolding_all rfl))
    k_with "w eval ListComp" => (k_here; k_extra "comp u"; (with_unfolding_all refine' LCg.ListComp_U (F₀ := by k_asm) ?zqa ?zqb ?zqc ?zqd ?zqe ?_); (case zqa => with_unfolding_all rfl); (case zqb => with_unfolding_all decide); (case zqc => with_unfolding_all rfl); (case zqd => with_unfolding_all decide); (case zqe => with_unfolding_all rfl))
    k_with "comp t" => skip
    k_with "halt src" => skip
    k_steps
    refine unhalt ?_
    (rename IsRange _ _ _ _ _ _ _ _ => rgB)
    refine' LCt.CompSrcT.range (by rfl) (by k_asm) (by k_asm) rgB (by rfl) (by rfl) (by decide) ?_
    intro g8
    refine comp_invT (fun i ys nw => nw = _ ∧ ys = []) 7 ?_ ?_ _ 0 [] _ (by rfl) ⟨rfl, rfl⟩
    · rintro i v I oI Cn oC D m₂ h tk ys nw9 E' hj ⟨tj, rfl⟩ ⟨rfl, rfl⟩ ho hx F9 N9 off9 ne9
      k_with_none
      k_with "nX" => (first | exact ltA0 ‹_› | exact ltA1 ‹_› | exact ltA2 ‹_› | exact ltA3 ‹_› | exact ltA4 ‹_› | exact ltA5 ‹_› | exact ltA6 ‹_› | exact ltA7 ‹_› | exact ltA8 ‹_› | exact ltA9 ‹_› | exact ltA10 ‹_› | exact ltA11 ‹_› | exact ltA12 ‹_› | exact ltA13 ‹_› | exact neA0 ‹_› | exact neA1 ‹_› | exact neA2 ‹_› | exact neA3 ‹_› | exact neA4 ‹_› | exact neA5 ‹_› | exact neA6 ‹_› | exact neA7 ‹_› | exact neA8 ‹_› | exact neA9 ‹_› | exact neA10 ‹_› | exact neA11 ‹_› | exact neA12 ‹_›)
      k_with "k_ne" => (first | k_extra "nX" | (refine Ne.symm ?_; k_extra "nX"))
      k_with "k_room" => (ktr_room)
      k_with "w call ref" => (k_extra "halt call"; refine halt ?_)
      k_with "w CompSrc" => (k_extra "halt src"; refine halt ?_)
      k_with "w CompSrcT" => (k_extra "halt src"; refine halt ?_)
      k_with "w subscriptTail" => (k_extra "halt any"; refine halt ?_)
      k_with "w subscriptTail Subscript Constant ref int" => (k_extra "halt any"; refine halt ?_)
      k_with "w subscriptTail Name Constant ref int" => (k_extra "halt any"; refine halt ?_)
      k_with "w compareOp NotEq ref ref" => (k_extra "halt cmp"; refine halt ?_)
      k_with "w compareOp Eq ref ref" => (k_extra "halt cmp"; refine halt ?_)
      k_with "w call builtin:len" => (k_extra "halt len"; refine halt ?_)
      k_with "w eval Name" => (k_here; k_extra "built"; k_dflt (refine LCgL.ld_built (by k_asm) (by k_asm) (by k_asm) (by k_is) (by boot_by_name) (by decide) ?_))
      k_with "k_all" => (first | exact List.forall_mem_nil _ | (refine' List.forall_mem_cons.mpr ⟨?zqa, ?zqb⟩; (case zqa => k_ne); (case zqb => k_all)) | assumption | exact al3s ‹_› | exact al0 ‹_› | exact al1 ‹_› | exact al2 ‹_› | exact al3 ‹_› | exact al4 ‹_› | exact al5 ‹_› | exact al6 ‹_› | exact al7 ‹_› | exact al8 ‹_› | exact al9 ‹_› | exact al10 ‹_› | exact al11 ‹_› | exact of2 ‹_›)
      k_with "w eval ListComp" => (k_here; k_extra "comp t"; (with_unfolding_all refine' LCt.ListComp_T (F₀ := by k_asm) ?zqa ?zqb ?zqc ?zqd ?zqe ?_); (case zqa => with_unfolding_all rfl); (case zqb => with_unfolding_all decide); (case zqc => with_unfolding_all rfl); (case zqd => with_unfolding_all decide); (case zqe => with_unfolding_all rfl))
      k_with "w eval ListComp" => (k_here; k_extra "comp u"; (with_unfolding_all refine' LCg.ListComp_U (F₀ := by k_asm) ?zqa ?zqb ?zqc ?zqd ?zqe ?_); (case zqa => with_unfolding_all rfl); (case zqb => with_unfolding_all decide); (case zqc => with_unfolding_all rfl); (case zqd => with_unfolding_all decide); (case zqe => with_unfolding_all rfl))
      k_with "halt any" => skip
      k_steps
      refine unhalt ?_
      (rename News _ _ _ _ => nA)
      refine' log_itemM nA ?xh1 hDL2 ?xh2 (i + 13) ?xh3 ?xh4 ?xh5 ?_ ?xh6
      case xh1 => k_mem
      case xh2 => (intro q hq; repeat (first | exact hq | refine List.Mem.tail _ ?_))
      case xh3 => omega
      case xh4 => (rw [hEl]; omega)
      case xh5 => omega
      case xh6 => with_unfolding_all rfl
      intro xha xhM xhv xhV xhn xht xhu xhh1 xhh2 xhh3
      (try k_fold)
      k_steps
      refine unhalt ?_
      (rename News _ _ _ _ => nA)
      refine' tup_at (v := .ref xhM) nA xhh1 ?xi1 ?xi2 ?xi3 ?xi4 ?_ ?xi5
      case xi1 => decide
      case xi2 => decide
      case xi3 => exact Int.lt_of_lt_of_le (by decide) (Int.le_refl 3)
      case xi4 => rfl
      case xi5 => with_unfolding_all rfl
      (try k_fold)
      k_steps
      refine unhalt ?_
      (rename News _ _ _ _ => nA)
      refine' log_itemM nA ?xj1 hDL2 ?xj2 (i + 13) ?xj3 ?xj4 ?xj5 ?_ ?xj6
      case xj1 => k_mem
      case xj2 => (intro q hq; repeat (first | exact hq | refine List.Mem.tail _ ?_))
      case xj3 => omega
      case xj4 => (rw [hEl]; omega)
      case xj5 => omega
      case xj6 => with_unfolding_all rfl
      intro xja xjM xjv xjV xjn xjt xju xjh1 xjh2 xjh3
      (try k_fold)
      k_steps
      refine unhalt ?_
      (rename News _ _ _ _ => nA)
      refine' tup_at (v := .int ((pickOf es (i + 13) : Nat) : Int) xjt) nA xjh1 ?xk1 ?xk2 ?xk3 ?xk4 ?_ ?xk5
      case xk1 => decide
      case xk2 => decide
      case xk3 => exact Int.lt_of_lt_of_le (by decide) (Int.le_refl 3)
      case xk4 => rfl
      case xk5 => with_unfolding_all rfl
      (try k_fold)
      k_steps
      show wpAny _ _ _ _ _ _
      (rename News _ _ _ _ => nE)
      refine' ne_same (ys := [.int ((pickOf es (i + 13) : Nat) : Int) xjt]) nE ?y1 (one_may xhh3 (hP2 (i + 13) (by omega) (by omega))) no_off ?y2 (.cons (.int _ _) .nil) no_off (int_ok _) ?y3 ?_
      case y1 => exact .tail _ xhh2
      case y2 => k_mem
      case y3 => first | ktr_units | ke_room | decide
      (try k_fold)
      k_steps
      refine LCg.CompEnd.intro (by k_asm) (by assumption) _ ?xl off9 trivial ⟨rfl, rfl⟩
      kqd_sub
    · rintro ysB nwB ⟨rfl, rfl⟩
      k_with_none
      k_with "nX" => (first | exact ltA0 ‹_› | exact ltA1 ‹_› | exact ltA2 ‹_› | exact ltA3 ‹_› | exact ltA4 ‹_› | exact ltA5 ‹_› | exact ltA6 ‹_› | exact ltA7 ‹_› | exact ltA8 ‹_› | exact ltA9 ‹_› | exact ltA10 ‹_› | exact ltA11 ‹_› | exact ltA12 ‹_› | exact ltA13 ‹_› | exact neA0 ‹_› | exact neA1 ‹_› | exact neA2 ‹_› | exact neA3 ‹_› | exact neA4 ‹_› | exact neA5 ‹_› | exact neA6 ‹_› | exact neA7 ‹_› | exact neA8 ‹_› | exact neA9 ‹_› | exact neA10 ‹_› | exact neA11 ‹_› | exact neA12 ‹_›)
      k_with "k_ne" => (first | k_extra "nX" | (refine Ne.symm ?_; k_extra "nX"))
      k_with "k_room" => (ktr_room)
      k_with "w call ref" => (k_extra "halt call"; refine halt ?_)
      k_with "w CompSrc" => (k_extra "halt src"; refine halt ?_)
      k_with "w CompSrcT" => (k_extra "halt src"; refine halt ?_)
      k_with "w subscriptTail" => (k_extra "halt any"; refine halt ?_)
      k_with "w subscriptTail Subscript Constant ref int" => (k_extra "halt any"; refine halt ?_)
      k_with "w subscriptTail Name Constant ref int" => (k_extra "halt any"; refine halt ?_)
      k_with "w compareOp NotEq ref ref" => (k_extra "halt cmp"; refine halt ?_)
      k_with "w compareOp Eq ref ref" => (k_extra "halt cmp"; refine halt ?_)
      k_with "w call builtin:len" => (k_extra "halt len"; refine halt ?_)
      k_with "w eval Name" => (k_here; k_extra "built"; k_dflt (refine LCgL.ld_built (by k_asm) (by k_asm) (by k_asm) (by k_is) (by boot_by_name) (by decide) ?_))
      k_with "k_all" => (first | exact List.forall_mem_nil _ | (refine' List.forall_mem_cons.mpr ⟨?zqa, ?zqb⟩; (case zqa => k_ne); (case zqb => k_all)) | assumption | exact al3s ‹_› | exact al0 ‹_› | exact al1 ‹_› | exact al2 ‹_› | exact al3 ‹_› | exact al4 ‹_› | exact al5 ‹_› | exact al6 ‹_› | exact al7 ‹_› | exact al8 ‹_› | exact al9 ‹_› | exact al10 ‹_› | exact al11 ‹_› | exact of2 ‹_›)
      k_with "w eval ListComp" => (k_here; k_extra "comp t"; (with_unfolding_all refine' LCt.ListComp_T (F₀ := by k_asm) ?zqa ?zqb ?zqc ?zqd ?zqe ?_); (case zqa => with_unfolding_all rfl); (case zqb => with_unfolding_all decide); (case zqc => with_unfolding_all rfl); (case zqd => with_unfolding_all decide); (case zqe => with_unfolding_all rfl))
      k_with "w eval ListComp" => (k_here; k_extra "comp u"; (with_unfolding_all refine' LCg.ListComp_U (F₀ := by k_asm) ?zqa ?zqb ?zqc ?zqd ?zqe ?_); (case zqa => with_unfolding_all rfl); (case zqb => with_unfolding_all decide); (case zqc => with_unfolding_all rfl); (case zqd => with_unfolding_all decide); (case zqe => with_unfolding_all rfl))
      k_with "comp t" => skip
      k_with "halt src" => skip
      k_steps
      refine unhalt ?_
      (rename IsRange _ _ _ _ _ _ _ _ => rgC)
      refine' LCt.CompSrcT.range (by rfl) (by k_asm) (by k_asm) rgC (by rfl) (by rfl) (by decide) ?_
      intro g9
      refine comp_invT (fun i ys nw => nw = _ ∧ ys = []) 6 ?_ ?_ _ 0 [] _ (by rfl) ⟨rfl, rfl⟩
      · rintro i v I oI Cn oC D m₂ h tk ys nw9 E' hj ⟨tj, rfl⟩ ⟨rfl, rfl⟩ ho hx F9 N9 off9 ne9
        k_with_none
        k_with "nX" => (first | exact ltA0 ‹_› | exact ltA1 ‹_› | exact ltA2 ‹_› | exact ltA3 ‹_› | exact ltA4 ‹_› | exact ltA5 ‹_› | exact ltA6 ‹_› | exact ltA7 ‹_› | exact ltA8 ‹_› | exact ltA9 ‹_› | exact ltA10 ‹_› | exact ltA11 ‹_› | exact ltA12 ‹_› | exact ltA13 ‹_› | exact neA0 ‹_› | exact neA1 ‹_› | exact neA2 ‹_› | exact neA3 ‹_› | exact neA4 ‹_› | exact neA5 ‹_› | exact neA6 ‹_› | exact neA7 ‹_› | exact neA8 ‹_› | exact neA9 ‹_› | exact neA10 ‹_› | exact neA11 ‹_› | exact neA12 ‹_›)
        k_with "k_ne" => (first | k_extra "nX" | (refine Ne.symm ?_; k_extra "nX"))
        k_with "k_room" => (ktr_room)
        k_with "w call ref" => (k_extra "halt call"; refine halt ?_)
        k_with "w CompSrc" => (k_extra "halt src"; refine halt ?_)
        k_with "w CompSrcT" => (k_extra "halt src"; refine halt ?_)
        k_with "w subscriptTail" => (k_extra "halt any"; refine halt ?_)
        k_with "w subscriptTail Subscript Constant ref int" => (k_extra "halt any"; refine halt ?_)
        k_with "w subscriptTail Name Constant ref int" => (k_extra "halt any"; refine halt ?_)
        k_with "w compareOp NotEq ref ref" => (k_extra "halt cmp"; refine halt ?_)
        k_with "w compareOp Eq ref ref" => (k_extra "halt cmp"; refine halt ?_)
        k_with "w call builtin:len" => (k_extra "halt len"; refine halt ?_)
        k_with "w eval Name" => (k_here; k_extra "built"; k_dflt (refine LCgL.ld_built (by k_asm) (by k_asm) (by k_asm) (by k_is) (by boot_by_name) (by decide) ?_))
        k_with "k_all" => (first | exact List.forall_mem_nil _ | (refine' List.forall_mem_cons.mpr ⟨?zqa, ?zqb⟩; (case zqa => k_ne); (case zqb => k_all)) | assumption | exact al3s ‹_› | exact al0 ‹_› | exact al1 ‹_› | exact al2 ‹_› | exact al3 ‹_› | exact al4 ‹_› | exact al5 ‹_› | exact al6 ‹_› | exact al7 ‹_› | exact al8 ‹_› | exact al9 ‹_› | exact al10 ‹_› | exact al11 ‹_› | exact of2 ‹_›)
        k_with "w eval ListComp" => (k_here; k_extra "comp t"; (with_unfolding_all refine' LCt.ListComp_T (F₀ := by k_asm) ?zqa ?zqb ?zqc ?zqd ?zqe ?_); (case zqa => with_unfolding_all rfl); (case zqb => with_unfolding_all decide); (case zqc => with_unfolding_all rfl); (case zqd => with_unfolding_all decide); (case zqe => with_unfolding_all rfl))
        k_with "w eval ListComp" => (k_here; k_extra "comp u"; (with_unfolding_all refine' LCg.ListComp_U (F₀ := by k_asm) ?zqa ?zqb ?zqc ?zqd ?zqe ?_); (case zqa => with_unfolding_all rfl); (case zqb => with_unfolding_all decide); (case zqc => with_unfolding_all rfl); (case zqd => with_unfolding_all decide); (case zqe => with_unfolding_all rfl))
        k_with "halt any" => skip
        k_steps
        refine unhalt ?_
        (rename News _ _ _ _ => nA)
        refine' log_itemM nA ?xm1 hDL2 ?xm2 (i + 14) ?xm3 ?xm4 ?xm5 ?_ ?xm6
        case xm1 => k_mem
        case xm2 => (intro q hq; repeat (first | exact hq | refine List.Mem.tail _ ?_))
        case xm3 => omega
        case xm4 => (rw [hEl]; omega)
        case xm5 => omega
        case xm6 => with_unfolding_all rfl
        intro xma xmM xmv xmV xmn xmt xmu xmh1 xmh2 xmh3
        (try k_fold)
        k_steps
        refine unhalt ?_
        (rename News _ _ _ _ => nA)
        refine' tup_at (v := .int ((pickOf es (i + 14) : Nat) : Int) xmt) nA xmh1 ?xn1 ?xn2 ?xn3 ?xn4 ?_ ?xn5
        case xn1 => decide
        case xn2 => decide
        case xn3 => exact Int.lt_of_lt_of_le (by decide) (Int.le_refl 3)
        case xn4 => rfl
        case xn5 => with_unfolding_all rfl
        (try k_fold)
        k_steps
        refine unhalt ?_
        (rename News _ _ _ _ => nA)
        refine' log_itemM nA ?xo1 hDL2 ?xo2 (i + 13) ?xo3 ?xo4 ?xo5 ?_ ?xo6
        case xo1 => k_mem
        case xo2 => (intro q hq; repeat (first | exact hq | refine List.Mem.tail _ ?_))
        case xo3 => omega
        case xo4 => (rw [hEl]; omega)
        case xo5 => omega
        case xo6 => with_unfolding_all rfl
        intro xoa xoM xov xoV xon xot xou xoh1 xoh2 xoh3
        (try k_fold)
        k_steps
        refine unhalt ?_
        (rename News _ _ _ _ => nA)
        refine' tup_at (v := .int ((pickOf es (i + 13) : Nat) : Int) xot) nA xoh1 ?xp1 ?xp2 ?xp3 ?xp4 ?_ ?xp5
        case xp1 => decide
        case xp2 => decide
        case xp3 => exact Int.lt_of_lt_of_le (by decide) (Int.le_refl 3)
        case xp4 => rfl
        case xp5 => with_unfolding_all rfl
        (try k_fold)
        k_steps
        · exfalso
          (rename @Ne Int _ _ => hc)
          have h0 := hP3 (i + 14) (by omega) (by omega)
          rw [Int.fmod_eq_emod_of_nonneg _ (by decide)] at hc
          rw [show i + 14 - 1 = i + 13 by omega] at h0
          omega
        · refine LCg.CompEnd.intro (by k_asm) (by assumption) _ ?xq off9 trivial ⟨rfl, rfl⟩
          kqd_sub
      · rintro ysC nwC ⟨rfl, rfl⟩
        k_with_none
        k_with "nX" => (first | exact ltA0 ‹_› | exact ltA1 ‹_› | exact ltA2 ‹_› | exact ltA3 ‹_› | exact ltA4 ‹_› | exact ltA5 ‹_› | exact ltA6 ‹_› | exact ltA7 ‹_› | exact ltA8 ‹_› | exact ltA9 ‹_› | exact ltA10 ‹_› | exact ltA11 ‹_› | exact ltA12 ‹_› | exact ltA13 ‹_› | exact neA0 ‹_› | exact neA1 ‹_› | exact neA2 ‹_› | exact neA3 ‹_› | exact neA4 ‹_› | exact neA5 ‹_› | exact neA6 ‹_› | exact neA7 ‹_› | exact neA8 ‹_› | exact neA9 ‹_› | exact neA10 ‹_› | exact neA11 ‹_› | exact neA12 ‹_›)
        k_with "k_ne" => (first | k_extra "nX" | (refine Ne.symm ?_; k_extra "nX"))
        k_with "k_room" => (ktr_room)
        k_with "w call ref" => (k_extra "halt call"; refine halt ?_)
        k_with "w CompSrc" => (k_extra "halt src"; refine halt ?_)
        k_with "w CompSrcT" => (k_extra "halt src"; refine halt ?_)
        k_with "w subscriptTail" => (k_extra "halt any"; refine halt ?_)
        k_with "w subscriptTail Subscript Constant ref int" => (k_extra "halt any"; refine halt ?_)
        k_with "w subscriptTail Name Constant ref int" => (k_extra "halt any"; refine halt ?_)
        k_with "w compareOp NotEq ref ref" => (k_extra "halt cmp"; refine halt ?_)
        k_with "w compareOp Eq ref ref" => (k_extra "halt cmp"; refine halt ?_)
        k_with "w call builtin:len" => (k_extra "halt len"; refine halt ?_)
        k_with "w eval Name" => (k_here; k_extra "built"; k_dflt (refine LCgL.ld_built (by k_asm) (by k_asm) (by k_asm) (by k_is) (by boot_by_name) (by decide) ?_))
        k_with "k_all" => (first | exact List.forall_mem_nil _ | (refine' List.forall_mem_cons.mpr ⟨?zqa, ?zqb⟩; (case zqa => k_ne); (case zqb => k_all)) | assumption | exact al3s ‹_› | exact al0 ‹_› | exact al1 ‹_› | exact al2 ‹_› | exact al3 ‹_› | exact al4 ‹_› | exact al5 ‹_› | exact al6 ‹_› | exact al7 ‹_› | exact al8 ‹_› | exact al9 ‹_› | exact al10 ‹_› | exact al11 ‹_› | exact of2 ‹_›)
        k_with "w eval ListComp" => (k_here; k_extra "comp t"; (with_unfolding_all refine' LCt.ListComp_T (F₀ := by k_asm) ?zqa ?zqb ?zqc ?zqd ?zqe ?_); (case zqa => with_unfolding_all rfl); (case zqb => with_unfolding_all decide); (case zqc => with_unfolding_all rfl); (case zqd => with_unfolding_all decide); (case zqe => with_unfolding_all rfl))
        k_with "w eval ListComp" => (k_here; k_extra "comp u"; (with_unfolding_all refine' LCg.ListComp_U (F₀ := by k_asm) ?zqa ?zqb ?zqc ?zqd ?zqe ?_); (case zqa => with_unfolding_all rfl); (case zqb => with_unfolding_all decide); (case zqc => with_unfolding_all rfl); (case zqd => with_unfolding_all decide); (case zqe => with_unfolding_all rfl))
        k_with "halt call" => skip
        k_steps
        refine unhalt ?_
        (rename News _ _ _ _ => nA)
        refine' Tell.use (c_due _ _ _ _ _ _ ?zg0 hT1 hT2) ?zg1 ?zg2 ?zg3 (news_sub nA (fun p hp => List.Mem.tail _ (List.Mem.tail _ (List.Mem.tail _ (List.Mem.tail _ (List.Mem.tail _ (List.Mem.tail _ hp))))))) ?zg5 ?zg6 trivial ?zg8 ?zg9 ?_
        case zg0 => k_mem
        case zg1 => k_asm
        case zg2 => k_asm
        case zg3 => k_asm
        case zg5 => k_asm
        case zg6 => first | exact rfl | assumption
        case zg8 => first | ktr_room | decide
        case zg9 => first | ktr_units | decide
        intro aD lgD rgD usD mD vsD nRD nwD hDD hID hDo1 hDo2 r9 h9 tk9 hr9 F9 N9
        subst hr9
        clear nA
        (try dsimp only)
        (try k_fold)
        (rename News _ _ _ _ => nD0)
        have nD := bubble [_, _, _] [_, _, _, _, _, _, _, _] nD0
        simp only [List.cons_append, List.nil_append] at nD
        clear nD0
        have hsame := run_same (told_get hT2) 20
        have hDD2 : DatAll nwD usD (es.map entD) := by rw [← hes, hsame.2]; exact hDD
        have hgoR := go_round hP3
        have hringL := okRing_len (runR_ok told 20)
        k_with "halt cmp" => skip
        k_steps
        refine unhalt ?_
        (rename News _ _ _ _ => nA)
        refine' Tell.use (c_pairs _ _ _ _ _ _ _ _ es _ (pickOf es 16) ?zh0 ?zha (hDD2.mono ?zhe) hEl hID hringL hgoR.1 hgoR.2) ?zh1 ?zh2 ?zh3 nA ?zh5 ?zh6 trivial ?zh8 ?zh9 ?_
        case zh0 => k_mem
        case zha => k_mem
        case zhe => (intro q hq; simp [hq])
        case zh1 => k_asm
        case zh2 => k_asm
        case zh3 => k_asm
        case zh5 => k_asm
        case zh6 => first | exact rfl | assumption
        case zh8 => first | ktr_room | decide
        case zh9 => first | ktr_units | decide
        intro aP usP nP nwP hDP hPo1 hPo2 r9 h9 tk9 hr9 F9 N9
        subst hr9
        clear nA
        (try dsimp only)
        (try k_fold)
        (rename News _ _ _ _ => nD0)
        have nD := bubble [_] [_, _, _, _, _, _, _, _, _, _, _] nD0
        simp only [List.cons_append, List.nil_append] at nD
        clear nD0
        k_steps
        refine unhalt ?_
        (rename News _ _ _ _ => nD)
        refine' ne_same nD ?zi1 hDL2 ?zi2 ?zi3 hDD2 ?zi4 (ent_ok es) ?zi5 ?_
        case zi1 => k_mem
        case zi2 => (intro q hq; simp [hq])
        case zi3 => k_mem
        case zi4 => (intro q hq; simp [hq])
        case zi5 => first | ktr_units | ke_room | decide
        (try k_fold)
        k_with "halt call" => skip
        k_steps
        refine unhalt ?_
        (rename News _ _ _ _ => nA)
        refine' Tell.use (c_itemsM _ ?zjh ?zjx ?zjd (n := n9) (vs := vs9) ?zjl) ?zj1 ?zj2 ?zj3 nA ?zj5 ?zj6 trivial ?zj8 ?zj9 ?_
        case zjh => k_mem
        case zjx => k_mem
        case zjd => k_mem
        case zjl => rw [hTD2.length, List.length_map]; exact Nat.le_trans (runK_good (told ++ [0]) 20).len (by decide)
        case zj1 => k_asm
        case zj2 => k_asm
        case zj3 => k_asm
        case zj5 => k_asm
        case zj6 => first | exact rfl | assumption
        case zj8 => first | ktr_room | decide
        case zj9 => first | ktr_units | decide
        intro aI nI hIlt r9 h9 tk9 hr9 F9 N9
        subst hr9
        clear nA
        (try dsimp only)
        (try k_fold)
        have hE4 := es_E4 hT2
        rw [hes] at hE4
        have hDP2 := hDP
        rw [← hE4] at hDP2
        have hRok := row_ok (runK_good (told ++ [0]) 20).ok
        k_steps
        refine unhalt ?_
        (rename News _ _ _ _ => nD)
        refine' ne_same nD ?zk1 hTD2.dat ?zk2 ?zk3 hDP2 ?zk4 (rows_ok hRok) ?zk5 ?_
        case zk1 => k_mem
        case zk2 => (intro q hq; simp [hq])
        case zk3 => k_mem
        case zk4 => (intro q hq; simp [hq])
        case zk5 => first | ktr_units | ke_room | decide
        (try k_fold)
        have i1 := off_at hDo1 (.tail _ (.tail _ (.tail _ (.tail _ (.tail _ (.tail _ (.head _)))))))
        have i2 := off_at hPo1 (.tail _ (.tail _ (.tail _ (.tail _ (.tail _ (.tail _ (.tail _ (.tail _ (.tail _ (.head _))))))))))
        have i3 := hDo2 _ (.tail _ (.tail _ (.tail _ (.tail _ (.tail _ (.tail _ (.head _)))))))
        have i4 := hPo2 _ (.tail _ (.tail _ (.tail _ (.tail _ (.tail _ (.tail _ (.tail _ (.tail _ (.tail _ (.head _))))))))))
        have i5 := hIlt _ (.tail _ (.tail _ (.tail _ (.tail _ (.tail _ (.tail _ (.tail _ (.tail _ (.tail _ (.tail _ (.head _)))))))))))
        have hTail := app3 i2 i1 hn2
        have hi1 := Ne.symm i3.1
        have hi2 := Ne.symm i3.2.1
        have hi3 := Ne.symm i3.2.2
        have hi4 := Ne.symm i4
        have hi5 := Nat.ne_of_gt i5
        k_steps
        refine unhalt ?_
        (rename News _ _ _ _ => nA)
        refine' Tell.use (c_quote _ _ _ _ _ quote_bad) ?zl1 ?zl2 ?zl3 nA ?zl5 ?zl6 trivial ?zl8 ?zl9 ?_
        case zl1 => k_asm
        case zl2 => k_asm
        case zl3 => k_asm
        case zl5 => k_asm
        case zl6 => first | exact rfl | assumption
        case zl8 => first | ktr_room | decide
        case zl9 => first | ktr_units | decide
        intro r9 h9 tk9 hr9 F9 N9
        obtain ⟨tBad, e9⟩ := hr9
        subst e9
        clear nA
        (try dsimp only)
        (try k_fold)
        k_steps
        obtain ⟨cB, hcB, eB⟩ := box_name (told := told) ((told ++ [0]).getD (Int.toNat 5) 0)
        have hOffH := front_off (H := tH) (a1 := (aI, listOf vs9.toArray nI)) (a2 := (aP, listOf usP.toArray nP)) (a3 := (aD, ({ cls := .type "tuple", data := .seq #[.ref lgD, .ref rgD] } : Obj))) (a4 := (lgD, listOf usD.toArray mD)) (a5 := (rgD, listOf vsD.toArray nRD)) (l := (lg, listOf usL.toArray nL)) (Nat.ne_of_gt (hIlt _ (.tail _ (.tail _ (.tail _ (.tail _ (.head _))))))) (Ne.symm (hPo2 _ (.tail _ (.tail _ (.tail _ (.head _)))))) (Ne.symm (hDo2 _ (.head _)).1) (Ne.symm (hDo2 _ (.head _)).2.1) (Ne.symm (hDo2 _ (.head _)).2.2) hlgH hO1.2.2 (app3 (off_at hPo1 (.tail _ (.tail _ (.tail _ (.head _))))) (off_at hDo1 (.head _)) hnH)
        have hR8 : ((runK (told ++ [0]) 20).1.map rowS).length ≤ 100 := by rw [List.length_map]; exact Nat.le_trans (runK_good (told ++ [0]) 20).len (by decide)
        have hu4 : usP.length = 4 := by rw [hDP.length, List.length_map, List.length_range]
        refine unhalt ?_
        (rename News _ _ _ _ => nA)
        refine' Tell0.use (c_refused _ _ nw2 _ _ _ _ vs9 _ _ _ _ _ ⟨hTD2.dat, ?zms, ⟨hO1.1, hO1.2.1, ?zmo⟩, hTD2.len⟩ ?zmn ?zmm hR8) ?zm1 ?zm2 ?zm3 (to_front nA) ?zm5 ?zm6 ?zmc ?zmd ?zm8 ?zm9 ?_
        case zms => (intro q hq; simp [hq])
        case zmo => exact hOffH
        case zmn => (rw [eB]; exact okName_lower cB hcB)
        case zmm => (rw [eB]; exact okName_letter cB hcB)
        case zm1 => k_asm
        case zm2 => k_asm
        case zm3 => k_asm
        case zm5 => k_asm
        case zm6 => first | exact rfl | assumption
        case zmc => k_asm
        case zmd => k_asm
        case zm8 => first | ktr_room | decide
        case zm9 => first | ktr_units | decide
        intro vsF nF hTF r9 h9 tk9 hr9 F9 N9
        subst hr9
        clear nA
        (try dsimp only)
        (try k_fold)
        k_steps
        refine unhalt ?_
        (rename News _ _ _ _ => nA)
        refine' Tell.use (c_itemsM _ ?znh ?znx ?znd (n := nF) (vs := vsF) ?znl) ?zn1 ?zn2 ?zn3 nA ?zn5 ?zn6 trivial ?zn8 ?zn9 ?_
        case znh => k_mem
        case znx => k_mem
        case znd => k_mem
        case znl => (rw [hTF.length]; exact Nat.le_trans (List.length_filter_le _ _) hR8)
        case zn1 => k_asm
        case zn2 => k_asm
        case zn3 => k_asm
        case zn5 => k_asm
        case zn6 => first | exact rfl | assumption
        case zn8 => first | ktr_room | decide
        case zn9 => first | ktr_units | decide
        intro aJ nJ hJlt r9 h9 tk9 hr9 F9 N9
        subst hr9
        clear nA
        (try dsimp only)
        (try k_fold)
        k_with "comp t" => skip
        k_with "halt src" => skip
        k_steps
        refine unhalt ?_
        (rename News _ _ _ _ => nS)
        refine' LCt.CompSrcT.ledger (by rfl) (by k_asm) nS ?zo1 ?zo2 ?_
        case zo1 => k_mem
        case zo2 => (rw [List.size_toArray, hu4]; decide)
        intro g6
        refine comp_invT (fun i ys nw => nw = _ ∧ DatAll nwP ys (((((runK (told ++ [0]) 20).1.map rowS).take i).filter (fun kv => Txt.lower kv.1 != Txt.lower (Txt.item (Str.ofString "aBcD") (((told ++ [0]).getD (Int.toNat 5) 0).fmod 4)))).map rowD)) usP.toArray.size ?_ ?_ _ 0 [] _ (by omega) ⟨rfl, .nil⟩
        · rintro i v I oI Cn oC Dd m₂ h tk ys nw9 E' hin hv ⟨rfl, hd⟩ ho hx F9 N9 off9 ne9
          obtain ⟨k9, y9, t1, t2, n9', a9, hr9, rfl, hm9⟩ := row_at hDP2 (i := i) (v := v) (by simpa using hv)
          have hk9 := (hTD2.len _ (List.mem_of_getElem? hr9)).1
          have N9' := news_sub N9 (seen1 (a := (a9, ({ cls := .type "tuple", data := .seq #[.str k9 t1, .str y9 t2] n9' } : Obj))) (by repeat (first | exact List.mem_append.mpr (.inl hm9) | refine List.Mem.tail _ ?_)))
          clear N9 nS
          k_with_none
          k_with "nX" => (first | exact ltA0 ‹_› | exact ltA1 ‹_› | exact ltA2 ‹_› | exact ltA3 ‹_› | exact ltA4 ‹_› | exact ltA5 ‹_› | exact ltA6 ‹_› | exact ltA7 ‹_› | exact ltA8 ‹_› | exact ltA9 ‹_› | exact ltA10 ‹_› | exact ltA11 ‹_› | exact ltA12 ‹_› | exact ltA13 ‹_› | exact neA0 ‹_› | exact neA1 ‹_› | exact neA2 ‹_› | exact neA3 ‹_› | exact neA4 ‹_› | exact neA5 ‹_› | exact neA6 ‹_› | exact neA7 ‹_› | exact neA8 ‹_› | exact neA9 ‹_› | exact neA10 ‹_› | exact neA11 ‹_› | exact neA12 ‹_›)
          k_with "k_ne" => (first | k_extra "nX" | (refine Ne.symm ?_; k_extra "nX"))
          k_with "k_room" => (ktr_room)
          k_with "w call ref" => (k_extra "halt call"; refine halt ?_)
          k_with "w CompSrc" => (k_extra "halt src"; refine halt ?_)
          k_with "w CompSrcT" => (k_extra "halt src"; refine halt ?_)
          k_with "w subscriptTail" => (k_extra "halt any"; refine halt ?_)
          k_with "w subscriptTail Subscript Constant ref int" => (k_extra "halt any"; refine halt ?_)
          k_with "w subscriptTail Name Constant ref int" => (k_extra "halt any"; refine halt ?_)
          k_with "w compareOp NotEq ref ref" => (k_extra "halt cmp"; refine halt ?_)
          k_with "w compareOp Eq ref ref" => (k_extra "halt cmp"; refine halt ?_)
          k_with "w call builtin:len" => (k_extra "halt len"; refine halt ?_)
          k_with "w eval Name" => (k_here; k_extra "built"; k_dflt (refine LCgL.ld_built (by k_asm) (by k_asm) (by k_asm) (by k_is) (by boot_by_name) (by decide) ?_))
          k_with "k_all" => (first | exact List.forall_mem_nil _ | (refine' List.forall_mem_cons.mpr ⟨?zqa, ?zqb⟩; (case zqa => k_ne); (case zqb => k_all)) | assumption | exact al3s ‹_› | exact al0 ‹_› | exact al1 ‹_› | exact al2 ‹_› | exact al3 ‹_› | exact al4 ‹_› | exact al5 ‹_› | exact al6 ‹_› | exact al7 ‹_› | exact al8 ‹_› | exact al9 ‹_› | exact al10 ‹_› | exact al11 ‹_› | exact of2 ‹_›)
          k_with "w eval ListComp" => (k_here; k_extra "comp t"; (with_unfolding_all refine' LCt.ListComp_T (F₀ := by k_asm) ?zqa ?zqb ?zqc ?zqd ?zqe ?_); (case zqa => with_unfolding_all rfl); (case zqb => with_unfolding_all decide); (case zqc => with_unfolding_all rfl); (case zqd => with_unfolding_all decide); (case zqe => with_unfolding_all rfl))
          k_with "w eval ListComp" => (k_here; k_extra "comp u"; (with_unfolding_all refine' LCg.ListComp_U (F₀ := by k_asm) ?zqa ?zqb ?zqc ?zqd ?zqe ?_); (case zqa => with_unfolding_all rfl); (case zqb => with_unfolding_all decide); (case zqc => with_unfolding_all rfl); (case zqd => with_unfolding_all decide); (case zqe => with_unfolding_all rfl))
          k_with "halt any" => skip
          k_steps
          refine unhalt ?_
          refine' tup_at (v := .str k9 t1) N9' (.head _) ?zp1 ?zp2 ?zp3 rfl ?_ ?zp5
          case zp1 => decide
          case zp2 => decide
          case zp3 => exact Int.lt_of_lt_of_le (by decide) (Int.le_refl 2)
          case zp5 => with_unfolding_all rfl
          (try k_fold)
          k_steps
          · have hq : (Txt.lower k9 != Txt.lower (Txt.item (Str.ofString "aBcD") (((told ++ [0]).getD (Int.toNat 5) 0).fmod 4))) = true := by assumption
            refine LCg.CompEnd.intro (by k_asm) (by assumption) _ ?zq1 off9 ?zq2 ⟨rfl, ?zq3⟩
            case zq1 => kqd_sub
            case zq2 => exact Or.inr ⟨_, by k_mem, rfl, _, rfl⟩
            case zq3 =>
              rw [filt_one hr9, if_pos hq, List.map_append]
              exact hd.append (.cons (DatIn.tuple (vs := [.str k9 t1, .str y9 t2]) hm9 (.cons (.str _ _) (.cons (.str _ _) .nil))) .nil)
          · have hq : ¬ ((Txt.lower k9 != Txt.lower (Txt.item (Str.ofString "aBcD") (((told ++ [0]).getD (Int.toNat 5) 0).fmod 4))) = true) := by
              first
              | assumption
              | (have h9 : (Txt.lower k9 != Txt.lower (Txt.item (Str.ofString "aBcD") (((told ++ [0]).getD (Int.toNat 5) 0).fmod 4))) = false := by assumption
                 rw [h9]; exact Bool.false_ne_true)
              | (have h9 : Txt.lower k9 = Txt.lower (Txt.item (Str.ofString "aBcD") (((told ++ [0]).getD (Int.toNat 5) 0).fmod 4)) := by assumption
                 rw [h9]; simp)
            refine LCg.CompEnd.intro (by k_asm) (by assumption) _ ?zr1 off9 ?zr2 ⟨rfl, ?zr3⟩
            case zr1 => kqd_sub
            case zr2 => exact Or.inr ⟨_, by k_mem, rfl, _, rfl⟩
            case zr3 =>
              rw [filt_one hr9, if_neg hq, List.append_nil]
              exact hd
        · rintro ysZ nwZ ⟨rfl, hdZ⟩
          have hfull : (((runK (told ++ [0]) 20).1.map rowS).take usP.toArray.size) = (runK (told ++ [0]) 20).1.map rowS := by
            rw [List.size_toArray, hDP2.length, List.length_map]; exact List.take_length
          rw [hfull] at hdZ
          clear nS
          k_with_none
          k_with "nX" => (first | exact ltA0 ‹_› | exact ltA1 ‹_› | exact ltA2 ‹_› | exact ltA3 ‹_› | exact ltA4 ‹_› | exact ltA5 ‹_› | exact ltA6 ‹_› | exact ltA7 ‹_› | exact ltA8 ‹_› | exact ltA9 ‹_› | exact ltA10 ‹_› | exact ltA11 ‹_› | exact ltA12 ‹_› | exact ltA13 ‹_› | exact neA0 ‹_› | exact neA1 ‹_› | exact neA2 ‹_› | exact neA3 ‹_› | exact neA4 ‹_› | exact neA5 ‹_› | exact neA6 ‹_› | exact neA7 ‹_› | exact neA8 ‹_› | exact neA9 ‹_› | exact neA10 ‹_› | exact neA11 ‹_› | exact neA12 ‹_›)
          k_with "k_ne" => (first | k_extra "nX" | (refine Ne.symm ?_; k_extra "nX"))
          k_with "k_room" => (ktr_room)
          k_with "w call ref" => (k_extra "halt call"; refine halt ?_)
          k_with "w CompSrc" => (k_extra "halt src"; refine halt ?_)
          k_with "w CompSrcT" => (k_extra "halt src"; refine halt ?_)
          k_with "w subscriptTail" => (k_extra "halt any"; refine halt ?_)
          k_with "w subscriptTail Subscript Constant ref int" => (k_extra "halt any"; refine halt ?_)
          k_with "w subscriptTail Name Constant ref int" => (k_extra "halt any"; refine halt ?_)
          k_with "w compareOp NotEq ref ref" => (k_extra "halt cmp"; refine halt ?_)
          k_with "w compareOp Eq ref ref" => (k_extra "halt cmp"; refine halt ?_)
          k_with "w call builtin:len" => (k_extra "halt len"; refine halt ?_)
          k_with "w eval Name" => (k_here; k_extra "built"; k_dflt (refine LCgL.ld_built (by k_asm) (by k_asm) (by k_asm) (by k_is) (by boot_by_name) (by decide) ?_))
          k_with "k_all" => (first | exact List.forall_mem_nil _ | (refine' List.forall_mem_cons.mpr ⟨?zqa, ?zqb⟩; (case zqa => k_ne); (case zqb => k_all)) | assumption | exact al3s ‹_› | exact al0 ‹_› | exact al1 ‹_› | exact al2 ‹_› | exact al3 ‹_› | exact al4 ‹_› | exact al5 ‹_› | exact al6 ‹_› | exact al7 ‹_› | exact al8 ‹_› | exact al9 ‹_› | exact al10 ‹_› | exact al11 ‹_› | exact of2 ‹_›)
          k_with "w eval ListComp" => (k_here; k_extra "comp t"; (with_unfolding_all refine' LCt.ListComp_T (F₀ := by k_asm) ?zqa ?zqb ?zqc ?zqd ?zqe ?_); (case zqa => with_unfolding_all rfl); (case zqb => with_unfolding_all decide); (case zqc => with_unfolding_all rfl); (case zqd => with_unfolding_all decide); (case zqe => with_unfolding_all rfl))
          k_with "w eval ListComp" => (k_here; k_extra "comp u"; (with_unfolding_all refine' LCg.ListComp_U (F₀ := by k_asm) ?zqa ?zqb ?zqc ?zqd ?zqe ?_); (case zqa => with_unfolding_all rfl); (case zqb => with_unfolding_all decide); (case zqc => with_unfolding_all rfl); (case zqd => with_unfolding_all decide); (case zqe => with_unfolding_all rfl))
          k_with "halt cmp" => skip
          k_steps
          refine unhalt ?_
          (rename News _ _ _ _ => nD)
          obtain ⟨dsZ, hz1', hz2', hz3'⟩ : ∃ ds, DatAll nw2 vsF ds ∧ DatAll nwP ysZ ds ∧ ∀ d ∈ ds, kqdOk 8 d = true := ⟨_, hTF.dat, hdZ, rows_ok (fun kv hk => hRok kv (List.mem_filter.mp hk).1)⟩
          refine' eq_same (ds := dsZ) nD ?zs1 hz1' ?zs2 ?zs3 hz2' ?zs4 hz3' ?zs5 ?_
          case zs1 => k_mem
          case zs2 => (intro q hq; repeat (first | exact List.mem_append.mpr (.inr (List.mem_append.mpr (.inr hq))) | refine List.Mem.tail _ ?_))
          case zs3 => k_mem
          case zs4 => (intro q hq; repeat (first | exact List.mem_append.mpr (.inl hq) | refine List.Mem.tail _ ?_))
          case zs5 => first | ktr_units | ke_room | decide
          (rename Fr _ _ _ _ => fZ)
          refine eQ0 _ _ ?_
          k_unfold
          (try dsimp only)
          refine' law_good ?zt1 ?zt2
          case zt1 => exact fZ
          case zt2 => exact hgens
end Mine
end PartL2
theorem PySem.Challenge.cw_sr0074_02_holds : PySem.Challenge.rw_sr0074_02.Holds :=
  Mine.X
