import PyProof.Rows.All
import Wide.All
import OpenK.AllK
import Wide.FinOn
import PySem.Challenge.RW_ez0131_01
set_option Elab.async false
set_option maxRecDepth 100000
namespace Mine
open PySem PySem.W PySem.Calls PyProof.Rows

section
open PySem PySem.W PySem.Calls PyProof.Rows
-- the program's statements, by their place
def stm (i : Nat) : Stmt := PySem.Challenge.pw_ez0131_01.main.body.getD i (.Pass ⟨0, 0, 0, 0⟩)
def mth (i j : Nat) : Stmt := match stm i with
  | .ClassDef _ _ _ b _ _ _ _ _ _ _ => b.getD j (.Pass ⟨0, 0, 0, 0⟩)
  | s => s
def nameOfS : Stmt → Str
  | .FunctionDef n _ _ _ _ _ _ _ _ _ => n
  | _ => ""
def parOf : Stmt → Arguments
  | .FunctionDef _ a _ _ _ _ _ _ _ _ => a
  | _ => ⟨[], [], none, [], [], none, []⟩
def bodOf : Stmt → List Stmt
  | .FunctionDef _ _ b _ _ _ _ _ _ _ => b
  | _ => []
def scoOf : Stmt → Scope
  | .FunctionDef _ _ _ _ _ _ s _ _ _ => s
  | _ => ⟨.function, [], false, false, []⟩
def en (P : Params) (x : String) (t : Tok) (v : Value) : DictEntry := ⟨PyData.keyHash P (Str.ofString x), .str (Str.ofString x) t, v⟩
def tupO (l : List Value) (n : Nat) : Obj := { cls := .type "tuple", data := .seq l.toArray n }
def dicO (l : List DictEntry) (n : Nat) : Obj := { cls := .type "dict", data := .dict l.toArray n }
def codO (l : List Value) : Obj := { cls := .type "code", data := .fields l.toArray }
def fdO (st : Stmt) (q : String) (dV pm cd : Value) : FuncData :=
  { name := nameOfS st, qualname := Str.ofString q, params := parOf st, body := .stmts (bodOf st), scope := scoOf st, globals := 3, closure := [], defaults := dV, kwdefaults := .none, doc := .none, pyModule := pm, annotations := none, code := cd, closureTuple := .none, builtins := 0 }
def fnO (st : Stmt) (q : String) (dV pm cd : Value) : Obj := { cls := .type "function", data := .func (fdO st q dV pm cd) }
def clO (c : Value) (sl : List (Option Value)) (n : String) (bases mro : List Value) (ns : Addr) (subs : List Value) (ab : Bool) : Obj :=
  { cls := c, data := .cls { name := Str.ofString n, bases, mro, ns, qualname := Str.ofString n, subclasses := subs, abstract := ab }, slots := sl.toArray }
def KK (P : Params) : Frag := [
  (2, { cls := .none, data := .dict #[] }),
  (3, dicO [en P "__name__" 165 (.str (Str.ofString "law_ez0131_01") 869), en P "__doc__" 166 .none, en P "__package__" 167 .none, en P "__loader__" 168 (.builtin "__main__.__loader__#opaque"), en P "__spec__" 169 .none, en P "__annotations__" 170 (.ref 6), en P "__builtins__" 171 (.ref 4), en P "__file__" 173 (.str (Str.ofString "/claim/cut.py") 172), en P "__cached__" 174 .none, en P "_wall" 193 (.ref 21), en P "_pe_name" 200 (.ref 28), en P "Node" 339 (.ref 127), en P "Stmt" 356 (.ref 141), en P "Helper" 373 (.ref 153), en P "Template" 391 (.ref 166), en P "Output" 409 (.ref 179), en P "Extends" 427 (.ref 192), en P "For" 450 (.ref 205), en P "If" 471 (.ref 218), en P "Macro" 492 (.ref 231), en P "Block" 513 (.ref 244), en P "Include" 533 (.ref 257), en P "Import" 553 (.ref 270), en P "FromImport" 573 (.ref 283), en P "Expr" 605 (.ref 310), en P "Name" 631 (.ref 330), en P "Literal" 648 (.ref 342), en P "Const" 696 (.ref 374), en P "Tuple" 730 (.ref 402), en P "List" 756 (.ref 423), en P "Keyword" 783 (.ref 444), en P "Call" 805 (.ref 457), en P "Getattr" 833 (.ref 478), en P "GETTEXT_FUNCTIONS" 841 (.ref 481), en P "extract_from_ast" 855 (.ref 489), en P "_ref_types" 858 (.ref 490), en P "find_referenced_templates" 868 (.ref 497), en P "_LAW_USUAL" 876 (.ref 504), en P "_law_draw" 883 (.ref 511), en P "_law_value" 895 (.ref 518), en P "_law_call" 919 (.ref 525), en P "_law_place" 925 (.ref 530), en P "_law_body" 940 (.ref 537), en P "_law_statement" 961 (.ref 544), en P "_law_wanted" 967 (.ref 549), en P "law" 973 (.ref 554)] 46),
  (27, codO [(.str (Str.ofString "_pe_name") 194), (.str (Str.ofString "_pe_name") 195), (.str (Str.ofString "/claim/cut.py") 196), (.int 4 0), (.int 1 0), (.int 0 0), (.int 0 0), (.int 3 0), (.ref 22), (.bool true), (.int 181 0), (.ref 23), .none, (.ref 24), (.ref 25), (.ref 26), (.int 198 0), (.int 4 0), (.str (Str.ofString "/claim/cut.py") 199)]),
  (28, fnO (stm 1) "_pe_name" .none (.str (Str.ofString "__main__") 164) (.ref 27)),
  (36, tupO [] 0),
  (43, codO [(.str (Str.ofString "__getattr__") 220), (.str (Str.ofString "Node.__getattr__") 221), (.str (Str.ofString "/claim/cut.py") 222), (.int 14 0), (.int 2 0), (.int 0 0), (.int 0 0), (.int 3 0), (.ref 38), (.bool true), (.int 181 0), (.ref 39), .none, (.ref 40), (.ref 41), (.ref 42), (.int 225 0), (.int 14 0), (.str (Str.ofString "/claim/cut.py") 226)]),
  (44, fnO (mth 3 3) "Node.__getattr__" .none (.str (Str.ofString "jinja2.nodes") 201) (.ref 43)),
  (50, codO [(.str (Str.ofString "__init__") 228), (.str (Str.ofString "Node.__init__") 229), (.str (Str.ofString "/claim/cut.py") 230), (.int 19 0), (.int 1 0), (.int 0 0), (.int 0 0), (.int 15 0), (.ref 45), (.bool true), (.int 181 0), (.ref 46), .none, (.ref 47), (.ref 48), (.ref 49), (.int 236 0), (.int 19 0), (.str (Str.ofString "/claim/cut.py") 237)]),
  (51, fnO (mth 3 4) "Node.__init__" .none (.str (Str.ofString "jinja2.nodes") 201) (.ref 50)),
  (52, tupO [.none, .none] 0),
  (58, codO [(.str (Str.ofString "iter_fields") 239), (.str (Str.ofString "Node.iter_fields") 240), (.str (Str.ofString "/claim/cut.py") 241), (.int 33 0), (.int 3 0), (.int 0 0), (.int 0 0), (.int 35 0), (.ref 53), (.bool true), (.int 181 0), (.ref 54), .none, (.ref 55), (.ref 56), (.ref 57), (.int 246 0), (.int 33 0), (.str (Str.ofString "/claim/cut.py") 247)]),
  (59, fnO (mth 3 5) "Node.iter_fields" (.ref 52) (.str (Str.ofString "jinja2.nodes") 201) (.ref 58)),
  (60, tupO [.none, .none] 0),
  (66, codO [(.str (Str.ofString "iter_child_nodes") 249), (.str (Str.ofString "Node.iter_child_nodes") 250), (.str (Str.ofString "/claim/cut.py") 251), (.int 39 0), (.int 3 0), (.int 0 0), (.int 0 0), (.int 35 0), (.ref 61), (.bool true), (.int 181 0), (.ref 62), .none, (.ref 63), (.ref 64), (.ref 65), (.int 258 0), (.int 39 0), (.str (Str.ofString "/claim/cut.py") 259)]),
  (67, fnO (mth 3 6) "Node.iter_child_nodes" (.ref 60) (.str (Str.ofString "jinja2.nodes") 201) (.ref 66)),
  (80, codO [(.str (Str.ofString "find_all") 270), (.str (Str.ofString "Node.find_all") 271), (.str (Str.ofString "/claim/cut.py") 272), (.int 53 0), (.int 2 0), (.int 0 0), (.int 0 0), (.int 35 0), (.ref 75), (.bool true), (.int 181 0), (.ref 76), .none, (.ref 77), (.ref 78), (.ref 79), (.int 276 0), (.int 53 0), (.str (Str.ofString "/claim/cut.py") 277)]),
  (81, fnO (mth 3 8) "Node.find_all" .none (.str (Str.ofString "jinja2.nodes") 201) (.ref 80)),
  (126, dicO [en P "__module__" 210 (.str (Str.ofString "jinja2.nodes") 201), en P "__firstlineno__" 214 (.int 9 213), en P "fields" 215 (.ref 36), en P "attributes" 218 (.ref 37), en P "abstract" 219 (.bool true), en P "__getattr__" 227 (.ref 44), en P "__init__" 238 (.ref 51), en P "iter_fields" 248 (.ref 59), en P "iter_child_nodes" 260 (.ref 67), en P "find" 269 (.ref 74), en P "find_all" 278 (.ref 81), en P "set_ctx" 286 (.ref 88), en P "set_lineno" 295 (.ref 96), en P "set_environment" 303 (.ref 103), en P "__eq__" 311 (.ref 110), en P "__repr__" 320 (.ref 117), en P "dump" 327 (.ref 124), en P "__static_attributes__" 331 (.ref 125), en P "__dict__" 333 (.ref 128), en P "__weakref__" 335 (.ref 129), en P "__doc__" 336 .none, en P "__hash__" 337 .none] 5),
  (127, clO (.type "type") [none, none, some (.str (Str.ofString "Node") 203), some (.str (Str.ofString "Node") 211), some (.builtin "object.__new__"), some (.bool true)] "Node" [(.type "object")] [(.ref 127), (.type "object")] 126 [(.ref 141), (.ref 153), (.ref 166), (.ref 310)] false),
  (140, dicO [en P "__module__" 347 (.str (Str.ofString "jinja2.nodes") 201), en P "__firstlineno__" 351 (.int 79 350), en P "abstract" 352 (.bool true), en P "__static_attributes__" 353 (.ref 139), en P "__doc__" 354 .none] 2),
  (141, clO (.type "type") [some (.ref 132), none, some (.str (Str.ofString "Stmt") 340), some (.str (Str.ofString "Stmt") 348), some (.builtin "object.__new__"), some (.bool true)] "Stmt" [(.ref 127)] [(.ref 141), (.ref 127), (.type "object")] 140 [(.ref 179), (.ref 192), (.ref 205), (.ref 218), (.ref 231), (.ref 244), (.ref 257), (.ref 270), (.ref 283)] false),
  (152, dicO [en P "__module__" 364 (.str (Str.ofString "jinja2.nodes") 201), en P "__firstlineno__" 368 (.int 81 367), en P "abstract" 369 (.bool true), en P "__static_attributes__" 370 (.ref 151), en P "__doc__" 371 .none] 2),
  (153, clO (.type "type") [some (.ref 144), none, some (.str (Str.ofString "Helper") 357), some (.str (Str.ofString "Helper") 365), some (.builtin "object.__new__"), some (.bool true)] "Helper" [(.ref 127)] [(.ref 153), (.ref 127), (.type "object")] 152 [(.ref 444)] false),
  (163, tupO [(.str (Str.ofString "body") 386)] 0),
  (165, dicO [en P "__module__" 381 (.str (Str.ofString "jinja2.nodes") 201), en P "__firstlineno__" 385 (.int 83 384), en P "fields" 387 (.ref 163), en P "__static_attributes__" 388 (.ref 164), en P "__doc__" 389 .none] 2),
  (166, clO (.type "type") [some (.ref 156), none, some (.str (Str.ofString "Template") 374), some (.str (Str.ofString "Template") 382), some (.builtin "object.__new__"), some (.bool true)] "Template" [(.ref 127)] [(.ref 166), (.ref 127), (.type "object")] 165 [] false),
  (176, tupO [(.str (Str.ofString "nodes") 404)] 0),
  (178, dicO [en P "__module__" 399 (.str (Str.ofString "jinja2.nodes") 201), en P "__firstlineno__" 403 (.int 85 402), en P "fields" 405 (.ref 176), en P "__static_attributes__" 406 (.ref 177), en P "__doc__" 407 .none] 2),
  (179, clO (.type "type") [some (.ref 169), none, some (.str (Str.ofString "Output") 392), some (.str (Str.ofString "Output") 400), some (.builtin "object.__new__"), some (.bool true)] "Output" [(.ref 141)] [(.ref 179), (.ref 141), (.ref 127), (.type "object")] 178 [] false),
  (189, tupO [(.str (Str.ofString "template") 422)] 0),
  (191, dicO [en P "__module__" 417 (.str (Str.ofString "jinja2.nodes") 201), en P "__firstlineno__" 421 (.int 87 420), en P "fields" 423 (.ref 189), en P "__static_attributes__" 424 (.ref 190), en P "__doc__" 425 .none] 2),
  (192, clO (.type "type") [some (.ref 182), none, some (.str (Str.ofString "Extends") 410), some (.str (Str.ofString "Extends") 418), some (.builtin "object.__new__"), some (.bool true)] "Extends" [(.ref 141)] [(.ref 192), (.ref 141), (.ref 127), (.type "object")] 191 [] false),
  (202, tupO [(.str (Str.ofString "target") 440), (.str (Str.ofString "iter") 441), (.str (Str.ofString "body") 442), (.str (Str.ofString "else_") 443), (.str (Str.ofString "test") 444), (.str (Str.ofString "recursive") 445)] 0),
  (204, dicO [en P "__module__" 435 (.str (Str.ofString "jinja2.nodes") 201), en P "__firstlineno__" 439 (.int 89 438), en P "fields" 446 (.ref 202), en P "__static_attributes__" 447 (.ref 203), en P "__doc__" 448 .none] 2),
  (205, clO (.type "type") [some (.ref 195), none, some (.str (Str.ofString "For") 428), some (.str (Str.ofString "For") 436), some (.builtin "object.__new__"), some (.bool true)] "For" [(.ref 141)] [(.ref 205), (.ref 141), (.ref 127), (.type "object")] 204 [] false),
  (215, tupO [(.str (Str.ofString "test") 463), (.str (Str.ofString "body") 464), (.str (Str.ofString "elif_") 465), (.str (Str.ofString "else_") 466)] 0),
  (217, dicO [en P "__module__" 458 (.str (Str.ofString "jinja2.nodes") 201), en P "__firstlineno__" 462 (.int 91 461), en P "fields" 467 (.ref 215), en P "__static_attributes__" 468 (.ref 216), en P "__doc__" 469 .none] 2),
  (218, clO (.type "type") [some (.ref 208), none, some (.str (Str.ofString "If") 451), some (.str (Str.ofString "If") 459), some (.builtin "object.__new__"), some (.bool true)] "If" [(.ref 141)] [(.ref 218), (.ref 141), (.ref 127), (.type "object")] 217 [] false),
  (228, tupO [(.str (Str.ofString "name") 484), (.str (Str.ofString "args") 485), (.str (Str.ofString "defaults") 486), (.str (Str.ofString "body") 487)] 0),
  (230, dicO [en P "__module__" 479 (.str (Str.ofString "jinja2.nodes") 201), en P "__firstlineno__" 483 (.int 93 482), en P "fields" 488 (.ref 228), en P "__static_attributes__" 489 (.ref 229), en P "__doc__" 490 .none] 2),
  (231, clO (.type "type") [some (.ref 221), none, some (.str (Str.ofString "Macro") 472), some (.str (Str.ofString "Macro") 480), some (.builtin "object.__new__"), some (.bool true)] "Macro" [(.ref 141)] [(.ref 231), (.ref 141), (.ref 127), (.type "object")] 230 [] false),
  (241, tupO [(.str (Str.ofString "name") 505), (.str (Str.ofString "body") 506), (.str (Str.ofString "scoped") 507), (.str (Str.ofString "required") 508)] 0),
  (243, dicO [en P "__module__" 500 (.str (Str.ofString "jinja2.nodes") 201), en P "__firstlineno__" 504 (.int 95 503), en P "fields" 509 (.ref 241), en P "__static_attributes__" 510 (.ref 242), en P "__doc__" 511 .none] 2),
  (244, clO (.type "type") [some (.ref 234), none, some (.str (Str.ofString "Block") 493), some (.str (Str.ofString "Block") 501), some (.builtin "object.__new__"), some (.bool true)] "Block" [(.ref 141)] [(.ref 244), (.ref 141), (.ref 127), (.type "object")] 243 [] false),
  (254, tupO [(.str (Str.ofString "template") 526), (.str (Str.ofString "with_context") 527), (.str (Str.ofString "ignore_missing") 528)] 0),
  (256, dicO [en P "__module__" 521 (.str (Str.ofString "jinja2.nodes") 201), en P "__firstlineno__" 525 (.int 97 524), en P "fields" 529 (.ref 254), en P "__static_attributes__" 530 (.ref 255), en P "__doc__" 531 .none] 2),
  (257, clO (.type "type") [some (.ref 247), none, some (.str (Str.ofString "Include") 514), some (.str (Str.ofString "Include") 522), some (.builtin "object.__new__"), some (.bool true)] "Include" [(.ref 141)] [(.ref 257), (.ref 141), (.ref 127), (.type "object")] 256 [] false),
  (267, tupO [(.str (Str.ofString "template") 546), (.str (Str.ofString "target") 547), (.str (Str.ofString "with_context") 548)] 0),
  (269, dicO [en P "__module__" 541 (.str (Str.ofString "jinja2.nodes") 201), en P "__firstlineno__" 545 (.int 99 544), en P "fields" 549 (.ref 267), en P "__static_attributes__" 550 (.ref 268), en P "__doc__" 551 .none] 2),
  (270, clO (.type "type") [some (.ref 260), none, some (.str (Str.ofString "Import") 534), some (.str (Str.ofString "Import") 542), some (.builtin "object.__new__"), some (.bool true)] "Import" [(.ref 141)] [(.ref 270), (.ref 141), (.ref 127), (.type "object")] 269 [] false),
  (280, tupO [(.str (Str.ofString "template") 566), (.str (Str.ofString "names") 567), (.str (Str.ofString "with_context") 568)] 0),
  (282, dicO [en P "__module__" 561 (.str (Str.ofString "jinja2.nodes") 201), en P "__firstlineno__" 565 (.int 101 564), en P "fields" 569 (.ref 280), en P "__static_attributes__" 570 (.ref 281), en P "__doc__" 571 .none] 2),
  (283, clO (.type "type") [some (.ref 273), none, some (.str (Str.ofString "FromImport") 554), some (.str (Str.ofString "FromImport") 562), some (.builtin "object.__new__"), some (.bool true)] "FromImport" [(.ref 141)] [(.ref 283), (.ref 141), (.ref 127), (.type "object")] 282 [] false),
  (309, dicO [en P "__module__" 581 (.str (Str.ofString "jinja2.nodes") 201), en P "__firstlineno__" 585 (.int 103 584), en P "abstract" 586 (.bool true), en P "as_const" 594 (.ref 300), en P "can_assign" 601 (.ref 307), en P "__static_attributes__" 602 (.ref 308), en P "__doc__" 603 .none] 2),
  (310, clO (.type "type") [some (.ref 286), none, some (.str (Str.ofString "Expr") 574), some (.str (Str.ofString "Expr") 582), some (.builtin "object.__new__"), some (.bool true)] "Expr" [(.ref 127)] [(.ref 310), (.ref 127), (.type "object")] 309 [(.ref 330), (.ref 342), (.ref 457), (.ref 478)] false),
  (320, tupO [(.str (Str.ofString "name") 618), (.str (Str.ofString "ctx") 619)] 0),
  (329, dicO [en P "__module__" 613 (.str (Str.ofString "jinja2.nodes") 201), en P "__firstlineno__" 617 (.int 111 616), en P "fields" 620 (.ref 320), en P "can_assign" 627 (.ref 327), en P "__static_attributes__" 628 (.ref 328), en P "__doc__" 629 .none] 2),
  (330, clO (.type "type") [some (.ref 313), none, some (.str (Str.ofString "Name") 606), some (.str (Str.ofString "Name") 614), some (.builtin "object.__new__"), some (.bool true)] "Name" [(.ref 310)] [(.ref 330), (.ref 310), (.ref 127), (.type "object")] 329 [] false),
  (341, dicO [en P "__module__" 639 (.str (Str.ofString "jinja2.nodes") 201), en P "__firstlineno__" 643 (.int 116 642), en P "abstract" 644 (.bool true), en P "__static_attributes__" 645 (.ref 340), en P "__doc__" 646 .none] 2),
  (342, clO (.type "type") [some (.ref 333), none, some (.str (Str.ofString "Literal") 632), some (.str (Str.ofString "Literal") 640), some (.builtin "object.__new__"), some (.bool true)] "Literal" [(.ref 310)] [(.ref 342), (.ref 310), (.ref 127), (.type "object")] 341 [(.ref 374), (.ref 402), (.ref 423)] false),
  (352, tupO [(.str (Str.ofString "value") 661)] 0),
  (373, dicO [en P "__module__" 656 (.str (Str.ofString "jinja2.nodes") 201), en P "__firstlineno__" 660 (.int 118 659), en P "fields" 662 (.ref 352), en P "as_const" 670 (.ref 360), en P "from_untrusted" 692 (.ref 370), en P "__static_attributes__" 693 (.ref 372), en P "__doc__" 694 .none] 2),
  (374, clO (.type "type") [some (.ref 345), none, some (.str (Str.ofString "Const") 649), some (.str (Str.ofString "Const") 657), some (.builtin "object.__new__"), some (.bool true)] "Const" [(.ref 342)] [(.ref 374), (.ref 342), (.ref 310), (.ref 127), (.type "object")] 373 [] false),
  (384, tupO [(.str (Str.ofString "items") 709), (.str (Str.ofString "ctx") 710)] 0),
  (401, dicO [en P "__module__" 704 (.str (Str.ofString "jinja2.nodes") 201), en P "__firstlineno__" 708 (.int 127 707), en P "fields" 711 (.ref 384), en P "as_const" 719 (.ref 392), en P "can_assign" 726 (.ref 399), en P "__static_attributes__" 727 (.ref 400), en P "__doc__" 728 .none] 2),
  (402, clO (.type "type") [some (.ref 377), none, some (.str (Str.ofString "Tuple") 697), some (.str (Str.ofString "Tuple") 705), some (.builtin "object.__new__"), some (.bool true)] "Tuple" [(.ref 342)] [(.ref 402), (.ref 342), (.ref 310), (.ref 127), (.type "object")] 401 [] false),
  (412, tupO [(.str (Str.ofString "items") 743)] 0),
  (422, dicO [en P "__module__" 738 (.str (Str.ofString "jinja2.nodes") 201), en P "__firstlineno__" 742 (.int 135 741), en P "fields" 744 (.ref 412), en P "as_const" 752 (.ref 420), en P "__static_attributes__" 753 (.ref 421), en P "__doc__" 754 .none] 2),
  (423, clO (.type "type") [some (.ref 405), none, some (.str (Str.ofString "List") 731), some (.str (Str.ofString "List") 739), some (.builtin "object.__new__"), some (.bool true)] "List" [(.ref 342)] [(.ref 423), (.ref 342), (.ref 310), (.ref 127), (.type "object")] 422 [] false),
  (433, tupO [(.str (Str.ofString "key") 769), (.str (Str.ofString "value") 770)] 0),
  (443, dicO [en P "__module__" 764 (.str (Str.ofString "jinja2.nodes") 201), en P "__firstlineno__" 768 (.int 140 767), en P "fields" 771 (.ref 433), en P "as_const" 779 (.ref 441), en P "__static_attributes__" 780 (.ref 442), en P "__doc__" 781 .none] 2),
  (444, clO (.type "type") [some (.ref 426), none, some (.str (Str.ofString "Keyword") 757), some (.str (Str.ofString "Keyword") 765), some (.builtin "object.__new__"), some (.bool true)] "Keyword" [(.ref 153)] [(.ref 444), (.ref 153), (.ref 127), (.type "object")] 443 [] false),
  (454, tupO [(.str (Str.ofString "node") 796), (.str (Str.ofString "args") 797), (.str (Str.ofString "kwargs") 798), (.str (Str.ofString "dyn_args") 799), (.str (Str.ofString "dyn_kwargs") 800)] 0),
  (456, dicO [en P "__module__" 791 (.str (Str.ofString "jinja2.nodes") 201), en P "__firstlineno__" 795 (.int 145 794), en P "fields" 801 (.ref 454), en P "__static_attributes__" 802 (.ref 455), en P "__doc__" 803 .none] 2),
  (457, clO (.type "type") [some (.ref 447), none, some (.str (Str.ofString "Call") 784), some (.str (Str.ofString "Call") 792), some (.builtin "object.__new__"), some (.bool true)] "Call" [(.ref 310)] [(.ref 457), (.ref 310), (.ref 127), (.type "object")] 456 [] false),
  (467, tupO [(.str (Str.ofString "node") 818), (.str (Str.ofString "attr") 819), (.str (Str.ofString "ctx") 820)] 0),
  (477, dicO [en P "__module__" 813 (.str (Str.ofString "jinja2.nodes") 201), en P "__firstlineno__" 817 (.int 147 816), en P "fields" 821 (.ref 467), en P "as_const" 829 (.ref 475), en P "__static_attributes__" 830 (.ref 476), en P "__doc__" 831 .none] 2),
  (478, clO (.type "type") [some (.ref 460), none, some (.str (Str.ofString "Getattr") 806), some (.str (Str.ofString "Getattr") 814), some (.builtin "object.__new__"), some (.bool true)] "Getattr" [(.ref 310)] [(.ref 478), (.ref 310), (.ref 127), (.type "object")] 477 [] false),
  (481, tupO [(.str (Str.ofString "_") 836), (.str (Str.ofString "gettext") 837), (.str (Str.ofString "ngettext") 838), (.str (Str.ofString "pgettext") 839), (.str (Str.ofString "npgettext") 840)] 0),
  (482, tupO [(.ref 481), (.bool true)] 0),
  (488, codO [(.str (Str.ofString "extract_from_ast") 842), (.str (Str.ofString "extract_from_ast") 843), (.str (Str.ofString "/claim/cut.py") 844), (.int 154 0), (.int 3 0), (.int 0 0), (.int 0 0), (.int 35 0), (.ref 483), (.bool true), (.int 181 0), (.ref 484), .none, (.ref 485), (.ref 486), (.ref 487), (.int 853 0), (.int 154 0), (.str (Str.ofString "/claim/cut.py") 854)]),
  (489, fnO (stm 27) "extract_from_ast" (.ref 482) (.str (Str.ofString "jinja2.ext") 834) (.ref 488)),
  (490, tupO [(.ref 192), (.ref 283), (.ref 270), (.ref 257)] 0),
  (496, codO [(.str (Str.ofString "find_referenced_templates") 859), (.str (Str.ofString "find_referenced_templates") 860), (.str (Str.ofString "/claim/cut.py") 861), (.int 182 0), (.int 1 0), (.int 0 0), (.int 0 0), (.int 35 0), (.ref 491), (.bool true), (.int 181 0), (.ref 492), .none, (.ref 493), (.ref 494), (.ref 495), (.int 866 0), (.int 182 0), (.str (Str.ofString "/claim/cut.py") 867)]),
  (497, fnO (stm 30) "find_referenced_templates" .none (.str (Str.ofString "jinja2.meta") 856) (.ref 496)),
  (503, codO [(.str (Str.ofString "_LAW_USUAL") 871), (.str (Str.ofString "_LAW_USUAL") 872), (.str (Str.ofString "/claim/cut.py") 873), (.int 206 0), (.int 0 0), (.int 0 0), (.int 0 0), (.int 3 0), (.ref 498), (.bool true), (.int 181 0), (.ref 499), .none, (.ref 500), (.ref 501), (.ref 502), (.int 874 0), (.int 206 0), (.str (Str.ofString "/claim/cut.py") 875)]),
  (504, fnO (stm 32) "_LAW_USUAL" .none (.str (Str.ofString "law_ez0131_01") 869) (.ref 503)),
  (510, codO [(.str (Str.ofString "_law_draw") 877), (.str (Str.ofString "_law_draw") 878), (.str (Str.ofString "/claim/cut.py") 879), (.int 208 0), (.int 1 0), (.int 0 0), (.int 0 0), (.int 3 0), (.ref 505), (.bool true), (.int 181 0), (.ref 506), .none, (.ref 507), (.ref 508), (.ref 509), (.int 881 0), (.int 208 0), (.str (Str.ofString "/claim/cut.py") 882)]),
  (511, fnO (stm 33) "_law_draw" .none (.str (Str.ofString "law_ez0131_01") 869) (.ref 510)),
  (517, codO [(.str (Str.ofString "_law_value") 884), (.str (Str.ofString "_law_value") 885), (.str (Str.ofString "/claim/cut.py") 886), (.int 210 0), (.int 2 0), (.int 0 0), (.int 0 0), (.int 3 0), (.ref 512), (.bool true), (.int 181 0), (.ref 513), .none, (.ref 514), (.ref 515), (.ref 516), (.int 893 0), (.int 210 0), (.str (Str.ofString "/claim/cut.py") 894)]),
  (518, fnO (stm 34) "_law_value" .none (.str (Str.ofString "law_ez0131_01") 869) (.ref 517)),
  (524, codO [(.str (Str.ofString "_law_call") 896), (.str (Str.ofString "_law_call") 897), (.str (Str.ofString "/claim/cut.py") 898), (.int 221 0), (.int 2 0), (.int 0 0), (.int 0 0), (.int 3 0), (.ref 519), (.bool true), (.int 181 0), (.ref 520), .none, (.ref 521), (.ref 522), (.ref 523), (.int 917 0), (.int 221 0), (.str (Str.ofString "/claim/cut.py") 918)]),
  (525, fnO (stm 35) "_law_call" .none (.str (Str.ofString "law_ez0131_01") 869) (.ref 524)),
  (529, codO [(.str (Str.ofString "_law_place") 920), (.str (Str.ofString "_law_place") 921), (.str (Str.ofString "/claim/cut.py") 922), (.int 250 0), (.int 2 0), (.int 0 0), (.int 0 0), (.int 3 0), (.ref 526), (.bool true), (.int 181 0), (.ref 527), .none, .none, .none, (.ref 528), (.int 923 0), (.int 250 0), (.str (Str.ofString "/claim/cut.py") 924)]),
  (530, fnO (stm 36) "_law_place" .none (.str (Str.ofString "law_ez0131_01") 869) (.ref 529)),
  (536, codO [(.str (Str.ofString "_law_body") 926), (.str (Str.ofString "_law_body") 927), (.str (Str.ofString "/claim/cut.py") 928), (.int 266 0), (.int 2 0), (.int 0 0), (.int 0 0), (.int 3 0), (.ref 531), (.bool true), (.int 181 0), (.ref 532), .none, (.ref 533), (.ref 534), (.ref 535), (.int 938 0), (.int 266 0), (.str (Str.ofString "/claim/cut.py") 939)]),
  (537, fnO (stm 37) "_law_body" .none (.str (Str.ofString "law_ez0131_01") 869) (.ref 536)),
  (543, codO [(.str (Str.ofString "_law_statement") 941), (.str (Str.ofString "_law_statement") 942), (.str (Str.ofString "/claim/cut.py") 943), (.int 274 0), (.int 2 0), (.int 0 0), (.int 0 0), (.int 3 0), (.ref 538), (.bool true), (.int 181 0), (.ref 539), .none, (.ref 540), (.ref 541), (.ref 542), (.int 959 0), (.int 274 0), (.str (Str.ofString "/claim/cut.py") 960)]),
  (544, fnO (stm 38) "_law_statement" .none (.str (Str.ofString "law_ez0131_01") 869) (.ref 543)),
  (548, codO [(.str (Str.ofString "_law_wanted") 962), (.str (Str.ofString "_law_wanted") 963), (.str (Str.ofString "/claim/cut.py") 964), (.int 298 0), (.int 3 0), (.int 0 0), (.int 0 0), (.int 3 0), (.ref 545), (.bool true), (.int 181 0), (.ref 546), .none, .none, .none, (.ref 547), (.int 965 0), (.int 298 0), (.str (Str.ofString "/claim/cut.py") 966)]),
  (549, fnO (stm 39) "_law_wanted" .none (.str (Str.ofString "law_ez0131_01") 869) (.ref 548)),
  (553, codO [(.str (Str.ofString "law") 968), (.str (Str.ofString "law") 969), (.str (Str.ofString "/claim/cut.py") 970), (.int 308 0), (.int 1 0), (.int 0 0), (.int 0 0), (.int 3 0), (.ref 550), (.bool true), (.int 181 0), (.ref 551), .none, .none, .none, (.ref 552), (.int 971 0), (.int 308 0), (.str (Str.ofString "/claim/cut.py") 972)]),
  (554, fnO (stm 40) "law" .none (.str (Str.ofString "law_ez0131_01") 869) (.ref 553))]
def fd28 : FuncData := fdO (stm 1) "_pe_name" .none (.str (Str.ofString "__main__") 164) (.ref 27)
theorem k28 (P : Params) : (KK P).lookup 28 = some ⟨.type "function", none, .func fd28, #[]⟩ := by kernel_rfl
theorem c28 (P : Params) : codeIn (KK P) fd28.code fd28.qualname = true := by kernel_rfl
def fd44 : FuncData := fdO (mth 3 3) "Node.__getattr__" .none (.str (Str.ofString "jinja2.nodes") 201) (.ref 43)
theorem k44 (P : Params) : (KK P).lookup 44 = some ⟨.type "function", none, .func fd44, #[]⟩ := by kernel_rfl
theorem c44 (P : Params) : codeIn (KK P) fd44.code fd44.qualname = true := by kernel_rfl
def fd51 : FuncData := fdO (mth 3 4) "Node.__init__" .none (.str (Str.ofString "jinja2.nodes") 201) (.ref 50)
theorem k51 (P : Params) : (KK P).lookup 51 = some ⟨.type "function", none, .func fd51, #[]⟩ := by kernel_rfl
theorem c51 (P : Params) : codeIn (KK P) fd51.code fd51.qualname = true := by kernel_rfl
def fd59 : FuncData := fdO (mth 3 5) "Node.iter_fields" (.ref 52) (.str (Str.ofString "jinja2.nodes") 201) (.ref 58)
theorem k59 (P : Params) : (KK P).lookup 59 = some ⟨.type "function", none, .func fd59, #[]⟩ := by kernel_rfl
theorem c59 (P : Params) : codeIn (KK P) fd59.code fd59.qualname = true := by kernel_rfl
def fd67 : FuncData := fdO (mth 3 6) "Node.iter_child_nodes" (.ref 60) (.str (Str.ofString "jinja2.nodes") 201) (.ref 66)
theorem k67 (P : Params) : (KK P).lookup 67 = some ⟨.type "function", none, .func fd67, #[]⟩ := by kernel_rfl
theorem c67 (P : Params) : codeIn (KK P) fd67.code fd67.qualname = true := by kernel_rfl
def fd81 : FuncData := fdO (mth 3 8) "Node.find_all" .none (.str (Str.ofString "jinja2.nodes") 201) (.ref 80)
theorem k81 (P : Params) : (KK P).lookup 81 = some ⟨.type "function", none, .func fd81, #[]⟩ := by kernel_rfl
theorem c81 (P : Params) : codeIn (KK P) fd81.code fd81.qualname = true := by kernel_rfl
def fd489 : FuncData := fdO (stm 27) "extract_from_ast" (.ref 482) (.str (Str.ofString "jinja2.ext") 834) (.ref 488)
theorem k489 (P : Params) : (KK P).lookup 489 = some ⟨.type "function", none, .func fd489, #[]⟩ := by kernel_rfl
theorem c489 (P : Params) : codeIn (KK P) fd489.code fd489.qualname = true := by kernel_rfl
def fd497 : FuncData := fdO (stm 30) "find_referenced_templates" .none (.str (Str.ofString "jinja2.meta") 856) (.ref 496)
theorem k497 (P : Params) : (KK P).lookup 497 = some ⟨.type "function", none, .func fd497, #[]⟩ := by kernel_rfl
theorem c497 (P : Params) : codeIn (KK P) fd497.code fd497.qualname = true := by kernel_rfl
def fd504 : FuncData := fdO (stm 32) "_LAW_USUAL" .none (.str (Str.ofString "law_ez0131_01") 869) (.ref 503)
theorem k504 (P : Params) : (KK P).lookup 504 = some ⟨.type "function", none, .func fd504, #[]⟩ := by kernel_rfl
theorem c504 (P : Params) : codeIn (KK P) fd504.code fd504.qualname = true := by kernel_rfl
def fd511 : FuncData := fdO (stm 33) "_law_draw" .none (.str (Str.ofString "law_ez0131_01") 869) (.ref 510)
theorem k511 (P : Params) : (KK P).lookup 511 = some ⟨.type "function", none, .func fd511, #[]⟩ := by kernel_rfl
theorem c511 (P : Params) : codeIn (KK P) fd511.code fd511.qualname = true := by kernel_rfl
def fd518 : FuncData := fdO (stm 34) "_law_value" .none (.str (Str.ofString "law_ez0131_01") 869) (.ref 517)
theorem k518 (P : Params) : (KK P).lookup 518 = some ⟨.type "function", none, .func fd518, #[]⟩ := by kernel_rfl
theorem c518 (P : Params) : codeIn (KK P) fd518.code fd518.qualname = true := by kernel_rfl
def fd525 : FuncData := fdO (stm 35) "_law_call" .none (.str (Str.ofString "law_ez0131_01") 869) (.ref 524)
theorem k525 (P : Params) : (KK P).lookup 525 = some ⟨.type "function", none, .func fd525, #[]⟩ := by kernel_rfl
theorem c525 (P : Params) : codeIn (KK P) fd525.code fd525.qualname = true := by kernel_rfl
def fd530 : FuncData := fdO (stm 36) "_law_place" .none (.str (Str.ofString "law_ez0131_01") 869) (.ref 529)
theorem k530 (P : Params) : (KK P).lookup 530 = some ⟨.type "function", none, .func fd530, #[]⟩ := by kernel_rfl
theorem c530 (P : Params) : codeIn (KK P) fd530.code fd530.qualname = true := by kernel_rfl
def fd537 : FuncData := fdO (stm 37) "_law_body" .none (.str (Str.ofString "law_ez0131_01") 869) (.ref 536)
theorem k537 (P : Params) : (KK P).lookup 537 = some ⟨.type "function", none, .func fd537, #[]⟩ := by kernel_rfl
theorem c537 (P : Params) : codeIn (KK P) fd537.code fd537.qualname = true := by kernel_rfl
def fd544 : FuncData := fdO (stm 38) "_law_statement" .none (.str (Str.ofString "law_ez0131_01") 869) (.ref 543)
theorem k544 (P : Params) : (KK P).lookup 544 = some ⟨.type "function", none, .func fd544, #[]⟩ := by kernel_rfl
theorem c544 (P : Params) : codeIn (KK P) fd544.code fd544.qualname = true := by kernel_rfl
def fd549 : FuncData := fdO (stm 39) "_law_wanted" .none (.str (Str.ofString "law_ez0131_01") 869) (.ref 548)
theorem k549 (P : Params) : (KK P).lookup 549 = some ⟨.type "function", none, .func fd549, #[]⟩ := by kernel_rfl
theorem c549 (P : Params) : codeIn (KK P) fd549.code fd549.qualname = true := by kernel_rfl
def fd554 : FuncData := fdO (stm 40) "law" .none (.str (Str.ofString "law_ez0131_01") 869) (.ref 553)
theorem k554 (P : Params) : (KK P).lookup 554 = some ⟨.type "function", none, .func fd554, #[]⟩ := by kernel_rfl
theorem c554 (P : Params) : codeIn (KK P) fd554.code fd554.qualname = true := by kernel_rfl
end

section
open PySem PySem.W PySem.Calls PyProof.Rows
-- heaps that hold at least what another holds
abbrev Le (h h' : Heap) : Prop := ∀ b o, h.get? b = some o → h'.get? b = some o
theorem Le.refl (h : Heap) : Le h h := fun _ _ e => e
theorem Le.trans {a b c : Heap} (x : Le a b) (y : Le b c) : Le a c := fun q o e => y q o (x q o e)

abbrev Cell := Addr × (Obj → Prop)
structure Wf (h₀ : Heap) (l : List Cell) (h : Heap) : Prop where
  keep : Le h₀ h
  own : ∀ c ∈ l, ∃ o, h.get? c.1 = some o ∧ c.2 o ∧ h₀.get? c.1 = none
  nd : (l.map (·.1)).Nodup
structure Gf (gl : List (Nat × GenState)) (g : Array GenState) : Prop where
  own : ∀ p ∈ gl, g[p.1]? = some p.2
  nd : (gl.map (·.1)).Nodup

structure Bs (w : World) (h₀ : Heap) : Prop where
  K : (KK w.params).In h₀
  lim : h₀.NoLimit
  g : ∃ mg, h₀.Ns mainGlobals mg
  b : ∃ mb, h₀.Ns builtinsNs mb ∧ ∀ x : Str, x ≠ "__name__" → mb x = bootBuiltins x
theorem Bs.le {w : World} {h h' : Heap} (x : Bs w h) (k : Le h h') : Bs w h' :=
  ⟨x.K.keeps k, x.lim.keeps k, let ⟨mg, a⟩ := x.g; ⟨mg, a.keeps k⟩, let ⟨mb, a, b⟩ := x.b; ⟨mb, a.keeps k, b⟩⟩

-- the table of the codes made within extract_from_ast (at 484): it alone of the old objects may grow
def TbO (o : Obj) : Prop := ∃ ps : List Value, o = X.tableObj ps.toArray ∧ TriplesOk ps
theorem Wf.sub {h₀ h : Heap} {l l' : List Cell} (x : Wf h₀ l h) (hs : l'.Sublist l) : Wf h₀ l' h := ⟨x.keep, fun c hc => x.own c (hs.subset hc), (hs.map _).nodup x.nd⟩
theorem Wf.perm {h₀ h : Heap} {l l' : List Cell} (x : Wf h₀ l h) (hs : l'.Perm l) : Wf h₀ l' h := ⟨x.keep, fun c hc => x.own c (hs.mem_iff.mp hc), (hs.map _).nodup_iff.mpr x.nd⟩
structure St (w : World) (os : OsState) (h₀ : Heap) (l : List Cell) (gl : List (Nat × GenState)) (s : Shared) : Prop where
  bs : Bs w h₀
  hq : Wf h₀ (((484 : Nat), TbO) :: l) s.heap
  gn : Gf gl s.gens
  bare : ∀ (i : Nat) x, s.gens[i]? = some x → x.bare = true ∨ i ∈ gl.map (·.1)
  os : s.os = os

section
variable {w : World} {os : OsState} {h₀ h₁ : Heap} {l l' : List Cell} {gl : List (Nat × GenState)} {s s' : Shared}

theorem St.hp (x : St w os h₀ l gl s) : Wf h₀ l s.heap := x.hq.sub (List.sublist_cons_self _ _)
theorem St.amb (x : St w os h₀ l gl s) : ∃ o, s.heap.get? 484 = some o ∧ TbO o ∧ h₀.get? 484 = none := x.hq.own (484, TbO) (List.mem_cons_self ..)
theorem St.ne (x : St w os h₀ l gl s) : ∀ c ∈ l, c.1 ≠ 484 := fun c hc e => (List.nodup_cons.mp x.hq.nd).1 (e ▸ List.mem_map_of_mem (f := (·.1)) hc)
theorem St.to (x : St w os h₀ l gl s) (hw : Wf h₀ l' s'.heap) (hg : s'.gens = s.gens) (ho : s'.os = s.os) (hA : ∀ o, s.heap.get? 484 = some o → s'.heap.get? 484 = some o) (hN : ∀ c ∈ l', c.1 ≠ 484) : St w os h₀ l' gl s' := by
  refine ⟨x.bs, ⟨hw.keep, fun c hc => ?_, ?_⟩, hg ▸ x.gn, hg ▸ x.bare, ho.trans x.os⟩
  · rcases List.mem_cons.mp hc with rfl | hc
    · obtain ⟨o, a, b, d⟩ := x.amb
      exact ⟨o, hA o a, b, d⟩
    · exact hw.own c hc
  · refine List.nodup_cons.mpr ⟨fun hm => ?_, hw.nd⟩
    obtain ⟨c, hc, e⟩ := List.mem_map.mp hm
    exact hN c hc e
theorem St.ambTurn (x : St w os h₀ l gl s) {o' : Obj} (hk : ∀ b o, b ≠ 484 → s.heap.get? b = some o → s'.heap.get? b = some o) (ho' : s'.heap.get? 484 = some o') (hP : TbO o') (hg : s'.gens = s.gens) (ho : s'.os = s.os) : St w os h₀ l gl s' := by
  obtain ⟨o, a, b, d⟩ := x.amb
  refine ⟨x.bs, ⟨fun b o e => hk b o (fun q => by rw [q, d] at e; cases e) (x.hp.keep b o e), fun c hc => ?_, x.hq.nd⟩, hg ▸ x.gn, hg ▸ x.bare, ho.trans x.os⟩
  rcases List.mem_cons.mp hc with rfl | hc
  · exact ⟨o', ho', hP, d⟩
  · obtain ⟨o, e1, e2, e3⟩ := x.hp.own c hc
    exact ⟨o, hk _ _ (x.ne c hc) e1, e2, e3⟩

theorem Wf.ext {h h' : Heap} (x : Wf h₀ l h) (k : Le h h') : Wf h₀ l h' :=
  ⟨x.keep.trans k, fun c hc => let ⟨o, a, b, d⟩ := x.own c hc; ⟨o, k _ _ a, b, d⟩, x.nd⟩
theorem St.ext (x : St w os h₀ l gl s) (k : Le s.heap s'.heap) (hg : s'.gens = s.gens) (ho : s'.os = s.os) : St w os h₀ l gl s' := x.to (x.hp.ext k) hg ho (fun o e => k _ _ e) x.ne

theorem nodup_at {α : Type} {l : List α} (nd : l.Nodup) {i j : Nat} (hi : i < l.length) (hj : j < l.length) (h : l[i] = l[j]) : i = j := by
  rcases Nat.lt_trichotomy i j with q | q | q
  · exact absurd h ((List.pairwise_iff_getElem.mp nd) i j hi hj q)
  · exact q
  · exact absurd h.symm ((List.pairwise_iff_getElem.mp nd) j i hj hi q)
-- one cell's object is turned
theorem Wf.at {h : Heap} (x : Wf h₀ l h) {i : Nat} {a : Addr} {P : Obj → Prop} (hi : l[i]? = some (a, P)) : ∃ o, h.get? a = some o ∧ P o ∧ h₀.get? a = none :=
  x.own (a, P) (List.mem_of_getElem? hi)
theorem Wf.turn {h h' : Heap} (x : Wf h₀ l h) {i : Nat} {a : Addr} {P P' : Obj → Prop} {o' : Obj} (hi : l[i]? = some (a, P)) (hk : ∀ b o, b ≠ a → h.get? b = some o → h'.get? b = some o)
    (ha : h'.get? a = some o') (hP : P' o') : Wf h₀ (l.set i (a, P')) h' := by
  obtain ⟨o, ho, _, hn⟩ := x.at hi
  obtain ⟨hil, hie⟩ := List.getElem?_eq_some_iff.mp hi
  have hm : (l.set i (a, P')).map (·.1) = l.map (·.1) := by
    rw [List.map_set]
    have : (l.map (·.1))[i]? = some a := by rw [List.getElem?_map, hi]; rfl
    exact X.set_same this
  refine ⟨fun b ob e => hk b ob (fun q => by subst q; rw [hn] at e; cases e) (x.keep b ob e), fun c hc => ?_, by rw [hm]; exact x.nd⟩
  rcases List.getElem_of_mem hc with ⟨j, hj, rfl⟩
  rw [List.getElem_set]
  split
  · exact ⟨o', ha, hP, hn⟩
  · rename_i hij
    have hjl : j < l.length := by simpa using hj
    obtain ⟨ob, e1, e2, e3⟩ := x.own l[j] (List.getElem_mem hjl)
    refine ⟨ob, hk _ _ (fun q => hij ?_) e1, e2, e3⟩
    have nd := x.nd
    have h1 : (l.map (·.1))[i]'(by simpa using hil) = (l.map (·.1))[j]'(by simpa using hjl) := by
      simp only [List.getElem_map]; rw [q, hie]
    exact nodup_at nd _ _ h1
theorem St.turn (x : St w os h₀ l gl s) {i : Nat} {a : Addr} {P P' : Obj → Prop} {o' : Obj} (hi : l[i]? = some (a, P)) (hk : ∀ b o, b ≠ a → s.heap.get? b = some o → s'.heap.get? b = some o)
    (ha : s'.heap.get? a = some o') (hP : P' o') (hg : s'.gens = s.gens) (ho : s'.os = s.os) : St w os h₀ (l.set i (a, P')) gl s' := 
  have hne : a ≠ 484 := x.ne (a, P) (List.mem_of_getElem? hi)
  x.to (x.hp.turn hi hk ha hP) hg ho (fun o e => hk _ _ (Ne.symm hne) e) fun c hc => by
    rcases List.mem_or_eq_of_mem_set hc with hc | rfl
    · exact x.ne c hc
    · exact hne
theorem St.at (x : St w os h₀ l gl s) {i : Nat} {a : Addr} {P : Obj → Prop} (hi : l[i]? = some (a, P)) : ∃ o, s.heap.get? a = some o ∧ P o :=
  let ⟨o, a, b, _⟩ := x.hp.at hi; ⟨o, a, b⟩
theorem St.old (x : St w os h₀ l gl s) {a : Addr} {o : Obj} (e : h₀.get? a = some o) : s.heap.get? a = some o := x.hp.keep a o e

-- a cell more: an object made
theorem Wf.push {h : Heap} (x : Wf h₀ l h) {o : Obj} (hf : o.isFreed = false) {P : Obj → Prop} (hP : P o) : Wf h₀ ((h.objs.size, P) :: l) (h.push o) := by
  have fresh : ∀ {g : Heap}, Le g h → g.get? h.objs.size = none := fun {g} k => by
    cases e : g.get? h.objs.size with
    | none => rfl
    | some o' => exact absurd (Heap.lt_size (k _ _ e)) (Nat.lt_irrefl _)
  refine ⟨fun b o' e => Heap.get?_push_of_some _ (x.keep b o' e), fun c hc => ?_, ?_⟩
  · rcases List.mem_cons.mp hc with rfl | hc
    · exact ⟨o, Heap.get?_push_size _ hf, hP, fresh x.keep⟩
    · obtain ⟨o', a, b, d⟩ := x.own c hc
      exact ⟨o', Heap.get?_push_of_some _ a, b, d⟩
  · refine List.nodup_cons.mpr ⟨fun hm => ?_, x.nd⟩
    obtain ⟨c, hc, e⟩ := List.mem_map.mp hm
    obtain ⟨o', a, _⟩ := x.own c hc
    rw [e] at a
    exact absurd (Heap.lt_size a) (Nat.lt_irrefl _)
-- a cell more: an address beyond the old heap
theorem Wf.more {h h' : Heap} (x : Wf h₀ l h) {a : Addr} {o : Obj} (k : Le h h') (hn : h.get? a = none) (ha : h'.get? a = some o) {P : Obj → Prop} (hP : P o) : Wf h₀ ((a, P) :: l) h' := by
  have hn₀ : h₀.get? a = none := by
    cases e : h₀.get? a with
    | none => rfl
    | some o' => rw [x.keep _ _ e] at hn; cases hn
  refine ⟨x.keep.trans k, fun c hc => ?_, ?_⟩
  · rcases List.mem_cons.mp hc with rfl | hc
    · exact ⟨o, ha, hP, hn₀⟩
    · obtain ⟨o', p, q, r⟩ := x.own c hc
      exact ⟨o', k _ _ p, q, r⟩
  · refine List.nodup_cons.mpr ⟨fun hm => ?_, x.nd⟩
    obtain ⟨c, hc, e⟩ := List.mem_map.mp hm
    obtain ⟨o', p, _⟩ := x.own c hc
    rw [e, hn] at p; cases p
theorem St.push (x : St w os h₀ l gl s) {o : Obj} (hf : o.isFreed = false) {P : Obj → Prop} (hP : P o) (hh : s'.heap = s.heap.push o) (hg : s'.gens = s.gens) (ho : s'.os = s.os) :
    St w os h₀ ((s.heap.objs.size, P) :: l) gl s' := x.to (hh ▸ x.hp.push hf hP) hg ho (fun o e => by rw [hh]; exact Heap.get?_push_of_some _ e) fun c hc => by
    rcases List.mem_cons.mp hc with rfl | hc
    · intro e
      obtain ⟨o, a, _⟩ := x.amb
      have := Heap.lt_size a
      have e' : s.heap.objs.size = 484 := e
      rw [e'] at this
      exact Nat.lt_irrefl _ this
    · exact x.ne c hc
theorem fresh_none (h : Heap) {a : Addr} (ha : h.objs.size ≤ a) : h.get? a = none := by
  cases e : h.get? a with
  | none => rfl
  | some o => exact absurd (Heap.lt_size e) (Nat.not_lt.mpr ha)
theorem St.more (x : St w os h₀ l gl s) {a : Addr} {o : Obj} (k : Le s.heap s'.heap) (hn : s.heap.get? a = none) (ha : s'.heap.get? a = some o) {P : Obj → Prop} (hP : P o) (hg : s'.gens = s.gens) (ho : s'.os = s.os) :
    St w os h₀ ((a, P) :: l) gl s' := x.to (x.hp.more k hn ha hP) hg ho (fun o e => k _ _ e) fun c hc => by
    rcases List.mem_cons.mp hc with rfl | hc
    · intro e
      obtain ⟨o, q, _⟩ := x.amb
      have e' : a = 484 := e
      rw [← e', hn] at q
      cases q
    · exact x.ne c hc

-- cells forgotten, reordered, weakened
theorem St.sub (x : St w os h₀ l gl s) (hs : l'.Sublist l) : St w os h₀ l' gl s := x.to (x.hp.sub hs) rfl rfl (fun _ e => e) fun c hc => x.ne c (hs.subset hc)
theorem St.perm (x : St w os h₀ l gl s) (hs : l'.Perm l) : St w os h₀ l' gl s := x.to (x.hp.perm hs) rfl rfl (fun _ e => e) fun c hc => x.ne c (hs.mem_iff.mp hc)
theorem St.weak (x : St w os h₀ l gl s) {i : Nat} {a : Addr} {P P' : Obj → Prop} (hi : l[i]? = some (a, P)) (h : ∀ o, P o → P' o) : St w os h₀ (l.set i (a, P')) gl s := by
  obtain ⟨o, ho, hP⟩ := x.at hi
  exact x.turn hi (fun _ _ _ e => e) ho (h o hP) rfl rfl

-- the first cells become part of the written heap
theorem Wf.freeze {h : Heap} {l₁ l₂ : List Cell} (x : Wf h₀ (l₁ ++ l₂) h) : ∃ h₀', Le h₀ h₀' ∧ (∀ c ∈ l₁, ∃ o, h₀'.get? c.1 = some o ∧ c.2 o) ∧ Wf h₀' l₂ h := by
  have nd := x.nd
  rw [List.map_append, List.nodup_append] at nd
  refine ⟨hideAll h (l₂.map (·.1)), fun b o e => hideAll_get _ (x.keep b o e) fun hm => ?_, fun c hc => ?_, ⟨fun b o e => of_hideAll _ e, fun c hc => ?_, nd.2.1⟩⟩
  · obtain ⟨c, hc, rfl⟩ := List.mem_map.mp hm
    obtain ⟨o', _, _, hn⟩ := x.own c (List.mem_append_right _ hc)
    rw [hn] at e; cases e
  · obtain ⟨o, ho, hP, _⟩ := x.own c (List.mem_append_left _ hc)
    exact ⟨o, hideAll_get _ ho fun hm => nd.2.2 c.1 (List.mem_map_of_mem hc) c.1 hm rfl, hP⟩
  · obtain ⟨o, ho, hP, _⟩ := x.own c (List.mem_append_right _ hc)
    exact ⟨o, ho, hP, hideAll_none _ (List.mem_map_of_mem hc)⟩
theorem St.freeze {l₁ l₂ : List Cell} (x : St w os h₀ (l₁ ++ l₂) gl s) : ∃ h₀', Le h₀ h₀' ∧ (∀ c ∈ l₁, ∃ o, h₀'.get? c.1 = some o ∧ c.2 o) ∧ St w os h₀' l₂ gl s := by
  obtain ⟨h₀', k, a, b⟩ := Wf.freeze (l₂ := ((484 : Nat), TbO) :: l₂) (x.hq.perm List.perm_middle)
  exact ⟨h₀', k, a, x.bs.le k, b, x.gn, x.bare, x.os⟩
theorem St.froze {a : Addr} {P : Obj → Prop} (x : St w os h₀ ((a, P) :: l) gl s) : ∃ h₀' o, Le h₀ h₀' ∧ h₀'.get? a = some o ∧ P o ∧ St w os h₀' l gl s := by
  obtain ⟨h₀', k, f, y⟩ := St.freeze (l₁ := [(a, P)]) x
  obtain ⟨o, e, hP⟩ := f _ (List.mem_singleton.mpr rfl)
  exact ⟨h₀', o, k, e, hP, y⟩
end

-- locals
def getV : List (String × Option Value) → Str → Option Value
  | [], _ => none
  | (x, v) :: r, n => if n = Str.ofString x then v else getV r n
def setV : List (String × Option Value) → String → Value → List (String × Option Value)
  | [], x, v => [(x, some v)]
  | (y, u) :: r, x, v => if x = y then (y, some v) :: r else (y, u) :: setV r x v
theorem ofString_inj {a b : String} (h : Str.ofString a = Str.ofString b) : a = b := by
  rw [Str.ofString_eq_toList, Str.ofString_eq_toList] at h
  have h1 := congrArg Str.cps h
  have h2 : a.toList.map Char.toNat = b.toList.map Char.toNat := by simpa using congrArg Array.toList h1
  have inj : ∀ x y : List Char, x.map Char.toNat = y.map Char.toNat → x = y := by
    intro x
    induction x with
    | nil => intro y h; cases y with | nil => rfl | cons => simp at h
    | cons c r ih =>
      intro y h
      cases y with
      | nil => simp at h
      | cons d q =>
        simp only [List.map_cons, List.cons.injEq] at h
        have : c = d := by
          apply Char.ext
          exact UInt32.toNat_inj.mp h.1
        rw [this, ih q h.2]
  exact String.toList_inj.mp (inj _ _ h2)
theorem getV_setV (v : Value) (x : String) : ∀ (al : List (String × Option Value)) (n : Str), getV (setV al x v) n = if n = Str.ofString x then some v else getV al n
  | [], n => rfl
  | (y, u) :: r, n => by
    unfold setV
    split
    · rename_i h
      subst h
      unfold getV
      split <;> rfl
    · rename_i h
      simp only [getV]
      rw [getV_setV v x r n]
      by_cases h1 : n = Str.ofString y
      · rw [if_pos h1, if_pos h1, if_neg]
        intro h2
        exact h (ofString_inj (h2.symm.trans h1))
      · rw [if_neg h1, if_neg h1]
def NsO (al : List (String × Option Value)) (o : Obj) : Prop := ∃ es ep, o.data = .dict es ep ∧ StrKeys es ∧ ∀ n v, getV al n = some v → nsFind es n = some v
section
variable {w : World} {os : OsState} {h₀ h₁ : Heap} {l l' : List Cell} {gl : List (Nat × GenState)} {s s' : Shared} {M : Model} {A : Around} {E : Value → Shared → Prop} {env : Env} {i : Nat} {al : List (String × Option Value)}
theorem St.ns {L : Addr} (x : St w os h₀ l gl s) (hi : l[i]? = some (L, NsO al)) : ∃ m, s.heap.Ns L m ∧ ∀ n v, getV al n = some v → m n = some v :=
  let ⟨o, ho, es, ep, a, b, c⟩ := x.at hi; ⟨fun n => nsFind es n, ⟨o, es, ep, ho, a, b, fun _ => rfl⟩, c⟩
theorem ns_cell {h : Heap} {L : Addr} {m : Str → Option Value} (n : h.Ns L m) (e : ∀ y v, getV al y = some v → m y = some v) : ∃ o, h.get? L = some o ∧ NsO al o :=
  let ⟨o, es, ep, ho, a, b, c⟩ := n; ⟨o, ho, es, ep, a, b, fun y v q => (c y).trans (e y v q)⟩
theorem NsO.weak {al al' : List (String × Option Value)} {o : Obj} (x : NsO al o) (e : ∀ y v, getV al' y = some v → getV al y = some v) : NsO al' o :=
  let ⟨es, ep, a, b, c⟩ := x; ⟨es, ep, a, b, fun y v q => c y v (e y v q)⟩

theorem r_local {L : Addr} {x : String} {pos : Pos} {v : Value} {Q : Value → Shared → Prop} (hS : St w os h₀ ((L, NsO al) :: l) gl s) (hv : getV al (Str.ofString x) = some v) (h : Q v s)
    (hL : env.locals = L := by rfl) (hk : env.scope.kind = .function := by rfl) (hl : env.kindOf (Str.ofString x) = some .local := by rfl) (hd : (Str.ofString x == ("__debug__" : Str)) = false := by decide) :
    wpAny M A (eval (.Name (Str.ofString x) pos) env) Q E s := by
  subst hL
  obtain ⟨m, hm, he⟩ := hS.ns (i := 0) rfl
  exact wpAny_Name (wpAny_loadName_local hk hl hm (he _ _ hv) h) hd
theorem r_store {L : Addr} {al' : List (String × Option Value)} {x : String} {v : Value} {Q : Unit → Shared → Prop} (hS : St w os h₀ ((L, NsO al) :: l) gl s) (e : setV al x v = al')
    (h : ∀ s', St w os h₀ ((L, NsO al') :: l) gl s' → Q () s')
    (hL : env.locals = L := by rfl) (hl : env.kindOf (Str.ofString x) = some .local := by rfl) (hp : (env.scope.kind == .class || (env.scope.kind == .module && env.locals != env.globals)) = false := by rfl) :
    wpAny M A (storeName env (Str.ofString x) v) Q E s :=
  by
  subst hL e
  obtain ⟨m, hm, he⟩ := hS.ns (i := 0) rfl
  exact wpAny_storeName_local hl hm (fun h' hn hs => by
    obtain ⟨o, ho, hP⟩ := ns_cell (al := setV al x v) hn (fun y v' q => by
      rw [getV_setV] at q
      by_cases e : y = Str.ofString x
      · rw [if_pos e] at q ⊢; exact q
      · rw [if_neg e] at q ⊢; exact he y v' q)
    exact h _ (hS.turn (i := 0) rfl (fun b o' hb e => hs.extBut b o' hb e) ho hP rfl rfl)) hp
theorem r_global {x : String} {pos : Pos} {v : Value} {Q : Value → Shared → Prop} (hS : St w os h₀ l gl s) (e : nsIn (KK w.params) mainGlobals (Str.ofString x) = some (some v)) (h : Q v s)
    (hg : env.globals = mainGlobals := by rfl) (hk : env.scope.kind = .function := by rfl) (hl : env.kindOf (Str.ofString x) = some .globalImplicit := by rfl) (hd : (Str.ofString x == ("__debug__" : Str)) = false := by decide) :
    wpAny M A (eval (.Name (Str.ofString x) pos) env) Q E s := by
  obtain ⟨mg, hm⟩ := hS.bs.g
  exact Calls.Name_function_global hk hl (Calls.loadGlobal_global (hg ▸ hm.keeps hS.hp.keep) (mg_of hS.bs.K hm e) h) hd
theorem r_builtin {x : String} {pos : Pos} {v : Value} {Q : Value → Shared → Prop} (hS : St w os h₀ l gl s) (e : nsIn (KK w.params) mainGlobals (Str.ofString x) = some none) (hv : bootBuiltins (Str.ofString x) = some v) (h : Q v s)
    (hn : Str.ofString x ≠ "__name__" := by decide) (hg : env.globals = mainGlobals := by rfl) (hb : env.builtins = builtinsNs := by rfl) (hk : env.scope.kind = .function := by rfl) (hl : env.kindOf (Str.ofString x) = some .globalImplicit := by rfl)
    (hd : (Str.ofString x == ("__debug__" : Str)) = false := by decide) :
    wpAny M A (eval (.Name (Str.ofString x) pos) env) Q E s := by
  obtain ⟨mg, hm⟩ := hS.bs.g
  obtain ⟨mb, hb', hbb⟩ := hS.bs.b
  exact Calls.Name_function_global hk hl (Calls.loadGlobal_builtin (hg ▸ hm.keeps hS.hp.keep) (mg_none_of hS.bs.K hm e) (hb ▸ hb'.keeps hS.hp.keep) ((hbb _ hn).trans hv) h) hd
end
end

section
open PySem PySem.W PySem.Calls PyProof.Rows
section
variable {w : World} {os : OsState} {h₀ h₁ : Heap} {l l' : List Cell} {gl : List (Nat × GenState)} {s s' : Shared} {prog : Program} {A : Around} {R : Result → Shared → Prop}
abbrev Al := List (String × Option Value)
-- a call of a def: the frame's cell stands first
theorem r_call {f : Addr} {fd : FuncData} {oc : Value} {od : Option Addr} {osl : Array (Option Value)} {body : List Stmt} {args : Args} {binds : List (Str × Value)} (al : Al)
    (hS : St w os h₀ l gl s) (hK : (KK w.params).lookup f = some ⟨oc, od, .func fd, osl⟩) (hcd : codeIn (KK w.params) fd.code fd.qualname = true) (hroom : A.depth < recursionLimit) (hbody : fd.body = .stmts body)
    (hbind : BindsTo s fd args binds) (hcell : ∀ x ∈ fd.scope.names, x.2 ≠ .cell) (hloc : ∀ x ∈ binds, fd.scope.names.lookup x.1 = some .local) (hal : ∀ y, binds.reverse.lookup y = getV al y)
    (h : ∀ L s', St w os h₀ ((L, NsO al) :: l) gl s' → wpAny (model prog w) (A.deeper (callEnv fd L f)) (execs body (callEnv fd L f)) (fun fl s'' => R (.ok (.ret (match fl with | .ret v => v | _ => .none))) s'') (fun _ _ => False) s')
    (hco : fd.scope.isCoroutine = false := by rfl) (hgen : fd.scope.isGenerator = false := by rfl) (hk : fd.scope.kind = .function := by rfl) :
    codeAny (model prog w) A (.call (.ref f) args) R s := by
  refine codeAny_call_def hroom (hS.old (hS.bs.K _ _ hK)) rfl (hS.bs.lim.keeps hS.hp.keep) (codeRec_of (hS.bs.K.keeps hS.hp.keep) hcd) hbody hbind hcell hloc (fun h₂ hn hk₂ => ?_) hco hgen hk
  obtain ⟨o, ho, hP⟩ := ns_cell (al := al) hn (fun y v q => (hal y).trans q)
  exact wpAny_mono (h _ _ (hS.more (s' := { s with heap := h₂, toks := s.toks + binds.length }) hk₂ (fresh_none _ (Nat.le_refl _)) ho hP rfl rfl)) (fun _ _ x => x) fun _ _ x => x.elim
end
end

section
open PySem PySem.W PySem.Calls PyProof.Rows
def LsO (vs : List Value) (o : Obj) : Prop := ∃ n, o = { cls := .type "list", data := .seq vs.toArray n }
def TuO (vs : List Value) (o : Obj) : Prop := o = { cls := .type "tuple", data := .seq vs.toArray }
section
variable {w : World} {os : OsState} {h₀ h₁ : Heap} {c : Cell} {l l' : List Cell} {gl : List (Nat × GenState)} {s s' : Shared} {prog : Program} {A : Around} {E : Value → Shared → Prop} {env : Env} {i : Nat}

theorem St.swap {a b : Cell} (x : St w os h₀ (a :: b :: l) gl s) : St w os h₀ (b :: a :: l) gl s := x.perm (List.Perm.swap ..)
theorem St.push2 (x : St w os h₀ (c :: l) gl s) {o : Obj} (hf : o.isFreed = false) {P : Obj → Prop} (hP : P o) (hh : s'.heap = s.heap.push o) (hg : s'.gens = s.gens) (ho : s'.os = s.os) :
    St w os h₀ (c :: (s.heap.objs.size, P) :: l) gl s' := (x.push hf hP hh hg ho).swap
theorem St.toks (x : St w os h₀ l gl s) {t : Nat} : St w os h₀ l gl { s with toks := t } := x.to x.hp rfl rfl (fun _ e => e) x.ne

theorem r_int {M : Model} {j : Int} {k : Nat} {pos : Pos} {Q : Value → Shared → Prop} (hS : St w os h₀ l gl s) (h : ∀ s' t, St w os h₀ l gl s' → Q (.int j t) s') : wpAny M A (eval (.Constant (.int j) k pos) env) Q E s :=
  wpAny_Constant_int (h _ _ hS.toks)
theorem r_str {M : Model} {x : Str} {k : Nat} {pos : Pos} {Q : Value → Shared → Prop} (hS : St w os h₀ l gl s) (h : ∀ s' t, St w os h₀ l gl s' → Q (.str x t) s') : wpAny M A (eval (.Constant (.str x) k pos) env) Q E s :=
  Calls.Constant_str (h _ _ hS.toks)
theorem r_newList {M : Model} {vs : List Value} {Q : Value → Shared → Prop} (hS : St w os h₀ (c :: l) gl s) (h : ∀ a s', St w os h₀ (c :: (a, LsO vs) :: l) gl s' → Q (.ref a) s') (hz : vs.length ≤ sizeLine := by exact Nat.le_of_ble_eq_true rfl) : wpAny M A (newList vs) Q E s :=
  wpAny_newList (h _ _ (hS.push2 rfl ⟨0, rfl⟩ rfl rfl rfl)) hz
theorem r_newTuple {M : Model} {vs : List Value} {Q : Value → Shared → Prop} (hS : St w os h₀ (c :: l) gl s) (h : ∀ a s', St w os h₀ (c :: (a, TuO vs) :: l) gl s' → Q (.ref a) s') (hz : vs.length ≤ sizeLine := by exact Nat.le_of_ble_eq_true rfl) : wpAny M A (newTuple vs) Q E s :=
  wpAny_newTuple (h _ _ (hS.push2 rfl rfl rfl rfl rfl)) hz
theorem r_add {a b : Int} {t u : Tok} {Q : Value → Shared → Prop} (hS : St w os h₀ l gl s) (h : ∀ s' t, St w os h₀ l gl s' → Q (.int (a + b) t) s') : wpAny (model prog w) A (binaryOp .Add (.int a t) (.int b u)) Q E s := add_int (h _ _ hS.toks)
theorem r_mod {a b : Int} {t u : Tok} {Q : Value → Shared → Prop} (hS : St w os h₀ l gl s) (hb : b ≠ 0) (h : ∀ s' t, St w os h₀ l gl s' → Q (.int (Int.fmod a b) t) s') : wpAny (model prog w) A (binaryOp .Mod (.int a t) (.int b u)) Q E s := mod_int' hb (h _ _ hS.toks)

theorem St.list {a : Addr} {vs : List Value} (x : St w os h₀ l gl s) (hi : l[i]? = some (a, LsO vs)) : ∃ n, s.heap.get? a = some { cls := .type "list", data := .seq vs.toArray n } :=
  let ⟨_, ho, n, e⟩ := x.at hi; ⟨n, e ▸ ho⟩
theorem St.isList {a : Addr} {vs : List Value} (x : St w os h₀ l gl s) (hi : l[i]? = some (a, LsO vs)) : s.heap.IsList a vs.toArray := let ⟨n, e⟩ := x.list hi; ⟨_, e, rfl, n, rfl⟩
theorem St.isTuple {a : Addr} {vs : List Value} (x : St w os h₀ l gl s) (hi : l[i]? = some (a, TuO vs)) : s.heap.IsTuple a vs.toArray := let ⟨_, ho, e⟩ := x.at hi; ⟨_, ho, by rw [e], by rw [e]; exact ⟨_, rfl⟩⟩

-- methods of a list that is a cell
theorem r_method_list {a : Addr} {vs : List Value} {name : Str} {id : String} {pl : Sem Bool} {Q : Value × List Value → Shared → Prop} (hS : St w os h₀ l gl s) (hi : l[i]? = some (a, LsO vs)) (slot : Slot "list" name id)
    (hty : typeOf (.builtin id) = pure (.type "method_descriptor")) (h : Q (.builtin id, [.ref a]) s) : wpAny (model prog w) A (getMethod (.ref a) name pl) Q E s := by
  obtain ⟨n, e⟩ := hS.list hi
  exact getMethod_builtin ⟨_, e, rfl⟩ PySem.F.plainAttrs_list slot hty (fun b q => by cases q; exact ⟨_, e, rfl⟩) h
theorem r_append {a : Addr} {vs : List Value} {x : Value} {Q : Value → Shared → Prop} (hS : St w os h₀ l gl s) (hi : l[i]? = some (a, LsO vs)) (hz : vs.length ≤ sizeLine)
    (h : ∀ s', St w os h₀ (l.set i (a, LsO (vs ++ [x]))) gl s' → Q .none s') : wpAny (model prog w) A (call (.builtin "list.append") [.ref a, x]) Q E s := by
  obtain ⟨n, e⟩ := hS.list hi
  refine wpAny_list_append_plain ⟨n, e⟩ (fun h' hp hs => ?_) (by simpa using hz)
  obtain ⟨n', e'⟩ := hp
  exact h _ (hS.turn hi (fun b o hb q => hs.extBut b o hb q) e' ⟨n', by simp⟩ rfl rfl)

-- the row: what is drawn next stands first
def RowO (rs : List Nat) (o : Obj) : Prop := ∃ ts : List Tok, ts.length = rs.length ∧ LsO ((List.zipWith (fun (r : Nat) t => Value.int (r : Int) t) rs ts).reverse) o
theorem St.row {a : Addr} {rs : List Nat} (x : St w os h₀ l gl s) (hi : l[i]? = some (a, RowO rs)) :
    ∃ ts : List Tok, ts.length = rs.length ∧ St w os h₀ (l.set i (a, LsO ((List.zipWith (fun (r : Nat) t => Value.int (r : Int) t) rs ts).reverse))) gl s := by
  obtain ⟨o, ho, ts, hl, hP⟩ := x.at hi
  exact ⟨ts, hl, x.turn hi (fun _ _ _ e => e) ho hP rfl rfl⟩
theorem set_at {l : List Cell} {i : Nat} {c d : Cell} (hi : l[i]? = some c) : (l.set i d)[i]? = some d := by
  obtain ⟨hl, _⟩ := List.getElem?_eq_some_iff.mp hi
  simp [hl]
theorem set_set' {l : List Cell} {i : Nat} {d e : Cell} : (l.set i d).set i e = l.set i e := by simp
theorem intsAre_row : ∀ (rs : List Nat) (ts : List Tok), ts.length = rs.length → IntsAre (List.zipWith (fun (r : Nat) t => Value.int (r : Int) t) rs ts) (rs.map Int.ofNat)
  | [], [], _ => .nil
  | r :: rs, t :: ts, h => .cons _ _ (intsAre_row rs ts (by simpa using h))
  | [], _ :: _, h => by simp at h
  | _ :: _, [], h => by simp at h
theorem r_pop {a : Addr} {vs : List Value} {y : Value} {Q : Value → Shared → Prop} (hS : St w os h₀ l gl s) (hi : l[i]? = some (a, LsO (vs ++ [y]))) (hz : vs.length < sizeLine)
    (h : ∀ s', St w os h₀ (l.set i (a, LsO vs)) gl s' → Q y s') : wpAny (model prog w) A (call (.builtin "list.pop") [.ref a]) Q E s := by
  obtain ⟨n, e⟩ := hS.list hi
  have hk : (vs ++ [y]).toArray.size - 1 = vs.length := by simp
  refine call_meets PySem.F.slot_list_pop ⟨_, e, rfl⟩ PySem.F.entry_list_pop (PySem.F.args_list_pop_1 _) (PySem.MeetsSeq.list_pop_last a _ n y (by rw [hk]; simp) (by simp; omega)) ⟨e, ?_⟩
  have q := PySem.IsL.update e (fun xs => xs.eraseIdxIfInBounds ((vs ++ [y]).toArray.size - 1))
  have e1 : (vs ++ [y]).toArray.eraseIdxIfInBounds ((vs ++ [y]).toArray.size - 1) = vs.toArray := by
    rw [hk]
    have := kl_erase vs [] y
    simpa using this
  rw [e1] at q
  exact h _ (hS.turn hi (fun b o hb q => (Heap.SameBut.update ..).extBut b o hb q) q ⟨_, rfl⟩ rfl rfl)
end
end

section
open PySem PySem.W PySem.Calls PyProof.Rows
theorem r_args_cons {M : Model} {A : Around} {E : Value → Shared → Prop} {s : Shared} {pos : Pos} {e : Expr} {rest : List Expr} {env : Env} {Q : List Value → Shared → Prop}
    (h : wpAny M A (eval e env) (fun v s₁ => wpAny M A (spliced (backTo pos (starEach rest env))) (fun vs s₂ => Q (v :: vs) s₂) E s₁) E s) (he : starEach (e :: rest) env = (false, eval e env) :: starEach rest env := by rfl) :
    wpAny M A (spliced (backTo pos (starEach (e :: rest) env))) Q E s := by
  rw [he]
  exact Calls.spliced_cons h
theorem gl_28 (P : Params) : nsIn (KK P) mainGlobals (Str.ofString "_pe_name") = some (some (.ref 28)) := by kernel_rfl
theorem gl_127 (P : Params) : nsIn (KK P) mainGlobals (Str.ofString "Node") = some (some (.ref 127)) := by kernel_rfl
theorem gl_457 (P : Params) : nsIn (KK P) mainGlobals (Str.ofString "Call") = some (some (.ref 457)) := by kernel_rfl
theorem gl_330 (P : Params) : nsIn (KK P) mainGlobals (Str.ofString "Name") = some (some (.ref 330)) := by kernel_rfl
theorem gl_374 (P : Params) : nsIn (KK P) mainGlobals (Str.ofString "Const") = some (some (.ref 374)) := by kernel_rfl
theorem gl_402 (P : Params) : nsIn (KK P) mainGlobals (Str.ofString "Tuple") = some (some (.ref 402)) := by kernel_rfl
theorem gl_423 (P : Params) : nsIn (KK P) mainGlobals (Str.ofString "List") = some (some (.ref 423)) := by kernel_rfl
theorem gl_257 (P : Params) : nsIn (KK P) mainGlobals (Str.ofString "Include") = some (some (.ref 257)) := by kernel_rfl
theorem gl_270 (P : Params) : nsIn (KK P) mainGlobals (Str.ofString "Import") = some (some (.ref 270)) := by kernel_rfl
theorem gl_283 (P : Params) : nsIn (KK P) mainGlobals (Str.ofString "FromImport") = some (some (.ref 283)) := by kernel_rfl
theorem gl_192 (P : Params) : nsIn (KK P) mainGlobals (Str.ofString "Extends") = some (some (.ref 192)) := by kernel_rfl
theorem gl_179 (P : Params) : nsIn (KK P) mainGlobals (Str.ofString "Output") = some (some (.ref 179)) := by kernel_rfl
theorem gl_205 (P : Params) : nsIn (KK P) mainGlobals (Str.ofString "For") = some (some (.ref 205)) := by kernel_rfl
theorem gl_218 (P : Params) : nsIn (KK P) mainGlobals (Str.ofString "If") = some (some (.ref 218)) := by kernel_rfl
theorem gl_244 (P : Params) : nsIn (KK P) mainGlobals (Str.ofString "Block") = some (some (.ref 244)) := by kernel_rfl
theorem gl_231 (P : Params) : nsIn (KK P) mainGlobals (Str.ofString "Macro") = some (some (.ref 231)) := by kernel_rfl
theorem gl_166 (P : Params) : nsIn (KK P) mainGlobals (Str.ofString "Template") = some (some (.ref 166)) := by kernel_rfl
theorem gl_444 (P : Params) : nsIn (KK P) mainGlobals (Str.ofString "Keyword") = some (some (.ref 444)) := by kernel_rfl
theorem gl_478 (P : Params) : nsIn (KK P) mainGlobals (Str.ofString "Getattr") = some (some (.ref 478)) := by kernel_rfl
theorem gl_490 (P : Params) : nsIn (KK P) mainGlobals (Str.ofString "_ref_types") = some (some (.ref 490)) := by kernel_rfl
theorem gl_489 (P : Params) : nsIn (KK P) mainGlobals (Str.ofString "extract_from_ast") = some (some (.ref 489)) := by kernel_rfl
theorem gl_497 (P : Params) : nsIn (KK P) mainGlobals (Str.ofString "find_referenced_templates") = some (some (.ref 497)) := by kernel_rfl
theorem gl_504 (P : Params) : nsIn (KK P) mainGlobals (Str.ofString "_LAW_USUAL") = some (some (.ref 504)) := by kernel_rfl
theorem gl_511 (P : Params) : nsIn (KK P) mainGlobals (Str.ofString "_law_draw") = some (some (.ref 511)) := by kernel_rfl
theorem gl_518 (P : Params) : nsIn (KK P) mainGlobals (Str.ofString "_law_value") = some (some (.ref 518)) := by kernel_rfl
theorem gl_525 (P : Params) : nsIn (KK P) mainGlobals (Str.ofString "_law_call") = some (some (.ref 525)) := by kernel_rfl
theorem gl_530 (P : Params) : nsIn (KK P) mainGlobals (Str.ofString "_law_place") = some (some (.ref 530)) := by kernel_rfl
theorem gl_537 (P : Params) : nsIn (KK P) mainGlobals (Str.ofString "_law_body") = some (some (.ref 537)) := by kernel_rfl
theorem gl_544 (P : Params) : nsIn (KK P) mainGlobals (Str.ofString "_law_statement") = some (some (.ref 544)) := by kernel_rfl
theorem gl_549 (P : Params) : nsIn (KK P) mainGlobals (Str.ofString "_law_wanted") = some (some (.ref 549)) := by kernel_rfl
end

local macro_rules | `(tactic| walk_at "gl") => `(tactic| with_reducible first | exact gl_28 _ | exact gl_127 _ | exact gl_457 _ | exact gl_330 _ | exact gl_374 _ | exact gl_402 _ | exact gl_423 _ | exact gl_257 _ | exact gl_270 _ | exact gl_283 _ | exact gl_192 _ | exact gl_179 _ | exact gl_205 _ | exact gl_218 _ | exact gl_244 _ | exact gl_231 _ | exact gl_166 _ | exact gl_444 _ | exact gl_478 _ | exact gl_490 _ | exact gl_489 _ | exact gl_497 _ | exact gl_504 _ | exact gl_511 _ | exact gl_518 _ | exact gl_525 _ | exact gl_530 _ | exact gl_537 _ | exact gl_544 _ | exact gl_549 _)

local macro_rules | `(tactic| walk_at "setV") => `(tactic| (simp only [setV, String.reduceEq, if_true, if_false, ↓reduceIte]; rfl))

local macro_rules | `(tactic| walk_at "s1") => do
  let h := Lean.mkIdent `hS
  let s' := Lean.mkIdent `s'
  `(tactic| first
  | ((with_reducible show wpAny _ _ (eval _ _) _ _ _); first
      | ((with_reducible show wpAny _ _ (eval (Expr.Name _ _) _) _ _ _); first
          | refine r_local $h (by rfl) ?_
          | (refine r_global $h (by walk_at "gl") ?_)
          | (refine r_builtin $h (by kernel_rfl) (by boot_by_name) ?_))
      | ((with_reducible show wpAny _ _ (eval (Expr.Constant (Const.int _) _ _) _) _ _ _); refine r_int $h ?_; clear $h; intro $s' _ $h)
      | ((with_reducible show wpAny _ _ (eval (Expr.Constant (Const.str _) _ _) _) _ _ _); refine r_str $h ?_; clear $h; intro $s' _ $h)
      | ((with_reducible show wpAny _ _ (eval (Expr.Constant (Const.bool _) _ _) _) _ _ _); refine wpAny_Constant_bool ?_)
      | ((with_reducible show wpAny _ _ (eval (Expr.Constant Const.none _ _) _) _ _ _); refine wpAny_Constant_none ?_)
      | ((with_reducible show wpAny _ _ (eval (Expr.IfExp _ _ _ _) _) _ _ _); refine wpAny_IfExp ?_)
      | ((with_reducible show wpAny _ _ (eval (Expr.Compare _ [_] [_] _) _) _ _ _); refine wpAny_Compare1 ?_)
      | ((with_reducible show wpAny _ _ (eval (Expr.BinOp _ _ _ _) _) _ _ _); refine wpAny_BinOp ?_)
      | ((with_reducible show wpAny _ _ (eval (Expr.List _ _) _) _ _ _); refine List_ ?_)
      | ((with_reducible show wpAny _ _ (eval (Expr.Tuple _ _ _) _) _ _ _); refine Tuple_ ?_)
      | ((with_reducible show wpAny _ _ (eval (Expr.Subscript _ _ _) _) _ _ _); refine Subscript_ ?_)
      | ((with_reducible show wpAny _ _ (eval (Expr.Call (Expr.Attribute _ _ _) _ [] _) _) _ _ _); refine MethodCall_ ?_)
      | ((with_reducible show wpAny _ _ (eval (Expr.Call (Expr.Attribute _ _ _) _ (_ :: _) _) _) _ _ _); refine methodCall_KW ?_)
      | ((with_reducible show wpAny _ _ (eval (Expr.Call _ _ [] _) _) _ _ _); refine Call_ ?_)
      | ((with_reducible show wpAny _ _ (eval (Expr.Call _ _ (_ :: _) _) _) _ _ _); refine wpAny_Call_Name_kw ?_)
      | ((with_reducible show wpAny _ _ (eval (Expr.Attribute _ _ _) _) _ _ _); refine Attribute_any_ ?_))
  | ((with_reducible show wpAny _ _ (spliced _) _ _ _); first
      | ((with_reducible show wpAny _ _ (spliced (backTo _ (starEach [] _))) _ _ _); refine Calls.spliced_nil ?_)
      | ((with_reducible show wpAny _ _ (spliced (backTo _ (starEach (_ :: _) _))) _ _ _); refine r_args_cons ?_)
      | ((with_reducible show wpAny _ _ (spliced _) _ _ _); first | refine Calls.spliced_nil ?_ | refine Calls.spliced_cons ?_))
  | ((with_reducible show wpAny _ _ (execs _ _) _ _ _); first
      | ((with_reducible show wpAny _ _ (execs (_ :: _) _) _ _ _); refine wpAny_execs_cons ?_)
      | ((with_reducible show wpAny _ _ (execs [] _) _ _ _); refine wpAny_execs_nil ?_))
  | ((with_reducible show wpAny _ _ (exec _ _) _ _ _); first
      | ((with_reducible show wpAny _ _ (exec (Stmt.Return (some _) _) _) _ _ _); refine wpAny_Return_some ?_)
      | ((with_reducible show wpAny _ _ (exec (Stmt.If _ _ _ _) _) _ _ _); refine wpAny_If ?_)
      | ((with_reducible show wpAny _ _ (exec (Stmt.Assign [Expr.Name _ _] _ _) _) _ _ _); refine wpAny_Assign_Name ?_)
      | ((with_reducible show wpAny _ _ (exec (Stmt.Expr _ _) _) _ _ _); refine wpAny_Expr_any ?_))
  | ((with_reducible show wpAny _ _ (storeName _ _ _) _ _ _); refine r_store $h (by walk_at "setV") ?_; clear $h; intro $s' $h)
  | ((with_reducible show wpAny _ _ (callWith _ _ _ _ _) _ _ _); first
      | ((with_reducible show wpAny _ _ (callWith _ (Value.builtin _) _ (backTo _ (starEach [] _)) []) _ _ _); refine callWith_method0 ?_)
      | ((with_reducible show wpAny _ _ (callWith _ (Value.type _) _ (backTo _ (starEach (_ :: _) _)) []) _ _ _); refine PyProof.Rows.callWith_type1 ?_)
      | ((with_reducible show wpAny _ _ (callWith _ (Value.builtin _) [] (backTo _ (starEach (_ :: _) _)) []) _ _ _); refine PyProof.Rows.callWith_builtin1 ?_)
      | ((with_reducible show wpAny _ _ (callWith _ (Value.builtin _) [_] (backTo _ (starEach (_ :: _) _)) []) _ _ _); refine PyProof.Rows.callWith_method1 ?_)
      | ((with_reducible show wpAny _ _ (callWith _ (Value.ref _) _ (backTo _ (starEach (_ :: _) _)) []) _ _ _); refine callWith_K (Bs.K (St.bs $h)) (by kernel_rfl) ?_))
  | ((with_reducible show wpAny _ _ (newTuple _) _ _ _); refine r_newTuple $h ?_; clear $h; intro _ $s' $h)
  | ((with_reducible show wpAny _ _ (newList _) _ _ _); refine r_newList $h ?_; clear $h; intro _ $s' $h)
  | ((with_reducible show (if (false : Bool) = true then _ else _)); refine ite_ff ?_)
  | ((with_reducible show (if (true : Bool) = true then _ else _)); refine ite_tt ?_)
  | ((with_reducible show (if (!(true : Bool)) = true then _ else _)); refine ite_ff ?_)
  | ((with_reducible show (if (!(false : Bool)) = true then _ else _)); refine ite_tt ?_)
  | ((with_reducible show wpAny _ _ (PySem.isTrue _ _ _) _ _ _); first
      | ((with_reducible show wpAny _ _ (PySem.isTrue (Expr.Compare _ [_] [_] _) _ _) _ _ _); refine wpAny_isTrue_Compare1 ?_)
      | ((with_reducible show wpAny _ _ (PySem.isTrue (Expr.UnaryOp UnaryOp.Not _ _) _ _) _ _ _); refine isTrue_not ?_)
      | ((with_reducible show wpAny _ _ (PySem.isTrue (Expr.BoolOp _ _ _) _ _) _ _ _); refine wpAny_isTrue_BoolOp ?_)
      | ((with_reducible show wpAny _ _ (PySem.isTrue (Expr.Name _ _) _ _) _ _ _); refine isTrue_plain ?_)
      | ((with_reducible show wpAny _ _ (PySem.isTrue (Expr.BinOp _ _ _ _) _ _) _ _ _); refine isTrue_plain ?_)
      | ((with_reducible show wpAny _ _ (PySem.isTrue (Expr.Call _ _ _ _) _ _) _ _ _); refine isTrue_plain ?_)
      | ((with_reducible show wpAny _ _ (PySem.isTrue (Expr.Attribute _ _ _) _ _) _ _ _); refine isTrue_plain ?_))
  | ((with_reducible show wpAny _ _ (compareOp _ _ _) _ _ _); first
      | ((with_reducible show wpAny _ _ (compareOp CmpOp.IsNot (Value.type "str") (Value.type "str")) _ _ _); refine isnot_type_same ?_)
      | ((with_reducible show wpAny _ _ (compareOp CmpOp.Is Value.none Value.none) _ _ _); refine is_none_none ?_)
      | ((with_reducible show wpAny _ _ (compareOp CmpOp.IsNot Value.none Value.none) _ _ _); refine isnot_none_none ?_)
      | ((with_reducible show wpAny _ _ (compareOp CmpOp.Is (Value.ref _) Value.none) _ _ _); refine is_ref_none ?_)
      | ((with_reducible show wpAny _ _ (compareOp CmpOp.IsNot (Value.ref _) Value.none) _ _ _); refine isnot_ref_none ?_)
      | ((with_reducible show wpAny _ _ (compareOp CmpOp.Is (Value.str _ _) Value.none) _ _ _); refine is_str_none ?_)
      | ((with_reducible show wpAny _ _ (compareOp CmpOp.IsNot (Value.str _ _) Value.none) _ _ _); refine isnot_str_none ?_)
      | ((with_reducible show wpAny _ _ (compareOp CmpOp.Eq (Value.int _ _) (Value.int _ _)) _ _ _); refine eq_int ?_)
      | ((with_reducible show wpAny _ _ (compareOp CmpOp.Lt (Value.int _ _) (Value.int _ _)) _ _ _); refine lt_int ?_))
  | ((with_reducible show wpAny _ _ (binaryOp _ _ _) _ _ _); first
      | ((with_reducible show wpAny _ _ (binaryOp Operator.Add (Value.int _ _) (Value.int _ _)) _ _ _); refine r_add $h ?_; clear $h; intro $s' _ $h)
      | ((with_reducible show wpAny _ _ (binaryOp Operator.Mod (Value.int _ _) (Value.int _ _)) _ _ _); refine r_mod $h (by decide) ?_; clear $h; intro $s' _ $h))
  | ((with_reducible show wpAny _ _ (truthy (Value.bool _)) _ _ _); refine wpAny_truthy_bool ?_)
  | ((with_reducible show wpAny _ _ (allTrue _ _ _) _ _ _); first
      | ((with_reducible show wpAny _ _ (allTrue BoolOp.And (_ :: _) _) _ _ _); refine wpAny_allTrue_And_cons ?_)
      | ((with_reducible show wpAny _ _ (allTrue BoolOp.And [] _) _ _ _); refine wpAny_allTrue_And_nil ?_)
      | ((with_reducible show wpAny _ _ (allTrue BoolOp.Or (_ :: _) _) _ _ _); refine wpAny_allTrue_Or_cons ?_)
      | ((with_reducible show wpAny _ _ (allTrue BoolOp.Or [] _) _ _ _); refine wpAny_allTrue_Or_nil ?_))
  | ((with_reducible show And (Frag.In (KK _) _) _); refine ⟨Frag.In.keeps (Bs.K (St.bs $h)) (Wf.keep (St.hp $h)), ?_⟩)
  | ((with_reducible show wpAny _ _ (call (Value.type "type") [Value.str _ _]) _ _ _); refine call_type_of (Tx := "str") rfl (by decide +kernel) ?_)
  )

section
open PySem PySem.W PySem.Calls PyProof.Rows
section
variable {w : World} {os : OsState} {h₀ : Heap} {l : List Cell} {gl : List (Nat × GenState)} {s : Shared} {prog : Program} {A : Around} {Q E : Value → Shared → Prop} {i : Nat}
theorem reads_row {h : Heap} {a : Addr} {n : Nat} {vs : List Value} {ns : List Int} (e : h.get? a = some { cls := .type "list", data := .seq vs.toArray n }) (hi : IntsAre vs ns) : Reads h (.ref a) (.list (ns.map .int)) [a] := by
  have : ∀ {vs : List Value} {ns : List Int}, IntsAre vs ns → ReadsAll h vs (ns.map .int) [] := by
    intro vs ns hi
    induction hi with
    | nil => exact .nil
    | cons a b _ ih => exact .cons (.int _ _) ih
  exact reads_list_at e rfl rfl (by simpa using this hi)
theorem intsAre_rev {vs : List Value} {ns : List Int} (h : IntsAre vs ns) : IntsAre vs.reverse ns.reverse := h.reverse
theorem al_nil (y : Str) : ([] : List (Str × Value)).lookup y = getV [] y := rfl
theorem al_cons {x : String} {v : Value} {b : List (Str × Value)} {al : Al} (h : ∀ y, b.lookup y = getV al y) (y : Str) : ((Str.ofString x, v) :: b).lookup y = getV ((x, some v) :: al) y := by
  rw [List.lookup_cons, getV, ← h y]
  by_cases q : y = Str.ofString x
  · subst q; simp
  · rw [if_neg q, show (y == Str.ofString x) = false from beq_eq_false_iff_ne.mpr q]
theorem draw_spec {ra : Addr} {rs : List Nat} (hS : St w os h₀ l gl s) (hi : l[i]? = some (ra, RowO rs)) (hd : A.depth < 900) (hu : A.units < 9000) (hz : rs.length ≤ 1000)
    (h : ∀ s' t, St w os h₀ (l.set i (ra, RowO rs.tail)) gl s' → Q (.int (rs.headD 0 : Nat) t) s') : wpAny (model prog w) A (call (.ref 511) [.ref ra]) Q E s := by
  refine wpAny_call ?_
  refine r_call (fd := fd511) (body := bodOf (stm 33)) [("row", some (.ref ra))] hS (k511 _) (c511 _) (by simp only [recursionLimit]; omega) rfl (BindsTo.of_eq rfl) (by decide +kernel) (locs rfl) (al_cons al_nil) (fun L s' hS => ?_)
  conv in bodOf _ => whnf
  repeat (walk_at "s1")
  obtain ⟨ts, hl, hS⟩ := hS.row (i := i + 2) hi
  obtain ⟨n, e⟩ := hS.list (i := i + 2) (set_at (l := _ :: _ :: l) (i := i + 2) hi)
  obtain ⟨n', e'⟩ := hS.list (i := 1) rfl
  refine ne_dataH (reads_row e (intsAre_row rs ts hl).reverse) (reads_row e' .nil) (ke_shaped_ints _) (ke_shaped_ints _) (by simp only [Around.deeper_units, cLine]; omega) ?_
  rw [PyData.eqv, show PyData.eqvAll (List.map PyData.int (List.map Int.ofNat rs).reverse) (List.map PyData.int []) = decide (rs = []) by rw [ked_eqvAll]; simp]
  refine wpAny_truthy_bool ?_
  cases rs with
  | nil =>
    rw [show decide (([] : List Nat) = []) = true from rfl]
    refine ite_ff ?_
    repeat (walk_at "s1")
    have hS1 := hS.weak (P' := RowO []) (i := i + 2) (set_at (l := _ :: _ :: l) (i := i + 2) hi) (fun o q => ⟨ts, hl, q⟩)
    rw [set_set'] at hS1
    replace hS1 : St w os h₀ (_ :: _ :: l.set i (ra, RowO [])) gl _ := hS1
    exact h _ _ (hS1.sub (((List.Sublist.refl _).cons _).cons _))
  | cons r rs =>
    cases ts with
    | nil => simp at hl
    | cons t ts =>
    rw [show decide (r :: rs = []) = false by simp]
    refine ite_tt ?_
    repeat (walk_at "s1")
    have hi1 := set_at (d := (ra, LsO ((List.zipWith (fun (r : Nat) t => Value.int (r : Int) t) (r :: rs) (t :: ts)).reverse))) hi
    refine r_method_list hS (i := i + 2) hi1 PySem.F.slot_list_pop PySem.F.type_list_pop ?_
    repeat (walk_at "s1")
    rw [List.zipWith_cons_cons, List.reverse_cons] at hi1 hS
    refine r_pop hS (i := i + 2) hi1 (by simp at hl hz ⊢; rw [sizeLine_eq]; omega) ?_
    clear hS; intro s' hS
    rw [set_set'] at hS
    have hS1 := hS.weak (P' := RowO rs) (i := i + 2) (set_at (l := _ :: _ :: l) (i := i + 2) hi) (fun o q => ⟨ts, by simpa using hl, q⟩)
    rw [set_set'] at hS1
    repeat (walk_at "s1")
    replace hS1 : St w os h₀ (_ :: _ :: l.set i (ra, RowO rs)) gl _ := hS1
    exact h _ _ (hS1.sub (((List.Sublist.refl _).cons _).cons _))
end
end

section
open PySem PySem.W PySem.Calls PyProof.Rows
-- a yield whose sleeper nobody watches
def ungd (st : List Frame) : Bool := match splitAtGen st with | some (fs, _, _) => !fs.any Frame.guarded | none => false
def Loudly (s : Shared) (t : Thread) : Bool :=
  match t.cur, t.code with
  | .yield _ _ _ _, .builtin "proto.yield_from" ⟨.ref a :: _, _⟩ =>
    ungd t.stack &&
    (match s.heap.get? a with | some o => o.genNumber?.isSome | none => false)
  | _, _ => false
def Mild (s : Shared) (t : Thread) : Bool := t.calm || Loudly s t

theorem loudly_same {s₁ s₂ : Shared} {t₁ t₂ : Thread} (hs : s₁.forget = s₂.forget) (ht : t₁.forget = t₂.forget) : Loudly s₁ t₁ = Loudly s₂ t₂ := by
  have hh : s₁.heap = s₂.heap := (Shared.forget_eq hs).1
  obtain ⟨c₁, d₁, p₁, st₁⟩ := t₁
  obtain ⟨c₂, d₂, p₂, st₂⟩ := t₂
  simp only [Thread.forget, Thread.mk.injEq] at ht
  obtain ⟨rfl, rfl, rfl, e⟩ := ht
  have h1 : ∀ st : List Frame, ungd st = ungd (forgetAll st) := by
    intro st
    unfold ungd
    rw [splitAtGen_forgetAll]
    cases splitAtGen st with
    | none => rfl
    | some x => simp
  have h2 : ungd st₁ = ungd st₂ := by rw [h1 st₁, h1 st₂, e]
  simp only [Loudly, hh, h2]
theorem mild_same {s₁ s₂ : Shared} {t₁ t₂ : Thread} (hs : s₁.forget = s₂.forget) (ht : t₁.forget = t₂.forget) : Mild s₁ t₁ = Mild s₂ t₂ := by
  unfold Mild
  rw [loudly_same hs ht, ← Thread.calm_forget t₁, ht, Thread.calm_forget]

section
variable (den : Code → Sem Fin) (prog : Program) (w : World)
theorem loud_sstep {s : Shared} {t : Thread} (h : Loudly s t = true) (hr : s.asleep) : sstep den prog w (.single s t) = (PySem.step den prog w s t).lift := by
  obtain ⟨cur, code, pos, stack⟩ := t
  unfold Loudly at h
  split at h
  case h_2 => cases h
  rename_i v g l k a r kw hc hd
  simp only [] at hc hd
  subst hc hd
  simp only [Bool.and_eq_true] at h
  obtain ⟨h1, h2⟩ := h
  have hp : (Config.single s ⟨.yield v g l k, .builtin "proto.yield_from" ⟨.ref a :: r, kw⟩, pos, stack⟩).pick w = .ok (.run 0, .single s ⟨.yield v g l k, .builtin "proto.yield_from" ⟨.ref a :: r, kw⟩, pos, stack⟩) := by
    have e1 : (Config.single s ⟨.yield v g l k, .builtin "proto.yield_from" ⟨.ref a :: r, kw⟩, pos, stack⟩).collect? w.params = none := by
      simp [Config.collect?, Config.single, (nothing_to_collect _ _ _ s _ hr.1).1]
    have e2 : (Config.single s ⟨.yield v g l k, .builtin "proto.yield_from" ⟨.ref a :: r, kw⟩, pos, stack⟩).collectable = [] := by
      simp [Config.collectable, Config.single, (nothing_to_collect w.params _ _ s _ hr.1).2]
    have e3 : (Config.single s ⟨.yield v g l k, .builtin "proto.yield_from" ⟨.ref a :: r, kw⟩, pos, stack⟩).moves w.params.profile = [.run 0] := by
      simp [Config.moves, Config.single, movesFrom, Thread.moves]
    simp only [Config.pick, e1, e2, Config.pickThread, e3]
    cases w.params.lifetimes <;> simp
  have hl : ∀ others, lifeStep den prog w others s ⟨.yield v g l k, .builtin "proto.yield_from" ⟨.ref a :: r, kw⟩, pos, stack⟩ = PySem.step den prog w s ⟨.yield v g l k, .builtin "proto.yield_from" ⟨.ref a :: r, kw⟩, pos, stack⟩ := by
    intro others
    cases hsp : splitAtGen stack with
    | none => unfold ungd at h1; rw [hsp] at h1; cases h1
    | some x =>
      obtain ⟨fs, b, rest⟩ := x
      unfold ungd at h1
      rw [hsp] at h1
      simp only [Bool.not_eq_true'] at h1
      have hsh : closingShows s fs (.builtin "proto.yield_from" ⟨.ref a :: r, kw⟩) g = false := by
        unfold closingShows
        rw [h1, Bool.false_or, Bool.and_eq_false_iff]
        right
        show delegateShows s (.ref a) = false
        unfold delegateShows
        cases ho : s.heap.get? a with
        | none => simp only [ho]
        | some o =>
          rw [ho] at h2
          simp only [] at h2
          cases hn : o.genNumber? with
          | none => rw [hn] at h2; cases h2
          | some n => simp only [ho, hn, hr.1, List.contains_nil]
      cases hs : Thread.special ⟨.yield v g l k, .builtin "proto.yield_from" ⟨.ref a :: r, kw⟩, pos, stack⟩ with
      | false => simp only [lifeStep, hs, Bool.false_eq_true, if_false, stepCounting, hr.2, Bool.false_and]
      | true =>
        simp only [lifeStep, hs, if_true, collectorTurn?, hsp, hsh, Thread.atItsEnd, Bool.false_eq_true, if_false, Bool.false_and, stepCounting, hr.2]
  have hrun : (Config.single s ⟨.yield v g l k, .builtin "proto.yield_from" ⟨.ref a :: r, kw⟩, pos, stack⟩).run den prog w 0 = (PySem.step den prog w s ⟨.yield v g l k, .builtin "proto.yield_from" ⟨.ref a :: r, kw⟩, pos, stack⟩).lift := by
    simp only [Config.run, Config.single]
    simp [hl, others_single, frozenBadly, ThreadState.insideWrite, Thread.finalizes]
    cases PySem.step den prog w s ⟨.yield v g l k, .builtin "proto.yield_from" ⟨.ref a :: r, kw⟩, pos, stack⟩ <;> rfl
  simp only [sstep, hp, Config.move, hrun]

theorem mild_sched (n : Nat) : ∀ (s : Shared) (t : Thread), s.asleep →
    (∀ k s' t', runN den prog w k s t = .running s' t' → Mild s' t' = true) →
    (∀ k s', runN den prog w k s t ≠ .halted (.unsupported "lifetime:generator-with-cleanup-left-suspended") s') →
    schedN den prog w n (.single s t) = (runN den prog w n s t).lift := by
  induction n with
  | zero => intro s t _ _ _; rfl
  | succ n ih =>
    intro s t hr hm hx
    have hs : sstep den prog w (.single s t) = (PySem.step den prog w s t).lift := by
      have := hm 0 s t rfl
      unfold Mild at this
      rcases Bool.or_eq_true_iff.mp this with h | h
      · refine (sstep_single den prog w s t h hr).resolve_right fun e => hx 1 s ?_
        simp only [runN, e]
      · exact loud_sstep den prog w h hr
    simp only [schedN, runN, hs]
    cases he : PySem.step den prog w s t with
    | go s' t' =>
      refine ih s' t' (by simp only [Shared.asleep, step_life den prog w s s' t t' he]; exact hr) (fun k s₂ t₂ e => hm (k + 1) s₂ t₂ (by simp only [runN, he]; exact e)) fun k s₂ e => hx (k + 1) s₂ ?_
      simp only [runN, he]; exact e
    | halt o s' => rfl

inductive Leads (P : Shared → Thread → Prop) : Shared → Thread → Prop
  | here {s t} : P s t → Leads P s t
  | step {s t s' t'} : Mild s t = true → stepK den prog w s t = .go s' t' → Leads P s' t' → Leads P s t
theorem Leads.mono {den : Code → Sem Fin} {prog : Program} {w : World} {P P' : Shared → Thread → Prop} {s : Shared} {t : Thread} (x : Leads den prog w P s t) (h : ∀ s t, P s t → Leads den prog w P' s t) : Leads den prog w P' s t := by
  induction x with
  | here p => exact h _ _ p
  | step a b _ ih => exact .step a b ih
theorem Leads.runs {den : Code → Sem Fin} {prog : Program} {w : World} {P : Shared → Thread → Prop} {s : Shared} {t : Thread} (x : Leads den prog w P s t) :
    ∃ n s' t', runNK den prog w n s t = .running s' t' ∧ P s' t' ∧ ∀ k s₁ t₁, k < n → runNK den prog w k s t = .running s₁ t₁ → Mild s₁ t₁ = true := by
  induction x with
  | here p => exact ⟨0, _, _, rfl, p, fun k _ _ hk => absurd hk (Nat.not_lt_zero k)⟩
  | step a b _ ih =>
    obtain ⟨n, s', t', e, p, m⟩ := ih
    refine ⟨n + 1, s', t', by simp only [runNK, b]; exact e, p, fun k s₁ t₁ hk he => ?_⟩
    cases k with
    | zero => injection he with e1 e2; rw [← e1, ← e2]; exact a
    | succ k => simp only [runNK, b] at he; exact m k s₁ t₁ (Nat.lt_of_succ_lt_succ hk) he

-- to the true scheduler
theorem Leads.halts {s : Shared} {t : Thread} {R : Result → Shared → Prop} (hr : s.asleep)
    (x : Leads den prog w (fun s' t' => ∃ r c p, t' = ⟨leafOf r, c, p, []⟩ ∧ R r s' ∧ leftWithCleanup s'.gens = false) s t) :
    ∃ n r s' s'', runN den prog w n s t = .halted (outcomeOf r) s' ∧ schedN den prog w n (.single s t) = .halted (outcomeOf r) s' ∧ s'.forget = s''.forget ∧ R r s'' := by
  obtain ⟨n, s', t', e, ⟨r, c, p, rfl, hR, hl⟩, m⟩ := x.runs
  have hfin : stepK den prog w s' ⟨leafOf r, c, p, []⟩ = .halt (outcomeOf r) s' := by
    cases r <;> simp [leafOf, stepK, PySem.step, finish, hl, outcomeOf]
  have hcalm : Mild s' ⟨leafOf r, c, p, []⟩ = true := by
    cases r <;> simp [leafOf, Mild, Thread.calm, Thread.atCollectorCode, Thread.yieldsInsideHandler]
  have hk : runNK den prog w (n + 1) s t = .halted (outcomeOf r) s' := by
    have : ∀ n (s : Shared) (t : Thread), runNK den prog w n s t = .running s' ⟨leafOf r, c, p, []⟩ → runNK den prog w (n + 1) s t = .halted (outcomeOf r) s' := by
      intro n
      induction n with
      | zero => intro s t e; injection e with e1 e2; subst e1 e2; simp only [runNK, hfin]
      | succ n ih =>
        intro s t e
        rw [runNK] at e ⊢
        cases hs : stepK den prog w s t with
        | go s₁ t₁ => simp only [hs] at e ⊢; exact ih _ _ e
        | halt o s₁ => simp only [hs] at e; cases e
    exact this n s t e
  have hm : ∀ k s₁ t₁, runNK den prog w k s t = .running s₁ t₁ → Mild s₁ t₁ = true := by
    intro k s₁ t₁ hk1
    by_cases q : k < n
    · exact m k s₁ t₁ q hk1
    · by_cases q2 : k = n
      · subst q2; rw [e] at hk1; injection hk1 with e1 e2; rw [← e1, ← e2]; exact hcalm
      · exfalso
        have : ∀ j m (s : Shared) (t : Thread), runNK den prog w m s t = .halted (outcomeOf r) s' → runNK den prog w (m + j) s t = .halted (outcomeOf r) s' := by
          intro j m
          induction m with
          | zero => intro s t h; cases h
          | succ m ih =>
            intro s t h
            rw [Nat.add_right_comm]
            rw [runNK] at h ⊢
            cases hs : stepK den prog w s t with
            | go s₁ t₁ => simp only [hs] at h ⊢; exact ih _ _ h
            | halt o s₁ => simp only [hs] at h ⊢; exact h
        have h2 := this (k - (n + 1)) (n + 1) s t hk
        rw [show n + 1 + (k - (n + 1)) = k by omega, hk1] at h2
        cases h2
  obtain ⟨s'', hn, hf⟩ := runNK_halted den prog w hk
  refine ⟨n + 1, r, s'', s', hn, ?_, hf, hR⟩
  rw [mild_sched den prog w (n + 1) s t hr (fun k s₁ t₁ h => ?_) (fun k s₂ h => ?_), hn]; rfl
  · have e1 := runNK_same den prog w k (s₁ := s) (s₂ := s) (t₁ := t) (t₂ := t) rfl rfl
    rw [h] at e1
    cases hq : runNK den prog w k s t with
    | halted o₂ s₂ => rw [hq] at e1; cases e1
    | running s₂ t₂ =>
      rw [hq] at e1; simp only [Run.forget] at e1; injection e1 with a b
      rw [← mild_same a b]; exact hm k s₂ t₂ hq
  · have a := runN_mono den prog w (n + 1) k s t _ s'' hn
    have b := runN_mono den prog w k (n + 1) s t _ s₂ h
    rw [Nat.add_comm, b] at a
    injection a with a1 _
    cases r <;> cases a1
end
end

section
open PySem PySem.W PySem.Calls PyProof.Rows
section
variable {prog : Program} {w : World} {P : Shared → Thread → Prop}
abbrev Ld (prog : Program) (w : World) (P : Shared → Thread → Prop) (s : Shared) (t : Thread) : Prop := Leads (denote table) prog w P s t
theorem Leads.of_go {s s' : Shared} {t t' : Thread} (h : (model prog w).step s t = .go s' t') (x : Ld prog w P s' t') : Ld prog w P s t := by
  have h' : stepI (denote table) prog w s t = .go s' t' := h
  cases hl : t.loud with
  | true => rw [stepI_loud _ _ _ hl] at h'; cases h'
  | false =>
    rw [stepI_quiet _ _ _ hl] at h'
    refine .step ?_ h' x
    unfold Mild
    rw [Thread.calm_eq, hl]
    cases hr : t.refused with
    | false => rfl
    | true =>
      obtain ⟨what, e⟩ := stepK_refused (denote table) prog w (s := s) hr
      rw [e] at h'; cases h'
theorem Leads.of_runN : ∀ (n : Nat) {s s' : Shared} {t t' : Thread}, (model prog w).runN n s t = .running s' t' → Ld prog w P s' t' → Ld prog w P s t
  | 0, _, _, _, _, h, x => by injection h with a b; subst a b; exact x
  | n + 1, s, s', t, t', h, x => by
    rw [runN_succ] at h
    cases hs : (model prog w).step s t with
    | go s₁ t₁ => simp only [hs] at h; exact .of_go hs (Leads.of_runN n h x)
    | halt o s₁ => simp only [hs] at h; cases h
theorem Leads.of_runs {Γ : Ctx} {p : Pos} {t : Sem PySem.Fin} {fs : List Frame} {s s' : Shared} {e : End} {base : List Frame} (h : Runs (model prog w) Γ p t fs s e s') (hf : Γ.Fits base)
    (x : ∀ t' c' p' pre', Exits e t' c' p' pre' → Ld prog w P s' ⟨t', c', p', pre' ++ base⟩) : Ld prog w P s ⟨t, Γ.code, p, fs ++ base⟩ := by
  obtain ⟨n, t', c', p', pre', hn, hx⟩ := (runs_reach h base hf).runN
  exact .of_runN n hn (x _ _ _ _ hx)

theorem Leads.wrap {α : Type} {c : Code} {st : List Frame} {K : α → Sem PySem.Fin} {H : Value → Sem PySem.Fin} {gd : Bool → Bool} {lv : List Value → List Value} (m : Sem α) :
    ∀ {Q : α → Pos → Shared → Prop} {E : Value → Pos → Shared → Prop} {p : Pos} {s : Shared}, Sem.wp (model prog w) (Ctx.of c st) m Q E p s →
      (∀ a p' s', Q a p' s' → Ld prog w P s' ⟨K a, c, p', st⟩) → (∀ x p' s', E x p' s' → Ld prog w P s' ⟨H x, c, p', st⟩) → Ld prog w P s ⟨m.wrap K H gd lv, c, p, st⟩ := by
  induction m with
  | pure a => intro Q E p s h hQ _; exact hQ a p s h
  | raise x => intro Q E p s h _ hE; exact hE x p s h
  | unsupported what => intro Q E p s h; exact h.elim
  | finish x => intro Q E p s h; exact h.elim
  | register a k => intro Q E p s h; exact h.elim
  | yield v g l k => intro Q E p s h; exact h.elim
  | fork c k => intro Q E p s h; exact h.elim
  | await a f d l k => intro Q E p s h; exact h.elim
  | rule tag k ih => intro Q E p s h hQ hE; exact .of_go (step_rule ..) (ih () h hQ hE)
  | «at» p' k ih => intro Q E p s h hQ hE; exact .of_go (step_at ..) (ih () h hQ hE)
  | load a part k ih => intro Q E p s h hQ hE; obtain ⟨o, ho, h⟩ := h; exact .of_go (step_load _ _ _ _ _ _ _ ho) (ih o h hQ hE)
  | update a part f k ih => intro Q E p s h hQ hE; obtain ⟨ha, h⟩ := h; exact .of_go (step_update _ _ _ _ _ _ _ _ ha) (ih () h hQ hE)
  | alloc o k ih => intro Q E p s h hQ hE; exact .of_go (step_alloc ..) (ih _ h hQ hE)
  | loadIfAlive a k ih => intro Q E p s h hQ hE; exact .of_go (step_loadIfAlive ..) (ih _ h hQ hE)
  | point l k ih => intro Q E p s h hQ hE; exact .of_go (step_point ..) (ih () h hQ hE)
  | fresh k ih => intro Q E p s h hQ hE; exact .of_go (step_fresh ..) (ih _ h hQ hE)
  | ask k ih => intro Q E p s h hQ hE; exact .of_go (step_ask ..) (ih _ h hQ hE)
  | choose src n k ih => intro Q E p s h hQ hE; obtain ⟨hn, h⟩ := h; exact .of_go (step_choose _ _ _ _ _ _ _ hn) (ih _ h hQ hE)
  | os q l k ih => intro Q E p s h hQ hE; exact .of_go (step_os ..) (ih _ h hQ hE)
  | call c' hd g l k ih =>
    intro Q E p s hw hQ hE; obtain ⟨r, s₁, hret, hw⟩ := hw
    refine .of_go (step_call ..) (Leads.of_runs (fs := []) hret (Ctx.Fits.enter (Ctx.fits_of c st) c' (fun x => (k x).wrap K H gd lv) hd (gd g) (lv l) p []) fun t' c₂ p₂ pre' hx => ?_)
    obtain ⟨rfl, rfl⟩ := hx
    exact .of_go (step_leaf_ret ..) (ih r hw hQ hE)
  | handled own k ih =>
    intro Q E p s h hQ hE
    refine .of_go (step_handled ..) (ih _ (Q := Q) (E := E) ?_ hQ hE)
    cases own <;> exact h
  | newGen c' k ih => intro Q E p s h hQ hE; exact .of_go (step_newGen ..) (ih _ h hQ hE)
  | genState g k ih => intro Q E p s h hQ hE; obtain ⟨x, hg, h⟩ := h; exact .of_go (step_genState _ _ _ _ _ _ hg) (ih _ h hQ hE)
  | resume g r l k ih =>
    intro Q E p s h hQ hE; obtain ⟨res, s₁, hwk, h⟩ := h
    unfold Wakes at hwk
    cases hg : s.gens[g]? with
    | none => rw [hg] at hwk; exact hwk.elim
    | some gs =>
      rw [hg] at hwk
      cases gs with
      | fresh c' =>
        cases r with
        | throw x => obtain ⟨rfl, rfl⟩ := hwk; exact .of_go (step_resume_throwFresh _ _ _ _ _ _ _ _ hg) (ih _ h hQ hE)
        | send v =>
          by_cases hv : v = .none
          · subst hv
            obtain ⟨e₁, s₂, hr, hq, rfl, rfl⟩ := hwk
            refine .of_go (step_resume_fresh _ _ _ _ _ _ _ hg) (Leads.of_runs (fs := []) hr (Ctx.Fits.wake (Ctx.fits_of c st) c' g (fun x => (k x).wrap K H gd lv) (lv l) p) fun t' c₂ p₂ pre' hx => ?_)
            exact .of_go (step_exit_gen _ _ _ _ _ _ _ hx hq) (ih _ h hQ hE)
          · have : res = .justStarted ∧ s₁ = s := by cases v <;> first | exact absurd rfl hv | exact hwk
            obtain ⟨rfl, rfl⟩ := this
            exact .of_go (step_resume_justStarted _ _ _ _ _ _ _ hg hv) (ih _ h hQ hE)
      | suspended k₀ l₀ c₀ p₀ fs cl =>
        obtain ⟨e₁, s₂, hr, hq, rfl, rfl⟩ := hwk
        refine .of_go (step_resume_suspended _ _ _ _ _ _ _ _ hg) (Leads.of_runs hr (Ctx.Fits.wake (Ctx.fits_of c st) c₀ g (fun x => (k x).wrap K H gd lv) (lv l) p) fun t' c₂ p₂ pre' hx => ?_)
        exact .of_go (step_exit_gen _ _ _ _ _ _ _ hx hq) (ih _ h hQ hE)
      | running => obtain ⟨rfl, rfl⟩ := hwk; exact .of_go (step_resume_running _ _ _ _ _ _ _ _ hg) (ih _ h hQ hE)
      | finished => obtain ⟨rfl, rfl⟩ := hwk; exact .of_go (step_resume_finished _ _ _ _ _ _ _ _ hg) (ih _ h hQ hE)
  | stack k ih => intro Q E p s h hQ hE; exact .of_go (step_stack ..) (ih _ h hQ hE)
  | thread k ih => intro Q E p s h hQ hE; exact .of_go (step_thread ..) (ih _ h hQ hE)
end
end

section
open PySem PySem.W PySem.Calls PyProof.Rows
def am (d u : Nat) : Around := { depth := d, units := u }
structure Bel (st : List Frame) (d u : Nat) : Prop where
  h : topHandled st = none
  d : frameCount (st.map Frame.where_) ≤ d
  u : unitsOf (st.map Frame.where_) ≤ u
structure Amb (c : Code) (st : List Frame) (d u : Nat) : Prop where
  h : topHandled st = none
  d : frameCount (st.map Frame.where_) + c.weight ≤ d
  u : c.cUnits + unitsOf (st.map Frame.where_) ≤ u
theorem Amb.in {c : Code} {st : List Frame} {d u : Nat} (a : Amb c st d u) : (Ctx.of c st).In (am d u) :=
  ⟨a.h, a.d, (by intro l h; cases h), (by intro l h; cases h), a.u⟩
theorem Bel.below {c : Code} {st : List Frame} {d u : Nat} (a : Bel st d u) : (Ctx.of c st).Below (am d u) :=
  ⟨a.h, a.d, (by intro l h; cases h), (by intro l h; cases h), a.u⟩
theorem Bel.amb {st : List Frame} {d u : Nat} (a : Bel st d u) (c : Code) : Amb c st (d + c.weight) (u + c.cUnits) :=
  ⟨a.h, Nat.add_le_add_right a.d _, by have := a.u; omega⟩
theorem Bel.mono {st : List Frame} {d u d' u' : Nat} (a : Bel st d u) (hd : d ≤ d') (hu : u ≤ u') : Bel st d' u' := ⟨a.h, Nat.le_trans a.d hd, Nat.le_trans a.u hu⟩
theorem Amb.mono {c : Code} {st : List Frame} {d u d' u' : Nat} (a : Amb c st d u) (hd : d ≤ d') (hu : u ≤ u') : Amb c st d' u' := ⟨a.h, Nat.le_trans a.d hd, Nat.le_trans a.u hu⟩
theorem Amb.call {c : Code} {st : List Frame} {d u : Nat} (a : Amb c st d u) {k g l p kp} : Bel (.ret k none g l c p kp :: st) d u :=
  ⟨a.h, by rw [List.map_cons, show (Frame.ret k none g l c p kp).where_ = (c, p) from rfl, frameCount_cons]; have := a.d; omega,
   by rw [List.map_cons, show (Frame.ret k none g l c p kp).where_ = (c, p) from rfl, unitsOf_cons]; exact a.u⟩
theorem Amb.gen {c : Code} {st : List Frame} {d u : Nat} (a : Amb c st d u) {g k l p} : Bel (.gen g k l c p :: st) d u :=
  ⟨a.h, by rw [List.map_cons, show (Frame.gen g k l c p).where_ = (c, p) from rfl, frameCount_cons]; have := a.d; omega,
   by rw [List.map_cons, show (Frame.gen g k l c p).where_ = (c, p) from rfl, unitsOf_cons]; exact a.u⟩

abbrev no {α : Type} : α → Shared → Prop := fun _ _ => False

section
variable {prog : Program} {w : World} {α β : Type} {d u : Nat} {s : Shared}
-- a piece of a tree, lead by its continuation
def LG (prog : Program) (w : World) (d u : Nat) (m : Sem α) (Q : α → Shared → Prop) (E : Value → Shared → Prop) (s : Shared) : Prop :=
  ∀ (P : Shared → Thread → Prop) (c : Code) (st : List Frame) (p : Pos) (K : α → Sem PySem.Fin) (H : Value → Sem PySem.Fin) (gd : Bool → Bool) (lv : List Value → List Value), Amb c st d u →
    (∀ a p' s', Q a s' → Ld prog w P s' ⟨K a, c, p', st⟩) → (∀ x p' s', E x s' → Ld prog w P s' ⟨H x, c, p', st⟩) → Ld prog w P s ⟨m.wrap K H gd lv, c, p, st⟩
-- a code, lead by its leaf
def CG (prog : Program) (w : World) (d u : Nat) (c : Code) (R : Result → Shared → Prop) (s : Shared) : Prop :=
  ∀ (P : Shared → Thread → Prop) (st : List Frame) (p : Pos), Bel st d u → (∀ r c' p' s', R r s' → Ld prog w P s' ⟨leafOf r, c', p', st⟩) → Ld prog w P s ⟨denote table c, c, p, st⟩

theorem lg_of {m : Sem α} {Q : α → Shared → Prop} {E : Value → Shared → Prop} (h : wpAny (model prog w) (am d u) m Q E s) : LG prog w d u m Q E s :=
  fun _ _ _ p _ _ _ _ a hQ hE => Leads.wrap m (h _ p a.in) hQ hE
theorem lg_mono {m : Sem α} {Q Q' : α → Shared → Prop} {E E' : Value → Shared → Prop} (h : LG prog w d u m Q E s) (hQ : ∀ a s, Q a s → Q' a s) (hE : ∀ e s, E e s → E' e s) : LG prog w d u m Q' E' s :=
  fun P c st p K H gd lv a q e => h P c st p K H gd lv a (fun x p' s' y => q x p' s' (hQ _ _ y)) (fun x p' s' y => e x p' s' (hE _ _ y))
theorem lg_bind {m : Sem α} {f : α → Sem β} {Q : β → Shared → Prop} {E : Value → Shared → Prop} (h : LG prog w d u m (fun a s' => LG prog w d u (f a) Q E s') E s) : LG prog w d u (m >>= f) Q E s := by
  intro P c st p K H gd lv a q e
  rw [Sem.bind_eq_wrap', Sem.wrap_wrap]
  exact h P c st p _ _ _ _ a (fun x p' s' y => y P c st p' K H gd lv a q e) e
theorem lg_pure {a : α} {Q : α → Shared → Prop} {E : Value → Shared → Prop} (h : Q a s) : LG prog w d u (pure a) Q E s := fun _ _ _ p _ _ _ _ _ q _ => q a p s h
theorem lg_tryCatch {m : Sem α} {k : Value → Sem α} {Q : α → Shared → Prop} {E : Value → Shared → Prop} (h : LG prog w d u m Q (fun e s' => LG prog w d u (k e) Q E s') s) : LG prog w d u (m.tryCatch k) Q E s := by
  intro P c st p K H gd lv a q e
  rw [Sem.tryCatch_eq_wrap, Sem.wrap_wrap]
  exact h P c st p _ _ _ _ a q (fun x p' s' y => y P c st p' K H gd lv a q e)
theorem lg_attempt {m : Sem α} {Q : Except Value α → Shared → Prop} {E : Value → Shared → Prop} (h : LG prog w d u m (fun a => Q (.ok a)) (fun e => Q (.error e)) s) : LG prog w d u m.attempt Q E s := by
  unfold Sem.attempt
  refine lg_tryCatch (lg_bind (m := m) (lg_mono h (fun a s' x => lg_pure x) fun e s' x => lg_pure x))
theorem lg_onRaise {m : Sem α} {k : Value → Sem Unit} {Q : α → Shared → Prop} (h : LG prog w d u m Q no s) : LG prog w d u (m.onRaise k) Q no s := by
  intro P c st p K H gd lv a q e
  rw [Sem.onRaise_eq_wrap, Sem.wrap_wrap]
  exact h P c st p _ _ _ _ a q (fun x p' s' y => y.elim)
theorem lg_keep {vs : List Value} {m : Sem α} {Q : α → Shared → Prop} {E : Value → Shared → Prop} (h : LG prog w d u m Q E s) : LG prog w d u (m.keep vs) Q E s := by
  intro P c st p K H gd lv a q e
  rw [Sem.keep_eq_wrap, Sem.wrap_wrap]
  exact h P c st p _ _ _ _ a q e
theorem lg_holding {vs : List Value} {m : Sem α} {Q : α → Shared → Prop} {E : Value → Shared → Prop} (h : LG prog w d u m Q E s) : LG prog w d u (holding vs m) Q E s := by
  unfold PySem.holding
  split
  · exact h
  · exact lg_keep h
theorem wrap_id (t : Sem PySem.Fin) : t.wrap .pure .raise id id = t := by
  rw [← Sem.bind_eq_wrap]
  induction t <;> simp only [Sem.bind, *]
theorem cg_of {c : Code} {R : Result → Shared → Prop} (h : codeAny (model prog w) (am d u) c R s) : CG prog w d u c R s := by
  intro P st p b q
  obtain ⟨r, s', hr, hR⟩ := h (Ctx.of c st) p rfl b.below
  refine Leads.of_runs (fs := []) hr (Ctx.fits_of c st) fun t' c' p' pre' hx => ?_
  obtain ⟨rfl, rfl⟩ := hx
  exact q r c' p' s' hR
theorem cg_mono {c : Code} {R R' : Result → Shared → Prop} (h : CG prog w d u c R s) (hR : ∀ r s, R r s → R' r s) : CG prog w d u c R' s :=
  fun P st p b q => h P st p b fun r c' p' s' y => q r c' p' s' (hR _ _ y)
theorem cg_tree {c : Code} {R : Result → Shared → Prop} (h : LG prog w (d + c.weight) (u + c.cUnits) (denote table c) (fun fin s' => match fin with | .done f => R (.ok f) s' | .again c' => c'.quiet = true ∧ CG prog w d u c' R s') (fun e s' => R (.error e) s') s) :
    CG prog w d u c R s := by
  intro P st p b q
  rw [← wrap_id (denote table c)]
  refine h P c st p _ _ _ _ (b.amb c) (fun fin p' s' y => ?_) fun e p' s' y => q _ _ _ _ y
  cases fin with
  | done f => exact q (.ok f) _ _ _ y
  | again c' => exact .of_go (step_again _ _ _ _ _ _ y.1) (y.2 P st p' b q)
theorem lg_run {c : Code} {Q : Flow → Shared → Prop} {E : Value → Shared → Prop} (h : CG prog w d u c (fun r s' => match r with | .ok f => Q f s' | .error e => E e s') s) : LG prog w d u (run c) Q E s := by
  intro P c₀ st p K H gd lv a q e
  refine .of_go (step_call ..) (h P _ p a.call fun r c' p' s' y => .of_go (step_leaf_ret ..) ?_)
  cases r with
  | ok f => exact q f _ _ y
  | error x => exact e x _ _ y
theorem lg_runValue {c : Code} {Q : Value → Shared → Prop} {E : Value → Shared → Prop} (h : CG prog w d u c (fun r s' => match r with | .ok (.ret v) => Q v s' | .error e => E e s' | _ => False) s) : LG prog w d u (runValue c) Q E s := by
  refine lg_bind (m := PySem.run c) (lg_run (cg_mono h fun r s' y => ?_))
  cases r with
  | error x => exact y
  | ok f => cases f <;> first | exact y.elim | exact lg_pure y
theorem cg_builtin {id : String} {args : Args} {b : Builtin} {R : Result → Shared → Prop} (hq : plainId id = true) (hb : entryFor table id = some b)
    (h : LG prog w d (u + 1) (checkBuiltinCall id args) (fun _ s₁ => LG prog w d (u + 1) (b args) (fun fin s' => match fin with | .done f => R (.ok f) s' | .again c' => c'.quiet = true ∧ CG prog w d u c' R s') (fun e s' => R (.error e) s') s₁)
      (fun e s' => R (.error e) s') s) : CG prog w d u (.call (.builtin id) args) R s := by
  refine cg_tree ?_
  show LG _ _ d (u + 1) (do checkBuiltinCall id args; again (.builtin id args)) _ _ s
  refine lg_bind (lg_mono h (fun _ s₁ h₁ => lg_pure ⟨plainId_quiet hq args, cg_tree ?_⟩) fun _ _ y => y)
  rw [plainId_weight hq args, plainId_units hq args]
  show LG _ _ d (u + 1) (match entryFor table id with | some b => b args | none => unsupported ((withoutEnding? id "#data").getD id)) _ _ s₁
  rw [hb]
  exact h₁
end
end

section
open PySem PySem.W PySem.Calls PyProof.Rows
section
variable {w : World} {os : OsState} {h₀ : Heap} {l l' : List Cell} {gl gl' : List (Nat × GenState)} {s s' : Shared}
theorem St.setG {g : Nat} {x y : GenState} {g₁ g₂ : List (Nat × GenState)} (a : St w os h₀ l (g₁ ++ (g, x) :: g₂) s) : St w os h₀ l (g₁ ++ (g, y) :: g₂) (s.setGen g y) := by
  have hg : s.gens[g]? = some x := a.gn.own (g, x) (by simp)
  have nd := a.gn.nd
  refine ⟨a.bs, a.hq, ⟨fun p hp => ?_, by simpa using nd⟩, fun i z hz => ?_, a.os⟩
  · rcases List.mem_append.mp hp with hp | hp
    · have hne : p.1 ≠ g := by
        intro q
        rw [List.map_append, List.nodup_append] at nd
        exact nd.2.2 p.1 (List.mem_map_of_mem hp) g (by simp) q
      show (s.gens.setIfInBounds g y)[p.1]? = some p.2
      rw [Array.getElem?_setIfInBounds, if_neg (Ne.symm hne)]
      exact a.gn.own p (List.mem_append_left _ hp)
    · rcases List.mem_cons.mp hp with rfl | hp
      · exact setGen_self hg
      · have hne : p.1 ≠ g := by
          intro q
          rw [List.map_append, List.nodup_append, List.map_cons, List.nodup_cons] at nd
          have hm := List.mem_map_of_mem (f := Prod.fst) hp
          rw [q] at hm
          exact nd.2.1.1 hm
        show (s.gens.setIfInBounds g y)[p.1]? = some p.2
        rw [Array.getElem?_setIfInBounds, if_neg (Ne.symm hne)]
        exact a.gn.own p (List.mem_append_right _ (List.mem_cons_of_mem _ hp))
  · have hz' : (s.gens.setIfInBounds g y)[i]? = some z := hz
    rw [Array.getElem?_setIfInBounds] at hz'
    by_cases q : g = i
    · right; simp [q]
    · rw [if_neg q] at hz'
      rcases a.bare i z hz' with b | b
      · exact .inl b
      · right; simpa using b
theorem St.newG {c : Code} (a : St w os h₀ l gl s) : St w os h₀ l ((s.gens.size, .fresh c) :: gl) { s with gens := s.gens.push (.fresh c) } := by
  refine ⟨a.bs, a.hq, ⟨fun p hp => ?_, ?_⟩, fun i z hz => ?_, a.os⟩
  · show (s.gens.push (.fresh c))[p.1]? = some p.2
    rcases List.mem_cons.mp hp with rfl | hp
    · exact Array.getElem?_push_size ..
    · have := a.gn.own p hp
      obtain ⟨hl, _⟩ := Array.getElem?_eq_some_iff.mp this
      rw [Array.getElem?_push_lt hl, ← this, Array.getElem?_eq_getElem hl]
  · refine List.nodup_cons.mpr ⟨fun hm => ?_, a.gn.nd⟩
    obtain ⟨p, hp, e⟩ := List.mem_map.mp hm
    obtain ⟨hl, _⟩ := Array.getElem?_eq_some_iff.mp (a.gn.own p hp)
    rw [e] at hl
    exact Nat.lt_irrefl _ hl
  · have hz' : (s.gens.push (.fresh c))[i]? = some z := hz
    rw [Array.getElem?_push] at hz'
    split at hz'
    · cases hz'; exact .inl rfl
    · rcases a.bare i z hz' with b | b
      · exact .inl b
      · exact .inr (List.mem_cons_of_mem _ b)
theorem St.dropG {g : Nat} {x : GenState} (a : St w os h₀ l ((g, x) :: gl) s) (hx : x.bare = true) : St w os h₀ l gl s := by
  refine ⟨a.bs, a.hq, ⟨fun p hp => a.gn.own p (List.mem_cons_of_mem _ hp), (List.nodup_cons.mp a.gn.nd).2⟩, fun i z hz => ?_, a.os⟩
  rcases a.bare i z hz with b | b
  · exact .inl b
  · rcases List.mem_cons.mp b with b | b
    · have := a.gn.own (g, x) (List.mem_cons_self ..)
      simp only [] at b this
      rw [b, this] at hz
      cases hz
      exact .inl hx
    · exact .inr b
theorem St.permG (a : St w os h₀ l gl s) (h : gl'.Perm gl) : St w os h₀ l gl' s :=
  ⟨a.bs, a.hq, ⟨fun p hp => a.gn.own p (h.mem_iff.mp hp), (h.map _).nodup_iff.mpr a.gn.nd⟩, fun i z hz => (a.bare i z hz).imp id fun b => (h.map _).mem_iff.mpr b, a.os⟩
theorem St.growG {c : Code} {o : Obj} (a : St w os h₀ l gl s) {P : Obj → Prop} (hf : o.isFreed = false) (hP : P o) {t : Nat} :
    St w os h₀ ((s.heap.objs.size, P) :: l) ((s.gens.size, .fresh c) :: gl) { s with gens := s.gens.push (.fresh c), toks := t, heap := s.heap.push o } :=
  (St.newG a).push (s' := { s with gens := s.gens.push (.fresh c), toks := t, heap := s.heap.push o }) hf hP rfl rfl rfl
end

-- a generator's object
def GenO (g : Nat) (o : Obj) : Prop := ∃ nm qn sl, o = { cls := .type "generator", data := .fields #[.int g 0, nm, qn], slots := sl } ∧ (sl = #[] ∨ sl = #[some (rawInt 0)])

section
variable {X : Type} (prog : Program) (w : World) (os : OsState) (Rel : Heap → Value → X → Prop) (kd : Nat)
def Wake (P : Shared → Thread → Prop) (gs : GenState) (g : Nat) (k : GenResult → Sem PySem.Fin) (lv : List Value) (c : Code) (p : Pos) (st : List Frame) (s : Shared) : Prop :=
  match gs with
  | .fresh c' => Ld prog w P s ⟨denote table c', c', p, .gen g k lv c p :: st⟩
  | .suspended k₀ _ c₀ p₀ fs _ => Ld prog w P s ⟨k₀ (.send .none), c₀, p₀, fs ++ .gen g k lv c p :: st⟩
  | _ => False
-- a generator that will give these and end; l, gl: what it owns
def Gen : List X → Heap → GenState → List Cell → List (Nat × GenState) → Prop
  | [], h₀, gs, l, gl => ∀ (P : Shared → Thread → Prop) h₁ lf glf s g k lv c p st d u, Le h₀ h₁ → St w os h₁ (l ++ lf) (gl ++ glf) s → Bel (.gen g k lv c p :: st) d u → d + kd ≤ 900 → u + 20 * kd ≤ 9000 →
      (∀ h₂ s', Le h₁ h₂ → St w os h₂ lf glf s' → Ld prog w P (s'.setGen g .finished) ⟨k (.returned .none), c, p, st⟩) → Wake prog w P gs g k lv c p st s
  | x :: xs, h₀, gs, l, gl => ∀ (P : Shared → Thread → Prop) h₁ lf glf s g k lv c p st d u, Le h₀ h₁ → St w os h₁ (l ++ lf) (gl ++ glf) s → Bel (.gen g k lv c p :: st) d u → d + kd ≤ 900 → u + 20 * kd ≤ 9000 →
      (∀ v h₂ l' gl' gs' s', Le h₁ h₂ → Rel h₂ v x → St w os h₂ (l' ++ lf) (gl' ++ glf) s' → (∃ c, gs' = .fresh c ∨ ∃ k l c p fs cl, gs' = .suspended k l c p fs cl) → Gen xs h₂ gs' l' gl' → Ld prog w P (s'.setGen g gs') ⟨k (.yielded v), c, p, st⟩) → Wake prog w P gs g k lv c p st s
def Own (xs : List X) (h₀ : Heap) (a : Addr) (l : List Cell) (gl : List (Nat × GenState)) : Prop :=
  ∃ g gs lc glc, l = (a, GenO g) :: lc ∧ gl = (g, gs) :: glc ∧ (∃ c, gs = .fresh c ∨ ∃ k l c p fs cl, gs = .suspended k l c p fs cl) ∧ Gen prog w os Rel kd xs h₀ gs lc glc
def After (lf : List Cell) (glf : List (Nat × GenState)) (h₀ : Heap) (a : Addr) (Q : Option Value → Shared → Prop) : List X → Prop
  | [] => ∀ h₁ s', Le h₀ h₁ → St w os h₁ lf glf s' → Q none s'
  | x :: xs => ∀ v h₁ l' gl' s', Le h₀ h₁ → Rel h₁ v x → Own prog w os Rel kd xs h₁ a l' gl' → St w os h₁ (l' ++ lf) (gl' ++ glf) s' → Q (some v) s'

variable {X : Type} {prog : Program} {w : World} {os : OsState} {Rel : Heap → Value → X → Prop} {kd : Nat} {d u : Nat}
theorem lg_resume {xs : List X} {h₀ h₁ : Heap} {g : Nat} {gs : GenState} {lc lf : List Cell} {glc glf : List (Nat × GenState)} {s : Shared} {Q : GenResult → Shared → Prop} (hG : Gen prog w os Rel kd xs h₀ gs lc glc) (hk : Le h₀ h₁)
    (hf : ∃ c, gs = .fresh c ∨ ∃ k l c p fs cl, gs = .suspended k l c p fs cl)
    (hS : St w os h₁ (lc ++ lf) ((g, gs) :: glc ++ glf) s) (hd : d + kd ≤ 900) (hu : u + 20 * kd ≤ 9000)
    (hQ : match xs with
      | [] => ∀ h₂ s', Le h₁ h₂ → St w os h₂ lf ((g, .finished) :: glf) s' → Q (.returned .none) s'
      | x :: xs => ∀ v h₂ l' gl' gs' s', Le h₁ h₂ → Rel h₂ v x → St w os h₂ (l' ++ lf) ((g, gs') :: gl' ++ glf) s' → (∃ c, gs' = .fresh c ∨ ∃ k l c p fs cl, gs' = .suspended k l c p fs cl) → Gen prog w os Rel kd xs h₂ gs' l' gl' → Q (.yielded v) s') :
    LG prog w d u (.resume g (.send .none) [] .pure) Q no s := by
  intro P c st p K H gd lv a q e
  have hg : s.gens[g]? = some gs := hS.gn.own (g, gs) (by simp)
  have hS' : St w os h₁ (lc ++ lf) (glc ++ ((g, .running) :: glf)) (s.setGen g .running) :=
    (St.setG (g₁ := []) (y := .running) hS).permG (by simpa using (List.perm_middle (l₁ := glc) (a := (g, GenState.running)) (l₂ := glf)))
  have hW : Wake prog w P gs g K (lv []) c p st (s.setGen g .running) := by
    cases xs with
    | nil =>
      refine hG P h₁ lf ((g, .running) :: glf) _ g K (lv []) c p st d u hk hS' a.gen hd hu fun h₂ s' k' hS₂ => q _ _ _ (hQ h₂ _ k' (St.setG (g₁ := []) hS₂))
    | cons x xs =>
      refine hG P h₁ lf ((g, .running) :: glf) _ g K (lv []) c p st d u hk hS' a.gen hd hu fun v h₂ l' gl' gs' s' k' hr hS₂ hf₂ hG₂ => q _ _ _ (hQ v h₂ l' gl' gs' _ k' hr ?_ hf₂ hG₂)
      exact (St.setG (g₁ := gl') hS₂).permG (by simpa using (List.perm_middle (l₁ := gl') (a := (g, gs')) (l₂ := glf)).symm)
  obtain ⟨c', hc | ⟨k₀, l₀, c₀, p₀, fs, cl, hc⟩⟩ := hf
  · subst hc
    exact .of_go (step_resume_fresh _ _ _ _ _ _ _ hg) hW
  · subst hc
    exact .of_go (step_resume_suspended _ _ _ _ _ _ _ _ hg) hW
end
end

section
open PySem PySem.W PySem.Calls PyProof.Rows
section
variable {X : Type} {prog : Program} {w : World} {os : OsState} {Rel : Heap → Value → X → Prop} {kd : Nat} {d u : Nat} {h₀ : Heap} {l lf : List Cell} {gl glf : List (Nat × GenState)} {s : Shared} {i : Nat}
theorem St.genO {a : Addr} {g : Nat} (x : St w os h₀ l gl s) (hi : l[i]? = some (a, GenO g)) : ∃ nm qn sl, s.heap.get? a = some { cls := .type "generator", data := .fields #[.int g 0, nm, qn], slots := sl } ∧ (sl = #[] ∨ sl = #[some (rawInt 0)]) :=
  let ⟨_, ho, nm, qn, sl, e, h⟩ := x.at hi; ⟨nm, qn, sl, e ▸ ho, h⟩
theorem r_genNumber {M : Model} {A : Around} {E : Value → Shared → Prop} {a : Addr} {g : Nat} {Q : Nat → Shared → Prop} (hS : St w os h₀ l gl s) (hi : l[i]? = some (a, GenO g)) (h : Q g s) : wpAny M A (Builtin.Generator.genNumber (.ref a)) Q E s := by
  obtain ⟨nm, qn, sl, ho, hsl⟩ := hS.genO hi
  unfold Builtin.Generator.genNumber
  refine wpAny_bind (wpAny_load ho ?_)
  rcases hsl with rfl | rfl
  · show wpAny M A (pure ((g : Int).toNat)) Q E s
    rw [Int.toNat_natCast]; exact wpAny_pure h
  · show wpAny M A (pure ((g : Int).toNat)) Q E s
    rw [Int.toNat_natCast]; exact wpAny_pure h

def AfterN (prog : Program) (w : World) (os : OsState) (Rel : Heap → Value → X → Prop) (kd : Nat) (lf : List Cell) (glf : List (Nat × GenState)) (h₀ : Heap) (a : Addr) (Q : Value → Shared → Prop) (E : Value → Shared → Prop) : List X → Prop
  | [] => ∀ h₁ s' e vs, Le h₀ h₁ → St w os h₁ lf glf s' → s'.heap.get? e = some { cls := .type "StopIteration", data := .fields vs } → vs[5]? = some Value.none → E (.ref e) s'
  | x :: xs => ∀ v h₁ l' gl' s', Le h₀ h₁ → Rel h₁ v x → Own prog w os Rel kd xs h₁ a l' gl' → St w os h₁ (l' ++ lf) (gl' ++ glf) s' → Q v s'
theorem lg_callNext {xs : List X} {a : Addr} {h₁ : Heap} {Q : Option Value → Shared → Prop} {E : Value → Shared → Prop} (hO : Own prog w os Rel kd xs h₀ a l gl) (hk : Le h₀ h₁) (hS : St w os h₁ (l ++ lf) (gl ++ glf) s) (hd : d + kd ≤ 900) (hu : u + 20 * kd + 20 ≤ 9000)
    (hQ : AfterN prog w os Rel kd lf glf h₁ a (fun v s' => Q (some v) s') E xs) : LG prog w d u (callSpecial? (.ref a) "__next__") Q E s := by
  obtain ⟨g, gs, lc, glc, rfl, rfl, hf, hG⟩ := hO
  obtain ⟨nm, qn, sl, ho, hsl⟩ := hS.genO (i := 0) rfl
  have hty : s.TypeIs (.ref a) "generator" := ⟨_, ho, rfl⟩
  simp only [callSpecial?]
  refine lg_bind (lg_of (wpAny_specialOf hty slot_gen_next.lookup ?_))
  simp only [slot_gen_next.bind]
  refine lg_holding (lg_bind (lg_pure (lg_bind (m := call _ _ _) ?_)))
  refine lg_runValue (cg_builtin slot_gen_next.plain entry_gen_next (lg_of (slot_gen_next.check _ _ _ _ _ _ _ _ hty (args_gen_next _) ?_)))
  show LG _ _ _ _ (Builtin.Generator.genWake (.ref a) (.send .none)) _ _ s
  unfold Builtin.Generator.genWake
  refine lg_bind (lg_of (wpAny_holding (r_genNumber hS (i := 0) rfl ?_)))
  refine lg_bind (lg_of (wpAny_genState (hS.gn.own (g, gs) (by simp)) ?_))
  have hS' : St w os h₁ (lc ++ ((a, GenO g) :: lf)) ((g, gs) :: glc ++ glf) s := hS.perm (by simpa using (List.perm_middle (l₁ := lc) (a := ((a, GenO g) : Cell)) (l₂ := lf)))
  have hres : ∀ {Q' : GenResult → Shared → Prop} {E' : Value → Shared → Prop}, (match xs with
      | [] => ∀ h₂ s', Le h₁ h₂ → St w os h₂ ((a, GenO g) :: lf) ((g, .finished) :: glf) s' → Q' (.returned .none) s'
      | x :: xs => ∀ v h₂ l' gl' gs' s', Le h₁ h₂ → Rel h₂ v x → St w os h₂ (l' ++ (a, GenO g) :: lf) ((g, gs') :: gl' ++ glf) s' → (∃ c, gs' = .fresh c ∨ ∃ k l c p fs cl, gs' = .suspended k l c p fs cl) → Gen prog w os Rel kd xs h₂ gs' l' gl' → Q' (.yielded v) s') →
      LG prog w d (u + 1) (resume g (.send .none)) Q' E' s := by
    intro Q' E' hq
    refine lg_mono (Q := Q') (E := no) (lg_resume hG hk hf hS' (by omega) (by omega) ?_) (fun _ _ x => x) fun _ _ x => x.elim
    cases xs with
    | nil => exact hq
    | cons x xs => exact fun v h₂ l' gl' gs' s' a b c e => hq v h₂ l' gl' gs' s' a b c e
  have hl : s.heap.NoLimit := hS.bs.lim.keeps hS.hp.keep
  have hroom : (am d (u + 1)).depth < recursionLimit := by show d < recursionLimit; simp only [recursionLimit]; omega
  rcases hf with ⟨c, rfl | ⟨k₀, l₀, c₀, p₀, fs, cl, rfl⟩⟩
  all_goals
    show LG prog w d (u + 1) (roomToWake >>= fun _ => resume g (.send .none) >>= _) _ _ s
    refine lg_bind (lg_of (wpAny_roomToWake hl hroom (lg_bind (hres ?_))))
    cases xs with
    | nil =>
      intro h₂ s' k' hS₂
      have hS₃ : St w os h₂ lf glf s' := (hS₂.dropG rfl).sub (List.sublist_cons_self ..)
      refine lg_of ?_
      show wpAny _ _ (newExc (.type "StopIteration") [] >>= _) _ _ _
      refine wpAny_bind ?_
      simp only [newExc, newTuple]
      refine wpAny_bind (wpAny_newObj_type ?_ (by size_fits))
      refine wpAny_bind (m := firstArgMember _ _) (wpAny_of_eq (a := Value.none) (by first | rfl | (simp only [firstArgMember]; rfl)) ?_)
      refine wpAny_newObj_type ?_ (by size_fits)
      simp only [raiseNew]
      refine wpAny_bind (wpAny_bind (wpAny_handled ?_))
      refine wpAny_bind (wpAny_pure ?_)
      refine wpAny_throw ?_
      exact hQ h₂ _ _ _ k' (hS₃.ext (fun b o e => Heap.get?_push_of_some _ (Heap.get?_push_of_some _ e)) rfl rfl) (Heap.get?_push_size _ rfl) (by rfl)
    | cons x xs =>
      intro v h₂ l' gl' gs' s' k' hr hS₂ hf' hG'
      refine lg_of (m := ret v) (wpAny_pure ?_)
      refine lg_pure (hQ v h₂ ((a, GenO g) :: l') ((g, gs') :: gl') s' k' hr ⟨g, gs', l', gl', rfl, rfl, hf', hG'⟩ (hS₂.perm ?_))
      simpa using (List.perm_middle (l₁ := l') (a := ((a, GenO g) : Cell)) (l₂ := lf)).symm
theorem lg_pyNext {xs : List X} {a : Addr} {h₁ : Heap} {Q : Option Value → Shared → Prop} (hO : Own prog w os Rel kd xs h₀ a l gl) (hk : Le h₀ h₁) (hS : St w os h₁ (l ++ lf) (gl ++ glf) s) (hd : d + kd ≤ 900) (hu : u + 20 * kd + 20 ≤ 9000)
    (hQ : After prog w os Rel kd lf glf h₁ a Q xs) : LG prog w d u (pyNext (.ref a)) Q no s := by
  unfold pyNext
  refine lg_bind (lg_attempt (lg_callNext hO hk hS hd hu ?_))
  cases xs with
  | nil =>
    intro h₂ s' e vs k' hS₂ he _
    exact lg_of (wpAny_bind (wpAny_isInstance (T := "StopIteration") (b := true) ⟨_, he, rfl⟩ isSubtype_stop (wpAny_pure (hQ h₂ s' k' hS₂))))
  | cons x xs => exact fun v h₂ l' gl' s' k' hr hO' hS₂ => lg_pure (hQ v h₂ l' gl' s' k' hr hO' hS₂)
end
end

section
open PySem PySem.W PySem.Calls PyProof.Rows
section
variable {prog : Program} {w : World} {P : Shared → Thread → Prop} {d u : Nat} {s : Shared} {c : Code} {p : Pos} {stk : List Frame} {env : Env} {K : Flow → Sem PySem.Fin} {H : Value → Sem PySem.Fin}
theorem ld_lg {α : Type} {m : Sem α} {K : α → Sem PySem.Fin} (a : Amb c stk d u) (h : LG prog w d u m (fun x s' => ∀ p, Ld prog w P s' ⟨K x, c, p, stk⟩) no s) : Ld prog w P s ⟨m.wrap K H id id, c, p, stk⟩ :=
  h P c stk p K H id id a (fun _ p' _ y => y p') fun _ _ _ y => y.elim
theorem ld_bind {α β : Type} {m : Sem α} {f : α → Sem β} {K : β → Sem PySem.Fin} (a : Amb c stk d u) (h : LG prog w d u m (fun x s' => ∀ p, Ld prog w P s' ⟨(f x).wrap K H id id, c, p, stk⟩) no s) : Ld prog w P s ⟨(m >>= f).wrap K H id id, c, p, stk⟩ := by
  rw [Sem.bind_eq_wrap', Sem.wrap_wrap]
  exact ld_lg a h
theorem ld_func {body : List Stmt} {pr : Pos} (h : ∀ p K H, K .next = leafOf (.ok (.ret .none)) → Ld prog w P s ⟨(execs body env).wrap K H id id, .func body env, p, stk⟩) : Ld prog w P s ⟨denote table (.func body env), .func body env, pr, stk⟩ := by
  show Ld prog w P s ⟨.point [] fun _ => ((execs body env).onRaise (leaving env)) >>= _, .func body env, pr, stk⟩
  refine .of_go (step_point ..) ?_
  rw [Sem.onRaise_eq_wrap, Sem.bind_eq_wrap', Sem.wrap_wrap]
  exact h _ _ _ rfl
theorem ld_cons {st : Stmt} {rest : List Stmt} (h : ∀ K', K' .next = (execs rest env).wrap K H id id → (∀ v, K' (.ret v) = K (.ret v)) → K' .cont = K .cont → Ld prog w P s ⟨(exec st env).wrap K' H id id, c, p, stk⟩) : Ld prog w P s ⟨(execs (st :: rest) env).wrap K H id id, c, p, stk⟩ := by
  rw [execs_cons_wrap]
  exact h _ rfl (fun _ => rfl) rfl
theorem ld_nil (h : Ld prog w P s ⟨K .next, c, p, stk⟩) : Ld prog w P s ⟨(execs [] env).wrap K H id id, c, p, stk⟩ := h
theorem ld_at {α : Type} {f : Unit → Sem α} {K : α → Sem PySem.Fin} {p' : Pos} (h : Ld prog w P s ⟨(f ()).wrap K H id id, c, p', stk⟩) : Ld prog w P s ⟨(standAt p' >>= f).wrap K H id id, c, p, stk⟩ := .of_go (step_at ..) h
theorem ld_If {test : Expr} {body orelse : List Stmt} {pos : Pos} (a : Amb c stk d u) (h : LG prog w d u (isTrue test env (eval test env)) (fun b s' => ∀ p, Ld prog w P s' ⟨(if b = true then execs body env else execs orelse env).wrap K H id id, c, p, stk⟩) no s) :
    Ld prog w P s ⟨(exec (.If test body orelse pos) env).wrap K H id id, c, p, stk⟩ := by
  show Ld prog w P s ⟨(standAt pos >>= fun _ => isTrue test env (eval test env) >>= fun b => if b = true then execs body env else execs orelse env).wrap K H id id, c, p, stk⟩
  exact ld_at (ld_bind a h)
theorem ld_cont {pos : Pos} (h : ∀ p, Ld prog w P s ⟨K .cont, c, p, stk⟩) : Ld prog w P s ⟨(exec (.Continue pos) env).wrap K H id id, c, p, stk⟩ := by
  refine ld_at ?_
  exact h _
theorem ld_runOwn {code : Code} (h : ∀ k' p, (∀ f, k' (.ok f) = K f) → Ld prog w P s ⟨denote table code, code, p, .ret k' none false [] c p [] :: stk⟩) : Ld prog w P s ⟨(runOwn code env).wrap K H id id, c, p, stk⟩ := by
  show Ld prog w P s ⟨((run code).onRaise _).wrap K H id id, c, p, stk⟩
  rw [Sem.onRaise_eq_wrap, Sem.wrap_wrap]
  exact .of_go (step_call ..) (h _ _ fun f => rfl)
theorem ld_For {target iter : Expr} {body orelse : List Stmt} {pos : Pos} (a : Amb c stk d u) (h : LG prog w d u (eval iter env) (fun x s₁ => LG prog w d u (pyIter x) (fun it s₂ =>
      ∀ k' p, (∀ f, k' (.ok f) = K f) → Ld prog w P s₂ ⟨denote table (.forLoop target it body orelse env), .forLoop target it body orelse env, p, .ret k' none false [] c p [] :: stk⟩) no s₁) no s)
    (hs : ∀ x, foldedSetIterable iter env x = pure x := by intro _; rfl) : Ld prog w P s ⟨(exec (.For target iter body orelse pos) env).wrap K H id id, c, p, stk⟩ := by
  rw [exec_For]
  refine ld_at (ld_bind a (lg_mono h (fun x s₁ h₁ p => ?_) fun _ _ y => y))
  rw [hs x]
  refine ld_bind a (lg_pure fun p => ld_at (ld_bind a (lg_holding (lg_mono h₁ (fun it s₂ h₂ p => ld_runOwn fun k' p hk => h₂ k' p hk) fun _ _ y => y))))
theorem ld_forLoop {target : Expr} {it : Value} {body : List Stmt} (a : Bel stk d u) (h : LG prog w d u (pyNext it) (fun o s₁ => match o with
      | none => ∀ c p, Ld prog w P s₁ ⟨leafOf (.ok .next), c, p, stk⟩
      | some v => LG prog w d u (letOwnedTupleGo target it v) (fun _ s₂ => LG prog w d u (assign target env v) (fun _ s₃ => ∀ p K H, K .next = .pure (.again (.forLoop target it body [] env)) → K .cont = .pure (.again (.forLoop target it body [] env)) → Ld prog w P s₃ ⟨(execs body env).wrap K H id id, .forLoop target it body [] env, p, stk⟩) no s₂) no s₁) no s) :
    Ld prog w P s ⟨denote table (.forLoop target it body [] env), .forLoop target it body [] env, p, stk⟩ := by
  have a' : Amb (.forLoop target it body [] env) stk d u := a.amb _
  show Ld prog w P s ⟨(forTurn target it body [] env).onRaise _, _, p, stk⟩
  unfold forTurn
  rw [Sem.onRaise_eq_wrap]
  refine ld_at (ld_bind a' (lg_onRaise (lg_mono h (fun o s₁ h₁ p => ?_) fun _ _ y => y)))
  cases o with
  | none =>
    refine .of_go (step_again _ _ _ _ _ _ rfl) ?_
    exact h₁ _ _
  | some v =>
    refine ld_bind a' (lg_mono h₁ (fun _ s₂ h₂ p => ?_) fun _ _ y => y)
    refine ld_bind a' (lg_mono h₂ (fun _ s₃ h₃ p => ?_) fun _ _ y => y)
    rw [Sem.bind_eq_wrap', Sem.wrap_wrap]
    exact h₃ p _ _ rfl rfl
theorem ld_go {c' : Code} (hq : c'.quiet = true) (h : Ld prog w P s ⟨denote table c', c', p, stk⟩) : Ld prog w P s ⟨.pure (.again c'), c, p, stk⟩ := .of_go (step_again _ _ _ _ _ _ hq) h
theorem ld_yield {e : Expr} {ypos pos : Pos} {fs : List Frame} {g : Nat} {k : GenResult → Sem PySem.Fin} {lv : List Value} {c₁ : Code} {p₁ : Pos} {st : List Frame} (a : Amb c (fs ++ .gen g k lv c₁ p₁ :: st) d u) (hfs : splitAtGen fs = none) (hg : fs.any Frame.guarded = false)
    (h : LG prog w d u (eval e env) (fun v s' => ∀ gs, (∃ k₀ l₀ p₀ cl, gs = .suspended k₀ l₀ c p₀ fs cl ∧ k₀ (.send .none) = K .next) → Ld prog w P (s'.setGen g gs) ⟨k (.yielded v), c₁, p₁, st⟩) no s)
    (hco : env.scope.isCoroutine = false := by rfl) (hi : interactive env = false := by rfl) :
    Ld prog w P s ⟨(exec (.Expr (.Yield (some e) ypos) pos) env).wrap K H id id, c, p, fs ++ .gen g k lv c₁ p₁ :: st⟩ := by
  rw [exec_Expr env _ pos hi rfl]
  show Ld prog w P s ⟨(standAt pos >>= fun _ => (eval e env >>= fun v => (standAt ypos >>= fun _ => yieldOut env v)) >>= fun x => dropValue (.Yield (some e) ypos) pos x).wrap K H id id, c, p, _⟩
  have hy : ∀ v, yieldOut env v = yieldValue v := fun v => by simp only [yieldOut, hco, Bool.false_eq_true, if_false]
  simp only [hy]
  refine ld_at ?_
  rw [Sem.bind_eq_wrap', Sem.bind_eq_wrap', Sem.wrap_wrap, Sem.wrap_wrap]
  refine ld_lg a (lg_mono h (fun v s' h' p => ?_) fun _ _ y => y)
  refine .of_go (step_at ..) ?_
  have hsp : splitAtGen (fs ++ .gen g k lv c₁ p₁ :: st) = some (fs, (g, k, c₁, p₁), st) := by rw [splitAtGen_append_none _ hfs, splitAtGen_gen]; simp
  refine .of_go (step_yield _ _ _ _ _ _ _ _ _ hsp ?_) ?_
  · show (!(false || fs.any Frame.guarded)) = true
    rw [hg]; rfl
  exact h' _ ⟨_, _, _, _, rfl, rfl⟩
end
end

section
open PySem PySem.W PySem.Calls PyProof.Rows
section
variable {X : Type} (prog : Program) (w : World) (os : OsState) (Rel : Heap → Value → X → Prop) (kd : Nat)
def Exit (P : Shared → Thread → Prop) (h₁ : Heap) (lf : List Cell) (glf : List (Nat × GenState)) (g : Nat) (k : GenResult → Sem PySem.Fin) (c : Code) (p : Pos) (st : List Frame) : List X → Prop
  | [] => ∀ h₂ s', Le h₁ h₂ → St w os h₂ lf glf s' → Ld prog w P (s'.setGen g .finished) ⟨k (.returned .none), c, p, st⟩
  | x :: xs => ∀ v h₂ l' gl' gs' s', Le h₁ h₂ → Rel h₂ v x → St w os h₂ (l' ++ lf) (gl' ++ glf) s' → (∃ c, gs' = .fresh c ∨ ∃ k l c p fs cl, gs' = .suspended k l c p fs cl) → Gen prog w os Rel kd xs h₂ gs' l' gl' → Ld prog w P (s'.setGen g gs') ⟨k (.yielded v), c, p, st⟩
def Prod (xs : List X) (h₀ : Heap) (c₀ : Code) (t : Sem PySem.Fin) (fs : List Frame) (l : List Cell) (gl : List (Nat × GenState)) : Prop :=
  ∀ (P : Shared → Thread → Prop) h₁ lf glf s g k lv c p st d u p₀, Le h₀ h₁ → St w os h₁ (l ++ lf) (gl ++ glf) s → Bel (.gen g k lv c p :: st) d u → d + kd ≤ 900 → u + 20 * kd ≤ 9000 →
    Exit prog w os Rel kd P h₁ lf glf g k c p st xs → Ld prog w P s ⟨t, c₀, p₀, fs ++ .gen g k lv c p :: st⟩
end
section
variable {X : Type} {prog : Program} {w : World} {os : OsState} {Rel : Heap → Value → X → Prop} {kd kd' : Nat} {h₀ h₁ : Heap} {l lo : List Cell} {gl glo : List (Nat × GenState)} {xs ys : List X}
theorem gen_fresh {c₀ : Code} (h : Prod prog w os Rel kd xs h₀ c₀ (denote table c₀) [] l gl) : Gen prog w os Rel kd xs h₀ (.fresh c₀) l gl := by
  cases xs with
  | nil => exact fun P h₁ lf glf s g k lv c p st d u a b e f i hX => h P h₁ lf glf s g k lv c p st d u p a b e f i hX
  | cons x xs => exact fun P h₁ lf glf s g k lv c p st d u a b e f i hX => h P h₁ lf glf s g k lv c p st d u p a b e f i hX
theorem gen_susp {k₀ : Resume → Sem PySem.Fin} {l₀ : List Value} {c₀ : Code} {p₀ : Pos} {fs : List Frame} {cl : Bool} (h : Prod prog w os Rel kd xs h₀ c₀ (k₀ (.send .none)) fs l gl) : Gen prog w os Rel kd xs h₀ (.suspended k₀ l₀ c₀ p₀ fs cl) l gl := by
  cases xs with
  | nil => exact fun P h₁ lf glf s g k lv c p st d u a b e f i hX => h P h₁ lf glf s g k lv c p st d u p₀ a b e f i hX
  | cons x xs => exact fun P h₁ lf glf s g k lv c p st d u a b e f i hX => h P h₁ lf glf s g k lv c p st d u p₀ a b e f i hX
theorem prod_le {c₀ : Code} {t : Sem PySem.Fin} {fs : List Frame} (h : Prod prog w os Rel kd xs h₀ c₀ t fs l gl) (hk : Le h₀ h₁) : Prod prog w os Rel kd xs h₁ c₀ t fs l gl :=
  fun P h₂ lf glf s g k lv c p st d u p₀ a b e f i hX => h P h₂ lf glf s g k lv c p st d u p₀ (hk.trans a) b e f i hX
theorem gen_le {gs : GenState} (h : Gen prog w os Rel kd xs h₀ gs l gl) (hk : Le h₀ h₁) : Gen prog w os Rel kd xs h₁ gs l gl := by
  cases xs with
  | nil => exact fun P h₂ lf glf s g k lv c p st d u a b e f i hX => h P h₂ lf glf s g k lv c p st d u (hk.trans a) b e f i hX
  | cons x xs => exact fun P h₂ lf glf s g k lv c p st d u a b e f i hX => h P h₂ lf glf s g k lv c p st d u (hk.trans a) b e f i hX
theorem own_le {a : Addr} (h : Own prog w os Rel kd xs h₀ a l gl) (hk : Le h₀ h₁) : Own prog w os Rel kd xs h₁ a l gl :=
  let ⟨g, gs, lc, glc, e1, e2, f, hG⟩ := h; ⟨g, gs, lc, glc, e1, e2, f, gen_le hG hk⟩

def GenS (g : Nat) (o : Obj) : Prop := ∃ nm qn, o = { cls := .type "generator", data := .fields #[.int g 0, nm, qn], slots := #[some (rawInt 1)] }
theorem r_sleep {M : Model} {A : Around} {E : Value → Shared → Prop} {a : Addr} {g i : Nat} {s : Shared} {Q : Unit → Shared → Prop} (hS : St w os h₀ l gl s) (hi : l[i]? = some (a, GenO g)) (h : ∀ s', St w os h₀ (l.set i (a, GenS g)) gl s' → Q () s') :
    wpAny M A (Builtin.Generator.sleptOver (.ref a) true) Q E s := by
  obtain ⟨nm, qn, sl, ho, hsl⟩ := hS.genO hi
  unfold Builtin.Generator.sleptOver
  refine wpAny_bind (wpAny_load ho ?_)
  have hn : ∀ o' : Obj, GenS g o' → (∃ f, o' = f { cls := .type "generator", data := .fields #[.int g 0, nm, qn], slots := sl } ∧ Q () { s with heap := s.heap.update a f }) → True := fun _ _ _ => trivial
  have fin : ∀ f : Obj → Obj, GenS g (f { cls := .type "generator", data := .fields #[.int g 0, nm, qn], slots := sl }) → (f { cls := .type "generator", data := .fields #[.int g 0, nm, qn], slots := sl }).isFreed = false → Q () { s with heap := s.heap.update a f } := fun f hf hfr =>
    h _ (hS.turn hi (fun b o hb e => (Heap.SameBut.update ..).extBut b o hb e) (Heap.get?_update_self f ho hfr) hf rfl rfl)
  rcases hsl with rfl | rfl
  · show wpAny M A (setSlotAt a 0 (some (rawInt 1))) Q E s
    unfold setSlotAt
    rw [if_neg (by decide)]
    refine wpAny_updatePart ho (fin _ ⟨nm, qn, rfl⟩ rfl)
  · show wpAny M A (setSlotAt a 0 (some (rawInt 1))) Q E s
    unfold setSlotAt
    rw [if_neg (by decide)]
    refine wpAny_updatePart ho (fin _ ⟨nm, qn, rfl⟩ rfl)
theorem r_awake {M : Model} {A : Around} {E : Value → Shared → Prop} {a : Addr} {g i : Nat} {s : Shared} {Q : Unit → Shared → Prop} (hS : St w os h₀ l gl s) (hi : l[i]? = some (a, GenS g)) (h : ∀ s', St w os h₀ (l.set i (a, GenO g)) gl s' → Q () s') :
    wpAny M A (Builtin.Generator.sleptOver (.ref a) false) Q E s := by
  obtain ⟨_, ho, nm, qn, rfl⟩ := hS.at hi
  unfold Builtin.Generator.sleptOver
  refine wpAny_bind (wpAny_load ho ?_)
  show wpAny M A (setSlotAt a 0 (some (rawInt 0))) Q E s
  unfold setSlotAt
  rw [if_neg (by decide)]
  refine wpAny_updatePart ho (h _ (hS.turn hi (fun b o hb e => (Heap.SameBut.update ..).extBut b o hb e) (Heap.get?_update_self _ ho rfl) ⟨nm, qn, _, rfl, .inr rfl⟩ rfl rfl))
end
end

section
open PySem PySem.W PySem.Calls PyProof.Rows
theorem entry_yf : entryFor table "proto.yield_from" = some Builtin.«proto.yield_from» := entryFor_of_fast (by kernel_rfl)
abbrev yf (a : Addr) : Code := .builtin "proto.yield_from" ⟨[.ref a, .bool false, .none], []⟩
theorem close_gen : ∃ id, typeLookup (.type "generator") "close" = pure (some (.builtin id)) := ⟨"generator.close", by rw [typeLookup_type, builtinLookup_eq_fast]; kernel_rfl⟩
theorem den_builtin {id : String} {args : Args} {b : Builtin} (hb : entryFor table id = some b) : denote table (.builtin id args) = b args := by
  show (match entryFor table id with | some b => b args | none => unsupported ((withoutEnding? id "#data").getD id)) = _
  rw [hb]
theorem den_yf (a : Addr) : denote table (yf a) = Builtin.«proto.yield_from» ⟨[.ref a, .bool false, .none], []⟩ := den_builtin entry_yf
theorem wrap_bind {α β : Type} (m : Sem α) (f : α → Sem β) {K : β → Sem PySem.Fin} {H : Value → Sem PySem.Fin} : (m >>= f).wrap K H id id = m.wrap (fun a => (f a).wrap K H id id) H id id := by
  rw [Sem.bind_eq_wrap', Sem.wrap_wrap]; rfl
section
variable {X : Type} {prog : Program} {w : World} {os : OsState} {Rel : Heap → Value → X → Prop} {kd kd' D U : Nat} {h₀ : Heap} {lo : List Cell} {glo : List (Nat × GenState)} {ys : List X} {a : Addr} {k' : Result → Sem PySem.Fin} {lvv : List Value} {c : Code} {p' : Pos} {fs : List Frame}
theorem exit_le {P : Shared → Thread → Prop} {h₁ h₂ : Heap} {lf : List Cell} {glf : List (Nat × GenState)} {g : Nat} {k : GenResult → Sem PySem.Fin} {p : Pos} {st : List Frame} {xs : List X} (h : Exit prog w os Rel kd P h₁ lf glf g k c p st xs) (hk : Le h₁ h₂) : Exit prog w os Rel kd P h₂ lf glf g k c p st xs := by
  cases xs with
  | nil => exact fun h₃ s' a b => h h₃ s' (hk.trans a) b
  | cons x xs => exact fun v h₃ l' gl' gs' s' a b e f i => h v h₃ l' gl' gs' s' (hk.trans a) b e f i
theorem step_loud {s : Shared} {v : Value} {l : List Value} {k₀ : Resume → Sem PySem.Fin} {r : List Value} {kw : List (Str × Value)} {p : Pos} {fs st : List Frame} {g : Nat} {k : GenResult → Sem PySem.Fin} {lv : List Value} {c₁ : Code} {p₁ : Pos} {o : Obj} {P : Shared → Thread → Prop}
    (hfs : splitAtGen fs = none) (hgd : fs.any Frame.guarded = false) (ho : s.heap.get? a = some o) (hn : o.genNumber?.isSome = true)
    (h : Ld prog w P (s.setGen g (.suspended k₀ l (.builtin "proto.yield_from" ⟨.ref a :: r, kw⟩) p fs true)) ⟨k (.yielded v), c₁, p₁, st⟩) :
    Ld prog w P s ⟨.yield v true l k₀, .builtin "proto.yield_from" ⟨.ref a :: r, kw⟩, p, fs ++ .gen g k lv c₁ p₁ :: st⟩ := by
  have hsp : splitAtGen (fs ++ .gen g k lv c₁ p₁ :: st) = some (fs, (g, k, c₁, p₁), st) := by rw [splitAtGen_append_none _ hfs, splitAtGen_gen]; simp
  refine .step ?_ (?_ : stepK _ _ _ _ _ = .go (s.setGen g (.suspended k₀ l (.builtin "proto.yield_from" ⟨.ref a :: r, kw⟩) p fs true)) ⟨k (.yielded v), c₁, p₁, st⟩) h
  · unfold Mild
    rw [Bool.or_eq_true]
    right
    simp only [Loudly, ungd, hsp, hgd, ho, hn, Bool.not_false, Bool.and_self]
  · simp only [stepK, PySem.step, hsp]
    rfl
theorem ld_again {P : Shared → Thread → Prop} {s : Shared} {c c' : Code} {p : Pos} {stk : List Frame} {H : Value → Sem PySem.Fin} (hq : c'.quiet = true) (h : Ld prog w P s ⟨denote table c', c', p, stk⟩) : Ld prog w P s ⟨(again c').wrap .pure H id id, c, p, stk⟩ := .of_go (step_again _ _ _ _ _ _ hq) h
theorem yf_prod (hfw : ∀ d u stk, Bel stk d u → Bel (.ret k' none false lvv c p' [] :: fs ++ stk) (d + D) (u + U)) (hfs : splitAtGen fs = none) (hgd : fs.any Frame.guarded = false) (hD : kd' + D ≤ kd) (hU : 20 * kd' + U + 30 ≤ 20 * kd)
    (hrest : Prod prog w os Rel kd ys h₀ c (k' (.ok (.ret .none))) fs lo glo) :
    ∀ (xs : List X) h l gl, Le h₀ h → Own prog w os Rel kd' xs h a l gl → Prod prog w os Rel kd (xs ++ ys) h (yf a) (denote table (yf a)) (.ret k' none false lvv c p' [] :: fs) (l ++ lo) (gl ++ glo) := by
  intro xs
  induction xs with
  | nil =>
    intro h l gl hk0 hO P h₁ lf glf s g k lv c₁ p₁ st d u p₀ hk hS hb hd hu hX
    have ha : Amb (yf a) (.ret k' none false lvv c p' [] :: fs ++ .gen g k lv c₁ p₁ :: st) (d + D) (u + U + 1) := (hfw _ _ _ hb).amb _
    rw [den_yf, ← wrap_id (Builtin.«proto.yield_from» _)]
    unfold Builtin.«proto.yield_from»
    refine ld_bind ha (lg_pure fun p => ?_)
    simp only [Bool.false_eq_true, if_false, beq_self_eq_true, if_true]
    rw [List.append_assoc, List.append_assoc] at hS
    refine ld_bind ha (lg_attempt (lg_holding (lg_bind (lg_of (wpAny_rule (lg_bind (lg_callNext hO hk hS (by omega) (by omega) ?_)))))))
    intro h₂ s' e vs hk₂ hS₂ he hv5 p
    refine ld_bind ha (lg_of (m := Builtin.Generator.endsTheTurnAsAValue false (.ref e)) ?_)
    unfold Builtin.Generator.endsTheTurnAsAValue Builtin.Generator.isStopAndMetaclass
    refine wpAny_bind (wpAny_bind (wpAny_typeOf (T := "StopIteration") ⟨_, he, rfl⟩ ?_))
    refine wpAny_bind (wpAny_of_eq isSubtype_stop ?_)
    refine wpAny_bind (m := typeOf (.type "StopIteration")) (wpAny_of_eq (a := .type "type") rfl ?_)
    refine wpAny_pure (wpAny_pure fun p => ?_)
    simp only [if_true]
    refine ld_bind ha (lg_of (wpAny_rule fun p => ?_))
    refine ld_bind ha (lg_of (wpAny_field he rfl hv5 fun p => ?_))
    refine .of_go (step_leaf_ret (r := .ok (.ret .none)) ..) ?_
    exact hrest P h₂ lf glf s' g k lv c₁ p₁ st d u p' (hk0.trans (hk.trans hk₂)) hS₂ hb hd hu (exit_le hX hk₂)
  | cons x xs ih =>
    intro h l gl hk0 hO P h₁ lf glf s g k lv c₁ p₁ st d u p₀ hk hS hb hd hu hX
    have ha : Amb (yf a) (.ret k' none false lvv c p' [] :: fs ++ .gen g k lv c₁ p₁ :: st) (d + D) (u + U + 1) := (hfw _ _ _ hb).amb _
    rw [den_yf, ← wrap_id (Builtin.«proto.yield_from» _)]
    unfold Builtin.«proto.yield_from»
    refine ld_bind ha (lg_pure fun p => ?_)
    simp only [Bool.false_eq_true, if_false, beq_self_eq_true, if_true]
    rw [List.append_assoc, List.append_assoc] at hS
    refine ld_bind ha (lg_attempt (lg_holding (lg_bind (lg_of (wpAny_rule (lg_bind (lg_callNext hO hk hS (by omega) (by omega) ?_)))))))
    intro v h₂ l' gl' s' hk₂ hr hO' hS₂
    refine lg_pure fun p => ?_
    obtain ⟨gn, gs₁, lc, glc, rfl, rfl, hf, hG⟩ := id hO'
    obtain ⟨nm, qn, sl, hob, _⟩ := hS₂.genO (i := 0) rfl
    obtain ⟨cid, hcl⟩ := close_gen
    refine ld_bind ha (lg_of (wpAny_typeOf (T := "generator") ⟨_, hob, rfl⟩ fun p => ?_))
    refine ld_bind ha (lg_of (wpAny_of_eq hcl fun p => ?_))
    refine ld_bind ha (lg_pure fun p => ?_)
    refine ld_bind ha (lg_of (r_sleep hS₂ (i := 0) rfl fun s₃ hS₃ p => ?_))
    obtain ⟨_, hob₃, nm₃, qn₃, rfl⟩ := hS₃.at (i := 0) rfl
    refine step_loud (fs := .ret k' none false lvv c p' [] :: fs) (by rw [splitAtGen_ret, hfs]; rfl) (by rw [List.any_cons, hgd]; rfl) hob₃ (by rfl) ?_
    refine hX v h₂ ((a, GenS gn) :: lc ++ lo) ((gn, gs₁) :: glc ++ glo) _ s₃ hk₂ hr (by simpa using hS₃) ⟨yf a, .inr ⟨_, _, _, _, _, _, rfl⟩⟩ (gen_susp ?_)
    intro P' h₃ lf' glf' s₄ g' k'' lv' c₁' p₁' st' d' u' p₀' hk₃ hS₄ hb' hd' hu' hX'
    have ha' : Amb (yf a) (.ret k' none false lvv c p' [] :: fs ++ .gen g' k'' lv' c₁' p₁' :: st') (d' + D) (u' + U + 1) := (hfw _ _ _ hb').amb _
    refine ld_bind (m := Builtin.Generator.sleptOver (.ref a) false) ha' (lg_of (r_awake hS₄ (i := 0) rfl fun s₅ hS₅ p => ?_))
    refine ld_bind ha' (lg_of (wpAny_of_eq (a := Value.none) rfl fun p => ?_))
    have hq : (yf a).quiet = true := plainId_quiet (by decide +kernel) _
    refine ld_again hq ?_
    exact ih h₃ ((a, GenO gn) :: lc) ((gn, gs₁) :: glc) (hk0.trans (hk.trans (hk₂.trans hk₃))) (own_le hO' hk₃) P' h₃ lf' glf' s₅ g' k'' lv' c₁' p₁' st' d' u' p (Le.refl _) hS₅ hb' hd' hu' hX'
end
end

section
open PySem PySem.W PySem.Calls PyProof.Rows Builtin.ObjectAttr
-- what a class of nodes answers for a name that the own dict of the object may hold
def fo (P : Params) (C : Addr) (n : String) (r : Option Found) : Prop := ∀ od : Obj, findObj (KK P) C (some od) (Str.ofString n) = (lookIn (Str.ofString n) od).bind fun own => match own with | some v => some (.value v) | none => r
structure Cl (P : Params) (C ft : Addr) (names : List String) : Prop where
  ga : findIn (KK P) (.ref C) "__getattribute__" = some (some (.builtin "object.__getattribute__"))
  hk : findIn (KK P) (.ref C) "__getattr__" = some (some (.ref 44))
  flds : fo P C "fields" (some (.value (.ref ft)))
  vals : fo P C "_values" (some .missing)
  line : fo P C "lineno" (some .missing)
  miss : ∀ n ∈ names, fo P C n (some .missing)
  itf : fo P C "iter_fields" (some (.bind (.builtin "function.__get__") (.ref 59)))
  itc : fo P C "iter_child_nodes" (some (.bind (.builtin "function.__get__") (.ref 67)))
  fda : fo P C "find_all" (some (.bind (.builtin "function.__get__") (.ref 81)))
  own : ∀ n ∈ names, n ≠ "_values" ∧ n ≠ "lineno" ∧ n ≠ "environment"
  modu : subIn (KK P) (.ref C) (.type "module") = some false
  hdct : hasDictIn (KK P) C = true
  cls : findIn (KK P) (.ref C) "__class__" = some (some (.builtin "object.__class__"))
  obj : mroIn (KK P) C (.type "object") = some true
  tup : ∃ ts : List Tok, ts.length = names.length ∧ (KK P).lookup ft = some { cls := .type "tuple", data := .seq (List.zipWith (fun (n : String) t => Value.str (Str.ofString n) t) names ts).toArray }
end

section
open PySem PySem.W PySem.Calls PyProof.Rows Builtin.ObjectAttr
theorem cl_const (P : Params) : Cl P 374 352 ["value"] := by (
  refine ⟨by kernel_rfl, by kernel_rfl, by intro od; kernel_rfl, by intro od; kernel_rfl, by intro od; kernel_rfl, ?_, by intro od; kernel_rfl, by intro od; kernel_rfl, by intro od; kernel_rfl, by decide, by kernel_rfl, by kernel_rfl, by kernel_rfl, by kernel_rfl, ⟨[661], by rfl, by kernel_rfl⟩⟩
  simp only [List.forall_mem_cons, List.not_mem_nil, false_implies, implies_true, and_true]
  (repeat' apply And.intro) <;> (intro od; kernel_rfl))
end

section
open PySem PySem.W PySem.Calls PyProof.Rows Builtin.ObjectAttr
abbrev nodeDict (vd : Addr) (line : Value) (h1 h2 h3 : Int) (t1 t2 t3 : Tok) (n : Nat) : Obj :=
  dictOf [⟨h1, .str (Str.ofString "_values") t1, .ref vd⟩, ⟨h2, .str (Str.ofString "lineno") t2, line⟩, ⟨h3, .str (Str.ofString "environment") t3, .none⟩] n
structure NodeAt (prog : Program) (w : World) (h : Heap) (x C d vd : Addr) (od : Obj) (f : Str → Option Value) (line : Value) : Prop where
  i : h.get? x = some (instObj C d)
  d : h.get? d = some od
  e : ∃ h1 h2 h3 t1 t2 t3 n, od = nodeDict vd line h1 h2 h3 t1 t2 t3 n
  m : h.MapOf (strKind prog w) vd f
  s : (vd == sysModules) = false
theorem NodeAt.le {prog : Program} {w : World} {h h' : Heap} {x C d vd : Addr} {od : Obj} {f : Str → Option Value} {line : Value} (a : NodeAt prog w h x C d vd od f line) (k : Le h h') : NodeAt prog w h' x C d vd od f line :=
  ⟨k _ _ a.i, k _ _ a.d, a.e, let ⟨o, es, ep, ho, r⟩ := a.m; ⟨o, es, ep, k _ _ ho, r⟩, a.s⟩
theorem NodeAt.inst {prog : Program} {w : World} {h : Heap} {x C d vd : Addr} {od : Obj} {f : Str → Option Value} {line : Value} (a : NodeAt prog w h x C d vd od f line) : InstAt h x (instObj C d) C (some od) := ⟨a.i, rfl, rfl, a.d⟩
theorem NodeAt.vals {prog : Program} {w : World} {h : Heap} {x C d vd : Addr} {od : Obj} {f : Str → Option Value} {line : Value} (a : NodeAt prog w h x C d vd od f line) : lookIn "_values" od = some (some (.ref vd)) := by
  obtain ⟨h1, h2, h3, t1, t2, t3, n, rfl⟩ := a.e
  rfl
theorem NodeAt.line {prog : Program} {w : World} {h : Heap} {x C d vd : Addr} {od : Obj} {f : Str → Option Value} {line : Value} (a : NodeAt prog w h x C d vd od f line) : lookIn "lineno" od = some (some line) := by
  obtain ⟨h1, h2, h3, t1, t2, t3, n, rfl⟩ := a.e
  rfl
theorem isStr_ofString (a b : String) (t : Tok) : (Value.str (Str.ofString a) t).isStr (Str.ofString b) = decide (a = b) := by
  unfold Value.isStr
  by_cases h : a = b
  · subst h; simp
  · have : Str.ofString a ≠ Str.ofString b := fun e => h (ofString_inj e)
    simp [h, this]
theorem NodeAt.other {prog : Program} {w : World} {h : Heap} {x C d vd : Addr} {od : Obj} {f : Str → Option Value} {line : Value} (a : NodeAt prog w h x C d vd od f line) {n : String} (hn : n ≠ "_values" ∧ n ≠ "lineno" ∧ n ≠ "environment") : lookIn (Str.ofString n) od = some none := by
  obtain ⟨h1, h2, h3, t1, t2, t3, m, rfl⟩ := a.e
  unfold lookIn
  simp only [List.toList_toArray, List.find?_cons, isStr_ofString, decide_eq_false (Ne.symm hn.1), decide_eq_false (Ne.symm hn.2.1), decide_eq_false (Ne.symm hn.2.2), List.find?_nil]
  rfl

section
variable {prog : Program} {w : World} {os : OsState} {h₀ : Heap} {l : List Cell} {gl : List (Nat × GenState)} {s : Shared} {A : Around} {E : Value → Shared → Prop}
theorem r_notIn {d : Addr} {k : Str} {t : Tok} {f : Str → Option Value} {Q : Value → Shared → Prop} (hd : (d == sysModules) = false) (hm : s.heap.MapOf (strKind prog w) d f)
    (h : Q (.bool (!(f k).isSome)) { s with toks := s.toks + 1 }) : wpAny (model prog w) A (compareOp .NotIn (.str k t) (.ref d)) Q E s := by
  have hkey : (strKind prog w).is k (.str k t) = true := by show decide (k = k) = true; simp
  show wpAny _ _ (do return .bool (!(← contains (.ref d) (.str k t)))) Q E s
  refine wpAny_bind ?_
  unfold contains
  try with_reducible refine wpAny_holding ?_
  refine wpAny_bind (wpAny_specialOf hm.typeIs slot_dict_contains.lookup ?_)
  show wpAny _ _ (if (some (Value.builtin "dict.__contains__") == some Value.none) = true then _ else _) _ E s
  rw [if_neg (by rw [beq_builtin_none]; exact Bool.false_ne_true)]
  refine wpAny_bind (wpAny_callSpecialUnlessNone?_slot (name := Str.ofString "__contains__") hm.typeIs slot_dict_contains
    (wpAny_call_entry slot_dict_contains hm.typeIs entry_dict_contains ?_ (args_dict_contains _ _)))
  show wpAny _ _ (dictGet d (.str k t) >>= _) _ _ s
  refine wpAny_bind (wpAny_dictGet_of hkey hm ?_)
  cases hf : f k with
  | some v =>
    rw [hf] at h
    show wpAny _ _ (ret (.bool true)) _ _ _
    exact wpAny_pure ⟨_, rfl, wpAny_truthy_bool (wpAny_pure h)⟩
  | none =>
    rw [hf] at h
    show wpAny _ _ (Builtin.Dict.pendingKey? d (.str k t) >>= _) _ _ _
    exact wpAny_bind (wpAny_pendingKey_other hd (wpAny_pure ⟨_, rfl, wpAny_truthy_bool (wpAny_pure h)⟩))

theorem r_subTail {value slice : Expr} {o i : Value} {T id : String} {Q : Value → Shared → Prop} (hT : s.TypeIs o T)
    (hl : typeLookup (.type T) "__getitem__" = pure (some (.builtin id))) (h : wpAny (model prog w) A (getItem o i) Q E s)
    (hs : subscripted slice false o i = operate [o, i] (getItem o i) := by with_unfolding_all rfl) : wpAny (model prog w) A (subscriptTail value slice o i) Q E s := by
  unfold subscriptTail
  refine wpAny_bind ?_
  rw [getitemInPython_of_ne hT.not_modules]
  refine wpAny_bind (wpAny_specialOf hT hl ?_)
  have fin : wpAny (model prog w) A (subscripted slice false o i) (fun r s₃ => wpAny (model prog w) A (letTemporaryGo value o r >>= fun _ => pure r) Q E s₃) E s := by
    rw [hs]
    exact wpAny_operating (wpAny_mono h (fun r s₃ h₃ => wpAny_bind (wpAny_letTemporaryGo (wpAny_pure h₃))) fun _ _ x => x)
  first
    | exact wpAny_pure (wpAny_bind fin)
    | exact wpAny_bind (wpAny_pure (wpAny_bind fin))
    | exact wpAny_bind fin
variable {C ft x d vd : Addr} {names : List String} {od : Obj} {f : Str → Option Value} {line v : Value} {Q : Value → Shared → Prop} {expr : Bool}
theorem r_getLine (c : Cl w.params C ft names) (a : NodeAt prog w h₀ x C d vd od f line) (hS : St w os h₀ l gl s) (hh : handedIn line = true) (h : ∀ s', St w os h₀ l gl s' → Q line s') : wpAny (model prog w) A (getAttr (.ref x) "lineno" expr) Q E s :=
  get_value (hS.bs.K.keeps hS.hp.keep) (a.le hS.hp.keep).inst c.ga (by rw [c.line od, a.line]; rfl) hh (h _ hS.toks)
theorem r_getVals (c : Cl w.params C ft names) (a : NodeAt prog w h₀ x C d vd od f line) (hS : St w os h₀ l gl s) (h : ∀ s', St w os h₀ l gl s' → Q (.ref vd) s') : wpAny (model prog w) A (getAttr (.ref x) "_values" expr) Q E s :=
  get_value (hS.bs.K.keeps hS.hp.keep) (a.le hS.hp.keep).inst c.ga (by rw [c.vals od, a.vals]; rfl) rfl (h _ hS.toks)
theorem r_getFlds (c : Cl w.params C ft names) (a : NodeAt prog w h₀ x C d vd od f line) (hS : St w os h₀ l gl s) (h : ∀ s', St w os h₀ l gl s' → Q (.ref ft) s') : wpAny (model prog w) A (getAttr (.ref x) "fields" expr) Q E s :=
  get_value (hS.bs.K.keeps hS.hp.keep) (a.le hS.hp.keep).inst c.ga (by rw [c.flds od, a.other (n := "fields") (by decide)]; rfl) rfl (h _ hS.toks)
set_option maxHeartbeats 1000000
theorem getattr_spec {n : String} {t : Tok} (c : Cl w.params C ft names) (a : NodeAt prog w h₀ x C d vd od f line) (hS : St w os h₀ l gl s) (hd : A.depth < 900) (hf : f (Str.ofString n) = some v)
    (h : ∀ s', St w os h₀ l gl s' → Q v s') : wpAny (model prog w) A (call (.ref 44) [.ref x, .str (Str.ofString n) t]) Q E s := by
  refine wpAny_call ?_
  refine r_call (fd := fd44) (body := bodOf (mth 3 3)) [("name", some (.str (Str.ofString n) t)), ("self", some (.ref x))] hS (k44 _) (c44 _) (by simp only [recursionLimit]; omega) rfl (BindsTo.of_eq rfl) (by decide +kernel) (locs rfl) (al_cons (al_cons al_nil)) (fun L s' hS => ?_)
  conv in bodOf _ => whnf
  repeat (walk_at "s1")
  refine r_getVals c a hS fun s' hS => ?_
  refine r_notIn a.s (a.le hS.hp.keep).m ?_
  rw [hf]
  refine wpAny_truthy_bool ?_
  refine ite_ff ?_
  replace hS := hS.toks (t := s'.toks + 1)
  repeat (walk_at "s1")
  refine r_getVals c a hS fun s' hS => ?_
  repeat (walk_at "s1")
  have hkey : (strKind prog w).is (Str.ofString n) (.str (Str.ofString n) t) = true := by show decide (Str.ofString n = Str.ofString n) = true; simp
  refine r_subTail (a.le hS.hp.keep).m.typeIs slot_dict_getitem.lookup ?_
  refine wpAny_getItem_of hkey (a.le hS.hp.keep).m hf ?_
  exact h _ ((hS.sub (List.sublist_cons_self ..)).toks)
-- a field, read through the class's __getattr__
theorem r_getField {n : String} (c : Cl w.params C ft names) (hn : n ∈ names) (a : NodeAt prog w h₀ x C d vd od f line) (hS : St w os h₀ l gl s) (hd : A.depth < 890) (hf : f (Str.ofString n) = some v) (hh : handedIn v = true)
    (h : ∀ s', St w os h₀ l gl s' → Q v s') : wpAny (model prog w) A (getAttr (.ref x) (Str.ofString n) expr) Q E s := by
  have X := hS.bs.K.keeps hS.hp.keep
  have I := (a.le hS.hp.keep).inst
  refine get_open X I c.ga ?_
  obtain ⟨hh', g, dr, t, os'⟩ := s
  have L0 := I.type (M := model prog w)
  have L1 := looks_find (M := model prog w) X I (by rw [c.miss n hn od, a.other (c.own n hn)]; rfl)
  have L2 := looks_findIn (M := model prog w) X c.hk
  refine wpAny_bind (wpAny_pure (wpAny_bind (L0.at (wpAny_bind (L1.at (wpAny_bind (L2.at ?_)))))))
  show wpAny _ _ (byHook (.ref x) (.str (Str.ofString n) t) (.ref 44)) _ _ _
  unfold byHook
  refine wpAny_bind ((bind_fn X (f := 44) (.ref x) (by kernel_rfl)).at ?_)
  dsimp only
  refine wpAny_bind (getattr_spec c a (s := ⟨hh', g, dr, t + 1, os'⟩) hS.toks (by simp only [Around.in1_depth]; omega) hf fun s' hS' => ?_)
  refine wpAny_bind (wpAny_rule (wpAny_pure ?_))
  show wpAny _ _ (handedOut v) _ _ _
  rw [handedOut_of hh]
  exact wpAny_pure (h _ hS')
-- a method, bound
def MeO (f x : Addr) (o : Obj) : Prop := o = methodObj (.ref f) (.ref x)
theorem r_getMethod {n : String} {m : Addr} {pl : Sem Bool} {Q : Value × List Value → Shared → Prop} (c : Cl w.params C ft names) (hm : fo w.params C n (some (.bind (.builtin "function.__get__") (.ref m)))) (hty : typeIn (KK w.params) (.ref m) = some (.type "function"))
    (hn : n ≠ "_values" ∧ n ≠ "lineno" ∧ n ≠ "environment") (a : NodeAt prog w h₀ x C d vd od f line) {c₁ : Cell} (hS : St w os h₀ (c₁ :: l) gl s)
    (h : ∀ p s', St w os h₀ (c₁ :: (p, MeO m x) :: l) gl s' → Q (.ref p, []) s') : wpAny (model prog w) A (getMethod (.ref x) (Str.ofString n) pl) Q E s := by
  have X := hS.bs.K.keeps hS.hp.keep
  have I := (a.le hS.hp.keep).inst
  have hcan := PySem.F.canon_object_ga
  unfold getMethod specialOf
  refine wpAny_bind (wpAny_bind (I.type.here ((looks_findIn X c.ga).here ?_)))
  dsimp only
  rw [hcan, if_neg (by decide)]
  refine wpAny_bind (wpAny_bind (I.type.here ((looks_findIn X c.hk).here ?_)))
  refine wpAny_bind ?_
  refine get_open X I c.ga ?_
  obtain ⟨hh', g, dr, t, os'⟩ := s
  have L0 := I.type (M := model prog w)
  have L1 := looks_find (M := model prog w) X I (by rw [hm od, a.other hn]; rfl)
  have L2 := looks_findIn (M := model prog w) X c.hk
  refine wpAny_bind (wpAny_pure (wpAny_bind (L0.at (wpAny_bind (L1.at (wpAny_bind (L2.at ?_)))))))
  show wpAny _ _ (bindOrHook (.builtin "function.__get__") (.ref m) (.ref x) (.ref C) (.str (Str.ofString n) t) (.ref 44)) _ _ _
  unfold bindOrHook
  refine wpAny_bind (wpAny_attempt (wpAny_holding ?_))
  show wpAny _ _ (holding [Value.ref m] (call (.builtin "function.__get__") [.ref m, .ref x, .ref C]) >>= ret) _ _ _
  refine wpAny_bind (wpAny_holding (wpAny_call (fn_get (K := KK w.params) (s := ⟨hh', g, dr, t + 1, os'⟩) X hty ?_)))
  refine wpAny_pure (wpAny_pure (wpAny_pure (wpAny_pure ?_)))
  exact h _ _ (St.push2 (s := ⟨hh', g, dr, t + 1, os'⟩) hS.toks rfl rfl rfl rfl rfl)
end
end

section
open PySem PySem.W PySem.Calls PyProof.Rows Builtin.ObjectAttr
section
variable {prog : Program} {w : World} {os : OsState} {h₀ : Heap} {l : List Cell} {gl : List (Nat × GenState)} {s : Shared} {A : Around} {E : Value → Shared → Prop} {R : Result → Shared → Prop}
-- a call of a generator function
theorem r_callGen {f : Addr} {fd : FuncData} {oc : Value} {od : Option Addr} {osl : Array (Option Value)} {body : List Stmt} {args : Args} {binds : List (Str × Value)} (al : Al)
    (hS : St w os h₀ l gl s) (hK : (KK w.params).lookup f = some ⟨oc, od, .func fd, osl⟩) (hcd : codeIn (KK w.params) fd.code fd.qualname = true) (hroom : A.depth < recursionLimit) (hbody : fd.body = .stmts body)
    (hbind : BindsTo s fd args binds) (hcell : ∀ x ∈ fd.scope.names, x.2 ≠ .cell) (hloc : ∀ x ∈ binds, fd.scope.names.lookup x.1 = some .local) (hal : ∀ y, binds.reverse.lookup y = getV al y)
    (h : ∀ a g L s', St w os h₀ ((a, GenO g) :: (L, NsO al) :: l) ((g, .fresh (.func body (callEnv fd L f))) :: gl) s' → R (.ok (.ret (.ref a))) s')
    (hco : fd.scope.isCoroutine = false := by rfl) (hgen : fd.scope.isGenerator = true := by rfl) (hk : fd.scope.kind = .function := by rfl) :
    codeAny (model prog w) A (.call (.ref f) args) R s := by
  refine codeAny_call_generator hroom (hS.old (hS.bs.K _ _ hK)) rfl hco hgen hbody (codeRec_of (hS.bs.K.keeps hS.hp.keep) hcd) (hbind _ _ _ _ ?_)
  refine wpAny_newFunctionEnv hcell hloc (fun h₂ hn hsb => ?_) hk
  have hlim : s.heap.NoLimit := hS.bs.lim.keeps hS.hp.keep
  refine ⟨hlim.fresh _ hsb, ?_⟩
  obtain ⟨o, ho, hP⟩ := ns_cell (al := al) hn (fun y v q => (hal y).trans q)
  have hk₂ : Le s.heap h₂ := fun b o e => hsb.extBut b o (Nat.ne_of_lt (Heap.lt_size e)) (Heap.get?_push_of_some _ e)
  have hS1 : St w os h₀ ((s.heap.objs.size, NsO al) :: l) gl { s with heap := h₂, toks := s.toks + binds.length } := hS.more (s' := { s with heap := h₂, toks := s.toks + binds.length }) hk₂ (fresh_none _ (Nat.le_refl _)) ho hP rfl rfl
  refine h h₂.objs.size s.gens.size s.heap.objs.size _ ?_
  exact St.growG hS1 rfl ⟨_, _, _, rfl, .inl rfl⟩

theorem Wf.drop {h h' : Heap} {a : Addr} {P : Obj → Prop} (x : Wf h₀ ((a, P) :: l) h) (k : Heap.ExtBut a h h') : Wf h₀ l h' := by
  obtain ⟨o, ho, _, hn⟩ := x.own (a, P) (List.mem_cons_self ..)
  refine ⟨fun b o e => k b o (fun q => by subst q; rw [hn] at e; cases e) (x.keep b o e), fun c hc => ?_, (List.nodup_cons.mp x.nd).2⟩
  obtain ⟨o', e1, e2, e3⟩ := x.own c (List.mem_cons_of_mem _ hc)
  exact ⟨o', k _ _ (fun q => (List.nodup_cons.mp x.nd).1 (q ▸ List.mem_map_of_mem (f := (·.1)) hc)) e1, e2, e3⟩
theorem St.drop {s' : Shared} {a : Addr} {P : Obj → Prop} (x : St w os h₀ ((a, P) :: l) gl s) (k : Heap.ExtBut a s.heap s'.heap) (hg : s'.gens = s.gens) (ho : s'.os = s.os) : St w os h₀ l gl s' := x.to (x.hp.drop k) hg ho (fun o e => k _ _ (Ne.symm (x.ne (a, P) (List.mem_cons_self ..))) e) fun c hc => x.ne c (List.mem_cons_of_mem _ hc)
theorem St.lt484 (x : St w os h₀ l gl s) : 484 < s.heap.objs.size := let ⟨_, e, _⟩ := x.amb; Heap.lt_size e

def TiO (t : Addr) (i : Nat) (o : Obj) : Prop := o.cls = .type "tuple_iterator" ∧ o.data = .fields #[.ref t, .int i 0]
def LiO (t : Addr) (i : Nat) (o : Obj) : Prop := o.cls = .type "list_iterator" ∧ o.data = .fields #[.ref t, .int i 0]
theorem isTuple_le {h h' : Heap} {t : Addr} {items : Array Value} (x : h.IsTuple t items) (k : Le h h') : h'.IsTuple t items := let ⟨o, ho, r⟩ := x; ⟨o, k _ _ ho, r⟩
theorem isList_le {h h' : Heap} {t : Addr} {items : Array Value} (x : h.IsList t items) (k : Le h h') : h'.IsList t items := let ⟨o, ho, r⟩ := x; ⟨o, k _ _ ho, r⟩
theorem r_iterTuple {t : Addr} {items : Array Value} {Q : Value → Shared → Prop} (hS : St w os h₀ l gl s) (ht : h₀.IsTuple t items) (h : ∀ it s', St w os h₀ ((it, TiO t 0) :: l) gl s' → Q (.ref it) s') : wpAny (model prog w) A (pyIter (.ref t)) Q E s :=
  wpAny_pyIter_tuple (isTuple_le ht hS.hp.keep) (h _ _ (hS.push rfl ⟨rfl, rfl⟩ rfl rfl rfl))
theorem r_iterList {t : Addr} {items : Array Value} {Q : Value → Shared → Prop} (hS : St w os h₀ l gl s) (ht : h₀.IsList t items) (h : ∀ it s', St w os h₀ ((it, LiO t 0) :: l) gl s' → Q (.ref it) s') : wpAny (model prog w) A (pyIter (.ref t)) Q E s :=
  wpAny_pyIter_list (isList_le ht hS.hp.keep) (h _ _ (hS.push rfl ⟨rfl, rfl⟩ rfl rfl rfl))
theorem r_nextTuple {it t : Addr} {k : Nat} {items : Array Value} {Q : Option Value → Shared → Prop} (hh : A.handled = none) (hS : St w os h₀ ((it, TiO t k) :: l) gl s) (ht : h₀.IsTuple t items)
    (h : match items[k]? with | some x => ∀ s', St w os h₀ ((it, TiO t (k + 1)) :: l) gl s' → Q (some x) s' | none => ∀ s', St w os h₀ l gl s' → Q none s') : wpAny (model prog w) A (pyNext (.ref it)) Q E s := by
  obtain ⟨o, ho, hc, hd⟩ := hS.at (i := 0) rfl
  cases hx : items[k]? with
  | some x =>
    rw [hx] at h
    refine wpAny_pyNext_tuple_item (i := k) ⟨o, ho, hc, hd⟩ (isTuple_le ht hS.hp.keep) hx fun h' hi hs => h _ ?_
    obtain ⟨o', ho', hc', hd'⟩ := hi
    exact hS.turn (i := 0) (s' := { s with heap := h' }) rfl (fun b o hb e => hs.extBut b o hb e) ho' ⟨hc', hd'⟩ rfl rfl
  | none =>
    rw [hx] at h
    exact wpAny_pyNext_tuple_end hh (i := k) ⟨o, ho, hc, hd⟩ (isTuple_le ht hS.hp.keep) hx fun h' hs => h _ (hS.drop (s' := { s with heap := h' }) hs rfl rfl)
theorem r_nextList {it t : Addr} {k : Nat} {items : Array Value} {Q : Option Value → Shared → Prop} (hh : A.handled = none) (hS : St w os h₀ ((it, LiO t k) :: l) gl s) (ht : h₀.IsList t items)
    (h : match items[k]? with | some x => ∀ s', St w os h₀ ((it, LiO t (k + 1)) :: l) gl s' → Q (some x) s' | none => ∀ s', St w os h₀ l gl s' → Q none s') : wpAny (model prog w) A (pyNext (.ref it)) Q E s := by
  obtain ⟨o, ho, hc, hd⟩ := hS.at (i := 0) rfl
  cases hx : items[k]? with
  | some x =>
    rw [hx] at h
    refine wpAny_pyNext_list_item (i := k) ⟨o, ho, hc, hd⟩ (isList_le ht hS.hp.keep) hx fun h' hi hs => h _ ?_
    obtain ⟨o', ho', hc', hd'⟩ := hi
    exact hS.turn (i := 0) (s' := { s with heap := h' }) rfl (fun b o hb e => hs.extBut b o hb e) ho' ⟨hc', hd'⟩ rfl rfl
  | none =>
    rw [hx] at h
    exact wpAny_pyNext_list_end hh (i := k) ⟨o, ho, hc, hd⟩ (isList_le ht hS.hp.keep) hx fun h' hs => h _ (hS.drop (s' := { s with heap := h' }) hs rfl rfl)
end

section
variable {prog : Program} {w : World} {os : OsState} {h₀ : Heap} {l : List Cell} {gl : List (Nat × GenState)} {s : Shared} {A : Around} {E : Value → Shared → Prop} {C ft x d vd : Addr} {names : List String} {od : Obj} {f : Str → Option Value} {line v : Value} {Q : Value → Shared → Prop} {expr : Bool}
-- getAttrBy for a field
theorem byField {n : String} {t : Tok} {fill : Bool} (c : Cl w.params C ft names) (hn : n ∈ names) (a : NodeAt prog w h₀ x C d vd od f line) (hS : St w os h₀ l gl s) (hd : A.depth < 890) (hf : f (Str.ofString n) = some v) (hh : handedIn v = true)
    (h : ∀ s', St w os h₀ l gl s' → Q v s') : wpAny (model prog w) A (getAttrBy (.ref x) (.str (Str.ofString n) t) fill expr) Q E s := by
  have X := hS.bs.K.keeps hS.hp.keep
  have I := (a.le hS.hp.keep).inst
  obtain ⟨hh', g, dr, tk, os'⟩ := s
  have L0 := I.type (M := model prog w)
  have L3 := looks_findIn (M := model prog w) X c.ga
  unfold getAttrBy
  refine wpAny_holding (wpAny_bind (L0.at (wpAny_bind (L3.at ?_))))
  show wpAny _ _ (getAttrEveryday _ _ _) _ _ _
  refine wpAny_bind (wpAny_onRaise (wpAny_runValue (codeAny_builtin F.plainObj_entry_getattr_hooked ?_)))
  have L1 := looks_find (M := model prog w) X I (by rw [c.miss n hn od, a.other (c.own n hn)]; rfl)
  have L2 := looks_findIn (M := model prog w) X c.hk
  refine wpAny_bind (wpAny_pure (wpAny_bind (L0.at (wpAny_bind (L1.at (wpAny_bind (L2.at ?_)))))))
  show wpAny _ _ (byHook (.ref x) (.str (Str.ofString n) t) (.ref 44)) _ _ _
  unfold byHook
  refine wpAny_bind ((bind_fn X (f := 44) (.ref x) (by kernel_rfl)).at ?_)
  dsimp only
  refine wpAny_bind (getattr_spec c a (s := ⟨hh', g, dr, tk, os'⟩) hS (by show A.depth + 0 < 900; omega) hf fun s' hS' => ?_)
  refine wpAny_bind (wpAny_rule (wpAny_pure ?_))
  show wpAny _ _ (handedOut v) _ _ _
  rw [handedOut_of hh]
  exact wpAny_pure (h _ hS')
theorem r_getattr2 {n : String} {t : Tok} (c : Cl w.params C ft names) (hn : n ∈ names) (a : NodeAt prog w h₀ x C d vd od f line) (hS : St w os h₀ l gl s) (hd : A.depth < 880) (hf : f (Str.ofString n) = some v) (hh : handedIn v = true)
    (h : ∀ s', St w os h₀ l gl s' → Q v s') : wpAny (model prog w) A (call (.builtin "getattr") [.ref x, .str (Str.ofString n) t]) Q E s :=
  kbm_getattr2 (byField c hn a hS (by simp only [Around.in1_depth]; omega) hf hh h)
end
end

section
open PySem PySem.W PySem.Calls PyProof.Rows Builtin.ObjectAttr
theorem kind_hasattr : builtinKind "hasattr" = none := by decide +kernel
theorem plain_hasattr : plainId "hasattr" = true := by decide +kernel
theorem entry_hasattr : entryFor table "hasattr" = some Builtin.«hasattr» := entryFor_of_tree (by kernel_rfl)
theorem args_hasattr_2 (a b : Value) : argsOk "hasattr" ⟨[a, b], []⟩ := by unfold argsOk; kernel_rfl

section
variable {prog : Program} {w : World} {os : OsState} {h₀ : Heap} {l : List Cell} {gl : List (Nat × GenState)} {s : Shared} {A : Around} {E : Value → Shared → Prop} {C ft x d vd : Addr} {names : List String} {od : Obj} {f : Str → Option Value} {line v : Value} {Q : Value → Shared → Prop} {expr : Bool}
theorem r_hasattr {n : String} {t : Tok} (c : Cl w.params C ft names) (hn : n ∈ names) (a : NodeAt prog w h₀ x C d vd od f line) (hS : St w os h₀ l gl s) (hd : A.depth < 880) (hf : f (Str.ofString n) = some v) (hh : handedIn v = true)
    (h : ∀ s', St w os h₀ l gl s' → Q (.bool true) s') : wpAny (model prog w) A (call (.builtin "hasattr") [.ref x, .str (Str.ofString n) t]) Q E s := by
  have X := hS.bs.K.keeps hS.hp.keep
  have I := (a.le hS.hp.keep).inst
  refine Calls.call_function_entry kind_hasattr plain_hasattr entry_hasattr (args_hasattr_2 _ _) ?_
  unfold Builtin.«hasattr»
  refine wpAny_bind (wpAny_of_eq (a := [.ref x, .str (Str.ofString n) t]) (by first | rfl | kernel_rfl) ?_)
  dsimp only
  refine wpAny_bind (wpAny_of_eq (a := ()) (by first | rfl | kernel_rfl) ?_)
  have L0 := I.type (M := model prog w)
  have LM : Looks (model prog w) s.heap (isInstance (.ref x) (.type "module")) false := L0.andThen (looks_subIn X c.modu)
  obtain ⟨hh', g, dr, tk, os'⟩ := s
  rw [if_neg (by intro q; cases beq_iff_eq.mp q)]
  refine wpAny_bind (L0.at ?_)
  refine wpAny_bind ?_
  k_delta "optionalOnAModule"
  dsimp only
  refine wpAny_bind (wpAny_of_eq (a := some (Str.ofString n)) (by first | rfl | kernel_rfl) ?_)
  dsimp only
  refine wpAny_bind (LM.at ?_)
  simp only [Bool.not_false, if_true]
  refine wpAny_pure ?_
  rw [if_neg (by decide)]
  unfold getAttrBy?
  refine wpAny_bind (wpAny_bind (wpAny_attempt (byField c hn a (s := ⟨hh', g, dr, tk, os'⟩) hS (by simp only [Around.in1_depth]; omega) hf hh fun s' hS' => ?_)))
  refine wpAny_pure ?_
  simp only [Option.isNone_some, Bool.false_and, Bool.false_eq_true, if_false]
  exact wpAny_pure ⟨_, rfl, h _ hS'⟩

theorem cls_get {P : Params} : specialIn (KK P) (.builtin "object.__class__") "__get__" = some (some (.builtin "getset_descriptor.__get__")) := by kernel_rfl
theorem cls_take {P : Params} : takesIn (KK P) (.builtin "object.__class__") = some true := by kernel_rfl
-- isinstance of a node
theorem kitx_node (c : Cl w.params C ft names) : KitX (KK w.params) (.ref x) (.ref C) (fun h => InstAt h x (instObj C d) C (some od)) where
  ty := fun _ _ _ I => I.type
  it := fun _ _ X _ => by
    obtain ⟨cdD, hcD, _⟩ := any_some c.hdct
    unfold clsIn at hcD
    split at hcD
    · rename_i c' d' cd' sl' ho
      intro A' Q' E' s' k q
      unfold isType loadHead
      exact wpAny_bind (wpAny_loadPart (k _ _ (X _ _ ho)) (wpAny_pure q))
    · cases hcD
  ne := fun h tp dd its n sl X htp => by
    obtain ⟨cdD, hcD, _⟩ := any_some c.hdct
    refine Bool.eq_false_iff.mpr fun q => ?_
    have e : C = tp := Value.ref.inj (beq_iff_eq.mp q)
    subst e
    unfold clsIn at hcD
    split at hcD
    · rename_i c' d' cd' sl' ho
      have z := (X _ _ ho).symm.trans htp
      cases z
    · cases hcD
  ca := by
    intro prog w' A E Q s X I h
    have hf : findObj (KK w.params) C (some od) "__class__" = some (.bind (.builtin "getset_descriptor.__get__") (.builtin "object.__class__")) := findObj_data (by obtain ⟨cd, hc, _⟩ := any_some c.hdct; rw [hc]; rfl) c.cls cls_get cls_take
    refine kin_open X I c.ga ?_
    obtain ⟨hh, gg, dr, t, os⟩ := s
    have L0 := I.type (M := model prog w')
    have L1 := looks_find (M := model prog w') X I hf
    have L2 := looks_findIn (M := model prog w') X c.hk
    refine wpAny_bind (wpAny_pure (wpAny_bind (L0.at (wpAny_bind (L1.at (wpAny_bind (L2.at ?_)))))))
    show wpAny _ _ (bindOrHook (.builtin "getset_descriptor.__get__") (.builtin "object.__class__") (.ref x) (.ref C) _ (.ref 44)) _ _ _
    unfold bindOrHook
    refine wpAny_bind (wpAny_attempt (wpAny_holding ?_))
    show wpAny _ _ (holding [Value.builtin "object.__class__"] (call (.builtin "getset_descriptor.__get__") [.builtin "object.__class__", .ref x, .ref C]) >>= ret) _ _ _
    refine wpAny_bind (wpAny_holding (wpAny_call (class_get (s := ⟨hh, gg, dr, t + 1, os⟩) (ox := instObj C d) (od := some od) X I c.obj ?_)))
    exact wpAny_pure (wpAny_pure (wpAny_pure h))
theorem r_isNode {c' : Value} {b : Bool} (c : Cl w.params C ft names) (a : NodeAt prog w h₀ x C d vd od f line) (hS : St w os h₀ l gl s) (e : kitOne (KK w.params) (.ref C) c' = some b) (h : ∀ s', St w os h₀ l gl s' → Q (.bool b) s') :
    wpAny (model prog w) A (call (.builtin "isinstance") [.ref x, c']) Q E s :=
  kia_one (kitx_node c) (hS.bs.K.keeps hS.hp.keep) (a.le hS.hp.keep).inst e (by intro q; cases q) fun _ => h _ hS.toks
theorem r_isNodeT {tp : Addr} {its : List Value} {n : Nat} {b : Bool} (c : Cl w.params C ft names) (a : NodeAt prog w h₀ x C d vd od f line) (hS : St w os h₀ l gl s) (ht : s.heap.get? tp = some { cls := .type "tuple", data := .seq its.toArray n }) (e : kitAny (KK w.params) (.ref C) its = some b)
    (h : ∀ s', St w os h₀ l gl s' → Q (.bool b) s') : wpAny (model prog w) A (call (.builtin "isinstance") [.ref x, .ref tp]) Q E s :=
  kia_tup (dd := none) (sl := #[]) (kitx_node c) (hS.bs.K.keeps hS.hp.keep) (a.le hS.hp.keep).inst ht e (by intro q; cases q) fun _ => h _ hS.toks
end
end

section
open PySem PySem.W PySem.Calls PyProof.Rows
section
variable {prog : Program} {w : World} {os : OsState} {h₀ : Heap} {l : List Cell} {gl : List (Nat × GenState)} {s : Shared} {A : Around} {E : Value → Shared → Prop} {Q : Value → Shared → Prop}
set_option maxHeartbeats 1000000
theorem pe_spec {n : String} {t : Tok} (hS : St w os h₀ l gl s) (hd : A.depth < 900) (hn : (Txt.slice (Str.ofString n) none (some 2) == Str.ofString "__") = false) (hz : (Str.ofString n).length ≤ sizeLine) (h : ∀ s', St w os h₀ l gl s' → Q (.str (Str.ofString n) t) s') : wpAny (model prog w) A (call (.ref 28) [.str (Str.ofString n) t]) Q E s := by
  refine wpAny_call ?_
  refine r_call (fd := fd28) (body := bodOf (stm 1)) [("n", some (.str (Str.ofString n) t))] hS (k28 _) (c28 _) (by simp only [recursionLimit]; omega) rfl (BindsTo.of_eq rfl) (by decide +kernel) (locs rfl) (al_cons al_nil) (fun L s' hS => ?_)
  conv in bodOf _ => whnf
  repeat (walk_at "s1")
  refine wpAny_Slice ?_
  refine wpAny_pure ?_
  show wpAny _ _ (eval _ _) _ _ _
  repeat (walk_at "s1")
  refine wpAny_pure ?_
  refine tail_of_ItemOn (SBH.sliceItem_ns (P := fun h => Le s'.heap h) (fun _ _ k b o e => Heap.get?_push_of_some _ (k b o e)) (Le.refl _) (fun h' t' k hk => ?_) hz) (by with_unfolding_all rfl) (by intro _; with_unfolding_all rfl)
  replace hS := hS.ext (s' := { s' with heap := h', toks := k }) hk rfl rfl
  repeat (walk_at "s1")
  refine PyProof.Rows.eq_str ?_
  rw [hn]
  repeat (walk_at "s1")
  exact h _ (hS.sub (List.sublist_cons_self ..))
def okName (n : String) : Bool := (Txt.slice (Str.ofString n) none (some 2) == Str.ofString "__") == false && decide ((Str.ofString n).length ≤ 1000)
example : (["body", "nodes", "template", "target", "iter", "else_", "test", "recursive", "elif_", "name", "args", "defaults", "scoped", "required", "with_context", "ignore_missing", "names", "ctx", "value", "items", "key", "node", "kwargs", "dyn_args", "dyn_kwargs", "attr"].all okName) = true := by decide +kernel
end
end

section
open PySem PySem.W PySem.Calls PyProof.Rows
section
variable {prog : Program} {w : World} {os : OsState} {h₀ : Heap} {C ft x d vd L : Addr} {names : List String} {od : Obj} {f : Str → Option Value} {line : Value}
def PairR (h : Heap) (v : Value) (p : String × Value) : Prop := ∃ b t, v = .ref b ∧ h.get? b = some { cls := .type "tuple", data := .seq #[.str (Str.ofString p.1) t, p.2] }
abbrev itfEnv (L : Addr) : Env := callEnv fd59 L 59
abbrev itfAl (x : Addr) (nm : Al) : Al := ("only", some .none) :: ("exclude", some .none) :: ("self", some (.ref x)) :: nm
def fstS (b : List Stmt) : Stmt := match b with | s :: _ => s | [] => .Pass default
def forT : Stmt → Expr | .For t _ _ _ _ => t | _ => .Constant .none 0 default
def forB : Stmt → List Stmt | .For _ _ b _ _ => b | _ => []
abbrev forC (S : Stmt) (it : Value) (env : Env) : Code := .forLoop (forT S) it (forB S) [] env
theorem fn_exit {P : Shared → Thread → Prop} {h₁ : Heap} {X : Type} {Rel : Heap → Value → X → Prop} {kd : Nat} {lf : List Cell} {glf : List (Nat × GenState)} {g : Nat} {k : GenResult → Sem PySem.Fin} {lv : List Value} {c c₁ : Code} {p p₁ : Pos} {st : List Frame} {s : Shared} {h₂ : Heap}
    (hX : Exit prog w os Rel kd P h₁ lf glf g k c₁ p₁ st []) (hk : Le h₁ h₂) (hS : St w os h₂ lf glf s) : Ld prog w P s ⟨leafOf (.ok (.ret .none)), c, p, .gen g k lv c₁ p₁ :: st⟩ :=
  .of_go (step_leaf_gen ..) (hX h₂ s hk hS)
theorem prod_again {X : Type} {Rel : Heap → Value → X → Prop} {kd : Nat} {xs : List X} {c c' : Code} {fs : List Frame} {l : List Cell} {gl : List (Nat × GenState)} (hq : c'.quiet = true) (h : Prod prog w os Rel kd xs h₀ c' (denote table c') fs l gl) :
    Prod prog w os Rel kd xs h₀ c (.pure (.again c')) fs l gl := fun P h₁ lf glf s g k lv c₁ p₁ st d u p₀ a b e f i hX => ld_go hq (h P h₁ lf glf s g k lv c₁ p₁ st d u p₀ a b e f i hX)
set_option maxHeartbeats 2000000
abbrev itfS : Stmt := fstS (bodOf (mth 3 5))
abbrev itfF (L : Addr) : Code := .func (bodOf (mth 3 5)) (itfEnv L)
theorem tup_at {P : Params} {h : Heap} (c : Cl P C ft names) (X : (KK P).In h) : ∃ items : Array Value, h.IsTuple ft items ∧ items.size = names.length ∧ ∀ (i : Nat) n, names[i]? = some n → ∃ t, items[i]? = some (Value.str (Str.ofString n) t) := by
  obtain ⟨ts, hl, e⟩ := c.tup
  refine ⟨_, ⟨_, X _ _ e, rfl, _, rfl⟩, by simp [hl], fun i n hn => ?_⟩
  have hlt : i < ts.length := by rw [hl]; exact (List.getElem?_eq_some_iff.mp hn).1
  refine ⟨ts[i], ?_⟩
  simp [List.getElem?_zipWith, hn, hlt]
theorem itf_loop (c : Cl w.params C ft names) (hok : ∀ n ∈ names, okName n = true) (vs : String → Value) {it : Addr} {k' : Result → Sem PySem.Fin} {p' : Pos} (hk' : k' (.ok .next) = leafOf (.ok (.ret .none))) :
    ∀ (rest pre : List String), names = pre ++ rest → ∀ (h₀ : Heap) (nm : Al), (nm = [] ∨ ∃ v, nm = [("name", some v)]) → NodeAt prog w h₀ x C d vd od f line → (∀ n ∈ names, f (Str.ofString n) = some (vs n) ∧ handedIn (vs n) = true) →
      Prod prog w os PairR 60 (rest.map fun n => (n, vs n)) h₀ (forC itfS (.ref it) (itfEnv L)) (denote table (forC itfS (.ref it) (itfEnv L))) [.ret k' none false [] (itfF L) p' []] [(it, TiO ft pre.length), (L, NsO (itfAl x nm))] [] := by
  intro rest
  induction rest with
  | nil =>
    intro pre hpre h₀ nm hnm a hf P h₁ lf glf s g k lv c₁ p₁ st dd u p₀ hk hS hb hd hu hX
    obtain ⟨items, hit, hsz, hat⟩ := tup_at c hS.bs.K
    have ha : Amb (itfF L) (.gen g k lv c₁ p₁ :: st) (dd + 1) (u + 3) := hb.amb _
    have hb' : Bel ([.ret k' none false [] (itfF L) p' []] ++ .gen g k lv c₁ p₁ :: st) (dd + 1) (u + 3) := ha.call
    refine ld_forLoop hb' (lg_of (r_nextTuple rfl hS hit ?_))
    rw [Array.getElem?_eq_none (by rw [hsz, hpre]; simp)]
    intro s' hS c p
    refine .of_go (step_leaf_ret (r := .ok .next) ..) ?_
    rw [hk']
    exact fn_exit hX (Le.refl _) (hS.sub (List.sublist_cons_self ..))
  | cons n rest ih =>
    intro pre hpre h₀ nm hnm a hf P h₁ lf glf s g k lv c₁ p₁ st dd u p₀ hk hS hb hd hu hX
    have a₁ := a.le hk
    obtain ⟨items, hit, hsz, hat⟩ := tup_at c hS.bs.K
    have ha : Amb (itfF L) (.gen g k lv c₁ p₁ :: st) (dd + 1) (u + 3) := hb.amb _
    have hb' : Bel ([.ret k' none false [] (itfF L) p' []] ++ .gen g k lv c₁ p₁ :: st) (dd + 1) (u + 3) := ha.call
    have hA : Amb (forC itfS (.ref it) (itfEnv L)) ([.ret k' none false [] (itfF L) p' []] ++ .gen g k lv c₁ p₁ :: st) (dd + 1) (u + 3) := hb'.amb _
    refine ld_forLoop hb' (lg_of (r_nextTuple rfl hS hit ?_))
    have hni : names[pre.length]? = some n := by rw [hpre]; simp
    obtain ⟨t, ht⟩ := hat _ _ hni
    rw [ht]
    intro s' hS
    refine lg_pure ?_
    have hmem : n ∈ names := List.mem_of_getElem? hni
    have hal : ∃ al', setV (itfAl x nm) "name" (.str (Str.ofString n) t) = al' ∧ al' = itfAl x [("name", some (.str (Str.ofString n) t))] := by
      refine ⟨_, rfl, ?_⟩
      rcases hnm with rfl | ⟨v, rfl⟩ <;> rfl
    obtain ⟨al', hal1, hal2⟩ := hal
    subst hal2
    replace hS := hS.swap
    refine lg_of (wpAny_assign_Name (r_store hS hal1 fun s' hS p K H hKn hKc => ?_))
    conv in forB _ => whnf
    refine ld_cons fun K₁ hK₁ _ _ => ld_If hA (lg_of ?_)
    repeat (walk_at "s1")
    intro p
    refine ld_cons fun K₂ hK₂ _ _ => ld_If hA (lg_of ?_)
    repeat (walk_at "s1")
    have hokn := hok n hmem
    unfold okName at hokn
    simp only [Bool.and_eq_true, beq_iff_eq, decide_eq_true_eq] at hokn
    have hzn : (Str.ofString n).length ≤ sizeLine := by rw [sizeLine_eq]; omega
    refine pe_spec hS (by show dd + 1 < 900; omega) hokn.1 hzn fun s' hS => ?_
    repeat (walk_at "s1")
    refine r_hasattr c hmem a₁ hS (by show dd + 1 < 880; omega) (hf n hmem).1 (hf n hmem).2 fun s' hS => ?_
    repeat (walk_at "s1")
    intro p
    refine ld_cons fun K₃ hK₃ _ _ => ?_
    refine ld_yield (fs := [.ret k' none false [] (itfF L) p' []]) hA rfl rfl (lg_of ?_)
    repeat (walk_at "s1")
    refine pe_spec hS (by show dd + 1 < 900; omega) hokn.1 hzn fun s' hS => ?_
    repeat (walk_at "s1")
    refine r_getattr2 c hmem a₁ hS (by show dd + 1 < 880; omega) (hf n hmem).1 (hf n hmem).2 fun s' hS => ?_
    repeat (walk_at "s1")
    rintro gs ⟨k₀, l₀, p₀', cl, rfl, hk₀⟩
    obtain ⟨h₂, o, k₂, hob, hP, hS₂⟩ := hS.swap.froze
    cases hP
    refine hX _ h₂ [(it, TiO ft (pre.length + 1)), (L, NsO (itfAl x [("name", some (.str (Str.ofString n) t))]))] [] _ _ k₂ ⟨_, t, rfl, hob⟩ hS₂.swap ⟨.builtin "" {}, .inr ⟨_, _, _, _, _, _, rfl⟩⟩ (gen_susp ?_)
    rw [hk₀, hK₃]
    show Prod prog w os PairR 60 _ _ _ (K₂ .next) _ _ _
    rw [hK₂]
    show Prod prog w os PairR 60 _ _ _ (K₁ .next) _ _ _
    rw [hK₁]
    show Prod prog w os PairR 60 _ _ _ (K .next) _ _ _
    rw [hKn]
    refine prod_again rfl ?_
    rw [show pre.length + 1 = (pre ++ [n]).length by simp]
    exact ih (pre ++ [n]) (by simp [hpre]) h₂ _ (.inr ⟨_, rfl⟩) (a₁.le k₂) hf
theorem itf_gen (c : Cl w.params C ft names) (a : NodeAt prog w h₀ x C d vd od f line) (hok : ∀ n ∈ names, okName n = true) (vs : String → Value) (hf : ∀ n ∈ names, f (Str.ofString n) = some (vs n) ∧ handedIn (vs n) = true) :
    Gen prog w os PairR 60 (names.map fun n => (n, vs n)) h₀ (.fresh (itfF L)) [(L, NsO (itfAl x []))] [] := by
  refine gen_fresh ?_
  intro P h₁ lf glf s g k lv c₁ p₁ st dd u p₀ hk hS hb hd hu hX
  have a₁ := a.le hk
  refine ld_func fun p K H hK => ?_
  conv in bodOf _ => whnf
  have ha : Amb (itfF L) (.gen g k lv c₁ p₁ :: st) (dd + 1) (u + 3) := hb.amb _
  refine ld_cons fun K' hK' _ _ => ?_
  refine ld_For (d := dd + 1) (u := u + 3) ha (lg_of ?_)
  repeat (walk_at "s1")
  refine r_getFlds c a₁ hS fun s' hS => ?_
  obtain ⟨items, hit, hsz, hat⟩ := tup_at c hS.bs.K
  refine lg_of (r_iterTuple hS hit fun it s' hS k' p hk' => ?_)
  exact itf_loop c hok vs (by rw [hk', hK']; exact hK) names [] rfl h₁ [] (.inl rfl) a₁ hf P h₁ lf glf s' g k lv c₁ p₁ st dd u p (Le.refl _) hS hb hd hu hX
end
end

section
open PySem PySem.W PySem.Calls PyProof.Rows
-- what isinstance may know of a value
def Kt (w : World) (h : Heap) (v t : Value) : Prop := (∃ H : Heap → Prop, KitX (KK w.params) v t H ∧ ∀ h', Le h h' → H h') ∧ v ≠ .builtin "__main__.__loader__#opaque" ∧ handedIn v = true
theorem Kt.le {w : World} {h h' : Heap} {v t : Value} (x : Kt w h v t) (k : Le h h') : Kt w h' v t := let ⟨⟨H, a, b⟩, c, e⟩ := x; ⟨⟨H, a, fun h'' q => b h'' (k.trans q)⟩, c, e⟩
theorem kt_str {w : World} {h : Heap} {x : Str} {t : Tok} : Kt w h (.str x t) (.type "str") := ⟨⟨_, kitx_str, fun _ _ => trivial⟩, (by intro q; cases q), rfl⟩
theorem kt_int {w : World} {h : Heap} {x : Int} {t : Tok} : Kt w h (.int x t) (.type "int") := ⟨⟨_, kitx_int, fun _ _ => trivial⟩, (by intro q; cases q), rfl⟩
theorem kt_bool {w : World} {h : Heap} {x : Bool} : Kt w h (.bool x) (.type "bool") := ⟨⟨_, kitx_bool, fun _ _ => trivial⟩, (by intro q; cases q), rfl⟩
theorem kt_none {w : World} {h : Heap} : Kt w h .none (.type "NoneType") := ⟨⟨_, kitx_none, fun _ _ => trivial⟩, (by intro q; cases q), rfl⟩
theorem kt_list {w : World} {h : Heap} {a : Addr} {items : Array Value} (x : h.IsList a items) : Kt w h (.ref a) (.type "list") := ⟨⟨_, kitx_list, fun h' k => let ⟨o, ho, hc, _⟩ := x; ⟨o, k _ _ ho, hc⟩⟩, (by intro q; cases q), rfl⟩
theorem kt_tuple {w : World} {h : Heap} {a : Addr} {items : Array Value} (x : h.IsTuple a items) : Kt w h (.ref a) (.type "tuple") := ⟨⟨_, kitx_tuple, fun h' k => let ⟨o, ho, hc, _⟩ := x; ⟨o, k _ _ ho, hc⟩⟩, (by intro q; cases q), rfl⟩
theorem kt_node {prog : Program} {w : World} {h : Heap} {C ft x d vd : Addr} {names : List String} {od : Obj} {f : Str → Option Value} {line : Value} (c : Cl w.params C ft names) (a : NodeAt prog w h x C d vd od f line) : Kt w h (.ref x) (.ref C) :=
  ⟨⟨_, kitx_node (d := d) (od := od) c, fun h' k => (a.le k).inst⟩, (by intro q; cases q), rfl⟩
section
variable {prog : Program} {w : World} {os : OsState} {h₀ : Heap} {l : List Cell} {gl : List (Nat × GenState)} {s : Shared} {A : Around} {E : Value → Shared → Prop} {Q : Value → Shared → Prop}
theorem r_isi {v t c : Value} {b : Bool} (k : Kt w h₀ v t) (hS : St w os h₀ l gl s) (e : kitOne (KK w.params) t c = some b) (h : ∀ s', St w os h₀ l gl s' → Q (.bool b) s') : wpAny (model prog w) A (call (.builtin "isinstance") [v, c]) Q E s :=
  let ⟨⟨_, Z, hH⟩, hne, _⟩ := k
  kia_one Z (hS.bs.K.keeps hS.hp.keep) (hH _ hS.hp.keep) e hne fun _ => h _ hS.toks
theorem r_isiT {v t : Value} {tp : Addr} {its : List Value} {n : Nat} {b : Bool} (k : Kt w h₀ v t) (hS : St w os h₀ l gl s) (ht : s.heap.get? tp = some { cls := .type "tuple", data := .seq its.toArray n }) (e : kitAny (KK w.params) t its = some b)
    (h : ∀ s', St w os h₀ l gl s' → Q (.bool b) s') : wpAny (model prog w) A (call (.builtin "isinstance") [v, .ref tp]) Q E s :=
  let ⟨⟨_, Z, hH⟩, hne, _⟩ := k
  kia_tup (dd := none) (sl := #[]) Z (hS.bs.K.keeps hS.hp.keep) (hH _ hS.hp.keep) ht e hne fun _ => h _ hS.toks
-- calls of bound methods
theorem r_callM0 {i : Nat} {p m x : Addr} {pos : Pos} {env : Env} (hS : St w os h₀ l gl s) (hi : l[i]? = some (p, MeO m x)) (hf : fnIn (KK w.params) m = true)
    (h : codeAny (model prog w) A (.call (.ref m) ⟨[.ref x], []⟩) (fun r s' => match r with | .ok (.ret v) => Q v s' | .ok _ => False | .error e => E e s') s) : wpAny (model prog w) A (callWith pos (.ref p) [] (backTo pos (starEach [] env)) []) Q E s := by
  obtain ⟨o, ho, hP⟩ := hS.at hi
  cases hP
  exact callWith_M0 (K := KK w.params) ⟨ho, hS.bs.K.keeps hS.hp.keep⟩ hf (wpAny_call (method_call ho h))
theorem r_callM {p m : Addr} {x : Value} {pos : Pos} {env : Env} {e : Expr} {rest : List Expr} (hf : fnIn (KK w.params) m = true)
    (h : wpAny (model prog w) A (spliced (backTo pos (starEach (e :: rest) env))) (fun vs s₁ => MethP (KK w.params) p m x s₁.heap ∧
      codeAny (model prog w) A (.call (.ref m) ⟨x :: vs, []⟩) (fun r s' => match r with | .ok (.ret v) => Q v s' | .ok _ => False | .error e => E e s') s₁) E s)
    (he : starEach (e :: rest) env = (false, eval e env) :: starEach rest env := by rfl) (hplain : (backTo pos (starEach rest env)).any (·.1) = false := by rfl) :
    wpAny (model prog w) A (callWith pos (.ref p) [] (backTo pos (starEach (e :: rest) env)) []) Q E s := by
  rw [he] at h ⊢
  refine callWith_of (P := MethP (KK w.params) p m x) (by show ((false || (backTo pos (starEach rest env)).any (·.1)) || false) = false; rw [hplain]; rfl) (keeps_M hf) (evalArgs_plain ?_)
  exact wpAny_mono h (fun vs s₁ h₁ => ⟨h₁.1, wpAny_call (method_call h₁.1.1 h₁.2)⟩) fun _ _ x => x
theorem St.meth {i : Nat} {p m x : Addr} (hS : St w os h₀ l gl s) (hi : l[i]? = some (p, MeO m x)) : MethP (KK w.params) p m (.ref x) s.heap := by
  obtain ⟨o, ho, hP⟩ := hS.at hi
  cases hP
  exact ⟨ho, hS.bs.K.keeps hS.hp.keep⟩
end

-- the child nodes that a field's value shows
def Kid1 (w : World) (h : Heap) (v : Value) : Option Addr → Prop
  | some x => v = .ref x ∧ ∃ t, Kt w h v t ∧ kitOne (KK w.params) t (.type "list") = some false ∧ kitOne (KK w.params) t (.ref 127) = some true
  | none => ∃ t, Kt w h v t ∧ kitOne (KK w.params) t (.type "list") = some false ∧ kitOne (KK w.params) t (.ref 127) = some false
inductive Kids1 (w : World) (h : Heap) : List Value → List Addr → Prop
  | nil : Kids1 w h [] []
  | node {v x vs xs} : Kid1 w h v (some x) → Kids1 w h vs xs → Kids1 w h (v :: vs) (x :: xs)
  | other {v vs xs} : Kid1 w h v none → Kids1 w h vs xs → Kids1 w h (v :: vs) xs
inductive KidV (w : World) (h : Heap) : Value → List Addr → Prop
  | node {v x} : Kid1 w h v (some x) → KidV w h v [x]
  | other {v} : Kid1 w h v none → KidV w h v []
  | list {a vs xs} : h.IsList a vs.toArray → Kids1 w h vs xs → KidV w h (.ref a) xs
theorem Kid1.le {w : World} {h h' : Heap} {v : Value} {o : Option Addr} (x : Kid1 w h v o) (k : Le h h') : Kid1 w h' v o := by
  cases o with
  | none => obtain ⟨t, a, b⟩ := x; exact ⟨t, a.le k, b⟩
  | some y => obtain ⟨e, t, a, b⟩ := x; exact ⟨e, t, a.le k, b⟩
theorem Kids1.le {w : World} {h h' : Heap} (k : Le h h') : ∀ {vs : List Value} {xs : List Addr}, Kids1 w h vs xs → Kids1 w h' vs xs
  | _, _, .nil => .nil
  | _, _, .node a b => .node (a.le k) (b.le k)
  | _, _, .other a b => .other (a.le k) (b.le k)
theorem KidV.le {w : World} {h h' : Heap} (k : Le h h') {v : Value} {xs : List Addr} : KidV w h v xs → KidV w h' v xs
  | .node a => .node (a.le k)
  | .other a => .other (a.le k)
  | .list a b => .list (isList_le a k) (b.le k)
inductive KidsP (w : World) (h : Heap) : List (String × Value) → List Addr → Prop
  | nil : KidsP w h [] []
  | cons {n v ps ks xs} : KidV w h v ks → KidsP w h ps xs → KidsP w h ((n, v) :: ps) (ks ++ xs)
theorem KidsP.le {w : World} {h h' : Heap} (k : Le h h') : ∀ {ps : List (String × Value)} {xs : List Addr}, KidsP w h ps xs → KidsP w h' ps xs
  | _, _, .nil => .nil
  | _, _, .cons a b => .cons (a.le k) (b.le k)
theorem list_list {P : Params} : kitOne (KK P) (.type "list") (.type "list") = some true := by kernel_rfl
end

section
open PySem PySem.W PySem.Calls PyProof.Rows
section
variable {prog : Program} {w : World} {os : OsState} {h₀ : Heap} {l : List Cell} {gl : List (Nat × GenState)} {s : Shared} {A : Around} {E : Value → Shared → Prop}
theorem le_of_extNew {h h' : Heap} (k : Heap.ExtBut h.objs.size h h') : Le h h' := fun b o e => k b o (Nat.ne_of_lt (Heap.lt_size e)) e
theorem r_unpack2 {e1 e2 : Expr} {k : Nat} {pos : Pos} {env : Env} {t : Addr} {v1 v2 : Value} {Q : Unit → Shared → Prop} (hh : A.handled = none) (hS : St w os h₀ l gl s) (ht : s.heap.IsTuple t #[v1, v2])
    (h : ∀ s', St w os h₀ l gl s' → wpAny (model prog w) A (assign e1 env v1) (fun _ s1 => wpAny (model prog w) A (assign e2 env v2) Q E s1) E s')
    (he : assignEach [e1, e2] env = [(false, assign e1 env), (false, assign e2 env)] := by rfl) : wpAny (model prog w) A (assign (.Tuple [e1, e2] k pos) env (.ref t)) Q E s := by
  refine PySem.wpAny_assign_Tuple hh ht (by rw [he]; rfl) (by rw [he]; rfl) fun h' hk => ?_
  rw [he]
  refine wpAny_bind (wpAny_holding (wpAny_mono (h _ (hS.ext (s' := { s with heap := h' }) (le_of_extNew hk) rfl rfl)) (fun _ s1 h1 => ?_) fun _ _ x => x))
  exact wpAny_bind (wpAny_holding (wpAny_mono h1 (fun _ s2 h2 => wpAny_pure h2) fun _ _ x => x))
theorem r_unpack3 {e1 e2 e3 : Expr} {k : Nat} {pos : Pos} {env : Env} {t : Addr} {v1 v2 v3 : Value} {Q : Unit → Shared → Prop} (hh : A.handled = none) (hS : St w os h₀ l gl s) (ht : s.heap.IsTuple t #[v1, v2, v3])
    (h : ∀ s', St w os h₀ l gl s' → wpAny (model prog w) A (assign e1 env v1) (fun _ s1 => wpAny (model prog w) A (assign e2 env v2) (fun _ s2 => wpAny (model prog w) A (assign e3 env v3) Q E s2) E s1) E s')
    (he : assignEach [e1, e2, e3] env = [(false, assign e1 env), (false, assign e2 env), (false, assign e3 env)] := by rfl) : wpAny (model prog w) A (assign (.Tuple [e1, e2, e3] k pos) env (.ref t)) Q E s := by
  refine PySem.wpAny_assign_Tuple hh ht (by rw [he]; rfl) (by rw [he]; rfl) fun h' hk => ?_
  rw [he]
  refine wpAny_bind (wpAny_holding (wpAny_mono (h _ (hS.ext (s' := { s with heap := h' }) (le_of_extNew hk) rfl rfl)) (fun _ s1 h1 => ?_) fun _ _ x => x))
  refine wpAny_bind (wpAny_holding (wpAny_mono h1 (fun _ s2 h2 => ?_) fun _ _ x => x))
  exact wpAny_bind (wpAny_holding (wpAny_mono h2 (fun _ s3 h3 => wpAny_pure h3) fun _ _ x => x))
theorem r_letGen {elts : List Expr} {x1 : Nat} {pos : Pos} {I T g i : Nat} {Q : Unit → Shared → Prop} (hS : St w os h₀ l gl s) (hi : l[i]? = some (I, GenO g)) (hQ : Q () s) :
    wpAny (model prog w) A (letOwnedTupleGo (.Tuple elts x1 pos) (.ref I) (.ref T)) Q E s := by
  obtain ⟨nm, qn, sl, ho, _⟩ := hS.genO hi
  unfold letOwnedTupleGo
  refine wpAny_bind (wpAny_load ho ?_)
  show wpAny _ A (if (["enumerate", "zip", "dict_itemiterator", "dict_reverseitemiterator", "odict_iterator", "itertools.zip_longest", "itertools.pairwise"].contains "generator" && _) = true then _ else _) Q E s
  rw [if_neg (by
    intro h
    rw [show (["enumerate", "zip", "dict_itemiterator", "dict_reverseitemiterator", "odict_iterator", "itertools.zip_longest", "itertools.pairwise"].contains "generator") = false from by decide, Bool.false_and] at h
    cases h)]
  exact wpAny_pure hQ
theorem r_iterGen {a g i : Nat} {Q : Value → Shared → Prop} (hS : St w os h₀ l gl s) (hi : l[i]? = some (a, GenO g)) (h : Q (.ref a) s) : wpAny (model prog w) A (pyIter (.ref a)) Q E s := by
  obtain ⟨nm, qn, sl, ho, _⟩ := hS.genO hi
  have hty : s.TypeIs (.ref a) "generator" := ⟨_, ho, rfl⟩
  refine wpAny_pyIter_slot hty slot_gen_iter (wpAny_call_entry slot_gen_iter hty entry_gen_iter ?_ (args_gen_iter _))
  show wpAny _ _ (ret (.ref a)) _ _ s
  exact wpAny_pure ⟨_, rfl, "generator", _, hty, slot_gen_next.lookup, h⟩
end
-- a node with its child nodes
structure NodeK (prog : Program) (w : World) (h : Heap) (x : Addr) (ks : List Addr) : Prop where
  e : ∃ (C ft : Addr) (names : List String) (d vd : Addr) (od : Obj) (f : Str → Option Value) (line : Value) (vs : String → Value), Cl w.params C ft names ∧ NodeAt prog w h x C d vd od f line ∧ (∀ n ∈ names, okName n = true) ∧ (∀ n ∈ names, f (Str.ofString n) = some (vs n) ∧ handedIn (vs n) = true) ∧ KidsP w h (names.map fun n => (n, vs n)) ks ∧
    kitOne (KK w.params) (.ref C) (.type "list") = some false ∧ kitOne (KK w.params) (.ref C) (.ref 127) = some true
theorem NodeK.le {prog : Program} {w : World} {h h' : Heap} {x : Addr} {ks : List Addr} (a : NodeK prog w h x ks) (k : Le h h') : NodeK prog w h' x ks :=
  let ⟨C, ft, names, d, vd, od, f, line, vs, c, n, e1, e2, e3, e4⟩ := a.e; ⟨C, ft, names, d, vd, od, f, line, vs, c, n.le k, e1, e2, e3.le k, e4⟩
def NodeR (_ : Heap) (v : Value) (x : Addr) : Prop := v = .ref x
abbrev itcEnv (L : Addr) : Env := callEnv fd67 L 67
abbrev itcS : Stmt := fstS (bodOf (mth 3 6))
abbrev itcF (L : Addr) : Code := .func (bodOf (mth 3 6)) (itcEnv L)
def ifB : Stmt → List Stmt | .If _ b _ _ => b | _ => []
abbrev itcI : Stmt := fstS (ifB (fstS (forB itcS)))

section
variable {prog : Program} {w : World} {os : OsState} {h₀ : Heap} {L x : Addr}
set_option maxHeartbeats 2000000
-- the inner loop, over a list
theorem itc_inner {it la ga : Addr} {lo : List Cell} {glo : List (Nat × GenState)} {vs₀ : List Value} {k' k'' : Result → Sem PySem.Fin} {p' p'' : Pos} (hk'' : k'' (.ok .next) = .pure (.again (forC itcS (.ref ga) (itcEnv L)))) {ys : List Addr}
    (hrest : Prod prog w os NodeR 120 ys h₀ (forC itcS (.ref ga) (itcEnv L)) (denote table (forC itcS (.ref ga) (itcEnv L))) [.ret k' none false [] (itcF L) p' []] (lo ++ [(L, NsO [])]) glo) :
    ∀ (rest : List Value) (ks : List Addr) (pre : List Value) (h : Heap), vs₀ = pre ++ rest → Le h₀ h → h.IsList la vs₀.toArray → Kids1 w h rest ks →
      Prod prog w os NodeR 120 (ks ++ ys) h (forC itcI (.ref it) (itcEnv L)) (denote table (forC itcI (.ref it) (itcEnv L))) [.ret k'' none false [] (forC itcS (.ref ga) (itcEnv L)) p'' [], .ret k' none false [] (itcF L) p' []]
        ((it, LiO la pre.length) :: (L, NsO []) :: lo) glo := by
  intro rest
  induction rest with
  | nil =>
    intro ks pre h hpre hk0 hla hks P h₁ lf glf s g k lv c₁ p₁ st dd u p₀ hk hS hb hd hu hX
    cases hks
    have ha : Amb (itcF L) (.gen g k lv c₁ p₁ :: st) (dd + 1) (u + 3) := hb.amb _
    have hb' : Bel ([.ret k' none false [] (itcF L) p' []] ++ .gen g k lv c₁ p₁ :: st) (dd + 1) (u + 3) := ha.call
    have hA : Amb (forC itcS (.ref ga) (itcEnv L)) ([.ret k' none false [] (itcF L) p' []] ++ .gen g k lv c₁ p₁ :: st) (dd + 1) (u + 3) := hb'.amb _
    have hb2 : Bel ([.ret k'' none false [] (forC itcS (.ref ga) (itcEnv L)) p'' [], .ret k' none false [] (itcF L) p' []] ++ .gen g k lv c₁ p₁ :: st) (dd + 1) (u + 3) := hA.call
    refine ld_forLoop hb2 (lg_of (r_nextList rfl hS (isList_le hla hk) ?_))
    rw [show vs₀.toArray[pre.length]? = none by simp [hpre]]
    intro s' hS c p
    refine .of_go (step_leaf_ret (r := .ok .next) ..) ?_
    rw [hk'']
    refine ld_go rfl ?_
    exact hrest P h₁ lf glf s' g k lv c₁ p₁ st dd u p'' (hk0.trans hk) (hS.perm (by simpa using (List.perm_middle (l₁ := lo) (a := ((L, NsO []) : Cell)) (l₂ := lf)))) hb hd hu hX
  | cons v rest ih =>
    intro ks pre h hpre hk0 hla hks P h₁ lf glf s g k lv c₁ p₁ st dd u p₀ hk hS hb hd hu hX
    have ha : Amb (itcF L) (.gen g k lv c₁ p₁ :: st) (dd + 1) (u + 3) := hb.amb _
    have hb' : Bel ([.ret k' none false [] (itcF L) p' []] ++ .gen g k lv c₁ p₁ :: st) (dd + 1) (u + 3) := ha.call
    have hA : Amb (forC itcS (.ref ga) (itcEnv L)) ([.ret k' none false [] (itcF L) p' []] ++ .gen g k lv c₁ p₁ :: st) (dd + 1) (u + 3) := hb'.amb _
    have hb2 : Bel ([.ret k'' none false [] (forC itcS (.ref ga) (itcEnv L)) p'' [], .ret k' none false [] (itcF L) p' []] ++ .gen g k lv c₁ p₁ :: st) (dd + 1) (u + 3) := hA.call
    have hA2 : Amb (forC itcI (.ref it) (itcEnv L)) ([.ret k'' none false [] (forC itcS (.ref ga) (itcEnv L)) p'' [], .ret k' none false [] (itcF L) p' []] ++ .gen g k lv c₁ p₁ :: st) (dd + 1) (u + 3) := hb2.amb _
    have hla₁ := isList_le hla hk
    refine ld_forLoop hb2 (lg_of (r_nextList rfl hS hla₁ ?_))
    rw [show vs₀.toArray[pre.length]? = some v by simp [hpre]]
    intro s' hS
    refine lg_pure ?_
    replace hS := hS.swap
    refine lg_of (wpAny_assign_Name (r_store hS (al' := [("n", some v)]) rfl fun s' hS p K H hKn hKc => ?_))
    conv in forB _ => whnf
    refine ld_cons fun K₁ hK₁ _ _ => ld_If hA2 (lg_of ?_)
    repeat (walk_at "s1")
    have hnext : ∀ (ks' : List Addr) (nm : Al) (h₂ : Heap), Le h₁ h₂ → Kids1 w h rest ks' → Prod prog w os NodeR 120 (ks' ++ ys) h₂ (forC itcI (.ref it) (itcEnv L)) (K .next) [.ret k'' none false [] (forC itcS (.ref ga) (itcEnv L)) p'' [], .ret k' none false [] (itcF L) p' []]
        ((it, LiO la (pre.length + 1)) :: (L, NsO []) :: lo) glo := by
      intro ks' nm h₂ hk₂ hks'
      rw [hKn]
      refine prod_again rfl ?_
      rw [show pre.length + 1 = (pre ++ [v]).length by simp]
      exact ih ks' (pre ++ [v]) h₂ (by simp [hpre]) (hk0.trans (hk.trans hk₂)) (isList_le hla₁ hk₂) (hks'.le (hk.trans hk₂))
    have hdrop : ∀ {s : Shared} {nm : Al}, St w os h₁ ((L, NsO nm) :: (it, LiO la (pre.length + 1)) :: lo ++ lf) (glo ++ glf) s → St w os h₁ ((it, LiO la (pre.length + 1)) :: (L, NsO []) :: lo ++ lf) (glo ++ glf) s :=
      fun hS => ((hS.weak (i := 0) rfl fun o q => NsO.weak q (fun y v e => by cases e)).swap)
    cases hks with
    | other hv hrs =>
      obtain ⟨t, kt, e1, e2⟩ := hv
      refine r_isi (kt.le hk) hS e2 fun s' hS => ?_
      repeat (walk_at "s1")
      intro p
      show Ld prog w P s' ⟨K₁ .next, _, _, _⟩
      rw [hK₁]
      exact hnext _ [] h₁ (Le.refl _) hrs P h₁ lf glf s' g k lv c₁ p₁ st dd u p (Le.refl _) (hdrop hS) hb hd hu hX
    | node hv hrs =>
      obtain ⟨rfl, t, kt, e1, e2⟩ := hv
      refine r_isi (kt.le hk) hS e2 fun s' hS => ?_
      repeat (walk_at "s1")
      intro p
      refine ld_cons fun K₂ hK₂ _ _ => ?_
      refine ld_yield (fs := [.ret k'' none false [] (forC itcS (.ref ga) (itcEnv L)) p'' [], .ret k' none false [] (itcF L) p' []]) hA2 rfl rfl (lg_of ?_)
      repeat (walk_at "s1")
      rintro gs ⟨k₀, l₀, p₀', cl, rfl, hk₀⟩
      refine hX _ h₁ ((it, LiO la (pre.length + 1)) :: (L, NsO []) :: lo) glo _ _ (Le.refl _) rfl (hdrop hS) ⟨.builtin "" {}, .inr ⟨_, _, _, _, _, _, rfl⟩⟩ (gen_susp ?_)
      rw [hk₀, hK₂]
      show Prod prog w os NodeR 120 _ _ _ (K₁ .next) _ _ _
      rw [hK₁]
      exact hnext _ [] h₁ (Le.refl _) hrs
end
end

section
open PySem PySem.W PySem.Calls PyProof.Rows
section
variable {prog : Program} {w : World} {os : OsState} {h₀ : Heap} {L x : Addr}
set_option maxHeartbeats 4000000
theorem itc_loop {ga : Addr} {k' : Result → Sem PySem.Fin} {p' : Pos} (hk' : k' (.ok .next) = leafOf (.ok (.ret .none))) :
    ∀ (ps : List (String × Value)) (ks : List Addr) (h : Heap) (lg : List Cell) (glg : List (Nat × GenState)), KidsP w h ps ks → Own prog w os PairR 60 ps h ga lg glg →
      Prod prog w os NodeR 120 ks h (forC itcS (.ref ga) (itcEnv L)) (denote table (forC itcS (.ref ga) (itcEnv L))) [.ret k' none false [] (itcF L) p' []] (lg ++ [(L, NsO [])]) glg := by
  intro ps
  induction ps with
  | nil =>
    intro ks h lg glg hks hO P h₁ lf glf s g k lv c₁ p₁ st dd u p₀ hk hS hb hd hu hX
    cases hks
    have ha : Amb (itcF L) (.gen g k lv c₁ p₁ :: st) (dd + 1) (u + 3) := hb.amb _
    have hb' : Bel ([.ret k' none false [] (itcF L) p' []] ++ .gen g k lv c₁ p₁ :: st) (dd + 1) (u + 3) := ha.call
    rw [List.append_assoc] at hS
    refine ld_forLoop hb' (lg_pyNext hO hk hS (by omega) (by omega) ?_)
    intro h₂ s' hk₂ hS₂ c p
    refine .of_go (step_leaf_ret (r := .ok .next) ..) ?_
    rw [hk']
    exact fn_exit hX hk₂ (hS₂.sub (List.sublist_cons_self ..))
  | cons pv ps ih =>
    intro ks h lg glg hks hO P h₁ lf glf s g k lv c₁ p₁ st dd u p₀ hk hS hb hd hu hX
    have ha : Amb (itcF L) (.gen g k lv c₁ p₁ :: st) (dd + 1) (u + 3) := hb.amb _
    have hb' : Bel ([.ret k' none false [] (itcF L) p' []] ++ .gen g k lv c₁ p₁ :: st) (dd + 1) (u + 3) := ha.call
    have hA : Amb (forC itcS (.ref ga) (itcEnv L)) ([.ret k' none false [] (itcF L) p' []] ++ .gen g k lv c₁ p₁ :: st) (dd + 1) (u + 3) := hb'.amb _
    rw [List.append_assoc] at hS
    obtain ⟨n, v⟩ := pv
    cases hks with
    | @cons _ _ _ ks₁ ys hv hrs =>
    refine ld_forLoop hb' (lg_pyNext hO hk hS (by omega) (by omega) ?_)
    intro tv h₂ l' gl' s' hk₂ hr hO' hS
    obtain ⟨b, t, rfl, hbt⟩ := hr
    have hkk := hk.trans hk₂
    obtain ⟨gn, gs, lc, glc, hl', hgl', hf', hG'⟩ := id hO'
    refine lg_of ?_
    conv in forT _ => whnf
    refine r_letGen (i := 0) (g := gn) hS (by rw [hl']; rfl) ?_
    replace hS : St w os h₂ ((L, NsO []) :: (l' ++ lf)) (gl' ++ glf) s' := hS.perm (List.perm_middle (l₁ := l') (a := ((L, NsO []) : Cell)) (l₂ := lf)).symm
    refine lg_of (r_unpack2 rfl hS ⟨_, hS.hp.keep _ _ hbt, rfl, _, rfl⟩ fun s' hS => ?_)
    refine wpAny_assign_Name (r_store hS (al' := [("_", some (.str (Str.ofString n) t))]) rfl fun s' hS => ?_)
    refine wpAny_assign_Name (r_store hS (al' := [("_", some (.str (Str.ofString n) t)), ("item", some v)]) rfl fun s' hS => ?_)
    intro p K H hKn hKc
    have hrest : Prod prog w os NodeR 120 ys h₂ (forC itcS (.ref ga) (itcEnv L)) (denote table (forC itcS (.ref ga) (itcEnv L))) [.ret k' none false [] (itcF L) p' []] (l' ++ [(L, NsO [])]) gl' := ih ys h₂ l' gl' (hrs.le hkk) hO'
    have hdrop : ∀ {s : Shared} {nm : Al}, St w os h₂ ((L, NsO nm) :: (l' ++ lf)) (gl' ++ glf) s → St w os h₂ ((l' ++ [(L, NsO [])]) ++ lf) (gl' ++ glf) s := fun hS => by
      have := hS.weak (P' := NsO []) (i := 0) rfl fun o q => NsO.weak q (fun y v e => by cases e)
      exact this.perm (by simpa using (List.perm_middle (l₁ := l') (a := ((L, NsO []) : Cell)) (l₂ := lf)))
    conv in forB _ => whnf
    refine ld_cons fun K₁ hK₁ _ _ => ld_If hA (lg_of ?_)
    repeat (walk_at "s1")
    cases hv with
    | list hla hks₁ =>
      refine r_isi ((kt_list hla).le hkk) hS list_list fun s' hS => ?_
      repeat (walk_at "s1")
      intro p
      refine ld_cons fun K₂ hK₂ _ _ => ld_For hA (lg_of ?_)
      repeat (walk_at "s1")
      refine lg_of (r_iterList hS (isList_le hla hkk) fun it s' hS k'' p hk'' => ?_)
      have hkk'' : k'' (.ok .next) = .pure (.again (forC itcS (.ref ga) (itcEnv L))) := by
        rw [hk'', hK₂]
        show K₁ .next = _
        rw [hK₁]
        exact hKn
      refine itc_inner hkk'' hrest _ _ [] h₂ rfl (Le.refl _) (isList_le hla hkk) (hks₁.le hkk) P h₂ lf glf s' g k lv c₁ p₁ st dd u p (Le.refl _) ?_ hb hd hu (exit_le hX hk₂)
      exact hS.weak (P' := NsO []) (i := 1) rfl fun o q => NsO.weak q (fun y v e => by cases e)
    | node hv =>
      obtain ⟨rfl, t, kt, e1, e2⟩ := hv
      refine r_isi (kt.le hkk) hS e1 fun s' hS => ?_
      repeat (walk_at "s1")
      intro p
      refine ld_cons fun K₂ hK₂ _ _ => ld_If hA (lg_of ?_)
      repeat (walk_at "s1")
      refine r_isi (kt.le hkk) hS e2 fun s' hS => ?_
      repeat (walk_at "s1")
      intro p
      refine ld_cons fun K₃ hK₃ _ _ => ?_
      refine ld_yield (fs := [.ret k' none false [] (itcF L) p' []]) hA rfl rfl (lg_of ?_)
      repeat (walk_at "s1")
      rintro gs' ⟨k₀, l₀, p₀', cl, rfl, hk₀⟩
      refine hX _ h₂ (l' ++ [(L, NsO [])]) gl' _ _ hk₂ rfl (hdrop hS) ⟨.builtin "" {}, .inr ⟨_, _, _, _, _, _, rfl⟩⟩ (gen_susp ?_)
      rw [hk₀, hK₃]
      show Prod prog w os NodeR 120 _ _ _ (K₂ .next) _ _ _
      rw [hK₂]
      show Prod prog w os NodeR 120 _ _ _ (K₁ .next) _ _ _
      rw [hK₁]
      show Prod prog w os NodeR 120 _ _ _ (K .next) _ _ _
      rw [hKn]
      exact prod_again rfl hrest
    | other hv =>
      obtain ⟨t, kt, e1, e2⟩ := hv
      refine r_isi (kt.le hkk) hS e1 fun s' hS => ?_
      repeat (walk_at "s1")
      intro p
      refine ld_cons fun K₂ hK₂ _ _ => ld_If hA (lg_of ?_)
      repeat (walk_at "s1")
      refine r_isi (kt.le hkk) hS e2 fun s' hS => ?_
      repeat (walk_at "s1")
      intro p
      show Ld prog w P s' ⟨K₂ .next, _, _, _⟩
      rw [hK₂]
      show Ld prog w P s' ⟨K₁ .next, _, _, _⟩
      rw [hK₁]
      show Ld prog w P s' ⟨K .next, _, _, _⟩
      rw [hKn]
      exact ld_go rfl (hrest P h₂ lf glf s' g k lv c₁ p₁ st dd u p (Le.refl _) (hdrop hS) hb hd hu (exit_le hX hk₂))
end
end

section
open PySem PySem.W PySem.Calls PyProof.Rows
theorem fn_59 {P : Params} : fnIn (KK P) 59 = true := by kernel_rfl
theorem fn_67 {P : Params} : fnIn (KK P) 67 = true := by kernel_rfl
theorem fn_81 {P : Params} : fnIn (KK P) 81 = true := by kernel_rfl
theorem ty_59 {P : Params} : typeIn (KK P) (.ref 59) = some (.type "function") := by kernel_rfl
theorem ty_67 {P : Params} : typeIn (KK P) (.ref 67) = some (.type "function") := by kernel_rfl
theorem ty_81 {P : Params} : typeIn (KK P) (.ref 81) = some (.type "function") := by kernel_rfl
theorem lk_52 {P : Params} : (KK P).lookup 52 = some (tupO [.none, .none] 0) := by kernel_rfl
theorem lk_60 {P : Params} : (KK P).lookup 60 = some (tupO [.none, .none] 0) := by kernel_rfl
section
variable {prog : Program} {w : World} {os : OsState} {h₀ : Heap} {L x : Addr}
set_option maxHeartbeats 4000000
abbrev itcAl (x : Addr) : Al := [("only", some .none), ("exclude", some .none), ("self", some (.ref x))]
theorem itc_gen {ks : List Addr} (nk : NodeK prog w h₀ x ks) : Gen prog w os NodeR 120 ks h₀ (.fresh (itcF L)) [(L, NsO (itcAl x))] [] := by
  refine gen_fresh ?_
  intro P h₁ lf glf s g k lv c₁ p₁ st dd u p₀ hk hS hb hd hu hX
  obtain ⟨C, ft, names, d, vd, od, f, line, vs, c, a, hok, hf, hks, _, _⟩ := (nk.le hk).e
  refine ld_func fun p K H hK => ?_
  conv in bodOf _ => whnf
  have ha : Amb (itcF L) (.gen g k lv c₁ p₁ :: st) (dd + 1) (u + 3) := hb.amb _
  refine ld_cons fun K' hK' _ _ => ?_
  refine ld_For (d := dd + 1) (u := u + 3) ha (lg_of ?_)
  repeat (walk_at "s1")
  refine r_getMethod c c.itf ty_59 (by decide) a hS fun pm s' hS => ?_
  refine r_callM (m := 59) (x := .ref x) fn_59 ?_
  repeat (walk_at "s1")
  refine ⟨hS.meth (i := 1) rfl, ?_⟩
  refine r_callGen (fd := fd59) (body := bodOf (mth 3 5)) (binds := [(Str.ofString "self", .ref x), (Str.ofString "exclude", .none), (Str.ofString "only", .none)]) (itfAl x []) hS (k59 _) (c59 _) (by show dd + 1 < recursionLimit; simp only [recursionLimit]; omega) rfl (binds_K (K := KK w.params) (T := 52) (hS.bs.K.keeps hS.hp.keep) rfl lk_52 rfl rfl rfl) (by decide +kernel) (locs rfl) (al_cons (al_cons (al_cons al_nil))) (fun ga gn L₂ s' hS => ?_)
  refine lg_of (r_iterGen hS (i := 0) rfl fun k' p hk' => ?_)
  have hO : Own prog w os PairR 60 (names.map fun n => (n, vs n)) h₁ ga [(ga, GenO gn), (L₂, NsO (itfAl x []))] [(gn, .fresh (itfF L₂))] := ⟨gn, _, _, _, rfl, rfl, ⟨_, .inl rfl⟩, itf_gen c a hok vs hf⟩
  refine itc_loop (by rw [hk', hK']; exact hK) _ ks h₁ _ _ hks hO P h₁ lf glf s' g k lv c₁ p₁ st dd u p (Le.refl _) ?_ hb hd hu hX
  replace hS := hS.weak (P' := NsO []) (i := 2) rfl fun o q => NsO.weak q (fun y v e => by cases e)
  exact hS.sub (((((List.Sublist.refl lf).cons _).cons₂ _).cons₂ _).cons₂ _)
end
end

section
open PySem PySem.W PySem.Calls PyProof.Rows
-- forests: the descendants in the order of the walk
inductive Fo (prog : Program) (w : World) (h : Heap) : List Addr → List Addr → Nat → Prop
  | nil {n} : Fo prog w h [] [] n
  | cons {x xs ks ds es n} : NodeK prog w h x ks → Fo prog w h ks ds n → Fo prog w h xs es (n + 1) → Fo prog w h (x :: xs) (x :: (ds ++ es)) (n + 1)
theorem Fo.le {prog : Program} {w : World} {h h' : Heap} (k : Le h h') : ∀ {xs ds : List Addr} {n : Nat}, Fo prog w h xs ds n → Fo prog w h' xs ds n
  | _, _, _, .nil => .nil
  | _, _, _, .cons a b c => .cons (a.le k) (b.le k) (c.le k)
-- what isinstance says of a node
def IsI (w : World) (h : Heap) (nt : Value) (y : Addr) (b : Bool) : Prop := ∃ t, Kt w h (.ref y) t ∧ ((∃ C, nt = .ref C ∧ kitOne (KK w.params) t (.ref C) = some b) ∨
  ∃ tp its n, nt = .ref tp ∧ (KK w.params).lookup tp = some { cls := .type "tuple", data := .seq (List.toArray its) n } ∧ kitAny (KK w.params) t its = some b)
theorem IsI.le {w : World} {h h' : Heap} {nt : Value} {y : Addr} {b : Bool} (x : IsI w h nt y b) (k : Le h h') : IsI w h' nt y b := let ⟨t, a, e⟩ := x; ⟨t, a.le k, e⟩
inductive Out (w : World) (h : Heap) (nt : Value) : List Addr → List Addr → Prop
  | nil : Out w h nt [] []
  | keep {y ds o} : IsI w h nt y true → Out w h nt ds o → Out w h nt (y :: ds) (y :: o)
  | drop {y ds o} : IsI w h nt y false → Out w h nt ds o → Out w h nt (y :: ds) o
theorem Out.le {w : World} {h h' : Heap} {nt : Value} (k : Le h h') : ∀ {ds o : List Addr}, Out w h nt ds o → Out w h' nt ds o
  | _, _, .nil => .nil
  | _, _, .keep a b => .keep (a.le k) (b.le k)
  | _, _, .drop a b => .drop (a.le k) (b.le k)
theorem Out.split {w : World} {h : Heap} {nt : Value} : ∀ {ds es o : List Addr}, Out w h nt (ds ++ es) o → ∃ o₁ o₂, o = o₁ ++ o₂ ∧ Out w h nt ds o₁ ∧ Out w h nt es o₂
  | [], _, o, x => ⟨[], o, rfl, .nil, x⟩
  | y :: ds, es, o, x => by
    cases x with
    | keep a b => obtain ⟨o₁, o₂, rfl, e1, e2⟩ := Out.split b; exact ⟨y :: o₁, o₂, rfl, .keep a e1, e2⟩
    | drop a b => obtain ⟨o₁, o₂, rfl, e1, e2⟩ := Out.split b; exact ⟨o₁, o₂, rfl, .drop a e1, e2⟩
section
variable {prog : Program} {w : World} {os : OsState} {h₀ : Heap} {l : List Cell} {gl : List (Nat × GenState)} {s : Shared} {A : Around} {E : Value → Shared → Prop} {Q : Value → Shared → Prop}
theorem r_isI {nt : Value} {y : Addr} {b : Bool} (k : IsI w h₀ nt y b) (hS : St w os h₀ l gl s) (h : ∀ s', St w os h₀ l gl s' → Q (.bool b) s') : wpAny (model prog w) A (call (.builtin "isinstance") [.ref y, nt]) Q E s := by
  obtain ⟨t, kt, ⟨C, rfl, e⟩ | ⟨tp, its, n, rfl, e0, e⟩⟩ := k
  · exact r_isi kt hS e h
  · exact r_isiT kt hS (hS.old (hS.bs.K _ _ e0)) e h
end
section
variable {prog : Program} {w : World} {P : Shared → Thread → Prop} {d u : Nat} {s : Shared} {c : Code} {p : Pos} {stk : List Frame} {env : Env} {K : Flow → Sem PySem.Fin} {H : Value → Sem PySem.Fin}
theorem ld_yieldFrom {e : Expr} {ypos pos : Pos} (a : Amb c stk d u)
    (h : LG prog w d u (eval e env) (fun v s₁ => ∃ ga, v = .ref ga ∧ s₁.TypeIs (.ref ga) "generator" ∧ LG prog w d u (pyIter (.ref ga)) (fun it s₂ => it = .ref ga ∧
      ∀ k' p, k' (.ok (.ret .none)) = K .next → Ld prog w P s₂ ⟨denote table (yf ga), yf ga, p, .ret k' none false [] c p [] :: stk⟩) no s₁) no s)
    (hi : interactive env = false := by rfl) : Ld prog w P s ⟨(exec (.Expr (.YieldFrom e ypos) pos) env).wrap K H id id, c, p, stk⟩ := by
  rw [exec_Expr env _ pos hi rfl]
  show Ld prog w P s ⟨(standAt pos >>= fun _ => (eval e env >>= fun v => (standAt ypos >>= fun _ => yieldFrom env v)) >>= fun x => dropValue (.YieldFrom e ypos) pos x).wrap K H id id, c, p, _⟩
  refine ld_at ?_
  rw [wrap_bind, wrap_bind]
  refine ld_lg a (lg_mono h (fun v s₁ h₁ p => ?_) fun _ _ y => y)
  obtain ⟨ga, rfl, hty, h₁⟩ := h₁
  refine ld_at ?_
  unfold yieldFrom
  refine ld_bind a (lg_of (wpAny_typeOf hty fun p => ?_))
  rw [if_neg (by decide)]
  refine ld_bind a (lg_holding (lg_mono h₁ (fun it s₂ h₂ p => ?_) fun _ _ y => y))
  obtain ⟨rfl, h₂⟩ := h₂
  show Ld prog w P s₂ ⟨(run (yf ga) >>= _).wrap _ H id id, c, p, stk⟩
  rw [wrap_bind]
  refine .of_go (step_call ..) (h₂ _ _ ?_)
  rfl
end
end

section
open PySem PySem.W PySem.Calls PyProof.Rows
abbrev fdaEnv (L : Addr) : Env := callEnv fd81 L 81
abbrev fdaS : Stmt := fstS (bodOf (mth 3 8))
abbrev fdaF (L : Addr) : Code := .func (bodOf (mth 3 8)) (fdaEnv L)
abbrev fdaAl (x : Addr) (nt : Value) : Al := [("node_type", some nt), ("self", some (.ref x))]
abbrev kdF (n : Nat) : Nat := 160 + 4 * n
section
variable {prog : Program} {w : World} {os : OsState} {h₀ : Heap} {nt : Value}
def FdaAt (prog : Program) (w : World) (os : OsState) (nt : Value) (n : Nat) : Prop := ∀ (x : Addr) (ks ds out : List Addr) (h : Heap) (L : Addr), NodeK prog w h x ks → Fo prog w h ks ds n → Out w h nt ds out →
  Gen prog w os NodeR (kdF n) out h (.fresh (fdaF L)) [(L, NsO (fdaAl x nt))] []
set_option maxHeartbeats 4000000
theorem fda_loop {n : Nat} (IH : ∀ m, m + 1 = n → FdaAt prog w os nt m) {L ga : Addr} {k' : Result → Sem PySem.Fin} {p' : Pos} (hk' : k' (.ok .next) = leafOf (.ok (.ret .none))) :
    ∀ (xs ds out : List Addr) (h : Heap) (lg : List Cell) (glg : List (Nat × GenState)), Fo prog w h xs ds n → Out w h nt ds out → Own prog w os NodeR 120 xs h ga lg glg →
      Prod prog w os NodeR (kdF n) out h (forC fdaS (.ref ga) (fdaEnv L)) (denote table (forC fdaS (.ref ga) (fdaEnv L))) [.ret k' none false [] (fdaF L) p' []] (lg ++ [(L, NsO [("node_type", some nt)])]) glg := by
  intro xs
  induction xs with
  | nil =>
    intro ds out h lg glg hF hOut hO P h₁ lf glf s g k lv c₁ p₁ st dd u p₀ hk hS hb hd hu hX
    cases hF
    cases hOut
    have ha : Amb (fdaF L) (.gen g k lv c₁ p₁ :: st) (dd + 1) (u + 3) := hb.amb _
    have hb' : Bel ([.ret k' none false [] (fdaF L) p' []] ++ .gen g k lv c₁ p₁ :: st) (dd + 1) (u + 3) := ha.call
    rw [List.append_assoc] at hS
    refine ld_forLoop hb' (lg_pyNext hO hk hS (by unfold kdF at *; omega) (by unfold kdF at *; omega) ?_)
    intro h₂ s' hk₂ hS₂ c p
    refine .of_go (step_leaf_ret (r := .ok .next) ..) ?_
    rw [hk']
    exact fn_exit hX hk₂ (hS₂.sub (List.sublist_cons_self ..))
  | cons x xs ih =>
    intro ds out h lg glg hF hOut hO P h₁ lf glf s g k lv c₁ p₁ st dd u p₀ hk hS hb hd hu hX
    have ha : Amb (fdaF L) (.gen g k lv c₁ p₁ :: st) (dd + 1) (u + 3) := hb.amb _
    have hb' : Bel ([.ret k' none false [] (fdaF L) p' []] ++ .gen g k lv c₁ p₁ :: st) (dd + 1) (u + 3) := ha.call
    have hA : Amb (forC fdaS (.ref ga) (fdaEnv L)) ([.ret k' none false [] (fdaF L) p' []] ++ .gen g k lv c₁ p₁ :: st) (dd + 1) (u + 3) := hb'.amb _
    rw [List.append_assoc] at hS
    cases hF with
    | @cons _ _ ks ds₁ es m hnk hF₁ hF₂ =>
    refine ld_forLoop hb' (lg_pyNext hO hk hS (by unfold kdF at *; omega) (by unfold kdF at *; omega) ?_)
    intro tv h₂ l' gl' s' hk₂ hr hO' hS
    cases hr
    have hkk := hk.trans hk₂
    refine lg_pure ?_
    replace hS : St w os h₂ ((L, NsO [("node_type", some nt)]) :: (l' ++ lf)) (gl' ++ glf) s' := hS.perm (List.perm_middle (l₁ := l') (a := ((L, NsO [("node_type", some nt)]) : Cell)) (l₂ := lf)).symm
    refine lg_of (wpAny_assign_Name (r_store hS (al' := [("node_type", some nt), ("child", some (.ref x))]) rfl fun s' hS p K H hKn hKc => ?_))
    conv in forB _ => whnf
    refine ld_cons fun K₁ hK₁ _ _ => ld_If hA (lg_of ?_)
    repeat (walk_at "s1")
    -- the rest of the body: yield from
    have hYF : ∀ (o₁ o₂ : List Addr), Out w h nt ds₁ o₁ → Out w h nt es o₂ → Prod prog w os NodeR (kdF (m + 1)) (o₁ ++ o₂) h₂ (forC fdaS (.ref ga) (fdaEnv L)) (K₁ .next) [.ret k' none false [] (fdaF L) p' []]
        (l' ++ [(L, NsO [("node_type", some nt), ("child", some (.ref x))])]) gl' := by
      intro o₁ o₂ ho₁ ho₂ P h₃ lf glf s g k lv c₁ p₁ st dd u p₀ hk₃ hS hb hd hu hX
      have ha : Amb (fdaF L) (.gen g k lv c₁ p₁ :: st) (dd + 1) (u + 3) := hb.amb _
      have hb' : Bel ([.ret k' none false [] (fdaF L) p' []] ++ .gen g k lv c₁ p₁ :: st) (dd + 1) (u + 3) := ha.call
      have hA : Amb (forC fdaS (.ref ga) (fdaEnv L)) ([.ret k' none false [] (fdaF L) p' []] ++ .gen g k lv c₁ p₁ :: st) (dd + 1) (u + 3) := hb'.amb _
      rw [List.append_assoc] at hS
      replace hS : St w os h₃ ((L, NsO [("node_type", some nt), ("child", some (.ref x))]) :: (l' ++ lf)) (gl' ++ glf) s := hS.perm (List.perm_middle (l₁ := l') (a := ((L, NsO [("node_type", some nt), ("child", some (.ref x))]) : Cell)) (l₂ := lf)).symm
      have hk3 := hkk.trans hk₃
      rw [hK₁]
      refine ld_cons fun K₂ hK₂ _ _ => ld_yieldFrom hA (lg_of ?_)
      repeat (walk_at "s1")
      obtain ⟨C, ft, names, d, vd, od, f, line, vs, c, a, hok, hf, hks, _, _⟩ := (hnk.le hk3).e
      refine r_getMethod c c.fda ty_81 (by decide) a hS fun pm s' hS => ?_
      refine r_callM (m := 81) (x := .ref x) fn_81 ?_
      repeat (walk_at "s1")
      refine ⟨hS.meth (i := 1) rfl, ?_⟩
      refine r_callGen (fd := fd81) (body := bodOf (mth 3 8)) (binds := [(Str.ofString "self", .ref x), (Str.ofString "node_type", nt)]) (fdaAl x nt) hS (k81 _) (c81 _) (by show dd + 1 < recursionLimit; simp only [recursionLimit]; omega) rfl (BindsTo.of_eq rfl) (by decide +kernel) (locs rfl) (al_cons (al_cons al_nil)) (fun ga₂ gn L₂ s' hS => ?_)
      have hty : s'.TypeIs (.ref ga₂) "generator" := let ⟨nm, qn, sl, ho, _⟩ := hS.genO (i := 0) rfl; ⟨_, ho, rfl⟩
      refine ⟨ga₂, rfl, hty, lg_of (r_iterGen hS (i := 0) rfl ⟨rfl, fun k₂ p hk₂' => ?_⟩)⟩
      have hO₂ : Own prog w os NodeR (kdF m) o₁ h₃ ga₂ [(ga₂, GenO gn), (L₂, NsO (fdaAl x nt))] [(gn, .fresh (fdaF L₂))] := ⟨gn, _, _, _, rfl, rfl, ⟨_, .inl rfl⟩, IH m rfl x ks ds₁ o₁ h₃ L₂ (hnk.le hk3) (hF₁.le hk3) (ho₁.le hk3)⟩
      have hrest : Prod prog w os NodeR (kdF (m + 1)) o₂ h₃ (forC fdaS (.ref ga) (fdaEnv L)) (k₂ (.ok (.ret .none))) [.ret k' none false [] (fdaF L) p' []] (l' ++ [(L, NsO [("node_type", some nt)])]) gl' := by
        rw [hk₂', hK₂]
        show Prod prog w os NodeR _ _ _ _ (K .next) _ _ _
        rw [hKn]
        exact prod_again rfl (ih es o₂ h₃ l' gl' (hF₂.le hk3) (ho₂.le hk3) (own_le hO' hk₃))
      refine yf_prod (D := 1) (U := 3) (kd' := kdF m) (fun d u stk hB => ?_) rfl rfl (by unfold kdF; omega) (by unfold kdF; omega) hrest o₁ h₃ _ _ (Le.refl _) hO₂ P h₃ lf glf s' g k lv c₁ p₁ st dd u p (Le.refl _) ?_ hb hd hu hX
      · have h1 : Amb (fdaF L) stk (d + 1) (u + 3) := hB.amb _
        have h2 : Bel (.ret k' none false [] (fdaF L) p' [] :: stk) (d + 1) (u + 3) := h1.call
        have h3 : Amb (forC fdaS (.ref ga) (fdaEnv L)) (.ret k' none false [] (fdaF L) p' [] :: stk) (d + 1) (u + 3) := h2.amb _
        exact h3.call
      · replace hS := hS.weak (P' := NsO [("node_type", some nt)]) (i := 2) rfl fun o q => NsO.weak q (fun y v e => by
          simp only [getV] at e ⊢
          split at e <;> simp_all)
        have h5 : St w os h₃ ((ga₂, GenO gn) :: (L₂, NsO (fdaAl x nt)) :: (L, NsO [("node_type", some nt)]) :: (l' ++ lf)) ((gn, .fresh (fdaF L₂)) :: (gl' ++ glf)) s' := hS.sub (((((List.Sublist.refl (l' ++ lf)).cons _).cons₂ _).cons₂ _).cons₂ _)
        refine (h5.perm ?_)
        have := (List.perm_middle (l₁ := l') (a := ((L, NsO [("node_type", some nt)]) : Cell)) (l₂ := lf))
        simpa using this
    have hsw : ∀ {s : Shared}, St w os h₂ ((L, NsO [("node_type", some nt), ("child", some (.ref x))]) :: (l' ++ lf)) (gl' ++ glf) s → St w os h₂ ((l' ++ [(L, NsO [("node_type", some nt), ("child", some (.ref x))])]) ++ lf) (gl' ++ glf) s := fun hS =>
      hS.perm (by simpa using (List.perm_middle (l₁ := l') (a := ((L, NsO [("node_type", some nt), ("child", some (.ref x))]) : Cell)) (l₂ := lf)))
    cases hOut with
    | keep hi hrs =>
      obtain ⟨o₁, o₂, rfl, ho₁, ho₂⟩ := hrs.split
      refine r_isI (hi.le hkk) hS fun s' hS => ?_
      repeat (walk_at "s1")
      intro p
      refine ld_cons fun K₂ hK₂ _ _ => ?_
      refine ld_yield (fs := [.ret k' none false [] (fdaF L) p' []]) hA rfl rfl (lg_of ?_)
      repeat (walk_at "s1")
      rintro gs' ⟨k₀, l₀, p₀', cl, rfl, hk₀⟩
      refine hX _ h₂ (l' ++ [(L, NsO [("node_type", some nt), ("child", some (.ref x))])]) gl' _ _ hk₂ rfl (hsw hS) ⟨.builtin "" {}, .inr ⟨_, _, _, _, _, _, rfl⟩⟩ (gen_susp ?_)
      rw [hk₀, hK₂]
      exact hYF o₁ o₂ (ho₁) (ho₂)
    | drop hi hrs =>
      obtain ⟨o₁, o₂, rfl, ho₁, ho₂⟩ := hrs.split
      refine r_isI (hi.le hkk) hS fun s' hS => ?_
      repeat (walk_at "s1")
      intro p
      show Ld prog w P s' ⟨K₁ .next, _, _, _⟩
      exact hYF o₁ o₂ ho₁ ho₂ P h₂ lf glf s' g k lv c₁ p₁ st dd u p (Le.refl _) (hsw hS) hb hd hu (exit_le hX hk₂)
theorem fda_gen : ∀ n, FdaAt prog w os nt n := by
  intro n
  induction n using Nat.strongRecOn with
  | ind n IH =>
  intro x ks ds out h L nk hF hOut
  refine gen_fresh ?_
  intro P h₁ lf glf s g k lv c₁ p₁ st dd u p₀ hk hS hb hd hu hX
  obtain ⟨C, ft, names, d, vd, od, f, line, vs, c, a, hok, hf, hks, _, _⟩ := (nk.le hk).e
  refine ld_func fun p K H hK => ?_
  conv in bodOf _ => whnf
  have ha : Amb (fdaF L) (.gen g k lv c₁ p₁ :: st) (dd + 1) (u + 3) := hb.amb _
  refine ld_cons fun K' hK' _ _ => ?_
  refine ld_For (d := dd + 1) (u := u + 3) ha (lg_of ?_)
  repeat (walk_at "s1")
  refine r_getMethod c c.itc ty_67 (by decide) a hS fun pm s' hS => ?_
  refine r_callM0 (m := 67) (x := x) hS (i := 1) rfl fn_67 ?_
  refine r_callGen (fd := fd67) (body := bodOf (mth 3 6)) (binds := [(Str.ofString "self", .ref x), (Str.ofString "exclude", .none), (Str.ofString "only", .none)]) (itcAl x) hS (k67 _) (c67 _) (by show dd + 1 < recursionLimit; simp only [recursionLimit]; unfold kdF at hd; omega) rfl (binds_K (K := KK w.params) (T := 60) (hS.bs.K.keeps hS.hp.keep) rfl lk_60 rfl rfl rfl) (by decide +kernel) (locs rfl) (al_cons (al_cons (al_cons al_nil))) (fun ga gn L₂ s' hS => ?_)
  refine lg_of (r_iterGen hS (i := 0) rfl fun k' p hk' => ?_)
  have hO : Own prog w os NodeR 120 ks h₁ ga [(ga, GenO gn), (L₂, NsO (itcAl x))] [(gn, .fresh (itcF L₂))] := ⟨gn, _, _, _, rfl, rfl, ⟨_, .inl rfl⟩, itc_gen (nk.le hk)⟩
  refine fda_loop (fun m hm => IH m (by omega)) (by rw [hk', hK']; exact hK) ks ds out h₁ _ _ (hF.le hk) (hOut.le hk) hO P h₁ lf glf s' g k lv c₁ p₁ st dd u p (Le.refl _) ?_ hb hd hu hX
  replace hS := hS.weak (P' := NsO [("node_type", some nt)]) (i := 2) rfl fun o q => NsO.weak q (fun y v e => by
    simp only [getV] at e ⊢
    split at e <;> simp_all)
  exact hS.sub (((((List.Sublist.refl lf).cons _).cons₂ _).cons₂ _).cons₂ _)
end
end

section
open PySem PySem.W PySem.Calls PyProof.Rows
def sAt (i : Nat) (b : List Stmt) : Stmt := b.getD i (.Pass default)
def ifE : Stmt → List Stmt | .If _ _ e _ => e | _ => []
def NodeT (prog : Program) (w : World) (h : Heap) (x C : Addr) : Prop := ∃ (ft : Addr) (names : List String) (d vd : Addr) (od : Obj) (f : Str → Option Value) (line : Value), Cl w.params C ft names ∧ NodeAt prog w h x C d vd od f line
def FieldAt (prog : Program) (w : World) (h : Heap) (x : Addr) (n : String) (v : Value) : Prop := ∃ (C ft : Addr) (names : List String) (d vd : Addr) (od : Obj) (f : Str → Option Value) (line : Value), Cl w.params C ft names ∧ NodeAt prog w h x C d vd od f line ∧ n ∈ names ∧ f (Str.ofString n) = some v ∧ handedIn v = true
theorem NodeT.le {prog : Program} {w : World} {h h' : Heap} {x C : Addr} (a : NodeT prog w h x C) (k : Le h h') : NodeT prog w h' x C := let ⟨ft, names, d, vd, od, f, line, c, n⟩ := a; ⟨ft, names, d, vd, od, f, line, c, n.le k⟩
theorem FieldAt.le {prog : Program} {w : World} {h h' : Heap} {x : Addr} {n : String} {v : Value} (a : FieldAt prog w h x n v) (k : Le h h') : FieldAt prog w h' x n v := let ⟨C, ft, names, d, vd, od, f, line, c, m, r⟩ := a; ⟨C, ft, names, d, vd, od, f, line, c, m.le k, r⟩
theorem NodeT.kt {prog : Program} {w : World} {h : Heap} {x C : Addr} (a : NodeT prog w h x C) : Kt w h (.ref x) (.ref C) := let ⟨_, _, _, _, _, _, _, c, n⟩ := a; kt_node c n
def TextR (_ : Heap) (v : Value) : Option Str → Prop
  | none => v = .none
  | some x => ∃ t, v = .str x t
-- texts of an item of a Tuple or a List
inductive ItemsT (prog : Program) (w : World) (h : Heap) : List Value → List (Option Str) → Prop
  | nil : ItemsT prog w h [] []
  | text {x n t vs o} : NodeT prog w h x 374 → FieldAt prog w h x "value" (.str n t) → ItemsT prog w h vs o → ItemsT prog w h (.ref x :: vs) (some n :: o)
  | mute {x u t vs o} : NodeT prog w h x 374 → FieldAt prog w h x "value" u → Kt w h u t → kitOne (KK w.params) t (.type "str") = some false → ItemsT prog w h vs o → ItemsT prog w h (.ref x :: vs) o
  | other {x C vs o} : NodeT prog w h x C → kitOne (KK w.params) (.ref C) (.ref 374) = some false → ItemsT prog w h vs o → ItemsT prog w h (.ref x :: vs) (none :: o)
theorem ItemsT.le {prog : Program} {w : World} {h h' : Heap} (k : Le h h') : ∀ {vs : List Value} {o : List (Option Str)}, ItemsT prog w h vs o → ItemsT prog w h' vs o
  | _, _, .nil => .nil
  | _, _, .text a b c => .text (a.le k) (b.le k) (c.le k)
  | _, _, .mute a b c d e => .mute (a.le k) (b.le k) (c.le k) d (e.le k)
  | _, _, .other a b c => .other (a.le k) b (c.le k)
inductive EltsT (w : World) (h : Heap) : List Value → List (Option Str) → Prop
  | nil : EltsT w h [] []
  | text {n t vs o} : EltsT w h vs o → EltsT w h (.str n t :: vs) (some n :: o)
  | mute {u t vs o} : Kt w h u t → kitOne (KK w.params) t (.type "str") = some false → EltsT w h vs o → EltsT w h (u :: vs) o
theorem EltsT.le {w : World} {h h' : Heap} (k : Le h h') : ∀ {vs : List Value} {o : List (Option Str)}, EltsT w h vs o → EltsT w h' vs o
  | _, _, .nil => .nil
  | _, _, .text c => .text (c.le k)
  | _, _, .mute c d e => .mute (c.le k) d (e.le k)
-- a list or a tuple
def SeqAt2 (b : Bool) (h : Heap) (a : Addr) (vs : List Value) : Prop := if b = true then h.IsList a vs.toArray else h.IsTuple a vs.toArray
def SiO (b : Bool) (a : Addr) (i : Nat) : Obj → Prop := if b = true then LiO a i else TiO a i
theorem SeqAt2.le {b : Bool} {h h' : Heap} {a : Addr} {vs : List Value} (x : SeqAt2 b h a vs) (k : Le h h') : SeqAt2 b h' a vs := by
  cases b with
  | true => exact isList_le x k
  | false => exact isTuple_le x k
inductive RefT (prog : Program) (w : World) (h : Heap) (inc : Bool) : Addr → List (Option Str) → Prop
  | items {tm C la vs o} : NodeT prog w h tm C → kitOne (KK w.params) (.ref C) (.ref 374) = some false → kitAny (KK w.params) (.ref C) [.ref 402, .ref 423] = some true → FieldAt prog w h tm "items" (.ref la) → h.IsList la (List.toArray vs) → ItemsT prog w h vs o → RefT prog w h inc tm o
  | none {tm C} : NodeT prog w h tm C → kitOne (KK w.params) (.ref C) (.ref 374) = some false → kitAny (KK w.params) (.ref C) [.ref 402, .ref 423] = some false → RefT prog w h inc tm [none]
  | text {tm n t} : NodeT prog w h tm 374 → FieldAt prog w h tm "value" (.str n t) → RefT prog w h inc tm [some n]
  | row {tm a b vs o} : inc = true → NodeT prog w h tm 374 → FieldAt prog w h tm "value" (.ref a) → SeqAt2 b h a vs → EltsT w h vs o → RefT prog w h inc tm o
  | mute {tm u t} : NodeT prog w h tm 374 → FieldAt prog w h tm "value" u → Kt w h u t → kitOne (KK w.params) t (.type "str") = some false → (inc = false ∨ kitAny (KK w.params) t [.type "tuple", .type "list"] = some false) → RefT prog w h inc tm [none]
theorem RefT.le {prog : Program} {w : World} {h h' : Heap} (k : Le h h') {inc : Bool} {tm : Addr} {o : List (Option Str)} : RefT prog w h inc tm o → RefT prog w h' inc tm o
  | .items a b c d e f => .items (a.le k) b c (d.le k) (isList_le e k) (f.le k)
  | .none a b c => .none (a.le k) b c
  | .text a b => .text (a.le k) (b.le k)
  | .row a b c d e => .row a (b.le k) (c.le k) (d.le k) (e.le k)
  | .mute a b c d e => .mute (a.le k) (b.le k) (c.le k) d e
structure RefAt (prog : Program) (w : World) (h : Heap) (y : Addr) (o : List (Option Str)) : Prop where
  e : ∃ C tm inc, NodeT prog w h y C ∧ FieldAt prog w h y "template" (.ref tm) ∧ kitOne (KK w.params) (.ref C) (.ref 257) = some inc ∧ RefT prog w h inc tm o
theorem RefAt.le {prog : Program} {w : World} {h h' : Heap} {y : Addr} {o : List (Option Str)} (x : RefAt prog w h y o) (k : Le h h') : RefAt prog w h' y o := let ⟨C, tm, inc, a, b, c, d⟩ := x.e; ⟨C, tm, inc, a.le k, b.le k, c, d.le k⟩
inductive RefsL (prog : Program) (w : World) (h : Heap) : List Addr → List (Option Str) → Prop
  | nil : RefsL prog w h [] []
  | cons {y ys o r} : RefAt prog w h y o → RefsL prog w h ys r → RefsL prog w h (y :: ys) (o ++ r)
theorem RefsL.le {prog : Program} {w : World} {h h' : Heap} (k : Le h h') : ∀ {ys : List Addr} {o : List (Option Str)}, RefsL prog w h ys o → RefsL prog w h' ys o
  | _, _, .nil => .nil
  | _, _, .cons a b => .cons (a.le k) (b.le k)
section
variable {prog : Program} {w : World} {os : OsState} {h₀ : Heap} {l : List Cell} {gl : List (Nat × GenState)} {s : Shared} {A : Around} {E : Value → Shared → Prop}
theorem r_fieldAt {x : Addr} {n : String} {v : Value} {expr : Bool} {Q : Value → Shared → Prop} (a : FieldAt prog w h₀ x n v) (hS : St w os h₀ l gl s) (hd : A.depth < 890) (h : ∀ s', St w os h₀ l gl s' → Q v s') : wpAny (model prog w) A (getAttr (.ref x) (Str.ofString n) expr) Q E s :=
  let ⟨_, _, _, _, _, _, _, _, c, m, hn, hf, hh⟩ := a
  r_getField c hn m hS hd hf hh h
theorem r_iterSeq {b : Bool} {t : Addr} {vs : List Value} {Q : Value → Shared → Prop} (hS : St w os h₀ l gl s) (ht : SeqAt2 b h₀ t vs) (h : ∀ it s', St w os h₀ ((it, SiO b t 0) :: l) gl s' → Q (.ref it) s') : wpAny (model prog w) A (pyIter (.ref t)) Q E s := by
  cases b with
  | true => exact r_iterList hS ht h
  | false => exact r_iterTuple hS ht h
theorem r_nextSeq {b : Bool} {it t : Addr} {k : Nat} {vs : List Value} {Q : Option Value → Shared → Prop} (hh : A.handled = none) (hS : St w os h₀ ((it, SiO b t k) :: l) gl s) (ht : SeqAt2 b h₀ t vs)
    (h : match vs[k]? with | some x => ∀ s', St w os h₀ ((it, SiO b t (k + 1)) :: l) gl s' → Q (some x) s' | none => ∀ s', St w os h₀ l gl s' → Q none s') : wpAny (model prog w) A (pyNext (.ref it)) Q E s := by
  cases b with
  | true => exact r_nextList hh hS ht (by rw [List.getElem?_toArray]; exact h)
  | false => exact r_nextTuple hh hS ht (by rw [List.getElem?_toArray]; exact h)
end
end

section
open PySem PySem.W PySem.Calls PyProof.Rows
abbrev frtEnv (L : Addr) : Env := callEnv fd497 L 497
abbrev frtS : Stmt := sAt 1 (bodOf (stm 30))
abbrev frtF (L : Addr) : Code := .func (bodOf (stm 30)) (frtEnv L)
abbrev frtI1 : Stmt := fstS (ifB (fstS (ifB (sAt 1 (forB frtS)))))
abbrev frtI2 : Stmt := fstS (ifB (fstS (ifE (sAt 2 (forB frtS)))))
theorem str_str {P : Params} : kitOne (KK P) (.type "str") (.type "str") = some true := by kernel_rfl
theorem cst_cst {P : Params} : kitOne (KK P) (.ref 374) (.ref 374) = some true := by kernel_rfl
section
variable {prog : Program} {w : World} {os : OsState} {h₀ : Heap} {L : Addr} {kd : Nat}
set_option maxHeartbeats 4000000
theorem frt_in1 (hkd : 100 ≤ kd) {it la ga : Addr} {lo : List Cell} {glo : List (Nat × GenState)} {vs₀ : List Value} {k' k'' : Result → Sem PySem.Fin} {p' p'' : Pos} {ys : List (Option Str)}
    (hrest : Prod prog w os TextR kd ys h₀ (forC frtS (.ref ga) (frtEnv L)) (k'' (.ok .next)) [.ret k' none false [] (frtF L) p' []] (lo ++ [(L, NsO [])]) glo) :
    ∀ (rest : List Value) (o : List (Option Str)) (pre : List Value) (h : Heap), vs₀ = pre ++ rest → Le h₀ h → h.IsList la vs₀.toArray → ItemsT prog w h rest o →
      Prod prog w os TextR kd (o ++ ys) h (forC frtI1 (.ref it) (frtEnv L)) (denote table (forC frtI1 (.ref it) (frtEnv L))) [.ret k'' none false [] (forC frtS (.ref ga) (frtEnv L)) p'' [], .ret k' none false [] (frtF L) p' []]
        ((it, LiO la pre.length) :: (L, NsO []) :: lo) glo := by
  intro rest
  induction rest with
  | nil =>
    intro o pre h hpre hk0 hla hks P h₁ lf glf s g k lv c₁ p₁ st dd u p₀ hk hS hb hd hu hX
    cases hks
    have ha : Amb (frtF L) (.gen g k lv c₁ p₁ :: st) (dd + 1) (u + 3) := hb.amb _
    have hb' : Bel ([.ret k' none false [] (frtF L) p' []] ++ .gen g k lv c₁ p₁ :: st) (dd + 1) (u + 3) := ha.call
    have hA : Amb (forC frtS (.ref ga) (frtEnv L)) ([.ret k' none false [] (frtF L) p' []] ++ .gen g k lv c₁ p₁ :: st) (dd + 1) (u + 3) := hb'.amb _
    have hb2 : Bel ([.ret k'' none false [] (forC frtS (.ref ga) (frtEnv L)) p'' [], .ret k' none false [] (frtF L) p' []] ++ .gen g k lv c₁ p₁ :: st) (dd + 1) (u + 3) := hA.call
    refine ld_forLoop hb2 (lg_of (r_nextList rfl hS (isList_le hla hk) ?_))
    rw [show vs₀.toArray[pre.length]? = none by simp [hpre]]
    intro s' hS c p
    refine .of_go (step_leaf_ret (r := .ok .next) ..) ?_
    exact hrest P h₁ lf glf s' g k lv c₁ p₁ st dd u p'' (hk0.trans hk) (hS.perm (by simpa using (List.perm_middle (l₁ := lo) (a := ((L, NsO []) : Cell)) (l₂ := lf)))) hb hd hu hX
  | cons v rest ih =>
    intro o pre h hpre hk0 hla hks P h₁ lf glf s g k lv c₁ p₁ st dd u p₀ hk hS hb hd hu hX
    have ha : Amb (frtF L) (.gen g k lv c₁ p₁ :: st) (dd + 1) (u + 3) := hb.amb _
    have hb' : Bel ([.ret k' none false [] (frtF L) p' []] ++ .gen g k lv c₁ p₁ :: st) (dd + 1) (u + 3) := ha.call
    have hA : Amb (forC frtS (.ref ga) (frtEnv L)) ([.ret k' none false [] (frtF L) p' []] ++ .gen g k lv c₁ p₁ :: st) (dd + 1) (u + 3) := hb'.amb _
    have hb2 : Bel ([.ret k'' none false [] (forC frtS (.ref ga) (frtEnv L)) p'' [], .ret k' none false [] (frtF L) p' []] ++ .gen g k lv c₁ p₁ :: st) (dd + 1) (u + 3) := hA.call
    have hA2 : Amb (forC frtI1 (.ref it) (frtEnv L)) ([.ret k'' none false [] (forC frtS (.ref ga) (frtEnv L)) p'' [], .ret k' none false [] (frtF L) p' []] ++ .gen g k lv c₁ p₁ :: st) (dd + 1) (u + 3) := hb2.amb _
    have hla₁ := isList_le hla hk
    refine ld_forLoop hb2 (lg_of (r_nextList rfl hS hla₁ ?_))
    rw [show vs₀.toArray[pre.length]? = some v by simp [hpre]]
    intro s' hS
    refine lg_pure ?_
    replace hS := hS.swap
    refine lg_of (wpAny_assign_Name (r_store hS (al' := [("template_name", some v)]) rfl fun s' hS p K H hKn hKc => ?_))
    conv in forB _ => whnf
    refine ld_cons fun K₁ hK₁ _ _ => ld_If hA2 (lg_of ?_)
    repeat (walk_at "s1")
    have hnext : ∀ (o' : List (Option Str)) (h₂ : Heap), Le h₁ h₂ → ItemsT prog w h rest o' → Prod prog w os TextR kd (o' ++ ys) h₂ (forC frtI1 (.ref it) (frtEnv L)) (K₁ .next) [.ret k'' none false [] (forC frtS (.ref ga) (frtEnv L)) p'' [], .ret k' none false [] (frtF L) p' []]
        ((it, LiO la (pre.length + 1)) :: (L, NsO []) :: lo) glo := by
      intro o' h₂ hk₂ hks'
      rw [hK₁]
      show Prod prog w os TextR kd _ _ _ (K .next) _ _ _
      rw [hKn]
      refine prod_again rfl ?_
      rw [show pre.length + 1 = (pre ++ [v]).length by simp]
      exact ih o' (pre ++ [v]) h₂ (by simp [hpre]) (hk0.trans (hk.trans hk₂)) (isList_le hla₁ hk₂) (hks'.le (hk.trans hk₂))
    have hdrop : ∀ {s : Shared} {nm : Al}, St w os h₁ ((L, NsO nm) :: (it, LiO la (pre.length + 1)) :: lo ++ lf) (glo ++ glf) s → St w os h₁ ((it, LiO la (pre.length + 1)) :: (L, NsO []) :: lo ++ lf) (glo ++ glf) s :=
      fun hS => ((hS.weak (i := 0) rfl fun o q => NsO.weak q (fun y v e => by cases e)).swap)
    cases hks with
    | text hn hf hrs =>
      refine r_isi (hn.kt.le hk) hS cst_cst fun s' hS => ?_
      repeat (walk_at "s1")
      intro p
      refine ld_cons fun K₂ hK₂ _ _ => ld_If hA2 (lg_of ?_)
      repeat (walk_at "s1")
      refine r_fieldAt (hf.le hk) hS (by show dd + 1 < 890; omega) fun s' hS => ?_
      repeat (walk_at "s1")
      refine r_isi kt_str hS str_str fun s' hS => ?_
      repeat (walk_at "s1")
      intro p
      refine ld_cons fun K₃ hK₃ _ _ => ?_
      refine ld_yield (fs := [.ret k'' none false [] (forC frtS (.ref ga) (frtEnv L)) p'' [], .ret k' none false [] (frtF L) p' []]) hA2 rfl rfl (lg_of ?_)
      repeat (walk_at "s1")
      refine r_fieldAt (hf.le hk) hS (by show dd + 1 < 890; omega) fun s' hS => ?_
      rintro gs ⟨k₀, l₀, p₀', cl, rfl, hk₀⟩
      refine hX _ h₁ ((it, LiO la (pre.length + 1)) :: (L, NsO []) :: lo) glo _ _ (Le.refl _) ⟨_, rfl⟩ (hdrop hS) ⟨.builtin "" {}, .inr ⟨_, _, _, _, _, _, rfl⟩⟩ (gen_susp ?_)
      rw [hk₀, hK₃]
      show Prod prog w os TextR kd _ _ _ (K₂ .next) _ _ _
      rw [hK₂]
      exact hnext _ h₁ (Le.refl _) hrs
    | mute hn hf hkt hke hrs =>
      refine r_isi (hn.kt.le hk) hS cst_cst fun s' hS => ?_
      repeat (walk_at "s1")
      intro p
      refine ld_cons fun K₂ hK₂ _ _ => ld_If hA2 (lg_of ?_)
      repeat (walk_at "s1")
      refine r_fieldAt (hf.le hk) hS (by show dd + 1 < 890; omega) fun s' hS => ?_
      repeat (walk_at "s1")
      refine r_isi (hkt.le hk) hS hke fun s' hS => ?_
      repeat (walk_at "s1")
      intro p
      show Ld prog w P s' ⟨K₂ .next, _, _, _⟩
      rw [hK₂]
      exact hnext _ h₁ (Le.refl _) hrs P h₁ lf glf s' g k lv c₁ p₁ st dd u p (Le.refl _) (hdrop hS) hb hd hu hX
    | other hn hke hrs =>
      refine r_isi (hn.kt.le hk) hS hke fun s' hS => ?_
      repeat (walk_at "s1")
      intro p
      refine ld_cons fun K₂ hK₂ _ _ => ?_
      refine ld_yield (fs := [.ret k'' none false [] (forC frtS (.ref ga) (frtEnv L)) p'' [], .ret k' none false [] (frtF L) p' []]) hA2 rfl rfl (lg_of ?_)
      repeat (walk_at "s1")
      rintro gs ⟨k₀, l₀, p₀', cl, rfl, hk₀⟩
      refine hX _ h₁ ((it, LiO la (pre.length + 1)) :: (L, NsO []) :: lo) glo _ _ (Le.refl _) rfl (hdrop hS) ⟨.builtin "" {}, .inr ⟨_, _, _, _, _, _, rfl⟩⟩ (gen_susp ?_)
      rw [hk₀, hK₂]
      exact hnext _ h₁ (Le.refl _) hrs
theorem frt_in2 (hkd : 100 ≤ kd) {it la ga : Addr} {b : Bool} {lo : List Cell} {glo : List (Nat × GenState)} {vs₀ : List Value} {k' k'' : Result → Sem PySem.Fin} {p' p'' : Pos} {ys : List (Option Str)}
    (hrest : Prod prog w os TextR kd ys h₀ (forC frtS (.ref ga) (frtEnv L)) (k'' (.ok .next)) [.ret k' none false [] (frtF L) p' []] (lo ++ [(L, NsO [])]) glo) :
    ∀ (rest : List Value) (o : List (Option Str)) (pre : List Value) (h : Heap), vs₀ = pre ++ rest → Le h₀ h → SeqAt2 b h la vs₀ → EltsT w h rest o →
      Prod prog w os TextR kd (o ++ ys) h (forC frtI2 (.ref it) (frtEnv L)) (denote table (forC frtI2 (.ref it) (frtEnv L))) [.ret k'' none false [] (forC frtS (.ref ga) (frtEnv L)) p'' [], .ret k' none false [] (frtF L) p' []]
        ((it, SiO b la pre.length) :: (L, NsO []) :: lo) glo := by
  intro rest
  induction rest with
  | nil =>
    intro o pre h hpre hk0 hla hks P h₁ lf glf s g k lv c₁ p₁ st dd u p₀ hk hS hb hd hu hX
    cases hks
    have ha : Amb (frtF L) (.gen g k lv c₁ p₁ :: st) (dd + 1) (u + 3) := hb.amb _
    have hb' : Bel ([.ret k' none false [] (frtF L) p' []] ++ .gen g k lv c₁ p₁ :: st) (dd + 1) (u + 3) := ha.call
    have hA : Amb (forC frtS (.ref ga) (frtEnv L)) ([.ret k' none false [] (frtF L) p' []] ++ .gen g k lv c₁ p₁ :: st) (dd + 1) (u + 3) := hb'.amb _
    have hb2 : Bel ([.ret k'' none false [] (forC frtS (.ref ga) (frtEnv L)) p'' [], .ret k' none false [] (frtF L) p' []] ++ .gen g k lv c₁ p₁ :: st) (dd + 1) (u + 3) := hA.call
    refine ld_forLoop hb2 (lg_of (r_nextSeq rfl hS (hla.le hk) ?_))
    rw [show vs₀[pre.length]? = none by simp [hpre]]
    intro s' hS c p
    refine .of_go (step_leaf_ret (r := .ok .next) ..) ?_
    exact hrest P h₁ lf glf s' g k lv c₁ p₁ st dd u p'' (hk0.trans hk) (hS.perm (by simpa using (List.perm_middle (l₁ := lo) (a := ((L, NsO []) : Cell)) (l₂ := lf)))) hb hd hu hX
  | cons v rest ih =>
    intro o pre h hpre hk0 hla hks P h₁ lf glf s g k lv c₁ p₁ st dd u p₀ hk hS hb hd hu hX
    have ha : Amb (frtF L) (.gen g k lv c₁ p₁ :: st) (dd + 1) (u + 3) := hb.amb _
    have hb' : Bel ([.ret k' none false [] (frtF L) p' []] ++ .gen g k lv c₁ p₁ :: st) (dd + 1) (u + 3) := ha.call
    have hA : Amb (forC frtS (.ref ga) (frtEnv L)) ([.ret k' none false [] (frtF L) p' []] ++ .gen g k lv c₁ p₁ :: st) (dd + 1) (u + 3) := hb'.amb _
    have hb2 : Bel ([.ret k'' none false [] (forC frtS (.ref ga) (frtEnv L)) p'' [], .ret k' none false [] (frtF L) p' []] ++ .gen g k lv c₁ p₁ :: st) (dd + 1) (u + 3) := hA.call
    have hA2 : Amb (forC frtI2 (.ref it) (frtEnv L)) ([.ret k'' none false [] (forC frtS (.ref ga) (frtEnv L)) p'' [], .ret k' none false [] (frtF L) p' []] ++ .gen g k lv c₁ p₁ :: st) (dd + 1) (u + 3) := hb2.amb _
    have hla₁ := hla.le hk
    refine ld_forLoop hb2 (lg_of (r_nextSeq rfl hS hla₁ ?_))
    rw [show vs₀[pre.length]? = some v by simp [hpre]]
    intro s' hS
    refine lg_pure ?_
    replace hS := hS.swap
    refine lg_of (wpAny_assign_Name (r_store hS (al' := [("template_name", some v)]) rfl fun s' hS p K H hKn hKc => ?_))
    conv in forB _ => whnf
    refine ld_cons fun K₁ hK₁ _ _ => ld_If hA2 (lg_of ?_)
    repeat (walk_at "s1")
    have hnext : ∀ (o' : List (Option Str)) (h₂ : Heap), Le h₁ h₂ → EltsT w h rest o' → Prod prog w os TextR kd (o' ++ ys) h₂ (forC frtI2 (.ref it) (frtEnv L)) (K₁ .next) [.ret k'' none false [] (forC frtS (.ref ga) (frtEnv L)) p'' [], .ret k' none false [] (frtF L) p' []]
        ((it, SiO b la (pre.length + 1)) :: (L, NsO []) :: lo) glo := by
      intro o' h₂ hk₂ hks'
      rw [hK₁]
      show Prod prog w os TextR kd _ _ _ (K .next) _ _ _
      rw [hKn]
      refine prod_again rfl ?_
      rw [show pre.length + 1 = (pre ++ [v]).length by simp]
      exact ih o' (pre ++ [v]) h₂ (by simp [hpre]) (hk0.trans (hk.trans hk₂)) (hla₁.le hk₂) (hks'.le (hk.trans hk₂))
    have hdrop : ∀ {s : Shared} {nm : Al}, St w os h₁ ((L, NsO nm) :: (it, SiO b la (pre.length + 1)) :: lo ++ lf) (glo ++ glf) s → St w os h₁ ((it, SiO b la (pre.length + 1)) :: (L, NsO []) :: lo ++ lf) (glo ++ glf) s :=
      fun hS => ((hS.weak (i := 0) rfl fun o q => NsO.weak q (fun y v e => by cases e)).swap)
    cases hks with
    | text hrs =>
      refine r_isi kt_str hS str_str fun s' hS => ?_
      repeat (walk_at "s1")
      intro p
      refine ld_cons fun K₃ hK₃ _ _ => ?_
      refine ld_yield (fs := [.ret k'' none false [] (forC frtS (.ref ga) (frtEnv L)) p'' [], .ret k' none false [] (frtF L) p' []]) hA2 rfl rfl (lg_of ?_)
      repeat (walk_at "s1")
      rintro gs ⟨k₀, l₀, p₀', cl, rfl, hk₀⟩
      refine hX _ h₁ ((it, SiO b la (pre.length + 1)) :: (L, NsO []) :: lo) glo _ _ (Le.refl _) ⟨_, rfl⟩ (hdrop hS) ⟨.builtin "" {}, .inr ⟨_, _, _, _, _, _, rfl⟩⟩ (gen_susp ?_)
      rw [hk₀, hK₃]
      exact hnext _ h₁ (Le.refl _) hrs
    | mute hkt hke hrs =>
      refine r_isi (hkt.le hk) hS hke fun s' hS => ?_
      repeat (walk_at "s1")
      intro p
      show Ld prog w P s' ⟨K₁ .next, _, _, _⟩
      exact hnext _ h₁ (Le.refl _) hrs P h₁ lf glf s' g k lv c₁ p₁ st dd u p (Le.refl _) (hdrop hS) hb hd hu hX
end
end

section
open PySem PySem.W PySem.Calls PyProof.Rows
section
variable {prog : Program} {w : World} {os : OsState} {h₀ : Heap} {L : Addr} {kd kd' : Nat}
theorem TuO.get {l : List Cell} {gl : List (Nat × GenState)} {s : Shared} {i : Nat} {a : Addr} {vs : List Value} (x : St w os h₀ l gl s) (hi : l[i]? = some (a, TuO vs)) : s.heap.get? a = some { cls := .type "tuple", data := .seq vs.toArray 0 } := by
  obtain ⟨o, ho, e⟩ := x.at hi
  rw [ho, e]
set_option maxHeartbeats 4000000
theorem frt_loop (hkd : kd' + 8 ≤ kd) (hkd2 : 100 ≤ kd) {ga : Addr} {k' : Result → Sem PySem.Fin} {p' : Pos} (hk' : k' (.ok .next) = leafOf (.ok (.ret .none))) :
    ∀ (ys : List Addr) (o : List (Option Str)) (h : Heap) (lg : List Cell) (glg : List (Nat × GenState)), RefsL prog w h ys o → Own prog w os NodeR kd' ys h ga lg glg →
      Prod prog w os TextR kd o h (forC frtS (.ref ga) (frtEnv L)) (denote table (forC frtS (.ref ga) (frtEnv L))) [.ret k' none false [] (frtF L) p' []] (lg ++ [(L, NsO [])]) glg := by
  intro ys
  induction ys with
  | nil =>
    intro o h lg glg hR hO P h₁ lf glf s g k lv c₁ p₁ st dd u p₀ hk hS hb hd hu hX
    cases hR
    have ha : Amb (frtF L) (.gen g k lv c₁ p₁ :: st) (dd + 1) (u + 3) := hb.amb _
    have hb' : Bel ([.ret k' none false [] (frtF L) p' []] ++ .gen g k lv c₁ p₁ :: st) (dd + 1) (u + 3) := ha.call
    rw [List.append_assoc] at hS
    refine ld_forLoop hb' (lg_pyNext hO hk hS (by omega) (by omega) ?_)
    intro h₂ s' hk₂ hS₂ c p
    refine .of_go (step_leaf_ret (r := .ok .next) ..) ?_
    rw [hk']
    exact fn_exit hX hk₂ (hS₂.sub (List.sublist_cons_self ..))
  | cons y ys ih =>
    intro o h lg glg hR hO P h₁ lf glf s g k lv c₁ p₁ st dd u p₀ hk hS hb hd hu hX
    have ha : Amb (frtF L) (.gen g k lv c₁ p₁ :: st) (dd + 1) (u + 3) := hb.amb _
    have hb' : Bel ([.ret k' none false [] (frtF L) p' []] ++ .gen g k lv c₁ p₁ :: st) (dd + 1) (u + 3) := ha.call
    have hA : Amb (forC frtS (.ref ga) (frtEnv L)) ([.ret k' none false [] (frtF L) p' []] ++ .gen g k lv c₁ p₁ :: st) (dd + 1) (u + 3) := hb'.amb _
    rw [List.append_assoc] at hS
    cases hR with
    | @cons _ _ o₁ r hy hrs =>
    refine ld_forLoop hb' (lg_pyNext hO hk hS (by omega) (by omega) ?_)
    intro tv h₂ l' gl' s' hk₂ hr hO' hS
    cases hr
    have hkk := hk.trans hk₂
    refine lg_pure ?_
    replace hS : St w os h₂ ((L, NsO []) :: (l' ++ lf)) (gl' ++ glf) s' := hS.perm (List.perm_middle (l₁ := l') (a := ((L, NsO []) : Cell)) (l₂ := lf)).symm
    refine lg_of (wpAny_assign_Name (r_store hS (al' := [("node", some (.ref y))]) rfl fun s' hS p K H hKn hKc => ?_))
    conv in forB _ => whnf
    obtain ⟨C, tm, inc, hyC, hyT, hinc, hT⟩ := (hy.le hkk).e
    have hdA : dd + 1 < 890 := by omega
    have hrest : Prod prog w os TextR kd r h₂ (forC frtS (.ref ga) (frtEnv L)) (.pure (.again (forC frtS (.ref ga) (frtEnv L)))) [.ret k' none false [] (frtF L) p' []] (l' ++ [(L, NsO [])]) gl' :=
      prod_again rfl (ih r h₂ l' gl' (hrs.le hkk) hO')
    have hdrop : ∀ {s : Shared} {nm : Al}, St w os h₂ ((L, NsO nm) :: (l' ++ lf)) (gl' ++ glf) s → St w os h₂ ((l' ++ [(L, NsO [])]) ++ lf) (gl' ++ glf) s := fun hS => by
      have := hS.weak (P' := NsO []) (i := 0) rfl fun o q => NsO.weak q (fun y v e => by cases e)
      exact this.perm (by simpa using (List.perm_middle (l₁ := l') (a := ((L, NsO []) : Cell)) (l₂ := lf)))
    refine ld_cons fun K₁ hK₁ _ hK₁c => ld_lg hA (lg_of ?_)
    repeat (walk_at "s1")
    refine r_fieldAt hyT hS hdA fun s' hS => ?_
    repeat (walk_at "s1")
    intro p
    show Ld prog w P s' ⟨K₁ .next, _, _, _⟩
    rw [hK₁]
    refine ld_cons fun K₂ hK₂ _ hK₂c => ld_If hA (lg_of ?_)
    repeat (walk_at "s1")
    cases hT with
    | items hn h1 h2 hf hla hit =>
      refine r_isi hn.kt hS h1 fun s' hS => ?_
      repeat (walk_at "s1")
      intro p
      refine ld_cons fun K₃ hK₃ _ hK₃c => ld_If hA (lg_of ?_)
      repeat (walk_at "s1")
      refine r_isiT (its := [.ref 402, .ref 423]) hn.kt hS (TuO.get hS (i := 1) rfl) h2 fun s' hS => ?_
      repeat (walk_at "s1")
      intro p
      refine ld_cons fun K₄ hK₄ _ _ => ld_For hA (lg_of ?_)
      repeat (walk_at "s1")
      refine r_fieldAt hf hS hdA fun s' hS => ?_
      refine lg_of (r_iterList hS hla fun it s' hS k'' p hk'' => ?_)
      have hkk'' : Prod prog w os TextR kd r h₂ (forC frtS (.ref ga) (frtEnv L)) (k'' (.ok .next)) [.ret k' none false [] (frtF L) p' []] (l' ++ [(L, NsO [])]) gl' := by
        rw [hk'', hK₄]
        show Prod prog w os TextR kd _ _ _ (K₃ .next) _ _ _
        rw [hK₃]
        intro P' h₃ lf' glf' s'' g' kk lv' cc pp st' d' u' p₀' a1 a2 a3 a4 a5 a6
        refine ld_cons fun K₅ hK₅ _ hK₅c => ld_cont fun p => ?_
        rw [hK₅c, hK₂c, hKc]
        exact hrest P' h₃ lf' glf' s'' g' kk lv' cc pp st' d' u' p a1 a2 a3 a4 a5 a6
      refine frt_in1 hkd2 hkk'' _ _ [] h₂ rfl (Le.refl _) hla hit P h₂ lf glf s' g k lv c₁ p₁ st dd u p (Le.refl _) ?_ hb hd hu (exit_le hX hk₂)
      replace hS := hS.weak (P' := NsO []) (i := 1) rfl fun o q => NsO.weak q (fun y v e => by cases e)
      exact hS.sub ((((List.Sublist.refl (l' ++ lf)).cons _).cons_cons _).cons_cons _)
    | none hn h1 h2 =>
      refine r_isi hn.kt hS h1 fun s' hS => ?_
      repeat (walk_at "s1")
      intro p
      refine ld_cons fun K₃ hK₃ _ hK₃c => ld_If hA (lg_of ?_)
      repeat (walk_at "s1")
      refine r_isiT (its := [.ref 402, .ref 423]) hn.kt hS (TuO.get hS (i := 1) rfl) h2 fun s' hS => ?_
      repeat (walk_at "s1")
      intro p
      refine ld_cons fun K₄ hK₄ _ _ => ?_
      refine ld_yield (fs := [.ret k' none false [] (frtF L) p' []]) hA rfl rfl (lg_of ?_)
      repeat (walk_at "s1")
      rintro gs' ⟨k₀, l₀, p₀', cl, rfl, hk₀⟩
      refine hX _ h₂ (l' ++ [(L, NsO [])]) gl' _ _ hk₂ rfl (hdrop (hS.sub (((List.Sublist.refl (l' ++ lf)).cons _).cons_cons _))) ⟨.builtin "" {}, .inr ⟨_, _, _, _, _, _, rfl⟩⟩ (gen_susp ?_)
      rw [hk₀, hK₄]
      show Prod prog w os TextR kd _ _ _ (K₃ .next) _ _ _
      rw [hK₃]
      intro P' h₃ lf' glf' s'' g' kk lv' cc pp st' d' u' p₀' a1 a2 a3 a4 a5 a6
      refine ld_cons fun K₅ hK₅ _ hK₅c => ld_cont fun p => ?_
      rw [hK₅c, hK₂c, hKc]
      exact hrest P' h₃ lf' glf' s'' g' kk lv' cc pp st' d' u' p a1 a2 a3 a4 a5 a6
    | text hn hf =>
      refine r_isi hn.kt hS cst_cst fun s' hS => ?_
      repeat (walk_at "s1")
      intro p
      show Ld prog w P s' ⟨K₂ .next, _, _, _⟩
      rw [hK₂]
      refine ld_cons fun K₃ hK₃ _ hK₃c => ld_If hA (lg_of ?_)
      repeat (walk_at "s1")
      refine r_fieldAt hf hS hdA fun s' hS => ?_
      repeat (walk_at "s1")
      refine r_isi kt_str hS str_str fun s' hS => ?_
      repeat (walk_at "s1")
      intro p
      refine ld_cons fun K₄ hK₄ _ _ => ?_
      refine ld_yield (fs := [.ret k' none false [] (frtF L) p' []]) hA rfl rfl (lg_of ?_)
      repeat (walk_at "s1")
      refine r_fieldAt hf hS hdA fun s' hS => ?_
      rintro gs' ⟨k₀, l₀, p₀', cl, rfl, hk₀⟩
      refine hX _ h₂ (l' ++ [(L, NsO [])]) gl' _ _ hk₂ ⟨_, rfl⟩ (hdrop hS) ⟨.builtin "" {}, .inr ⟨_, _, _, _, _, _, rfl⟩⟩ (gen_susp ?_)
      rw [hk₀, hK₄]
      show Prod prog w os TextR kd _ _ _ (K₃ .next) _ _ _
      rw [hK₃]
      show Prod prog w os TextR kd _ _ _ (K .next) _ _ _
      rw [hKn]
      exact hrest
    | @row a b vs _ hi hn hf hsq hel =>
      subst hi
      have hkta : ∃ t, Kt w h₂ (.ref a) t ∧ kitOne (KK w.params) t (.type "str") = some false ∧ kitAny (KK w.params) t [.type "tuple", .type "list"] = some true := by
        cases b with
        | true => exact ⟨_, kt_list hsq, by kernel_rfl, by kernel_rfl⟩
        | false => exact ⟨_, kt_tuple hsq, by kernel_rfl, by kernel_rfl⟩
      obtain ⟨t, hkt, e1, e2⟩ := hkta
      refine r_isi hn.kt hS cst_cst fun s' hS => ?_
      repeat (walk_at "s1")
      intro p
      show Ld prog w P s' ⟨K₂ .next, _, _, _⟩
      rw [hK₂]
      refine ld_cons fun K₃ hK₃ _ hK₃c => ld_If hA (lg_of ?_)
      repeat (walk_at "s1")
      refine r_fieldAt hf hS hdA fun s' hS => ?_
      repeat (walk_at "s1")
      refine r_isi hkt hS e1 fun s' hS => ?_
      repeat (walk_at "s1")
      intro p
      refine ld_cons fun K₄ hK₄ _ _ => ld_If hA (lg_of ?_)
      repeat (walk_at "s1")
      refine r_isi hyC.kt hS hinc fun s' hS => ?_
      repeat (walk_at "s1")
      refine r_fieldAt hf hS hdA fun s' hS => ?_
      repeat (walk_at "s1")
      refine r_isiT (its := [.type "tuple", .type "list"]) hkt hS (TuO.get hS (i := 1) rfl) e2 fun s' hS => ?_
      repeat (walk_at "s1")
      intro p
      refine ld_cons fun K₅ hK₅ _ _ => ld_For hA (lg_of ?_)
      repeat (walk_at "s1")
      refine r_fieldAt hf hS hdA fun s' hS => ?_
      refine lg_of (r_iterSeq hS hsq fun it s' hS k'' p hk'' => ?_)
      have hkk'' : Prod prog w os TextR kd r h₂ (forC frtS (.ref ga) (frtEnv L)) (k'' (.ok .next)) [.ret k' none false [] (frtF L) p' []] (l' ++ [(L, NsO [])]) gl' := by
        rw [hk'', hK₅]
        show Prod prog w os TextR kd _ _ _ (K₄ .next) _ _ _
        rw [hK₄]
        show Prod prog w os TextR kd _ _ _ (K₃ .next) _ _ _
        rw [hK₃]
        show Prod prog w os TextR kd _ _ _ (K .next) _ _ _
        rw [hKn]
        exact hrest
      refine frt_in2 hkd2 hkk'' _ _ [] h₂ rfl (Le.refl _) hsq hel P h₂ lf glf s' g k lv c₁ p₁ st dd u p (Le.refl _) ?_ hb hd hu (exit_le hX hk₂)
      replace hS := hS.weak (P' := NsO []) (i := 1) rfl fun o q => NsO.weak q (fun y v e => by cases e)
      exact hS.sub ((((List.Sublist.refl (l' ++ lf)).cons _).cons_cons _).cons_cons _)
    | @mute v t hn hf hkt h1 h2 =>
      have hend : ∀ {l₃ : List Cell} {s' : Shared} {p : Pos} {K₄ : Flow → Sem PySem.Fin} {H₄ : Value → Sem PySem.Fin}, K₄ .next = .pure (.again (forC frtS (.ref ga) (frtEnv L))) → St w os h₂ ((L, NsO [("node", some (.ref y)), ("template", some (.ref tm))]) :: (l₃ ++ (l' ++ lf))) (gl' ++ glf) s' →
          Ld prog w P s' ⟨(execs (ifE (fstS (ifE (sAt 2 (forB frtS))))) (frtEnv L)).wrap K₄ H₄ id id, forC frtS (.ref ga) (frtEnv L), p, [.ret k' none false [] (frtF L) p' []] ++ .gen g k lv c₁ p₁ :: st⟩ := by
        intro l₃ s' p K₄ H₄ hK₄ hS
        conv in ifE _ => whnf
        refine ld_cons fun K₅ hK₅ _ _ => ?_
        refine ld_yield (fs := [.ret k' none false [] (frtF L) p' []]) hA rfl rfl (lg_of ?_)
        repeat (walk_at "s1")
        rintro gs' ⟨k₀, l₀, p₀', cl, rfl, hk₀⟩
        refine hX _ h₂ (l' ++ [(L, NsO [])]) gl' _ _ hk₂ rfl (hdrop (hS.sub ((List.sublist_append_right l₃ (l' ++ lf)).cons_cons _))) ⟨.builtin "" {}, .inr ⟨_, _, _, _, _, _, rfl⟩⟩ (gen_susp ?_)
        rw [hk₀, hK₅]
        show Prod prog w os TextR kd _ _ _ (K₄ .next) _ _ _
        rw [hK₄]
        exact hrest
      refine r_isi hn.kt hS cst_cst fun s' hS => ?_
      repeat (walk_at "s1")
      intro p
      show Ld prog w P s' ⟨K₂ .next, _, _, _⟩
      rw [hK₂]
      refine ld_cons fun K₃ hK₃ _ hK₃c => ld_If hA (lg_of ?_)
      repeat (walk_at "s1")
      refine r_fieldAt hf hS hdA fun s' hS => ?_
      repeat (walk_at "s1")
      refine r_isi hkt hS h1 fun s' hS => ?_
      repeat (walk_at "s1")
      intro p
      refine ld_cons fun K₄ hK₄ _ _ => ld_If hA (lg_of ?_)
      repeat (walk_at "s1")
      have hK4 : K₄ .next = .pure (.again (forC frtS (.ref ga) (frtEnv L))) := by
        rw [hK₄]
        show K₃ .next = _
        rw [hK₃]
        exact hKn
      cases hb1 : inc with
      | false =>
        refine r_isi hyC.kt hS (hb1 ▸ hinc) fun s' hS => ?_
        repeat (walk_at "s1")
        intro p
        exact hend (l₃ := []) hK4 hS
      | true =>
        refine r_isi hyC.kt hS (hb1 ▸ hinc) fun s' hS => ?_
        repeat (walk_at "s1")
        refine r_fieldAt hf hS hdA fun s' hS => ?_
        repeat (walk_at "s1")
        refine r_isiT (its := [.type "tuple", .type "list"]) hkt hS (TuO.get hS (i := 1) rfl) (h2.resolve_left (by rw [hb1]; decide)) fun s' hS => ?_
        repeat (walk_at "s1")
        intro p
        exact hend (l₃ := [_]) hK4 hS
end
end

section
open PySem PySem.W PySem.Calls PyProof.Rows
section
variable {prog : Program} {w : World} {os : OsState} {h₀ : Heap} {L : Addr}
set_option maxHeartbeats 4000000
theorem frt_gen {x : Addr} {ks ds ys : List Addr} {o : List (Option Str)} {n : Nat} (nk : NodeK prog w h₀ x ks) (hF : Fo prog w h₀ ks ds n) (hOut : Out w h₀ (.ref 490) ds ys) (hR : RefsL prog w h₀ ys o) :
    Gen prog w os TextR (kdF n + 8) o h₀ (.fresh (frtF L)) [(L, NsO [("ast", some (.ref x))])] [] := by
  refine gen_fresh ?_
  intro P h₁ lf glf s g k lv c₁ p₁ st dd u p₀ hk hS hb hd hu hX
  obtain ⟨C, ft, names, d, vd, od, f, line, vs, c, a, hok, hf, hks, _, _⟩ := (nk.le hk).e
  refine ld_func fun p K H hK => ?_
  conv in bodOf _ => whnf
  have ha : Amb (frtF L) (.gen g k lv c₁ p₁ :: st) (dd + 1) (u + 3) := hb.amb _
  refine ld_cons fun K₀ hK₀ _ _ => ld_lg (d := dd + 1) (u := u + 3) ha (lg_of (wpAny_AnnAssign_bare fun p => ?_))
  rw [hK₀]
  refine ld_cons fun K' hK' _ _ => ?_
  refine ld_For (d := dd + 1) (u := u + 3) ha (lg_of ?_)
  repeat (walk_at "s1")
  refine r_getMethod c c.fda ty_81 (by decide) a hS fun pm s' hS => ?_
  refine r_callM (m := 81) (x := .ref x) fn_81 ?_
  repeat (walk_at "s1")
  refine ⟨hS.meth (i := 1) rfl, ?_⟩
  refine r_callGen (fd := fd81) (body := bodOf (mth 3 8)) (binds := [(Str.ofString "self", .ref x), (Str.ofString "node_type", .ref 490)]) (fdaAl x (.ref 490)) hS (k81 _) (c81 _) (by show dd + 1 < recursionLimit; simp only [recursionLimit]; omega) rfl (BindsTo.of_eq rfl) (by decide +kernel) (locs rfl) (al_cons (al_cons al_nil)) (fun ga gn L₂ s' hS => ?_)
  refine lg_of (r_iterGen hS (i := 0) rfl fun k' p hk' => ?_)
  have hO : Own prog w os NodeR (kdF n) ys h₁ ga [(ga, GenO gn), (L₂, NsO (fdaAl x (.ref 490)))] [(gn, .fresh (fdaF L₂))] := ⟨gn, _, _, _, rfl, rfl, ⟨_, .inl rfl⟩, fda_gen n x ks ds ys h₁ L₂ (nk.le hk) (hF.le hk) (hOut.le hk)⟩
  refine frt_loop (Nat.le_refl _) (by unfold kdF; omega) (by rw [hk', hK']; exact hK) ys o h₁ _ _ (hR.le hk) hO P h₁ lf glf s' g k lv c₁ p₁ st dd u p (Le.refl _) ?_ hb hd hu hX
  replace hS := hS.weak (P' := NsO []) (i := 2) rfl fun o q => NsO.weak q (fun y v e => by cases e)
  exact hS.sub (((((List.Sublist.refl lf).cons _).cons_cons _).cons_cons _).cons_cons _)
end
end

section
open PySem PySem.W PySem.Calls PyProof.Rows
-- the texts of a call's positional arguments
inductive ArgsT (prog : Program) (w : World) (h : Heap) : List Value → List (Option Str) → Prop
  | nil : ArgsT prog w h [] []
  | text {x n t vs o} : NodeT prog w h x 374 → FieldAt prog w h x "value" (.str n t) → ArgsT prog w h vs o → ArgsT prog w h (.ref x :: vs) (some n :: o)
  | mute {x u t vs o} : NodeT prog w h x 374 → FieldAt prog w h x "value" u → Kt w h u t → kitOne (KK w.params) t (.type "str") = some false → ArgsT prog w h vs o → ArgsT prog w h (.ref x :: vs) (none :: o)
  | other {x C vs o} : NodeT prog w h x C → kitOne (KK w.params) (.ref C) (.ref 374) = some false → ArgsT prog w h vs o → ArgsT prog w h (.ref x :: vs) (none :: o)
theorem ArgsT.le {prog : Program} {w : World} {h h' : Heap} (k : Le h h') : ∀ {vs : List Value} {o : List (Option Str)}, ArgsT prog w h vs o → ArgsT prog w h' vs o
  | _, _, .nil => .nil
  | _, _, .text a b c => .text (a.le k) (b.le k) (c.le k)
  | _, _, .mute a b c d e => .mute (a.le k) (b.le k) (c.le k) d (e.le k)
  | _, _, .other a b c => .other (a.le k) b (c.le k)
structure Cll where
  line : Nat
  word : Option Str
  texts : List (Option Str)
-- a star argument: there or not
def StarV (v : Value) (o : List (Option Str)) : Prop := (v = .none ∧ o = []) ∨ (∃ a, v = .ref a) ∧ o = [none]
def HeadV (prog : Program) (w : World) (h : Heap) (v : Value) : Option Str → Prop
  | some n => ∃ x t, v = .ref x ∧ NodeT prog w h x 330 ∧ FieldAt prog w h x "name" (.str n t)
  | none => ∃ x C, v = .ref x ∧ NodeT prog w h x C ∧ kitOne (KK w.params) (.ref C) (.ref 330) = some false
theorem HeadV.le {prog : Program} {w : World} {h h' : Heap} {v : Value} {o : Option Str} (k : Le h h') (x : HeadV prog w h v o) : HeadV prog w h' v o := by
  cases o with
  | none => obtain ⟨x, C, e, a, b⟩ := x; exact ⟨x, C, e, a.le k, b⟩
  | some n => obtain ⟨x, t, e, a, b⟩ := x; exact ⟨x, t, e, a.le k, b.le k⟩
-- the words that stand at the head of a call
def fourWords : List Str := ["_", "ngettext", "tr", "other"].map Str.ofString
structure CallAt (prog : Program) (w : World) (h : Heap) (y : Addr) (c : Cll) : Prop where
  e : ∃ (ft : Addr) (names : List String) (d vd : Addr) (od : Obj) (f : Str → Option Value) (lt : Tok) (hd v1 v2 : Value) (la lk : Addr) (as ks : List Value) (o1 o2 o3 : List (Option Str)),
    Cl w.params 457 ft names ∧ NodeAt prog w h y 457 d vd od f (.int c.line lt) ∧ FieldAt prog w h y "node" hd ∧ HeadV prog w h hd c.word ∧ FieldAt prog w h y "args" (.ref la) ∧ h.IsList la as.toArray ∧ ArgsT prog w h as o1 ∧
    FieldAt prog w h y "kwargs" (.ref lk) ∧ h.IsList lk ks.toArray ∧ FieldAt prog w h y "dyn_args" v1 ∧ StarV v1 o2 ∧ FieldAt prog w h y "dyn_kwargs" v2 ∧ StarV v2 o3 ∧ c.texts = o1 ++ List.replicate ks.length none ++ o2 ++ o3 ∧ c.texts.length ≤ 1000
  wd : ∀ n, c.word = some n → n ∈ fourWords
theorem CallAt.le {prog : Program} {w : World} {h h' : Heap} {y : Addr} {c : Cll} (x : CallAt prog w h y c) (k : Le h h') : CallAt prog w h' y c := by
  obtain ⟨ft, names, d, vd, od, f, lt, hd, v1, v2, la, lk, as, ks, o1, o2, o3, a1, a2, a3, a4, a5, a6, a7, a8, a9, a10, a11, a12, a13, a14, a15⟩ := x.e
  exact ⟨⟨ft, names, d, vd, od, f, lt, hd, v1, v2, la, lk, as, ks, o1, o2, o3, a1, a2.le k, a3.le k, a4.le k, a5.le k, isList_le a6 k, a7.le k, a8.le k, isList_le a9 k, a10.le k, a11, a12.le k, a13, a14, a15⟩, x.wd⟩
-- what is told of a call
inductive Told
  | one (o : Option Str)
  | many (os : List (Option Str))
structure Row where
  line : Nat
  word : Str
  told : Told
inductive TextsR (h : Heap) : List Value → List (Option Str) → Prop
  | nil : TextsR h [] []
  | cons {v o vs os} : TextR h v o → TextsR h vs os → TextsR h (v :: vs) (o :: os)
def ToldR (h : Heap) (v : Value) : Told → Prop
  | .one o => TextR h v o
  | .many os => ∃ a vs, v = .ref a ∧ h.get? a = some { cls := .type "tuple", data := .seq (List.toArray vs) } ∧ TextsR h vs os
def RowR (h : Heap) (v : Value) (r : Row) : Prop := ∃ b lt wt tv, v = .ref b ∧ h.get? b = some { cls := .type "tuple", data := .seq #[.int r.line lt, .str r.word wt, tv] } ∧ ToldR h tv r.told
def rowOf (words : List Str) (babel : Bool) (c : Cll) : List Row :=
  match c.word with
  | none => []
  | some n => if words.any (· == n) then
      (if babel then [⟨c.line, n, match c.texts with | [o] => .one o | os => .many os⟩]
       else match c.texts.filterMap id with | [] => [] | ts => [⟨c.line, n, .many (ts.map some)⟩])
    else []
inductive CallsL (prog : Program) (w : World) (h : Heap) : List Addr → List Cll → Prop
  | nil : CallsL prog w h [] []
  | cons {y ys c cs} : CallAt prog w h y c → CallsL prog w h ys cs → CallsL prog w h (y :: ys) (c :: cs)
theorem CallsL.le {prog : Program} {w : World} {h h' : Heap} (k : Le h h') : ∀ {ys : List Addr} {o : List Cll}, CallsL prog w h ys o → CallsL prog w h' ys o
  | _, _, .nil => .nil
  | _, _, .cons a b => .cons (a.le k) (b.le k)
abbrev exEnv (L : Addr) : Env := callEnv fd489 L 489
abbrev exS : Stmt := sAt 1 (bodOf (stm 27))
abbrev exF (L : Addr) : Code := .func (bodOf (stm 27)) (exEnv L)
abbrev exI1 : Stmt := sAt 2 (forB exS)
abbrev exI2 : Stmt := sAt 3 (forB exS)
theorem TextsR.le {h h' : Heap} : ∀ {vs : List Value} {os : List (Option Str)}, TextsR h vs os → TextsR h' vs os
  | _, _, .nil => .nil
  | _, _, .cons a b => .cons (by rename_i o _ _; cases o <;> exact a) b.le
theorem TextsR.append {h : Heap} : ∀ {vs us : List Value} {os ps : List (Option Str)}, TextsR h vs os → TextsR h us ps → TextsR h (vs ++ us) (os ++ ps)
  | _, _, _, _, .nil, x => x
  | _, _, _, _, .cons a b, x => .cons a (b.append x)
theorem TextsR.length {h : Heap} : ∀ {vs : List Value} {os : List (Option Str)}, TextsR h vs os → vs.length = os.length
  | _, _, .nil => rfl
  | _, _, .cons _ b => by simp [b.length]
end

section
open PySem PySem.W PySem.Calls PyProof.Rows
theorem getV_app {a b : Al} {y : Str} {v : Value} (h : getV a y = some v) : getV (a ++ b) y = some v := by
  induction a with
  | nil => cases h
  | cons p a ih =>
    obtain ⟨x, u⟩ := p
    simp only [List.cons_append, getV] at h ⊢
    split
    · rename_i e; rw [if_pos e] at h; exact h
    · rename_i e; rw [if_neg e] at h; exact ih h
section
variable {prog : Program} {w : World} {A : Around} {s : Shared} {R : Result → Shared → Prop}
-- one turn of a loop, in the library's logic
theorem code_turn {target : Expr} {it : Value} {body : List Stmt} {env : Env}
    (h : wpAny (model prog w) A (pyNext it) (fun r s₁ => match r with
      | none => R (.ok .next) s₁
      | some v => wpAny (model prog w) A (letOwnedTupleGo target it v) (fun _ s₁' => wpAny (model prog w) A (assign target env v) (fun _ s₂ => wpAny (model prog w) A (execs body env) (fun f s₃ => match f with
          | .next | .cont => codeAny (model prog w) A (.forLoop target it body [] env) R s₃
          | .brk => R (.ok .next) s₃
          | .ret v => R (.ok (.ret v)) s₃) no s₂) no s₁') no s₁) no s) : codeAny (model prog w) A (.forLoop target it body [] env) R s := by
  refine codeAny_of_tree ?_
  rw [Around.under_of_weight (c := .forLoop target it body [] env) rfl]
  show wpAny _ A ((forTurn target it body [] env).onRaise (fun x => do noteFrame x env; theTreesLotGoes x)) _ _ s
  refine wpAny_onRaise ?_
  refine wpAny_mono (E := no) (Q := fun fin s' => match fin with | .done f => R (.ok f) s' | .again c' => c'.quiet = true ∧ codeAny (model prog w) A c' R s') ?_ (fun _ _ x => x) fun _ _ x => x.elim
  simp only [forTurn]
  refine wpAny_bind (wpAny_standAt (wpAny_bind (wpAny_onRaise (wpAny_mono h (fun r s₁ h₁ => ?_) fun _ _ x => x.elim))))
  cases r with
  | none => exact wpAny_pure ⟨rfl, codeAny_block (R := R) (wpAny_pure h₁)⟩
  | some v =>
    refine wpAny_bind (wpAny_mono h₁ (fun _ s₁' h₁' => ?_) fun _ _ x => x)
    refine wpAny_bind (wpAny_mono h₁' (fun _ s₂ h₂ => wpAny_bind (wpAny_mono h₂ (fun f s₃ h₃ => ?_) fun _ _ x => x)) fun _ _ x => x)
    cases f with
    | next => exact wpAny_pure ⟨rfl, h₃⟩
    | cont => exact wpAny_pure ⟨rfl, h₃⟩
    | brk => exact wpAny_pure h₃
    | ret v => exact wpAny_pure h₃
end
section
variable {prog : Program} {w : World} {os : OsState} {h₀ : Heap} {l : List Cell} {gl : List (Nat × GenState)} {s : Shared} {A : Around} {R : Result → Shared → Prop} {L : Addr}
abbrev exAl (b : Bool) (gf : Value) (y sa : Addr) : Al := [("babel_style", some (.bool b)), ("gettext_functions", some gf), ("node", some (.ref y)), ("strings", some (.ref sa))]
set_option maxHeartbeats 4000000
theorem ex_args {b : Bool} {gf : Value} {y sa it la : Addr} {vs₀ : List Value} (hh : A.handled = none) (hd : A.depth < 890) (hla : h₀.IsList la vs₀.toArray) :
    ∀ (rest : List Value) (o : List (Option Str)) (pre acc : List Value) (s : Shared), vs₀ = pre ++ rest → ArgsT prog w h₀ rest o → acc.length + rest.length ≤ 1000 →
      St w os h₀ ((it, LiO la pre.length) :: (L, NsO (exAl b gf y sa)) :: (sa, LsO acc) :: l) gl s →
      (∀ s' us, TextsR h₀ us o → St w os h₀ ((L, NsO (exAl b gf y sa)) :: (sa, LsO (acc ++ us)) :: l) gl s' → R (.ok .next) s') → codeAny (model prog w) A (forC exI1 (.ref it) (exEnv L)) R s := by
  intro rest
  induction rest with
  | nil =>
    intro o pre acc s hpre ho hz hS hR
    cases ho
    refine code_turn (r_nextList hh hS hla ?_)
    rw [show vs₀.toArray[pre.length]? = none by simp [hpre]]
    intro s' hS
    exact hR s' [] .nil (by simpa using hS)
  | cons v rest ih =>
    intro o pre acc s hpre ho hz hS hR
    refine code_turn (r_nextList hh hS hla ?_)
    rw [show vs₀.toArray[pre.length]? = some v by simp [hpre]]
    intro s' hS
    refine wpAny_pure ?_
    replace hS := hS.swap
    refine wpAny_assign_Name (r_store hS (al' := exAl b gf y sa ++ [("arg", some v)]) rfl fun s' hS => ?_)
    conv in forB _ => whnf
    repeat (walk_at "s1")
    have hz' : acc.length ≤ sizeLine := by rw [sizeLine_eq]; simp at hz; omega
    have hgo : ∀ {s : Shared} {u : Value} {os' : Option Str} {o' : List (Option Str)}, TextR h₀ u os' → o = os' :: o' → ArgsT prog w h₀ rest o' → St w os h₀ ((L, NsO (exAl b gf y sa ++ [("arg", some v)])) :: (it, LiO la (pre.length + 1)) :: (sa, LsO (acc ++ [u])) :: l) gl s →
        codeAny (model prog w) A (forC exI1 (.ref it) (exEnv L)) R s := by
      intro s u os' o' hu ho' hrs hS
      subst ho'
      refine ih o' (pre ++ [v]) (acc ++ [u]) s (by simp [hpre]) hrs (by simp at hz ⊢; omega) ?_ fun s' us hus hS' => ?_
      · rw [show (pre ++ [v]).length = pre.length + 1 by simp]
        exact (hS.weak (P' := NsO (exAl b gf y sa)) (i := 0) rfl fun o q => NsO.weak q fun y v e => getV_app e).swap
      · exact hR s' (u :: us) (.cons hu hus) (by simpa using hS')
    cases ho with
    | text hn hf hrs =>
      refine r_isi hn.kt hS cst_cst fun s' hS => ?_
      repeat (walk_at "s1")
      refine r_fieldAt hf hS hd fun s' hS => ?_
      repeat (walk_at "s1")
      refine r_isi kt_str hS str_str fun s' hS => ?_
      repeat (walk_at "s1")
      refine r_method_list hS (i := 2) rfl PySem.F.slot_list_append PySem.F.type_list_append ?_
      repeat (walk_at "s1")
      refine r_fieldAt hf hS hd fun s' hS => ?_
      repeat (walk_at "s1")
      refine r_append hS (i := 2) rfl hz' fun s' hS => ?_
      repeat (walk_at "s1")
      exact hgo (os' := some _) ⟨_, rfl⟩ rfl hrs hS
    | mute hn hf hkt hke hrs =>
      refine r_isi hn.kt hS cst_cst fun s' hS => ?_
      repeat (walk_at "s1")
      refine r_fieldAt hf hS hd fun s' hS => ?_
      repeat (walk_at "s1")
      refine r_isi hkt hS hke fun s' hS => ?_
      repeat (walk_at "s1")
      refine r_method_list hS (i := 2) rfl PySem.F.slot_list_append PySem.F.type_list_append ?_
      repeat (walk_at "s1")
      refine r_append hS (i := 2) rfl hz' fun s' hS => ?_
      repeat (walk_at "s1")
      exact hgo (os' := none) rfl rfl hrs hS
    | other hn hke hrs =>
      refine r_isi hn.kt hS hke fun s' hS => ?_
      repeat (walk_at "s1")
      refine r_method_list hS (i := 2) rfl PySem.F.slot_list_append PySem.F.type_list_append ?_
      repeat (walk_at "s1")
      refine r_append hS (i := 2) rfl hz' fun s' hS => ?_
      repeat (walk_at "s1")
      exact hgo (os' := none) rfl rfl hrs hS
theorem ex_kws {b : Bool} {gf : Value} {y sa it la : Addr} {vs₀ : List Value} (hh : A.handled = none) (hla : h₀.IsList la vs₀.toArray) :
    ∀ (rest pre acc : List Value) (s : Shared), vs₀ = pre ++ rest → acc.length + rest.length ≤ 1000 →
      St w os h₀ ((it, LiO la pre.length) :: (L, NsO (exAl b gf y sa)) :: (sa, LsO acc) :: l) gl s →
      (∀ s', St w os h₀ ((L, NsO (exAl b gf y sa)) :: (sa, LsO (acc ++ List.replicate rest.length .none)) :: l) gl s' → R (.ok .next) s') → codeAny (model prog w) A (forC exI2 (.ref it) (exEnv L)) R s := by
  intro rest
  induction rest with
  | nil =>
    intro pre acc s hpre hz hS hR
    refine code_turn (r_nextList hh hS hla ?_)
    rw [show vs₀.toArray[pre.length]? = none by simp [hpre]]
    intro s' hS
    exact hR s' (by simpa using hS)
  | cons v rest ih =>
    intro pre acc s hpre hz hS hR
    refine code_turn (r_nextList hh hS hla ?_)
    rw [show vs₀.toArray[pre.length]? = some v by simp [hpre]]
    intro s' hS
    refine wpAny_pure ?_
    replace hS := hS.swap
    refine wpAny_assign_Name (r_store hS (al' := exAl b gf y sa ++ [("_", some v)]) rfl fun s' hS => ?_)
    conv in forB _ => whnf
    repeat (walk_at "s1")
    have hz' : acc.length ≤ sizeLine := by rw [sizeLine_eq]; simp at hz; omega
    refine r_method_list hS (i := 2) rfl PySem.F.slot_list_append PySem.F.type_list_append ?_
    repeat (walk_at "s1")
    refine r_append hS (i := 2) rfl hz' fun s' hS => ?_
    repeat (walk_at "s1")
    refine ih (pre ++ [v]) (acc ++ [.none]) s' (by simp [hpre]) (by simp at hz ⊢; omega) ?_ fun s'' hS' => ?_
    · rw [show (pre ++ [v]).length = pre.length + 1 by simp]
      exact (hS.weak (P' := NsO (exAl b gf y sa)) (i := 0) rfl fun o q => NsO.weak q fun y v e => getV_app e).swap
    · exact hR s'' (by simpa [List.replicate_succ] using hS')
theorem texts_none {h : Heap} : ∀ n : Nat, TextsR h (List.replicate n .none) (List.replicate n none)
  | 0 => .nil
  | n + 1 => .cons rfl (texts_none n)
end
end

section
open PySem PySem.W PySem.Calls PyProof.Rows
def WordsAt (h : Heap) (gf : Value) (words : List Str) : Prop := ∃ b a vs, gf = .ref a ∧ SeqAt2 b h a vs ∧ StrsAre vs words
theorem WordsAt.le {h h' : Heap} {gf : Value} {words : List Str} (x : WordsAt h gf words) (k : Le h h') : WordsAt h' gf words := let ⟨b, a, vs, e, s, r⟩ := x; ⟨b, a, vs, e, s.le k, r⟩
theorem name_name {P : Params} : kitOne (KK P) (.ref 330) (.ref 330) = some true := by kernel_rfl
section
variable {prog : Program} {w : World} {os : OsState} {h₀ : Heap} {l : List Cell} {gl : List (Nat × GenState)} {s : Shared} {A : Around} {E : Value → Shared → Prop}
theorem r_notInWords {gf : Value} {words : List Str} {n : Str} {t : Tok} {Q : Value → Shared → Prop} (hw : WordsAt h₀ gf words) (hS : St w os h₀ l gl s) (h : Q (.bool (!(words.any (· == n)))) s) : wpAny (model prog w) A (compareOp .NotIn (.str n t) gf) Q E s := by
  obtain ⟨b, a, vs, rfl, hs, hst⟩ := hw
  cases b with
  | true => exact notin_list_strs (isList_le hs hS.hp.keep) hst h
  | false => exact notin_tuple_strs (isTuple_le hs hS.hp.keep) (by simpa using hst) h
theorem ArgsT.length {h : Heap} : ∀ {vs : List Value} {o : List (Option Str)}, ArgsT prog w h vs o → vs.length = o.length
  | _, _, .nil => rfl
  | _, _, .text _ _ c => by simp [c.length]
  | _, _, .mute _ _ _ _ c => by simp [c.length]
  | _, _, .other _ _ c => by simp [c.length]
theorem ex_d4 {b : Bool} {gf v1 : Value} {y sa : Addr} {L : Addr} {acc : List Value} {o2 : List (Option Str)} {Q : Flow → Shared → Prop} (hd : A.depth < 890) (hz : acc.length ≤ 1000) (hf : FieldAt prog w h₀ y "dyn_args" v1) (hs : StarV v1 o2)
    (hS : St w os h₀ ((L, NsO (exAl b gf y sa)) :: (sa, LsO acc) :: l) gl s) (h : ∀ s' us, TextsR h₀ us o2 → St w os h₀ ((L, NsO (exAl b gf y sa)) :: (sa, LsO (acc ++ us)) :: l) gl s' → Q .next s') : wpAny (model prog w) A (exec (sAt 4 (forB exS)) (exEnv L)) Q E s := by
  conv in sAt _ _ => whnf
  repeat (walk_at "s1")
  refine r_fieldAt hf hS hd fun s' hS => ?_
  repeat (walk_at "s1")
  rcases hs with ⟨rfl, rfl⟩ | ⟨⟨a, rfl⟩, rfl⟩
  · repeat (walk_at "s1")
    exact h _ [] .nil (by simpa using hS)
  · repeat (walk_at "s1")
    refine r_method_list hS (i := 1) rfl PySem.F.slot_list_append PySem.F.type_list_append ?_
    repeat (walk_at "s1")
    refine r_append hS (i := 1) rfl (by rw [sizeLine_eq]; omega) fun s' hS => ?_
    repeat (walk_at "s1")
    exact h _ [.none] (.cons rfl .nil) hS
theorem ex_d5 {b : Bool} {gf v1 : Value} {y sa : Addr} {L : Addr} {acc : List Value} {o2 : List (Option Str)} {Q : Flow → Shared → Prop} (hd : A.depth < 890) (hz : acc.length ≤ 1000) (hf : FieldAt prog w h₀ y "dyn_kwargs" v1) (hs : StarV v1 o2)
    (hS : St w os h₀ ((L, NsO (exAl b gf y sa)) :: (sa, LsO acc) :: l) gl s) (h : ∀ s' us, TextsR h₀ us o2 → St w os h₀ ((L, NsO (exAl b gf y sa)) :: (sa, LsO (acc ++ us)) :: l) gl s' → Q .next s') : wpAny (model prog w) A (exec (sAt 5 (forB exS)) (exEnv L)) Q E s := by
  conv in sAt _ _ => whnf
  repeat (walk_at "s1")
  refine r_fieldAt hf hS hd fun s' hS => ?_
  repeat (walk_at "s1")
  rcases hs with ⟨rfl, rfl⟩ | ⟨⟨a, rfl⟩, rfl⟩
  · repeat (walk_at "s1")
    exact h _ [] .nil (by simpa using hS)
  · repeat (walk_at "s1")
    refine r_method_list hS (i := 1) rfl PySem.F.slot_list_append PySem.F.type_list_append ?_
    repeat (walk_at "s1")
    refine r_append hS (i := 1) rfl (by rw [sizeLine_eq]; omega) fun s' hS => ?_
    repeat (walk_at "s1")
    exact h _ [.none] (.cons rfl .nil) hS
theorem r_len {i : Nat} {a : Addr} {vs : List Value} {Q : Value → Shared → Prop} (hS : St w os h₀ l gl s) (hi : l[i]? = some (a, LsO vs)) (hz : vs.length ≤ 100000) (h : ∀ s' t, St w os h₀ l gl s' → Q (.int (vs.length : Nat) t) s') : wpAny (model prog w) A (call (.builtin "len") [.ref a]) Q E s :=
  PyProof.Rows.len_list (hS.isList hi) (by simp; omega) (by simpa using h _ (s.toks + 1) hS.toks)
theorem r_tupleOf {i : Nat} {a : Addr} {vs : List Value} {c : Cell} {Q : Value → Shared → Prop} (hS : St w os h₀ (c :: l) gl s) (hi : (c :: l)[i]? = some (a, LsO vs)) (hz : vs.length ≤ 100000) (h : ∀ tb s', St w os h₀ (c :: (tb, TuO vs) :: l) gl s' → Q (.ref tb) s') :
    wpAny (model prog w) A (call (.type "tuple") [.ref a]) Q E s :=
  call_tuple_list (hS.isList hi) (fun h' hk => h _ _ (St.push2 (s := { s with heap := h' }) (hS.ext (s' := { s with heap := h' }) hk rfl rfl) rfl rfl rfl rfl rfl)) (by rw [sizeLine_eq]; simp; omega)
def tbCells (_ : Bool) : List Cell := []
end
end

section
open PySem PySem.W PySem.Calls PyProof.Rows
def notNone2 : Value → Bool | .none => false | _ => true
def pzOf {α : Type} (p : α → Bool) (vs : List α) (i : Nat) : Bool := match vs[i]? with | some v => p v | none => false
theorem filter_range {α : Type} (p : α → Bool) : ∀ vs : List α, ((List.range vs.length).filter (pzOf p vs)).filterMap (vs[·]?) = vs.filter p
  | [] => rfl
  | v :: vs => by
    have ih := filter_range p vs
    rw [List.length_cons, List.range_succ_eq_map]
    have e : (pzOf p (v :: vs)) ∘ Nat.succ = pzOf p vs := rfl
    have e0 : pzOf p (v :: vs) 0 = p v := rfl
    simp only [List.filter_cons, List.filter_map, e, e0]
    cases p v <;> simp [List.filterMap_map, Function.comp_def, ih]
theorem filterMap_of {α : Type} (f : Nat → Option α) : ∀ (L : List Nat) (A : List α), A.length = L.length → (∀ (j : Nat) (v : α), A[j]? = some v → ∃ i, L[j]? = some i ∧ f i = some v) → L.filterMap f = A
  | [], A, h, _ => by cases A with | nil => rfl | cons => simp at h
  | i :: L, A, h, k => by
    cases A with
    | nil => simp at h
    | cons v A =>
      obtain ⟨i', e1, e2⟩ := k 0 v rfl
      simp at e1
      subst e1
      rw [List.filterMap_cons, e2, filterMap_of f L A (by simpa using h) fun j v hv => by
        obtain ⟨i', e1, e2⟩ := k (j + 1) v (by simpa using hv)
        exact ⟨i', by simpa using e1, e2⟩]
theorem lk_488 (P : Params) : ∃ o vs file tf flags tg inF text tt, (KK P).lookup 488 = some o ∧ o.cls = .type "code" ∧ o.data = .fields vs ∧ vs[11]? = some (.ref 484) ∧ vs.getD 11 .none = .ref 484 ∧ vs.getD 18 .none = .str file tf ∧
    vs.getD 7 .none = .int flags tg ∧ vs.getD 9 .none = .bool inF ∧ vs.getD 10 .none = .int text tt := ⟨_, _, _, _, _, _, _, _, _, rfl, rfl, rfl, rfl, rfl, rfl, rfl, rfl, rfl⟩
theorem texts_kept2 {h : Heap} : ∀ {vs : List Value} {os : List (Option Str)}, TextsR h vs os → TextsR h (vs.filter notNone2) ((os.filterMap id).map some)
  | _, _, .nil => .nil
  | _, _, .cons (o := none) (os := os) a b => by
    cases a
    simpa [notNone2] using texts_kept2 b
  | _, _, .cons (o := some n) (os := os) a b => by
    obtain ⟨t, rfl⟩ := a
    simp only [List.filter_cons, notNone2, if_true, List.filterMap_cons, id, List.map_cons]
    exact .cons ⟨t, rfl⟩ (texts_kept2 b)
theorem texts_each2 {h : Heap} : ∀ {vs : List Value} {os : List (Option Str)}, TextsR h vs os → ∀ v ∈ vs, v = .none ∨ ∃ n t, v = .str n t
  | _, _, .nil, v, hv => nomatch hv
  | _, _, .cons (o := o) a b, v, hv => by
    rcases List.mem_cons.mp hv with rfl | hv
    · cases o with
      | none => exact .inl a
      | some n => obtain ⟨t, rfl⟩ := a; exact .inr ⟨n, t, rfl⟩
    · exact texts_each2 b v hv
def Mod4 (h : Heap) : Prop := ∃ ob, h.get? 4 = some ob ∧ ob.cls = .type "module" ∧ ob.dict = some builtinsNs ∧ ob.data = .plain
theorem Mod4.le {h h' : Heap} (x : Mod4 h) (k : Le h h') : Mod4 h' := let ⟨o, a, r⟩ := x; ⟨o, k _ _ a, r⟩
section
variable {prog : Program} {w : World} {os : OsState} {h₀ : Heap} {l : List Cell} {gl : List (Nat × GenState)} {s : Shared} {A : Around} {E : Value → Shared → Prop}
-- the code of the generator within extract_from_ast, made at the first look and found at the next
theorem r_genCode {L : Addr} {pos : Pos} {qn : Str} {scope : Scope} {Q : Value → Shared → Prop} (hS : St w os h₀ l gl s) (h : ∀ cd s', St w os h₀ l gl s' → Q cd s') : wpAny (model prog w) A (genexprCode (exEnv L) pos qn scope) Q E s := by
  obtain ⟨o, ho, ⟨ps, rfl, htr⟩, _⟩ := hS.amb
  obtain ⟨oc, vs, file, tf, flags, tg, inF, text, tt, e1, e2, e3, e4, e5, e6, e7, e8, e9⟩ := lk_488 w.params
  have hoc := hS.bs.K.keeps hS.hp.keep _ _ e1
  have htab : s.heap.TableAt 488 484 ps.toArray := ⟨⟨oc, vs, hoc, e2, e3, e4⟩, ho⟩
  have hcode : s.heap.IsCode 488 484 ps.toArray := ⟨oc, vs, file, tf, flags, tg, inF, text, tt, _, hoc, e3, e5, e6, e7, e8, e9, ho, rfl, htr, by decide⟩
  cases hf : codeAmong pos ps with
  | some c' => exact wpAny_genexprCode_hit (c := 488) rfl hcode (by simpa using hf) (h _ _ hS)
  | none =>
    refine wpAny_genexprCodeX (c := 488) rfl hcode htab (by simpa using hf) fun c' h' tk hx _ _ hc' _ ht' _ => ?_
    have htr' : TriplesOk (ps.toArray ++ #[rawInt pos.line, rawInt pos.col, .ref c']).toList := by
      obtain ⟨_, _, _, _, _, _, _, _, _, _, _, _, _, _, _, _, _, f1, f2, f3, _⟩ := hc'
      exact f3
    exact h _ _ ((hS.toks (t := tk)).ambTurn (s' := { s with heap := h', toks := tk }) (fun b o hb e => hx b o hb e) ht'.2 ⟨_, by simp; rfl, htr'⟩ rfl rfl)
set_option maxHeartbeats 2000000
theorem ex_genexp {L sa : Addr} {al : Al} {vs : List Value} {kn : Nat} {p1 p2 p3 p4 p5 p6 pos : Pos} {scope : Scope} {Q : Value → Shared → Prop} (hh : A.handled = none) (hd : A.depth < 900) (hm4 : Mod4 h₀) (hS : St w os h₀ ((L, NsO al) :: l) gl s) (hal : getV al (Str.ofString "strings") = some (.ref sa)) (hsa : h₀.IsList sa vs.toArray) (hz : vs.length ≤ 10000)
    (htx : ∀ v ∈ vs, v = .none ∨ ∃ n t, v = .str n t) (hco : scope.isCoroutine = false) (hfree : ∀ y ∈ scope.names, y.2 ≠ .free) (hcell : ∀ y ∈ scope.names, y.2 ≠ .cell) (h0 : scope.names.lookup (".0" : Str) = some NameKind.local) (hx : scope.names.lookup (Str.ofString "x") = some .local) (hkind : scope.kind = .function)
    (h : ∀ ga s', (∀ (Q' E' : Value → Shared → Prop), (∀ tb s'', St w os h₀ ((L, NsO al) :: (tb, TuO (vs.filter notNone2)) :: l) gl s'' → Q' (.ref tb) s'') → wpAny (model prog w) A (call (.type "tuple") [.ref ga]) Q' E' s') → Q (.ref ga) s') :
    wpAny (model prog w) A (eval (.GeneratorExp (.Name (Str.ofString "x") p1) [⟨.Name (Str.ofString "x") p2, .Name (Str.ofString "strings") p3, [.Compare (.Name (Str.ofString "x") p4) [.IsNot] [.Constant .none kn p5] p6], 0⟩] scope pos) (exEnv L)) Q E s := by
  have hroom : A.depth < recursionLimit := by simp only [recursionLimit]; omega
  refine wpAny_GeneratorExp_walksQD (x := Str.ofString "x") hh hco (closureFor_none hfree) hcell h0 hx hkind hroom ?_ (fun x => rfl)
  refine r_local hS hal ?_
  refine r_iterList hS hsa fun it s₂ hS => ?_
  refine ⟨hS.bs.lim.keeps hS.hp.keep, ?_⟩
  refine r_genCode hS fun cd s₄ hS => ?_
  obtain ⟨mg, hmg⟩ := hS.bs.g
  obtain ⟨ob, ho1, ho2, ho3, ho4⟩ := hm4
  refine wpAny_builtinsFor (m := mg) (bm := 4) (hmg.keeps hS.hp.keep) (mg_of hS.bs.K hmg (by kernel_rfl)) (by decide) (hS.old ho1) ho2 ho3 ho4 ?_
  obtain ⟨oi, hoi, hci, hdi⟩ := hS.at (i := 0) rfl
  have hit : s₄.heap.IsListIter it sa 0 := ⟨oi, hoi, hci, hdi⟩
  have hl := isList_le hsa hS.hp.keep
  have hne : sa ≠ it := by
    intro e
    obtain ⟨o, e1, _⟩ := hsa
    have hn : h₀.get? it = none := let ⟨_, _, _, q⟩ := hS.hp.at (i := 0) rfl; q
    rw [e, hn] at e1
    cases e1
  have hlim : s₄.heap.NoLimit := hS.bs.lim.keeps hS.hp.keep
  have hitc : cStatics ∉ [it] := by
    intro hm
    obtain ⟨mc, hns, _⟩ := hS.bs.lim
    obtain ⟨o, _, _, ho, _⟩ := hns
    have hn : h₀.get? it = none := let ⟨_, _, _, q⟩ := hS.hp.at (i := 0) rfl; q
    rw [List.mem_singleton.mp hm, hn] at ho
    cases ho
  have hitlt : it < s₄.heap.objs.size := Heap.lt_size hoi
  have halt : sa < s₄.heap.objs.size := by obtain ⟨o, e, _⟩ := hl; exact Heap.lt_size e
  refine ⟨it, [it, sa], [it], vs.toArray.size, _, _, (pzOf notNone2 vs), (fun i y => vs[i]? = some y), rfl, fun A' hA' => Walks.list hA' it sa hne vs.toArray, ⟨hit, hl⟩, ?_, hlim, hitc, ?_, ?_⟩
  · intro b hb
    rcases List.mem_cons.mp hb with rfl | hb
    · exact hitlt
    · rw [List.mem_singleton.mp hb]; exact halt
  · intro href hhref
    refine ⟨fun A' E' i v s₂ m₂ hA _ _ hP hn hm hkp => ?_, fun A' E' i v s₂ m₂ hA _ _ hP hpz hn hm hkp => ?_⟩
    · have hP' : vs[i]? = some v := by simpa using hP
      refine wpAny_tests_one (wpAny_isTrue_Compare1 (wpAny_Name (wpAny_loadName_local hkind hx hn hm (wpAny_Constant_none ?_)) (by decide)))
      have hmem : v ∈ vs := List.mem_of_getElem? hP'
      rcases htx v hmem with rfl | ⟨n, t, rfl⟩
      · exact isnot_none_none (wpAny_truthy_bool ⟨by simp [pzOf, hP', notNone2], s₂.heap, s₂.toks, rfl, fun _ _ e => e⟩)
      · exact isnot_str_none (wpAny_truthy_bool ⟨by simp [pzOf, hP', notNone2], s₂.heap, s₂.toks, rfl, fun _ _ e => e⟩)
    · have hP' : vs[i]? = some v := by simpa using hP
      exact wpAny_Name (wpAny_loadName_local hkind hx hn hm ⟨hP', s₂.heap, s₂.toks, rfl, fun _ _ e => e⟩) (by decide)
  · intro a h₅ tk gs hbare hag hsz hk₅ W hat
    refine h a _ fun Q' E' hQ' => ?_
    have hn0 : (passing (pzOf notNone2 vs) vs.toArray.size 0).length ≤ sizeLine := by
      unfold passing
      refine Nat.le_trans (List.length_filter_le _ _) ?_
      simp only [List.drop_zero, List.length_range, List.size_toArray, sizeLine_eq]
      omega
    refine call_tuple_gen (hsz := hn0) W.in4_3 (fun i s' st => st.1.typeIs) hat (fun b hb => ?_) (List.mem_cons_self ..) fun s' acc hm hacc => ?_
    · show b < h₅.objs.size
      rw [hsz]
      rcases List.mem_cons.mp hb with rfl | hb
      · exact Nat.lt_succ_self _
      · rcases List.mem_cons.mp hb with rfl | hb
        · exact Nat.lt_succ_of_lt hag
        · exact Nat.lt_succ_of_lt (Nat.lt_trans (List.mem_range.mp hb) hag)
    have hwr : ∀ b o, b ≠ it → s₄.heap.get? b = some o → s'.heap.get? b = some o := fun b o hb e => hm.heap b o (by
      intro hmem
      rcases List.mem_cons.mp hmem with rfl | hmem
      · exact absurd (Heap.lt_size e) (Nat.lt_irrefl _)
      · exact hb (List.mem_singleton.mp hmem)) (hk₅ b o e)
    have hnd := hS.hp.nd
    simp only [List.map_cons, List.nodup_cons] at hnd
    have hnit : h₀.get? it = none := let ⟨_, _, _, q⟩ := hS.hp.at (i := 0) rfl; q
    have hg : ∀ i, i ≠ s₄.gens.size → s'.gens[i]? = (s₄.gens.push gs)[i]? := fun i hi => by
      rcases hm.gens with e | ⟨⟨_, e⟩, _⟩
      · rw [e]
      · exact e i hi
    have hS' : St w os h₀ ((L, NsO al) :: l) gl s' := by
      refine ⟨hS.bs, ⟨fun b o e => hwr b o (fun q => by rw [q, hnit] at e; cases e) (hS.hp.keep b o e), fun c hc => ?_, ?_⟩, ⟨fun p hp => ?_, hS.gn.nd⟩, fun i x hx => ?_, hm.os.trans hS.os⟩
      · rcases List.mem_cons.mp hc with rfl | hc
        · obtain ⟨o, e1, e2, e3⟩ := hS.amb
          exact ⟨o, hwr _ _ (Ne.symm (hS.ne _ (List.mem_cons_self ..))) e1, e2, e3⟩
        · obtain ⟨o, e1, e2, e3⟩ := hS.hp.own c (List.mem_cons_of_mem _ hc)
          exact ⟨o, hwr _ _ (fun q => hnd.1 (q ▸ List.mem_map_of_mem hc)) e1, e2, e3⟩
      · refine List.nodup_cons.mpr ⟨fun hm => ?_, List.nodup_cons.mpr hnd.2⟩
        obtain ⟨c, hc, e⟩ := List.mem_map.mp hm
        exact hS.ne c (List.mem_cons_of_mem _ hc) e
      · have e := hS.gn.own p hp
        have hlt : p.1 < s₄.gens.size := (Array.getElem?_eq_some_iff.mp e).1
        rw [hg _ (Nat.ne_of_lt hlt), Array.getElem?_push_lt hlt]
        rw [← e, Array.getElem?_eq_getElem hlt]
      · by_cases hi : i = s₄.gens.size
        · left
          subst hi
          rcases hm.gens with e | ⟨_, e⟩
          · rw [e] at hx
            have : (s₄.gens.push gs)[s₄.gens.size]? = some gs := Array.getElem?_push_size ..
            rw [this] at hx
            cases hx
            exact hbare
          · exact e x hx
        · rw [hg i hi] at hx
          have hlt : i < s₄.gens.size := by
            have := (Array.getElem?_eq_some_iff.mp hx).1
            rw [Array.size_push] at this
            omega
          rw [Array.getElem?_push_lt hlt] at hx
          exact hS.bare i x (by rw [Array.getElem?_eq_getElem hlt]; exact hx)
    have hacl : acc.toList = vs.filter notNone2 := by
      rw [← filter_range notNone2 vs]
      refine (filterMap_of (vs[·]?) _ acc.toList ?_ fun j v hv => ?_).symm
      · have := hacc.1
        unfold passing at this
        simpa using this
      · obtain ⟨i, hi, hF⟩ := hacc.2 j v (by simpa using hv)
        unfold passing at hi
        exact ⟨i, by simpa using hi, hF⟩
    exact hQ' _ _ (St.push2 hS' (P := TuO (vs.filter notNone2)) rfl (by unfold TuO; rw [← hacl]) rfl rfl rfl)
end
end

section
open PySem PySem.W PySem.Calls PyProof.Rows
section
variable {prog : Program} {w : World} {os : OsState} {h₀ : Heap} {L : Addr} {kd kd' : Nat}
set_option maxHeartbeats 8000000
theorem ex_loop (hkd : kd' + 8 ≤ kd) (hkd2 : 100 ≤ kd) {b : Bool} {gf : Value} {words : List Str} {ga : Addr} {k' : Result → Sem PySem.Fin} {p' : Pos} (hk' : k' (.ok .next) = leafOf (.ok (.ret .none))) :
    ∀ (ys : List Addr) (cs : List Cll) (h : Heap) (lg : List Cell) (glg : List (Nat × GenState)), CallsL prog w h ys cs → WordsAt h gf words → (b = false → Mod4 h) → Own prog w os NodeR kd' ys h ga lg glg →
      Prod prog w os RowR kd (cs.flatMap (rowOf words b)) h (forC exS (.ref ga) (exEnv L)) (denote table (forC exS (.ref ga) (exEnv L))) [.ret k' none false [] (exF L) p' []]
        (lg ++ (L, NsO [("babel_style", some (.bool b)), ("gettext_functions", some gf)]) :: tbCells b) glg := by
  intro ys
  induction ys with
  | nil =>
    intro cs h lg glg hC hw hm4 hO P h₁ lf glf s g k lv c₁ p₁ st dd u p₀ hk hS hb hd hu hX
    cases hC
    have ha : Amb (exF L) (.gen g k lv c₁ p₁ :: st) (dd + 1) (u + 3) := hb.amb _
    have hb' : Bel ([.ret k' none false [] (exF L) p' []] ++ .gen g k lv c₁ p₁ :: st) (dd + 1) (u + 3) := ha.call
    rw [List.append_assoc] at hS
    refine ld_forLoop hb' (lg_pyNext hO hk hS (by omega) (by omega) ?_)
    intro h₂ s' hk₂ hS₂ c p
    refine .of_go (step_leaf_ret (r := .ok .next) ..) ?_
    rw [hk']
    exact fn_exit hX hk₂ (hS₂.sub (List.sublist_append_right _ lf))
  | cons y ys ih =>
    intro cs h lg glg hC hw hm4 hO P h₁ lf glf s g k lv c₁ p₁ st dd u p₀ hk hS hb hd hu hX
    have ha : Amb (exF L) (.gen g k lv c₁ p₁ :: st) (dd + 1) (u + 3) := hb.amb _
    have hb' : Bel ([.ret k' none false [] (exF L) p' []] ++ .gen g k lv c₁ p₁ :: st) (dd + 1) (u + 3) := ha.call
    have hA : Amb (forC exS (.ref ga) (exEnv L)) ([.ret k' none false [] (exF L) p' []] ++ .gen g k lv c₁ p₁ :: st) (dd + 1) (u + 3) := hb'.amb _
    rw [List.append_assoc] at hS
    cases hC with
    | @cons _ _ c cs hy hrs =>
    refine ld_forLoop hb' (lg_pyNext hO hk hS (by omega) (by omega) ?_)
    intro tv h₂ l' gl' s' hk₂ hr hO' hS
    cases hr
    have hkk := hk.trans hk₂
    have hw₂ := hw.le hkk
    refine lg_pure ?_
    replace hS : St w os h₂ ((L, NsO [("babel_style", some (.bool b)), ("gettext_functions", some gf)]) :: (l' ++ (tbCells b ++ lf))) (gl' ++ glf) s' :=
      hS.perm (by simpa using (List.perm_middle (l₁ := l') (a := ((L, NsO [("babel_style", some (.bool b)), ("gettext_functions", some gf)]) : Cell)) (l₂ := tbCells b ++ lf)).symm)
    refine lg_of (wpAny_assign_Name (r_store hS (al' := [("babel_style", some (.bool b)), ("gettext_functions", some gf), ("node", some (.ref y))]) rfl fun s' hS p K H hKn hKc => ?_))
    conv in forB _ => whnf
    have hdA : dd + 1 < 890 := by omega
    obtain ⟨ft, names, d, vd, od, f, lt, hdv, v1, v2, la, lk, as, ks, o1, o2, o3, cl, na, fnode, hhead, fargs, hla, hargs, fkw, hlk, fd1, hs1, fd2, hs2, htx, hlen⟩ := (hy.le hkk).e
    have hrest : Prod prog w os RowR kd (cs.flatMap (rowOf words b)) h₂ (forC exS (.ref ga) (exEnv L)) (.pure (.again (forC exS (.ref ga) (exEnv L)))) [.ret k' none false [] (exF L) p' []] (l' ++ (L, NsO [("babel_style", some (.bool b)), ("gettext_functions", some gf)]) :: tbCells b) gl' :=
      prod_again rfl (ih cs h₂ l' gl' (hrs.le hkk) hw₂ (fun e => (hm4 e).le hkk) hO')
    have hdrop : ∀ {s : Shared} {nm : Al}, St w os h₂ ((L, NsO ([("babel_style", some (.bool b)), ("gettext_functions", some gf)] ++ nm)) :: (l' ++ (tbCells b ++ lf))) (gl' ++ glf) s →
        St w os h₂ ((l' ++ (L, NsO [("babel_style", some (.bool b)), ("gettext_functions", some gf)]) :: tbCells b) ++ lf) (gl' ++ glf) s := fun hS => by
      have := hS.weak (P' := NsO [("babel_style", some (.bool b)), ("gettext_functions", some gf)]) (i := 0) rfl fun o q => NsO.weak q fun y v e => getV_app e
      exact this.perm (by simpa using (List.perm_middle (l₁ := l') (a := ((L, NsO [("babel_style", some (.bool b)), ("gettext_functions", some gf)]) : Cell)) (l₂ := tbCells b ++ lf)))
    have hskip : ∀ {s : Shared} {nm : Al} {p : Pos} {K : Flow → Sem PySem.Fin} {H : Value → Sem PySem.Fin} {pos : Pos}, rowOf words b c = [] → K .cont = .pure (.again (forC exS (.ref ga) (exEnv L))) → St w os h₂ ((L, NsO ([("babel_style", some (.bool b)), ("gettext_functions", some gf)] ++ nm)) :: (l' ++ (tbCells b ++ lf))) (gl' ++ glf) s →
        Ld prog w P s ⟨(execs [.Continue pos] (exEnv L)).wrap K H id id, forC exS (.ref ga) (exEnv L), p, [.ret k' none false [] (exF L) p' []] ++ .gen g k lv c₁ p₁ :: st⟩ := by
      intro s nm p K H pos he hKc hS
      refine ld_cons fun K₅ hK₅ _ hK₅c => ld_cont fun p => ?_
      rw [hK₅c, hKc]
      rw [List.flatMap_cons, he, List.nil_append] at hX
      exact hrest P h₂ lf glf s g k lv c₁ p₁ st dd u p (Le.refl _) (hdrop hS) hb hd hu (exit_le hX hk₂)
    refine ld_cons fun K₁ hK₁ _ hK₁c => ld_If hA (lg_of ?_)
    repeat (walk_at "s1")
    refine r_fieldAt fnode hS hdA fun s' hS => ?_
    repeat (walk_at "s1")
    cases hcw : c.word with
    | none =>
      rw [hcw] at hhead
      obtain ⟨hx, C', rfl, hnC, hne⟩ := hhead
      refine r_isi hnC.kt hS hne fun s' hS => ?_
      repeat (walk_at "s1")
      intro p
      exact hskip (nm := [("node", some (.ref y))]) (by unfold rowOf; rw [hcw]) (by rw [hK₁c, hKc]) hS
    | some n =>
      rw [hcw] at hhead
      obtain ⟨hx, nt, rfl, hnC, hnm⟩ := hhead
      refine r_isi hnC.kt hS name_name fun s' hS => ?_
      repeat (walk_at "s1")
      refine r_fieldAt fnode hS hdA fun s' hS => ?_
      repeat (walk_at "s1")
      refine r_fieldAt hnm hS hdA fun s' hS => ?_
      repeat (walk_at "s1")
      refine r_notInWords hw₂ hS ?_
      cases hin : words.any (· == n) with
      | false =>
        repeat (walk_at "s1")
        intro p
        exact hskip (nm := [("node", some (.ref y))]) (by unfold rowOf; rw [hcw]; simp only [hin]; rfl) (by rw [hK₁c, hKc]) hS
      | true =>
        repeat (walk_at "s1")
        intro p
        show Ld prog w P s' ⟨K₁ .next, _, _, _⟩
        rw [hK₁]
        refine ld_cons fun K₂ hK₂ _ hK₂c => ld_lg hA (lg_of ?_)
        repeat (walk_at "s1")
        intro p
        rename_i sa _
        rw [hK₂]
        have hl3 : o1.length + ks.length + o2.length + o3.length ≤ 1000 := by
          rw [htx] at hlen; simp at hlen; omega
        have hl1 : as.length = o1.length := hargs.length
        refine ld_cons fun K₃ hK₃ _ hK₃c => ld_lg hA (lg_of (PySem.wpAny_For ?_))
        repeat (walk_at "s1")
        refine r_fieldAt fargs hS hdA fun s' hS => ?_
        refine r_iterList hS hla fun it s' hS => ?_
        refine ex_args (b := b) (gf := gf) (y := y) (sa := sa) rfl hdA hla as o1 [] [] s' rfl hargs (by simp; omega) hS fun s' us hus hS => ?_
        intro p
        show Ld prog w P s' ⟨K₃ .next, _, _, _⟩
        rw [hK₃]
        refine ld_cons fun K₄ hK₄ _ hK₄c => ld_lg hA (lg_of (PySem.wpAny_For ?_))
        repeat (walk_at "s1")
        refine r_fieldAt fkw hS hdA fun s' hS => ?_
        refine r_iterList hS hlk fun it s' hS => ?_
        refine ex_kws (b := b) (gf := gf) (y := y) (sa := sa) rfl hlk ks [] us s' rfl (by have := hus.length; omega) hS fun s' hS => ?_
        intro p
        show Ld prog w P s' ⟨K₄ .next, _, _, _⟩
        rw [hK₄]
        have hul := hus.length
        have hstl : ∀ {v : Value} {o : List (Option Str)}, StarV v o → o.length ≤ 1 := by
          rintro v o (⟨_, rfl⟩ | ⟨_, rfl⟩) <;> simp
        refine ld_cons fun K₅ hK₅ _ hK₅c => ld_lg hA (lg_of (ex_d4 (A := am (dd + 1) (u + 3)) (b := b) (gf := gf) (y := y) (sa := sa) hdA (by simp; omega) fd1 hs1 hS fun s' us₂ hus₂ hS p => ?_))
        show Ld prog w P s' ⟨K₅ .next, _, _, _⟩
        rw [hK₅]
        refine ld_cons fun K₆ hK₆ _ hK₆c => ld_lg hA (lg_of (ex_d5 (A := am (dd + 1) (u + 3)) (b := b) (gf := gf) (y := y) (sa := sa) hdA (by have := hus₂.length; have := hstl hs1; simp; omega) fd2 hs2 hS fun s' us₃ hus₃ hS p => ?_))
        show Ld prog w P s' ⟨K₆ .next, _, _, _⟩
        rw [hK₆]
        have htxt : TextsR h₂ (us ++ List.replicate ks.length .none ++ us₂ ++ us₃) c.texts := by
          rw [htx]
          exact ((hus.append (texts_none _)).append hus₂).append hus₃
        generalize (us ++ List.replicate ks.length .none ++ us₂ ++ us₃) = sx at hS htxt
        have hsx : sx.length ≤ 1000 := by rw [htxt.length]; exact hlen
        have hyield : ∀ {ov : Value} {told : Told} {h₃ : Heap} {l₃ : List Cell} {s : Shared} {p : Pos}, Le h₂ h₃ → ToldR h₃ ov told → St w os h₃ ((L, NsO (exAl b gf y sa ++ [("out", some ov)])) :: (l₃ ++ (l' ++ (tbCells b ++ lf)))) (gl' ++ glf) s → rowOf words b c = [⟨c.line, n, told⟩] →
            Ld prog w P s ⟨(execs [sAt 7 (forB exS)] (exEnv L)).wrap K H id id, forC exS (.ref ga) (exEnv L), p, [.ret k' none false [] (exF L) p' []] ++ .gen g k lv c₁ p₁ :: st⟩ := by
          intro ov told h₃ l₃ s p hk₃ htold hS hrow
          conv in sAt _ _ => whnf
          refine ld_cons fun K₈ hK₈ _ _ => ?_
          refine ld_yield (fs := [.ret k' none false [] (exF L) p' []]) hA rfl rfl (lg_of ?_)
          repeat (walk_at "s1")
          refine r_getLine cl (na.le hk₃) hS rfl fun s' hS => ?_
          repeat (walk_at "s1")
          refine r_fieldAt (fnode.le hk₃) hS hdA fun s' hS => ?_
          refine r_fieldAt (hnm.le hk₃) hS hdA fun s' hS => ?_
          repeat (walk_at "s1")
          rintro gs' ⟨k₀, l₀, p₀', cl', rfl, hk₀⟩
          obtain ⟨h₄, o, hk₄, hob, hP, hS₄⟩ := hS.swap.froze
          cases hP
          rw [List.flatMap_cons, hrow] at hX
          have htold4 : ToldR h₄ ov told := by
            cases told with
            | one o => cases o <;> exact htold
            | many os => obtain ⟨a, vs, e, ho, ht⟩ := htold; exact ⟨a, vs, e, hk₄ _ _ ho, ht.le⟩
          have hS5 : St w os h₄ ((L, NsO ([("babel_style", some (.bool b)), ("gettext_functions", some gf)] ++ ([("node", some (.ref y)), ("strings", some (.ref sa))] ++ [("out", some ov)]))) :: (l' ++ (tbCells b ++ lf))) (gl' ++ glf) _ := hS₄.sub ((List.sublist_append_right l₃ _).cons_cons _)
          refine hX _ h₄ (l' ++ (L, NsO [("babel_style", some (.bool b)), ("gettext_functions", some gf)]) :: tbCells b) gl' _ _ (hk₂.trans (hk₃.trans hk₄)) ⟨_, lt, nt, ov, rfl, hob, htold4⟩ ?_ ⟨.builtin "" {}, .inr ⟨_, _, _, _, _, _, rfl⟩⟩ (gen_susp ?_)
          · have := hS5.weak (P' := NsO [("babel_style", some (.bool b)), ("gettext_functions", some gf)]) (i := 0) rfl fun o q => NsO.weak q fun y v e => getV_app e
            exact this.perm (by simpa using (List.perm_middle (l₁ := l') (a := ((L, NsO [("babel_style", some (.bool b)), ("gettext_functions", some gf)]) : Cell)) (l₂ := tbCells b ++ lf)))
          · rw [hk₀, hK₈]
            show Prod prog w os RowR kd _ _ _ (K .next) _ _ _
            rw [hKn]
            exact prod_le hrest (hk₃.trans hk₄)
        cases b with
        | true =>
          refine ld_cons fun K₇ hK₇ _ hK₇c => ld_lg hA (lg_of ?_)
          repeat (walk_at "s1")
          refine r_len hS (i := 1) rfl (by omega) fun s' _ hS => ?_
          repeat (walk_at "s1")
          by_cases h1 : sx.length = 1
          · obtain ⟨v, rfl⟩ := List.length_eq_one_iff.mp h1
            obtain ⟨o, hco, hvo⟩ : ∃ o, c.texts = [o] ∧ TextR h₂ v o := by
              generalize c.texts = cts at htxt
              cases htxt with
              | cons a b => cases b; exact ⟨_, rfl, a⟩
            rw [if_pos (by rfl)]
            repeat (walk_at "s1")
            refine PyProof.Rows.item_list (x := v) (hS.isList (i := 1) rfl) (by decide) (by decide) (by rfl) ?_
            repeat (walk_at "s1")
            intro p
            show Ld prog w P _ ⟨K₇ .next, _, _, _⟩
            rw [hK₇]
            exact hyield (l₃ := [(sa, LsO [v])]) (told := .one o) (Le.refl _) hvo hS (by unfold rowOf; rw [hcw]; simp only [hin, if_true, hco])
          · rw [if_neg (by simp; omega)]
            repeat (walk_at "s1")
            refine r_tupleOf hS (i := 1) rfl (by omega) fun tb s' hS => ?_
            repeat (walk_at "s1")
            intro p
            show Ld prog w P _ ⟨K₇ .next, _, _, _⟩
            rw [hK₇]
            obtain ⟨h₃, o, hk₃, hob, hP, hS₃⟩ := hS.swap.froze
            cases hP
            refine hyield (l₃ := [(sa, LsO sx)]) (told := .many c.texts) hk₃ ⟨tb, sx, rfl, hob, htxt.le⟩ hS₃ ?_
            unfold rowOf
            rw [hcw]
            simp only [hin, if_true]
            have hcl : c.texts.length ≠ 1 := by rw [← htxt.length]; exact h1
            split
            · rename_i o' e; rw [e] at hcl; exact absurd rfl hcl
            · rfl
        | false =>
          obtain ⟨h₃, _, hk₃, hsa, ⟨ns, rfl⟩, hS⟩ := hS.swap.froze
          have hsl : h₃.IsList sa sx.toArray := ⟨_, hsa, rfl, ns, rfl⟩
          refine ld_cons fun K₇ hK₇ _ hK₇c => ld_lg hA (lg_of ?_)
          repeat (walk_at "s1")
          refine ex_genexp (al := exAl false gf y sa) (vs := sx) rfl (by show dd + 1 < 900; omega) (((hm4 rfl).le hkk).le hk₃) hS rfl hsl (by omega) (texts_each2 htxt) rfl (by decide) (by decide) rfl rfl rfl fun ga s' hga => ?_
          repeat (walk_at "s1")
          refine hga _ _ fun tb s' hS => ?_
          obtain ⟨h₄, _, hk₄, htb, rfl, hS⟩ := hS.swap.froze
          have htt : h₄.IsTuple tb (sx.filter notNone2).toArray := ⟨_, htb, rfl, ⟨0, rfl⟩⟩
          have hkept := texts_kept2 (htxt.le (h' := h₄))
          have hk24 : Le h₂ h₄ := hk₃.trans hk₄
          repeat (walk_at "s1")
          refine truthy_tuple (isTuple_le htt hS.hp.keep) (by have := List.length_filter_le notNone2 sx; rw [List.size_toArray]; omega) ?_
          replace hS := hS.toks (t := s'.toks + 1 + 1)
          cases hf : c.texts.filterMap id with
          | nil =>
            rw [hf] at hkept
            have he0 : sx.filter notNone2 = [] := by generalize sx.filter notNone2 = z at hkept; cases hkept; rfl
            rw [he0]
            repeat (walk_at "s1")
            refine wpAny_Continue (env := exEnv L) fun p => ?_
            show Ld prog w P _ ⟨K₇ .cont, _, _, _⟩
            rw [hK₇c, hKc]
            have he : rowOf words false c = [] := by unfold rowOf; rw [hcw]; simp [hin, hf]
            rw [List.flatMap_cons, he, List.nil_append] at hX
            refine hrest P h₄ lf glf _ g k lv c₁ p₁ st dd u p hk24 ?_ hb hd hu (exit_le hX (hk₂.trans hk24))
            have := hS.weak (P' := NsO [("babel_style", some (.bool false)), ("gettext_functions", some gf)]) (i := 0) rfl fun o q => NsO.weak q fun y v e => getV_app (a := [("babel_style", some (.bool false)), ("gettext_functions", some gf)]) e
            exact this.perm (by simpa using (List.perm_middle (l₁ := l') (a := ((L, NsO [("babel_style", some (.bool false)), ("gettext_functions", some gf)]) : Cell)) (l₂ := tbCells false ++ lf)))
          | cons x0 xs0 =>
            rw [hf] at hkept
            have hne : (!(sx.filter notNone2).toArray.isEmpty) = true := by generalize sx.filter notNone2 = z at hkept; cases hkept; rfl
            rw [hne]
            repeat (walk_at "s1")
            intro p
            show Ld prog w P _ ⟨K₇ .next, _, _, _⟩
            rw [hK₇]
            refine hyield (l₃ := []) (told := .many ((x0 :: xs0).map some)) hk24 ⟨tb, _, rfl, htb, hkept⟩ hS ?_
            unfold rowOf
            rw [hcw]
            simp [hin, hf]
end
end

section
open PySem PySem.W PySem.Calls PyProof.Rows
section
variable {prog : Program} {w : World} {os : OsState} {h₀ : Heap} {L : Addr}
set_option maxHeartbeats 4000000
theorem ex_gen {b : Bool} {gf : Value} {words : List Str} {x : Addr} {ks ds ys : List Addr} {cs : List Cll} {n : Nat} (nk : NodeK prog w h₀ x ks) (hF : Fo prog w h₀ ks ds n) (hOut : Out w h₀ (.ref 457) ds ys) (hC : CallsL prog w h₀ ys cs) (hw : WordsAt h₀ gf words) (hm4 : b = false → Mod4 h₀) :
    Gen prog w os RowR (kdF n + 8) (cs.flatMap (rowOf words b)) h₀ (.fresh (exF L)) ((L, NsO [("babel_style", some (.bool b)), ("gettext_functions", some gf), ("ast", some (.ref x))]) :: tbCells b) [] := by
  refine gen_fresh ?_
  intro P h₁ lf glf s g k lv c₁ p₁ st dd u p₀ hk hS hb hd hu hX
  obtain ⟨C, ft, names, d, vd, od, f, line, vs, c, a, hok, hf, hks, _, _⟩ := (nk.le hk).e
  refine ld_func fun p K H hK => ?_
  conv in bodOf _ => whnf
  have ha : Amb (exF L) (.gen g k lv c₁ p₁ :: st) (dd + 1) (u + 3) := hb.amb _
  refine ld_cons fun K₀ hK₀ _ _ => ld_lg (d := dd + 1) (u := u + 3) ha (lg_of (wpAny_AnnAssign_bare fun p => ?_))
  rw [hK₀]
  refine ld_cons fun K' hK' _ _ => ?_
  refine ld_For (d := dd + 1) (u := u + 3) ha (lg_of ?_)
  replace hS : St w os h₁ ((L, NsO [("babel_style", some (.bool b)), ("gettext_functions", some gf), ("ast", some (.ref x))]) :: (tbCells b ++ lf)) ([] ++ glf) s := hS
  repeat (walk_at "s1")
  refine r_getMethod c c.fda ty_81 (by decide) a hS fun pm s' hS => ?_
  refine r_callM (m := 81) (x := .ref x) fn_81 ?_
  repeat (walk_at "s1")
  refine ⟨hS.meth (i := 1) rfl, ?_⟩
  refine r_callGen (fd := fd81) (body := bodOf (mth 3 8)) (binds := [(Str.ofString "self", .ref x), (Str.ofString "node_type", .ref 457)]) (fdaAl x (.ref 457)) hS (k81 _) (c81 _) (by show dd + 1 < recursionLimit; simp only [recursionLimit]; omega) rfl (BindsTo.of_eq rfl) (by decide +kernel) (locs rfl) (al_cons (al_cons al_nil)) (fun ga gn L₂ s' hS => ?_)
  refine lg_of (r_iterGen hS (i := 0) rfl fun k' p hk' => ?_)
  have hO : Own prog w os NodeR (kdF n) ys h₁ ga [(ga, GenO gn), (L₂, NsO (fdaAl x (.ref 457)))] [(gn, .fresh (fdaF L₂))] := ⟨gn, _, _, _, rfl, rfl, ⟨_, .inl rfl⟩, fda_gen n x ks ds ys h₁ L₂ (nk.le hk) (hF.le hk) (hOut.le hk)⟩
  refine ex_loop (b := b) (gf := gf) (words := words) (Nat.le_refl _) (by unfold kdF; omega) (by rw [hk', hK']; exact hK) ys cs h₁ _ _ (hC.le hk) (hw.le hk) (fun e => (hm4 e).le hk) hO P h₁ lf glf s' g k lv c₁ p₁ st dd u p (Le.refl _) ?_ hb hd hu hX
  replace hS := hS.weak (P' := NsO [("babel_style", some (.bool b)), ("gettext_functions", some gf)]) (i := 2) rfl fun o q => NsO.weak q (fun y v e => getV_app (a := [("babel_style", some (.bool b)), ("gettext_functions", some gf)]) (b := [("ast", some (.ref x))]) e)
  have hS2 := hS.sub (l' := [(ga, GenO gn), (L₂, NsO (fdaAl x (.ref 457)))] ++ ((L, NsO [("babel_style", some (.bool b)), ("gettext_functions", some gf)]) :: (tbCells b ++ lf))) ?_
  · simpa using hS2
  · exact ((((List.sublist_cons_self _ _).cons_cons _).cons_cons _).cons_cons _)
end
end

section
open PySem PySem.W PySem.Calls PyProof.Rows
def ZO (TI TO : Addr) (f : Value) (o : Obj) : Prop := o = { cls := .type "zip", dict := none, data := .fields #[f, .bool false, .bool false, .ref TI, .ref TO], slots := #[] }
def PaO (a b : Value) (o : Obj) : Prop := o = { cls := .type "tuple", data := .seq #[a, b] }
section
variable {prog : Program} {w : World} {os : OsState} {h₀ : Heap} {l : List Cell} {gl : List (Nat × GenState)} {s : Shared} {A : Around} {E : Value → Shared → Prop} {i : Nat}
theorem r_nextOfT {it t : Addr} {k : Nat} {items : Array Value} {x : Value} {Q : Value → Shared → Prop} (hS : St w os h₀ l gl s) (hi : l[i]? = some (it, TiO t k)) (ht : h₀.IsTuple t items) (hx : items[k]? = some x)
    (h : ∀ s', St w os h₀ (l.set i (it, TiO t (k + 1))) gl s' → Q x s') : wpAny (model prog w) A (Builtin.SmallTypes.nextOf (.ref it)) Q E s := by
  obtain ⟨o, ho, hc, hd⟩ := hS.at hi
  obtain ⟨ol, hol, _, nl, hdl⟩ := isTuple_le ht hS.hp.keep
  have hty : s.TypeIs (.ref it) "tuple_iterator" := ⟨o, ho, hc⟩
  unfold Builtin.SmallTypes.nextOf
  refine wpAny_bind (wpAny_callSpecial?_slot (name := Str.ofString "__next__") hty F.slot_tuple_iterator_next
    (wpAny_call_entry F.slot_tuple_iterator_next hty F.entry_tuple_iterator_next ?_ (F.args_tuple_iterator_next_1 _)))
  show wpAny _ _ (field (.ref it) 0 >>= _) _ _ s
  refine wpAny_bind (wpAny_field ho hd (x := .ref t) rfl ?_)
  show wpAny _ _ (if (Value.ref t == Value.none) = true then _ else _) _ _ s
  rw [if_neg (show ¬ ((Value.ref t == Value.none) = true) from Bool.false_ne_true)]
  show wpAny _ _ (field (.ref it) 1 >>= _) _ _ s
  refine wpAny_bind (wpAny_field ho hd (x := .int k 0) rfl ?_)
  show wpAny _ _ (seqItems? (.ref t) >>= _) _ _ s
  refine wpAny_bind (wpAny_seqItems hol hdl ?_)
  simp only [Int.toNat_natCast, hx]
  refine wpAny_bind (wpAny_setField ho hd (by simp) (wpAny_pure ⟨x, rfl, wpAny_pure (h _ ?_)⟩))
  exact hS.turn hi (fun b o' hb e => (Heap.SameBut.update ..).extBut b o' hb e) (Heap.get?_update_self _ ho (Obj.isFreed_of_fields (Obj.data_mapFields hd _))) ⟨(Obj.cls_mapFields ..).trans hc, by
    rw [Obj.data_mapFields hd]; simp [rawInt]⟩ rfl rfl
theorem r_nextOfT_end {it t : Addr} {k : Nat} {items : Array Value} {Q : Value → Shared → Prop} (hh : A.handled = none) (hS : St w os h₀ l gl s) (hi : l[i]? = some (it, TiO t k)) (ht : h₀.IsTuple t items) (hx : items[k]? = none)
    (h : ∀ s' e, St w os h₀ (l.set i (it, fun _ => True)) gl s' → (∃ o, s'.heap.get? e = some o ∧ o.cls = .type "StopIteration") → E (.ref e) s') : wpAny (model prog w) A (Builtin.SmallTypes.nextOf (.ref it)) Q E s := by
  obtain ⟨o, ho, hc, hd⟩ := hS.at hi
  obtain ⟨ol, hol, _, nl, hdl⟩ := isTuple_le ht hS.hp.keep
  have hty : s.TypeIs (.ref it) "tuple_iterator" := ⟨o, ho, hc⟩
  unfold Builtin.SmallTypes.nextOf
  refine wpAny_bind (wpAny_callSpecial?_slot (name := Str.ofString "__next__") hty F.slot_tuple_iterator_next
    (wpAny_call_entry F.slot_tuple_iterator_next hty F.entry_tuple_iterator_next ?_ (F.args_tuple_iterator_next_1 _)))
  show wpAny _ _ (field (.ref it) 0 >>= _) _ _ s
  refine wpAny_bind (wpAny_field ho hd (x := .ref t) rfl ?_)
  show wpAny _ _ (if (Value.ref t == Value.none) = true then _ else _) _ _ s
  rw [if_neg (show ¬ ((Value.ref t == Value.none) = true) from Bool.false_ne_true)]
  show wpAny _ _ (field (.ref it) 1 >>= _) _ _ s
  refine wpAny_bind (wpAny_field ho hd (x := .int k 0) rfl ?_)
  show wpAny _ _ (seqItems? (.ref t) >>= _) _ _ s
  refine wpAny_bind (wpAny_seqItems hol hdl ?_)
  simp only [Int.toNat_natCast, hx]
  refine wpAny_bind (wpAny_rule (wpAny_bind (wpAny_setField ho hd (by simp) ?_)))
  show wpAny _ _ (newExc (.type "StopIteration") [] >>= _) _ _ _
  refine wpAny_bind ?_
  simp only [newExc, newTuple]
  refine wpAny_bind (wpAny_newObj_type ?_ (by size_fits))
  refine wpAny_bind (m := firstArgMember _ _) (wpAny_of_eq (a := Value.none) (by first | rfl | (simp only [firstArgMember]; rfl)) ?_)
  refine wpAny_newObj_type ?_ (by size_fits)
  simp only [raiseNew]
  refine wpAny_bind (wpAny_handled ?_)
  first | rw [show A.in1.handled = none from hh] | rw [hh]
  refine wpAny_bind (wpAny_pure (wpAny_throw ?_))
  refine h _ _ ?_ ⟨_, Heap.get?_push_size _ rfl, rfl⟩
  refine (hS.turn (s' := { s with heap := s.heap.update it (Obj.mapFields fun vs => vs.setIfInBounds 0 .none) }) hi (fun b o' hb e => (Heap.SameBut.update ..).extBut b o' hb e) (Heap.get?_update_self _ ho (Obj.isFreed_of_fields (Obj.data_mapFields hd _))) trivial rfl rfl).ext ?_ rfl rfl
  exact fun b o' e => Heap.get?_push_of_some _ (Heap.get?_push_of_some _ e)
-- the fields of the zip object
theorem r_setZip' {z TI TO : Addr} {f v : Value} {Q : Unit → Shared → Prop} (hS : St w os h₀ l gl s) (hi : l[i]? = some (z, ZO TI TO f)) (h : ∀ s', (∀ b o, b ≠ z → s.heap.get? b = some o → s'.heap.get? b = some o) → St w os h₀ (l.set i (z, ZO TI TO v)) gl s' → Q () s') : wpAny (model prog w) A (setField (.ref z) 0 v) Q E s := by
  obtain ⟨o, ho, rfl⟩ := hS.at hi
  refine wpAny_setField_rec ho (by simp) fun h' hz hs => h _ (fun b o' hb e => hs.extBut b o' hb e) (hS.turn (s' := { s with heap := h' }) hi (fun b o' hb e => hs.extBut b o' hb e) hz (by simp [ZO]) rfl rfl)
theorem r_setZip1 {z TI TO : Addr} {f : Value} {Q : Unit → Shared → Prop} (hS : St w os h₀ l gl s) (hi : l[i]? = some (z, ZO TI TO f)) (h : ∀ s', St w os h₀ (l.set i (z, ZO TI TO f)) gl s' → Q () s') : wpAny (model prog w) A (setField (.ref z) 1 (.bool false)) Q E s := by
  obtain ⟨o, ho, rfl⟩ := hS.at hi
  refine wpAny_setField_rec ho (by simp) fun h' hz hs => h _ (hS.turn (s' := { s with heap := h' }) hi (fun b o' hb e => hs.extBut b o' hb e) hz (by simp [ZO]) rfl rfl)
theorem r_setZip {z TI TO : Addr} {f v : Value} {Q : Unit → Shared → Prop} (hS : St w os h₀ l gl s) (hi : l[i]? = some (z, ZO TI TO f)) (h : ∀ s', St w os h₀ (l.set i (z, ZO TI TO v)) gl s' → Q () s') : wpAny (model prog w) A (setField (.ref z) 0 v) Q E s := by
  obtain ⟨o, ho, rfl⟩ := hS.at hi
  refine wpAny_setField_rec ho (by simp) fun h' hz hs => h _ (hS.turn (s' := { s with heap := h' }) hi (fun b o' hb e => hs.extBut b o' hb e) hz (by simp [ZO]) rfl rfl)
theorem r_updPair {T : Addr} {a b x : Value} {k : Nat} {Q : Unit → Shared → Prop} {P' : Obj → Prop} (hS : St w os h₀ l gl s) (hi : l[i]? = some (T, PaO a b)) (hP : P' { cls := .type "tuple", data := .seq ((#[a, b] : Array Value).setIfInBounds k x) })
    (h : ∀ s', St w os h₀ (l.set i (T, P')) gl s' → Q () s') : wpAny (model prog w) A (updateSeq T (·.setIfInBounds k x)) Q E s := by
  obtain ⟨o, ho, rfl⟩ := hS.at hi
  exact wpAny_updateSeq_pair ho fun h' hT hs => h _ (hS.turn (s' := { s with heap := h' }) hi (fun b o' hb e => hs.extBut b o' hb e) hT hP rfl rfl)
theorem St.zip {z TI TO : Addr} {f : Value} (hS : St w os h₀ l gl s) (hi : l[i]? = some (z, ZO TI TO f)) : s.heap.get? z = some { cls := .type "zip", dict := none, data := .fields #[f, .bool false, .bool false, .ref TI, .ref TO], slots := #[] } := by
  obtain ⟨o, ho, e⟩ := hS.at hi; rw [ho, e]
theorem St.pair {T : Addr} {a b : Value} (hS : St w os h₀ l gl s) (hi : l[i]? = some (T, PaO a b)) : s.heap.get? T = some { cls := .type "tuple", data := .seq #[a, b] } := by
  obtain ⟨o, ho, e⟩ := hS.at hi; rw [ho, e]
abbrev zipCells (z TI TO i1 i2 t1 t2 : Addr) (f a b : Value) (k : Nat) : List Cell := [(z, ZO TI TO f), (TI, PaO (.ref i1) (.ref i2)), (TO, PaO a b), (i1, TiO t1 k), (i2, TiO t2 k)]
theorem r_nextZip {z TI TO i1 i2 t1 t2 : Addr} {a b : Value} {k : Nat} {xs ys : Array Value} {Q : Option Value → Shared → Prop} (hh : A.handled = none) (hS : St w os h₀ (zipCells z TI TO i1 i2 t1 t2 .none a b k ++ l) gl s) (h1 : h₀.IsTuple t1 xs) (h2 : h₀.IsTuple t2 ys) (hsz : xs.size = ys.size)
    (h : match xs[k]?, ys[k]? with
      | some x, some y => ∀ T s', St w os h₀ ((T, PaO x y) :: zipCells z TI TO i1 i2 t1 t2 (rawInt T) x y (k + 1) ++ l) gl s' → Q (some (.ref T)) s'
      | _, _ => ∀ s', St w os h₀ l gl s' → Q none s') : wpAny (model prog w) A (pyNext (.ref z)) Q E s := by
  have hz := hS.zip (i := 0) rfl
  have hTI := hS.pair (i := 1) rfl
  have hT : s.TypeIs (.ref z) "zip" := ⟨_, hz, rfl⟩
  unfold pyNext
  refine wpAny_bind (wpAny_attempt (wpAny_callSpecial?_slot (name := Str.ofString "__next__") hT F.slot_zip_next
    (wpAny_call_entry F.slot_zip_next hT F.entry_zip_next ?_ (F.args_zip_next_1 _))))
  show wpAny _ _ (field (.ref z) 2 >>= _) _ _ _
  refine wpAny_bind (wpAny_field hz rfl (x := .bool false) rfl ?_)
  show wpAny _ _ (field (.ref z) 3 >>= _) _ _ _
  refine wpAny_bind (wpAny_field hz rfl (x := .ref TI) rfl ?_)
  refine wpAny_bind (wpAny_seqItems hTI rfl ?_)
  show wpAny _ _ (Builtin.SmallTypes.ownedTupleIsFree (.ref z) >>= _) _ _ _
  refine wpAny_bind ?_
  unfold Builtin.SmallTypes.ownedTupleIsFree
  refine wpAny_bind (wpAny_field hz rfl (x := .none) rfl (wpAny_pure ?_))
  simp only [if_true]
  refine wpAny_bind (wpAny_rule ?_)
  refine wpAny_bind (wpAny_field hz rfl (x := .ref TO) rfl ?_)
  refine wpAny_bind (r_setZip hS (i := 0) rfl fun s₁ hS => ?_)
  refine wpAny_bind ?_
  simp only [List.zipIdx_cons, List.zipIdx_nil, List.forIn_cons, List.forIn_nil]
  refine wpAny_bind (wpAny_bind (wpAny_onRaise ?_))
  show wpAny _ _ (Builtin.SmallTypes.nextOf (.ref i1) >>= _) _ _ _
  cases hx : xs[k]? with
  | none =>
    have hy : ys[k]? = none := by
      rw [Array.getElem?_eq_none_iff] at hx ⊢; omega
    rw [hx, hy] at h
    refine wpAny_bind (r_nextOfT_end hh hS (i := 3) rfl h1 hx fun s₂ e hS he => ?_)
    obtain ⟨oe, hoe, hce⟩ := he
    have hez : e ≠ z := fun q => by
      have := hS.zip (i := 0) rfl
      rw [← q, hoe] at this
      cases this
      simp at hce
    refine r_setZip' hS (i := 0) rfl fun s₃ hk hS₃ => ?_
    refine wpAny_bind (wpAny_isInstance (T := "StopIteration") (b := true) ⟨oe, hk _ _ hez hoe, hce⟩ isSubtype_stop ?_)
    exact wpAny_pure (h _ (hS₃.sub ((((((List.Sublist.refl l).cons _).cons _).cons _).cons _).cons _)))
  | some x =>
    have hy : ∃ y, ys[k]? = some y := by
      have := (Array.getElem?_eq_some_iff.mp hx).1
      exact ⟨ys[k]'(by omega), Array.getElem?_eq_getElem (by omega)⟩
    obtain ⟨y, hy⟩ := hy
    rw [hx, hy] at h
    refine wpAny_bind (r_nextOfT hS (i := 3) rfl h1 hx fun s₂ hS => wpAny_pure ?_)
    refine wpAny_bind (wpAny_seqItems (hS.pair (i := 2) rfl) rfl ?_)
    refine wpAny_bind (r_updPair hS (i := 2) (P' := PaO x b) rfl rfl fun s₃ hS => ?_)
    refine wpAny_bind (wpAny_letGo (wpAny_pure ?_))
    refine wpAny_bind (wpAny_bind (wpAny_onRaise ?_))
    show wpAny _ _ (Builtin.SmallTypes.nextOf (.ref i2) >>= _) _ _ _
    refine wpAny_bind (r_nextOfT hS (i := 4) rfl h2 hy fun s₂ hS => wpAny_pure ?_)
    refine wpAny_bind (wpAny_seqItems (hS.pair (i := 2) rfl) rfl ?_)
    refine wpAny_bind (r_updPair hS (i := 2) (P' := PaO x y) rfl rfl fun s₃ hS => ?_)
    refine wpAny_bind (wpAny_letGo (wpAny_pure (wpAny_pure ?_)))
    refine wpAny_bind (wpAny_seqItems (hS.pair (i := 2) rfl) rfl ?_)
    refine wpAny_bind (wpAny_newTuple ?_)
    replace hS := hS.push (s' := { s₃ with heap := s₃.heap.push { cls := .type "tuple", data := .seq #[x, y] } }) rfl (P := PaO x y) rfl rfl rfl rfl
    show wpAny _ _ (Builtin.SmallTypes.ownedTupleHandOut (.ref z) (.ref s₃.heap.objs.size) >>= _) _ _ _
    refine wpAny_bind ?_
    unfold Builtin.SmallTypes.ownedTupleHandOut
    refine wpAny_bind (r_setZip hS (i := 1) rfl fun s₄ hS => ?_)
    refine r_setZip1 hS (i := 1) rfl fun s₅ hS => ?_
    exact wpAny_pure ⟨_, rfl, wpAny_pure (h _ _ hS)⟩
theorem r_letZip {elts : List Expr} {x1 : Nat} {pos : Pos} {z TI TO T : Addr} {Q : Unit → Shared → Prop} (hS : St w os h₀ l gl s) (hi : l[i]? = some (z, ZO TI TO (rawInt T))) (h : ∀ s', St w os h₀ (l.set i (z, ZO TI TO .none)) gl s' → Q () s') :
    wpAny (model prog w) A (letOwnedTupleGo (.Tuple elts x1 pos) (.ref z) (.ref T)) Q E s :=
  wpAny_letOwnedTupleGo_zip (hS.zip hi) fun h' hz hs => h _ (hS.turn (s' := { s with heap := h' }) hi (fun b o' hb e => hs.extBut b o' hb e) hz rfl rfl rfl)
theorem r_iterZip {z TI TO : Addr} {f : Value} {Q : Value → Shared → Prop} (hS : St w os h₀ l gl s) (hi : l[i]? = some (z, ZO TI TO f)) (h : Q (.ref z) s) : wpAny (model prog w) A (pyIter (.ref z)) Q E s :=
  wpAny_pyIter_zip (hS.zip hi) h
abbrev zh1 (h : Heap) (t1 : Addr) : Heap := h.push { cls := .type "tuple_iterator", data := .fields #[.ref t1, .int 0 0] }
abbrev zh2 (h : Heap) (t1 t2 : Addr) : Heap := (zh1 h t1).push { cls := .type "tuple_iterator", data := .fields #[.ref t2, .int 0 0] }
abbrev zh3 (h : Heap) (t1 t2 : Addr) : Heap := (zh2 h t1 t2).push { cls := .type "tuple", data := .seq #[.ref h.objs.size, .ref (zh1 h t1).objs.size] }
abbrev zh4 (h : Heap) (t1 t2 : Addr) : Heap := (zh3 h t1 t2).push { cls := .type "tuple", data := .seq #[.none, .none] }
abbrev zh5 (h : Heap) (t1 t2 : Addr) : Heap := (zh4 h t1 t2).push { cls := .type "zip", data := .fields #[.none, .bool false, .bool false, .ref (zh2 h t1 t2).objs.size, .ref (zh3 h t1 t2).objs.size] }
theorem meets_zipT (t1 t2 : Addr) (xs ys : Array Value) :
    Meets (Builtin.«zip.__new__» ⟨[.type "zip", .ref t1, .ref t2], []⟩) (fun _ R s => (s.heap.IsTuple t1 xs ∧ s.heap.IsTuple t2 ys) ∧ R (.ok (.ret (.ref (zh4 s.heap t1 t2).objs.size))) { s with heap := zh5 s.heap t1 t2 }) :=
  .of_wp fun prog w A R s h => by
    obtain ⟨hp, g, d, tk, os⟩ := s; obtain ⟨⟨hl1, hl2⟩, h⟩ := h
    have hsub := sub_zip
    have hL1 : Heap.IsTuple (Shared.heap ⟨hp, g, d, tk, os⟩) t1 xs := hl1
    have hL2 : Heap.IsTuple (Shared.heap ⟨hp.push { cls := .type "tuple_iterator", data := .fields #[.ref t1, .int 0 0] }, g, d, tk, os⟩) t2 ys := Heap.IsTuple.push hl2 _
    wp_walk using wpAny_pyIter_tuple hL1, wpAny_pyIter_tuple hL2
    exact ⟨_, rfl, h⟩
theorem r_newZip {t1 t2 : Addr} {xs ys : Array Value} {Q : Value → Shared → Prop} (hS : St w os h₀ l gl s) (h1 : h₀.IsTuple t1 xs) (h2 : h₀.IsTuple t2 ys)
    (h : ∀ z TI TO i1 i2 s', St w os h₀ (zipCells z TI TO i1 i2 t1 t2 .none .none .none 0 ++ l) gl s' → Q (.ref z) s') : wpAny (model prog w) A (call (.type "zip") [.ref t1, .ref t2]) Q E s := by
  refine callType_new F.called_zip (by decide) (F.typeCall_zip_2 _ _) (F.newCall_zip_2 _ _) (fun obj => F.args_object_init_3 obj _ _) F.entry_zip_new
    (meets_zipT t1 t2 xs ys) ⟨⟨isTuple_le h1 hS.hp.keep, isTuple_le h2 hS.hp.keep⟩, ⟨_, Heap.get?_push_size _ rfl, rfl⟩, ?_⟩
  have a1 := hS.push (s' := { s with heap := zh1 s.heap t1 }) (P := TiO t1 0) rfl ⟨rfl, rfl⟩ rfl rfl rfl
  have a2 := a1.push (s' := { s with heap := zh2 s.heap t1 t2 }) (P := TiO t2 0) rfl ⟨rfl, rfl⟩ rfl rfl rfl
  have a3 := a2.push (s' := { s with heap := zh3 s.heap t1 t2 }) (P := PaO (.ref s.heap.objs.size) (.ref (zh1 s.heap t1).objs.size)) rfl rfl rfl rfl rfl
  have a4 := a3.push (s' := { s with heap := zh4 s.heap t1 t2 }) (P := PaO .none .none) rfl rfl rfl rfl rfl
  have a5 := a4.push (s' := { s with heap := zh5 s.heap t1 t2 }) (P := ZO (zh2 s.heap t1 t2).objs.size (zh3 s.heap t1 t2).objs.size .none) rfl rfl rfl rfl rfl
  exact h _ _ _ _ _ _ (a5.perm (((List.Perm.swap _ _ _).trans (((List.Perm.swap _ _ _).cons _).cons _)).cons _))
end
end

section
open PySem PySem.W PySem.Calls PyProof.Rows Builtin.ObjectAttr
def bindRes (x : Addr) (vs : List Value) (ex : List (Str × Value)) : Sem (List (Str × Value)) := newTuple vs >>= fun t => alloc { cls := .type "dict", data := .dict #[] } >>= fun d => (forIn ex PUnit.unit fun kv _ => nsSet d kv.1 kv.2 >>= fun _ => pure (ForInStep.yield PUnit.unit)) >>= fun _ => pure [(Str.ofString "self", .ref x), (Str.ofString "fields", t), (Str.ofString "attributes", .ref d)]
theorem bind51 (x : Addr) : ∀ (vs : List Value), 1 ≤ vs.length → vs.length ≤ 6 → bindArgs fd51 ⟨.ref x :: vs, []⟩ = bindRes x vs []
  | [_], _, _ => rfl
  | [_, _], _, _ => rfl
  | [_, _, _], _, _ => rfl
  | [_, _, _, _], _, _ => rfl
  | [_, _, _, _, _], _, _ => rfl
  | [_, _, _, _, _, _], _, _ => rfl
  | [], h, _ => absurd h (by decide)
  | _ :: _ :: _ :: _ :: _ :: _ :: _ :: _, _, h => absurd h (by simp)
theorem bind51_5 (x : Addr) (a b c d e v : Value) : bindArgs fd51 ⟨[.ref x, a, b, c, d, e], [(Str.ofString "lineno", v)]⟩ = bindRes x [a, b, c, d, e] [(Str.ofString "lineno", v)] := by rfl
-- what the making of a node needs of its class
structure Mk (P : Params) (C : Addr) : Prop where
  mks : makesIn (KK P) C = true
  init : findIn (KK P) (.ref C) "__init__" = some (some (.ref 51))
  sa : findIn (KK P) (.ref C) "__setattr__" = some (some (.builtin "object.__setattr__"))
  po : plainOver (KK P) C = true
  t1 : takerIn (KK P) C "_values" = some none
  t2 : takerIn (KK P) C "lineno" = some none
  t3 : takerIn (KK P) C "environment" = some none
  hd : (clsIn (KK P) C).any (·.hasDict) = true
theorem mk_const (P : Params) : Mk P 374 := ⟨by kernel_rfl, by kernel_rfl, by kernel_rfl, by kernel_rfl, by kernel_rfl, by kernel_rfl, by kernel_rfl, by kernel_rfl⟩
def InO (C dx : Addr) (o : Obj) : Prop := o = instObj C dx
theorem fn51_ty {P : Params} : typeIn (KK P) (.ref 51) = some (.type "function") := by kernel_rfl
section
variable {prog : Program} {w : World} {os : OsState} {h₀ : Heap} {l : List Cell} {gl : List (Nat × GenState)} {s : Shared} {A : Around} {E : Value → Shared → Prop} {i j : Nat}
theorem r_make {C : Addr} {vs : List Value} {kw : List (Str × Value)} {R : Result → Shared → Prop} (m : Mk w.params C) (hS : St w os h₀ l gl s)
    (h : ∀ x dx s', St w os h₀ ((x, InO C dx) :: (dx, (· = emptyDict)) :: l) gl s' → codeAny (model prog w) (A.under (.builtin "type.__call__" ⟨.ref C :: vs, kw⟩)) (.call (.ref 51) ⟨.ref x :: vs, kw⟩) (InitBack x R) s') : codeAny (model prog w) A (.call (.ref C) ⟨vs, kw⟩) R s := by
  have X := hS.bs.K.keeps hS.hp.keep
  obtain ⟨hh, g, d, t, os'⟩ := s
  refine make_core (makes_of X m.mks) (looks_findIn X m.init) (fun self => bind_fn X self fn51_ty) (.inl rfl) ?_
  have a1 := hS.push (s' := ⟨hh.push emptyDict, g, d, t, os'⟩) (P := (· = emptyDict)) rfl rfl rfl rfl rfl
  have a2 := a1.push (s' := ⟨(hh.push emptyDict).push (instObj C hh.objs.size), g, d, t, os'⟩) (P := InO C hh.objs.size) rfl rfl rfl rfl rfl
  have e : (hh.push emptyDict).objs.size = hh.objs.size + 1 := Heap.size_push ..
  rw [show (Shared.heap ⟨hh.push emptyDict, g, d, t, os'⟩).objs.size = hh.objs.size + 1 from e] at a2
  exact h _ _ _ a2
theorem r_setInst {x C dx : Addr} {od : Obj} {name : Str} {v : Value} {P' : Obj → Prop} {Q : Unit → Shared → Prop} (m : Mk w.params C) (ht : takerIn (KK w.params) C name = some none) (hS : St w os h₀ l gl s) (hx : l[i]? = some (x, InO C dx)) (hd : l[j]? = some (dx, (· = od)))
    (hn : notCls od = true) (hl : (lookIn name od).isSome = true) (e : ∀ hs tk, P' (Obj.putName name hs (.str name tk) v od) ∧ (Obj.putName name hs (.str name tk) v od).isFreed = false ∧ ∃ es n, (Obj.putName name hs (.str name tk) v od).data = .dict (List.toArray es) n ∧ es.length ≤ 1000)
    (h : ∀ s', St w os h₀ (l.set j (dx, P')) gl s' → Q () s') : wpAny (model prog w) A (setAttr (.ref x) name v) Q E s := by
  have X := hS.bs.K.keeps hS.hp.keep
  obtain ⟨_, hxo, rfl⟩ := hS.at hx
  obtain ⟨od', hdo, ho'⟩ := hS.at hd
  replace ho' : od' = od := ho'
  subst ho'
  have I : PySem.W.InstAt s.heap x (instObj C dx) C (some od') := ⟨hxo, rfl, rfl, hdo⟩
  refine set_plain X I m.sa ?_
  refine osa_open (s := { s with toks := s.toks + 1 }) X I m.po ht fun b => ?_
  obtain ⟨cd, hc, hd'⟩ := any_some m.hd
  refine wpAny_bind (wpAny_pure (wpAny_bind (wpAny_bind (wpAny_loadPart hxo (wpAny_bind (Looks.here (s := { s with toks := s.toks + 1 }) (looks_clsIn X hc) ?_))))))
  rw [hd']
  refine wpAny_pure (a := some dx) (wpAny_bind (wpAny_pure (wpAny_bind ?_)))
  unfold nsSet
  refine wpAny_bind (wpAny_bind (wpAny_askSetting (wpAny_pure (wpAny_bind (wpAny_mkText (wpAny_bind (wpAny_loadPart hdo ?_)))))))
  unfold lookIn at hl
  split at hl
  · rename_i es₀ n₀ q
    rw [q]
    dsimp only
    have c : (!es₀.any (·.key.isStr name) && es₀.any (·.refKey)) = false := by
      rw [← Array.any_toList, ← Array.any_toList]
      split at hl
      · rename_i en he
        rw [List.any_eq_true.mpr ⟨en, List.mem_of_find?_eq_some he, List.find?_some he⟩]; rfl
      · split at hl
        · cases hl
        · rename_i z; rw [Bool.not_eq_true] at z; rw [z, Bool.and_false]
    rw [aRefKeyMayBeTheName_at, c]
    obtain ⟨hP, hfr, es, n, e1, e2⟩ := e (PyData.keyHash w.params name) (s.toks + 1)
    refine wpAny_updatePart hdo ?_
    have hnew := Heap.get?_update_self (h := s.heap) (Obj.putName name (PyData.keyHash w.params name) (.str name (s.toks + 1)) v) hdo hfr
    refine wpAny_bind (wpAny_lookBehind hnew (by rw [e1]; exact pastItsLine_dict (by rw [List.size_toArray, sizeLine_eq]; omega)) ?_)
    refine wpAny_pure (h _ ?_)
    exact hS.turn hd (fun b o' hb e => (Heap.SameBut.update ..).extBut b o' hb e) hnew hP rfl rfl
  · cases hl
end
end

section
open PySem PySem.W PySem.Calls PyProof.Rows Builtin.ObjectAttr
def DO (prog : Program) (w : World) (kvs : List (Str × Value)) (o : Obj) : Prop := o.IsDictOf (strKind prog w) kvs
section
variable {prog : Program} {w : World} {os : OsState} {h₀ : Heap} {l : List Cell} {gl : List (Nat × GenState)} {s : Shared} {A : Around} {E : Value → Shared → Prop} {R : Result → Shared → Prop} {i j : Nat}
theorem St.pin {a : Addr} {P : Obj → Prop} (hS : St w os h₀ l gl s) (hi : l[i]? = some (a, P)) : ∃ o, P o ∧ St w os h₀ (l.set i (a, (· = o))) gl s := by
  obtain ⟨o, ho, hP⟩ := hS.at hi
  exact ⟨o, hP, hS.turn hi (fun _ _ _ e => e) ho rfl rfl rfl⟩
theorem St.mods (hS : St w os h₀ l gl s) : (s.heap.objs.size == sysModules) = false := by
  have := Heap.lt_size (hS.old (hS.bs.K 554 _ rfl))
  exact beq_eq_false_iff_ne.mpr fun q => by rw [q] at this; exact absurd this (by decide)
theorem r_callB {f : Addr} {fd : FuncData} {oc : Value} {od : Option Addr} {osl : Array (Option Value)} {body : List Stmt} {args : Args}
    (hS : St w os h₀ l gl s) (hK : (KK w.params).lookup f = some ⟨oc, od, .func fd, osl⟩) (hcd : codeIn (KK w.params) fd.code fd.qualname = true) (hroom : A.depth < recursionLimit) (hbody : fd.body = .stmts body)
    (hcell : ∀ x ∈ fd.scope.names, x.2 ≠ .cell)
    (h : wpAny (model prog w) A.in1 (bindArgs fd args) (fun binds s₁ => ∃ l' al, St w os h₀ l' gl s₁ ∧ (∀ x ∈ binds, fd.scope.names.lookup x.1 = some .local) ∧ (∀ y, binds.reverse.lookup y = getV al y) ∧
      ∀ L s', St w os h₀ ((L, NsO al) :: l') gl s' → wpAny (model prog w) (A.deeper (callEnv fd L f)) (execs body (callEnv fd L f)) (fun fl s'' => R (.ok (.ret (match fl with | .ret v => v | _ => .none))) s'') (fun _ _ => False) s') (fun _ _ => False) s)
    (hco : fd.scope.isCoroutine = false := by rfl) (hgen : fd.scope.isGenerator = false := by rfl) (hk : fd.scope.kind = .function := by rfl) :
    codeAny (model prog w) A (.call (.ref f) args) R s := by
  refine codeAny_call_function hroom (hS.old (hS.bs.K _ _ hK)) rfl hco hgen hbody (codeRec_of (hS.bs.K.keeps hS.hp.keep) hcd) (wpAny_mono h (fun binds s₁ ⟨l', al, hS₁, hloc, hal, h₁⟩ => ?_) fun _ _ x => x.elim)
  refine wpAny_newFunctionEnv hcell hloc (fun h₂ hn hsb => ⟨(hS₁.bs.lim.keeps hS₁.hp.keep).fresh _ hsb, ?_⟩) hk
  have hk₂ : Le s₁.heap h₂ := fun b o e => hsb.extBut b o (Nat.ne_of_lt (Heap.lt_size e)) (Heap.get?_push_of_some _ e)
  obtain ⟨o, ho, hP⟩ := ns_cell (al := al) hn (fun y v q => (hal y).trans q)
  refine codeAny_func (wpAny_mono (h₁ _ _ (hS₁.more (s' := { s₁ with heap := h₂, toks := s₁.toks + binds.length }) hk₂ (fresh_none _ (Nat.le_refl _)) ho hP rfl rfl)) (fun _ _ x => x) fun _ _ x => x.elim)
theorem isEmptyDict : DO prog w [] emptyDict := ⟨#[], 0, ⟨rfl, rfl, rfl⟩, rfl, fun _ he => by simp at he, Pairs.nil, List.nodup_nil⟩
theorem St.dictOf {a : Addr} {kvs : List (Str × Value)} (hS : St w os h₀ l gl s) (hi : l[i]? = some (a, DO prog w kvs)) : s.heap.DictOf (strKind prog w) a kvs := by
  obtain ⟨o, ho, hP⟩ := hS.at hi
  exact Heap.dictOf_iff.mpr ⟨o, ho, hP⟩
theorem St.turnDict {a : Addr} {kvs kvs' : List (Str × Value)} {h' : Heap} {t : Nat} (hS : St w os h₀ l gl s) (hi : l[i]? = some (a, DO prog w kvs)) (hm : h'.DictOf (strKind prog w) a kvs') (hs : Heap.SameBut a s.heap h') :
    St w os h₀ (l.set i (a, DO prog w kvs')) gl { s with heap := h', toks := t } := by
  obtain ⟨o, ho, hP⟩ := Heap.dictOf_iff.mp hm
  exact hS.turn hi (fun b o' hb e => hs.extBut b o' hb e) ho hP rfl rfl
theorem strKey (x : Str) (t : Tok) : (strKind prog w).is x (.str x t) = true := by show decide (x = x) = true; simp
theorem r_setItemD {a : Addr} {kvs : List (Str × Value)} {x : Str} {t : Tok} {v : Value} {Q : Unit → Shared → Prop} (hS : St w os h₀ l gl s) (hi : l[i]? = some (a, DO prog w kvs)) (hz : kvs.length ≤ 1000)
    (h : ∀ s', St w os h₀ (l.set i (a, DO prog w (stored kvs x v))) gl s' → Q () s') : wpAny (model prog w) A (setItem (.ref a) (.str x t) v) Q E s :=
  wpAny_setItem_pairs (strKey x t) (hS.dictOf hi) (fun h' hm hs => h _ (hS.turnDict hi hm hs)) (by rw [sizeLine_eq]; omega)
theorem r_popThere {a : Addr} {kvs : List (Str × Value)} {x : Str} {t : Tok} {v dv : Value} {Q : Value → Shared → Prop} (hS : St w os h₀ l gl s) (hi : l[i]? = some (a, DO prog w kvs)) (hz : kvs.length ≤ 1000) (hv : valueAt kvs x = some v)
    (h : ∀ s', St w os h₀ (l.set i (a, DO prog w (without kvs x))) gl s' → Q v s') : wpAny (model prog w) A (call (.builtin "dict.pop") [.ref a, .str x t, dv]) Q E s :=
  call_meetsIn PySem.F.slot_dict_pop (hS.dictOf hi).typeIs PySem.F.entry_dict_pop (PySem.F.args_dict_pop_3 _ _ _) (meets_dict_pop_there (strKind prog w) a (strKey x t) [dv] (.inr ⟨_, rfl⟩) rfl)
    ⟨kvs, v, hS.dictOf hi, by rw [sizeLine_eq]; omega, hv, fun h' hm hs => h _ (hS.turnDict hi hm hs)⟩
theorem r_popDefault {a : Addr} {kvs : List (Str × Value)} {x : Str} {t : Tok} {dv : Value} {Q : Value → Shared → Prop} (hS : St w os h₀ l gl s) (hi : l[i]? = some (a, DO prog w kvs)) (hd : (a == sysModules) = false) (hv : valueAt kvs x = none)
    (h : ∀ s', St w os h₀ l gl s' → Q dv s') : wpAny (model prog w) A (call (.builtin "dict.pop") [.ref a, .str x t, dv]) Q E s :=
  call_meetsIn PySem.F.slot_dict_pop (hS.dictOf hi).typeIs PySem.F.entry_dict_pop (PySem.F.args_dict_pop_3 _ _ _) (meets_dict_pop_default (strKind prog w) a (strKey x t) hd rfl dv)
    ⟨kvs, hS.dictOf hi, hv, h _ hS.toks⟩
theorem r_truthyD {a : Addr} {kvs : List (Str × Value)} {Q : Bool → Shared → Prop} (hS : St w os h₀ l gl s) (hi : l[i]? = some (a, DO prog w kvs)) (hd : (a == sysModules) = false) (hz : kvs.length ≤ 1000)
    (h : ∀ s', St w os h₀ l gl s' → Q (!kvs.isEmpty) s') : wpAny (model prog w) A (truthy (.ref a)) Q E s :=
  wpAny_truthy_dict hd (hS.dictOf hi) (by omega) (h _ (hS.toks (t := s.toks + 1 + 1)))
theorem r_method_dict {a : Addr} {kvs : List (Str × Value)} {name : Str} {id : String} {pl : Sem Bool} {Q : Value × List Value → Shared → Prop} (hS : St w os h₀ l gl s) (hi : l[i]? = some (a, DO prog w kvs)) (slot : Slot "dict" name id)
    (hty : typeOf (.builtin id) = pure (.type "method_descriptor")) (h : Q (.builtin id, [.ref a]) s) : wpAny (model prog w) A (getMethod (.ref a) name pl) Q E s := by
  obtain ⟨o, ho, hP⟩ := hS.at hi
  have hty' := (hS.dictOf hi).typeIs
  exact getMethod_builtin hty' PySem.F.plainAttrs_dict slot hty (fun b q => by cases q; obtain ⟨_, _, e, _⟩ := hP; exact ⟨_, ho, e.2.1⟩) h
end
end

section
open PySem PySem.W PySem.Calls PyProof.Rows Builtin.ObjectAttr
abbrev niEnv (L : Addr) : Env := callEnv fd51 L 51
abbrev niAl (x t d : Addr) : Al := [("attributes", some (.ref d)), ("fields", some (.ref t)), ("self", some (.ref x))]
abbrev niIf : Stmt := sAt 1 (bodOf (mth 3 4))
abbrev niFor : Stmt := sAt 1 (ifB niIf)
abbrev od1 (vd : Addr) (h1 : Int) (t1 : Tok) (n : Nat) : Obj := dictOf [⟨h1, .str (Str.ofString "_values") t1, .ref vd⟩] n
abbrev od2 (vd : Addr) (line : Value) (h1 h2 : Int) (t1 t2 : Tok) (n : Nat) : Obj := dictOf [⟨h1, .str (Str.ofString "_values") t1, .ref vd⟩, ⟨h2, .str (Str.ofString "lineno") t2, line⟩] n
theorem put1 (vd : Addr) (h1 : Int) (t1 : Tok) : Obj.putName (Str.ofString "_values") h1 (.str (Str.ofString "_values") t1) (.ref vd) emptyDict = od1 vd h1 t1 1 := by rfl
theorem put2 (vd : Addr) (line : Value) (h1 h2 : Int) (t1 t2 : Tok) : Obj.putName (Str.ofString "lineno") h2 (.str (Str.ofString "lineno") t2) line (od1 vd h1 t1 1) = od2 vd line h1 h2 t1 t2 2 := by rfl
theorem put3 (vd : Addr) (line : Value) (h1 h2 h3 : Int) (t1 t2 t3 : Tok) : Obj.putName (Str.ofString "environment") h3 (.str (Str.ofString "environment") t3) .none (od2 vd line h1 h2 t1 t2 2) = nodeDict vd line h1 h2 h3 t1 t2 t3 3 := by rfl
theorem stored_new {kvs : List (Str × Value)} {k : Str} {v : Value} (h : k ∉ kvs.map (·.1)) : stored kvs k v = kvs ++ [(k, v)] := by
  unfold stored
  rw [if_neg]
  intro q
  obtain ⟨kv, hk, e⟩ := List.any_eq_true.mp q
  exact h (List.mem_map.mpr ⟨kv, hk, by simpa using e⟩)
section
variable {prog : Program} {w : World} {os : OsState} {h₀ : Heap} {l : List Cell} {gl : List (Nat × GenState)} {s : Shared} {A : Around} {E : Value → Shared → Prop} {R : Result → Shared → Prop} {i j : Nat}
theorem St.instOf {x C dx : Addr} {od : Obj} (hS : St w os h₀ l gl s) (hx : l[i]? = some (x, InO C dx)) (hd : l[j]? = some (dx, (· = od))) : InstAt s.heap x (instObj C dx) C (some od) := by
  obtain ⟨_, hxo, rfl⟩ := hS.at hx
  obtain ⟨_, hdo, rfl⟩ := hS.at hd
  exact ⟨hxo, rfl, rfl, hdo⟩
theorem r_bind0 {x : Addr} {vs : List Value} {Q : List (Str × Value) → Shared → Prop} {Er : Value → Shared → Prop} (hS : St w os h₀ l gl s) (hz : vs.length ≤ 1000)
    (h : ∀ t d s', (d == sysModules) = false → St w os h₀ ((t, TuO vs) :: (d, DO prog w []) :: l) gl s' → Q [(Str.ofString "self", .ref x), (Str.ofString "fields", .ref t), (Str.ofString "attributes", .ref d)] s') : wpAny (model prog w) A (bindRes x vs []) Q Er s := by
  unfold bindRes
  refine wpAny_bind (wpAny_newTuple ?_ (by rw [sizeLine_eq]; omega))
  have a1 := hS.push (s' := { s with heap := s.heap.push { cls := .type "tuple", data := .seq vs.toArray } }) (P := TuO vs) rfl rfl rfl rfl rfl
  refine wpAny_bind (wpAny_alloc ?_)
  have a2 := a1.push (P := DO prog w []) (s' := { s with heap := (s.heap.push { cls := .type "tuple", data := .seq vs.toArray }).push emptyDict }) rfl isEmptyDict rfl rfl rfl
  refine wpAny_bind (wpAny_pure (wpAny_pure ?_))
  exact h _ _ _ a1.mods a2.swap
theorem r_bind1 {x : Addr} {vs : List Value} {v : Value} {Q : List (Str × Value) → Shared → Prop} {Er : Value → Shared → Prop} (hS : St w os h₀ l gl s) (hz : vs.length ≤ 1000)
    (h : ∀ t d s', (d == sysModules) = false → St w os h₀ ((t, TuO vs) :: (d, DO prog w [(Str.ofString "lineno", v)]) :: l) gl s' → Q [(Str.ofString "self", .ref x), (Str.ofString "fields", .ref t), (Str.ofString "attributes", .ref d)] s') : wpAny (model prog w) A (bindRes x vs [(Str.ofString "lineno", v)]) Q Er s := by
  unfold bindRes
  refine wpAny_bind (wpAny_newTuple ?_ (by rw [sizeLine_eq]; omega))
  have a1 := hS.push (s' := { s with heap := s.heap.push { cls := .type "tuple", data := .seq vs.toArray } }) (P := TuO vs) rfl rfl rfl rfl rfl
  refine wpAny_bind (wpAny_alloc ?_)
  have a2 := a1.push (P := (· = emptyDict)) (s' := { s with heap := (s.heap.push { cls := .type "tuple", data := .seq vs.toArray }).push emptyDict }) rfl rfl rfl rfl rfl
  have hm := a1.mods
  simp only [List.forIn_cons, List.forIn_nil]
  refine wpAny_bind (wpAny_bind (wpAny_bind ?_))
  obtain ⟨_, hdo, rfl⟩ := a2.at (i := 0) rfl
  unfold nsSet
  refine wpAny_bind (wpAny_bind (wpAny_askSetting (wpAny_pure (wpAny_bind (wpAny_mkText (wpAny_bind (wpAny_loadPart hdo ?_)))))))
  dsimp only
  rw [aRefKeyMayBeTheName_at]
  rw [show ((!(#[] : Array DictEntry).any (·.key.isStr (Str.ofString "lineno"))) && (#[] : Array DictEntry).any (·.refKey)) = false by simp]
  refine wpAny_updatePart hdo ?_
  have hnew := Heap.get?_update_self (Obj.putName (Str.ofString "lineno") (PyData.keyHash w.params (Str.ofString "lineno")) (.str (Str.ofString "lineno") s.toks) v) hdo rfl
  refine wpAny_pure (wpAny_pure (wpAny_pure ?_))
  have a3 := a2.turn (i := 0) (P' := DO prog w [(Str.ofString "lineno", v)]) (s' := { s with heap := ((s.heap.push { cls := .type "tuple", data := .seq vs.toArray }).push emptyDict).update (s.heap.push { cls := .type "tuple", data := .seq vs.toArray }).objs.size (Obj.putName (Str.ofString "lineno") (PyData.keyHash w.params (Str.ofString "lineno")) (.str (Str.ofString "lineno") s.toks) v), toks := s.toks + 1 }) rfl
    (fun b o' hb e => (Heap.SameBut.update ..).extBut b o' hb e) hnew ⟨#[⟨PyData.keyHash w.params (Str.ofString "lineno"), .str (Str.ofString "lineno") s.toks, v⟩], 1, ⟨rfl, rfl, rfl⟩, rfl, fun e he => by
      simp at he; subst he; exact ⟨Str.ofString "lineno", strKey _ _, rfl⟩, .cons (strKey _ _) rfl .nil, by simp⟩ rfl rfl
  exact h _ _ _ hm (St.toks (t := _) a3.swap)
end
end

section
open PySem PySem.W PySem.Calls PyProof.Rows Builtin.ObjectAttr
section
variable {prog : Program} {w : World} {os : OsState} {h₀ : Heap} {l : List Cell} {gl : List (Nat × GenState)} {s : Shared} {A : Around} {E : Value → Shared → Prop} {R : Result → Shared → Prop} {i j : Nat} {L : Addr}
theorem St.flip {l₁ l₂ : List Cell} (hS : St w os h₀ (l₁ ++ (l₂ ++ l)) gl s) : St w os h₀ (l₂ ++ (l₁ ++ l)) gl s :=
  hS.perm (by have := List.perm_append_comm (l₁ := l₂) (l₂ := l₁); simpa using this.append_right l)
set_option maxHeartbeats 4000000
theorem ni_loop {C ft x dx vd t d : Addr} {names : List String} {ts : List Tok} {vs : List Value} {h1 : Int} {t1 : Tok} (cl : Cl w.params C ft names) (hh : A.handled = none)
    (hts : ts.length = names.length) (hvs : vs.length = names.length) (hnd : names.Nodup) (hnl : names.length ≤ 900)
    (hft : h₀.IsTuple ft (List.zipWith (fun (n : String) t => Value.str (Str.ofString n) t) names ts).toArray) (ht : h₀.IsTuple t vs.toArray) :
    ∀ (m k : Nat) (z TI TO i1 i2 : Addr) (a b : Value) (s : Shared), k + m = names.length →
      St w os h₀ (zipCells z TI TO i1 i2 ft t .none a b k ++ (L, NsO (niAl x t d)) :: (x, InO C dx) :: (dx, (· = od1 vd h1 t1 1)) :: (vd, DO prog w ((List.zip (names.map Str.ofString) vs).take k)) :: l) gl s →
      (∀ s', St w os h₀ ((L, NsO (niAl x t d)) :: (x, InO C dx) :: (dx, (· = od1 vd h1 t1 1)) :: (vd, DO prog w (List.zip (names.map Str.ofString) vs)) :: l) gl s' → R (.ok .next) s') → codeAny (model prog w) A (forC niFor (.ref z) (niEnv L)) R s := by
  intro m
  induction m with
  | zero =>
    intro k z TI TO i1 i2 a b s hk hS hR
    refine code_turn (r_nextZip hh hS hft ht (by simp [hts, hvs]) ?_)
    have e1 : (List.zipWith (fun (n : String) t => Value.str (Str.ofString n) t) names ts).toArray[k]? = none := by simp; omega
    rw [e1]
    intro s' hS
    refine hR s' ?_
    rw [List.take_of_length_le (by simp; omega)] at hS
    exact hS
  | succ m ih =>
    intro k z TI TO i1 i2 a b s hk hS hR
    have hkn : k < names.length := by omega
    have hkt : k < ts.length := by omega
    have hkv : k < vs.length := by omega
    refine code_turn (r_nextZip hh hS hft ht (by simp [hts, hvs]) ?_)
    have e1 : (List.zipWith (fun (n : String) t => Value.str (Str.ofString n) t) names ts).toArray[k]? = some (.str (Str.ofString names[k]) ts[k]) := by
      rw [List.getElem?_toArray, List.getElem?_zipWith, List.getElem?_eq_getElem hkn, List.getElem?_eq_getElem hkt]
    have e2 : vs.toArray[k]? = some vs[k] := by simp [hkv]
    rw [e1, e2]
    intro T s' hS
    refine r_letZip hS (i := 1) rfl fun s' hS => ?_
    have hT := hS.pair (i := 0) rfl
    refine r_unpack2 hh hS ⟨_, hT, rfl, ⟨0, rfl⟩⟩ fun s' hS => ?_
    replace hS := St.flip (l₁ := zipCells z TI TO i1 i2 ft t .none (.str (Str.ofString names[k]) ts[k]) vs[k] (k + 1)) (l₂ := [((L, NsO (niAl x t d)) : Cell), (x, InO C dx), (dx, (· = od1 vd h1 t1 1)), (vd, DO prog w ((List.zip (names.map Str.ofString) vs).take k))]) (hS.sub ((List.Sublist.refl _).cons _))
    replace hS : St w os h₀ ((L, NsO (niAl x t d)) :: (x, InO C dx) :: (dx, (· = od1 vd h1 t1 1)) :: (vd, DO prog w ((List.zip (names.map Str.ofString) vs).take k)) :: (zipCells z TI TO i1 i2 ft t .none (.str (Str.ofString names[k]) ts[k]) vs[k] (k + 1) ++ l)) gl s' := hS
    refine wpAny_assign_Name (r_store hS (al' := niAl x t d ++ [("name", some (.str (Str.ofString names[k]) ts[k]))]) rfl fun s' hS => ?_)
    refine wpAny_assign_Name (r_store hS (al' := niAl x t d ++ [("name", some (.str (Str.ofString names[k]) ts[k])), ("arg", some vs[k])]) rfl fun s' hS => ?_)
    conv in forB _ => whnf
    repeat (walk_at "s1")
    refine wpAny_Assign_Subscript ?_
    repeat (walk_at "s1")
    have X := hS.bs.K.keeps hS.hp.keep
    refine get_value X (hS.instOf (i := 1) (j := 2) rfl rfl) cl.ga (v := .ref vd) (by rw [cl.vals]; rfl) rfl ?_
    replace hS := hS.toks (t := s'.toks + 1)
    repeat (walk_at "s1")
    refine r_setItemD hS (i := 3) rfl (by simp; omega) fun s' hS => ?_
    repeat (walk_at "s1")
    have hkey : Str.ofString names[k] ∉ ((List.zip (names.map Str.ofString) vs).take k).map (·.1) := by
      rw [List.map_take, List.map_fst_zip (by simp; omega)]
      intro q
      rw [List.mem_take_iff_getElem] at q
      obtain ⟨j, hj, e⟩ := q
      rw [List.getElem_map] at e
      have := nodup_at hnd _ _ (ofString_inj e)
      omega
    have e3 : stored ((List.zip (names.map Str.ofString) vs).take k) (Str.ofString names[k]) vs[k] = (List.zip (names.map Str.ofString) vs).take (k + 1) := by
      rw [stored_new hkey, List.take_succ]
      congr 1
      have e4 : (List.zip (names.map Str.ofString) vs)[k]? = some (Str.ofString names[k], vs[k]) := List.getElem?_zip_eq_some.mpr ⟨by rw [List.getElem?_map, List.getElem?_eq_getElem hkn]; rfl, List.getElem?_eq_getElem hkv⟩
      rw [e4]
      rfl
    rw [e3] at hS
    refine ih (k + 1) z TI TO i1 i2 (.str (Str.ofString names[k]) ts[k]) vs[k] _ (by omega) ?_ hR
    have hS1 := hS.weak (P' := NsO (niAl x t d)) (i := 0) rfl fun o q => NsO.weak q fun y v e => getV_app e
    exact St.flip (l₁ := [((L, NsO (niAl x t d)) : Cell), (x, InO C dx), (dx, (· = od1 vd h1 t1 1)), (vd, DO prog w ((List.zip (names.map Str.ofString) vs).take (k + 1)))]) (l₂ := zipCells z TI TO i1 i2 ft t .none (.str (Str.ofString names[k]) ts[k]) vs[k] (k + 1)) hS1
end
end

section
open PySem PySem.W PySem.Calls PyProof.Rows Builtin.ObjectAttr
theorem tuple_at {w : World} {C ft : Addr} {names : List String} (cl : Cl w.params C ft names) {h : Heap} (hK : (KK w.params).In h) : ∃ ts : List Tok, ts.length = names.length ∧ h.IsTuple ft (List.zipWith (fun (n : String) t => Value.str (Str.ofString n) t) names ts).toArray := by
  obtain ⟨ts, hl, e⟩ := cl.tup
  exact ⟨ts, hl, _, hK _ _ e, rfl, ⟨0, rfl⟩⟩
-- what was given as the line
def LineIs (kw : List (Str × Value)) (line : Value) : Prop := (kw = [] ∧ line = .none) ∨ kw = [(Str.ofString "lineno", line)]
theorem look1 {vd : Addr} {h1 : Int} {t1 : Tok} {m : Nat} {n : String} (hn : n ≠ "_values") : lookIn (Str.ofString n) (od1 vd h1 t1 m) = some none := by
  unfold lookIn
  simp only [List.toList_toArray, List.find?_cons, isStr_ofString, decide_eq_false (Ne.symm hn), List.find?_nil]
  rfl
section
variable {prog : Program} {w : World} {os : OsState} {h₀ : Heap} {l : List Cell} {gl : List (Nat × GenState)} {s : Shared} {A : Around} {E : Value → Shared → Prop} {R : Result → Shared → Prop} {i j : Nat} {L : Addr}
theorem r_truthyT {t : Addr} {items : Array Value} {Q : Bool → Shared → Prop} (hS : St w os h₀ l gl s) (ht : h₀.IsTuple t items) (hz : items.size ≤ 100000) (h : ∀ s', St w os h₀ l gl s' → Q (!items.isEmpty) s') : wpAny (model prog w) A (truthy (.ref t)) Q E s :=
  truthy_tuple (isTuple_le ht hS.hp.keep) (by omega) (h _ (hS.toks (t := s.toks + 1 + 1)))
theorem r_lenT {t : Addr} {items : Array Value} {Q : Value → Shared → Prop} (hS : St w os h₀ l gl s) (ht : h₀.IsTuple t items) (hz : items.size ≤ 100000) (h : ∀ s' k, St w os h₀ l gl s' → Q (.int (items.size : Nat) k) s') : wpAny (model prog w) A (call (.builtin "len") [.ref t]) Q E s :=
  len_tuple (isTuple_le ht hS.hp.keep) (by omega) (h _ _ (hS.toks (t := s.toks + 1 + 1)))
theorem St.freezeAt {a : Addr} {P : Obj → Prop} (hS : St w os h₀ l gl s) (hi : l[i]? = some (a, P)) : ∃ h₀' o, Le h₀ h₀' ∧ h₀'.get? a = some o ∧ P o ∧ St w os h₀' (l.eraseIdx i) gl s := by
  obtain ⟨hl, e⟩ := List.getElem?_eq_some_iff.mp hi
  have : ((a, P) :: l.eraseIdx i).Perm l := by
    rw [List.eraseIdx_eq_take_drop_succ]
    refine List.perm_middle.symm.trans ?_
    rw [← e, List.getElem_cons_drop, List.take_append_drop]
  exact (hS.perm this).froze
theorem r_popLine {d : Addr} {kw : List (Str × Value)} {line : Value} {t : Tok} {Q : Value → Shared → Prop} (hk : LineIs kw line) (hS : St w os h₀ l gl s) (hi : l[i]? = some (d, DO prog w kw)) (hd : (d == sysModules) = false)
    (h : ∀ s', St w os h₀ (l.set i (d, DO prog w [])) gl s' → Q line s') : wpAny (model prog w) A (call (.builtin "dict.pop") [.ref d, .str (Str.ofString "lineno") t, .none]) Q E s := by
  rcases hk with ⟨rfl, rfl⟩ | rfl
  · refine r_popDefault hS hi hd rfl fun s' hS => h s' ?_
    exact hS.weak hi fun _ x => x
  · refine r_popThere hS hi (by simp) (v := line) (by unfold valueAt; simp) fun s' hS => h s' ?_
    have : without [(Str.ofString "lineno", line)] (Str.ofString "lineno") = [] := by unfold without; simp
    rw [this] at hS
    exact hS
set_option maxHeartbeats 4000000
theorem ni_body {C ft x dx t d : Addr} {names : List String} {vs : List Value} {kw : List (Str × Value)} {line : Value} (cl : Cl w.params C ft names) (mk : Mk w.params C) (hh : A.handled = none)
    (hvs : vs.length = names.length) (hnd : names.Nodup) (hnl : names.length ≤ 900) (hpos : 1 ≤ names.length) (hk : LineIs kw line) (hd : (d == sysModules) = false)
    (hS : St w os h₀ ((L, NsO (niAl x t d)) :: (t, TuO vs) :: (d, DO prog w kw) :: (x, InO C dx) :: (dx, (· = emptyDict)) :: l) gl s)
    (h : ∀ h₀' s' d' vd od, Le h₀ h₀' → NodeAt prog w h₀' x C d' vd od (valueAt (List.zip (names.map Str.ofString) vs)) line → St w os h₀' l gl s' → R (.ok (.ret .none)) s') :
    wpAny (model prog w) A (execs (bodOf (mth 3 4)) (niEnv L)) (fun fl s'' => R (.ok (.ret (match fl with | .ret v => v | _ => .none))) s'') (fun _ _ => False) s := by
  conv in bodOf _ => whnf
  obtain ⟨h₁, oo, hk₁, ho, rfl, hS⟩ := hS.freezeAt (i := 1) rfl
  replace hS : St w os h₁ ((L, NsO (niAl x t d)) :: (d, DO prog w kw) :: (x, InO C dx) :: (dx, (· = emptyDict)) :: l) gl s := hS
  have ht : h₁.IsTuple t vs.toArray := ⟨_, ho, rfl, ⟨0, rfl⟩⟩
  repeat (walk_at "s1")
  refine plainObj_wpAny_Assign_Attribute (wpAny_Dict_empty ?_) (by rfl)
  have hvd := hS.mods
  replace hS := hS.push2 (s' := { s with heap := s.heap.push emptyDict }) (P := DO prog w []) rfl isEmptyDict rfl rfl rfl
  generalize s.heap.objs.size = vd at hS hvd
  repeat (walk_at "s1")
  refine r_setInst (i := 3) (j := 4) (P' := fun o => ∃ h1 t1, o = od1 vd h1 t1 1) mk mk.t1 hS rfl rfl rfl (by rfl) (fun hs tk => ⟨⟨hs, tk, put1 ..⟩, by rw [put1]; rfl, ⟨_, _, by rw [put1], by simp⟩⟩) fun s' hS => ?_
  obtain ⟨_, ⟨h1, t1, rfl⟩, hS⟩ := hS.pin (i := 4) rfl
  replace hS : St w os h₁ ((L, NsO (niAl x t d)) :: (vd, DO prog w []) :: (d, DO prog w kw) :: (x, InO C dx) :: (dx, (· = od1 vd h1 t1 1)) :: l) gl s' := hS
  repeat (walk_at "s1")
  have hne : (!vs.toArray.isEmpty) = true := by cases vs with | nil => simp at hvs; omega | cons => rfl
  refine r_truthyT hS ht (by simp; omega) fun s' hS => ?_
  rw [hne]
  repeat (walk_at "s1")
  refine r_lenT hS ht (by simp; omega) fun s' k₁ hS => ?_
  repeat (walk_at "s1")
  have hga : ∀ {s : Shared} {l : List Cell} {i j : Nat} {Q : Value → Shared → Prop} {E : Value → Shared → Prop} {expr : Bool} {A : Around}, St w os h₁ l gl s → l[i]? = some (x, InO C dx) → l[j]? = some (dx, (· = od1 vd h1 t1 1)) → (∀ s', St w os h₁ l gl s' → Q (.ref ft) s') → wpAny (model prog w) A (getAttr (.ref x) (Str.ofString "fields") expr) Q E s :=
    fun hS hi hj h => get_value (hS.bs.K.keeps hS.hp.keep) (hS.instOf hi hj) cl.ga (by rw [cl.flds, look1 (by decide)]; rfl) rfl (h _ hS.toks)
  refine hga hS (i := 3) (j := 4) rfl rfl fun s' hS => ?_
  obtain ⟨ts, hts, hft⟩ := tuple_at cl hS.bs.K
  repeat (walk_at "s1")
  refine r_lenT hS hft (by simp [hts]; omega) fun s' k₂ hS => ?_
  repeat (walk_at "s1")
  refine PyProof.Rows.ne_int ?_
  rw [show ((vs.toArray.size : Int) != ((List.zipWith (fun (n : String) t => Value.str (Str.ofString n) t) names ts).toArray.size : Nat)) = false by simp [hts, hvs]]
  repeat (walk_at "s1")
  refine wpAny_For ?_
  repeat (walk_at "s1")
  refine hga hS (i := 3) (j := 4) rfl rfl fun s' hS => ?_
  repeat (walk_at "s1")
  refine r_newZip hS hft ht fun z TI TO i1 i2 s' hS => ?_
  refine r_iterZip hS (i := 0) rfl ?_
  refine ni_loop (os := os) (gl := gl) (x := x) (dx := dx) (vd := vd) (d := d) (h1 := h1) (t1 := t1) (vs := vs) cl hh hts hvs hnd hnl hft ht names.length 0 z TI TO i1 i2 .none .none s' (by omega) (l := (d, DO prog w kw) :: l) ?_ fun s' hS => ?_
  · rw [List.take_zero]
    refine hS.perm ?_
    have p := List.perm_append_comm (l₁ := [((x, InO C dx) : Cell), (dx, (· = od1 vd h1 t1 1))]) (l₂ := [((vd, DO prog w []) : Cell), (d, DO prog w kw)])
    exact ((p.append_right l).cons _).append_left _
  repeat (walk_at "s1")
  refine plainObj_wpAny_Assign_Attribute ?_ (by rfl)
  repeat (walk_at "s1")
  refine r_method_dict hS (i := 4) rfl PySem.F.slot_dict_pop PySem.F.type_dict_pop ?_
  repeat (walk_at "s1")
  refine r_popLine hk hS (i := 4) rfl hd fun s' hS => ?_
  repeat (walk_at "s1")
  refine r_setInst (i := 1) (j := 2) (P' := fun o => ∃ h2 t2, o = od2 vd line h1 h2 t1 t2 2) mk mk.t2 hS rfl rfl rfl (by rfl) (fun hs tk => ⟨⟨hs, tk, put2 ..⟩, by rw [put2]; rfl, ⟨_, _, by rw [put2], by simp⟩⟩) fun s' hS => ?_
  obtain ⟨_, ⟨h2, t2, rfl⟩, hS⟩ := hS.pin (i := 2) rfl
  replace hS : St w os h₁ ((L, NsO (niAl x t d)) :: (x, InO C dx) :: (dx, (· = od2 vd line h1 h2 t1 t2 2)) :: (vd, DO prog w (List.zip (names.map Str.ofString) vs)) :: (d, DO prog w []) :: l) gl s' := hS
  repeat (walk_at "s1")
  refine plainObj_wpAny_Assign_Attribute ?_ (by rfl)
  repeat (walk_at "s1")
  refine r_method_dict hS (i := 4) rfl PySem.F.slot_dict_pop PySem.F.type_dict_pop ?_
  repeat (walk_at "s1")
  refine r_popDefault hS (i := 4) rfl hd rfl fun s' hS => ?_
  repeat (walk_at "s1")
  refine r_setInst (i := 1) (j := 2) (P' := fun o => ∃ h3 t3, o = nodeDict vd line h1 h2 h3 t1 t2 t3 3) mk mk.t3 hS rfl rfl rfl (by rfl) (fun hs tk => ⟨⟨hs, tk, put3 ..⟩, by rw [put3]; rfl, ⟨_, _, by rw [put3], by simp⟩⟩) fun s' hS => ?_
  replace hS : St w os h₁ ((L, NsO (niAl x t d)) :: (x, InO C dx) :: (dx, fun o => ∃ h3 t3, o = nodeDict vd line h1 h2 h3 t1 t2 t3 3) :: (vd, DO prog w (List.zip (names.map Str.ofString) vs)) :: (d, DO prog w []) :: l) gl s' := hS
  repeat (walk_at "s1")
  refine r_truthyD hS (i := 4) rfl hd (by simp) fun s' hS => ?_
  rw [show (!([] : List (Str × Value)).isEmpty) = false from rfl]
  repeat (walk_at "s1")
  obtain ⟨h₂, _, hk₂, hx, rfl, hS⟩ := hS.freezeAt (i := 1) rfl
  replace hS : St w os h₂ ((L, NsO (niAl x t d)) :: (dx, fun o => ∃ h3 t3, o = nodeDict vd line h1 h2 h3 t1 t2 t3 3) :: (vd, DO prog w (List.zip (names.map Str.ofString) vs)) :: (d, DO prog w []) :: l) gl s' := hS
  obtain ⟨h₃, _, hk₃, hdx, ⟨h3, t3, rfl⟩, hS⟩ := hS.freezeAt (i := 1) rfl
  replace hS : St w os h₃ ((L, NsO (niAl x t d)) :: (vd, DO prog w (List.zip (names.map Str.ofString) vs)) :: (d, DO prog w []) :: l) gl s' := hS
  obtain ⟨h₄, _, hk₄, hvo, hvd', hS⟩ := hS.freezeAt (i := 1) rfl
  replace hS : St w os h₄ ((L, NsO (niAl x t d)) :: (d, DO prog w []) :: l) gl s' := hS
  refine h h₄ s' dx vd _ (((hk₁.trans hk₂).trans hk₃).trans hk₄) ⟨hk₄ _ _ (hk₃ _ _ hx), hk₄ _ _ hdx, ⟨h1, h2, h3, t1, t2, t3, 3, rfl⟩, (Heap.dictOf_iff.mpr ⟨_, hvo, hvd'⟩).mapOf, hvd⟩ (hS.sub (((List.Sublist.refl l).cons _).cons _))
-- a node is made: the class is called with a value for each of its fields
theorem node_made {C ft : Addr} {names : List String} {vs : List Value} {kw : List (Str × Value)} {line : Value} (cl : Cl w.params C ft names) (mk : Mk w.params C) (hh : A.handled = none) (hdep : A.depth < 890)
    (hvs : vs.length = names.length) (hnd : names.Nodup) (hnl : names.length ≤ 6) (hpos : 1 ≤ names.length) (hk : LineIs kw line) (hb : ∀ x, bindArgs fd51 ⟨.ref x :: vs, kw⟩ = bindRes x vs kw) (hS : St w os h₀ l gl s)
    (h : ∀ x h₀' s' d' vd od, Le h₀ h₀' → h₀.get? x = none → NodeAt prog w h₀' x C d' vd od (valueAt (List.zip (names.map Str.ofString) vs)) line → St w os h₀' l gl s' → R (.ok (.ret (.ref x))) s') :
    codeAny (model prog w) A (.call (.ref C) ⟨vs, kw⟩) R s := by
  refine r_make mk hS fun x dx s' hS => ?_
  have hxn : h₀.get? x = none := let ⟨_, _, _, q⟩ := hS.hp.at (i := 0) rfl; q
  have hrun : ∀ {binds : List (Str × Value)} {t d : Addr} {s₁ : Shared}, binds = [(Str.ofString "self", .ref x), (Str.ofString "fields", .ref t), (Str.ofString "attributes", .ref d)] → (d == sysModules) = false → St w os h₀ ((t, TuO vs) :: (d, DO prog w kw) :: (x, InO C dx) :: (dx, (· = emptyDict)) :: l) gl s₁ →
      ∃ l' al, St w os h₀ l' gl s₁ ∧ (∀ y ∈ binds, fd51.scope.names.lookup y.1 = some .local) ∧ (∀ y, binds.reverse.lookup y = getV al y) ∧
      ∀ L s', St w os h₀ ((L, NsO al) :: l') gl s' → wpAny (model prog w) ((A.under (.builtin "type.__call__" ⟨.ref C :: vs, kw⟩)).deeper (callEnv fd51 L 51)) (execs (bodOf (mth 3 4)) (callEnv fd51 L 51)) (fun fl s'' => InitBack x R (.ok (.ret (match fl with | .ret v => v | _ => .none))) s'') (fun _ _ => False) s' := by
    intro binds t d s₁ hbd hd hS
    subst hbd
    refine ⟨_, niAl x t d, hS, locs rfl, al_cons (al_cons (al_cons al_nil)), fun L s' hS => ?_⟩
    refine ni_body cl mk ?_ hvs hnd (by omega) hpos hk hd hS fun h₀' s' d' vd od hle na hS => ?_
    · exact hh
    · exact ⟨rfl, h x h₀' s' d' vd od hle hxn na hS⟩
  refine r_callB (fd := fd51) (body := bodOf (mth 3 4)) hS (k51 _) (c51 _) ?_ rfl (by decide +kernel) ?_
  · have hw : (Code.builtin "type.__call__" ⟨.ref C :: vs, kw⟩).weight ≤ 3 := by
      unfold Code.weight Code.frames Code.isCreation Code.isGuard Code.isCaller
      simp
      split <;> split <;> omega
    show A.depth + _ < recursionLimit
    simp only [recursionLimit]
    omega
  rw [hb x]
  rcases hk with ⟨rfl, rfl⟩ | rfl
  · exact r_bind0 hS (by omega) fun t d s' hd hS => hrun rfl hd hS
  · exact r_bind1 hS (by omega) fun t d s' hd hS => hrun rfl hd hS
end
end

section
open PySem PySem.W PySem.Calls PyProof.Rows Builtin.ObjectAttr
theorem cl_template (P : Params) : Cl P 166 163 ["body"] := by (
  refine ⟨by kernel_rfl, by kernel_rfl, by intro od; kernel_rfl, by intro od; kernel_rfl, by intro od; kernel_rfl, ?_, by intro od; kernel_rfl, by intro od; kernel_rfl, by intro od; kernel_rfl, by decide, by kernel_rfl, by kernel_rfl, by kernel_rfl, by kernel_rfl, ⟨[386], by rfl, by kernel_rfl⟩⟩
  simp only [List.forall_mem_cons, List.not_mem_nil, false_implies, implies_true, and_true]
  (repeat' apply And.intro) <;> (intro od; kernel_rfl))
theorem mk_template (P : Params) : Mk P 166 := by exact ⟨by kernel_rfl, by kernel_rfl, by kernel_rfl, by kernel_rfl, by kernel_rfl, by kernel_rfl, by kernel_rfl, by kernel_rfl⟩
theorem cl_output (P : Params) : Cl P 179 176 ["nodes"] := by (
  refine ⟨by kernel_rfl, by kernel_rfl, by intro od; kernel_rfl, by intro od; kernel_rfl, by intro od; kernel_rfl, ?_, by intro od; kernel_rfl, by intro od; kernel_rfl, by intro od; kernel_rfl, by decide, by kernel_rfl, by kernel_rfl, by kernel_rfl, by kernel_rfl, ⟨[404], by rfl, by kernel_rfl⟩⟩
  simp only [List.forall_mem_cons, List.not_mem_nil, false_implies, implies_true, and_true]
  (repeat' apply And.intro) <;> (intro od; kernel_rfl))
theorem mk_output (P : Params) : Mk P 179 := by exact ⟨by kernel_rfl, by kernel_rfl, by kernel_rfl, by kernel_rfl, by kernel_rfl, by kernel_rfl, by kernel_rfl, by kernel_rfl⟩
theorem cl_extends (P : Params) : Cl P 192 189 ["template"] := by (
  refine ⟨by kernel_rfl, by kernel_rfl, by intro od; kernel_rfl, by intro od; kernel_rfl, by intro od; kernel_rfl, ?_, by intro od; kernel_rfl, by intro od; kernel_rfl, by intro od; kernel_rfl, by decide, by kernel_rfl, by kernel_rfl, by kernel_rfl, by kernel_rfl, ⟨[422], by rfl, by kernel_rfl⟩⟩
  simp only [List.forall_mem_cons, List.not_mem_nil, false_implies, implies_true, and_true]
  (repeat' apply And.intro) <;> (intro od; kernel_rfl))
theorem mk_extends (P : Params) : Mk P 192 := by exact ⟨by kernel_rfl, by kernel_rfl, by kernel_rfl, by kernel_rfl, by kernel_rfl, by kernel_rfl, by kernel_rfl, by kernel_rfl⟩
theorem cl_for (P : Params) : Cl P 205 202 ["target", "iter", "body", "else_", "test", "recursive"] := by (
  refine ⟨by kernel_rfl, by kernel_rfl, by intro od; kernel_rfl, by intro od; kernel_rfl, by intro od; kernel_rfl, ?_, by intro od; kernel_rfl, by intro od; kernel_rfl, by intro od; kernel_rfl, by decide, by kernel_rfl, by kernel_rfl, by kernel_rfl, by kernel_rfl, ⟨[440, 441, 442, 443, 444, 445], by rfl, by kernel_rfl⟩⟩
  simp only [List.forall_mem_cons, List.not_mem_nil, false_implies, implies_true, and_true]
  (repeat' apply And.intro) <;> (intro od; kernel_rfl))
theorem mk_for (P : Params) : Mk P 205 := by exact ⟨by kernel_rfl, by kernel_rfl, by kernel_rfl, by kernel_rfl, by kernel_rfl, by kernel_rfl, by kernel_rfl, by kernel_rfl⟩
theorem cl_if (P : Params) : Cl P 218 215 ["test", "body", "elif_", "else_"] := by (
  refine ⟨by kernel_rfl, by kernel_rfl, by intro od; kernel_rfl, by intro od; kernel_rfl, by intro od; kernel_rfl, ?_, by intro od; kernel_rfl, by intro od; kernel_rfl, by intro od; kernel_rfl, by decide, by kernel_rfl, by kernel_rfl, by kernel_rfl, by kernel_rfl, ⟨[463, 464, 465, 466], by rfl, by kernel_rfl⟩⟩
  simp only [List.forall_mem_cons, List.not_mem_nil, false_implies, implies_true, and_true]
  (repeat' apply And.intro) <;> (intro od; kernel_rfl))
theorem mk_if (P : Params) : Mk P 218 := by exact ⟨by kernel_rfl, by kernel_rfl, by kernel_rfl, by kernel_rfl, by kernel_rfl, by kernel_rfl, by kernel_rfl, by kernel_rfl⟩
theorem cl_mac (P : Params) : Cl P 231 228 ["name", "args", "defaults", "body"] := by (
  refine ⟨by kernel_rfl, by kernel_rfl, by intro od; kernel_rfl, by intro od; kernel_rfl, by intro od; kernel_rfl, ?_, by intro od; kernel_rfl, by intro od; kernel_rfl, by intro od; kernel_rfl, by decide, by kernel_rfl, by kernel_rfl, by kernel_rfl, by kernel_rfl, ⟨[484, 485, 486, 487], by rfl, by kernel_rfl⟩⟩
  simp only [List.forall_mem_cons, List.not_mem_nil, false_implies, implies_true, and_true]
  (repeat' apply And.intro) <;> (intro od; kernel_rfl))
theorem mk_mac (P : Params) : Mk P 231 := by exact ⟨by kernel_rfl, by kernel_rfl, by kernel_rfl, by kernel_rfl, by kernel_rfl, by kernel_rfl, by kernel_rfl, by kernel_rfl⟩
theorem cl_block (P : Params) : Cl P 244 241 ["name", "body", "scoped", "required"] := by (
  refine ⟨by kernel_rfl, by kernel_rfl, by intro od; kernel_rfl, by intro od; kernel_rfl, by intro od; kernel_rfl, ?_, by intro od; kernel_rfl, by intro od; kernel_rfl, by intro od; kernel_rfl, by decide, by kernel_rfl, by kernel_rfl, by kernel_rfl, by kernel_rfl, ⟨[505, 506, 507, 508], by rfl, by kernel_rfl⟩⟩
  simp only [List.forall_mem_cons, List.not_mem_nil, false_implies, implies_true, and_true]
  (repeat' apply And.intro) <;> (intro od; kernel_rfl))
theorem mk_block (P : Params) : Mk P 244 := by exact ⟨by kernel_rfl, by kernel_rfl, by kernel_rfl, by kernel_rfl, by kernel_rfl, by kernel_rfl, by kernel_rfl, by kernel_rfl⟩
theorem cl_include (P : Params) : Cl P 257 254 ["template", "with_context", "ignore_missing"] := by (
  refine ⟨by kernel_rfl, by kernel_rfl, by intro od; kernel_rfl, by intro od; kernel_rfl, by intro od; kernel_rfl, ?_, by intro od; kernel_rfl, by intro od; kernel_rfl, by intro od; kernel_rfl, by decide, by kernel_rfl, by kernel_rfl, by kernel_rfl, by kernel_rfl, ⟨[526, 527, 528], by rfl, by kernel_rfl⟩⟩
  simp only [List.forall_mem_cons, List.not_mem_nil, false_implies, implies_true, and_true]
  (repeat' apply And.intro) <;> (intro od; kernel_rfl))
theorem mk_include (P : Params) : Mk P 257 := by exact ⟨by kernel_rfl, by kernel_rfl, by kernel_rfl, by kernel_rfl, by kernel_rfl, by kernel_rfl, by kernel_rfl, by kernel_rfl⟩
theorem cl_imp (P : Params) : Cl P 270 267 ["template", "target", "with_context"] := by (
  refine ⟨by kernel_rfl, by kernel_rfl, by intro od; kernel_rfl, by intro od; kernel_rfl, by intro od; kernel_rfl, ?_, by intro od; kernel_rfl, by intro od; kernel_rfl, by intro od; kernel_rfl, by decide, by kernel_rfl, by kernel_rfl, by kernel_rfl, by kernel_rfl, ⟨[546, 547, 548], by rfl, by kernel_rfl⟩⟩
  simp only [List.forall_mem_cons, List.not_mem_nil, false_implies, implies_true, and_true]
  (repeat' apply And.intro) <;> (intro od; kernel_rfl))
theorem mk_imp (P : Params) : Mk P 270 := by exact ⟨by kernel_rfl, by kernel_rfl, by kernel_rfl, by kernel_rfl, by kernel_rfl, by kernel_rfl, by kernel_rfl, by kernel_rfl⟩
theorem cl_fimp (P : Params) : Cl P 283 280 ["template", "names", "with_context"] := by (
  refine ⟨by kernel_rfl, by kernel_rfl, by intro od; kernel_rfl, by intro od; kernel_rfl, by intro od; kernel_rfl, ?_, by intro od; kernel_rfl, by intro od; kernel_rfl, by intro od; kernel_rfl, by decide, by kernel_rfl, by kernel_rfl, by kernel_rfl, by kernel_rfl, ⟨[566, 567, 568], by rfl, by kernel_rfl⟩⟩
  simp only [List.forall_mem_cons, List.not_mem_nil, false_implies, implies_true, and_true]
  (repeat' apply And.intro) <;> (intro od; kernel_rfl))
theorem mk_fimp (P : Params) : Mk P 283 := by exact ⟨by kernel_rfl, by kernel_rfl, by kernel_rfl, by kernel_rfl, by kernel_rfl, by kernel_rfl, by kernel_rfl, by kernel_rfl⟩
theorem cl_name (P : Params) : Cl P 330 320 ["name", "ctx"] := by (
  refine ⟨by kernel_rfl, by kernel_rfl, by intro od; kernel_rfl, by intro od; kernel_rfl, by intro od; kernel_rfl, ?_, by intro od; kernel_rfl, by intro od; kernel_rfl, by intro od; kernel_rfl, by decide, by kernel_rfl, by kernel_rfl, by kernel_rfl, by kernel_rfl, ⟨[618, 619], by rfl, by kernel_rfl⟩⟩
  simp only [List.forall_mem_cons, List.not_mem_nil, false_implies, implies_true, and_true]
  (repeat' apply And.intro) <;> (intro od; kernel_rfl))
theorem mk_name (P : Params) : Mk P 330 := by exact ⟨by kernel_rfl, by kernel_rfl, by kernel_rfl, by kernel_rfl, by kernel_rfl, by kernel_rfl, by kernel_rfl, by kernel_rfl⟩
theorem cl_tuple (P : Params) : Cl P 402 384 ["items", "ctx"] := by (
  refine ⟨by kernel_rfl, by kernel_rfl, by intro od; kernel_rfl, by intro od; kernel_rfl, by intro od; kernel_rfl, ?_, by intro od; kernel_rfl, by intro od; kernel_rfl, by intro od; kernel_rfl, by decide, by kernel_rfl, by kernel_rfl, by kernel_rfl, by kernel_rfl, ⟨[709, 710], by rfl, by kernel_rfl⟩⟩
  simp only [List.forall_mem_cons, List.not_mem_nil, false_implies, implies_true, and_true]
  (repeat' apply And.intro) <;> (intro od; kernel_rfl))
theorem mk_tuple (P : Params) : Mk P 402 := by exact ⟨by kernel_rfl, by kernel_rfl, by kernel_rfl, by kernel_rfl, by kernel_rfl, by kernel_rfl, by kernel_rfl, by kernel_rfl⟩
theorem cl_list (P : Params) : Cl P 423 412 ["items"] := by (
  refine ⟨by kernel_rfl, by kernel_rfl, by intro od; kernel_rfl, by intro od; kernel_rfl, by intro od; kernel_rfl, ?_, by intro od; kernel_rfl, by intro od; kernel_rfl, by intro od; kernel_rfl, by decide, by kernel_rfl, by kernel_rfl, by kernel_rfl, by kernel_rfl, ⟨[743], by rfl, by kernel_rfl⟩⟩
  simp only [List.forall_mem_cons, List.not_mem_nil, false_implies, implies_true, and_true]
  (repeat' apply And.intro) <;> (intro od; kernel_rfl))
theorem mk_list (P : Params) : Mk P 423 := by exact ⟨by kernel_rfl, by kernel_rfl, by kernel_rfl, by kernel_rfl, by kernel_rfl, by kernel_rfl, by kernel_rfl, by kernel_rfl⟩
theorem cl_keyword (P : Params) : Cl P 444 433 ["key", "value"] := by (
  refine ⟨by kernel_rfl, by kernel_rfl, by intro od; kernel_rfl, by intro od; kernel_rfl, by intro od; kernel_rfl, ?_, by intro od; kernel_rfl, by intro od; kernel_rfl, by intro od; kernel_rfl, by decide, by kernel_rfl, by kernel_rfl, by kernel_rfl, by kernel_rfl, ⟨[769, 770], by rfl, by kernel_rfl⟩⟩
  simp only [List.forall_mem_cons, List.not_mem_nil, false_implies, implies_true, and_true]
  (repeat' apply And.intro) <;> (intro od; kernel_rfl))
theorem mk_keyword (P : Params) : Mk P 444 := by exact ⟨by kernel_rfl, by kernel_rfl, by kernel_rfl, by kernel_rfl, by kernel_rfl, by kernel_rfl, by kernel_rfl, by kernel_rfl⟩
theorem cl_call (P : Params) : Cl P 457 454 ["node", "args", "kwargs", "dyn_args", "dyn_kwargs"] := by (
  refine ⟨by kernel_rfl, by kernel_rfl, by intro od; kernel_rfl, by intro od; kernel_rfl, by intro od; kernel_rfl, ?_, by intro od; kernel_rfl, by intro od; kernel_rfl, by intro od; kernel_rfl, by decide, by kernel_rfl, by kernel_rfl, by kernel_rfl, by kernel_rfl, ⟨[796, 797, 798, 799, 800], by rfl, by kernel_rfl⟩⟩
  simp only [List.forall_mem_cons, List.not_mem_nil, false_implies, implies_true, and_true]
  (repeat' apply And.intro) <;> (intro od; kernel_rfl))
theorem mk_call (P : Params) : Mk P 457 := by exact ⟨by kernel_rfl, by kernel_rfl, by kernel_rfl, by kernel_rfl, by kernel_rfl, by kernel_rfl, by kernel_rfl, by kernel_rfl⟩
theorem cl_getattr (P : Params) : Cl P 478 467 ["node", "attr", "ctx"] := by (
  refine ⟨by kernel_rfl, by kernel_rfl, by intro od; kernel_rfl, by intro od; kernel_rfl, by intro od; kernel_rfl, ?_, by intro od; kernel_rfl, by intro od; kernel_rfl, by intro od; kernel_rfl, by decide, by kernel_rfl, by kernel_rfl, by kernel_rfl, by kernel_rfl, ⟨[818, 819, 820], by rfl, by kernel_rfl⟩⟩
  simp only [List.forall_mem_cons, List.not_mem_nil, false_implies, implies_true, and_true]
  (repeat' apply And.intro) <;> (intro od; kernel_rfl))
theorem mk_getattr (P : Params) : Mk P 478 := by exact ⟨by kernel_rfl, by kernel_rfl, by kernel_rfl, by kernel_rfl, by kernel_rfl, by kernel_rfl, by kernel_rfl, by kernel_rfl⟩
end

section
open PySem PySem.W PySem.Calls PyProof.Rows Builtin.ObjectAttr
theorem Fo.mono {prog : Program} {w : World} {h : Heap} : ∀ {xs ds : List Addr} {n m : Nat}, Fo prog w h xs ds n → n ≤ m → Fo prog w h xs ds m
  | _, _, _, _, .nil, _ => .nil
  | _, _, _, m, .cons (n := n) a b c, hm => by
    obtain ⟨k, rfl⟩ : ∃ k, m = k + 1 := ⟨m - 1, by omega⟩
    exact .cons a (Fo.mono b (by omega)) (Fo.mono c (by omega))
theorem Fo.append {prog : Program} {w : World} {h : Heap} {ys es : List Addr} {n : Nat} (y : Fo prog w h ys es n) : ∀ {xs ds : List Addr}, Fo prog w h xs ds n → Fo prog w h (xs ++ ys) (ds ++ es) n
  | _, _, .nil => y
  | _, _, .cons a b c => by
    have := Fo.cons a b (Fo.append y c)
    simpa using this
theorem Out.append {w : World} {h : Heap} {nt : Value} {es p : List Addr} (y : Out w h nt es p) : ∀ {ds o : List Addr}, Out w h nt ds o → Out w h nt (ds ++ es) (o ++ p)
  | _, _, .nil => y
  | _, _, .keep a b => .keep a (Out.append y b)
  | _, _, .drop a b => .drop a (Out.append y b)
theorem RefsL.append {prog : Program} {w : World} {h : Heap} {zs : List Addr} {p : List (Option Str)} (z : RefsL prog w h zs p) : ∀ {ys : List Addr} {o : List (Option Str)}, RefsL prog w h ys o → RefsL prog w h (ys ++ zs) (o ++ p)
  | _, _, .nil => z
  | _, _, .cons a b => by have := RefsL.cons a (RefsL.append z b); simpa using this
theorem CallsL.append {prog : Program} {w : World} {h : Heap} {zs : List Addr} {p : List Cll} (z : CallsL prog w h zs p) : ∀ {ys : List Addr} {o : List Cll}, CallsL prog w h ys o → CallsL prog w h (ys ++ zs) (o ++ p)
  | _, _, .nil => z
  | _, _, .cons a b => .cons a (CallsL.append z b)
-- a forest with what is told of it
structure FT (prog : Program) (w : World) (h : Heap) (xs : List Addr) (n : Nat) (refs : List (Option Str)) (calls : List Cll) : Prop where
  e : ∃ ds o1 o2, Fo prog w h xs ds n ∧ Out w h (.ref 490) ds o1 ∧ RefsL prog w h o1 refs ∧ Out w h (.ref 457) ds o2 ∧ CallsL prog w h o2 calls
theorem FT.le {prog : Program} {w : World} {h h' : Heap} {xs : List Addr} {n : Nat} {refs : List (Option Str)} {calls : List Cll} (x : FT prog w h xs n refs calls) (k : Le h h') : FT prog w h' xs n refs calls :=
  let ⟨ds, o1, o2, a, b, c, d, e⟩ := x.e; ⟨ds, o1, o2, a.le k, b.le k, c.le k, d.le k, e.le k⟩
theorem FT.mono {prog : Program} {w : World} {h : Heap} {xs : List Addr} {n m : Nat} {refs : List (Option Str)} {calls : List Cll} (x : FT prog w h xs n refs calls) (k : n ≤ m) : FT prog w h xs m refs calls :=
  let ⟨ds, o1, o2, a, r⟩ := x.e; ⟨ds, o1, o2, a.mono k, r⟩
theorem FT.nil {prog : Program} {w : World} {h : Heap} {n : Nat} : FT prog w h [] n [] [] := ⟨[], [], [], .nil, .nil, .nil, .nil, .nil⟩
theorem FT.append {prog : Program} {w : World} {h : Heap} {xs ys : List Addr} {n : Nat} {r r' : List (Option Str)} {c c' : List Cll} (x : FT prog w h xs n r c) (y : FT prog w h ys n r' c') : FT prog w h (xs ++ ys) n (r ++ r') (c ++ c') := by
  obtain ⟨ds, o1, o2, a, b, c, d, e⟩ := x.e
  obtain ⟨ds', o1', o2', a', b', c', d', e'⟩ := y.e
  exact ⟨ds ++ ds', o1 ++ o1', o2 ++ o2', a'.append a, b'.append b, c'.append c, d'.append d, e'.append e⟩
-- what a node itself tells
def SelfR (prog : Program) (w : World) (h : Heap) (x : Addr) (r : List (Option Str)) : Prop := (IsI w h (.ref 490) x false ∧ r = []) ∨ (IsI w h (.ref 490) x true ∧ RefAt prog w h x r)
def SelfC (prog : Program) (w : World) (h : Heap) (x : Addr) (c : List Cll) : Prop := (IsI w h (.ref 457) x false ∧ c = []) ∨ ∃ k, IsI w h (.ref 457) x true ∧ CallAt prog w h x k ∧ c = [k]
theorem FT.one {prog : Program} {w : World} {h : Heap} {x : Addr} {ks : List Addr} {n : Nat} {r r' : List (Option Str)} {c c' : List Cll} (nk : NodeK prog w h x ks) (f : FT prog w h ks n r' c') (hr : SelfR prog w h x r) (hc : SelfC prog w h x c) : FT prog w h [x] (n + 1) (r ++ r') (c ++ c') := by
  obtain ⟨ds, o1, o2, a, b, cc, d, e⟩ := f.e
  have hF : Fo prog w h [x] (x :: (ds ++ [])) (n + 1) := .cons nk a .nil
  rw [List.append_nil] at hF
  rcases hr with ⟨i1, rfl⟩ | ⟨i1, ra⟩ <;> rcases hc with ⟨i2, rfl⟩ | ⟨k, i2, ca, rfl⟩
  · exact ⟨x :: ds, o1, o2, hF, .drop i1 b, cc, .drop i2 d, e⟩
  · exact ⟨x :: ds, o1, x :: o2, hF, .drop i1 b, cc, .keep i2 d, .cons ca e⟩
  · exact ⟨x :: ds, x :: o1, o2, hF, .keep i1 b, .cons ra cc, .drop i2 d, e⟩
  · exact ⟨x :: ds, x :: o1, x :: o2, hF, .keep i1 b, .cons ra cc, .keep i2 d, .cons ca e⟩
-- a node just made
def Made (prog : Program) (w : World) (h : Heap) (x C : Addr) (names : List String) (vs : List Value) (line : Value) : Prop :=
  ∃ ft d vd od, Cl w.params C ft names ∧ NodeAt prog w h x C d vd od (valueAt (List.zip (names.map Str.ofString) vs)) line
theorem Made.t {prog : Program} {w : World} {h : Heap} {x C : Addr} {names : List String} {vs : List Value} {line : Value} (m : Made prog w h x C names vs line) : NodeT prog w h x C := let ⟨ft, d, vd, od, c, a⟩ := m; ⟨ft, names, d, vd, od, _, line, c, a⟩
theorem Made.field {prog : Program} {w : World} {h : Heap} {x C : Addr} {names : List String} {vs : List Value} {line v : Value} (m : Made prog w h x C names vs line) {n : String} (hn : n ∈ names) (hv : valueAt (List.zip (names.map Str.ofString) vs) (Str.ofString n) = some v) (hh : handedIn v = true) : FieldAt prog w h x n v :=
  let ⟨ft, d, vd, od, c, a⟩ := m; ⟨C, ft, names, d, vd, od, _, line, c, a, hn, hv, hh⟩
theorem Made.k {prog : Program} {w : World} {h : Heap} {x C : Addr} {names : List String} {vs : List Value} {line : Value} {ks : List Addr} (m : Made prog w h x C names vs line) (hnd : names.Nodup) (hlen : vs.length = names.length) (hok : ∀ n ∈ names, okName n = true) (hh : ∀ v ∈ vs, handedIn v = true)
    (hk : KidsP w h (List.zip names vs) ks) (h1 : kitOne (KK w.params) (.ref C) (.type "list") = some false) (h2 : kitOne (KK w.params) (.ref C) (.ref 127) = some true) : NodeK prog w h x ks := by
  obtain ⟨ft, d, vd, od, c, a⟩ := m
  have key : ∀ (names : List String) (vs : List Value), names.Nodup → vs.length = names.length → ∀ i (hi : i < names.length) (hv : i < vs.length), valueAt (List.zip (names.map Str.ofString) vs) (Str.ofString names[i]) = some vs[i] := by
    intro names
    induction names with
    | nil => intro vs _ _ i hi; simp at hi
    | cons n ns ih =>
      intro vs hnd hlen i hi hv
      cases vs with
      | nil => simp at hv
      | cons v vs =>
        cases i with
        | zero => simp [valueAt]
        | succ i =>
          have hi' : i < ns.length := by simpa using hi
          have hne : Str.ofString n ≠ Str.ofString (ns[i]'hi') := fun e => (List.nodup_cons.mp hnd).1 (by rw [ofString_inj e]; exact List.getElem_mem _)
          have := ih vs (List.nodup_cons.mp hnd).2 (by simpa using hlen) i (by simpa using hi) (by simpa using hv)
          simpa [valueAt, hne] using this
  refine ⟨C, ft, names, d, vd, od, _, line, fun n => (valueAt (List.zip (names.map Str.ofString) vs) (Str.ofString n)).getD .none, c, a, hok, fun n hn => ?_, ?_, h1, h2⟩
  · obtain ⟨i, hi, rfl⟩ := List.getElem_of_mem hn
    have e := key names vs hnd hlen i hi (by omega)
    dsimp only
    rw [e]
    exact ⟨rfl, hh (vs[i]'(by omega)) (List.getElem_mem _)⟩
  · have : (names.map fun n => (n, (valueAt (List.zip (names.map Str.ofString) vs) (Str.ofString n)).getD .none)) = List.zip names vs := by
      apply List.ext_getElem
      · simp; omega
      · intro i h1 h2
        simp only [List.getElem_map, List.getElem_zip]
        rw [key names vs hnd hlen i (by simpa using h1) (by simp at h1; omega)]
        rfl
    rw [this]; exact hk
theorem Made.isI {prog : Program} {w : World} {h : Heap} {x C : Addr} {names : List String} {vs : List Value} {line : Value} (m : Made prog w h x C names vs line) {D : Addr} {b : Bool} (e : kitOne (KK w.params) (.ref C) (.ref D) = some b) : IsI w h (.ref D) x b := ⟨_, m.t.kt, .inl ⟨_, rfl, e⟩⟩
theorem lk_490 (P : Params) : (KK P).lookup 490 = some { cls := .type "tuple", data := .seq (List.toArray [.ref 192, .ref 283, .ref 270, .ref 257]) 0 } := by kernel_rfl
theorem Made.isR {prog : Program} {w : World} {h : Heap} {x C : Addr} {names : List String} {vs : List Value} {line : Value} (m : Made prog w h x C names vs line) {b : Bool} (e : kitAny (KK w.params) (.ref C) [.ref 192, .ref 283, .ref 270, .ref 257] = some b) : IsI w h (.ref 490) x b := ⟨_, m.t.kt, .inr ⟨_, _, _, rfl, lk_490 _, e⟩⟩
section
variable {prog : Program} {w : World} {os : OsState} {h₀ : Heap} {l : List Cell} {gl : List (Nat × GenState)} {s : Shared} {A : Around} {E : Value → Shared → Prop}
theorem r_new {C ft : Addr} {names : List String} {vs : List Value} {Q : Value → Shared → Prop} (hS : St w os h₀ l gl s) (cl : Cl w.params C ft names) (mk : Mk w.params C) (hh : A.handled = none) (hdep : A.depth < 880)
    (h : ∀ x h₁ s', Le h₀ h₁ → Made prog w h₁ x C names vs .none → St w os h₁ l gl s' → Q (.ref x) s')
    (hvs : vs.length = names.length := by rfl) (hnd : names.Nodup := by decide) (hnl : names.length ≤ 6 := by decide) (hpos : 1 ≤ names.length := by decide) : wpAny (model prog w) A (call (.ref C) vs) Q E s := by
  refine wpAny_call ?_
  refine node_made cl mk hh (by omega) hvs hnd hnl hpos (.inl ⟨rfl, rfl⟩) (fun x => bind51 x vs (by omega) (by omega)) hS fun x h₁ s' d vd od hle _ na hS' => ?_
  exact h x h₁ s' hle ⟨ft, d, vd, od, cl, na⟩ hS'
end
end

section
open PySem PySem.W PySem.Calls PyProof.Rows Builtin.ObjectAttr
theorem ite_dt {c : Bool} {P Q : Prop} (e : c = true) (h : P) : if c = true then P else Q := by rw [if_pos e]; exact h
theorem ite_df {c : Bool} {P Q : Prop} (e : c = false) (h : Q) : if c = true then P else Q := by rw [e]; exact h
def CallV (h : Heap) (v : Value) (c : Cll) : Prop := ∃ b lt wv ta ts, v = .ref b ∧ h.IsTuple b #[.int c.line lt, wv, .ref ta] ∧ TextR h wv c.word ∧ h.IsList ta (List.toArray ts) ∧ TextsR h ts c.texts
inductive CallsVs (h : Heap) : List Value → List Cll → Prop
  | nil : CallsVs h [] []
  | cons {v c vs cs} : CallV h v c → CallsVs h vs cs → CallsVs h (v :: vs) (c :: cs)
theorem TextR.le {h h' : Heap} {v : Value} {o : Option Str} (x : TextR h v o) : TextR h' v o := by cases o <;> exact x
theorem CallV.le {h h' : Heap} (k : Le h h') {v : Value} {c : Cll} (x : CallV h v c) : CallV h' v c := by
  obtain ⟨b, lt, wv, ta, ts, e, a, b', c', d⟩ := x
  exact ⟨b, lt, wv, ta, ts, e, isTuple_le a k, b'.le, isList_le c' k, d.le⟩
theorem CallsVs.le {h h' : Heap} (k : Le h h') : ∀ {vs : List Value} {cs : List Cll}, CallsVs h vs cs → CallsVs h' vs cs
  | _, _, .nil => .nil
  | _, _, .cons a b => .cons (a.le k) (b.le k)
theorem CallsVs.append {h : Heap} {ws : List Value} {ds : List Cll} (y : CallsVs h ws ds) : ∀ {vs : List Value} {cs : List Cll}, CallsVs h vs cs → CallsVs h (vs ++ ws) (cs ++ ds)
  | _, _, .nil => y
  | _, _, .cons a b => .cons a (CallsVs.append y b)
theorem CallsVs.length {h : Heap} : ∀ {vs : List Value} {cs : List Cll}, CallsVs h vs cs → vs.length = cs.length
  | _, _, .nil => rfl
  | _, _, .cons _ b => by simp [CallsVs.length b]
def CallsA (h : Heap) (a : Addr) (cs : List Cll) : Prop := ∃ vs, h.IsList a (List.toArray vs) ∧ CallsVs h vs cs
theorem CallsA.le {h h' : Heap} {a : Addr} {cs : List Cll} (x : CallsA h a cs) (k : Le h h') : CallsA h' a cs := let ⟨vs, e, c⟩ := x; ⟨vs, isList_le e k, c.le k⟩
def TextsA (h : Heap) (a : Addr) (os : List (Option Str)) : Prop := ∃ vs, h.IsList a (List.toArray vs) ∧ TextsR h vs os
theorem TextsA.le {h h' : Heap} {a : Addr} {cs : List (Option Str)} (x : TextsA h a cs) (k : Le h h') : TextsA h' a cs := let ⟨vs, e, c⟩ := x; ⟨vs, isList_le e k, c.le⟩
inductive ValT (prog : Program) (w : World) (h : Heap) (x : Addr) : Option Str → Prop
  | text {n t} : NodeT prog w h x 374 → FieldAt prog w h x "value" (.str n t) → ValT prog w h x (some n)
  | mute {j t} : NodeT prog w h x 374 → FieldAt prog w h x "value" (.int j t) → ValT prog w h x none
  | other {C} : NodeT prog w h x C → (C = 330 ∨ C = 457) → ValT prog w h x none
theorem ValT.le {prog : Program} {w : World} {h h' : Heap} (k : Le h h') {x : Addr} {o : Option Str} : ValT prog w h x o → ValT prog w h' x o
  | .text a b => .text (a.le k) (b.le k)
  | .mute a b => .mute (a.le k) (b.le k)
  | .other a b => .other (a.le k) b
def ValueSpec (prog : Program) (w : World) (os : OsState) (deep B n k : Nat) : Prop :=
  ∀ (h₀ : Heap) (l : List Cell) (gl : List (Nat × GenState)) (s : Shared) (A : Around) (Q E : Value → Shared → Prop) (i : Nat) (ra : Addr) (rs : List Nat) (t : Tok),
    St w os h₀ l gl s → l[i]? = some (ra, RowO rs) → rs.length ≤ 1000 → A.handled = none → A.depth < 800 - 10 * k → A.units < 8000 - 100 * k →
    (∀ h₁ s' b x tv ca rs' o cs, Le h₀ h₁ → rs'.length ≤ rs.length → h₁.IsTuple b #[.ref x, tv, .ref ca] → ValT prog w h₁ x o → TextR h₁ tv o → CallsA h₁ ca cs → cs.length ≤ B → FT prog w h₁ [x] n [] cs → St w os h₁ (l.set i (ra, RowO rs')) gl s' → Q (.ref b) s') →
    wpAny (model prog w) A (call (.ref 518) [.ref ra, .int (deep : Nat) t]) Q E s
def CallSpec (prog : Program) (w : World) (os : OsState) (deep B n k : Nat) : Prop :=
  ∀ (h₀ : Heap) (l : List Cell) (gl : List (Nat × GenState)) (s : Shared) (A : Around) (Q E : Value → Shared → Prop) (i : Nat) (ra : Addr) (rs : List Nat) (t : Tok),
    St w os h₀ l gl s → l[i]? = some (ra, RowO rs) → rs.length ≤ 1000 → A.handled = none → A.depth < 800 - 10 * k → A.units < 8000 - 100 * k →
    (∀ h₁ s' b x ca rs' cs, Le h₀ h₁ → rs'.length ≤ rs.length → h₁.IsTuple b #[.ref x, .ref ca] → NodeT prog w h₁ x 457 → CallsA h₁ ca cs → cs.length ≤ B → FT prog w h₁ [x] n [] cs → St w os h₁ (l.set i (ra, RowO rs')) gl s' → Q (.ref b) s') →
    wpAny (model prog w) A (call (.ref 525) [.ref ra, .int (deep : Nat) t]) Q E s
theorem fmod_nat (a b : Nat) : Int.fmod (a : Int) (b : Int) = ((a % b : Nat) : Int) := by
  rw [Int.fmod_eq_emod_of_nonneg _ (by omega)]; rfl
theorem kid_str {w : World} {h : Heap} {x : Str} {t : Tok} : Kid1 w h (.str x t) none := ⟨_, kt_str, by kernel_rfl, by kernel_rfl⟩
theorem kid_int {w : World} {h : Heap} {x : Int} {t : Tok} : Kid1 w h (.int x t) none := ⟨_, kt_int, by kernel_rfl, by kernel_rfl⟩
theorem kid_bool {w : World} {h : Heap} {x : Bool} : Kid1 w h (.bool x) none := ⟨_, kt_bool, by kernel_rfl, by kernel_rfl⟩
theorem kid_none {w : World} {h : Heap} : Kid1 w h .none none := ⟨_, kt_none, by kernel_rfl, by kernel_rfl⟩
section
variable {prog : Program} {w : World} {os : OsState}
-- leaves
theorem ft_const {h : Heap} {x : Addr} {v line : Value} (m : Made prog w h x 374 ["value"] [v] line) (k : KidV w h v []) (hv : handedIn v = true) : FT prog w h [x] 1 [] [] :=
  FT.one (r := []) (r' := []) (c := []) (c' := []) (n := 0) (m.k (by decide) rfl (by decide) (by simpa using hv) (.cons k .nil) (by kernel_rfl) (by kernel_rfl)) .nil (.inl ⟨m.isR (by kernel_rfl), rfl⟩) (.inl ⟨m.isI (by kernel_rfl), rfl⟩)
theorem ft_name {h : Heap} {x : Addr} {n c : Str} {t u : Tok} {line : Value} (m : Made prog w h x 330 ["name", "ctx"] [.str n t, .str c u] line) : FT prog w h [x] 1 [] [] :=
  FT.one (r := []) (r' := []) (c := []) (c' := []) (n := 0) (m.k (by decide) rfl (by decide) (by simp; exact ⟨rfl, rfl⟩) (.cons (.other kid_str) (.cons (.other kid_str) .nil)) (by kernel_rfl) (by kernel_rfl)) .nil (.inl ⟨m.isR (by kernel_rfl), rfl⟩) (.inl ⟨m.isI (by kernel_rfl), rfl⟩)
end
end

section
open PySem PySem.W PySem.Calls PyProof.Rows Builtin.ObjectAttr
section
variable {prog : Program} {w : World} {os : OsState} {h₀ : Heap} {l : List Cell} {gl : List (Nat × GenState)} {s : Shared} {A : Around} {E : Value → Shared → Prop} {i : Nat}
theorem r_modN {r m : Nat} {t u : Tok} {Q : Value → Shared → Prop} (hS : St w os h₀ l gl s) (hm : m ≠ 0) (h : ∀ s' t', St w os h₀ l gl s' → Q (.int ((r % m : Nat) : Int) t') s') : wpAny (model prog w) A (binaryOp .Mod (.int (r : Nat) t) (.int (m : Nat) u)) Q E s :=
  r_mod hS (by omega) fun s' t' hS => by rw [fmod_nat]; exact h _ _ hS
theorem r_pickList {value slice : Expr} {la : Addr} {vs : List Value} {kd : Nat} {t : Tok} {v : Value} {Q : Value → Shared → Prop} (hS : St w os h₀ l gl s) (hi : l[i]? = some (la, LsO vs)) (hv : vs[kd]? = some v) (hk : kd < 100000) (h : Q v s)
    (hs : subscripted slice false (.ref la) (.int kd t) = operate [.ref la, .int kd t] (getItem (.ref la) (.int kd t)) := by with_unfolding_all rfl) : wpAny (model prog w) A (subscriptTail value slice (.ref la) (.int kd t)) Q E s :=
  r_subTail (hS.isList hi).typeIs PySem.F.slot_list_getitem.lookup (wpAny_getItem_list (hS.isList hi) (by omega) (by omega) (by simpa using hv) h) hs
theorem pick3 {a b c : Str} {t1 t2 t3 : Tok} {kd : Nat} (h : kd < 3) : ∃ n u, ([Value.str a t1, .str b t2, .str c t3] : List Value)[kd]? = some (.str n u) := by
  rcases (by omega : kd = 0 ∨ kd = 1 ∨ kd = 2) with rfl | rfl | rfl <;> exact ⟨_, _, rfl⟩
theorem value_ret1 {L b : Addr} {P : Obj → Prop} {vs : List Value} {m : List Cell} (hS : St w os h₀ ((L, P) :: (b, TuO vs) :: (m ++ l)) gl s) : ∃ h₁, Le h₀ h₁ ∧ h₁.IsTuple b vs.toArray ∧ St w os h₁ l gl s := by
  obtain ⟨h₁, _, hk₁, hb, rfl, hS⟩ := hS.freezeAt (i := 1) rfl
  replace hS : St w os h₁ ((L, P) :: (m ++ l)) gl s := hS
  exact ⟨h₁, hk₁, ⟨_, hb, rfl, ⟨0, rfl⟩⟩, hS.sub ((List.sublist_append_right m l).cons _)⟩
theorem r_sub1 {d : Nat} {t u : Tok} {Q : Value → Shared → Prop} (hS : St w os h₀ l gl s) (h : ∀ s' t', St w os h₀ l gl s' → Q (.int (d : Nat) t') s') : wpAny (model prog w) A (binaryOp .Sub (.int ((d + 1 : Nat) : Int) t) (.int 1 u)) Q E s := by
  refine sub_int ?_
  rw [show ((d + 1 : Nat) : Int) - 1 = (d : Int) by omega]
  exact h _ _ hS.toks
theorem value_ret {L b ca : Addr} {P : Obj → Prop} {vs us : List Value} {m : List Cell} (hS : St w os h₀ ((L, P) :: (b, TuO vs) :: (ca, LsO us) :: (m ++ l)) gl s) : ∃ h₁, Le h₀ h₁ ∧ h₁.IsTuple b vs.toArray ∧ h₁.IsList ca us.toArray ∧ St w os h₁ l gl s := by
  obtain ⟨h₁, _, hk₁, hb, rfl, hS⟩ := hS.freezeAt (i := 1) rfl
  replace hS : St w os h₁ ((L, P) :: (ca, LsO us) :: (m ++ l)) gl s := hS
  obtain ⟨h₂, _, hk₂, hc, ⟨n, rfl⟩, hS⟩ := hS.freezeAt (i := 1) rfl
  replace hS : St w os h₂ ((L, P) :: (m ++ l)) gl s := hS
  exact ⟨h₂, hk₁.trans hk₂, isTuple_le ⟨_, hb, rfl, ⟨0, rfl⟩⟩ hk₂, ⟨_, hc, rfl, ⟨n, rfl⟩⟩, hS.sub ((List.sublist_append_right m l).cons _)⟩
end
end

local macro_rules | `(tactic| walk_at "sx") => do
  let h := Lean.mkIdent `hS
  let s' := Lean.mkIdent `s'
  `(tactic| first
  | ((with_reducible show wpAny _ _ (binaryOp Operator.Mod (Value.int _ _) (Value.int _ _)) _ _ _); (first | refine r_modN (m := 7) $h (by decide) ?_ | refine r_modN (m := 6) $h (by decide) ?_ | refine r_modN (m := 32) $h (by decide) ?_ | refine r_modN (m := 5) $h (by decide) ?_ | refine r_modN (m := 4) $h (by decide) ?_ | refine r_modN (m := 2) $h (by decide) ?_ | refine r_modN (m := 8) $h (by decide) ?_); clear $h; intro $s' _ $h)
  | (walk_at "s1")
  | ((with_reducible show wpAny _ _ (exec (Stmt.Assign [Expr.Tuple _ _ _] (Expr.Call _ _ _ _) _) _) _ _ _); refine PyProof.Rows.Assign_Tuple ?_)
  | ((with_reducible show wpAny _ _ (assign (Expr.Name _ _) _ _) _ _ _); refine PySem.wpAny_assign_Name ?_)
  | ((with_reducible show (if _ = true then _ else _)); first | refine ite_dt (by decide) ?_ | refine ite_df (by decide) ?_))

section
open PySem PySem.W PySem.Calls PyProof.Rows Builtin.ObjectAttr
section
variable {prog : Program} {w : World} {os : OsState}
abbrev vaEnv (L : Addr) : Env := callEnv fd518 L 518
set_option maxHeartbeats 8000000
theorem value_of {deep B n k : Nat} (hc : deep = 0 ∨ ∃ d, deep = d + 1 ∧ CallSpec prog w os d B n k) (hn : 1 ≤ n) : ValueSpec prog w os deep B n (k + 1) := by
  intro h₀ l gl s A Q E i ra rs t hS hi hz hh hd hu h
  refine wpAny_call ?_
  refine r_call (fd := fd518) (body := bodOf (stm 34)) [("deep", some (.int deep t)), ("row", some (.ref ra))] hS (k518 _) (c518 _) (by simp only [recursionLimit]; omega) rfl (BindsTo.of_eq rfl) (by decide +kernel) (locs rfl) (al_cons (al_cons al_nil)) (fun L s' hS => ?_)
  conv in bodOf _ => whnf
  repeat (walk_at "sx")
  have hdA : (A.deeper (callEnv fd518 L 518)).depth < 870 := by show A.depth + 1 < 870; omega
  have huA : (A.deeper (callEnv fd518 L 518)).units < 9000 := by show A.units + 3 < 9000; omega
  have hhA : (A.deeper (callEnv fd518 L 518)).handled = none := hh
  refine draw_spec hS (i := i + 1) hi (by omega) huA hz fun s' t' hS => ?_
  replace hS : St w os h₀ ((L, NsO [("deep", some (.int deep t)), ("row", some (.ref ra))]) :: l.set i (ra, RowO rs.tail)) gl s' := hS
  have hi' := set_at (d := ((ra, RowO rs.tail) : Cell)) hi
  have hrl : rs.tail.length ≤ rs.length := by simp
  have hss : ∀ c d : Cell, (l.set i c).set i d = l.set i d := fun _ _ => set_set'
  generalize rs.headD 0 = r at hS
  generalize rs.tail = rs₁ at hS hi' hrl
  repeat (walk_at "sx")
  have hr7 : r % 7 < 7 := Nat.mod_lt _ (by decide)
  generalize r % 7 = kd at hr7 hS
  by_cases h3 : kd < 3
  · refine ite_dt (by simp; omega) ?_
    repeat (walk_at "sx")
    obtain ⟨n, u, hw⟩ := pick3 h3
    refine r_pickList hS (i := 1) rfl hw (by omega) ?_
    repeat (walk_at "sx")
    refine r_new hS (cl_const _) (mk_const _) hhA (by omega) fun x h₁ s' hle hm hS => ?_
    repeat (walk_at "sx")
    obtain ⟨h₂, hk₂, hb, hca, hS⟩ := value_ret (m := [_]) hS
    exact h h₂ _ _ x _ _ rs₁ (some n) [] (hle.trans hk₂) hrl hb ((ValT.text hm.t (hm.field (by decide) (by rfl) rfl)).le hk₂) ⟨u, rfl⟩ ⟨[], hca, .nil⟩ (by simp) (((ft_const hm (.other kid_str) rfl).le hk₂).mono hn) hS
  · refine ite_df (by simp; omega) ?_
    repeat (walk_at "sx")
    by_cases h4 : kd = 3
    · subst h4
      repeat (walk_at "sx")
      refine r_new hS (cl_const _) (mk_const _) hhA (by omega) fun x h₁ s' hle hm hS => ?_
      repeat (walk_at "sx")
      obtain ⟨h₂, hk₂, hb, hca, hS⟩ := value_ret (m := []) hS
      exact h h₂ _ _ x _ _ rs₁ none [] (hle.trans hk₂) hrl hb ((ValT.mute hm.t (hm.field (by decide) (by rfl) rfl)).le hk₂) rfl ⟨[], hca, .nil⟩ (by simp) (((ft_const hm (.other kid_int) rfl).le hk₂).mono hn) hS
    refine ite_df (by simpa using (by omega : (kd : Int) ≠ 3)) ?_
    repeat (walk_at "sx")
    by_cases h5 : kd = 4
    · subst h5
      repeat (walk_at "sx")
      refine r_new hS (cl_name _) (mk_name _) hhA (by omega) fun x h₁ s' hle hm hS => ?_
      repeat (walk_at "sx")
      obtain ⟨h₂, hk₂, hb, hca, hS⟩ := value_ret (m := []) hS
      exact h h₂ _ _ x _ _ rs₁ none [] (hle.trans hk₂) hrl hb ((ValT.other hm.t (.inl rfl)).le hk₂) rfl ⟨[], hca, .nil⟩ (by simp) (((ft_name hm).le hk₂).mono hn) hS
    rw [show ((kd : Int) == 4) = false by simpa using (by omega : (kd : Int) ≠ 4)]
    repeat (walk_at "sx")
    rcases hc with rfl | ⟨d, rfl, hc⟩
    · repeat (walk_at "sx")
      refine r_new hS (cl_name _) (mk_name _) hhA (by omega) fun x h₁ s' hle hm hS => ?_
      repeat (walk_at "sx")
      obtain ⟨h₂, hk₂, hb, hca, hS⟩ := value_ret (m := []) hS
      exact h h₂ _ _ x _ _ rs₁ none [] (hle.trans hk₂) hrl hb ((ValT.other hm.t (.inl rfl)).le hk₂) rfl ⟨[], hca, .nil⟩ (by simp) (((ft_name hm).le hk₂).mono hn) hS
    rw [show (((d + 1 : Nat) : Int) == 0) = false by simpa using (by omega : ((d + 1 : Nat) : Int) ≠ 0)]
    repeat (walk_at "sx")
    refine r_sub1 hS fun s' t' hS => ?_
    repeat (walk_at "sx")
    refine hc _ _ _ _ _ _ _ (i + 1) ra rs₁ _ hS hi' (by omega) hhA (by show A.depth + 1 < _; omega) (by show A.units + 3 < _; omega) ?_
    intro h₁ s' b x ca rs' cs hle hrl' hb hx hca hcs hft hS
    simp only [List.set_cons_succ, hss] at hS
    refine r_unpack2 hhA hS (isTuple_le hb hS.hp.keep) fun s' hS => ?_
    repeat (walk_at "sx")
    obtain ⟨h₂, hk₂, hb, hS⟩ := value_ret1 (m := []) hS
    exact h h₂ _ _ x _ _ rs' none cs (hle.trans hk₂) (by omega) hb ((ValT.other hx (.inr rfl)).le hk₂) rfl (hca.le hk₂) hcs (hft.le hk₂) hS
end
end

section
open PySem PySem.W PySem.Calls PyProof.Rows Builtin.ObjectAttr
def RgO (n : Nat) (o : Obj) : Prop := ∃ t u v, o = { cls := .type "range", dict := none, data := .fields #[.int 0 t, .int (n : Nat) u, .int 1 v], slots := #[] }
def RiO (x left : Nat) (o : Obj) : Prop := o = { cls := .type "range_iterator", dict := none, data := .fields #[rawInt (x : Nat), rawInt (left : Nat), rawInt 1], slots := #[] }
section
variable {prog : Program} {w : World} {os : OsState} {h₀ : Heap} {c : Cell} {l : List Cell} {gl : List (Nat × GenState)} {s : Shared} {A : Around} {E : Value → Shared → Prop} {i : Nat}
theorem r_range {n : Nat} {t : Tok} {Q : Value → Shared → Prop} (hS : St w os h₀ (c :: l) gl s) (h : ∀ r s', St w os h₀ (c :: (r, RgO n) :: l) gl s' → Q (.ref r) s') : wpAny (model prog w) A (call (.type "range") [.int (n : Nat) t]) Q E s :=
  call_range_1 (h _ _ (St.toks (St.push2 (s' := { s with heap := s.heap.push { cls := .type "range", data := .fields #[.int 0 s.toks, .int n t, .int 1 (s.toks + 1)] } }) hS rfl (P := RgO n) ⟨_, _, _, rfl⟩ rfl rfl rfl)))
theorem r_iterRange {r : Addr} {n : Nat} {Q : Value → Shared → Prop} (hn : n < 100000) (hS : St w os h₀ (c :: l) gl s) (hi : (c :: l)[i]? = some (r, RgO n)) (h : ∀ it s', St w os h₀ (c :: (it, RiO 0 n) :: l) gl s' → Q (.ref it) s') : wpAny (model prog w) A (pyIter (.ref r)) Q E s := by
  obtain ⟨o, ho, t, u, v, rfl⟩ := hS.at hi
  refine wpAny_pyIter_range ho (small_one (by decide) (by decide) (by omega) (by omega)) ?_
  have e : Builtin.Range.rangeSize 0 (n : Int) 1 = (n : Int) := by rw [rangeSize_one]; split <;> omega
  rw [e]
  exact h _ _ (St.push2 (s' := { s with heap := s.heap.push { cls := .type "range_iterator", data := .fields #[rawInt 0, rawInt (n : Int), rawInt 1] } }) hS rfl rfl rfl rfl rfl)
theorem r_nextRange {it : Addr} {x left : Nat} {Q : Option Value → Shared → Prop} (hh : A.handled = none) (hS : St w os h₀ l gl s) (hi : l[i]? = some (it, RiO x left))
    (h : match left with | 0 => ∀ s', St w os h₀ (l.eraseIdx i) gl s' → Q none s' | m + 1 => ∀ s' t, St w os h₀ (l.set i (it, RiO (x + 1) m)) gl s' → Q (some (.int (x : Nat) t)) s') : wpAny (model prog w) A (pyNext (.ref it)) Q E s := by
  obtain ⟨o, ho, rfl⟩ := hS.at hi
  cases left with
  | zero =>
    refine wpAny_pyNext_range_end hh ho (by simp) fun h' hx => ?_
    refine h _ ?_
    obtain ⟨hl, e⟩ := List.getElem?_eq_some_iff.mp hi
    have hp : ((it, RiO x 0) :: l.eraseIdx i).Perm l := by
      rw [List.eraseIdx_eq_take_drop_succ]
      refine List.perm_middle.symm.trans ?_
      rw [← e, List.getElem_cons_drop, List.take_append_drop]
    have hS' := hS.perm hp
    have hn : h₀.get? it = none := let ⟨_, _, _, q⟩ := hS.hp.at hi; q
    have nd : it ∉ (l.eraseIdx i).map (·.1) := (List.nodup_cons.mp (by simpa using hS'.hp.nd)).1
    refine hS.to (s' := { s with heap := h' }) ⟨fun b o e => hx b o (fun q => by rw [q, hn] at e; cases e) (hS.hp.keep b o e), fun cc hc => ?_, (List.nodup_cons.mp (by simpa using hS'.hp.nd)).2⟩ rfl rfl (fun o e => hx _ o (Ne.symm (hS.ne (it, RiO x 0) (List.mem_of_getElem? hi))) e) fun c hc => hS.ne c ((List.eraseIdx_sublist ..).subset hc)
    obtain ⟨o, a, b, d⟩ := hS'.hp.own cc (List.mem_cons_of_mem _ hc)
    exact ⟨o, hx _ _ (fun q => nd (q ▸ List.mem_map_of_mem hc)) a, b, d⟩
  | succ m =>
    refine wpAny_pyNext_range_item ho (by omega) fun h' hit hs => ?_
    refine h _ _ (St.toks (s := { s with heap := h' }) (hS.turn (s' := { s with heap := h' }) hi (fun b o' hb e => hs.extBut b o' hb e) hit ?_ rfl rfl))
    unfold RiO
    rw [show ((m + 1 : Nat) : Int) - 1 = (m : Nat) by omega]
    rfl
-- lists that are cells or old
theorem r_addLists {a b : Addr} {vs us : List Value} {Q : Value → Shared → Prop} (hS : St w os h₀ (c :: l) gl s) (ha : h₀.IsList a vs.toArray) (hb : h₀.IsList b us.toArray) (hz : vs.length + us.length ≤ 100000)
    (h : ∀ x h₁ s', Le h₀ h₁ → h₁.IsList x (vs ++ us).toArray → St w os h₁ (c :: l) gl s' → Q (.ref x) s') : wpAny (model prog w) A (binaryOp .Add (.ref a) (.ref b)) Q E s := by
  have haL := isList_le ha hS.hp.keep
  have hbL := isList_le hb hS.hp.keep
  obtain ⟨⟨cls, dd, data, sl⟩, ho, hc, n, hd⟩ := id haL
  obtain ⟨⟨cls2, dd2, data2, sl2⟩, ho2, hc2, n2, hd2⟩ := id hbL
  simp only at hc hd hc2 hd2
  subst hc hd hc2 hd2
  have e : vs.toArray ++ us.toArray = (vs ++ us).toArray := by simp
  refine concat_meets ⟨_, ho, rfl⟩ ⟨_, ho2, rfl⟩ noFill_list_add seq_list_add PySem.F.slot_list_add PySem.F.entry_list_add (PySem.F.args_list_add_2 _ _) (list_addW a b vs.toArray us.toArray n n2 dd dd2 sl sl2 (by simp; rw [sizeLine_eq]; omega)) ⟨ho, ho2, ?_⟩
  rw [e]
  have hS1 := hS.push (s' := { s with heap := s.heap.push { cls := .type "list", data := .seq (vs ++ us).toArray } }) (P := LsO (vs ++ us)) rfl ⟨0, rfl⟩ rfl rfl rfl
  obtain ⟨h₁, _, hk₁, hx, ⟨m, rfl⟩, hS2⟩ := hS1.froze
  exact h _ h₁ _ hk₁ ⟨_, hx, rfl, ⟨m, rfl⟩⟩ hS2
theorem r_unpack4 {e1 e2 e3 e4 : Expr} {k : Nat} {pos : Pos} {env : Env} {t : Addr} {v1 v2 v3 v4 : Value} {Q : Unit → Shared → Prop} (hh : A.handled = none) (hS : St w os h₀ l gl s) (ht : s.heap.IsTuple t #[v1, v2, v3, v4])
    (h : ∀ s', St w os h₀ l gl s' → wpAny (model prog w) A (assign e1 env v1) (fun _ s1 => wpAny (model prog w) A (assign e2 env v2) (fun _ s2 => wpAny (model prog w) A (assign e3 env v3) (fun _ s3 => wpAny (model prog w) A (assign e4 env v4) Q E s3) E s2) E s1) E s')
    (he : assignEach [e1, e2, e3, e4] env = [(false, assign e1 env), (false, assign e2 env), (false, assign e3 env), (false, assign e4 env)] := by rfl) : wpAny (model prog w) A (assign (.Tuple [e1, e2, e3, e4] k pos) env (.ref t)) Q E s := by
  refine PySem.wpAny_assign_Tuple hh ht (by rw [he]; rfl) (by rw [he]; rfl) fun h' hk => ?_
  rw [he]
  refine wpAny_bind (wpAny_holding (wpAny_mono (h _ (hS.ext (s' := { s with heap := h' }) (le_of_extNew hk) rfl rfl)) (fun _ s1 h1 => ?_) fun _ _ x => x))
  refine wpAny_bind (wpAny_holding (wpAny_mono h1 (fun _ s2 h2 => ?_) fun _ _ x => x))
  refine wpAny_bind (wpAny_holding (wpAny_mono h2 (fun _ s3 h3 => ?_) fun _ _ x => x))
  exact wpAny_bind (wpAny_holding (wpAny_mono h3 (fun _ s4 h4 => wpAny_pure h4) fun _ _ x => x))
theorem r_unpackItems {t : Addr} {items : Array Value} {n : Nat} {Q : List Value → Shared → Prop} (hh : A.handled = none) (hS : St w os h₀ l gl s) (ht : s.heap.IsTuple t items) (hn : n = items.size) (h : ∀ s', St w os h₀ l gl s' → Q items.toList s') : wpAny (model prog w) A (unpackItems (.ref t) n none) Q E s := by
  subst hn
  exact PySem.wpAny_unpackItems_tuple hh ht fun h' hk => h _ (hS.ext (s' := { s with heap := h' }) (le_of_extNew hk) rfl rfl)
theorem r_rowLen {ra : Addr} {rs : List Nat} {Q : Value → Shared → Prop} (hS : St w os h₀ l gl s) (hi : l[i]? = some (ra, RowO rs)) (hz : rs.length ≤ 1000) (h : ∀ s' t, St w os h₀ l gl s' → Q (.int (rs.length : Nat) t) s') : wpAny (model prog w) A (call (.builtin "len") [.ref ra]) Q E s := by
  obtain ⟨o, ho, ts, hl, n, rfl⟩ := hS.at hi
  have e : ((List.zipWith (fun (r : Nat) t => Value.int (r : Int) t) rs ts).reverse).toArray.size = rs.length := by simp [hl]
  exact PyProof.Rows.len_list ⟨_, ho, rfl, ⟨n, rfl⟩⟩ (by rw [e]; omega) (by rw [e]; exact h _ (s.toks + 1) hS.toks)
end
end

section
open PySem PySem.W PySem.Calls PyProof.Rows Builtin.ObjectAttr
abbrev caEnv (L : Addr) : Env := callEnv fd525 L 525
-- what stands at the head of a call
def HeadT (prog : Program) (w : World) (h : Heap) (x : Addr) : Option Str → Prop
  | some n => ∃ t, NodeT prog w h x 330 ∧ FieldAt prog w h x "name" (.str n t) ∧ n ∈ fourWords
  | none => ∃ C, NodeT prog w h x C ∧ (C = 478 ∨ C = 457)
section
variable {prog : Program} {w : World} {os : OsState} {h₀ : Heap} {l : List Cell} {gl : List (Nat × GenState)} {s : Shared} {A : Around} {i : Nat} {L ra : Addr} {rs : List Nat}
theorem ft_getattr {h : Heap} {x y : Addr} {n c : Str} {t u : Tok} {line : Value} {cs : List Cll} {m : Nat} (md : Made prog w h x 478 ["node", "attr", "ctx"] [.ref y, .str n t, .str c u] line) (ky : Kid1 w h (.ref y) (some y)) (f : FT prog w h [y] m [] cs) : FT prog w h [x] (m + 1) [] cs :=
  FT.one (r := []) (r' := []) (c := []) (c' := cs) (n := m) (md.k (by decide) rfl (by decide) (by simp; exact ⟨rfl, rfl, rfl⟩) (.cons (.node ky) (.cons (.other kid_str) (.cons (.other kid_str) .nil))) (by kernel_rfl) (by kernel_rfl)) f (.inl ⟨md.isR (by kernel_rfl), rfl⟩) (.inl ⟨md.isI (by kernel_rfl), rfl⟩)
theorem NodeT.kid {h : Heap} {x C : Addr} (n : NodeT prog w h x C) (h1 : kitOne (KK w.params) (.ref C) (.type "list") = some false) (h2 : kitOne (KK w.params) (.ref C) (.ref 127) = some true) : Kid1 w h (.ref x) (some x) := ⟨rfl, _, n.kt, h1, h2⟩
set_option maxHeartbeats 8000000
abbrev caAl (deep line pick : Nat) (ra ca : Addr) (wv : Value) (t1 t2 t3 : Tok) : Al := [("deep", some (.int (deep : Nat) t1)), ("row", some (.ref ra)), ("line", some (.int (line : Nat) t2)), ("pick", some (.int (pick : Nat) t3)), ("calls", some (.ref ca)), ("word", some wv)]
theorem pick4 {a b c d : Str} {t1 t2 t3 t4 : Tok} {kd : Nat} (h : kd < 4) : ∃ n u, ([Value.str a t1, .str b t2, .str c t3, .str d t4] : List Value)[kd]? = some (.str n u) ∧ n ∈ [a, b, c, d] := by
  rcases (by omega : kd = 0 ∨ kd = 1 ∨ kd = 2 ∨ kd = 3) with rfl | rfl | rfl | rfl <;> exact ⟨_, _, rfl, by simp⟩
theorem ca_head {deep Bc n k line pick : Nat} {t1 t2 t3 : Tok} {ca : Addr} {Q : Flow → Shared → Prop} (hc : deep = 0 ∨ ∃ d, deep = d + 1 ∧ CallSpec prog w os d Bc n k) (hn : 2 ≤ n) (hca : CallsA h₀ ca [])
    (hS : St w os h₀ ((L, NsO (caAl deep line pick ra ca .none t1 t2 t3)) :: l) gl s) (hi : l[i]? = some (ra, RowO rs)) (hz : rs.length ≤ 1000) (hh : A.handled = none) (hd : A.depth < 800 - 10 * k) (hu : A.units < 8000 - 100 * k)
    (h : ∀ h₁ s' hx wv ca rs' word cs, Le h₀ h₁ → rs'.length ≤ rs.length → FT prog w h₁ [hx] n [] cs → HeadT prog w h₁ hx word → TextR h₁ wv word → CallsA h₁ ca cs → cs.length ≤ Bc →
      St w os h₁ ((L, NsO (caAl deep line pick ra ca wv t1 t2 t3 ++ [("head", some (.ref hx))])) :: l.set i (ra, RowO rs')) gl s' → Q .next s') :
    wpAny (model prog w) A (exec (sAt 3 (bodOf (stm 35))) (caEnv L)) Q no s := by
  conv in sAt _ _ => whnf
  have hii : l.set i (ra, RowO rs) = l := by
    obtain ⟨hl, e⟩ := List.getElem?_eq_some_iff.mp hi
    rw [← e, List.set_getElem_self]
  have hdrop : ∀ {c : Cell} {m : List Cell} {h : Heap} {s : Shared}, St w os h (c :: (m ++ l)) gl s → St w os h (c :: l.set i (ra, RowO rs)) gl s := fun hS => by rw [hii]; exact hS.sub ((List.sublist_append_right _ l).cons_cons _)
  repeat (walk_at "sx")
  by_cases h4 : pick < 4
  · refine ite_dt (by simp; omega) ?_
    repeat (walk_at "sx")
    obtain ⟨n', u, hw, hmem⟩ := pick4 h4
    refine r_pickList hS (i := 1) rfl hw (by omega) ?_
    repeat (walk_at "sx")
    refine r_new hS (cl_name _) (mk_name _) hh (by omega) fun x h₁ s' hle hm hS => ?_
    repeat (walk_at "sx")
    exact h h₁ _ x _ ca rs (some n') [] hle (Nat.le_refl _) ((ft_name hm).mono (by omega)) ⟨u, hm.t, hm.field (by decide) (by rfl) rfl, hmem⟩ ⟨u, rfl⟩ (hca.le hle) (by simp) (hdrop (m := [_]) hS)
  refine ite_df (by simp; omega) ?_
  repeat (walk_at "sx")
  by_cases h5 : pick = 4
  · subst h5
    repeat (walk_at "sx")
    refine r_new hS (cl_name _) (mk_name _) hh (by omega) fun y h₁ s' hle hm hS => ?_
    repeat (walk_at "sx")
    refine r_new hS (cl_getattr _) (mk_getattr _) hh (by omega) fun x h₂ s' hle₂ hm₂ hS => ?_
    repeat (walk_at "sx")
    exact h h₂ _ x .none ca rs none [] (hle.trans hle₂) (Nat.le_refl _) ((ft_getattr hm₂ ((hm.t.le hle₂).kid (by kernel_rfl) (by kernel_rfl)) ((ft_name hm).le hle₂)).mono hn) ⟨478, hm₂.t, .inl rfl⟩ rfl (hca.le (hle.trans hle₂)) (by simp) (hdrop (m := []) hS)
  rw [show ((pick : Int) == 4) = false by simpa using (by omega : (pick : Int) ≠ 4)]
  repeat (walk_at "sx")
  rcases hc with rfl | ⟨d, rfl, hc⟩
  · repeat (walk_at "sx")
    refine r_new hS (cl_name _) (mk_name _) hh (by omega) fun y h₁ s' hle hm hS => ?_
    repeat (walk_at "sx")
    refine r_new hS (cl_getattr _) (mk_getattr _) hh (by omega) fun x h₂ s' hle₂ hm₂ hS => ?_
    repeat (walk_at "sx")
    exact h h₂ _ x .none ca rs none [] (hle.trans hle₂) (Nat.le_refl _) ((ft_getattr hm₂ ((hm.t.le hle₂).kid (by kernel_rfl) (by kernel_rfl)) ((ft_name hm).le hle₂)).mono hn) ⟨478, hm₂.t, .inl rfl⟩ rfl (hca.le (hle.trans hle₂)) (by simp) (hdrop (m := []) hS)
  rw [show (((d + 1 : Nat) : Int) == 0) = false by simpa using (by omega : ((d + 1 : Nat) : Int) ≠ 0)]
  repeat (walk_at "sx")
  refine r_sub1 hS fun s' t' hS => ?_
  repeat (walk_at "sx")
  refine hc _ _ _ _ _ _ _ (i + 1) ra rs _ hS hi (by omega) hh (by omega) (by omega) ?_
  intro h₁ s' b x ca' rs' cs hle hrl' hb hx hca' hcs hft hS
  simp only [List.set_cons_succ] at hS
  refine r_unpack2 hh hS (isTuple_le hb hS.hp.keep) fun s' hS => ?_
  repeat (walk_at "sx")
  exact h h₁ _ x .none ca' rs' none cs hle hrl' hft ⟨457, hx, .inr rfl⟩ rfl hca' hcs hS
end
end

section
open PySem PySem.W PySem.Calls PyProof.Rows Builtin.ObjectAttr
theorem ArgsT.append {prog : Program} {w : World} {h : Heap} {us : List Value} {p : List (Option Str)} (y : ArgsT prog w h us p) : ∀ {vs : List Value} {o : List (Option Str)}, ArgsT prog w h vs o → ArgsT prog w h (vs ++ us) (o ++ p)
  | _, _, .nil => y
  | _, _, .text a b c => .text a b (ArgsT.append y c)
  | _, _, .mute a b c d e => .mute a b c d (ArgsT.append y e)
  | _, _, .other a b c => .other a b (ArgsT.append y c)
theorem Kids1.append {w : World} {h : Heap} {us : List Value} {ys : List Addr} (y : Kids1 w h us ys) : ∀ {vs : List Value} {xs : List Addr}, Kids1 w h vs xs → Kids1 w h (vs ++ us) (xs ++ ys)
  | _, _, .nil => y
  | _, _, .node a b => .node a (Kids1.append y b)
  | _, _, .other a b => .other a (Kids1.append y b)
theorem ValT.args {prog : Program} {w : World} {h : Heap} {x : Addr} {o : Option Str} (v : ValT prog w h x o) : ArgsT prog w h [.ref x] [o] := by
  cases v with
  | text a b => exact .text a b .nil
  | mute a b => exact .mute a b kt_int (by kernel_rfl) .nil
  | other a b => rcases b with rfl | rfl <;> exact .other a (by kernel_rfl) .nil
theorem ValT.kid {prog : Program} {w : World} {h : Heap} {x : Addr} {o : Option Str} (v : ValT prog w h x o) : Kid1 w h (.ref x) (some x) := by
  cases v with
  | text a b => exact a.kid (by kernel_rfl) (by kernel_rfl)
  | mute a b => exact a.kid (by kernel_rfl) (by kernel_rfl)
  | other a b => rcases b with rfl | rfl <;> exact a.kid (by kernel_rfl) (by kernel_rfl)
-- a row of values, as the arguments of a call
structure ValsL (prog : Program) (w : World) (h : Heap) (as : List Value) (os : List (Option Str)) (n : Nat) (cs : List Cll) : Prop where
  e : ∃ xs, Kids1 w h as xs ∧ ArgsT prog w h as os ∧ FT prog w h xs n [] cs
theorem ValsL.nil {prog : Program} {w : World} {h : Heap} {n : Nat} : ValsL prog w h [] [] n [] := ⟨[], .nil, .nil, .nil⟩
theorem ValsL.le {prog : Program} {w : World} {h h' : Heap} {as : List Value} {os : List (Option Str)} {n : Nat} {cs : List Cll} (x : ValsL prog w h as os n cs) (k : Le h h') : ValsL prog w h' as os n cs := let ⟨xs, a, b, c⟩ := x.e; ⟨xs, a.le k, b.le k, c.le k⟩
theorem ValsL.snoc {prog : Program} {w : World} {h : Heap} {as : List Value} {os : List (Option Str)} {n : Nat} {cs ds : List Cll} {x : Addr} {o : Option Str} (a : ValsL prog w h as os n cs) (v : ValT prog w h x o) (f : FT prog w h [x] n [] ds) : ValsL prog w h (as ++ [.ref x]) (os ++ [o]) n (cs ++ ds) := by
  obtain ⟨xs, k, t, ft⟩ := a.e
  exact ⟨xs ++ [x], (Kids1.node v.kid .nil).append k, v.args.append t, ft.append f⟩
abbrev caF1 : Stmt := sAt 6 (bodOf (stm 35))
section
variable {prog : Program} {w : World} {os : OsState} {gl : List (Nat × GenState)} {A : Around} {R : Result → Shared → Prop} {L ra aa ta pa sa hx : Addr} {i : Nat}
abbrev caAl2 (deep line pick code : Nat) (ra ca hx aa ta pa sa : Addr) (wv : Value) (t1 t2 t3 t4 : Tok) : Al :=
  caAl deep line pick ra ca wv t1 t2 t3 ++ [("head", some (.ref hx)), ("code", some (.int (code : Nat) t4)), ("args", some (.ref aa)), ("texts", some (.ref ta)), ("pairs", some (.ref pa)), ("stars", some (.ref sa))]
set_option maxHeartbeats 8000000
theorem ca_args {deep line pick code Bv n k : Nat} {t1 t2 t3 t4 : Tok} {wv : Value} (hv : ValueSpec prog w os deep Bv n k) (hh : A.handled = none) (hd : A.depth < 800 - 10 * k) (hu : A.units < 8000 - 100 * k) (hB : Bv ≤ 100) :
    ∀ (left x : Nat) (h₀ : Heap) (l : List Cell) (s : Shared) (it ca : Addr) (rs : List Nat) (as ts : List Value) (ots : List (Option Str)) (c0 cs : List Cll),
      St w os h₀ ((L, NsO (caAl2 deep line pick code ra ca hx aa ta pa sa wv t1 t2 t3 t4)) :: (it, RiO x left) :: (aa, LsO as) :: (ta, LsO ts) :: l) gl s → l[i]? = some (ra, RowO rs) → rs.length ≤ 1000 →
      ValsL prog w h₀ as ots n cs → TextsR h₀ ts ots → CallsA h₀ ca (c0 ++ cs) → as.length + left ≤ 3 → ts.length + left ≤ 10 → c0.length ≤ 200 → cs.length + left * Bv ≤ 3 * Bv →
      (∀ h₁ s' rs' ca' as' ts' ots' cs', Le h₀ h₁ → rs'.length ≤ rs.length → ValsL prog w h₁ as' ots' n cs' → TextsR h₁ ts' ots' → CallsA h₁ ca' (c0 ++ cs') → as'.length ≤ 3 → ts'.length ≤ ts.length + left → cs'.length ≤ 3 * Bv →
        St w os h₁ ((L, NsO (caAl2 deep line pick code ra ca' hx aa ta pa sa wv t1 t2 t3 t4)) :: (aa, LsO as') :: (ta, LsO ts') :: l.set i (ra, RowO rs')) gl s' → R (.ok .next) s') →
      codeAny (model prog w) A (forC caF1 (.ref it) (caEnv L)) R s := by
  intro left
  induction left with
  | zero =>
    intro x h₀ l s it ca rs as ts ots c0 cs hS hi hz hV hT hC hl1 hl2 hl3 hl4 hR
    refine code_turn (r_nextRange hh hS (i := 1) rfl fun s' hS => ?_)
    refine hR h₀ s' rs ca as ts ots cs (Le.refl _) (Nat.le_refl _) hV hT hC (by omega) (by omega) (by omega) ?_
    have hii : l.set i (ra, RowO rs) = l := by
      obtain ⟨hl, e⟩ := List.getElem?_eq_some_iff.mp hi
      rw [← e, List.set_getElem_self]
    rw [hii]
    exact hS
  | succ m ih =>
    intro x h₀ l s it ca rs as ts ots c0 cs hS hi hz hV hT hC hl1 hl2 hl3 hl4 hR
    refine code_turn (r_nextRange hh hS (i := 1) rfl fun s' tx hS => ?_)
    replace hS : St w os h₀ ((L, NsO (caAl2 deep line pick code ra ca hx aa ta pa sa wv t1 t2 t3 t4)) :: (it, RiO (x + 1) m) :: (aa, LsO as) :: (ta, LsO ts) :: l) gl s' := hS
    refine wpAny_pure ?_
    refine wpAny_assign_Name (r_store hS (al' := caAl2 deep line pick code ra ca hx aa ta pa sa wv t1 t2 t3 t4 ++ [("slot", some (.int (x : Nat) tx))]) rfl fun s' hS => ?_)
    conv in forB _ => whnf
    simp only [caAl2, caAl, List.cons_append, List.nil_append] at hS
    repeat (walk_at "sx")
    refine hv _ _ _ _ _ _ _ (i + 4) ra rs _ hS hi hz hh hd hu ?_
    intro h₁ s' b y tv ca' rs' o ds hle hrl hb hval htv hca' hcs hft hS
    simp only [List.set_cons_succ] at hS
    refine r_unpack3 hh hS (isTuple_le hb hS.hp.keep) fun s' hS => ?_
    repeat (walk_at "sx")
    refine r_method_list hS (i := 2) rfl PySem.F.slot_list_append PySem.F.type_list_append ?_
    repeat (walk_at "sx")
    refine r_append hS (i := 2) rfl (by rw [sizeLine_eq]; omega) fun s' hS => ?_
    repeat (walk_at "sx")
    refine r_method_list hS (i := 3) rfl PySem.F.slot_list_append PySem.F.type_list_append ?_
    repeat (walk_at "sx")
    refine r_append hS (i := 3) rfl (by rw [sizeLine_eq]; omega) fun s' hS => ?_
    repeat (walk_at "sx")
    obtain ⟨vs1, hl1', hc1⟩ := hC.le hle
    obtain ⟨vs2, hl2', hc2⟩ := hca'
    have e1 := hc1.length
    have e2 := hc2.length
    refine r_addLists hS hl1' hl2' (by simp at e1; omega) fun cx h₂ s' hle₂ hcx hS => ?_
    repeat (walk_at "sx")
    have hkk := hle.trans hle₂
    have hS' := hS.weak (i := 0) (P' := NsO (caAl2 deep line pick code ra cx hx aa ta pa sa wv t1 t2 t3 t4)) rfl fun o q => NsO.weak q fun y' v' e => getV_app (a := caAl2 deep line pick code ra cx hx aa ta pa sa wv t1 t2 t3 t4) (b := [("slot", some (.int (x : Nat) tx)), ("node", some (.ref y)), ("text", some tv), ("inner", some (.ref ca'))]) e
    refine ih (x + 1) h₂ (l.set i (ra, RowO rs')) s' it cx rs' (as ++ [Value.ref y]) (ts ++ [tv]) (ots ++ [o]) c0 (cs ++ ds) hS' (set_at hi) (by omega) ((hV.le hkk).snoc (hval.le hle₂) (hft.le hle₂)) (hT.le.append (.cons htv.le .nil))
      ⟨_, hcx, by rw [← List.append_assoc]; exact (hc2.le hle₂).append (hc1.le hle₂)⟩ (by simp; omega) (by simp; omega) hl3 (by simp at hl4 ⊢; rw [Nat.add_mul] at hl4; omega) ?_
    intro h₃ s'' rs'' ca'' as'' ts'' ots'' cs'' q1 q2 q3 q4 q5 q6 q7 q8 hS
    rw [set_set'] at hS
    exact hR h₃ s'' rs'' ca'' as'' ts'' ots'' cs'' (hkk.trans q1) (by omega) q3 q4 q5 q6 (by simp at q7; omega) q8 hS
end
end

section
open PySem PySem.W PySem.Calls PyProof.Rows Builtin.ObjectAttr
section
variable {prog : Program} {w : World} {os : OsState} {gl : List (Nat × GenState)} {A : Around} {Q : Flow → Shared → Prop} {L ra aa ta pa sa hx : Addr} {i : Nat} {h₀ : Heap} {l : List Cell} {s : Shared}
theorem r_and {a b : Nat} {t u : Tok} {Q E : Value → Shared → Prop} (hS : St w os h₀ l gl s) (h : ∀ s' k t', St w os h₀ l gl s' → Q (.int k t') s') : wpAny (model prog w) A (binaryOp .BitAnd (.int (a : Nat) t) (.int (b : Nat) u)) Q E s :=
  and_int (h _ _ _ hS.toks)
set_option maxHeartbeats 8000000
theorem ca_pair {deep line pick code Bv n k : Nat} {t1 t2 t3 t4 : Tok} {wv : Value} {nm : Al} (hv : ValueSpec prog w os deep Bv n k) (hh : A.handled = none) (hd : A.depth < 800 - 10 * k) (hu : A.units < 8000 - 100 * k) (hB : Bv ≤ 100)
    {ca : Addr} {rs : List Nat} {ts : List Value} {c0 : List Cll}
    (hS : St w os h₀ ((L, NsO (caAl2 deep line pick code ra ca hx aa ta pa sa wv t1 t2 t3 t4)) :: (pa, LsO []) :: (ta, LsO ts) :: l) gl s) (hi : l[i]? = some (ra, RowO rs)) (hz : rs.length ≤ 1000)
    (hC : CallsA h₀ ca c0) (hl2 : ts.length ≤ 10) (hl3 : c0.length ≤ 1000)
    (h : ∀ h₁ s' rs' ca' ks xs cs ts', Le h₀ h₁ → rs'.length ≤ rs.length → Kids1 w h₁ ks xs → FT prog w h₁ xs (n + 1) [] cs → CallsA h₁ ca' (c0 ++ cs) → ts' = ts ++ List.replicate ks.length .none → ks.length ≤ 1 → cs.length ≤ Bv →
        St w os h₁ ((L, NsO (caAl2 deep line pick code ra ca' hx aa ta pa sa wv t1 t2 t3 t4)) :: (pa, LsO ks) :: (ta, LsO ts') :: l.set i (ra, RowO rs')) gl s' → Q .next s') :
    wpAny (model prog w) A (exec (sAt 7 (bodOf (stm 35))) (caEnv L)) Q no s := by
  conv in sAt _ _ => whnf
  simp only [caAl2, caAl, List.cons_append, List.nil_append] at hS
  repeat (walk_at "sx")
  refine r_and (b := 4) hS fun s' kk t' hS => PyProof.Rows.truthy_int ?_
  have hii : l.set i (ra, RowO rs) = l := by
    obtain ⟨hl, e⟩ := List.getElem?_eq_some_iff.mp hi
    rw [← e, List.set_getElem_self]
  cases (kk != 0) with
  | false =>
    refine ite_ff ?_
    repeat (walk_at "sx")
    exact h h₀ s' rs ca [] [] [] ts (Le.refl _) (Nat.le_refl _) .nil .nil (by simpa using hC) (by simp) (by simp) (by simp) (by rw [hii]; exact hS)
  | true =>
    refine ite_tt ?_
    repeat (walk_at "sx")
    refine hv _ _ _ _ _ _ _ (i + 3) ra rs _ hS hi hz hh hd hu ?_
    intro h₁ s' b y tv ca' rs' o ds hle hrl hb hval htv hca' hcs hft hS
    simp only [List.set_cons_succ] at hS
    refine r_unpack3 hh hS (isTuple_le hb hS.hp.keep) fun s' hS => ?_
    repeat (walk_at "sx")
    refine r_method_list hS (i := 1) rfl PySem.F.slot_list_append PySem.F.type_list_append ?_
    repeat (walk_at "sx")
    refine r_new hS (cl_keyword _) (mk_keyword _) hh (by omega) fun x h₂ s' hle₂ hm hS => ?_
    repeat (walk_at "sx")
    refine r_append hS (i := 1) rfl (by simp) fun s' hS => ?_
    repeat (walk_at "sx")
    refine r_method_list hS (i := 2) rfl PySem.F.slot_list_append PySem.F.type_list_append ?_
    repeat (walk_at "sx")
    refine r_append hS (i := 2) rfl (by rw [sizeLine_eq]; omega) fun s' hS => ?_
    repeat (walk_at "sx")
    obtain ⟨vs1, hl1', hc1⟩ := hC.le (hle.trans hle₂)
    obtain ⟨vs2, hl2', hc2⟩ := hca'.le hle₂
    have e1 := hc1.length
    have e2 := hc2.length
    refine r_addLists hS hl1' hl2' (by omega) fun cx h₃ s' hle₃ hcx hS => ?_
    repeat (walk_at "sx")
    have hkk := (hle.trans hle₂).trans hle₃
    have hfk : FT prog w h₃ [x] (n + 1) [] ds := (FT.one (r := []) (r' := []) (c := []) (c' := ds) (n := n) (hm.k (by decide) rfl (by decide) (by simp; exact ⟨rfl, rfl⟩) (.cons (.other kid_str) (.cons (.node ((hval.le hle₂).kid)) .nil)) (by kernel_rfl) (by kernel_rfl)) (hft.le hle₂) (.inl ⟨hm.isR (by kernel_rfl), rfl⟩) (.inl ⟨hm.isI (by kernel_rfl), rfl⟩)).le hle₃
    exact h h₃ s' rs' cx [.ref x] [x] ds (ts ++ [Value.none]) hkk hrl (.node ((hm.t.le hle₃).kid (by kernel_rfl) (by kernel_rfl)) .nil) hfk ⟨_, hcx, (hc2.le hle₃).append (hc1.le hle₃)⟩ rfl (by simp) hcs
      (hS.weak (i := 0) (P' := NsO (caAl2 deep line pick code ra cx hx aa ta pa sa wv t1 t2 t3 t4)) rfl fun o q => NsO.weak q fun y' v' e => getV_app (a := caAl2 deep line pick code ra cx hx aa ta pa sa wv t1 t2 t3 t4) (b := [("node", some (.ref y)), ("text", some tv), ("inner", some (.ref ca'))]) e)
end
end

section
open PySem PySem.W PySem.Calls PyProof.Rows Builtin.ObjectAttr
def EnO (it i : Nat) (old : Value) (o : Obj) : Prop := o = { cls := .type "enumerate", dict := none, data := .fields #[.none, .bool false, .ref it, rawInt (i : Nat), .none, old], slots := #[] }
def EuO (it i T : Nat) (old : Value) (o : Obj) : Prop := o = { cls := .type "enumerate", dict := none, data := .fields #[rawInt T, .bool false, .ref it, rawInt (i : Nat), .none, old], slots := #[] }
section
variable {prog : Program} {w : World} {os : OsState} {h₀ : Heap} {c : Cell} {l : List Cell} {gl : List (Nat × GenState)} {s s' : Shared} {A : Around} {E : Value → Shared → Prop} {i : Nat}
theorem St.turn2 {a b : Addr} {P P2 Pa Pb : Obj → Prop} {oa ob : Obj} (hS : St w os h₀ ((a, P) :: (b, P2) :: l) gl s) (hk : ∀ x o, x ≠ a → x ≠ b → s.heap.get? x = some o → s'.heap.get? x = some o)
    (ha : s'.heap.get? a = some oa) (hPa : Pa oa) (hb : s'.heap.get? b = some ob) (hPb : Pb ob) (hg : s'.gens = s.gens) (ho : s'.os = s.os) : St w os h₀ ((a, Pa) :: (b, Pb) :: l) gl s' := by
  have na : h₀.get? a = none := let ⟨_, _, _, q⟩ := hS.hp.at (i := 0) rfl; q
  have nb : h₀.get? b = none := let ⟨_, _, _, q⟩ := hS.hp.at (i := 1) rfl; q
  have nd := hS.hp.nd
  simp only [List.map_cons, List.nodup_cons, List.mem_cons, not_or] at nd
  refine hS.to ⟨fun x o e => hk x o (fun q => by rw [q, na] at e; cases e) (fun q => by rw [q, nb] at e; cases e) (hS.hp.keep x o e), fun cc hc => ?_, hS.hp.nd⟩ hg ho (fun o e => hk _ o (Ne.symm (hS.ne (a, P) (List.mem_cons_self ..))) (Ne.symm (hS.ne (b, P2) (List.mem_cons_of_mem _ (List.mem_cons_self ..)))) e) fun c hc => by
    rcases List.mem_cons.mp hc with rfl | hc
    · exact hS.ne (a, P) (List.mem_cons_self ..)
    rcases List.mem_cons.mp hc with rfl | hc
    · exact hS.ne (b, P2) (List.mem_cons_of_mem _ (List.mem_cons_self ..))
    · exact hS.ne c (List.mem_cons_of_mem _ (List.mem_cons_of_mem _ hc))
  rcases List.mem_cons.mp hc with rfl | hc
  · exact ⟨oa, ha, hPa, na⟩
  rcases List.mem_cons.mp hc with rfl | hc
  · exact ⟨ob, hb, hPb, nb⟩
  · obtain ⟨o, e1, e2, e3⟩ := hS.hp.own cc (List.mem_cons_of_mem _ (List.mem_cons_of_mem _ hc))
    exact ⟨o, hk _ _ (fun q => nd.1.2 (q ▸ List.mem_map_of_mem hc)) (fun q => nd.2.1 (q ▸ List.mem_map_of_mem hc)) e1, e2, e3⟩
theorem r_enum {la : Addr} {vs : List Value} {n : Nat} {Q : Value → Shared → Prop} (hS : St w os h₀ l gl s) (hl : h₀.get? la = some { cls := .type "list", data := .seq vs.toArray n })
    (h : ∀ e it s', St w os h₀ ((e, EnO it 0 .none) :: (it, LiO la 0) :: l) gl s' → Q (.ref e) s') : wpAny (model prog w) A (call (.type "enumerate") [.ref la]) Q E s := by
  refine call_enumerate_1 (hS.old hl) fun h' he hit hsz hk => ?_
  obtain ⟨oi, hoi, hci, hdi⟩ := hit
  have hs1 := hS.more (s' := { s with heap := h' }) hk (fresh_none _ (Nat.le_refl _)) hoi (P := LiO la 0) ⟨hci, hdi⟩ rfl rfl
  refine h _ s.heap.objs.size _ (hs1.to (s' := { s with heap := h' }) ⟨hs1.hp.keep, fun cc hc => ?_, ?_⟩ rfl rfl (fun _ e => e) fun c hc => by
    rcases List.mem_cons.mp hc with rfl | hc
    · exact Ne.symm (Nat.ne_of_lt (Nat.lt_succ_of_lt hS.lt484))
    · exact hs1.ne c hc)
  · rcases List.mem_cons.mp hc with rfl | hc
    · refine ⟨_, he, rfl, ?_⟩
      cases q : h₀.get? (s.heap.objs.size + 1) with
      | none => rfl
      | some o => exact absurd (Heap.lt_size (hS.hp.keep _ _ q)) (Nat.not_lt.mpr (Nat.le_succ _))
    · exact hs1.hp.own cc hc
  · refine List.nodup_cons.mpr ⟨fun hm => ?_, hs1.hp.nd⟩
    obtain ⟨cc, hc, e⟩ := List.mem_map.mp hm
    rcases List.mem_cons.mp hc with rfl | hc
    · exact absurd e (by simp)
    · obtain ⟨o, q, _⟩ := hS.hp.own cc hc
      rw [e] at q
      exact absurd (Heap.lt_size q) (by simp)
theorem r_iterEnum {e it k : Nat} {old : Value} {Q : Value → Shared → Prop} (hS : St w os h₀ l gl s) (hi : l[i]? = some (e, EnO it k old)) (h : Q (.ref e) s) : wpAny (model prog w) A (pyIter (.ref e)) Q E s := by
  obtain ⟨o, ho, rfl⟩ := hS.at hi
  exact wpAny_pyIter_enum ho h
theorem r_nextEnum {e it k la : Nat} {vs : List Value} {x old : Value} {Q : Option Value → Shared → Prop} (hS : St w os h₀ ((e, EnO it k old) :: (it, LiO la k) :: l) gl s) (hl : h₀.IsList la vs.toArray) (hx : vs[k]? = some x)
    (h : ∀ T t s', St w os h₀ ((T, PaO (.int (k : Nat) t) x) :: (e, EuO it (k + 1) T x) :: (it, LiO la (k + 1)) :: l) gl s' → Q (some (.ref T)) s') : wpAny (model prog w) A (pyNext (.ref e)) Q E s := by
  obtain ⟨o, ho, rfl⟩ := hS.at (i := 0) rfl
  obtain ⟨oi, hoi, hci, hdi⟩ := hS.at (i := 1) rfl
  have hne : e ≠ it := by
    have nd := hS.hp.nd
    simp only [List.map_cons, List.nodup_cons, List.mem_cons, not_or] at nd
    exact nd.1.1
  refine wpAny_pyNext_enum_item (i := k) ho ⟨oi, hoi, hci, hdi⟩ (isList_le hl hS.hp.keep) (by simpa using hx) hne fun h' he hit hT hsz hk => ?_
  obtain ⟨oi', hoi', hci', hdi'⟩ := hit
  refine h s.heap.objs.size s.toks { s with heap := h', toks := s.toks + 1 } ?_
  have hs1 := hS.turn2 (s' := { s with heap := h', toks := s.toks + 1 }) (Pa := EuO it (k + 1) s.heap.objs.size x) (Pb := LiO la (k + 1)) hk he (by unfold EuO; rfl) hoi' ⟨hci', by simpa using hdi'⟩ rfl rfl
  refine hs1.to (s' := { s with heap := h', toks := s.toks + 1 }) ⟨hs1.hp.keep, fun cc hc => ?_, ?_⟩ rfl rfl (fun _ e => e) fun c hc => by
    rcases List.mem_cons.mp hc with rfl | hc
    · exact Ne.symm (Nat.ne_of_lt hS.lt484)
    · exact hs1.ne c hc
  · rcases List.mem_cons.mp hc with rfl | hc
    · refine ⟨_, hT, rfl, ?_⟩
      cases q : h₀.get? s.heap.objs.size with
      | none => rfl
      | some o => exact absurd (Heap.lt_size (hS.hp.keep _ _ q)) (by simp)
    · exact hs1.hp.own cc hc
  · refine List.nodup_cons.mpr ⟨fun hm => ?_, hs1.hp.nd⟩
    have hm' : s.heap.objs.size ∈ ((e, EnO it k old) :: (it, LiO la k) :: l).map (·.1) := hm
    obtain ⟨cc, hc, e'⟩ := List.mem_map.mp hm'
    obtain ⟨o, q, _⟩ := hS.hp.own cc hc
    rw [e'] at q
    exact absurd (Heap.lt_size q) (by simp)
theorem r_letEnum {elts : List Expr} {x1 : Nat} {pos : Pos} {e it k T : Nat} {old : Value} {Q : Unit → Shared → Prop} (hS : St w os h₀ l gl s) (hi : l[i]? = some (e, EuO it k T old)) (h : ∀ s', St w os h₀ (l.set i (e, EnO it k old)) gl s' → Q () s') :
    wpAny (model prog w) A (letOwnedTupleGo (.Tuple elts x1 pos) (.ref e) (.ref T)) Q E s := by
  obtain ⟨o, ho, rfl⟩ := hS.at hi
  exact wpAny_letOwnedTupleGo_enum ho fun h' he hs => h _ (hS.turn (s' := { s with heap := h' }) hi (fun b o' hb e => hs.extBut b o' hb e) he rfl rfl rfl)
theorem r_endEnum {e it k la : Nat} {vs : List Value} {old : Value} {Q : Option Value → Shared → Prop} (hh : A.handled = none) (hS : St w os h₀ ((e, EnO it k old) :: (it, LiO la k) :: l) gl s) (hl : h₀.IsList la vs.toArray) (hx : vs[k]? = none)
    (h : ∀ s', St w os h₀ l gl s' → Q none s') : wpAny (model prog w) A (pyNext (.ref e)) Q E s := by
  obtain ⟨o, ho, rfl⟩ := hS.at (i := 0) rfl
  obtain ⟨oi, hoi, hci, hdi⟩ := hS.at (i := 1) rfl
  refine wpAny_pyNext_enum_end (i := k) hh ho ⟨oi, hoi, hci, hdi⟩ (isList_le hl hS.hp.keep) (by simpa using hx) fun h' hk => h _ ?_
  have nb : h₀.get? it = none := let ⟨_, _, _, q⟩ := hS.hp.at (i := 1) rfl; q
  have nd := hS.hp.nd
  simp only [List.map_cons, List.nodup_cons, List.mem_cons, not_or] at nd
  refine hS.to (s' := { s with heap := h' }) ⟨fun x o e => hk x o (fun q => by rw [q, nb] at e; cases e) (hS.hp.keep x o e), fun cc hc => ?_, nd.2.2⟩ rfl rfl (fun o e => hk _ o (Ne.symm (hS.ne (it, LiO la k) (List.mem_cons_of_mem _ (List.mem_cons_self ..)))) e) fun c hc => hS.ne c (List.mem_cons_of_mem _ (List.mem_cons_of_mem _ hc))
  obtain ⟨o, e1, e2, e3⟩ := hS.hp.own cc (List.mem_cons_of_mem _ (List.mem_cons_of_mem _ hc))
  exact ⟨o, hk _ _ (fun q => nd.2.1 (q ▸ List.mem_map_of_mem hc)) e1, e2, e3⟩
end
end

section
open PySem PySem.W PySem.Calls PyProof.Rows Builtin.ObjectAttr
def LwO (vs : List Value) (o : Obj) : Prop := o.cls = .type "list" ∧ ∃ n, o.data = .seq vs.toArray n
section
variable {prog : Program} {w : World} {os : OsState} {h₀ : Heap} {c : Cell} {l : List Cell} {gl : List (Nat × GenState)} {s s' : Shared} {A : Around} {E : Value → Shared → Prop} {i : Nat}
theorem assign_sub {o ix : Expr} {pos : Pos} {v : Value} {env : Env} {Q : Unit → Shared → Prop} (h : wpAny (model prog w) A (eval o env) (fun ov s₁ => wpAny (model prog w) A (eval ix env) (fun iv s₂ => wpAny (model prog w) A (setItem ov iv v) Q E s₂) E s₁) E s) :
    wpAny (model prog w) A (assign (.Subscript o ix pos) env v) Q E s := by
  rw [PySem.assign_Subscript]
  refine wpAny_bind (wpAny_holding (wpAny_mono h (fun ov s₁ h₁ => ?_) fun _ _ x => x))
  refine wpAny_bind (wpAny_holding (wpAny_mono h₁ (fun iv s₂ h₂ => ?_) fun _ _ x => x))
  refine wpAny_bind (wpAny_standAt (wpAny_bind (wpAny_holding (wpAny_mono h₂ (fun _ s₃ h₃ => ?_) fun _ _ x => x))))
  exact wpAny_release h₃
theorem lw_ls {vs : List Value} {o : Obj} (x : LsO vs o) : LwO vs o := by obtain ⟨n, rfl⟩ := x; exact ⟨rfl, n, rfl⟩
theorem St.isListW {a : Addr} {vs : List Value} (hS : St w os h₀ l gl s) (hi : l[i]? = some (a, LwO vs)) : s.heap.IsList a vs.toArray := let ⟨o, ho, hc, n, hd⟩ := hS.at hi; ⟨o, ho, hc, n, hd⟩
theorem r_setList {a : Addr} {vs : List Value} {k : Nat} {t : Tok} {v : Value} {Q : Unit → Shared → Prop} (hS : St w os h₀ l gl s) (hi : l[i]? = some (a, LwO vs)) (hk : k < vs.length) (hz : vs.length ≤ 1000)
    (h : ∀ s', St w os h₀ (l.set i (a, LwO (vs.set k v))) gl s' → Q () s') : wpAny (model prog w) A (setItem (.ref a) (.int (k : Nat) t) v) Q E s := by
  refine wpAny_setItem_list (hS.isListW hi) (by omega) (by omega) (by simpa using hk) fun h' hl hs => h _ ?_
  obtain ⟨o, ho, hc, n, hd⟩ := hl
  exact hS.turn (s' := { s with heap := h' }) hi (fun b o' hb e => hs.extBut b o' hb e) ho ⟨hc, n, by rw [hd]; simp⟩ rfl rfl
theorem r_pickW {value slice : Expr} {la : Addr} {vs : List Value} {kd : Nat} {t : Tok} {v : Value} {Q : Value → Shared → Prop} (hS : St w os h₀ l gl s) (hi : l[i]? = some (la, LwO vs)) (hv : vs[kd]? = some v) (hk : kd < 100000) (h : Q v s)
    (hs : subscripted slice false (.ref la) (.int kd t) = operate [.ref la, .int kd t] (getItem (.ref la) (.int kd t)) := by with_unfolding_all rfl) : wpAny (model prog w) A (subscriptTail value slice (.ref la) (.int kd t)) Q E s :=
  r_subTail (hS.isListW hi).typeIs PySem.F.slot_list_getitem.lookup (wpAny_getItem_list (hS.isListW hi) (by omega) (by omega) (by simpa using hv) h) hs
end
abbrev caF2 : Stmt := sAt 8 (bodOf (stm 35))
section
variable {prog : Program} {w : World} {os : OsState} {gl : List (Nat × GenState)} {A : Around} {R : Result → Shared → Prop} {L ra aa ta pa sa hx : Addr} {i : Nat} {s : Shared}
set_option maxHeartbeats 8000000
-- one turn of the loop over the stars
theorem ca_star {deep line pick code Bv n k : Nat} {t1 t2 t3 t4 : Tok} {wv : Value} (hv : ValueSpec prog w os deep Bv n k) (hh : A.handled = none) (hd : A.depth < 800 - 10 * k) (hu : A.units < 8000 - 100 * k) (hB : Bv ≤ 100)
    {h₀ : Heap} {l : List Cell} {e it ca la at_ bit : Nat} {tb : Tok} {rs : List Nat} {ts ss bits : List Value} {c0 : List Cll} {old : Value}
    (hS : St w os h₀ ((e, EnO it at_ old) :: (it, LiO la at_) :: (L, NsO (caAl2 deep line pick code ra ca hx aa ta pa sa wv t1 t2 t3 t4)) :: (sa, LwO ss) :: (ta, LsO ts) :: l) gl s) (hi : l[i]? = some (ra, RowO rs)) (hz : rs.length ≤ 1000)
    (hla : h₀.IsList la bits.toArray) (hbit : bits[at_]? = some (.int (bit : Nat) tb)) (hat : at_ < ss.length) (hss : ss.length = 2) (hsat : ss[at_]? = some .none)
    (hC : CallsA h₀ ca c0) (hl2 : ts.length ≤ 10) (hl3 : c0.length ≤ 2000)
    (hR : ∀ h₁ s' rs' ca' v xs o cs ts' old', Le h₀ h₁ → rs'.length ≤ rs.length → StarV v o → KidV w h₁ v xs → handedIn v = true → FT prog w h₁ xs n [] cs → CallsA h₁ ca' (c0 ++ cs) → ts' = ts ++ List.replicate o.length .none → cs.length ≤ Bv →
        St w os h₁ ((e, EnO it (at_ + 1) old') :: (it, LiO la (at_ + 1)) :: (L, NsO (caAl2 deep line pick code ra ca' hx aa ta pa sa wv t1 t2 t3 t4)) :: (sa, LwO (ss.set at_ v)) :: (ta, LsO ts') :: l.set i (ra, RowO rs')) gl s' → codeAny (model prog w) A (forC caF2 (.ref e) (caEnv L)) R s') :
    codeAny (model prog w) A (forC caF2 (.ref e) (caEnv L)) R s := by
  refine code_turn (r_nextEnum hS hla hbit fun T t s' hS => ?_)
  refine r_letEnum hS (i := 1) rfl fun s' hS => ?_
  have hT := hS.pair (i := 0) rfl
  refine r_unpack2 hh hS ⟨_, hT, rfl, ⟨0, rfl⟩⟩ fun s' hS => ?_
  replace hS := St.flip (l₁ := [((e, EnO it (at_ + 1) (.int (bit : Nat) tb)) : Cell), (it, LiO la (at_ + 1))]) (l₂ := [((L, NsO (caAl2 deep line pick code ra ca hx aa ta pa sa wv t1 t2 t3 t4)) : Cell), (sa, LwO ss), (ta, LsO ts)]) (hS.sub ((List.Sublist.refl _).cons _))
  replace hS : St w os h₀ ((L, NsO (caAl2 deep line pick code ra ca hx aa ta pa sa wv t1 t2 t3 t4)) :: (sa, LwO ss) :: (ta, LsO ts) :: (e, EnO it (at_ + 1) (.int (bit : Nat) tb)) :: (it, LiO la (at_ + 1)) :: l) gl s' := hS
  have back : ∀ {h : Heap} {s : Shared} {al : List (String × Option Value)} {ca' : Addr} {ss' ts' : List Value} {l' : List Cell}, St w os h ((L, NsO (caAl2 deep line pick code ra ca' hx aa ta pa sa wv t1 t2 t3 t4 ++ al)) :: (sa, LwO ss') :: (ta, LsO ts') :: (e, EnO it (at_ + 1) (.int (bit : Nat) tb)) :: (it, LiO la (at_ + 1)) :: l') gl s →
      St w os h ((e, EnO it (at_ + 1) (.int (bit : Nat) tb)) :: (it, LiO la (at_ + 1)) :: (L, NsO (caAl2 deep line pick code ra ca' hx aa ta pa sa wv t1 t2 t3 t4)) :: (sa, LwO ss') :: (ta, LsO ts') :: l') gl s := fun {h s al ca' ss' ts' l'} hS =>
    St.flip (l₁ := [((L, NsO (caAl2 deep line pick code ra ca' hx aa ta pa sa wv t1 t2 t3 t4)) : Cell), (sa, LwO ss'), (ta, LsO ts')]) (l₂ := [((e, EnO it (at_ + 1) (.int (bit : Nat) tb)) : Cell), (it, LiO la (at_ + 1))]) (hS.weak (i := 0) rfl fun o q => NsO.weak q fun y' v' e => getV_app e)
  simp only [caAl2, caAl, List.cons_append, List.nil_append] at hS
  repeat (walk_at "sx")
  conv in forB _ => whnf
  repeat (walk_at "sx")
  refine r_and (b := bit) hS fun s' kk t' hS => PyProof.Rows.truthy_int ?_
  have hii : l.set i (ra, RowO rs) = l := by
    obtain ⟨hl, e⟩ := List.getElem?_eq_some_iff.mp hi
    rw [← e, List.set_getElem_self]
  cases (kk != 0) with
  | false =>
    refine ite_ff ?_
    repeat (walk_at "sx")
    refine hR h₀ s' rs ca .none [] [] [] ts (.int (bit : Nat) tb) (Le.refl _) (Nat.le_refl _) (.inl ⟨rfl, rfl⟩) (.other kid_none) rfl .nil (by simpa using hC) (by simp) (by simp) ?_
    have hse : ss.set at_ .none = ss := by
      obtain ⟨hl, e⟩ := List.getElem?_eq_some_iff.mp hsat
      rw [← e, List.set_getElem_self]
    rw [hii, hse]
    exact back (al := [("at", some (.int (at_ : Nat) t)), ("bit", some (.int (bit : Nat) tb))]) hS
  | true =>
    refine ite_tt ?_
    repeat (walk_at "sx")
    refine hv _ _ _ _ _ _ _ (i + 5) ra rs _ hS hi hz hh hd hu ?_
    intro h₁ s' b y tv ca' rs' o ds hle hrl hb hval htv hca' hcs hft hS
    simp only [List.set_cons_succ] at hS
    refine r_unpack3 hh hS (isTuple_le hb hS.hp.keep) fun s' hS => ?_
    refine assign_sub ?_
    repeat (walk_at "sx")
    refine r_setList hS (i := 1) rfl hat (by omega) fun s' hS => ?_
    repeat (walk_at "sx")
    refine r_method_list hS (i := 2) rfl PySem.F.slot_list_append PySem.F.type_list_append ?_
    repeat (walk_at "sx")
    refine r_append hS (i := 2) rfl (by rw [sizeLine_eq]; omega) fun s' hS => ?_
    repeat (walk_at "sx")
    obtain ⟨vs1, hl1', hc1⟩ := hC.le hle
    obtain ⟨vs2, hl2', hc2⟩ := hca'
    have e1 := hc1.length
    have e2 := hc2.length
    refine r_addLists hS hl1' hl2' (by omega) fun cx h₃ s' hle₃ hcx hS => ?_
    repeat (walk_at "sx")
    exact hR h₃ s' rs' cx (.ref y) [y] [none] ds (ts ++ [Value.none]) (.int (bit : Nat) tb) (hle.trans hle₃) hrl (.inr ⟨⟨_, rfl⟩, rfl⟩) (.node ((hval.le hle₃).kid)) rfl (hft.le hle₃) ⟨_, hcx, (hc2.le hle₃).append (hc1.le hle₃)⟩ rfl hcs
      (back (al := [("at", some (.int (at_ : Nat) t)), ("bit", some (.int (bit : Nat) tb)), ("text", some tv), ("inner", some (.ref ca'))]) hS)
end
end

section
open PySem PySem.W PySem.Calls PyProof.Rows Builtin.ObjectAttr
section
variable {prog : Program} {w : World} {os : OsState} {h₀ : Heap} {l : List Cell} {gl : List (Nat × GenState)} {s : Shared} {A : Around} {E : Value → Shared → Prop} {i : Nat}
theorem r_addN {a b : Nat} {t u : Tok} {Q : Value → Shared → Prop} (hS : St w os h₀ l gl s) (h : ∀ s' t', St w os h₀ l gl s' → Q (.int ((a + b : Nat) : Int) t') s') : wpAny (model prog w) A (binaryOp .Add (.int (a : Nat) t) (.int (b : Nat) u)) Q E s :=
  r_add hS fun s' t' hS => by rw [← Int.natCast_add]; exact h _ _ hS
theorem St.front {c : Cell} (hS : St w os h₀ l gl s) (i : Nat) (hi : l[i]? = some c) : St w os h₀ (c :: l.eraseIdx i) gl s := by
  obtain ⟨hl, e⟩ := List.getElem?_eq_some_iff.mp hi
  refine hS.perm ?_
  rw [List.eraseIdx_eq_take_drop_succ]
  refine List.perm_middle.symm.trans ?_
  rw [← e, List.getElem_cons_drop, List.take_append_drop]
theorem St.less (hS : St w os h₀ l gl s) (i : Nat) : St w os h₀ (l.eraseIdx i) gl s := hS.sub (List.eraseIdx_sublist ..)
end
theorem textsR_rep {h : Heap} : ∀ n : Nat, TextsR h (List.replicate n Value.none) (List.replicate n none)
  | 0 => .nil
  | n + 1 => .cons rfl (textsR_rep n)
theorem star_rep {v : Value} {o : List (Option Str)} (x : StarV v o) : o = List.replicate o.length none := by
  rcases x with ⟨_, rfl⟩ | ⟨_, rfl⟩ <;> rfl
theorem star_len {v : Value} {o : List (Option Str)} (x : StarV v o) : o.length ≤ 1 := by
  rcases x with ⟨_, rfl⟩ | ⟨_, rfl⟩ <;> simp
theorem HeadT.le {prog : Program} {w : World} {h h' : Heap} {x : Addr} {o : Option Str} (a : HeadT prog w h x o) (k : Le h h') : HeadT prog w h' x o := by
  cases o with
  | some n => obtain ⟨t, p, q, r⟩ := a; exact ⟨t, p.le k, q.le k, r⟩
  | none => obtain ⟨C, p, q⟩ := a; exact ⟨C, p.le k, q⟩
theorem HeadT.v {prog : Program} {w : World} {h : Heap} {x : Addr} {o : Option Str} (a : HeadT prog w h x o) : HeadV prog w h (.ref x) o := by
  cases o with
  | some n => obtain ⟨t, p, q, _⟩ := a; exact ⟨x, t, rfl, p, q⟩
  | none => obtain ⟨C, p, q⟩ := a; exact ⟨x, C, rfl, p, by rcases q with rfl | rfl <;> kernel_rfl⟩
theorem HeadT.kid {prog : Program} {w : World} {h : Heap} {x : Addr} {o : Option Str} (a : HeadT prog w h x o) : Kid1 w h (.ref x) (some x) := by
  cases o with
  | some n => obtain ⟨t, p, q⟩ := a; exact p.kid (by kernel_rfl) (by kernel_rfl)
  | none => obtain ⟨C, p, q⟩ := a; rcases q with rfl | rfl <;> exact p.kid (by kernel_rfl) (by kernel_rfl)
theorem call_ft {prog : Program} {w : World} {h : Heap} {x hx la lk line n : Nat} {lt : Tok} {v1 v2 : Value} {as ks : List Value} {os₁ o1 o2 : List (Option Str)} {word : Option Str} {c1 c2 c3 c4 c5 : List Cll} {xsk xs1 xs2 : List Addr}
    (m : Made prog w h x 457 ["node", "args", "kwargs", "dyn_args", "dyn_kwargs"] [.ref hx, .ref la, .ref lk, v1, v2] (.int (line : Nat) lt)) (hh : HeadT prog w h hx word) (fh : FT prog w h [hx] n [] c1) (ia : h.IsList la as.toArray) (va : ValsL prog w h as os₁ n c2)
    (ik : h.IsList lk ks.toArray) (kk : Kids1 w h ks xsk) (fk : FT prog w h xsk (n + 1) [] c3) (s1 : StarV v1 o1) (k1 : KidV w h v1 xs1) (hv1 : handedIn v1 = true) (f1 : FT prog w h xs1 n [] c4) (s2 : StarV v2 o2) (k2 : KidV w h v2 xs2) (hv2 : handedIn v2 = true) (f2 : FT prog w h xs2 n [] c5)
    (hl : os₁.length + ks.length ≤ 900) : FT prog w h [x] (n + 2) [] (⟨line, word, os₁ ++ List.replicate ks.length none ++ o1 ++ o2⟩ :: (c1 ++ c2 ++ c3 ++ c4 ++ c5)) := by
  obtain ⟨xa, ka, ta, fa⟩ := va.e
  have l1 := star_len s1
  have l2 := star_len s2
  have hkids : FT prog w h ([hx] ++ xa ++ xsk ++ xs1 ++ xs2) (n + 1) [] (c1 ++ c2 ++ c3 ++ c4 ++ c5) :=
    (((((fh.mono (by omega)).append (fa.mono (by omega))).append fk).append (f1.mono (by omega))).append (f2.mono (by omega)))
  have hk : KidsP w h (List.zip ["node", "args", "kwargs", "dyn_args", "dyn_kwargs"] [.ref hx, .ref la, .ref lk, v1, v2]) ([hx] ++ xa ++ xsk ++ xs1 ++ xs2) := by
    have := KidsP.cons (n := "node") (KidV.node hh.kid) (KidsP.cons (n := "args") (KidV.list ia ka) (KidsP.cons (n := "kwargs") (KidV.list ik kk) (KidsP.cons (n := "dyn_args") k1 (KidsP.cons (n := "dyn_kwargs") k2 .nil))))
    simpa using this
  have nk := m.k (by decide) rfl (by decide) (by simp; exact ⟨rfl, rfl, rfl, hv1, hv2⟩) hk (by kernel_rfl) (by kernel_rfl)
  refine FT.one (r := []) (r' := []) (c := [_]) nk hkids (.inl ⟨m.isR (by kernel_rfl), rfl⟩) (.inr ⟨_, m.isI (by kernel_rfl), ?_, rfl⟩)
  obtain ⟨ft, d, vd, od, cl, na⟩ := id m
  have hwd : ∀ n, word = some n → n ∈ fourWords := by
    intro n e
    subst e
    obtain ⟨_, _, _, r⟩ := hh
    exact r
  exact ⟨⟨ft, _, d, vd, od, _, lt, .ref hx, v1, v2, la, lk, as, ks, os₁, o1, o2, cl, na, m.field (by decide) (by rfl) rfl, hh.v, m.field (by decide) (by rfl) rfl, ia, ta, m.field (by decide) (by rfl) rfl, ik, m.field (by decide) (by rfl) hv1, s1, m.field (by decide) (by rfl) hv2, s2, rfl, by simp; omega⟩, hwd⟩
end

local macro_rules | `(tactic| walk_at "sy") => do
  let h := Lean.mkIdent `hS
  let s' := Lean.mkIdent `s'
  `(tactic| first
  | ((with_reducible show wpAny _ _ (binaryOp Operator.Mod _ _) _ _ _); first
      | ((with_reducible show wpAny _ _ (binaryOp Operator.Mod (Value.int _ _) (Value.int 6 _)) _ _ _); refine r_modN (m := 6) $h (by decide) ?_; clear $h; intro $s' _ $h)
      | ((with_reducible show wpAny _ _ (binaryOp Operator.Mod (Value.int _ _) (Value.int 7 _)) _ _ _); refine r_modN (m := 7) $h (by decide) ?_; clear $h; intro $s' _ $h)
      | ((with_reducible show wpAny _ _ (binaryOp Operator.Mod (Value.int _ _) (Value.int 32 _)) _ _ _); refine r_modN (m := 32) $h (by decide) ?_; clear $h; intro $s' _ $h)
      | ((with_reducible show wpAny _ _ (binaryOp Operator.Mod (Value.int _ _) (Value.int 5 _)) _ _ _); refine r_modN (m := 5) $h (by decide) ?_; clear $h; intro $s' _ $h)
      | ((with_reducible show wpAny _ _ (binaryOp Operator.Mod (Value.int _ _) (Value.int 4 _)) _ _ _); refine r_modN (m := 4) $h (by decide) ?_; clear $h; intro $s' _ $h)
      | ((with_reducible show wpAny _ _ (binaryOp Operator.Mod (Value.int _ _) (Value.int 2 _)) _ _ _); refine r_modN (m := 2) $h (by decide) ?_; clear $h; intro $s' _ $h)
      | ((with_reducible show wpAny _ _ (binaryOp Operator.Mod (Value.int _ _) (Value.int 8 _)) _ _ _); refine r_modN (m := 8) $h (by decide) ?_; clear $h; intro $s' _ $h))
  | walk_at "sx"
  | ((with_reducible show wpAny _ _ (exec (Stmt.Assign [Expr.Tuple _ _ _] (Expr.Tuple [_, _, _, _] _ _) _) _) _ _ _); refine PyProof.Rows.Assign_Tuple ?_)
  | ((with_reducible show wpAny _ _ (assignInOrder _ _) _ _ _); first | refine wpAny_assignInOrder_more ?_ | refine wpAny_assignInOrder_none ?_)
  | ((with_reducible show wpAny _ _ (bindName _ _ _) _ _ _); refine wpAny_bindName ?_)
  | ((with_reducible show wpAny _ _ (exec (Stmt.For _ _ _ _ _) _) _ _ _); refine PySem.wpAny_For ?_)
  | ((with_reducible show wpAny _ _ (exec (Stmt.AnnAssign _ _ _ _ _) _) _ _ _); refine wpAny_AnnAssign_none ?_))

section
open PySem PySem.W PySem.Calls PyProof.Rows Builtin.ObjectAttr
section
variable {prog : Program} {w : World} {os : OsState}
set_option maxHeartbeats 8000000
theorem call_of {deep Bv Bc n k : Nat} (hv : ValueSpec prog w os deep Bv n k) (hc : deep = 0 ∨ ∃ d, deep = d + 1 ∧ CallSpec prog w os d Bc n k) (hn : 2 ≤ n) (hBv : Bv ≤ 100) (hBc : Bc ≤ 100) : CallSpec prog w os deep (1 + Bc + 6 * Bv) (n + 2) (k + 1) := by
  intro h₀ l gl s A Q E i ra rs t hS hi hz hh hd hu h
  refine wpAny_call ?_
  refine r_call (fd := fd525) (body := bodOf (stm 35)) [("deep", some (.int deep t)), ("row", some (.ref ra))] hS (k525 _) (c525 _) (by simp only [recursionLimit]; omega) rfl (BindsTo.of_eq rfl) (by decide +kernel) (locs rfl) (al_cons (al_cons al_nil)) (fun L s' hS => ?_)
  conv in bodOf _ => whnf
  have hdA : (A.deeper (callEnv fd525 L 525)).depth < 800 - 10 * k := by show A.depth + 1 < _; omega
  have huA : (A.deeper (callEnv fd525 L 525)).units < 8000 - 100 * k := by show A.units + 3 < _; omega
  have hhA : (A.deeper (callEnv fd525 L 525)).handled = none := hh
  have hss : ∀ c d : Cell, (l.set i c).set i d = l.set i d := fun _ _ => set_set'
  repeat (walk_at "sy")
  refine r_rowLen hS (i := i + 1) hi hz fun s' t' hS => ?_
  refine r_addN (a := 1) hS fun s' t2 hS => ?_
  repeat (walk_at "sy")
  refine draw_spec hS (i := i + 1) hi (by omega) (by omega) hz fun s' t' hS => ?_
  simp only [List.set_cons_succ] at hS
  have hi1 := set_at (d := ((ra, RowO rs.tail) : Cell)) hi
  have hrl : rs.tail.length ≤ rs.length := by simp
  generalize rs.headD 0 = r at hS
  generalize rs.tail = rs₁ at hS hi1 hrl
  repeat (walk_at "sy")
  generalize r % 6 = pick at hS
  refine PyProof.Rows.Assign_Tuple_swapped (names := [Str.ofString "word", Str.ofString "calls"]) ?_ (by kernel_rfl) (by kernel_rfl)
  repeat (walk_at "sy")
  have hT := hS.isTuple (i := 1) rfl
  refine r_unpackItems hhA hS hT rfl fun s' hS => ?_
  iterate 8 (walk_at "sy")
  change wpAny _ _ (exec (sAt 3 (bodOf (stm 35))) (caEnv L)) _ _ _
  obtain ⟨h₁, _, hk₁, hca, ⟨nn, rfl⟩, hS⟩ := hS.freezeAt (i := 2) rfl
  replace hS := hS.sub (l' := (L, NsO (caAl deep (1 + rs.length) pick ra _ .none t t2 _)) :: l.set i (ra, RowO rs₁)) ((List.sublist_cons_self _ _).cons_cons _)
  refine ca_head (k := k) hc hn ⟨[], ⟨_, hca, rfl, nn, rfl⟩, .nil⟩ hS hi1 (by omega) hhA hdA huA fun h₂ s' hx wv ca rs₂ word cs₁ hk₂ hrl₂ hft hht hwt hcs hcl hS => ?_
  rw [hss] at hS
  have hi2 := set_at (d := ((ra, RowO rs₂) : Cell)) hi
  simp only [caAl, List.cons_append, List.nil_append] at hS
  repeat (walk_at "sy")
  refine draw_spec hS (i := i + 1) hi2 (by omega) (by omega) (by omega) fun s' t' hS => ?_
  simp only [List.set_cons_succ] at hS
  rw [hss] at hS
  have hi3 := set_at (d := ((ra, RowO rs₂.tail) : Cell)) hi
  have hrl3 : rs₂.tail.length ≤ rs₂.length := by simp
  generalize rs₂.headD 0 = r at hS
  generalize rs₂.tail = rs₃ at hS hi3 hrl3
  repeat (walk_at "sy")
  generalize r % 32 = code at hS
  have hT := hS.isTuple (i := 1) rfl
  refine r_unpack4 hhA hS hT fun s' hS => ?_
  repeat (walk_at "sy")
  refine r_range hS fun r s' hS => ?_
  repeat (walk_at "sy")
  refine r_iterRange (i := 1) (by omega) hS rfl fun it s' hS => ?_
  replace hS := ((((((((hS.front 4 rfl).front 5 rfl).front 6 rfl).front 7 rfl).front 5 rfl).front 5 rfl).less 6).less 6)
  simp only [List.eraseIdx] at hS
  refine ca_args (k := k) (i := i + 2) (n := n) (c0 := cs₁) hv hhA hdA huA hBv (code % 4) 0 h₂ _ s' it ca rs₃ [] [] [] [] hS hi3 (by omega) .nil .nil (by simpa using hcs) (by have := Nat.mod_lt code (by decide : 0 < 4); simp; omega) (by have := Nat.mod_lt code (by decide : 0 < 4); simp; omega) (by omega) (by have := Nat.mod_lt code (by decide : 0 < 4); simp; exact Nat.mul_le_mul_right _ (by omega)) ?_
  intro h₃ s' rs₄ ca₂ as ts os₁ cs₂ hk₃ hrl₄ hVals hTx hcs₂ hal htl hcl₂ hS
  simp only [List.set_cons_succ] at hS
  rw [hss] at hS
  have hi4 := set_at (d := ((ra, RowO rs₄) : Cell)) hi
  iterate 1 (walk_at "sy")
  change wpAny _ _ (exec (sAt 7 (bodOf (stm 35))) (caEnv L)) _ _ _
  replace hS := (((hS.front 2 rfl).front 3 rfl).front 2 rfl)
  simp only [List.eraseIdx] at hS
  refine ca_pair (k := k) (i := i + 2) (n := n) (nm := []) (c0 := cs₁ ++ cs₂) hv hhA hdA huA hBv hS hi4 (by omega) hcs₂ (by simp at htl; have := Nat.mod_lt code (by decide : 0 < 4); omega) (by simp; omega) ?_
  intro h₄ s' rs₅ ca₃ ks xs cs₃ ts₂ hk₄ hrl₅ hKi hKf hcs₃ ets hkl hcl₃ hS
  simp only [List.set_cons_succ] at hS
  rw [hss] at hS
  have hi5 := set_at (d := ((ra, RowO rs₅) : Cell)) hi
  have htl2 : ts₂.length ≤ 4 := by rw [ets]; simp at htl ⊢; have := Nat.mod_lt code (by decide : 0 < 4); omega
  have hcl4 : (cs₁ ++ cs₂ ++ cs₃).length ≤ Bc + 4 * Bv := by simp; omega
  generalize hc4 : cs₁ ++ cs₂ ++ cs₃ = cs₄ at hcs₃ hcl4
  repeat (walk_at "sy")
  obtain ⟨h₅, _, hk₅, hbl, ⟨nb, rfl⟩, hS⟩ := hS.freezeAt (i := 1) rfl
  simp only [List.eraseIdx] at hS
  refine r_enum hS hbl fun e it s' hS => ?_
  repeat (walk_at "sy")
  refine r_iterEnum hS (i := 0) rfl ?_
  replace hS := ((((hS.front 4 rfl).front 6 rfl).front 4 rfl).front 4 rfl).front 4 rfl
  simp only [List.eraseIdx] at hS
  replace hS := hS.weak (i := 3) (P' := LwO [Value.none, Value.none]) rfl fun o q => lw_ls q
  simp only [List.set_cons_succ, List.set_cons_zero] at hS
  refine ca_star (k := k) (i := i + 2) (n := n) (bit := 8) hv hhA hdA huA hBv hS hi5 (by omega) ⟨_, hbl, rfl, nb, rfl⟩ rfl (by decide) rfl rfl (hcs₃.le hk₅) (by omega) (by omega) ?_
  intro h₆ s' rs₆ ca₄ v1 xs1 o1 cs₅ ts₃ old hk₆ hrl₆ hst1 hkv1 hhv1 hf1 hcs₄ ets3 hcl₅ hS
  simp only [List.set_cons_succ, List.set_cons_zero] at hS
  rw [hss] at hS
  have hi6 := set_at (d := ((ra, RowO rs₆) : Cell)) hi
  have ol1 : o1.length ≤ 1 := by rcases hst1 with ⟨_, rfl⟩ | ⟨_, rfl⟩ <;> simp
  have htl3 : ts₃.length ≤ 5 := by rw [ets3]; simp; omega
  refine ca_star (k := k) (i := i + 2) (n := n) (bit := 16) hv hhA hdA huA hBv hS hi6 (by omega) (isList_le ⟨_, hbl, rfl, nb, rfl⟩ hk₆) rfl (by simp) rfl rfl hcs₄ (by omega) (by simp; omega) ?_
  intro h₇ s' rs₇ ca₅ v2 xs2 o2 cs₆ ts₄ old2 hk₇ hrl₇ hst2 hkv2 hhv2 hf2 hcs₅ ets4 hcl₆ hS
  simp only [List.set_cons_succ, List.set_cons_zero] at hS
  rw [hss] at hS
  refine code_turn (r_endEnum hhA hS (isList_le ⟨_, hbl, rfl, nb, rfl⟩ (hk₆.trans hk₇)) rfl fun s' hS => ?_)
  repeat (walk_at "sy")
  refine callWith_KW (Bs.K (St.bs hS)) (by kernel_rfl) rfl ?_
  repeat (walk_at "sy")
  refine r_pickW hS (i := 1) (kd := 0) rfl rfl (by decide) ?_
  repeat (walk_at "sy")
  refine r_pickW hS (i := 1) (kd := 1) rfl rfl (by decide) ?_
  repeat (walk_at "sy")
  obtain ⟨h₈, _, hk₈, hal', ⟨na', rfl⟩, hS⟩ := hS.freezeAt (i := 4) rfl
  simp only [List.eraseIdx] at hS
  obtain ⟨h₉, _, hk₉, hkl', ⟨nk', rfl⟩, hS⟩ := hS.freezeAt (i := 3) rfl
  simp only [List.eraseIdx] at hS
  obtain ⟨h₁₀, _, hk₁₀, htl', ⟨nt', rfl⟩, hS⟩ := hS.freezeAt (i := 2) rfl
  simp only [List.eraseIdx] at hS
  refine PyProof.Rows.kwAll_cons ?_
  repeat (walk_at "sy")
  refine PyProof.Rows.kwAll_nil ?_
  repeat (walk_at "sy")
  refine wpAny_call ?_
  refine node_made (vs := [_, _, _, _, _]) (kw := [(Str.ofString "lineno", .int (1 + rs.length : Nat) t2)]) (cl_call _) (mk_call _) hhA (by omega) rfl (by decide) (by decide) (by decide) (.inr rfl) (fun x => bind51_5 x _ _ _ _ _ _) hS fun x h₁₁ s' d' vd od hk₁₁ _ na hS => ?_
  repeat (walk_at "sy")
  obtain ⟨h₁₂, _, hk₁₂, hT12, rfl, hS⟩ := hS.freezeAt (i := 2) rfl
  simp only [List.eraseIdx] at hS
  obtain ⟨h₁₃, _, hk₁₃, hL13, ⟨nl', rfl⟩, hS⟩ := hS.freezeAt (i := 1) rfl
  simp only [List.eraseIdx] at hS
  have kk13 := ((((hk₈.trans hk₉).trans hk₁₀).trans hk₁₁).trans hk₁₂).trans hk₁₃
  obtain ⟨vs5, hl5, hc5⟩ := hcs₅.le kk13
  have e5 := hc5.length
  refine r_addLists hS (vs := [_]) ⟨_, hL13, rfl, nl', rfl⟩ hl5 (by simp at e5 ⊢; omega) fun cx h₁₄ s' hk₁₄ hcx hS => ?_
  repeat (walk_at "sy")
  obtain ⟨h₁₅, hk₁₅, hb, hS⟩ := value_ret1 (m := [_]) hS
  have m : Made prog w h₁₁ x 457 _ _ _ := ⟨_, _, _, _, cl_call _, na⟩
  have ka : Le h₁₁ h₁₅ := ((hk₁₂.trans hk₁₃).trans hk₁₄).trans hk₁₅
  have kb : Le h₇ h₁₁ := ((hk₈.trans hk₉).trans hk₁₀).trans hk₁₁
  have kc : Le h₄ h₇ := (hk₅.trans hk₆).trans hk₇
  have kz := kc.trans kb
  have eos := hTx.length
  have hts : ts.length ≤ 3 := by have := Nat.mod_lt code (by decide : 0 < 4); simp at htl; omega
  have hft' := call_ft m (HeadT.le (HeadT.le hht (hk₃.trans hk₄)) kz) ((hft.le (hk₃.trans hk₄)).le kz) ⟨_, (hk₉.trans (hk₁₀.trans hk₁₁)) _ _ hal', rfl, na', rfl⟩ ((hVals.le hk₄).le kz)
    ⟨_, (hk₁₀.trans hk₁₁) _ _ hkl', rfl, nk', rfl⟩ (hKi.le kz) (hKf.le kz) hst1 (hkv1.le (hk₇.trans kb)) hhv1 (hf1.le (hk₇.trans kb)) hst2 (hkv2.le kb) hhv2 (hf2.le kb) (by omega)
  subst hc4
  refine h h₁₅ _ _ x cx rs₇ (⟨1 + rs.length, word, os₁ ++ List.replicate ks.length none ++ o1 ++ o2⟩ :: (cs₁ ++ cs₂ ++ cs₃ ++ cs₅ ++ cs₆)) ?_ (by omega) hb (m.t.le ka) ⟨_, isList_le hcx hk₁₅, .cons ?_ (hc5.le (hk₁₄.trans hk₁₅))⟩ ?_ (hft'.le ka) hS
  · exact (((hk₁.trans hk₂).trans hk₃).trans hk₄).trans (kz.trans ka)
  · refine ⟨_, t2, wv, _, ts₄, rfl, ⟨_, ((hk₁₃.trans hk₁₄).trans hk₁₅) _ _ hT12, rfl, ⟨0, rfl⟩⟩, hwt.le, ⟨_, (hk₁₁.trans ka) _ _ htl', rfl, nt', rfl⟩, ?_⟩
    rw [ets4, ets3, ets, star_rep hst1, star_rep hst2]
    simp only [List.length_replicate]
    exact (((TextsR.le hTx).append (textsR_rep _)).append (textsR_rep _)).append (textsR_rep _)
  · simp at hcl4 hcl₅ hcl₆ ⊢
    omega
end
end

section
open PySem PySem.W PySem.Calls PyProof.Rows Builtin.ObjectAttr
section
variable {prog : Program} {w : World} {os : OsState}
theorem ValueSpec.mono {deep B n k B' n' k' : Nat} (x : ValueSpec prog w os deep B n k) (h1 : B ≤ B') (h2 : n ≤ n') (h3 : k ≤ k') : ValueSpec prog w os deep B' n' k' :=
  fun h₀ l gl s A Q E i ra rs t hS hi hz hh hd hu h => x h₀ l gl s A Q E i ra rs t hS hi hz hh (by omega) (by omega) fun h₁ s' b y tv ca rs' o cs a1 a2 a3 a4 a5 a6 a7 a8 a9 => h h₁ s' b y tv ca rs' o cs a1 a2 a3 a4 a5 a6 (by omega) (a8.mono h2) a9
theorem CallSpec.mono {deep B n k B' n' k' : Nat} (x : CallSpec prog w os deep B n k) (h1 : B ≤ B') (h2 : n ≤ n') (h3 : k ≤ k') : CallSpec prog w os deep B' n' k' :=
  fun h₀ l gl s A Q E i ra rs t hS hi hz hh hd hu h => x h₀ l gl s A Q E i ra rs t hS hi hz hh (by omega) (by omega) fun h₁ s' b y ca rs' cs a1 a2 a3 a4 a5 a6 a7 a8 => h h₁ s' b y ca rs' cs a1 a2 a3 a4 a5 (by omega) (a7.mono h2) a8
theorem value_0 : ValueSpec prog w os 0 0 2 1 := value_of (.inl rfl) (by decide)
theorem call_0 : CallSpec prog w os 0 1 4 2 := (call_of (Bc := 0) value_0 (.inl rfl) (by decide) (by decide) (by decide)).mono (by decide) (by decide) (by decide)
theorem value_1' : ValueSpec prog w os 1 1 4 3 := value_of (.inr ⟨0, rfl, call_0⟩) (by decide)
theorem call_1 : CallSpec prog w os 1 8 6 4 := (call_of value_1' (.inr ⟨0, rfl, call_0.mono (Nat.le_refl _) (Nat.le_refl _) (by decide)⟩) (by decide) (by decide) (by decide)).mono (by decide) (by decide) (by decide)
theorem value_2 : ValueSpec prog w os 2 8 6 5 := value_of (.inr ⟨1, rfl, call_1⟩) (by decide)
theorem value_1 : ValueSpec prog w os 1 8 6 5 := value_1'.mono (by decide) (by decide) (by decide)
end
end

section
open PySem PySem.W PySem.Calls PyProof.Rows Builtin.ObjectAttr
abbrev testsOf (ifs : List Expr) (env : Env) : Sem Bool := forIn ifs true fun c r => if r = true then do let ok ← isTrue c env (eval c env); pure (ForInStep.yield ok) else pure (ForInStep.yield r)
section
variable {prog : Program} {w : World} {os : OsState} {A : Around} {R : Result → Shared → Prop} {s : Shared} {h₀ : Heap} {l : List Cell} {gl : List (Nat × GenState)}
theorem comp_turn {elt target iter : Expr} {ifs : List Expr} {scope : Scope} {pos : Pos} {it acc : Value} {env : Env}
    (h : wpAny (model prog w) A (pyNext it) (fun r s₁ => match r with
      | none => R (.ok .next) s₁
      | some v => wpAny (model prog w) A (letOwnedTupleGo target it v) (fun _ s₁' => wpAny (model prog w) A (assign target env v) (fun _ s₂ =>
          wpAny (model prog w) A (testsOf ifs env) (fun ok s₃ =>
            if ok = true then wpAny (model prog w) A (eval elt env) (fun x s₄ =>
              wpAny (model prog w) A (call (.builtin "list.append") [acc, x]) (fun _ s₅ => codeAny (model prog w) A (.compLoop (.ListComp elt [⟨target, iter, ifs, 0⟩] scope pos) 0 it acc env) R s₅) no s₄) no s₃
            else codeAny (model prog w) A (.compLoop (.ListComp elt [⟨target, iter, ifs, 0⟩] scope pos) 0 it acc env) R s₃) no s₂) no s₁') no s₁) no s) :
    codeAny (model prog w) A (.compLoop (.ListComp elt [⟨target, iter, ifs, 0⟩] scope pos) 0 it acc env) R s := by
  refine codeAny_of_tree ?_
  rw [Around.under_of_weight (c := .compLoop (.ListComp elt [⟨target, iter, ifs, 0⟩] scope pos) 0 it acc env) rfl]
  show wpAny _ A ((compTurn (.ListComp elt [⟨target, iter, ifs, 0⟩] scope pos) 0 it acc env).onRaise (fun x => do noteFrame x env; theTreesLotGoes x)) _ _ s
  refine wpAny_onRaise ?_
  refine wpAny_mono (E := no) (Q := fun fin s' => match fin with | .done f => R (.ok f) s' | .again c' => c'.quiet = true ∧ codeAny (model prog w) A c' R s') ?_ (fun _ _ x => x) fun _ _ x => x.elim
  rw [compTurn_list]
  refine wpAny_bind (wpAny_standAt (wpAny_bind (wpAny_mono h (fun r s₁ h₁ => ?_) fun _ _ x => x)))
  cases r with
  | none => exact wpAny_pure h₁
  | some v =>
    refine wpAny_bind (wpAny_mono h₁ (fun _ s₁' h₁' => ?_) fun _ _ x => x)
    refine wpAny_bind (wpAny_mono h₁' (fun _ s₂ h₂ => wpAny_bind (wpAny_mono h₂ (fun ok s₃ h₃ => ?_) fun _ _ x => x)) fun _ _ x => x)
    cases ok with
    | false => exact wpAny_pure ⟨rfl, h₃⟩
    | true => exact wpAny_bind (wpAny_bind (wpAny_mono h₃ (fun x s₄ h₄ => wpAny_bind (wpAny_mono h₄ (fun _ s₅ h₅ => wpAny_pure (wpAny_pure ⟨rfl, h₅⟩)) fun _ _ x => x)) fun _ _ x => x))
theorem r_iterSi {b : Bool} {it t : Addr} {i k : Nat} {Q E : Value → Shared → Prop} (hS : St w os h₀ l gl s) (hi : l[i]? = some (it, SiO b t k)) (h : Q (.ref it) s) : wpAny (model prog w) A (pyIter (.ref it)) Q E s := by
  obtain ⟨o, ho, hP⟩ := hS.at hi
  cases b with
  | true => exact wpAny_pyIter_listiter ⟨o, ho, hP.1, hP.2⟩ h
  | false => exact wpAny_pyIter_tupleiter ⟨o, ho, hP.1, hP.2⟩ h
-- the turns of a comprehension over a list or a tuple
theorem comp_loop {elt iter : Expr} {x : String} {px : Pos} {ifs : List Expr} {scope : Scope} {pos : Pos} {env : Env} {C acc : Addr} {b : Bool} {la : Addr} {vs : List Value} (p : Value → Bool) (F : Value → Value → Prop)
    (hh : A.handled = none) (hL : env.locals = C) (hx : env.kindOf (Str.ofString x) = some .local) (hp : (env.scope.kind == .class || (env.scope.kind == .module && env.locals != env.globals)) = false)
    (hl : SeqAt2 b h₀ la vs) (hz : vs.length ≤ 10000)
    (ht : ∀ v s Q l, v ∈ vs → St w os h₀ ((C, NsO [(x, some v)]) :: l) gl s → (∀ s', St w os h₀ ((C, NsO [(x, some v)]) :: l) gl s' → Q (p v) s') → wpAny (model prog w) A (testsOf ifs env) Q no s)
    (he : ∀ v s Q l, v ∈ vs → p v = true → St w os h₀ ((C, NsO [(x, some v)]) :: l) gl s → (∀ y s', F v y → St w os h₀ ((C, NsO [(x, some v)]) :: l) gl s' → Q y s') → wpAny (model prog w) A (eval elt env) Q no s)
    (hR : ∀ ys s', Paired F (vs.filter p) ys → St w os h₀ ((C, NsO []) :: (acc, LsO ys) :: l) gl s' → R (.ok .next) s') :
    ∀ (m k : Nat) (it : Addr) (ys : List Value) (s : Shared), k + m = vs.length → Paired F ((vs.take k).filter p) ys → St w os h₀ ((it, SiO b la k) :: (C, NsO []) :: (acc, LsO ys) :: l) gl s →
      codeAny (model prog w) A (.compLoop (.ListComp elt [⟨.Name (Str.ofString x) px, iter, ifs, 0⟩] scope pos) 0 (.ref it) (.ref acc) env) R s := by
  intro m
  induction m with
  | zero =>
    intro k it ys s hk hF hS
    refine comp_turn (r_nextSeq hh hS hl ?_)
    rw [List.getElem?_eq_none (by omega)]
    intro s' hS
    rw [List.take_of_length_le (by omega)] at hF
    exact hR ys s' hF hS
  | succ m ih =>
    intro k it ys s hk hF hS
    refine comp_turn (r_nextSeq hh hS hl ?_)
    have hkl : k < vs.length := by omega
    rw [List.getElem?_eq_getElem hkl]
    intro s' hS
    refine wpAny_pure ?_
    have hmem : vs[k] ∈ vs := List.getElem_mem hkl
    have hys : ys.length ≤ 10000 := by
      have e1 := hF.length
      have e2 : ((vs.take k).filter p).length ≤ (vs.take k).length := List.length_filter_le _ _
      rw [List.length_take] at e2
      omega
    replace hS := hS.front 1 rfl
    simp only [List.eraseIdx] at hS
    refine wpAny_assign_Name (r_store hS (al' := [(x, some vs[k])]) rfl (fun s' hS => ?_) hL hx hp)
    refine ht _ _ _ _ hmem hS fun s' hS => ?_
    have hweak : ∀ {l s}, St w os h₀ ((C, NsO [(x, some vs[k])]) :: l) gl s → St w os h₀ ((C, NsO []) :: l) gl s := fun hS => hS.weak (i := 0) rfl fun o q => NsO.weak q fun y v e => by cases e
    have hts := take_succ_filter p vs k vs[k] (List.getElem?_eq_getElem hkl)
    cases hpv : p vs[k] with
    | false =>
      refine ite_ff ?_
      rw [hpv] at hts
      refine ih (k + 1) it ys s' (by omega) (by rw [hts]; simpa using hF) ((hweak hS).front 1 rfl)
    | true =>
      refine ite_tt ?_
      refine he _ _ _ _ hmem hpv hS fun y s' hFy hS => ?_
      refine r_append hS (i := 2) rfl (by rw [sizeLine_eq]; omega) fun s' hS => ?_
      rw [hpv] at hts
      exact ih (k + 1) it (ys ++ [y]) s' (by omega) (by rw [hts]; exact hF.snoc hFy) ((hweak hS).front 1 rfl)
theorem r_listComp {elt iter : Expr} {x : String} {px : Pos} {ifs : List Expr} {scope : Scope} {pos : Pos} {env : Env} {Q : Value → Shared → Prop} (p : Value → Bool) (F : Value → Value → Prop)
    (hh : A.handled = none) (hfree : ∀ y ∈ scope.names, y.2 ≠ .free) (hcell : ∀ y ∈ scope.names, y.2 ≠ .cell) (hkind : scope.kind = .function)
    (hnames : ∀ y ∈ scope.names, y.2 = .local → scope.names.lookup y.1 = some .local) (hx : scope.names.lookup (Str.ofString x) = some .local)
    (h : wpAny (model prog w) A (eval iter env) (fun v s₁ => ∃ h₁ l₁ b la vs, v = .ref la ∧ St w os h₁ l₁ gl s₁ ∧ SeqAt2 b h₁ la vs ∧ vs.length ≤ 10000 ∧
      (∀ C v s Q l, v ∈ vs → St w os h₁ ((C, NsO [(x, some v)]) :: l) gl s → (∀ s', St w os h₁ ((C, NsO [(x, some v)]) :: l) gl s' → Q (p v) s') → wpAny (model prog w) A (testsOf ifs (compEnv scope C env)) Q no s) ∧
      (∀ C v s Q l, v ∈ vs → p v = true → St w os h₁ ((C, NsO [(x, some v)]) :: l) gl s → (∀ y s', F v y → St w os h₁ ((C, NsO [(x, some v)]) :: l) gl s' → Q y s') → wpAny (model prog w) A (eval elt (compEnv scope C env)) Q no s) ∧
      (∀ D ys s', Paired F (vs.filter p) ys → St w os h₁ ((D, LsO ys) :: l₁) gl s' → Q (.ref D) s')) no s)
    (hs : ∀ x, foldedSetIterable iter env x = pure x := by intro _; rfl) :
    wpAny (model prog w) A (eval (.ListComp elt [⟨.Name (Str.ofString x) px, iter, ifs, 0⟩] scope pos) env) Q no s := by
  refine wpAny_ListComp hfree hkind hnames (wpAny_mono h (fun xv s₁ h₁ => ?_) fun _ _ e => e) hs
  obtain ⟨h₁, l₁, b, la, vs, rfl, hS, hl, hz, ht, he, hQ⟩ := h₁
  refine r_iterSeq hS hl fun it s' hS => ?_
  refine r_newList hS fun acc s₃ hS => ?_
  refine wpAny_newFunctionEnv hcell (by intro y hy; simp at hy) (fun h' hns hsb => ?_) hkind
  have hC : St w os h₁ ((it, SiO b la 0) :: (s₃.heap.objs.size, NsO []) :: (acc, LsO []) :: l₁) gl { s₃ with heap := h', toks := s₃.toks + 0 } := by
    obtain ⟨o, ho, hP⟩ := ns_cell (al := []) hns (fun y v e => by cases e)
    exact (St.more (hS.toks (t := s₃.toks + 0)) (s' := { s₃ with heap := h', toks := s₃.toks + 0 }) (fun b o e => hsb.extBut b o (fun q => by rw [q, fresh_none _ (Nat.le_refl _)] at e; cases e) (Heap.get?_push_of_some _ e)) (fresh_none _ (Nat.le_refl _)) ho hP rfl rfl).front 1 rfl
  generalize ({ s₃ with heap := h', toks := s₃.toks + 0 } : Shared) = s₄ at hC
  generalize s₃.heap.objs.size = C at hC
  have key : ∀ s₄, St w os h₁ ((it, SiO b la 0) :: (C, NsO []) :: (acc, LsO []) :: l₁) gl s₄ → codeAny (model prog w) A (.compLoop (.ListComp elt [⟨.Name (Str.ofString x) px, iter, ifs, 0⟩] scope pos) 0 (.ref it) (.ref acc) (compEnv scope C env))
      (fun r s' => ∃ m, s'.heap.Ns C m ∧ ∀ h', Heap.SameBut C s'.heap h' → match r with | .ok _ => Q (.ref acc) { s' with heap := h' } | .error x => wpAny (model prog w) A (passOn "comprehension.variables-let-go" x (compEnv scope C env)) Q no { s' with heap := h' }) s₄ := fun s₄ hS =>
    comp_loop (env := compEnv scope C env) p F hh rfl (by exact hx) (by simp [compEnv, hkind]) hl hz (ht C) (he C) (fun ys s' hF hS => by
      obtain ⟨m, hm, _⟩ := hS.ns (i := 0) rfl
      refine ⟨m, hm, fun h' hsb => hQ acc ys _ hF ?_⟩
      exact hS.drop (s' := { s' with heap := h' }) hsb.extBut rfl rfl) vs.length 0 it [] s₄ (by omega) (by simpa using Paired.nil) hS
  exact codeAny_compStart_list (key _ hC) (r_iterSi hC (i := 0) rfl (key _ hC))
end
end

section
open PySem PySem.W PySem.Calls PyProof.Rows Builtin.ObjectAttr
theorem ItemsT.append {prog : Program} {w : World} {h : Heap} {us : List Value} {p : List (Option Str)} (y : ItemsT prog w h us p) : ∀ {vs : List Value} {o : List (Option Str)}, ItemsT prog w h vs o → ItemsT prog w h (vs ++ us) (o ++ p)
  | _, _, .nil => y
  | _, _, .text a b c => .text a b (ItemsT.append y c)
  | _, _, .mute a b c d e => .mute a b c d (ItemsT.append y e)
  | _, _, .other a b c => .other a b (ItemsT.append y c)
-- a row of values, as the items of a list
structure ItemsL (prog : Program) (w : World) (h : Heap) (as : List Value) (os : List (Option Str)) (n : Nat) (cs : List Cll) : Prop where
  e : ∃ xs, Kids1 w h as xs ∧ ItemsT prog w h as os ∧ FT prog w h xs n [] cs
theorem ItemsL.nil {prog : Program} {w : World} {h : Heap} {n : Nat} : ItemsL prog w h [] [] n [] := ⟨[], .nil, .nil, .nil⟩
theorem ItemsL.le {prog : Program} {w : World} {h h' : Heap} {as : List Value} {os : List (Option Str)} {n : Nat} {cs : List Cll} (x : ItemsL prog w h as os n cs) (k : Le h h') : ItemsL prog w h' as os n cs := let ⟨xs, a, b, c⟩ := x.e; ⟨xs, a.le k, b.le k, c.le k⟩
theorem ItemsL.snoc {prog : Program} {w : World} {h : Heap} {as : List Value} {os q : List (Option Str)} {n : Nat} {cs ds : List Cll} {x : Addr} {o : Option Str} (a : ItemsL prog w h as os n cs) (v : ValT prog w h x o) (t : ItemsT prog w h [.ref x] q) (f : FT prog w h [x] n [] ds) : ItemsL prog w h (as ++ [.ref x]) (os ++ q) n (cs ++ ds) := by
  obtain ⟨xs, k, t', ft⟩ := a.e
  exact ⟨xs ++ [x], (Kids1.node v.kid .nil).append k, t.append t', ft.append f⟩
abbrev plEnv (L : Addr) : Env := callEnv fd530 L 530
abbrev plF : Stmt := sAt 4 (bodOf (stm 36))
abbrev plAl (inc : Bool) (kind : Nat) (ra ca ta pa : Addr) (t1 : Tok) : Al := [("include", some (.bool inc)), ("row", some (.ref ra)), ("kind", some (.int (kind : Nat) t1)), ("calls", some (.ref ca)), ("told", some (.ref ta)), ("parts", some (.ref pa))]
section
variable {prog : Program} {w : World} {os : OsState} {gl : List (Nat × GenState)} {A : Around} {R : Result → Shared → Prop} {L ra pa ta : Addr} {i : Nat}
set_option maxHeartbeats 8000000
theorem pl_loop {inc : Bool} {kind Bv n k : Nat} {t1 : Tok} (hv : ValueSpec prog w os 1 Bv n k) (hh : A.handled = none) (hd : A.depth < 800 - 10 * k) (hu : A.units < 8000 - 100 * k) (hB : Bv ≤ 100) :
    ∀ (left x : Nat) (h₀ : Heap) (l : List Cell) (s : Shared) (it ca : Addr) (rs : List Nat) (as ts : List Value) (ots : List (Option Str)) (cs : List Cll),
      St w os h₀ ((L, NsO (plAl inc kind ra ca ta pa t1)) :: (it, RiO x left) :: (pa, LsO as) :: (ta, LsO ts) :: l) gl s → l[i]? = some (ra, RowO rs) → rs.length ≤ 1000 →
      ItemsL prog w h₀ as ots n cs → TextsR h₀ ts ots → CallsA h₀ ca cs → as.length + left ≤ 3 → ts.length + left ≤ 3 → cs.length + left * Bv ≤ 3 * Bv →
      (∀ h₁ s' rs' ca' as' ts' ots' cs', Le h₀ h₁ → rs'.length ≤ rs.length → ItemsL prog w h₁ as' ots' n cs' → TextsR h₁ ts' ots' → CallsA h₁ ca' cs' → as'.length ≤ 3 → ts'.length ≤ 3 → cs'.length ≤ 3 * Bv →
        St w os h₁ ((L, NsO (plAl inc kind ra ca' ta pa t1)) :: (pa, LsO as') :: (ta, LsO ts') :: l.set i (ra, RowO rs')) gl s' → R (.ok .next) s') →
      codeAny (model prog w) A (forC plF (.ref it) (plEnv L)) R s := by
  intro left
  induction left with
  | zero =>
    intro x h₀ l s it ca rs as ts ots cs hS hi hz hV hT hC hl1 hl2 hl4 hR
    refine code_turn (r_nextRange hh hS (i := 1) rfl fun s' hS => ?_)
    refine hR h₀ s' rs ca as ts ots cs (Le.refl _) (Nat.le_refl _) hV hT hC (by omega) (by omega) (by omega) ?_
    have hii : l.set i (ra, RowO rs) = l := by
      obtain ⟨hl, e⟩ := List.getElem?_eq_some_iff.mp hi
      rw [← e, List.set_getElem_self]
    rw [hii]
    exact hS
  | succ m ih =>
    intro x h₀ l s it ca rs as ts ots cs hS hi hz hV hT hC hl1 hl2 hl4 hR
    refine code_turn (r_nextRange hh hS (i := 1) rfl fun s' tx hS => ?_)
    replace hS : St w os h₀ ((L, NsO (plAl inc kind ra ca ta pa t1)) :: (it, RiO (x + 1) m) :: (pa, LsO as) :: (ta, LsO ts) :: l) gl s' := hS
    refine wpAny_pure ?_
    refine wpAny_assign_Name (r_store hS (al' := plAl inc kind ra ca ta pa t1 ++ [("slot", some (.int (x : Nat) tx))]) rfl fun s' hS => ?_)
    conv in forB _ => whnf
    simp only [plAl, List.cons_append, List.nil_append] at hS
    repeat (walk_at "sy")
    refine hv _ _ _ _ _ _ _ (i + 4) ra rs _ hS hi hz hh hd hu ?_
    intro h₁ s' b y tv ca' rs' o ds hle hrl hb hval htv hca' hcs hft hS
    simp only [List.set_cons_succ] at hS
    refine r_unpack3 hh hS (isTuple_le hb hS.hp.keep) fun s' hS => ?_
    repeat (walk_at "sy")
    refine r_method_list hS (i := 2) rfl PySem.F.slot_list_append PySem.F.type_list_append ?_
    repeat (walk_at "sy")
    refine r_append hS (i := 2) rfl (by rw [sizeLine_eq]; omega) fun s' hS => ?_
    repeat (walk_at "sy")
    obtain ⟨vs1, hl1', hc1⟩ := hC.le hle
    obtain ⟨vs2, hl2', hc2⟩ := hca'
    have e1 := hc1.length
    have e2 := hc2.length
    refine r_addLists hS hl1' hl2' (by omega) fun cx h₂ s' hle₂ hcx hS => ?_
    repeat (walk_at "sy")
    have hkk := hle.trans hle₂
    have hcc : cs.length + ds.length + m * Bv ≤ 3 * Bv := by rw [Nat.add_mul] at hl4; omega
    have fin : ∀ {s : Shared} {ts' : List Value} {q : List (Option Str)}, St w os h₂ ((L, NsO (plAl inc kind ra cx ta pa t1 ++ [("slot", some (.int (x : Nat) tx)), ("node", some (.ref y)), ("text", some tv), ("inner", some (.ref ca'))])) :: (it, RiO (x + 1) m) :: (pa, LsO (as ++ [Value.ref y])) :: (ta, LsO ts') :: l.set i (ra, RowO rs')) gl s →
        ItemsT prog w h₂ [.ref y] q → TextsR h₂ ts' (ots ++ q) → ts'.length ≤ ts.length + 1 → codeAny (model prog w) A (forC plF (.ref it) (plEnv L)) R s := by
      intro s ts' q hS hit htx hlen
      have hS' := hS.weak (i := 0) (P' := NsO (plAl inc kind ra cx ta pa t1)) rfl fun o q => NsO.weak q fun y' v' e => getV_app e
      refine ih (x + 1) h₂ (l.set i (ra, RowO rs')) s it cx rs' (as ++ [Value.ref y]) ts' (ots ++ q) (cs ++ ds) hS' (set_at hi) (by omega) ((hV.le hkk).snoc (hval.le hle₂) hit (hft.le hle₂)) htx
        ⟨_, hcx, (hc2.le hle₂).append (hc1.le hle₂)⟩ (by simp; omega) (by omega) (by simp; omega) ?_
      intro h₃ s'' rs'' ca'' as'' ts'' ots'' cs'' q1 q2 q3 q4 q5 q6 q7 q8 hS
      rw [set_set'] at hS
      exact hR h₃ s'' rs'' ca'' as'' ts'' ots'' cs'' (hkk.trans q1) (by omega) q3 q4 q5 q6 q7 q8 hS
    cases hval with
    | text ha hf =>
      obtain ⟨u, rfl⟩ := htv
      repeat (walk_at "sy")
      refine r_method_list hS (i := 3) rfl PySem.F.slot_list_append PySem.F.type_list_append ?_
      repeat (walk_at "sy")
      refine r_append hS (i := 3) rfl (by rw [sizeLine_eq]; omega) fun s' hS => ?_
      repeat (walk_at "sy")
      exact fin hS (.text (ha.le hle₂) (hf.le hle₂) .nil) (hT.le.append (.cons ⟨_, rfl⟩ .nil)) (by simp)
    | mute ha hf =>
      cases htv
      repeat (walk_at "sy")
      refine r_isi (ha.le hle₂).kt hS cst_cst fun s' hS => ?_
      repeat (walk_at "sy")
      exact fin hS (.mute (ha.le hle₂) (hf.le hle₂) kt_int (by kernel_rfl) .nil) (by simpa using hT.le) (by simp)
    | other ha hC' =>
      cases htv
      repeat (walk_at "sy")
      refine r_isi (ha.le hle₂).kt hS (b := false) (by rcases hC' with rfl | rfl <;> kernel_rfl) fun s' hS => ?_
      repeat (walk_at "sy")
      refine r_method_list hS (i := 3) rfl PySem.F.slot_list_append PySem.F.type_list_append ?_
      repeat (walk_at "sy")
      refine r_append hS (i := 3) rfl (by rw [sizeLine_eq]; omega) fun s' hS => ?_
      repeat (walk_at "sy")
      exact fin hS (.other (ha.le hle₂) (by rcases hC' with rfl | rfl <;> kernel_rfl) .nil) (hT.le.append (.cons rfl .nil)) (by simp)
end
end

section
open PySem PySem.W PySem.Calls PyProof.Rows Builtin.ObjectAttr
def PlaceSpec (prog : Program) (w : World) (os : OsState) (inc : Bool) : Prop :=
  ∀ (h₀ : Heap) (l : List Cell) (gl : List (Nat × GenState)) (s : Shared) (A : Around) (Q E : Value → Shared → Prop) (i : Nat) (ra : Addr) (rs : List Nat),
    St w os h₀ l gl s → l[i]? = some (ra, RowO rs) → rs.length ≤ 1000 → A.handled = none → A.depth < 740 → A.units < 7400 →
    (∀ h₁ s' b x ta ca rs' ots cs, Le h₀ h₁ → rs'.length ≤ rs.length → h₁.IsTuple b #[.ref x, .ref ta, .ref ca] → Kid1 w h₁ (.ref x) (some x) → RefT prog w h₁ inc x ots → TextsA h₁ ta ots → ots.length ≤ 4 → CallsA h₁ ca cs → cs.length ≤ 24 → FT prog w h₁ [x] 7 [] cs → St w os h₁ (l.set i (ra, RowO rs')) gl s' → Q (.ref b) s') →
    wpAny (model prog w) A (call (.ref 530) [.ref ra, .bool inc]) Q E s
theorem paired_eq {α : Type} : ∀ {xs ys : List α}, Paired (fun a b => b = a) xs ys → ys = xs
  | _, _, .nil => rfl
  | _, _, .cons a b => by rw [a, paired_eq b]
def isStrV : Value → Bool | .str _ _ => true | _ => false
theorem ValT.ref {prog : Program} {w : World} {h : Heap} {x : Addr} {o : Option Str} {inc : Bool} (v : ValT prog w h x o) : RefT prog w h inc x [o] := by
  cases v with
  | text a b => exact .text a b
  | mute a b => exact .mute a b kt_int (by kernel_rfl) (.inr (by kernel_rfl))
  | other a b => rcases b with rfl | rfl <;> exact .none a (by kernel_rfl) (by kernel_rfl)
section
variable {prog : Program} {w : World} {os : OsState}
set_option maxHeartbeats 8000000
def exTail : List Expr := match sAt 1 (ifB (sAt 2 (bodOf (stm 36)))) with | .Return (some (.Tuple (_ :: es) _ _)) _ => es | _ => []
theorem pl_tail {h₀ : Heap} {m : List Cell} {gl : List (Nat × GenState)} {s : Shared} {A : Around} {L ra nm : Addr} {inc b : Bool} {kd : Nat} {t1 : Tok} {vs : List Value} {pos : Pos} {Q : List Value → Shared → Prop} (hh : A.handled = none) (hseq : SeqAt2 b h₀ nm vs) (hz : vs.length ≤ 10000)
    (hvs : ∀ v ∈ vs, (∃ n t, v = .str n t) ∨ ∃ t, Kt w h₀ v t ∧ kitOne (KK w.params) t (.type "str") = some false ∧ isStrV v = false)
    (hS : St w os h₀ ((L, NsO [("include", some (.bool inc)), ("row", some (.ref ra)), ("kind", some (.int (kd : Nat) t1)), ("names", some (.ref nm))]) :: m) gl s)
    (h : ∀ s' D D' us, us = (if inc = true then vs.filter isStrV else [.none]) → St w os h₀ ((L, NsO [("include", some (.bool inc)), ("row", some (.ref ra)), ("kind", some (.int (kd : Nat) t1)), ("names", some (.ref nm))]) :: (D', LsO []) :: (D, LsO us) :: m) gl s' → Q [.ref D, .ref D'] s') :
    wpAny (model prog w) A (spliced (backTo pos (starEach exTail (plEnv L)))) Q no s := by
  conv in exTail => whnf
  repeat (walk_at "sy")
  cases inc with
  | false =>
    repeat (walk_at "sy")
    exact h _ _ _ _ rfl hS
  | true =>
    repeat (walk_at "sy")
    refine r_listComp (os := os) (gl := gl) (x := "one") isStrV (fun a b => b = a) hh (by decide) (by decide) rfl (by decide) rfl ?_
    refine r_local hS (by rfl) ⟨h₀, _, b, nm, vs, rfl, hS, hseq, hz, fun C v s Q l' hv hS hQ => ?_, fun C v s Q l' hv hpv hS hQ => ?_, fun D ys s' hF hS => ?_⟩
    · refine wpAny_tests_one ?_
      repeat (walk_at "sy")
      rcases hvs v hv with ⟨n, t, rfl⟩ | ⟨t, hk, hk', e⟩
      · refine r_isi kt_str hS str_str fun s' hS => ?_
        repeat (walk_at "sy")
        exact hQ _ hS
      · refine r_isi hk hS hk' fun s' hS => ?_
        repeat (walk_at "sy")
        rw [e] at hQ
        exact hQ _ hS
    · repeat (walk_at "sy")
      exact hQ _ _ rfl hS
    · rw [paired_eq hF] at hS
      replace hS := hS.swap
      repeat (walk_at "sy")
      exact h _ _ _ _ rfl hS
theorem place_of (inc : Bool) : PlaceSpec prog w os inc := by
  intro h₀ l gl s A Q E i ra rs hS hi hz hh hd hu h
  refine wpAny_call ?_
  refine r_call (fd := fd530) (body := bodOf (stm 36)) [("include", some (.bool inc)), ("row", some (.ref ra))] hS (k530 _) (c530 _) (by simp only [recursionLimit]; omega) rfl (BindsTo.of_eq rfl) (by decide +kernel) (locs rfl) (al_cons (al_cons al_nil)) (fun L s' hS => ?_)
  conv in bodOf _ => whnf
  have hdA : (A.deeper (callEnv fd530 L 530)).depth < 750 := by show A.depth + 1 < _; omega
  have huA : (A.deeper (callEnv fd530 L 530)).units < 7500 := by show A.units + 3 < _; omega
  have hhA : (A.deeper (callEnv fd530 L 530)).handled = none := hh
  have hss : ∀ c d : Cell, (l.set i c).set i d = l.set i d := fun _ _ => set_set'
  repeat (walk_at "sy")
  refine draw_spec hS (i := i + 1) hi (by omega) (by omega) hz fun s' t' hS => ?_
  simp only [List.set_cons_succ] at hS
  have hi1 := set_at (d := ((ra, RowO rs.tail) : Cell)) hi
  have hrl : rs.tail.length ≤ rs.length := by simp
  generalize rs.headD 0 = r at hS
  generalize rs.tail = rs₁ at hS hi1 hrl
  repeat (walk_at "sy")
  have hr5 : r % 5 < 5 := Nat.mod_lt _ (by decide)
  generalize r % 5 = kd at hr5 hS
  by_cases h0 : kd = 0
  · subst h0
    repeat (walk_at "sy")
    refine value_1 _ _ _ _ _ _ _ (i + 1) ra rs₁ _ hS hi1 (by omega) hhA (by omega) (by omega) ?_
    intro h₁ s' b x tv ca rs' o cs hle hrl' hb hval htv hca hcs hft hS
    simp only [List.set_cons_succ] at hS
    rw [hss] at hS
    refine r_unpack3 hhA hS (isTuple_le hb hS.hp.keep) fun s' hS => ?_
    repeat (walk_at "sy")
    obtain ⟨h₂, hk₂, hb, hta, hS⟩ := value_ret (m := []) hS
    exact h h₂ _ _ x _ ca rs' [o] cs (hle.trans hk₂) (by omega) hb (hval.kid.le hk₂) ((hval.ref).le hk₂) ⟨_, hta, .cons htv.le .nil⟩ (by simp) (hca.le hk₂) (by omega) ((hft.le hk₂).mono (by omega)) hS
  rw [show ((kd : Int) == 0) = false by simpa using h0]
  repeat (walk_at "sy")
  by_cases h3 : kd < 3
  · refine ite_dt (by simp; omega) ?_
    rcases (by omega : kd = 1 ∨ kd = 2) with rfl | rfl
    · repeat (walk_at "sy")
      refine r_sub1 (d := 0) hS fun s' tz hS => ?_
      repeat (walk_at "sy")
      refine r_pickList hS (i := 1) rfl (kd := 0) rfl (by omega) ?_
      repeat (walk_at "sy")
      obtain ⟨h₁, _, hk₁, hn, hn', hS⟩ := hS.freezeAt (i := 3) rfl
      simp only [List.eraseIdx] at hS
      cases hn'
      have hseq : h₁.IsTuple _ _ := ⟨_, hn, rfl, ⟨0, rfl⟩⟩
      refine r_new hS (cl_const _) (mk_const _) hhA (by omega) fun x h₂ s' hk₂ hm hS => ?_
      refine pl_tail (b := false) (pos := _) hhA (isTuple_le hseq hk₂) (by simp) (List.forall_mem_cons.mpr ⟨.inl ⟨_, _, rfl⟩, List.forall_mem_cons.mpr ⟨.inr ⟨_, kt_int, by kernel_rfl, rfl⟩, List.forall_mem_cons.mpr ⟨.inl ⟨_, _, rfl⟩, fun _ h => nomatch h⟩⟩⟩) hS fun s' D D' us hus hS => ?_
      repeat (walk_at "sy")
      obtain ⟨h₂', _, hk₂', hus', ⟨nu, rfl⟩, hS⟩ := hS.freezeAt (i := 3) rfl
      simp only [List.eraseIdx] at hS
      obtain ⟨h₃, hk₃, hb, hca, hS9⟩ := value_ret (m := (_ : Cell) :: [_]) hS
      have kk := (hk₁.trans hk₂).trans (hk₂'.trans hk₃)
      have k2 := hk₂'.trans hk₃
      have hft := ((ft_const hm (.other ⟨_, (kt_tuple hseq).le hk₂, by kernel_rfl, by kernel_rfl⟩) rfl).le k2).mono (show 1 ≤ 7 by omega)
      have hkid := (hm.t.kid (by kernel_rfl) (by kernel_rfl)).le k2
      cases inc with
      | true =>
        refine h h₃ _ _ x D D' rs₁ [some _, some _] [] kk hrl hb hkid (.row (b := false) rfl (hm.t.le k2) ((hm.field (by decide) (by rfl) rfl).le k2) (isTuple_le hseq (hk₂.trans k2)) (.text (.mute kt_int (by kernel_rfl) (.text .nil)))) ⟨_, ⟨_, hk₃ _ _ hus', rfl, nu, rfl⟩, ?_⟩ (by simp) ⟨[], hca, .nil⟩ (by simp) hft hS9
        rw [hus]
        exact .cons ⟨_, rfl⟩ (.cons ⟨_, rfl⟩ .nil)
      | false =>
        refine h h₃ _ _ x D D' rs₁ [none] [] kk hrl hb hkid (.mute (hm.t.le k2) ((hm.field (by decide) (by rfl) rfl).le k2) (kt_tuple hseq |>.le (hk₂.trans k2)) (by kernel_rfl) (.inl rfl)) ⟨_, ⟨_, hk₃ _ _ hus', rfl, nu, rfl⟩, ?_⟩ (by simp) ⟨[], hca, .nil⟩ (by simp) hft hS9
        rw [hus]
        exact .cons rfl .nil
    · repeat (walk_at "sy")
      refine r_sub1 (d := 1) hS fun s' tz hS => ?_
      repeat (walk_at "sy")
      refine r_pickList hS (i := 1) rfl (kd := 1) rfl (by omega) ?_
      repeat (walk_at "sy")
      obtain ⟨h₁, _, hk₁, hn, hn', hS⟩ := hS.freezeAt (i := 2) rfl
      simp only [List.eraseIdx] at hS
      obtain ⟨nn, rfl⟩ := hn'
      have hseq : h₁.IsList _ _ := ⟨_, hn, rfl, ⟨nn, rfl⟩⟩
      refine r_new hS (cl_const _) (mk_const _) hhA (by omega) fun x h₂ s' hk₂ hm hS => ?_
      refine pl_tail (b := true) (pos := _) hhA (isList_le hseq hk₂) (by simp) (List.forall_mem_cons.mpr ⟨.inl ⟨_, _, rfl⟩, List.forall_mem_cons.mpr ⟨.inr ⟨_, kt_none, by kernel_rfl, rfl⟩, List.forall_mem_cons.mpr ⟨.inl ⟨_, _, rfl⟩, List.forall_mem_cons.mpr ⟨.inl ⟨_, _, rfl⟩, fun _ h => nomatch h⟩⟩⟩⟩) hS fun s' D D' us hus hS => ?_
      repeat (walk_at "sy")
      obtain ⟨h₂', _, hk₂', hus', ⟨nu, rfl⟩, hS⟩ := hS.freezeAt (i := 3) rfl
      simp only [List.eraseIdx] at hS
      obtain ⟨h₃, hk₃, hb, hca, hS9⟩ := value_ret (m := (_ : Cell) :: [_]) hS
      have kk := (hk₁.trans hk₂).trans (hk₂'.trans hk₃)
      have k2 := hk₂'.trans hk₃
      have hft := ((ft_const hm (.list (isList_le hseq hk₂) (.other kid_str (.other kid_none (.other kid_str (.other kid_str .nil))))) rfl).le k2).mono (show 1 ≤ 7 by omega)
      have hkid := (hm.t.kid (by kernel_rfl) (by kernel_rfl)).le k2
      cases inc with
      | true =>
        refine h h₃ _ _ x D D' rs₁ [some _, some _, some _] [] kk hrl hb hkid (.row (b := true) rfl (hm.t.le k2) ((hm.field (by decide) (by rfl) rfl).le k2) (isList_le hseq (hk₂.trans k2)) (.text (.mute kt_none (by kernel_rfl) (.text (.text .nil))))) ⟨_, ⟨_, hk₃ _ _ hus', rfl, nu, rfl⟩, ?_⟩ (by simp) ⟨[], hca, .nil⟩ (by simp) hft hS9
        rw [hus]
        exact .cons ⟨_, rfl⟩ (.cons ⟨_, rfl⟩ (.cons ⟨_, rfl⟩ .nil))
      | false =>
        refine h h₃ _ _ x D D' rs₁ [none] [] kk hrl hb hkid (.mute (hm.t.le k2) ((hm.field (by decide) (by rfl) rfl).le k2) (kt_list hseq |>.le (hk₂.trans k2)) (by kernel_rfl) (.inl rfl)) ⟨_, ⟨_, hk₃ _ _ hus', rfl, nu, rfl⟩, ?_⟩ (by simp) ⟨[], hca, .nil⟩ (by simp) hft hS9
        rw [hus]
        exact .cons rfl .nil
  refine ite_df (by simp; omega) ?_
  repeat (walk_at "sy")
  refine PyProof.Rows.Assign_Tuple_swapped (names := [Str.ofString "parts", Str.ofString "told", Str.ofString "calls"]) ?_ (by kernel_rfl) (by kernel_rfl)
  repeat (walk_at "sy")
  have hT := hS.isTuple (i := 1) rfl
  refine r_unpackItems hhA hS hT rfl fun s' hS => ?_
  repeat (walk_at "sy")
  refine draw_spec hS (i := i + 5) hi1 (by omega) (by omega) (by omega) fun s' t' hS => ?_
  simp only [List.set_cons_succ] at hS
  rw [hss] at hS
  have hi2 := set_at (d := ((ra, RowO rs₁.tail) : Cell)) hi
  have hrl2 : rs₁.tail.length ≤ rs₁.length := by simp
  generalize rs₁.headD 0 = r at hS
  generalize rs₁.tail = rs₂ at hS hi2 hrl2
  repeat (walk_at "sy")
  have hr4 : r % 4 < 4 := Nat.mod_lt _ (by decide)
  generalize r % 4 = cnt at hr4 hS
  refine r_range hS fun r s' hS => ?_
  repeat (walk_at "sy")
  refine r_iterRange (i := 1) (by omega) hS rfl fun it s' hS => ?_
  replace hS := ((((hS.front 5 rfl).front 6 rfl).front 3 rfl).front 3 rfl)
  simp only [List.eraseIdx] at hS
  obtain ⟨h₁, _, hk₁, hca, ⟨nc, rfl⟩, hS⟩ := hS.freezeAt (i := 6) rfl
  simp only [List.eraseIdx] at hS
  replace hS := (hS.less 5).less 4
  simp only [List.eraseIdx] at hS
  refine pl_loop (k := 5) (i := i) (n := 6) value_1 hhA (by omega) (by omega) (by decide) cnt 0 h₁ _ s' it _ rs₂ [] [] [] [] hS hi2 (by omega) .nil .nil ⟨[], ⟨_, hca, rfl, nc, rfl⟩, .nil⟩ (by simp; omega) (by simp; omega) (by simp; omega) ?_
  intro h₂ s' rs₃ ca as ts ots cs hk₂ hrl₃ hI hT hC hal htl hcl hS
  rw [hss] at hS
  obtain ⟨xs, hKi, hIt, hFt⟩ := hI.e
  obtain ⟨h₃, _, hk₃, hpa, ⟨np, rfl⟩, hS⟩ := hS.freezeAt (i := 1) rfl
  simp only [List.eraseIdx] at hS
  obtain ⟨h₄, _, hk₄, hta, ⟨nt, rfl⟩, hS⟩ := hS.freezeAt (i := 1) rfl
  simp only [List.eraseIdx] at hS
  have e1 := hT.length
  have hpl : h₃.IsList _ _ := ⟨_, hpa, rfl, np, rfl⟩
  have htl' : h₄.IsList _ _ := ⟨_, hta, rfl, nt, rfl⟩
  repeat (walk_at "sy")
  by_cases h3' : kd = 3
  · rw [show ((kd : Int) == 3) = true by simpa using (by omega : (kd : Int) = 3)]
    repeat (walk_at "sy")
    refine r_new hS (cl_tuple _) (mk_tuple _) hhA (by omega) fun x h₅ s' hk₅ hm hS => ?_
    repeat (walk_at "sy")
    obtain ⟨h₆, hk₆, hb, hS⟩ := value_ret1 (m := []) hS
    have k5 := (hk₃.trans hk₄).trans hk₅
    have hk5' := hk₄.trans hk₅
    refine h h₆ _ _ x _ ca rs₃ ots cs ((((hk₁.trans hk₂).trans hk₃).trans hk5').trans hk₆) (by omega) hb ((hm.t.kid (by kernel_rfl) (by kernel_rfl)).le hk₆)
      ((RefT.items hm.t (by kernel_rfl) (by kernel_rfl) (hm.field (by decide) (by rfl) rfl) (isList_le hpl hk5') (hIt.le k5)).le hk₆) ⟨_, isList_le htl' (hk₅.trans hk₆), hT.le⟩ (by omega) (hC.le (k5.trans hk₆)) (by omega) (FT.le ?_ hk₆) hS
    refine FT.one (r := []) (r' := []) (c := []) (c' := cs) (n := 6) (hm.k (ks := xs) (by decide) rfl (by decide) (by simp; exact ⟨rfl, rfl⟩) ?_ (by kernel_rfl) (by kernel_rfl)) (hFt.le k5) (.inl ⟨hm.isR (by kernel_rfl), rfl⟩) (.inl ⟨hm.isI (by kernel_rfl), rfl⟩)
    rw [show xs = xs ++ ([] ++ []) by simp]
    exact KidsP.cons (n := "items") (KidV.list (isList_le hpl hk5') (hKi.le k5)) (KidsP.cons (n := "ctx") (KidV.other kid_str) .nil)
  · rw [show ((kd : Int) == 3) = false by simpa using (by omega : (kd : Int) ≠ 3)]
    repeat (walk_at "sy")
    refine r_new hS (cl_list _) (mk_list _) hhA (by omega) fun x h₅ s' hk₅ hm hS => ?_
    repeat (walk_at "sy")
    obtain ⟨h₆, hk₆, hb, hS⟩ := value_ret1 (m := []) hS
    have k5 := (hk₃.trans hk₄).trans hk₅
    have hk5' := hk₄.trans hk₅
    refine h h₆ _ _ x _ ca rs₃ ots cs ((((hk₁.trans hk₂).trans hk₃).trans hk5').trans hk₆) (by omega) hb ((hm.t.kid (by kernel_rfl) (by kernel_rfl)).le hk₆)
      ((RefT.items hm.t (by kernel_rfl) (by kernel_rfl) (hm.field (by decide) (by rfl) rfl) (isList_le hpl hk5') (hIt.le k5)).le hk₆) ⟨_, isList_le htl' (hk₅.trans hk₆), hT.le⟩ (by omega) (hC.le (k5.trans hk₆)) (by omega) (FT.le ?_ hk₆) hS
    refine FT.one (r := []) (r' := []) (c := []) (c' := cs) (n := 6) (hm.k (ks := xs) (by decide) rfl (by decide) (by simp; rfl) ?_ (by kernel_rfl) (by kernel_rfl)) (hFt.le k5) (.inl ⟨hm.isR (by kernel_rfl), rfl⟩) (.inl ⟨hm.isI (by kernel_rfl), rfl⟩)
    rw [show xs = xs ++ [] by simp]
    exact KidsP.cons (n := "items") (KidV.list (isList_le hpl hk5') (hKi.le k5)) .nil
end
end

section
open PySem PySem.W PySem.Calls PyProof.Rows Builtin.ObjectAttr
inductive BodyT (prog : Program) (w : World) (h : Heap) (n : Nat) : List Value → List (Option Str) → List Cll → Prop
  | nil : BodyT prog w h n [] [] []
  | cons {x vs r c r' c'} : Kid1 w h (.ref x) (some x) → FT prog w h [x] n r c → BodyT prog w h n vs r' c' → BodyT prog w h n (.ref x :: vs) (r ++ r') (c ++ c')
theorem BodyT.le {prog : Program} {w : World} {h h' : Heap} {n : Nat} (k : Le h h') : ∀ {vs : List Value} {r : List (Option Str)} {c : List Cll}, BodyT prog w h n vs r c → BodyT prog w h' n vs r c
  | _, _, _, .nil => .nil
  | _, _, _, .cons a b c => .cons (a.le k) (b.le k) (c.le k)
theorem BodyT.append {prog : Program} {w : World} {h : Heap} {n : Nat} {us : List Value} {p : List (Option Str)} {d : List Cll} (y : BodyT prog w h n us p d) : ∀ {vs : List Value} {r : List (Option Str)} {c : List Cll}, BodyT prog w h n vs r c → BodyT prog w h n (vs ++ us) (r ++ p) (c ++ d)
  | _, _, _, .nil => y
  | _, _, _, .cons a b c => by
    have := BodyT.cons a b (BodyT.append y c)
    simpa using this
theorem BodyT.ft {prog : Program} {w : World} {h : Heap} {n : Nat} : ∀ {vs : List Value} {r : List (Option Str)} {c : List Cll}, BodyT prog w h n vs r c → ∃ xs, Kids1 w h vs xs ∧ FT prog w h xs n r c
  | _, _, _, .nil => ⟨[], .nil, .nil⟩
  | _, _, _, .cons a b c => let ⟨xs, k, f⟩ := c.ft; ⟨_ :: xs, .node a k, b.append f⟩
theorem BodyT.split {prog : Program} {w : World} {h : Heap} {n : Nat} {vs : List Value} {r : List (Option Str)} {c : List Cll} (x : BodyT prog w h n vs r c) : ∃ r1 c1 r2 c2, r = r1 ++ r2 ∧ c = c1 ++ c2 ∧ BodyT prog w h n (vs.take 1) r1 c1 ∧ BodyT prog w h n (vs.drop 1) r2 c2 := by
  cases x with
  | nil => exact ⟨[], [], [], [], rfl, rfl, .nil, .nil⟩
  | cons a b c => exact ⟨_, _, _, _, by rw [List.append_nil], by rw [List.append_nil], .cons a b .nil, c⟩
def StmtSpec (prog : Program) (w : World) (os : OsState) (deep Br Bc n k : Nat) : Prop :=
  ∀ (h₀ : Heap) (l : List Cell) (gl : List (Nat × GenState)) (s : Shared) (A : Around) (Q E : Value → Shared → Prop) (i : Nat) (ra : Addr) (rs : List Nat) (t : Tok),
    St w os h₀ l gl s → l[i]? = some (ra, RowO rs) → rs.length ≤ 1000 → A.handled = none → A.depth < 800 - 10 * k → A.units < 8000 - 100 * k →
    (∀ h₁ s' b x ta ca rs' ots cs, Le h₀ h₁ → rs'.length ≤ rs.length → h₁.IsTuple b #[.ref x, .ref ta, .ref ca] → Kid1 w h₁ (.ref x) (some x) → TextsA h₁ ta ots → ots.length ≤ Br → CallsA h₁ ca cs → cs.length ≤ Bc → FT prog w h₁ [x] n ots cs → St w os h₁ (l.set i (ra, RowO rs')) gl s' → Q (.ref b) s') →
    wpAny (model prog w) A (call (.ref 544) [.ref ra, .int (deep : Nat) t]) Q E s
def BodySpec (prog : Program) (w : World) (os : OsState) (deep Br Bc n k : Nat) : Prop :=
  ∀ (h₀ : Heap) (l : List Cell) (gl : List (Nat × GenState)) (s : Shared) (A : Around) (Q E : Value → Shared → Prop) (i : Nat) (ra : Addr) (rs : List Nat) (t : Tok),
    St w os h₀ l gl s → l[i]? = some (ra, RowO rs) → rs.length ≤ 1000 → A.handled = none → A.depth < 800 - 10 * k → A.units < 8000 - 100 * k →
    (∀ h₁ s' b ba ta ca rs' as ots cs, Le h₀ h₁ → rs'.length ≤ rs.length → h₁.IsTuple b #[.ref ba, .ref ta, .ref ca] → h₁.IsList ba (List.toArray as) → as.length ≤ 2 → TextsA h₁ ta ots → ots.length ≤ Br → CallsA h₁ ca cs → cs.length ≤ Bc → BodyT prog w h₁ n as ots cs → St w os h₁ (l.set i (ra, RowO rs')) gl s' → Q (.ref b) s') →
    wpAny (model prog w) A (call (.ref 537) [.ref ra, .int (deep : Nat) t]) Q E s
end

local macro_rules | `(tactic| walk_at "sz") => do
  let h := Lean.mkIdent `hS
  let s' := Lean.mkIdent `s'
  `(tactic| first
  | ((with_reducible show wpAny _ _ (binaryOp Operator.Add (Value.int 1 _) (Value.int (Nat.cast _) _)) _ _ _); refine r_addN (a := 1) $h ?_; clear $h; intro $s' _ $h)
  | walk_at "sy")

section
open PySem PySem.W PySem.Calls PyProof.Rows Builtin.ObjectAttr
abbrev bdEnv (L : Addr) : Env := callEnv fd537 L 537
abbrev bdF : Stmt := sAt 1 (bodOf (stm 37))
abbrev bdAl (deep : Nat) (ra ca ta ba : Addr) (t1 : Tok) : Al := [("deep", some (.int (deep : Nat) t1)), ("row", some (.ref ra)), ("calls", some (.ref ca)), ("told", some (.ref ta)), ("body", some (.ref ba))]
section
variable {prog : Program} {w : World} {os : OsState} {gl : List (Nat × GenState)} {A : Around} {R : Result → Shared → Prop} {L ra ba : Addr} {i : Nat}
set_option maxHeartbeats 8000000
theorem bd_loop {deep Br Bc n k : Nat} {t1 : Tok} (hv : StmtSpec prog w os deep Br Bc n k) (hh : A.handled = none) (hd : A.depth < 800 - 10 * k) (hu : A.units < 8000 - 100 * k) (hB : Br ≤ 1000) (hB' : Bc ≤ 1000) :
    ∀ (left x : Nat) (h₀ : Heap) (l : List Cell) (s : Shared) (it ca ta : Addr) (rs : List Nat) (as : List Value) (ots : List (Option Str)) (cs : List Cll),
      St w os h₀ ((L, NsO (bdAl deep ra ca ta ba t1)) :: (it, RiO x left) :: (ba, LsO as) :: l) gl s → l[i]? = some (ra, RowO rs) → rs.length ≤ 1000 →
      BodyT prog w h₀ n as ots cs → TextsA h₀ ta ots → CallsA h₀ ca cs → as.length + left ≤ 2 → ots.length + left * Br ≤ 2 * Br → cs.length + left * Bc ≤ 2 * Bc →
      (∀ h₁ s' rs' ca' ta' as' ots' cs', Le h₀ h₁ → rs'.length ≤ rs.length → BodyT prog w h₁ n as' ots' cs' → TextsA h₁ ta' ots' → CallsA h₁ ca' cs' → as'.length ≤ 2 → ots'.length ≤ 2 * Br → cs'.length ≤ 2 * Bc →
        St w os h₁ ((L, NsO (bdAl deep ra ca' ta' ba t1)) :: (ba, LsO as') :: l.set i (ra, RowO rs')) gl s' → R (.ok .next) s') →
      codeAny (model prog w) A (forC bdF (.ref it) (bdEnv L)) R s := by
  intro left
  induction left with
  | zero =>
    intro x h₀ l s it ca ta rs as ots cs hS hi hz hV hT hC hl1 hl2 hl4 hR
    refine code_turn (r_nextRange hh hS (i := 1) rfl fun s' hS => ?_)
    refine hR h₀ s' rs ca ta as ots cs (Le.refl _) (Nat.le_refl _) hV hT hC (by omega) (by omega) (by omega) ?_
    have hii : l.set i (ra, RowO rs) = l := by
      obtain ⟨hl, e⟩ := List.getElem?_eq_some_iff.mp hi
      rw [← e, List.set_getElem_self]
    rw [hii]
    exact hS
  | succ m ih =>
    intro x h₀ l s it ca ta rs as ots cs hS hi hz hV hT hC hl1 hl2 hl4 hR
    refine code_turn (r_nextRange hh hS (i := 1) rfl fun s' tx hS => ?_)
    replace hS : St w os h₀ ((L, NsO (bdAl deep ra ca ta ba t1)) :: (it, RiO (x + 1) m) :: (ba, LsO as) :: l) gl s' := hS
    refine wpAny_pure ?_
    refine wpAny_assign_Name (r_store hS (al' := bdAl deep ra ca ta ba t1 ++ [("slot", some (.int (x : Nat) tx))]) rfl fun s' hS => ?_)
    conv in forB _ => whnf
    simp only [bdAl, List.cons_append, List.nil_append] at hS
    repeat (walk_at "sy")
    refine hv _ _ _ _ _ _ _ (i + 3) ra rs _ hS hi hz hh hd hu ?_
    intro h₁ s' b y ta' ca' rs' os' ds hle hrl hb hkid hta' hol hca' hcs hft hS
    simp only [List.set_cons_succ] at hS
    refine r_unpack3 hh hS (isTuple_le hb hS.hp.keep) fun s' hS => ?_
    repeat (walk_at "sy")
    refine r_method_list hS (i := 2) rfl PySem.F.slot_list_append PySem.F.type_list_append ?_
    repeat (walk_at "sy")
    refine r_append hS (i := 2) rfl (by rw [sizeLine_eq]; omega) fun s' hS => ?_
    repeat (walk_at "sy")
    obtain ⟨vt1, hlt1, ht1⟩ := hT.le hle
    obtain ⟨vt2, hlt2, ht2⟩ := hta'
    have et1 := ht1.length
    have et2 := ht2.length
    rw [Nat.add_mul] at hl2 hl4
    refine r_addLists hS hlt1 hlt2 (by omega) fun tx h₂ s' hle₂ htx hS => ?_
    repeat (walk_at "sy")
    obtain ⟨vs1, hl1', hc1⟩ := (hC.le hle).le hle₂
    obtain ⟨vs2, hl2', hc2⟩ := hca'.le hle₂
    have e1 := hc1.length
    have e2 := hc2.length
    refine r_addLists hS hl1' hl2' (by omega) fun cx h₃ s' hle₃ hcx hS => ?_
    repeat (walk_at "sy")
    have hkk := (hle.trans hle₂).trans hle₃
    have k2 := hle₂.trans hle₃
    have hS' := hS.weak (i := 0) (P' := NsO (bdAl deep ra cx tx ba t1)) rfl fun o q => NsO.weak q fun y' v' e => getV_app (a := bdAl deep ra cx tx ba t1) (b := [("slot", some _), ("node", some (.ref y)), ("more", some (.ref ta')), ("inner", some (.ref ca'))]) e
    have hb1 : BodyT prog w h₃ n [.ref y] os' ds := by
      have := BodyT.cons (hkid.le k2) (hft.le k2) .nil
      simpa using this
    refine ih (x + 1) h₃ (l.set i (ra, RowO rs')) s' it cx tx rs' (as ++ [Value.ref y]) (ots ++ os') (cs ++ ds) hS' (set_at hi) (by omega) (hb1.append (hV.le hkk)) ⟨_, isList_le htx hle₃, (ht1.append ht2).le⟩
      ⟨_, hcx, (hc2.le hle₃).append (hc1.le hle₃)⟩ (by simp; omega) (by simp; omega) (by simp; omega) ?_
    intro h₄ s'' rs'' ca'' ta'' as'' ots'' cs'' q1 q2 q3 q4 q5 q6 q7 q8 hS
    rw [set_set'] at hS
    exact hR h₄ s'' rs'' ca'' ta'' as'' ots'' cs'' (hkk.trans q1) (by omega) q3 q4 q5 q6 q7 q8 hS
theorem body_of {deep Br Bc n k : Nat} (hv : StmtSpec prog w os deep Br Bc n k) (hB : Br ≤ 1000) (hB' : Bc ≤ 1000) (hk : k ≤ 50) : BodySpec prog w os deep (2 * Br) (2 * Bc) n (k + 1) := by
  intro h₀ l gl s A Q E i ra rs t hS hi hz hh hd hu h
  refine wpAny_call ?_
  refine r_call (fd := fd537) (body := bodOf (stm 37)) [("deep", some (.int deep t)), ("row", some (.ref ra))] hS (k537 _) (c537 _) (by simp only [recursionLimit]; omega) rfl (BindsTo.of_eq rfl) (by decide +kernel) (locs rfl) (al_cons (al_cons al_nil)) (fun L s' hS => ?_)
  conv in bodOf _ => whnf
  have hdA : (A.deeper (callEnv fd537 L 537)).depth < 800 - 10 * k := by show A.depth + 1 < _; omega
  have huA : (A.deeper (callEnv fd537 L 537)).units < 8000 - 100 * k := by show A.units + 3 < _; omega
  have hhA : (A.deeper (callEnv fd537 L 537)).handled = none := hh
  have hss : ∀ c d : Cell, (l.set i c).set i d = l.set i d := fun _ _ => set_set'
  repeat (walk_at "sz")
  refine PyProof.Rows.Assign_Tuple_swapped (names := [Str.ofString "body", Str.ofString "told", Str.ofString "calls"]) ?_ (by kernel_rfl) (by kernel_rfl)
  repeat (walk_at "sz")
  have hT := hS.isTuple (i := 1) rfl
  refine r_unpackItems hhA hS hT rfl fun s' hS => ?_
  repeat (walk_at "sz")
  refine draw_spec hS (i := i + 5) hi (by omega) (by omega) (by omega) fun s' t' hS => ?_
  simp only [List.set_cons_succ] at hS
  have hi2 := set_at (d := ((ra, RowO rs.tail) : Cell)) hi
  have hrl2 : rs.tail.length ≤ rs.length := by simp
  generalize rs.headD 0 = r at hS
  generalize rs.tail = rs₂ at hS hi2 hrl2
  repeat (walk_at "sz")
  have hr4 : r % 2 < 2 := Nat.mod_lt _ (by decide)
  generalize r % 2 = cnt at hr4 hS
  refine r_range hS fun r s' hS => ?_
  repeat (walk_at "sz")
  refine r_iterRange (i := 1) (by omega) hS rfl fun it s' hS => ?_
  obtain ⟨h₁, _, hk₁, hca, ⟨nc, rfl⟩, hS⟩ := hS.freezeAt (i := 4) rfl
  simp only [List.eraseIdx] at hS
  obtain ⟨h₂, _, hk₂, hta, ⟨nt, rfl⟩, hS⟩ := hS.freezeAt (i := 4) rfl
  simp only [List.eraseIdx] at hS
  replace hS := (hS.less 3).less 2
  simp only [List.eraseIdx] at hS
  have hcnt : ∀ B, (1 + cnt) * B ≤ 2 * B := fun B => Nat.mul_le_mul_right _ (by omega)
  refine bd_loop (k := k) (i := i) (n := n) hv hhA (by omega) (by omega) hB hB' (1 + cnt) 0 h₂ _ s' it _ _ rs₂ [] [] [] hS hi2 (by omega) .nil ⟨[], ⟨_, hta, rfl, nt, rfl⟩, .nil⟩ ⟨[], isList_le ⟨_, hca, rfl, nc, rfl⟩ hk₂, .nil⟩ (by simp; omega) (by simpa using hcnt Br) (by simpa using hcnt Bc) ?_
  intro h₃ s' rs₃ ca ta as ots cs hk₃ hrl₃ hI hT hC hal htl hcl hS
  rw [hss] at hS
  obtain ⟨h₄, _, hk₄, hba, ⟨np, rfl⟩, hS⟩ := hS.freezeAt (i := 1) rfl
  simp only [List.eraseIdx] at hS
  repeat (walk_at "sz")
  obtain ⟨h₅, hk₅, hb, hS⟩ := value_ret1 (m := []) hS
  have k5 := hk₄.trans hk₅
  exact h h₅ _ _ _ ta ca rs₃ as ots cs (((hk₁.trans hk₂).trans hk₃).trans k5) (by omega) hb ⟨_, hk₅ _ _ hba, rfl, np, rfl⟩ hal (hT.le k5) htl (hC.le k5) hcl (hI.le k5) hS
end
end

section
open PySem PySem.W PySem.Calls PyProof.Rows Builtin.ObjectAttr
def SlO (a b c : Value) (o : Obj) : Prop := o = { cls := .type "slice", data := .fields #[a, b, c] }
theorem pick_up1 (vs : List Value) : slicePick vs.toArray none (some 1) none = (vs.take 1).toArray := by
  rw [kms_pick_eq]
  show (((vs.drop 0).take (min 1 vs.length - 0))).toArray = _
  rw [List.drop_zero, Nat.sub_zero, kmk_take_min]
theorem pick_from (vs : List Value) (n : Nat) : slicePick vs.toArray (some (n : Int)) none none = (vs.drop n).toArray := by
  rw [kms_pick_eq]
  unfold kms_pick kms_lo kms_hi
  simp only
  rw [if_neg (by omega), Int.toNat_natCast, kmk_drop_min]
  congr 1
  refine List.take_of_length_le ?_
  simp
  omega
section
variable {prog : Program} {w : World} {os : OsState} {h₀ : Heap} {c : Cell} {l : List Cell} {gl : List (Nat × GenState)} {s : Shared} {A : Around} {E : Value → Shared → Prop} {i : Nat}
theorem r_Slice {lower upper step : Option Expr} {p : Pos} {env : Env} {Q : Value → Shared → Prop}
    (h : wpAny (model prog w) A (evalPart lower env) (fun a s₁ => wpAny (model prog w) A (evalPart upper env) (fun b s₂ => wpAny (model prog w) A (evalPart step env) (fun d s₃ =>
      ∃ h₀ c l gl, St w os h₀ (c :: l) gl s₃ ∧ ∀ sl s', St w os h₀ (c :: (sl, SlO a b d) :: l) gl s' → Q (.ref sl) s') E s₂) E s₁) E s) : wpAny (model prog w) A (eval (.Slice lower upper step p) env) Q E s := by
  refine wpAny_Slice (wpAny_mono h (fun a s₁ h₁ => wpAny_mono h₁ (fun b s₂ h₂ => wpAny_mono h₂ (fun d s₃ h₃ => ?_) fun _ _ x => x) fun _ _ x => x) fun _ _ x => x)
  obtain ⟨h₀, c, l, gl, hS, hQ⟩ := h₃
  exact hQ _ _ (hS.push2 (P := SlO a b d) rfl rfl rfl rfl rfl)
theorem r_slice {value slice : Expr} {la sl : Addr} {vs : List Value} {a b d : Value} {lo hi st : Option Int} {ops : List Value} {Q : Value → Shared → Prop} (hS : St w os h₀ (c :: l) gl s) (hi' : (c :: l)[i]? = some (sl, SlO a b d)) (hl : s.heap.IsList la vs.toArray) (pl : IsPart a lo) (pu : IsPart b hi) (pk : IsPart d st) (h0 : st ≠ some 0) (hz : vs.length ≤ 10000)
    (h : ∀ D s', St w os h₀ (c :: (D, LsO (slicePick vs.toArray lo hi st).toList) :: l) gl s' → Q (.ref D) s')
    (hs : subscripted slice false (.ref la) (.ref sl) = operate ops (getItem (.ref la) (.ref sl)) := by with_unfolding_all rfl) (ht : ∀ r, letTemporaryGo value (.ref la) r = pure () := by intro _; with_unfolding_all rfl) :
    wpAny (model prog w) A (subscriptTail value slice (.ref la) (.ref sl)) Q E s := by
  obtain ⟨o, ho, hP⟩ := hS.at hi'
  refine subscriptTail_ops hl.typeIs list_getitem_lookup (wpAny_getItem_list_slice hl ⟨o, ho, by rw [hP], by rw [hP]⟩ pl pu pk h0 ?_ (by rw [sizeLine_eq]; simp; omega)) hs ht
  exact h _ _ (hS.push2 (P := LsO (slicePick vs.toArray lo hi st).toList) rfl ⟨0, by simp⟩ rfl rfl rfl)
end
end

local macro_rules | `(tactic| walk_at "sw") => do
  let h := Lean.mkIdent `hS
  let s' := Lean.mkIdent `s'
  let sl := Lean.mkIdent `sl
  let os := Lean.mkIdent `os
  `(tactic| first
  | walk_at "sz"
  | ((with_reducible show wpAny _ _ (eval (Expr.Slice _ _ _ _) _) _ _ _); refine r_Slice (os := $os) ?_)
  | ((with_reducible show wpAny _ _ (evalPart none _) _ _ _); refine evalPart_none_step ?_)
  | ((with_reducible show wpAny _ _ (evalPart (some _) _) _ _ _); refine evalPart_some_step ?_)
  | ((with_reducible show ∃ _, _); refine ⟨_, _, _, _, $h, ?_⟩; clear $h; intro $sl $s' $h))

section
open PySem PySem.W PySem.Calls PyProof.Rows Builtin.ObjectAttr
theorem made_ft {prog : Program} {w : World} {h : Heap} {x C n : Nat} {names : List String} {vs : List Value} {line : Value} {ks : List Addr} {r : List (Option Str)} {c : List Cll} (m : Made prog w h x C names vs line) (hk : KidsP w h (List.zip names vs) ks) (f : FT prog w h ks n r c) (hh : ∀ v ∈ vs, handedIn v = true)
    (hr : kitAny (KK w.params) (.ref C) [.ref 192, .ref 283, .ref 270, .ref 257] = some false) (hc : kitOne (KK w.params) (.ref C) (.ref 457) = some false) (h1 : kitOne (KK w.params) (.ref C) (.type "list") = some false) (h2 : kitOne (KK w.params) (.ref C) (.ref 127) = some true)
    (hnd : names.Nodup := by decide) (hlen : vs.length = names.length := by rfl) (hok : ∀ n ∈ names, okName n = true := by decide) : FT prog w h [x] (n + 1) r c := by
  have := FT.one (m.k hnd hlen hok hh hk h1 h2) f (.inl ⟨m.isR hr, rfl⟩) (.inl ⟨m.isI hc, rfl⟩)
  simpa using this
theorem ref_ft {prog : Program} {w : World} {h : Heap} {x tm C n : Nat} {inc : Bool} {names : List String} {vs : List Value} {line : Value} {r : List (Option Str)} {c : List Cll} (m : Made prog w h x C names (.ref tm :: vs) line) (hk : KidsP w h (List.zip names (.ref tm :: vs)) [tm]) (f : FT prog w h [tm] n [] c) (hh : ∀ v ∈ vs, handedIn v = true)
    (hf : FieldAt prog w h x "template" (.ref tm)) (ht : RefT prog w h inc tm r) (hi : kitOne (KK w.params) (.ref C) (.ref 257) = some inc)
    (hr : kitAny (KK w.params) (.ref C) [.ref 192, .ref 283, .ref 270, .ref 257] = some true) (hc : kitOne (KK w.params) (.ref C) (.ref 457) = some false) (h1 : kitOne (KK w.params) (.ref C) (.type "list") = some false) (h2 : kitOne (KK w.params) (.ref C) (.ref 127) = some true)
    (hnd : names.Nodup := by decide) (hlen : (Value.ref tm :: vs).length = names.length := by rfl) (hok : ∀ n ∈ names, okName n = true := by decide) : FT prog w h [x] (n + 1) r c := by
  have hh' : ∀ v ∈ Value.ref tm :: vs, handedIn v = true := by
    intro v hv
    rcases List.mem_cons.mp hv with rfl | hv
    · rfl
    · exact hh v hv
  have := FT.one (m.k hnd hlen hok hh' hk h1 h2) f (.inr ⟨m.isR hr, ⟨C, tm, inc, m.t, hf, hi, ht⟩⟩) (.inl ⟨m.isI hc, rfl⟩)
  simpa using this
theorem pick_from1 (vs : List Value) : slicePick vs.toArray (some 1) none none = (vs.drop 1).toArray := pick_from vs 1
abbrev stEnv (L : Addr) : Env := callEnv fd544 L 544
def stRest : List Stmt := (bodOf (stm 38)).drop 2
section
variable {prog : Program} {w : World} {os : OsState} {h₀ : Heap} {l : List Cell} {gl : List (Nat × GenState)} {s : Shared} {A : Around} {Q : Flow → Shared → Prop} {L ra : Addr} {i : Nat}
set_option maxHeartbeats 8000000
theorem st_rest {deep Br Bc n k kd : Nat} {t t1 : Tok} {rs₁ : List Nat} (hb : deep = 0 ∨ ∃ d, deep = d + 1 ∧ BodySpec prog w os d Br Bc n k) (hn : 8 ≤ n) (hk : 6 ≤ k) (hk' : k ≤ 50) (hB : Br ≤ 1000) (hB' : Bc ≤ 1000) (h4 : 4 ≤ kd ∧ kd < 8)
    (hS : St w os h₀ ((L, NsO [("deep", some (.int (deep : Nat) t)), ("row", some (.ref ra)), ("kind", some (.int (kd : Nat) t1))]) :: l) gl s) (hi1 : l[i]? = some (ra, RowO rs₁)) (hz : rs₁.length ≤ 1000) (hhA : A.handled = none) (hdA : A.depth < 800 - 10 * k) (huA : A.units < 8000 - 100 * k)
    (h : ∀ h₁ s' b x ta ca rs' ots cs, Le h₀ h₁ → rs'.length ≤ rs₁.length → h₁.IsTuple b #[.ref x, .ref ta, .ref ca] → Kid1 w h₁ (.ref x) (some x) → TextsA h₁ ta ots → ots.length ≤ 4 + 2 * Br → CallsA h₁ ca cs → cs.length ≤ 24 + 2 * Bc → FT prog w h₁ [x] (n + 2) ots cs → St w os h₁ (l.set i (ra, RowO rs')) gl s' → Q (.ret (.ref b)) s') :
    wpAny (model prog w) A (execs stRest (stEnv L)) Q no s := by
  conv in stRest => whnf
  have hss : ∀ c d : Cell, (l.set i c).set i d = l.set i d := fun _ _ => set_set'
  repeat (walk_at "sw")
  by_cases h0 : kd = 4
  · subst h0
    repeat (walk_at "sw")
    refine value_2 _ _ _ _ _ _ _ (i + 1) ra rs₁ _ hS hi1 (by omega) hhA (by omega) (by omega) ?_
    intro h₁ s' b x tv ca rs₂ o cs hk₁ hrl₂ hb' hval htv hca hcl hft hS
    simp only [List.set_cons_succ] at hS
    refine r_unpack3 hhA hS (isTuple_le hb' hS.hp.keep) fun s' hS => ?_
    repeat (walk_at "sw")
    refine r_new hS (cl_const _) (mk_const _) hhA (by omega) fun y h₂ s' hk₂ hm hS => ?_
    repeat (walk_at "sw")
    obtain ⟨h₃, _, hk₃, hl1, ⟨nl, rfl⟩, hS⟩ := hS.freezeAt (i := 1) rfl
    simp only [List.eraseIdx] at hS
    have hl3 : h₃.IsList _ _ := ⟨_, hl1, rfl, nl, rfl⟩
    refine r_new hS (cl_output _) (mk_output _) hhA (by omega) fun z h₄ s' hk₄ hm2 hS => ?_
    repeat (walk_at "sw")
    obtain ⟨h₅, hk₅, hb5, hl5, hS⟩ := value_ret (m := []) hS
    have k3 := hk₃.trans hk₄
    have k2 := hk₂.trans k3
    have hf2 := made_ft hm2 (.cons (.list (isList_le hl3 hk₄) (.node (hval.kid.le k2) (.node ((hm.t.kid (by kernel_rfl) (by kernel_rfl)).le k3) .nil))) .nil) ((hft.le k2).append (((ft_const hm (.other kid_str) rfl).le k3).mono (by omega))) (by simp; rfl) (by kernel_rfl) (by kernel_rfl) (by kernel_rfl) (by kernel_rfl)
    exact h h₅ _ _ z _ ca rs₂ [] cs ((hk₁.trans k2).trans hk₅) (by omega) hb5 ((hm2.t.kid (by kernel_rfl) (by kernel_rfl)).le hk₅) ⟨[], hl5, .nil⟩ (by simp) (hca.le (k2.trans hk₅)) (by omega) (((by simpa using hf2 : FT prog w h₄ [z] 7 [] cs).le hk₅).mono (by omega)) hS
  rw [show ((kd : Int) == 4) = false by simpa using (by omega : (kd : Int) ≠ 4)]
  repeat (walk_at "sw")
  rcases hb with rfl | ⟨d, rfl, hb⟩
  · repeat (walk_at "sw")
    refine value_2 _ _ _ _ _ _ _ (i + 1) ra rs₁ _ hS hi1 (by omega) hhA (by omega) (by omega) ?_
    intro h₁ s' b x tv ca rs₂ o cs hk₁ hrl₂ hb' hval htv hca hcl hft hS
    simp only [List.set_cons_succ] at hS
    refine r_unpack3 hhA hS (isTuple_le hb' hS.hp.keep) fun s' hS => ?_
    repeat (walk_at "sw")
    refine r_new hS (cl_const _) (mk_const _) hhA (by omega) fun y h₂ s' hk₂ hm hS => ?_
    repeat (walk_at "sw")
    obtain ⟨h₃, _, hk₃, hl1, ⟨nl, rfl⟩, hS⟩ := hS.freezeAt (i := 1) rfl
    simp only [List.eraseIdx] at hS
    have hl3 : h₃.IsList _ _ := ⟨_, hl1, rfl, nl, rfl⟩
    refine r_new hS (cl_output _) (mk_output _) hhA (by omega) fun z h₄ s' hk₄ hm2 hS => ?_
    repeat (walk_at "sw")
    obtain ⟨h₅, hk₅, hb5, hl5, hS⟩ := value_ret (m := []) hS
    have k3 := hk₃.trans hk₄
    have k2 := hk₂.trans k3
    have hf2 := made_ft hm2 (.cons (.list (isList_le hl3 hk₄) (.node (hval.kid.le k2) (.node ((hm.t.kid (by kernel_rfl) (by kernel_rfl)).le k3) .nil))) .nil) ((hft.le k2).append (((ft_const hm (.other kid_str) rfl).le k3).mono (by omega))) (by simp; rfl) (by kernel_rfl) (by kernel_rfl) (by kernel_rfl) (by kernel_rfl)
    exact h h₅ _ _ z _ ca rs₂ [] cs ((hk₁.trans k2).trans hk₅) (by omega) hb5 ((hm2.t.kid (by kernel_rfl) (by kernel_rfl)).le hk₅) ⟨[], hl5, .nil⟩ (by simp) (hca.le (k2.trans hk₅)) (by omega) (((by simpa using hf2 : FT prog w h₄ [z] 7 [] cs).le hk₅).mono (by omega)) hS
  rw [show (((d + 1 : Nat) : Int) == 0) = false by simpa using (by omega : ((d + 1 : Nat) : Int) ≠ 0)]
  repeat (walk_at "sw")
  refine value_1 _ _ _ _ _ _ _ (i + 1) ra rs₁ _ hS hi1 (by omega) hhA (by omega) (by omega) ?_
  intro h₁ s' b one tv co rs₂ o c1 hk₁ hrl₂ hb' hval htv hco hcl1 hft1 hS
  simp only [List.set_cons_succ] at hS
  have hi2 := set_at (d := ((ra, RowO rs₂) : Cell)) hi1
  refine r_unpack3 hhA hS (isTuple_le hb' hS.hp.keep) fun s' hS => ?_
  repeat (walk_at "sw")
  refine r_sub1 hS fun s' t' hS => ?_
  repeat (walk_at "sw")
  refine hb _ _ _ _ _ _ _ (i + 1) ra rs₂ _ hS hi2 (by omega) hhA (by omega) (by omega) ?_
  intro h₂ s' b2 ba t2 c2a rs₃ as2 r2 c2 hk₂ hrl₃ hb2 hba hal2 ht2 hrl2 hc2 hcl2 hB2 hS
  simp only [List.set_cons_succ] at hS
  rw [hss] at hS
  have hi3 := set_at (d := ((ra, RowO rs₃) : Cell)) hi1
  refine r_unpack3 hhA hS (isTuple_le hb2 hS.hp.keep) fun s' hS => ?_
  repeat (walk_at "sw")
  refine r_sub1 hS fun s' t' hS => ?_
  repeat (walk_at "sw")
  refine hb _ _ _ _ _ _ _ (i + 1) ra rs₃ _ hS hi3 (by omega) hhA (by omega) (by omega) ?_
  intro h₃ s' b3 ra3 t3 c3a rs₄ as3 r3 c3 hk₃ hrl₄ hb3 hra3 hal3 ht3 hrl3 hc3 hcl3 hB3 hS
  simp only [List.set_cons_succ] at hS
  rw [hss] at hS
  refine r_unpack3 hhA hS (isTuple_le hb3 hS.hp.keep) fun s' hS => ?_
  repeat (walk_at "sw")
  replace hval := hval.le (hk₂.trans hk₃)
  replace hft1 := hft1.le (hk₂.trans hk₃)
  replace hco := hco.le (hk₂.trans hk₃)
  replace hba := isList_le hba hk₃
  replace ht2 := ht2.le hk₃
  replace hc2 := hc2.le hk₃
  replace hB2 := hB2.le hk₃
  have k03 := (hk₁.trans hk₂).trans hk₃
  have hrle : rs₄.length ≤ rs₁.length := by omega
  clear hb' hb2 hb3 hb hk₁ hk₂ hk₃ hrl₂ hrl₃ hrl₄ hi2 hi3 hi1
  obtain ⟨u1, hu1, hv1⟩ := hco
  obtain ⟨u2, hu2, hv2⟩ := hc2
  obtain ⟨u3, hu3, hv3⟩ := hc3
  obtain ⟨y2, hy2, hw2⟩ := ht2
  obtain ⟨y3, hy3, hw3⟩ := ht3
  have el1 := hv1.length
  have el2 := hv2.length
  have el3 := hv3.length
  have el4 := hw2.length
  have el5 := hw3.length
  obtain ⟨xs2, kb2, fb2⟩ := hB2.ft
  obtain ⟨xs3, kb3, fb3⟩ := hB3.ft
  by_cases h6 : kd = 6
  · subst h6
    repeat (walk_at "sw")
    refine r_new hS (cl_name _) (mk_name _) hhA (by omega) fun xt h₄ s' hk₄ hm4 hS => ?_
    repeat (walk_at "sw")
    obtain ⟨h₅, _, hk₅, htu, rfl, hS⟩ := hS.freezeAt (i := 1) rfl
    simp only [List.eraseIdx] at hS
    have htu' : h₅.IsTuple _ _ := ⟨_, htu, rfl, ⟨0, rfl⟩⟩
    refine r_new hS (cl_const _) (mk_const _) hhA (by omega) fun xc h₆ s' hk₆ hm6 hS => ?_
    repeat (walk_at "sw")
    refine r_new hS (cl_for _) (mk_for _) hhA (by omega) fun z h₇ s' hk₇ hm7 hS => ?_
    have k37 := ((hk₄.trans hk₅).trans hk₆).trans hk₇
    repeat (walk_at "sw")
    refine r_addLists hS (isList_le hy2 k37) (isList_le hy3 k37) (by omega) fun tz h₈ s' hk₈ htz hS => ?_
    repeat (walk_at "sw")
    have k38 := k37.trans hk₈
    refine r_addLists hS (isList_le hu2 k38) (isList_le hu3 k38) (by omega) fun cz h₉ s' hk₉ hcz hS => ?_
    repeat (walk_at "sw")
    have k39 := k38.trans hk₉
    refine r_addLists hS hcz (isList_le hu1 k39) (by simp; omega) fun cy h₁₀ s' hk₁₀ hcy hS => ?_
    repeat (walk_at "sw")
    obtain ⟨h₁₁, hk₁₁, hb11, hS⟩ := value_ret1 (m := []) hS
    have k311 := (k39.trans hk₁₀).trans hk₁₁
    have k711 := ((hk₈.trans hk₉).trans hk₁₀).trans hk₁₁
    have f7 := made_ft (n := n + 1) hm7 (.cons (.node ((hm4.t.kid (by kernel_rfl) (by kernel_rfl)).le ((hk₅.trans hk₆).trans hk₇))) (.cons (.node ((hm6.t.kid (by kernel_rfl) (by kernel_rfl)).le hk₇)) (.cons (.list (isList_le hba k37) (kb2.le k37)) (.cons (.list (isList_le hra3 k37) (kb3.le k37)) (.cons (.node (hval.kid.le k37)) (.cons (.other kid_bool) .nil))))))
      ((((ft_name hm4).le ((hk₅.trans hk₆).trans hk₇)).mono (by omega)).append ((((ft_const hm6 (.other ⟨_, (kt_tuple htu').le hk₆, by kernel_rfl, by kernel_rfl⟩) rfl).le hk₇).mono (by omega)).append (((fb2.le k37).mono (by omega)).append (((fb3.le k37).mono (by omega)).append (((hft1.le k37).mono (by omega)).append .nil))))) (by simp; exact ⟨rfl, rfl, rfl, rfl, rfl, rfl⟩) (by kernel_rfl) (by kernel_rfl) (by kernel_rfl) (by kernel_rfl)
    refine h h₁₁ _ _ z tz cy rs₄ (r2 ++ r3) (c2 ++ c3 ++ c1) (k03.trans k311) hrle hb11 ((hm7.t.kid (by kernel_rfl) (by kernel_rfl)).le k711) ⟨_, isList_le htz ((hk₉.trans hk₁₀).trans hk₁₁), (hw2.append hw3).le⟩ (by simp; omega) ⟨_, isList_le hcy hk₁₁, CallsVs.append (hv1.le k311) ((hv3.append hv2).le k311)⟩ (by simp; omega) ?_ hS
    exact ((by simpa using f7 : FT prog w h₇ [z] (n + 2) (r2 ++ r3) (c2 ++ c3 ++ c1)).le k711)
  rw [show ((kd : Int) == 6) = false by simpa using (by omega : (kd : Int) ≠ 6)]
  repeat (walk_at "sw")
  by_cases h5 : kd = 5
  · subst h5
    repeat (walk_at "sw")
    refine r_slice (i := 1) hS rfl (isList_le hba hS.hp.keep) .none (.int 1 _) .none (by simp) (by omega) fun B1 s' hS => ?_
    repeat (walk_at "sw")
    refine r_new hS (cl_const _) (mk_const _) hhA (by omega) fun xc h₄ s' hk₄ hm4 hS => ?_
    repeat (walk_at "sw")
    refine r_slice (i := 1) hS rfl (isList_le hba (hk₄.trans hS.hp.keep)) (.int 1 _) .none .none (by simp) (by omega) fun B2 s' hS => ?_
    repeat (walk_at "sw")
    rw [pick_from1] at hS
    obtain ⟨h₅, _, hk₅, hx1, ⟨n1, rfl⟩, hS⟩ := hS.freezeAt (i := 1) rfl
    simp only [List.eraseIdx] at hS
    obtain ⟨h₆, _, hk₆, hx2, ⟨n2, rfl⟩, hS⟩ := hS.freezeAt (i := 1) rfl
    simp only [List.eraseIdx] at hS
    obtain ⟨h₇, _, hk₇, hx3, ⟨n3, rfl⟩, hS⟩ := hS.freezeAt (i := 1) rfl
    simp only [List.eraseIdx] at hS
    refine r_new hS (cl_if _) (mk_if _) hhA (by omega) fun xi h₈ s' hk₈ hm8 hS => ?_
    repeat (walk_at "sw")
    obtain ⟨h₉, _, hk₉, hx4, ⟨n4, rfl⟩, hS⟩ := hS.freezeAt (i := 1) rfl
    simp only [List.eraseIdx] at hS
    rw [pick_up1] at hS
    obtain ⟨h₁₀, _, hk₁₀, hx5, ⟨n5, rfl⟩, hS⟩ := hS.freezeAt (i := 2) rfl
    simp only [List.eraseIdx] at hS
    refine r_new hS (cl_if _) (mk_if _) hhA (by omega) fun z h₁₁ s' hk₁₁ hm11 hS => ?_
    repeat (walk_at "sw")
    have k48 := ((hk₅.trans hk₆).trans hk₇).trans hk₈
    have k811 := (hk₉.trans hk₁₀).trans hk₁₁
    have k38 := hk₄.trans k48
    have k311 := k38.trans k811
    obtain ⟨p1, q1, p2, q2, er, ec, S1, S2⟩ := hB2.split
    obtain ⟨xsa, ka, fa⟩ := S1.ft
    obtain ⟨xsb, kb, fb⟩ := S2.ft
    have f8 := made_ft (n := n) hm8 (.cons (.node ((hm4.t.kid (by kernel_rfl) (by kernel_rfl)).le k48)) (.cons (.list (⟨_, hk₈ _ _ hx3, rfl, n3, rfl⟩) (kb.le k38)) (.cons (.list (⟨_, (hk₇.trans hk₈) _ _ hx2, rfl, n2, rfl⟩) (vs := []) .nil) (.cons (.list (⟨_, ((hk₆.trans hk₇).trans hk₈) _ _ hx1, rfl, n1, rfl⟩) (vs := []) .nil) .nil))))
      ((((ft_const hm4 (.other kid_bool) rfl).le k48).mono (by omega)).append ((fb.le k38).append (.append .nil (.append .nil .nil)))) (by simp; exact ⟨rfl, rfl, rfl, rfl⟩) (by kernel_rfl) (by kernel_rfl) (by kernel_rfl) (by kernel_rfl)
    have f11 := made_ft (n := n + 1) hm11 (.cons (.node (hval.kid.le k311)) (.cons (.list (⟨_, hk₁₁ _ _ hx5, rfl, n5, rfl⟩) (ka.le k311)) (.cons (.list (⟨_, (hk₁₀.trans hk₁₁) _ _ hx4, rfl, n4, rfl⟩) (.node ((hm8.t.kid (by kernel_rfl) (by kernel_rfl)).le k811) .nil)) (.cons (.list (isList_le hra3 k311) (kb3.le k311)) .nil))))
      (((hft1.le k311).mono (by omega)).append (((fa.le k311).mono (by omega)).append ((f8.le k811).append (((fb3.le k311).mono (by omega)).append .nil)))) (by simp; exact ⟨rfl, rfl, rfl, rfl⟩) (by kernel_rfl) (by kernel_rfl) (by kernel_rfl) (by kernel_rfl)
    have f12 : FT prog w h₁₁ [z] (n + 2) (r2 ++ r3) (c1 ++ c2 ++ c3) := by subst er ec; simpa using f11
    refine r_addLists hS (isList_le hy2 k311) (isList_le hy3 k311) (by omega) fun tz g₁ s' gk₁ htz hS => ?_
    repeat (walk_at "sw")
    have j1 := k311.trans gk₁
    refine r_addLists hS (isList_le hu1 j1) (isList_le hu2 j1) (by omega) fun cz g₂ s' gk₂ hcz hS => ?_
    repeat (walk_at "sw")
    have j2 := j1.trans gk₂
    refine r_addLists hS hcz (isList_le hu3 j2) (by simp; omega) fun cy g₃ s' gk₃ hcy hS => ?_
    repeat (walk_at "sw")
    obtain ⟨g₄, gk₄, hb4, hS⟩ := value_ret1 (m := [_, _]) hS
    have j3 := (gk₁.trans gk₂).trans (gk₃.trans gk₄)
    refine h g₄ _ _ z tz cy rs₄ (r2 ++ r3) (c1 ++ c2 ++ c3) (k03.trans (k311.trans j3)) hrle hb4 ((hm11.t.kid (by kernel_rfl) (by kernel_rfl)).le j3) ⟨_, isList_le htz ((gk₂.trans gk₃).trans gk₄), (hw2.append hw3).le⟩ (by simp; omega) ⟨_, isList_le hcy gk₄, CallsVs.append (hv3.le (k311.trans j3)) ((hv2.append hv1).le (k311.trans j3))⟩ (by simp; omega) ?_ hS
    exact f12.le j3
  rw [show ((kd : Int) == 5) = false by simpa using (by omega : (kd : Int) ≠ 5)]
  repeat (walk_at "sw")
  refine r_new hS (cl_name _) (mk_name _) hhA (by omega) fun xp h₄ s' hk₄ hm4 hS => ?_
  repeat (walk_at "sw")
  refine r_addLists hS (isList_le hba hk₄) (isList_le hra3 hk₄) (by omega) fun bz h₅ s' hk₅ hbz hS => ?_
  repeat (walk_at "sw")
  obtain ⟨h₆, _, hk₆, hx1, ⟨n1, rfl⟩, hS⟩ := hS.freezeAt (i := 1) rfl
  simp only [List.eraseIdx] at hS
  obtain ⟨h₇, _, hk₇, hx2, ⟨n2, rfl⟩, hS⟩ := hS.freezeAt (i := 1) rfl
  simp only [List.eraseIdx] at hS
  refine r_new hS (cl_mac _) (mk_mac _) hhA (by omega) fun xm h₈ s' hk₈ hm8 hS => ?_
  repeat (walk_at "sw")
  obtain ⟨h₉, _, hk₉, hx3, ⟨n3, rfl⟩, hS⟩ := hS.freezeAt (i := 1) rfl
  simp only [List.eraseIdx] at hS
  refine r_new hS (cl_block _) (mk_block _) hhA (by omega) fun z h₁₀ s' hk₁₀ hm10 hS => ?_
  repeat (walk_at "sw")
  have k48 := ((hk₅.trans hk₆).trans hk₇).trans hk₈
  have k58 := (hk₆.trans hk₇).trans hk₈
  have k38 := hk₄.trans k48
  have k810 := hk₉.trans hk₁₀
  have k310 := k38.trans k810
  have f8 := made_ft (n := n) hm8 (.cons (.other kid_str) (.cons (.list (⟨_, hk₈ _ _ hx2, rfl, n2, rfl⟩) (.node ((hm4.t.kid (by kernel_rfl) (by kernel_rfl)).le k48) .nil)) (.cons (.list (⟨_, (hk₇.trans hk₈) _ _ hx1, rfl, n1, rfl⟩) (.node (hval.kid.le k38) .nil)) (.cons (.list (isList_le hbz k58) ((kb3.append kb2).le k38)) .nil))))
    (FT.append .nil ((((ft_name hm4).le k48).mono (by omega)).append (((hft1.le k38).mono (by omega)).append (((fb2.append fb3).le k38).append .nil)))) (by simp; exact ⟨rfl, rfl, rfl, rfl⟩) (by kernel_rfl) (by kernel_rfl) (by kernel_rfl) (by kernel_rfl)
  have f10 := made_ft (n := n + 1) hm10 (.cons (.other kid_str) (.cons (.list (⟨_, hk₁₀ _ _ hx3, rfl, n3, rfl⟩) (.node ((hm8.t.kid (by kernel_rfl) (by kernel_rfl)).le k810) .nil)) (.cons (.other kid_bool) (.cons (.other kid_bool) .nil))))
    (FT.append .nil ((f8.le k810).append .nil)) (List.forall_mem_cons.mpr ⟨rfl, List.forall_mem_cons.mpr ⟨rfl, List.forall_mem_cons.mpr ⟨rfl, List.forall_mem_cons.mpr ⟨rfl, fun _ h => nomatch h⟩⟩⟩⟩) (by kernel_rfl) (by kernel_rfl) (by kernel_rfl) (by kernel_rfl)
  have f12 : FT prog w h₁₀ [z] (n + 2) (r2 ++ r3) (c1 ++ c2 ++ c3) := by simpa using f10
  refine r_addLists hS (isList_le hy2 k310) (isList_le hy3 k310) (by omega) fun tz g₁ s' gk₁ htz hS => ?_
  repeat (walk_at "sw")
  have j1 := k310.trans gk₁
  refine r_addLists hS (isList_le hu1 j1) (isList_le hu2 j1) (by omega) fun cz g₂ s' gk₂ hcz hS => ?_
  repeat (walk_at "sw")
  have j2 := j1.trans gk₂
  refine r_addLists hS hcz (isList_le hu3 j2) (by simp; omega) fun cy g₃ s' gk₃ hcy hS => ?_
  repeat (walk_at "sw")
  obtain ⟨g₄, gk₄, hb4, hS⟩ := value_ret1 (m := []) hS
  have j3 := (gk₁.trans gk₂).trans (gk₃.trans gk₄)
  refine h g₄ _ _ z tz cy rs₄ (r2 ++ r3) (c1 ++ c2 ++ c3) (k03.trans (k310.trans j3)) hrle hb4 ((hm10.t.kid (by kernel_rfl) (by kernel_rfl)).le j3) ⟨_, isList_le htz ((gk₂.trans gk₃).trans gk₄), (hw2.append hw3).le⟩ (by simp; omega) ⟨_, isList_le hcy gk₄, CallsVs.append (hv3.le (k310.trans j3)) ((hv2.append hv1).le (k310.trans j3))⟩ (by simp; omega) ?_ hS
  exact f12.le j3
end
end

section
open PySem PySem.W PySem.Calls PyProof.Rows Builtin.ObjectAttr
section
variable {prog : Program} {w : World} {os : OsState}
set_option maxHeartbeats 8000000
theorem stmt_of {deep Br Bc n k : Nat} (hb : deep = 0 ∨ ∃ d, deep = d + 1 ∧ BodySpec prog w os d Br Bc n k) (hn : 8 ≤ n) (hk : 6 ≤ k) (hk' : k ≤ 50) (hB : Br ≤ 1000) (hB' : Bc ≤ 1000) : StmtSpec prog w os deep (4 + 2 * Br) (24 + 2 * Bc) (n + 2) (k + 1) := by
  intro h₀ l gl s A Q E i ra rs t hS hi hz hh hd hu h
  refine wpAny_call ?_
  refine r_call (fd := fd544) (body := bodOf (stm 38)) [("deep", some (.int deep t)), ("row", some (.ref ra))] hS (k544 _) (c544 _) (by simp only [recursionLimit]; omega) rfl (BindsTo.of_eq rfl) (by decide +kernel) (locs rfl) (al_cons (al_cons al_nil)) (fun L s' hS => ?_)
  conv in bodOf _ => whnf
  have hdA : (A.deeper (callEnv fd544 L 544)).depth < 800 - 10 * k := by show A.depth + 1 < _; omega
  have huA : (A.deeper (callEnv fd544 L 544)).units < 8000 - 100 * k := by show A.units + 3 < _; omega
  have hhA : (A.deeper (callEnv fd544 L 544)).handled = none := hh
  have hss : ∀ c d : Cell, (l.set i c).set i d = l.set i d := fun _ _ => set_set'
  repeat (walk_at "sw")
  refine draw_spec hS (i := i + 1) hi (by omega) (by omega) (by omega) fun s' t' hS => ?_
  simp only [List.set_cons_succ] at hS
  have hi1 := set_at (d := ((ra, RowO rs.tail) : Cell)) hi
  have hrl1 : rs.tail.length ≤ rs.length := by simp
  generalize rs.headD 0 = r at hS
  generalize rs.tail = rs₁ at hS hi1 hrl1
  repeat (walk_at "sw")
  have hr8 : r % 8 < 8 := Nat.mod_lt _ (by decide)
  generalize r % 8 = kd at hr8 hS
  by_cases h4 : kd < 4
  · refine ite_dt (by simp; omega) ?_
    rcases (by omega : kd = 0 ∨ kd = 1 ∨ kd = 2 ∨ kd = 3) with rfl | rfl | rfl | rfl
    · repeat (walk_at "sw")
      refine place_of true _ _ _ _ _ _ _ (i + 1) ra rs₁ hS hi1 (by omega) hhA (by omega) (by omega) ?_
      intro h₁ s' b x ta ca rs₂ ots cs hk₁ hrl₂ hb' hkid hrt hta htl hca hcl hft hS
      simp only [List.set_cons_succ] at hS
      rw [hss] at hS
      refine r_unpack3 hhA hS (isTuple_le hb' hS.hp.keep) fun s' hS => ?_
      repeat (walk_at "sw")
      refine r_new hS (cl_include _) (mk_include _) hhA (by omega) fun y h₂ s' hk₂ hm hS => ?_
      repeat (walk_at "sw")
      obtain ⟨h₃, hk₃, hb, hS⟩ := value_ret1 (m := []) hS
      have kz := hk₂
      exact h h₃ _ _ y ta ca rs₂ ots cs ((hk₁.trans hk₂).trans hk₃) (by omega) hb ((hm.t.kid (by kernel_rfl) (by kernel_rfl)).le hk₃) ((hta.le kz).le hk₃) (by omega) ((hca.le kz).le hk₃) (by omega)
        (((ref_ft hm (.cons (.node (hkid.le kz)) (.cons (.other kid_bool) (.cons (.other kid_bool) .nil))) (hft.le kz) (by simp; exact ⟨rfl, rfl⟩) (hm.field (by decide) (by rfl) rfl) (hrt.le kz) (by kernel_rfl) (by kernel_rfl) (by kernel_rfl) (by kernel_rfl) (by kernel_rfl)).le hk₃).mono (by omega)) hS
    · repeat (walk_at "sw")
      refine place_of false _ _ _ _ _ _ _ (i + 1) ra rs₁ hS hi1 (by omega) hhA (by omega) (by omega) ?_
      intro h₁ s' b x ta ca rs₂ ots cs hk₁ hrl₂ hb' hkid hrt hta htl hca hcl hft hS
      simp only [List.set_cons_succ] at hS
      rw [hss] at hS
      refine r_unpack3 hhA hS (isTuple_le hb' hS.hp.keep) fun s' hS => ?_
      repeat (walk_at "sw")
      refine r_new hS (cl_imp _) (mk_imp _) hhA (by omega) fun y h₂ s' hk₂ hm hS => ?_
      repeat (walk_at "sw")
      obtain ⟨h₃, hk₃, hb, hS⟩ := value_ret1 (m := []) hS
      have kz := hk₂
      exact h h₃ _ _ y ta ca rs₂ ots cs ((hk₁.trans hk₂).trans hk₃) (by omega) hb ((hm.t.kid (by kernel_rfl) (by kernel_rfl)).le hk₃) ((hta.le kz).le hk₃) (by omega) ((hca.le kz).le hk₃) (by omega)
        (((ref_ft hm (.cons (.node (hkid.le kz)) (.cons (.other kid_str) (.cons (.other kid_bool) .nil))) (hft.le kz) (by simp; exact ⟨rfl, rfl⟩) (hm.field (by decide) (by rfl) rfl) (hrt.le kz) (by kernel_rfl) (by kernel_rfl) (by kernel_rfl) (by kernel_rfl) (by kernel_rfl)).le hk₃).mono (by omega)) hS
    · repeat (walk_at "sw")
      refine place_of false _ _ _ _ _ _ _ (i + 1) ra rs₁ hS hi1 (by omega) hhA (by omega) (by omega) ?_
      intro h₁ s' b x ta ca rs₂ ots cs hk₁ hrl₂ hb' hkid hrt hta htl hca hcl hft hS
      simp only [List.set_cons_succ] at hS
      rw [hss] at hS
      refine r_unpack3 hhA hS (isTuple_le hb' hS.hp.keep) fun s' hS => ?_
      repeat (walk_at "sw")
      obtain ⟨hx₁, _, hkx₁, hl1, ⟨nl, rfl⟩, hS⟩ := hS.freezeAt (i := 1) rfl
      simp only [List.eraseIdx] at hS
      obtain ⟨hx₂, _, hkx₂, ht1, rfl, hS⟩ := hS.freezeAt (i := 1) rfl
      simp only [List.eraseIdx] at hS
      have hkx := hkx₁.trans hkx₂
      have hkl : KidV w hx₂ (.ref _) [] := .list ⟨_, hkx₂ _ _ hl1, rfl, nl, rfl⟩ (.other kid_str (.other ⟨_, kt_tuple ⟨_, ht1, rfl, ⟨0, rfl⟩⟩, by kernel_rfl, by kernel_rfl⟩ .nil))
      refine r_new hS (cl_fimp _) (mk_fimp _) hhA (by omega) fun y h₂ s' hk₂ hm hS => ?_
      repeat (walk_at "sw")
      obtain ⟨h₃, hk₃, hb, hS⟩ := value_ret1 (m := []) hS
      have kz := (hkx.trans hk₂)
      exact h h₃ _ _ y ta ca rs₂ ots cs ((hk₁.trans (hkx.trans hk₂)).trans hk₃) (by omega) hb ((hm.t.kid (by kernel_rfl) (by kernel_rfl)).le hk₃) ((hta.le kz).le hk₃) (by omega) ((hca.le kz).le hk₃) (by omega)
        (((ref_ft hm (.cons (.node (hkid.le kz)) (.cons (hkl.le hk₂) (.cons (.other kid_bool) .nil))) (hft.le kz) (by simp; exact ⟨rfl, rfl⟩) (hm.field (by decide) (by rfl) rfl) (hrt.le kz) (by kernel_rfl) (by kernel_rfl) (by kernel_rfl) (by kernel_rfl) (by kernel_rfl)).le hk₃).mono (by omega)) hS
    · repeat (walk_at "sw")
      refine place_of false _ _ _ _ _ _ _ (i + 1) ra rs₁ hS hi1 (by omega) hhA (by omega) (by omega) ?_
      intro h₁ s' b x ta ca rs₂ ots cs hk₁ hrl₂ hb' hkid hrt hta htl hca hcl hft hS
      simp only [List.set_cons_succ] at hS
      rw [hss] at hS
      refine r_unpack3 hhA hS (isTuple_le hb' hS.hp.keep) fun s' hS => ?_
      repeat (walk_at "sw")
      refine r_new hS (cl_extends _) (mk_extends _) hhA (by omega) fun y h₂ s' hk₂ hm hS => ?_
      repeat (walk_at "sw")
      obtain ⟨h₃, hk₃, hb, hS⟩ := value_ret1 (m := []) hS
      have kz := hk₂
      exact h h₃ _ _ y ta ca rs₂ ots cs ((hk₁.trans hk₂).trans hk₃) (by omega) hb ((hm.t.kid (by kernel_rfl) (by kernel_rfl)).le hk₃) ((hta.le kz).le hk₃) (by omega) ((hca.le kz).le hk₃) (by omega)
        (((ref_ft hm (.cons (.node (hkid.le kz)) .nil) (hft.le kz) (by simp) (hm.field (by decide) (by rfl) rfl) (hrt.le kz) (by kernel_rfl) (by kernel_rfl) (by kernel_rfl) (by kernel_rfl) (by kernel_rfl)).le hk₃).mono (by omega)) hS
  refine ite_df (by simp; omega) ?_
  iterate 1 (walk_at "sw")
  change wpAny _ _ (execs stRest (stEnv L)) _ _ _
  refine st_rest hb hn hk hk' hB hB' (by omega) hS hi1 (by omega) hhA hdA huA fun h₁ s' b x ta ca rs' ots cs q1 q2 q3 q4 q5 q6 q7 q8 q9 hS => ?_
  rw [hss] at hS
  exact h h₁ s' b x ta ca rs' ots cs q1 (by omega) q3 q4 q5 q6 q7 q8 q9 hS
end
end

section
open PySem PySem.W PySem.Calls PyProof.Rows Builtin.ObjectAttr
section
variable {prog : Program} {w : World} {os : OsState}
theorem stmt_0 : StmtSpec prog w os 0 4 24 10 7 := stmt_of (Br := 0) (Bc := 0) (n := 8) (k := 6) (.inl rfl) (by decide) (by decide) (by decide) (by decide) (by decide)
theorem body_0 : BodySpec prog w os 0 8 48 10 8 := body_of stmt_0 (by decide) (by decide) (by decide)
theorem stmt_1 : StmtSpec prog w os 1 20 120 12 9 := stmt_of (.inr ⟨0, rfl, body_0⟩) (by decide) (by decide) (by decide) (by decide) (by decide)
theorem body_1 : BodySpec prog w os 1 40 240 12 10 := body_of stmt_1 (by decide) (by decide) (by decide)
theorem stmt_2 : StmtSpec prog w os 2 84 504 14 11 := stmt_of (.inr ⟨1, rfl, body_1⟩) (by decide) (by decide) (by decide) (by decide) (by decide)
end
end

section
open PySem PySem.W PySem.Calls PyProof.Rows Builtin.ObjectAttr
section
variable {prog : Program} {w : World} {os : OsState} {A : Around} {R : Result → Shared → Prop} {s : Shared} {h₀ : Heap} {l : List Cell} {gl : List (Nat × GenState)}
theorem comp_block {elt iter : Expr} {x : String} {px : Pos} {ifs : List Expr} {scope : Scope} {pos : Pos} {env : Env} {b : Bool} {la : Addr} {vs : List Value} {RR : Value → Env → Result → Shared → Prop} (p : Value → Bool) (F : Value → Value → Prop)
    (hh : A.handled = none) (hcell : ∀ y ∈ scope.names, y.2 ≠ .cell) (hkind : scope.kind = .function) (hx : scope.names.lookup (Str.ofString x) = some .local)
    (hS : St w os h₀ l gl s) (hl : SeqAt2 b h₀ la vs) (hz : vs.length ≤ 10000)
    (ht : ∀ C v s Q l, v ∈ vs → St w os h₀ ((C, NsO [(x, some v)]) :: l) gl s → (∀ s', St w os h₀ ((C, NsO [(x, some v)]) :: l) gl s' → Q (p v) s') → wpAny (model prog w) A (testsOf ifs (compEnv scope C env)) Q no s)
    (he : ∀ C v s Q l, v ∈ vs → p v = true → St w os h₀ ((C, NsO [(x, some v)]) :: l) gl s → (∀ y s', F v y → St w os h₀ ((C, NsO [(x, some v)]) :: l) gl s' → Q y s') → wpAny (model prog w) A (eval elt (compEnv scope C env)) Q no s)
    (hR : ∀ D C ys s', Paired F (vs.filter p) ys → St w os h₀ ((C, NsO []) :: (D, LsO ys) :: l) gl s' → RR (.ref D) (compEnv scope C env) (.ok .next) s') :
    wpAny (model prog w) A (pyIter (.ref la)) (fun it s₂ => wpAny (model prog w) A (newList []) (fun acc s₃ => wpAny (model prog w) A (newFunctionEnv scope env.globals [] [] env.qual none .none (some env)) (fun cenv s₄ =>
        codeAny (model prog w) A (.compStart (.ListComp elt [⟨.Name (Str.ofString x) px, iter, ifs, 0⟩] scope pos) 0 it acc { cenv with scope := scope }) (RR acc { cenv with scope := scope }) s₄) no s₃) no s₂) no s := by
  refine r_iterSeq hS hl fun it s' hS => ?_
  refine r_newList hS fun acc s₃ hS => ?_
  refine wpAny_newFunctionEnv hcell (by intro y hy; simp at hy) (fun h' hns hsb => ?_) hkind
  have hC : St w os h₀ ((it, SiO b la 0) :: (s₃.heap.objs.size, NsO []) :: (acc, LsO []) :: l) gl { s₃ with heap := h', toks := s₃.toks + 0 } := by
    obtain ⟨o, ho, hP⟩ := ns_cell (al := []) hns (fun y v e => by cases e)
    exact (St.more (hS.toks (t := s₃.toks + 0)) (s' := { s₃ with heap := h', toks := s₃.toks + 0 }) (fun b o e => hsb.extBut b o (fun q => by rw [q, fresh_none _ (Nat.le_refl _)] at e; cases e) (Heap.get?_push_of_some _ e)) (fresh_none _ (Nat.le_refl _)) ho hP rfl rfl).front 1 rfl
  generalize ({ s₃ with heap := h', toks := s₃.toks + 0 } : Shared) = s₄ at hC
  generalize s₃.heap.objs.size = C at hC
  have key : ∀ s₄, St w os h₀ ((it, SiO b la 0) :: (C, NsO []) :: (acc, LsO []) :: l) gl s₄ → codeAny (model prog w) A (.compLoop (.ListComp elt [⟨.Name (Str.ofString x) px, iter, ifs, 0⟩] scope pos) 0 (.ref it) (.ref acc) (compEnv scope C env))
      (RR (.ref acc) (compEnv scope C env)) s₄ := fun s₄ hS =>
    comp_loop (env := compEnv scope C env) p F hh rfl (by exact hx) (by simp [compEnv, hkind]) hl hz (ht C) (he C) (fun ys s' hF hS => hR acc C ys s' hF hS) vs.length 0 it [] s₄ (by omega) (by simpa using Paired.nil) hS
  exact codeAny_compStart_list (key _ hC) (r_iterSi hC (i := 0) rfl (key _ hC))
theorem r_assignComp {elt iter : Expr} {x y : String} {px py : Pos} {ifs : List Expr} {scope : Scope} {pos spos : Pos} {env : Env} {Q : Flow → Shared → Prop} (p : Value → Bool) (F : Value → Value → Prop)
    (hsw : swapsWith (.ListComp elt [⟨.Name (Str.ofString x) px, iter, ifs, 0⟩] scope pos) (some (.Name (Str.ofString y) py)) spos.line env = pure true)
    (hh : A.handled = none) (hfree : ∀ y ∈ scope.names, y.2 ≠ .free) (hcell : ∀ y ∈ scope.names, y.2 ≠ .cell) (hkind : scope.kind = .function)
    (hnames : ∀ y ∈ scope.names, y.2 = .local → scope.names.lookup y.1 = some .local) (hx : scope.names.lookup (Str.ofString x) = some .local)
    (hy : env.kindOf (Str.ofString y) = some .local) (hp : (env.scope.kind == .class || (env.scope.kind == .module && env.locals != env.globals)) = false)
    (h : wpAny (model prog w) A (eval iter env) (fun v s₁ => ∃ (h₁ : Heap) (l₁ : List Cell) (b : Bool) (la : Addr) (vs : List Value) (al : Al) (al' : Addr → Al), v = .ref la ∧ St w os h₁ ((env.locals, NsO al) :: l₁) gl s₁ ∧ SeqAt2 b h₁ la vs ∧ vs.length ≤ 10000 ∧
      (∀ C v s Q l, v ∈ vs → St w os h₁ ((C, NsO [(x, some v)]) :: l) gl s → (∀ s', St w os h₁ ((C, NsO [(x, some v)]) :: l) gl s' → Q (p v) s') → wpAny (model prog w) A (testsOf ifs (compEnv scope C env)) Q no s) ∧
      (∀ C v s Q l, v ∈ vs → p v = true → St w os h₁ ((C, NsO [(x, some v)]) :: l) gl s → (∀ y s', F v y → St w os h₁ ((C, NsO [(x, some v)]) :: l) gl s' → Q y s') → wpAny (model prog w) A (eval elt (compEnv scope C env)) Q no s) ∧
      (∀ D, setV al y (.ref D) = al' D) ∧
      (∀ D ys s', Paired F (vs.filter p) ys → St w os h₁ ((env.locals, NsO (al' D)) :: (D, LsO ys) :: l₁) gl s' → Q .next s')) no s)
    (hs : ∀ x, foldedSetIterable iter env x = pure x := by intro _; rfl) :
    wpAny (model prog w) A (exec (.Assign [.Name (Str.ofString y) py] (.ListComp elt [⟨.Name (Str.ofString x) px, iter, ifs, 0⟩] scope pos) spos) env) Q no s := by
  rw [exec_Assign_Name_used _ _ _ _ hsw]
  refine wpAny_bind (wpAny_standAt (wpAny_bind ?_))
  show wpAny _ A (do let _ ← comprehension (.ListComp elt [⟨.Name (Str.ofString x) px, iter, ifs, 0⟩] scope pos) scope env _ (newList []) false (eval iter env) (some (assign (.Name (Str.ofString y) py) env))) _ _ s
  refine wpAny_bind (wpAny_mono (wpAny_comprehension_use (Q := fun _ s' => Q .next s') rfl hs hfree hkind hnames (wpAny_mono h (fun xv s₁ h₁ => ?_) fun _ _ e => e))
    (fun _ s' hq => wpAny_pure (wpAny_pure hq)) fun _ _ e => e)
  obtain ⟨h₁, l₁, b, la, vs, al, al', rfl, hS, hl, hz, ht, he, hal, hQ⟩ := h₁
  refine comp_block (RR := fun acc cenv r s' => match r with
      | .ok _ => wpAny (model prog w) A (assign (.Name (Str.ofString y) py) env acc) (fun _ s'' => ∃ m, s''.heap.Ns cenv.locals m ∧ ∀ h', Heap.SameBut cenv.locals s''.heap h' → Q .next { s'' with heap := h' }) no s'
      | .error x => ∃ m, s'.heap.Ns cenv.locals m ∧ ∀ h', Heap.SameBut cenv.locals s'.heap h' → wpAny (model prog w) A (passOn "comprehension.variables-let-go" x cenv) (fun _ s' => Q .next s') no { s' with heap := h' }) p F hh hcell hkind hx hS hl hz ht he ?_
  intro D C ys s' hF hS
  replace hS := hS.front 2 rfl
  simp only [List.eraseIdx] at hS
  refine wpAny_assign_Name (r_store hS (hal D) (fun s' hS => ?_) rfl hy hp)
  replace hS := hS.front 1 rfl
  simp only [List.eraseIdx] at hS
  obtain ⟨m, hm, _⟩ := hS.ns (i := 0) rfl
  exact ⟨m, hm, fun h' hsb => hQ D ys _ hF (hS.drop (s' := { s' with heap := h' }) hsb.extBut rfl rfl)⟩
end
section
variable {prog : Program} {w : World} {os : OsState} {h₀ : Heap} {l : List Cell} {gl : List (Nat × GenState)} {s : Shared} {A : Around} {E : Value → Shared → Prop} {i : Nat}
def inWords (words : List Str) : Option Str → Bool
  | none => false
  | some n => words.any (· == n)
theorem r_inWords {a : Addr} {vs : List Value} {v : Value} {o : Option Str} {words : List Str} {Q : Value → Shared → Prop} (hl : h₀.IsList a vs.toArray) (hst : StrsAre vs words) (ht : TextR h₀ v o) (hu : A.units < 10000) (hS : St w os h₀ l gl s) (h : Q (.bool (inWords words o)) s) : wpAny (model prog w) A (compareOp .In v (.ref a)) Q E s := by
  cases o with
  | some n =>
    obtain ⟨t, rfl⟩ := ht
    exact in_list_strs (isList_le hl hS.hp.keep) hst h
  | none =>
    cases ht
    refine SeqAt.in_listAt (fun _ => false) (isList_le hl hS.hp.keep) (fun y hy => ?_) ?_
    · have : ∃ n t, y = .str n t := by
        have hy' : y ∈ vs := by simpa using hy
        clear hy hl h
        induction hst with
        | nil => simp at hy'
        | cons n t _ ih =>
          rcases List.mem_cons.mp hy' with rfl | hy'
          · exact ⟨_, _, rfl⟩
          · exact ih hy'
      obtain ⟨n, t, rfl⟩ := this
      exact SeqAt.EqAt.str_none n t
    · have : (vs.toArray.any fun _ => false) = false := by simp
      rw [this]
      exact h
end
end

section
open PySem PySem.W PySem.Calls PyProof.Rows Builtin.ObjectAttr
inductive RowsR (h : Heap) : List Value → List Row → Prop
  | nil : RowsR h [] []
  | cons {v r vs rs} : RowR h v r → RowsR h vs rs → RowsR h (v :: vs) (r :: rs)
theorem ToldR.le {h h' : Heap} {v : Value} {t : Told} (x : ToldR h v t) (k : Le h h') : ToldR h' v t := by
  cases t with
  | one o => cases o <;> exact x
  | many os => obtain ⟨a, vs, e, ho, ht⟩ := x; exact ⟨a, vs, e, k _ _ ho, ht.le⟩
theorem RowR.le {h h' : Heap} {v : Value} {r : Row} (x : RowR h v r) (k : Le h h') : RowR h' v r := let ⟨b, lt, wt, tv, e, a, c⟩ := x; ⟨b, lt, wt, tv, e, k _ _ a, c.le k⟩
theorem RowsR.le {h h' : Heap} (k : Le h h') : ∀ {vs : List Value} {rs : List Row}, RowsR h vs rs → RowsR h' vs rs
  | _, _, .nil => .nil
  | _, _, .cons a b => .cons (a.le k) (b.le k)
theorem RowsR.append {h : Heap} {us : List Value} {qs : List Row} (y : RowsR h us qs) : ∀ {vs : List Value} {rs : List Row}, RowsR h vs rs → RowsR h (vs ++ us) (rs ++ qs)
  | _, _, .nil => y
  | _, _, .cons a b => .cons a (RowsR.append y b)
theorem RowsR.length {h : Heap} : ∀ {vs : List Value} {rs : List Row}, RowsR h vs rs → vs.length = rs.length
  | _, _, .nil => rfl
  | _, _, .cons _ b => by simp [RowsR.length b]
def notNone : Value → Bool | .none => false | _ => true
theorem texts_kept {h : Heap} : ∀ {vs : List Value} {os : List (Option Str)}, TextsR h vs os → TextsR h (vs.filter notNone) ((os.filterMap id).map some)
  | _, _, .nil => .nil
  | _, _, .cons (o := none) (os := os) a b => by
    cases a
    simpa [notNone] using texts_kept b
  | _, _, .cons (o := some n) (os := os) a b => by
    obtain ⟨t, rfl⟩ := a
    simp only [List.filter_cons, notNone, if_true, List.filterMap_cons, id, List.map_cons]
    exact .cons ⟨t, rfl⟩ (texts_kept b)
theorem texts_each {h : Heap} : ∀ {vs : List Value} {os : List (Option Str)}, TextsR h vs os → ∀ v ∈ vs, v = .none ∨ ∃ n t, v = .str n t
  | _, _, .nil, v, hv => nomatch hv
  | _, _, .cons (o := o) a b, v, hv => by
    rcases List.mem_cons.mp hv with rfl | hv
    · cases o with
      | none => exact .inl a
      | some n => obtain ⟨t, rfl⟩ := a; exact .inr ⟨n, t, rfl⟩
    · exact texts_each b v hv
section
variable {prog : Program} {w : World} {os : OsState} {h₀ : Heap} {c : Cell} {l : List Cell} {gl : List (Nat × GenState)} {s : Shared} {A : Around} {E : Value → Shared → Prop} {i j : Nat}
theorem r_letList {elts : List Expr} {x1 : Nat} {pos : Pos} {it t T : Addr} {k : Nat} {Q : Unit → Shared → Prop} (hS : St w os h₀ l gl s) (hi : l[i]? = some (it, LiO t k)) (h : Q () s) : wpAny (model prog w) A (letOwnedTupleGo (.Tuple elts x1 pos) (.ref it) (.ref T)) Q E s :=
  let ⟨_, ho, hP⟩ := hS.at hi
  wpAny_letOwnedTupleGo_listiter ⟨_, ho, hP.1, hP.2⟩ h
theorem r_lenL {a : Addr} {vs : List Value} {Q : Value → Shared → Prop} (hS : St w os h₀ l gl s) (hl : h₀.IsList a vs.toArray) (hz : vs.length ≤ 100000) (h : ∀ s' t, St w os h₀ l gl s' → Q (.int (vs.length : Nat) t) s') : wpAny (model prog w) A (call (.builtin "len") [.ref a]) Q E s :=
  PyProof.Rows.len_list (isList_le hl hS.hp.keep) (by simp; omega) (by simpa using h _ (s.toks + 1) hS.toks)
theorem r_tupleL {a : Addr} {vs : List Value} {Q : Value → Shared → Prop} (hS : St w os h₀ (c :: l) gl s) (hl : h₀.IsList a vs.toArray) (hz : vs.length ≤ 100000) (h : ∀ tb s', St w os h₀ (c :: (tb, TuO vs) :: l) gl s' → Q (.ref tb) s') :
    wpAny (model prog w) A (call (.type "tuple") [.ref a]) Q E s :=
  call_tuple_list (isList_le hl hS.hp.keep) (fun h' hk => h _ _ (St.push2 (s := { s with heap := h' }) (hS.ext (s' := { s with heap := h' }) hk rfl rfl) rfl rfl rfl rfl rfl)) (by rw [sizeLine_eq]; simp; omega)
theorem r_neNil {a b : Addr} {vs : List Value} {Q : Value → Shared → Prop} (hu : A.units < 9000) (hS : St w os h₀ l gl s) (hi : l[i]? = some (a, LsO vs)) (hj : l[j]? = some (b, LsO [])) (h : Q (.bool (!vs.isEmpty)) s) : wpAny (model prog w) A (compareOp .NotEq (.ref a) (.ref b)) Q E s := by
  have hu' : A.units < cLine := Nat.lt_of_lt_of_le hu (by decide)
  cases vs with
  | nil => exact SeqAt.RcNeAt.lists (e := fun _ => true) (hS.isList hi) (hS.isList hj) rfl hu' (fun j h1 _ => absurd h1 (by simp)) prog w E Q h
  | cons v vs => exact SeqAt.RcNeAt.lists_lengths (hS.isList hi) (hS.isList hj) (by simp) hu' prog w E Q h
end
end

section
open PySem PySem.W PySem.Calls PyProof.Rows Builtin.ObjectAttr
abbrev waEnv (L : Addr) : Env := callEnv fd549 L 549
abbrev waF : Stmt := sAt 1 (bodOf (stm 39))
abbrev waAl (plain : Bool) (wa ca ra : Addr) : Al := [("plain", some (.bool plain)), ("words", some (.ref wa)), ("calls", some (.ref ca)), ("rows", some (.ref ra))]
section
variable {prog : Program} {w : World} {os : OsState} {gl : List (Nat × GenState)} {A : Around} {R : Result → Shared → Prop} {L wa ca ra : Addr}
set_option maxHeartbeats 8000000
theorem wa_loop {plain : Bool} {words : List Str} {wvs vs₀ : List Value} (hh : A.handled = none) (hu : A.units < 9000) (hst : StrsAre wvs words) :
    ∀ (rest : List Value) (cs : List Cll) (pre acc : List Value) (rows : List Row) (h₀ : Heap) (l : List Cell) (s : Shared) (it : Addr), vs₀ = pre ++ rest → h₀.IsList ca vs₀.toArray → h₀.IsList wa wvs.toArray → CallsVs h₀ rest cs → (∀ c ∈ cs, c.texts.length ≤ 1000) → RowsR h₀ acc rows → acc.length + rest.length ≤ 9000 →
      St w os h₀ ((it, LiO ca pre.length) :: (L, NsO (waAl plain wa ca ra)) :: (ra, LsO acc) :: l) gl s →
      (∀ h₁ s' acc', Le h₀ h₁ → RowsR h₁ acc' (rows ++ cs.flatMap (rowOf words (!plain))) → acc'.length ≤ acc.length + rest.length → St w os h₁ ((L, NsO (waAl plain wa ca ra)) :: (ra, LsO acc') :: l) gl s' → R (.ok .next) s') →
      codeAny (model prog w) A (forC waF (.ref it) (waEnv L)) R s := by
  intro rest
  induction rest with
  | nil =>
    intro cs pre acc rows h₀ l s it hpre hca hwa hC hT hR hz hS h
    cases hC
    refine code_turn (r_nextList hh hS hca ?_)
    rw [show vs₀.toArray[pre.length]? = none by simp [hpre]]
    intro s' hS
    exact h h₀ s' acc (Le.refl _) (by simpa using hR) (by simp) hS
  | cons v rest ih =>
    intro cs pre acc rows h₀ l s it hpre hca hwa hC hT hR hz hS h
    cases hC with
    | @cons _ c _ cs hv hrest =>
    refine code_turn (r_nextList hh hS hca ?_)
    rw [show vs₀.toArray[pre.length]? = some v by simp [hpre]]
    intro s' hS
    obtain ⟨b, lt, wv, ta, ts, rfl, hb, hwv, hta, hts⟩ := hv
    have hlen : ts.length ≤ 1000 := by rw [hts.length]; exact hT c (List.mem_cons_self ..)
    refine r_letList hS (i := 0) rfl ?_
    refine r_unpack3 hh hS (isTuple_le hb hS.hp.keep) fun s' hS => ?_
    replace hS := hS.swap
    repeat (walk_at "sw")
    conv in forB _ => whnf
    repeat (walk_at "sw")
    refine r_inWords hwa hst hwv (by omega) hS ?_
    have next : ∀ {h₁ : Heap} {s : Shared} {nm : Al} {l' : List Cell} {acc' : List Value}, Le h₀ h₁ → RowsR h₁ acc' (rows ++ rowOf words (!plain) c) → acc'.length ≤ acc.length + 1 →
        St w os h₁ ((L, NsO (waAl plain wa ca ra ++ nm)) :: (it, LiO ca (pre.length + 1)) :: (ra, LsO acc') :: l) gl s → codeAny (model prog w) A (forC waF (.ref it) (waEnv L)) R s := by
      intro h₁ s nm l' acc' hk hrows hal hS
      refine ih cs (pre ++ [Value.ref b]) acc' (rows ++ rowOf words (!plain) c) h₁ l s it (by simp [hpre]) (isList_le hca hk) (isList_le hwa hk) (hrest.le hk) (fun c hc => hT c (List.mem_cons_of_mem _ hc)) hrows (by simp at hz; omega) ?_ fun h₂ s' acc₂ hk₂ hr₂ hl₂ hS => ?_
      · rw [show (pre ++ [Value.ref b]).length = pre.length + 1 by simp]
        exact (hS.weak (P' := NsO (waAl plain wa ca ra)) (i := 0) rfl fun o q => NsO.weak q fun y v e => getV_app e).swap
      · exact h h₂ s' acc₂ (hk.trans hk₂) (by simpa using hr₂) (by simp; omega) hS
    cases hin : inWords words c.word with
    | false =>
      repeat (walk_at "sw")
      refine next (nm := [("line", some _), ("word", some wv), ("texts", some (.ref ta))]) (l' := []) (Le.refl _) ?_ (by omega) hS
      have : rowOf words (!plain) c = [] := by
        unfold rowOf
        cases hcw : c.word with
        | none => rfl
        | some n => rw [hcw] at hin; simp only [inWords] at hin; simp only [hin]; rfl
      rw [this, List.append_nil]
      exact hR
    | true =>
      repeat (walk_at "sw")
      cases hcw : c.word with
      | none => rw [hcw] at hin; cases hin
      | some n =>
      rw [hcw] at hin hwv
      obtain ⟨wt, rfl⟩ := hwv
      have hin' : words.any (· == n) = true := hin
      refine r_assignComp (os := os) (gl := gl) (x := "one") (y := "kept") notNone (fun a b => b = a) (by rfl) hh (by decide) (by decide) rfl (by decide) rfl rfl rfl ?_
      refine r_local hS (by rfl) ⟨h₀, _, true, ta, ts, _, fun D => [("plain", some (.bool plain)), ("words", some (.ref wa)), ("calls", some (.ref ca)), ("rows", some (.ref ra)), ("line", some (.int (c.line : Nat) lt)), ("word", some (.str n wt)), ("texts", some (.ref ta)), ("kept", some (.ref D))], rfl, hS, hta, by omega, fun C v s Q l' hv hS hQ => ?_, fun C v s Q l' hv hpv hS hQ => ?_, fun D => rfl, fun D ys s' hF hS => ?_⟩
      · refine wpAny_tests_one ?_
        rcases texts_each hts v hv with rfl | ⟨n, t, rfl⟩
        · repeat (walk_at "sw")
          exact hQ _ hS
        · repeat (walk_at "sw")
          exact hQ _ hS
      · repeat (walk_at "sw")
        exact hQ _ _ rfl hS
      rw [paired_eq hF] at hS
      have hkept := texts_kept hts
      generalize hys : ts.filter notNone = ys at hS hkept
      have hyl : ys.length ≤ 1000 := by rw [← hys]; exact Nat.le_trans (List.length_filter_le _ _) hlen
      have e0 := hts.length
      cases plain with
      | false =>
        repeat (walk_at "sw")
        refine r_method_list hS (i := 3) rfl PySem.F.slot_list_append PySem.F.type_list_append ?_
        repeat (walk_at "sw")
        refine r_lenL hS hta (by omega) fun s' _ hS => ?_
        repeat (walk_at "sw")
        by_cases h1 : ts.length = 1
        · obtain ⟨v, rfl⟩ := List.length_eq_one_iff.mp h1
          obtain ⟨o, hco, hvo⟩ : ∃ o, c.texts = [o] ∧ TextR h₀ v o := by
            generalize c.texts = cts at hts
            cases hts with
            | cons a b => cases b; exact ⟨_, rfl, a⟩
          rw [if_pos (by rfl)]
          repeat (walk_at "sw")
          refine PyProof.Rows.item_list (x := v) (isList_le hta hS.hp.keep) (by decide) (by decide) (by rfl) ?_
          repeat (walk_at "sw")
          refine r_append hS (i := 4) rfl (by rw [sizeLine_eq]; simp at hz; omega) fun s' hS => ?_
          repeat (walk_at "sw")
          obtain ⟨h₁, _, hk₁, hT, rfl, hS⟩ := hS.freezeAt (i := 1) rfl
          simp only [List.eraseIdx, List.set_cons_succ, List.set_cons_zero] at hS
          replace hS := hS.less 1
          simp only [List.eraseIdx] at hS
          refine next (nm := [("line", some _), ("word", some _), ("texts", some (.ref ta)), ("kept", some _)]) (l' := []) hk₁ ?_ (by simp) hS
          have hrow : rowOf words true c = [⟨c.line, n, .one o⟩] := by unfold rowOf; rw [hcw]; simp only [hin', if_true, hco]
          show RowsR h₁ _ (rows ++ rowOf words true c)
          rw [hrow]
          exact RowsR.append (.cons ⟨_, lt, wt, v, rfl, hT, ToldR.le (t := .one o) hvo hk₁⟩ .nil) (hR.le hk₁)
        · rw [if_neg (by simp; omega)]
          repeat (walk_at "sw")
          refine r_tupleL hS hta (by omega) fun tb s' hS => ?_
          repeat (walk_at "sw")
          refine r_append hS (i := 5) rfl (by rw [sizeLine_eq]; simp at hz; omega) fun s' hS => ?_
          repeat (walk_at "sw")
          obtain ⟨h₁, _, hk₁, hT, rfl, hS⟩ := hS.freezeAt (i := 1) rfl
          simp only [List.eraseIdx, List.set_cons_succ, List.set_cons_zero] at hS
          obtain ⟨h₂, _, hk₂, hT2, rfl, hS⟩ := hS.freezeAt (i := 1) rfl
          simp only [List.eraseIdx] at hS
          replace hS := hS.less 1
          simp only [List.eraseIdx] at hS
          refine next (nm := [("line", some _), ("word", some _), ("texts", some (.ref ta)), ("kept", some _)]) (l' := []) (hk₁.trans hk₂) ?_ (by simp) hS
          have hrow : rowOf words true c = [⟨c.line, n, .many c.texts⟩] := by
            unfold rowOf
            rw [hcw]
            simp only [hin', if_true]
            have hcl : c.texts.length ≠ 1 := by rw [← e0]; exact h1
            split
            · rename_i o' e; rw [e] at hcl; exact absurd rfl hcl
            · rfl
          show RowsR h₂ _ (rows ++ rowOf words true c)
          rw [hrow]
          exact RowsR.append (.cons ⟨_, lt, wt, _, rfl, hk₂ _ _ hT, (show ToldR h₂ (.ref tb) (.many c.texts) from ⟨tb, ts, rfl, hT2, hts.le⟩)⟩ .nil) (hR.le (hk₁.trans hk₂))
      | true =>
        repeat (walk_at "sw")
        refine r_neNil (i := 2) (j := 1) hu hS rfl rfl ?_
        cases hf : c.texts.filterMap id with
        | nil =>
          rw [hf] at hkept
          cases hkept
          repeat (walk_at "sw")
          replace hS := (hS.less 1).less 1
          simp only [List.eraseIdx] at hS
          refine next (nm := [("line", some _), ("word", some _), ("texts", some (.ref ta)), ("kept", some _)]) (l' := []) (Le.refl _) ?_ (by omega) hS
          have hrow : rowOf words false c = [] := by unfold rowOf; rw [hcw]; simp [hin', hf]
          show RowsR h₀ _ (rows ++ rowOf words false c)
          rw [hrow, List.append_nil]
          exact hR
        | cons x xs =>
          rw [hf] at hkept
          have hne : ys.isEmpty = false := by cases hkept; rfl
          rw [hne]
          repeat (walk_at "sw")
          refine r_method_list hS (i := 4) rfl PySem.F.slot_list_append PySem.F.type_list_append ?_
          repeat (walk_at "sw")
          refine r_tupleOf hS (i := 2) rfl (by omega) fun tb s' hS => ?_
          repeat (walk_at "sw")
          refine r_append hS (i := 6) rfl (by rw [sizeLine_eq]; simp at hz; omega) fun s' hS => ?_
          repeat (walk_at "sw")
          obtain ⟨h₁, _, hk₁, hT, rfl, hS⟩ := hS.freezeAt (i := 1) rfl
          simp only [List.eraseIdx, List.set_cons_succ, List.set_cons_zero] at hS
          obtain ⟨h₂, _, hk₂, hT2, rfl, hS⟩ := hS.freezeAt (i := 1) rfl
          simp only [List.eraseIdx] at hS
          replace hS := (hS.less 1).less 1
          simp only [List.eraseIdx] at hS
          refine next (nm := [("line", some _), ("word", some _), ("texts", some (.ref ta)), ("kept", some _)]) (l' := []) (hk₁.trans hk₂) ?_ (by simp) hS
          have hrow : rowOf words false c = [⟨c.line, n, .many ((x :: xs).map some)⟩] := by unfold rowOf; rw [hcw]; simp [hin', hf]
          show RowsR h₂ _ (rows ++ rowOf words false c)
          rw [hrow]
          exact RowsR.append (.cons ⟨_, lt, wt, _, rfl, hk₂ _ _ hT, (show ToldR h₂ (.ref tb) (.many ((x :: xs).map some)) from ⟨tb, ys, rfl, hT2, hkept.le⟩)⟩ .nil) (hR.le (hk₁.trans hk₂))
end
end

section
open PySem PySem.W PySem.Calls PyProof.Rows Builtin.ObjectAttr
theorem CallsL.small {prog : Program} {w : World} {h : Heap} : ∀ {ys : List Addr} {cs : List Cll}, CallsL prog w h ys cs → ∀ c ∈ cs, c.texts.length ≤ 1000
  | _, _, .nil, c, hc => nomatch hc
  | _, _, .cons a b, c, hc => by
    rcases List.mem_cons.mp hc with rfl | hc
    · obtain ⟨_, _, _, _, _, _, _, _, _, _, _, _, _, _, _, _, _, _, _, _, _, _, _, _, _, _, _, _, _, _, _, h⟩ := a.e
      exact h
    · exact CallsL.small b c hc
section
variable {prog : Program} {w : World} {os : OsState} {h₀ : Heap} {l : List Cell} {gl : List (Nat × GenState)} {s : Shared} {A : Around} {E Q : Value → Shared → Prop}
set_option maxHeartbeats 8000000
theorem wanted_of {ca wa : Addr} {cs : List Cll} {wvs : List Value} {words : List Str} {plain : Bool} (hS : St w os h₀ l gl s) (hC : CallsA h₀ ca cs) (hT : ∀ c ∈ cs, c.texts.length ≤ 1000) (hz : cs.length ≤ 8000) (hwa : h₀.IsList wa wvs.toArray) (hst : StrsAre wvs words) (hh : A.handled = none) (hd : A.depth < 800) (hu : A.units < 8000)
    (h : ∀ h₁ s' a vs, Le h₀ h₁ → h₁.IsList a (List.toArray vs) → RowsR h₁ vs (cs.flatMap (rowOf words (!plain))) → vs.length ≤ 9000 → St w os h₁ l gl s' → Q (.ref a) s') :
    wpAny (model prog w) A (call (.ref 549) [.ref ca, .ref wa, .bool plain]) Q E s := by
  refine wpAny_call ?_
  refine r_call (fd := fd549) (body := bodOf (stm 39)) [("plain", some (.bool plain)), ("words", some (.ref wa)), ("calls", some (.ref ca))] hS (k549 _) (c549 _) (by simp only [recursionLimit]; omega) rfl (BindsTo.of_eq rfl) (by decide +kernel) (locs rfl) (al_cons (al_cons (al_cons al_nil))) (fun L s' hS => ?_)
  conv in bodOf _ => whnf
  have huA : (A.deeper (callEnv fd549 L 549)).units < 9000 := by show A.units + 3 < _; omega
  have hhA : (A.deeper (callEnv fd549 L 549)).handled = none := hh
  obtain ⟨vs, hca, hvs⟩ := hC
  have hvl := hvs.length
  repeat (walk_at "sw")
  refine r_iterList hS hca fun it s' hS => ?_
  refine wa_loop (plain := plain) (vs₀ := vs) hhA huA hst vs cs [] [] [] h₀ l s' it rfl hca hwa hvs hT .nil (by simp; omega) hS ?_
  intro h₁ s' acc hk hrows hal hS
  repeat (walk_at "sw")
  obtain ⟨h₂, _, hk₂, ha, ⟨n, rfl⟩, hS⟩ := hS.freezeAt (i := 1) rfl
  simp only [List.eraseIdx] at hS
  replace hS := hS.less 0
  simp only [List.eraseIdx] at hS
  exact h h₂ _ _ acc (hk.trans hk₂) ⟨_, ha, rfl, n, rfl⟩ ((by simpa using hrows : RowsR h₁ acc (cs.flatMap (rowOf words (!plain)))).le hk₂) (by simp at hal; omega) hS
end
end

section
open PySem PySem.W PySem.Spec PySem.Calls PyProof.Rows
-- where the claim's caller stands
theorem amb_caller : Amb (.builtin "claim.caller" {}) [] (1 + claimMargin) 4 := by
  refine ⟨rfl, ?_, ?_⟩ <;> decide +kernel
theorem ends_L {prog : Program} {w : World} {t : Sem PySem.Fin} {s : Shared} {R : Result → Shared → Prop} (hreg : s.asleep)
    (h : LG prog w (1 + claimMargin) 4 t (fun fin s' => ∃ f, fin = .done f ∧ (R (.ok f) s' ∧ leftWithCleanup s'.gens = false)) (fun e s' => R (.error e) s' ∧ leftWithCleanup s'.gens = false) s) :
    ∃ n r s' s'', runN (denote table) prog w n s ⟨t, .builtin "claim.caller" {}, default, []⟩ = .halted (outcomeOf r) s' ∧
      schedN (denote table) prog w n (.single s ⟨t, .builtin "claim.caller" {}, default, []⟩) = .halted (outcomeOf r) s' ∧ s'.forget = s''.forget ∧ R r s'' := by
  refine Leads.halts (denote table) prog w (R := R) hreg ?_
  rw [← wrap_id t]
  refine h _ (.builtin "claim.caller" {}) [] default .pure .raise id id amb_caller ?_ ?_
  · rintro fin p' s' ⟨f, rfl, h1, h2⟩
    exact .here ⟨.ok f, _, _, rfl, h1, h2⟩
  · intro e p' s' h1
    exact .here ⟨.error e, _, _, rfl, h1.1, h1.2⟩
theorem from_L {c : ClaimW} {tree : List Value → Sem PySem.Fin} {w : World} {s : Shared} {free : Addr → Prop} {gens : Prop} {kept : Heap → Prop} (hz : s.asleep) (hg : s.gens = #[])
    (spec : ∀ args, c.pre args = true → WData.layableAll args = true → ∀ ord : List DictEntry → List DictEntry, (∀ l, (ord l).Perm l) →
      ∃ vs s₁, layAllW c.records (classAt s.heap) w.params ord args s = some (vs, s₁) ∧
        LG c.prog w (1 + claimMargin) 4 (tree vs) (fun fin s' => ∃ f, fin = .done f ∧ (c.Ends s args vs s₁ (.ok f) s' ∧ s'.os = s.os ∧ AllBare s'.gens ∧ kept s'.heap)) (fun e s' => c.Ends s args vs s₁ (.error e) s' ∧ s'.os = s.os ∧ AllBare s'.gens ∧ kept s'.heap) s₁) :
    c.CallFrom (fun vs => ⟨tree vs, .builtin "claim.caller" {}, default, []⟩) w free gens kept s := by
  intro args hpre hlay ord hord
  obtain ⟨vs, s₁, hl, hcode⟩ := spec args hpre hlay ord hord
  have rest := layAllW_rest _ _ _ hl
  obtain ⟨k, r, s', s'', run, sched, fo, hcase, hos, hkp⟩ := ends_L (prog := c.prog) (w := w) (t := tree vs) (s := s₁) (R := fun r s' => c.Ends s args vs s₁ r s' ∧ s'.os = s.os ∧ kept s'.heap) (Shared.asleep_of_life rest.2.2.2 hz)
    (lg_mono hcode (fun fin s' x => let ⟨f, e, h1, h2, h3, h4⟩ := x; ⟨f, e, ⟨h1, h2, h4⟩, leftWithCleanup_false_of_bare h3⟩) fun e s' x => ⟨⟨x.1, x.2.1, x.2.2.2⟩, leftWithCleanup_false_of_bare x.2.2.1⟩)
  obtain ⟨eh, _, _, eo, _⟩ := Shared.forget_eq fo
  have hcase := hcase.congr eh
  have hkp : kept s'.heap := eh ▸ hkp
  rw [← eo] at hos
  have hlife : s'.heap.life = s.heap.life := (runN_life _ _ _ run).trans rest.2.2.2
  refine ⟨vs, s₁, hl, k, _, s', sched, ?_, (fun _ i x hx => by rw [hg] at hx; simp at hx), hkp, by rw [hlife], Shared.rest_eq hos⟩
  rcases hcase with ⟨v, rfl, d1, d2, d3, d4, d5⟩ | ⟨e, ob, cls, rfl, d1, d2, d3, d4, d5⟩
  · exact .inl ⟨v, rfl, d1, d2, d3, fun b o y _ => d4 b o y, d5⟩
  · exact .inr ⟨e, ob, cls, rfl, d1, d2, d3, d4, fun b o y _ => d5 b o y⟩
abbrev WalkL (q : Program) (loose : List Str) (XP : (Str → Option Value) → Heap → Prop) {α : Type} (Yf : Shared → α) (Ya : World → α) (r : RowW) (d : DefRec) (kwd : List (Str × Expr)) : Prop :=
  ∀ (w : World) (s₀ s₁ : Shared) (mg mb : Str → Option Value), Ground q loose r.records XP w s₀ mg mb s₁.heap → Yf s₀ = Ya w → ∀ (a : Addr) (o : Obj) (pm cd doc dV kV : Value), s₁.heap.get? a = some o →
    o.data = .func { docDef d.name d.params d.body d.scope pm cd doc with defaults := dV, kwdefaults := kV } → s₁.heap.CodeRec cd d.name → Dflts mg s₁.heap d.params kwd dV kV → mg d.name = some (.ref a) → s₁.gens = #[] →
    ∀ (args : List WData) (vals : List Value) (as : List Addr), Laid r.records w s₀ s₁ args vals as → r.claim.pre args = true → WData.layableAll args = true → ReadsAllW r.records (classAt s₀.heap) s₁.heap vals args as → WellAll w.params s₁.heap vals args → (∀ a ∈ as, (a == sysModules) = false) →
      LG r.prog w (1 + claimMargin) 4 (PySem.call (.ref a) vals) (fun v s' => GoodWG r.claim (classAt s₀.heap) (ExcName.means s₀.heap) args s₁ (.ok (.ret v)) s') (fun e s' => GoodWG r.claim (classAt s₀.heap) (ExcName.means s₀.heap) args s₁ (.error e) s') s₁
theorem open_L {r : RowW} {q : Program} {loose defs kps : List Str} {writes : Bool} {Xt : Shared → Bool} {XP : (Str → Option Value) → Heap → Prop} {α : Type} {Yf : Shared → α} {Ya : World → α} {N : Nat} {d : DefRec} {kwd : List (Str × Expr)}
    (left : LeftO r.prog q loose Xt Yf Ya N) (hX : ∀ s, Xt s = true → XP (s.heap.nsMap mainGlobals) s.heap) (hXk : ∀ mg h h', XP mg h → (∀ b o, h.get? b = some o → h'.get? b = some o) → XP mg h')
    (hdef : defOf q r.name = some (d, kwd)) (hRf : ∀ s, Xt s = true → RecFacts r.records s.heap) (hwr : (!writes || r.records.isEmpty) = true) (ok : (chainsOk q && opensWell r.prog && (frees r && r.within.isEmpty)) = true) (hb : r.prog.bare) (hw : r.promised)
    (pin : ∀ w s, s.heap.isNs mainGlobals = true → Ground q loose [] XP w s (s.heap.nsMap mainGlobals) (s.heap.nsMap builtinsNs) s.heap → ∀ n ∈ defs, isTheDefsW r.prog s.heap n)
    (walk : WalkL q loose XP Yf Ya r d kwd) : r.claim.HoldsOpenBy (fun vs => ⟨do match ← nsGet mainNs r.name with
      | some f => do ret (← PySem.call f vs)
      | none => unsupported "claim.caller:no-such-global", .builtin "claim.caller" {}, default, []⟩) defs kps writes := by
  obtain ⟨ok, k5⟩ := Bool.and_eq_true_iff.mp ok
  obtain ⟨hch, o1⟩ := Bool.and_eq_true_iff.mp ok
  obtain ⟨k5, k6⟩ := Bool.and_eq_true_iff.mp k5
  obtain ⟨hsame, hu, ha, hap, hm⟩ := frees_parts k5
  refine ⟨⟨hb, o1, by show r.makers.map _ = []; rw [hm]; rfl⟩, hw.witness, fun w => ⟨(left.behind hX hch w).1, fun s' hs' => ?_⟩⟩
  obtain ⟨s₀, hf, hg0, s, hT, hz, hgens, hg, G00, y⟩ := (left.behind (XP := fun mg h => XP mg h ∧ RecFacts r.records h) (fun s hs => ⟨hX s hs, hRf s hs⟩) hch w).2 s' hs'
  have G0 : Ground q loose [] XP w s (s.heap.nsMap mainGlobals) (s.heap.nsMap builtinsNs) s.heap := ⟨G00.T, G00.B, G00.D, G00.TE, G00.TD, G00.W, G00.X.1, G00.cls, G00.has, G00.apart, G00.once, G00.K⟩
  have RF := G00.X.2
  have hT' := hT
  refine ⟨s₀, hf, hg0, s, hT, pin w s hg G0, RF.1, RF.2.1, ?_⟩
  have hgens : s.gens = #[] := Array.eq_empty_of_size_eq_zero (beq_iff_eq.mp hgens)
  have G : Ground q loose r.records XP w s _ _ s.heap := RF.ground G0
  refine from_L (c := r.claim) (tree := fun vs => do match ← nsGet mainNs r.name with
      | some f => do ret (← PySem.call f vs)
      | none => unsupported "claim.caller:no-such-global") hz hgens fun args hpre hlay ord hord => ?_
  obtain ⟨⟨vs, s₁⟩, hlaid⟩ := Option.isSome_iff_exists.mp (layAllW_isSome (P := w.params) (ord := ord) G.has args r.args s (pre_splitW hpre).1)
  have keeps := layAllW_keeps _ _ _ hlaid
  have hal := layAllW_rest _ _ _ hlaid
  obtain ⟨as, hrd, hin, hold⟩ := reads_layAllW hord _ _ _ hlaid hlay s₁.heap (fun _ _ e => e)
  have L : Laid r.records w s s₁ args vs as := ⟨⟨ord, hord, hlaid⟩, hrd, hin, hold, keeps, hal.1.trans hgens, hal.2.2.1⟩
  have G₁ := G.keeps hXk keeps
  obtain ⟨a, o, pm, cd, doc, dV, kV, h1, h2, h3, h4, h5⟩ := G₁.fn hdef
  have h := walk w s s₁ _ _ G₁ y a o pm cd doc dV kV h2 h3 h4 h5 (defOf_name hdef ▸ h1) L.gens args vs as L hpre hlay L.reads L.well (L.low G.low)
  have hi := ident_freeW hu ha hap
  have hwi : r.claim.within = [] := List.isEmpty_iff.mp k6
  refine ⟨vs, s₁, hlaid, lg_bind (lg_of (wpAny_nsGet G₁.T.g ?_))⟩
  rw [h1]
  refine lg_bind (lg_mono h (fun v s' g => lg_pure ⟨_, rfl, ?_⟩) fun e s' g => ?_)
  · have z := g.laid (c := r.claim) hsame hwi hi L
    exact ⟨z.1, z.2.1, z.2.2, fun q => ⟨namesKept_of hT' hg kps keeps g.2.1.old, noTable hwr q⟩⟩
  · have z := g.laid (c := r.claim) hsame hwi hi L
    exact ⟨z.1, z.2.1, z.2.2, fun q => ⟨namesKept_of hT' hg kps keeps g.2.1.old, noTable hwr q⟩⟩
end

section
open PySem PySem.W PySem.Calls PyProof.Rows Builtin.ObjectAttr
section
variable {prog : Program} {w : World} {d u : Nat} {s : Shared} {env : Env}
theorem lg_Compare1 {l r : Expr} {op : CmpOp} {pos : Pos} {Q : Value → Shared → Prop} (h : LG prog w d u (eval l env) (fun a s₁ => wpAny (model prog w) (am d u) (eval r env) (fun b s₂ => wpAny (model prog w) (am d u) (compareOp op a b) Q no s₂) no s₁) no s)
    (hm : behindInMarks op r = false := by with_unfolding_all rfl) : LG prog w d u (eval (.Compare l [op] [r] pos) env) Q no s := by
  rw [eval_Compare1]
  simp only [markedBehindIn_of_false hm]
  exact lg_bind (lg_mono h (fun a s₁ h₁ => lg_of (wpAny_bind (wpAny_holding (wpAny_mono h₁ (fun b s₂ h₂ => wpAny_bind (wpAny_standAt (wpAny_operating h₂))) fun _ _ x => x)))) fun _ _ x => x)
theorem lg_isTrue_Compare1 {l r : Expr} {op : CmpOp} {pos : Pos} {whole : Sem Value} {Q : Bool → Shared → Prop} (h : LG prog w d u (eval l env) (fun a s₁ => wpAny (model prog w) (am d u) (eval r env) (fun b s₂ => wpAny (model prog w) (am d u) (compareOp op a b) (fun c s₃ => wpAny (model prog w) (am d u) (truthy c) Q no s₃) no s₂) no s₁) no s)
    (hm : behindInMarks op r = false := by with_unfolding_all rfl) : LG prog w d u (isTrue (.Compare l [op] [r] pos) env whole) Q no s := by
  rw [isTrue_Compare1]
  simp only [markedBehindIn_of_false hm]
  exact lg_bind (lg_mono h (fun a s₁ h₁ => lg_of (wpAny_bind (wpAny_holding (wpAny_mono h₁ (fun b s₂ h₂ => wpAny_bind (wpAny_standAt (wpAny_bind (wpAny_operating (wpAny_mono h₂ (fun c s₃ h₃ => wpAny_holding h₃) fun _ _ x => x))))) fun _ _ x => x)))) fun _ _ x => x)
theorem lg_If {test : Expr} {body orelse : List Stmt} {pos : Pos} {Q : Flow → Shared → Prop} (h : LG prog w d u (isTrue test env (eval test env)) (fun b s₂ => LG prog w d u (if b = true then execs body env else execs orelse env) Q no s₂) no s) : LG prog w d u (exec (.If test body orelse pos) env) Q no s := by
  show LG prog w d u (standAt pos >>= fun _ => isTrue test env (eval test env) >>= fun b => if b = true then execs body env else execs orelse env) Q no s
  exact lg_bind (lg_of (wpAny_standAt (lg_bind h)))
theorem lg_Return {e : Expr} {pos : Pos} {Q : Flow → Shared → Prop} (h : LG prog w d u (eval e env) (fun v => Q (.ret v)) no s) : LG prog w d u (exec (.Return (some e) pos) env) Q no s := by
  rw [exec_Return_some]
  exact lg_bind (lg_of (wpAny_standAt (lg_bind (lg_mono h (fun v s₁ h₁ => lg_pure h₁) fun _ _ x => x))))
theorem lg_cons {st : Stmt} {rest : List Stmt} {Q : Flow → Shared → Prop} (h : LG prog w d u (exec st env) (fun f s' => match f with | .next => LG prog w d u (execs rest env) Q no s' | f => Q f s') no s) : LG prog w d u (execs (st :: rest) env) Q no s := by
  show LG prog w d u (exec st env >>= fun f => match f with | .next => execs rest env | f => pure f) Q no s
  refine lg_bind (lg_mono h (fun f s' h' => ?_) fun _ _ x => x)
  cases f <;> first | exact h' | exact lg_pure h'
theorem cg_compTurn {elt target iter : Expr} {scope : Scope} {pos : Pos} {it acc : Value} {R : Result → Shared → Prop}
    (h : LG prog w d u (pyNext it) (fun r s₁ => match r with
      | none => R (.ok .next) s₁
      | some v => LG prog w d u (letOwnedTupleGo target it v) (fun _ s₁' => LG prog w d u (assign target env v) (fun _ s₂ => LG prog w d u (eval elt env) (fun x s₄ =>
              LG prog w d u (call (.builtin "list.append") [acc, x]) (fun _ s₅ => CG prog w d u (.compLoop (.ListComp elt [⟨target, iter, [], 0⟩] scope pos) 0 it acc env) R s₅) no s₄) no s₂) no s₁') no s₁) no s) :
    CG prog w d u (.compLoop (.ListComp elt [⟨target, iter, [], 0⟩] scope pos) 0 it acc env) R s := by
  refine cg_tree ?_
  show LG prog w (d + 0) (u + 0) ((compTurn (.ListComp elt [⟨target, iter, [], 0⟩] scope pos) 0 it acc env).onRaise (fun x => do noteFrame x env; theTreesLotGoes x)) _ _ s
  refine lg_mono (E := no) (Q := fun fin s' => match fin with | .done f => R (.ok f) s' | .again c' => c'.quiet = true ∧ CG prog w d u c' R s') (lg_onRaise ?_) (fun _ _ x => x) fun _ _ x => x.elim
  rw [compTurn_list1]
  refine lg_bind (lg_of (wpAny_standAt (lg_bind (lg_mono h (fun r s₁ h₁ => ?_) fun _ _ x => x))))
  cases r with
  | none => exact lg_pure h₁
  | some v => exact lg_bind (lg_mono h₁ (fun _ s₁' h₁' => lg_bind (lg_mono h₁' (fun _ s₂ h₂ => lg_bind (lg_bind (lg_mono h₂ (fun x s₄ h₄ => lg_bind (lg_mono h₄ (fun _ s₅ h₅ => lg_pure (lg_pure ⟨rfl, h₅⟩)) fun _ _ x => x)) fun _ _ x => x))) fun _ _ x => x)) fun _ _ x => x)
theorem cg_compStart {elt target iter : Expr} {ifs : List Expr} {rest : List Comprehension} {scope : Scope} {pos : Pos} {it acc : Value} {R : Result → Shared → Prop}
    (h0 : CG prog w d u (.compLoop (.ListComp elt (⟨target, iter, ifs, 0⟩ :: rest) scope pos) 0 it acc env) R s)
    (h : wpAny (model prog w) (am d u) (pyIter it) (fun it' s' => CG prog w d u (.compLoop (.ListComp elt (⟨target, iter, ifs, 0⟩ :: rest) scope pos) 0 it' acc env) R s') no s) :
    CG prog w d u (.compStart (.ListComp elt (⟨target, iter, ifs, 0⟩ :: rest) scope pos) 0 it acc env) R s := by
  refine cg_tree ?_
  show LG prog w (d + 0) (u + 0) ((compStart (.ListComp elt (⟨target, iter, ifs, 0⟩ :: rest) scope pos) 0 it acc env).onRaise (fun x => do noteFrame x env; standAt theWindowsPlace)) _ _ s
  refine lg_mono (E := no) (Q := fun fin s' => match fin with | .done f => R (.ok f) s' | .again c' => c'.quiet = true ∧ CG prog w d u c' R s') (lg_onRaise (lg_of ?_)) (fun _ _ x => x) fun _ _ x => x.elim
  unfold compStart
  show wpAny _ _ (ask >>= _) _ _ s
  refine wpAny_bind (wpAny_askSetting (wpAny_ite ?_))
  split
  · first
      | exact wpAny_bind (wpAny_pure (wpAny_pure (And.intro rfl h0)))
      | exact wpAny_pure (And.intro rfl h0)
  · first
      | exact wpAny_bind (wpAny_rule (wpAny_bind (wpAny_standAt (wpAny_bind (wpAny_mono h (fun it' s' h' => wpAny_pure (And.intro rfl h')) fun _ _ x => x)))))
      | (refine wpAny_bind (wpAny_rule ?_); show wpAny _ _ (standAt iter.pos >>= _) _ _ s; exact wpAny_bind (wpAny_standAt (wpAny_bind (wpAny_mono h (fun it' s' h' => wpAny_pure (And.intro rfl h')) fun _ _ x => x))))
theorem lg_ListComp {elt target iter : Expr} {ifs : List Expr} {scope : Scope} {pos : Pos} {Q : Value → Shared → Prop}
    (hfree : ∀ x ∈ scope.names, x.2 ≠ .free) (hkind : scope.kind = .function) (hnames : ∀ x ∈ scope.names, x.2 = .local → scope.names.lookup x.1 = some .local)
    (h : LG prog w d u (eval iter env) (fun x s₁ => LG prog w d u (pyIter x) (fun it s₂ => LG prog w d u (newList []) (fun acc s₃ =>
      LG prog w d u (newFunctionEnv scope env.globals [] [] env.qual none .none (some env)) (fun cenv s₄ =>
        CG prog w d u (.compStart (.ListComp elt [⟨target, iter, ifs, 0⟩] scope pos) 0 it acc { cenv with scope := scope })
          (fun r s' => match r with | .ok _ => ∃ m, s'.heap.Ns cenv.locals m ∧ ∀ h', Heap.SameBut cenv.locals s'.heap h' → Q acc { s' with heap := h' } | .error _ => False) s₄) no s₃) no s₂) no s₁) no s)
    (hs : ∀ x, foldedSetIterable iter env x = pure x := by intro _; rfl) :
    LG prog w d u (eval (.ListComp elt [⟨target, iter, ifs, 0⟩] scope pos) env) Q no s := by
  rw [eval_ListComp]
  unfold comprehension
  rw [closureFor_none hfree, show clausesOf (.ListComp elt [⟨target, iter, ifs, 0⟩] scope pos) = [⟨target, iter, ifs, 0⟩] from rfl]
  refine lg_bind (lg_mono h (fun x s₁ h₁ => lg_bind (lg_of (wpAny_standAt ?_))) fun _ _ x => x)
  refine lg_bind (m := foldedSetIterable iter env x) ?_
  rw [hs x]
  refine lg_pure (lg_bind (lg_holding (lg_mono h₁ (fun it s₂ h₂ => ?_) fun _ _ x => x)))
  refine lg_bind (m := newList []) (lg_mono h₂ (fun acc s₃ h₃ => lg_bind (lg_pure (lg_bind (lg_mono h₃ (fun cenv s₄ h₄ => ?_) fun _ _ x => x)))) fun _ _ x => x)
  dsimp only
  rw [map_eq_self (l := scope.names) (fun x hx => by
    obtain ⟨n, k⟩ := x
    have : (k == NameKind.free) = false := by simpa using hfree _ hx
    simp [this])]
  have hv : ∀ x ∈ (scope.names.filter fun x => (x.2 == .local || x.2 == .cell) && x.1 != (".0" : Str)).reverse, x.2 = .local →
      Env.kindOf { cenv with scope := scope } x.1 = some .local := fun x hx hl => hnames x (List.mem_filter.mp (List.mem_reverse.mp hx)).1 hl
  refine lg_holding (lg_bind (lg_attempt (lg_holding (lg_run (cg_mono h₄ fun r s' hr => ?_)))))
  cases r with
  | ok f =>
    obtain ⟨m, hn, hr⟩ := hr
    exact lg_bind (lg_of (wpAny_holding (wpAny_comp_letGo (cenv := { cenv with scope := scope }) hkind _ s' m hv hn fun h' m' _ hs' => lg_pure (hr h' hs'))))
  | error x => exact hr.elim
end
end

section
open PySem PySem.W PySem.Calls PyProof.Rows Builtin.ObjectAttr
inductive RelL {X : Type} (Rel : Heap → Value → X → Prop) (h : Heap) : List Value → List X → Prop
  | nil : RelL Rel h [] []
  | cons {v x vs xs} : Rel h v x → RelL Rel h vs xs → RelL Rel h (v :: vs) (x :: xs)
theorem RelL.le {X : Type} {Rel : Heap → Value → X → Prop} (hR : ∀ h h' v x, Le h h' → Rel h v x → Rel h' v x) {h h' : Heap} (k : Le h h') : ∀ {vs : List Value} {xs : List X}, RelL Rel h vs xs → RelL Rel h' vs xs
  | _, _, .nil => .nil
  | _, _, .cons a b => .cons (hR _ _ _ _ k a) (RelL.le hR k b)
theorem RelL.snoc {X : Type} {Rel : Heap → Value → X → Prop} {h : Heap} {v : Value} {x : X} (y : Rel h v x) : ∀ {vs : List Value} {xs : List X}, RelL Rel h vs xs → RelL Rel h (vs ++ [v]) (xs ++ [x])
  | _, _, .nil => .cons y .nil
  | _, _, .cons a b => .cons a (RelL.snoc y b)
theorem RelL.length {X : Type} {Rel : Heap → Value → X → Prop} {h : Heap} : ∀ {vs : List Value} {xs : List X}, RelL Rel h vs xs → vs.length = xs.length
  | _, _, .nil => rfl
  | _, _, .cons _ b => by simp [RelL.length b]
section
variable {X : Type} {prog : Program} {w : World} {os : OsState} {Rel : Heap → Value → X → Prop} {kd d u : Nat} {l : List Cell} {s : Shared}
theorem own_loop (hRel : ∀ h h' v x, Le h h' → Rel h v x → Rel h' v x) {iter : Expr} {x : String} {px py : Pos} {scope : Scope} {pos : Pos} {env : Env} {C D ga : Addr} {R : Result → Shared → Prop}
    (hL : env.locals = C) (hx : env.kindOf (Str.ofString x) = some .local) (hp : (env.scope.kind == .class || (env.scope.kind == .module && env.locals != env.globals)) = false) (hk : env.scope.kind = .function) (hdb : (Str.ofString x == ("__debug__" : Str)) = false)
    (hd : d + kd ≤ 900) (hu : u + 20 * kd + 20 ≤ 9000) :
    ∀ (xs done : List X) (h₀ : Heap) (lg : List Cell) (glg : List (Nat × GenState)) (vs : List Value) (s : Shared), Own prog w os Rel kd xs h₀ ga lg glg → St w os h₀ (lg ++ ((C, NsO []) :: (D, LsO vs) :: l)) (glg ++ []) s → RelL Rel h₀ vs done → done.length + xs.length ≤ 100000 →
      (∀ h₁ vs' s', Le h₀ h₁ → RelL Rel h₁ vs' (done ++ xs) → St w os h₁ ((C, NsO []) :: (D, LsO vs') :: l) [] s' → R (.ok .next) s') →
      CG prog w d u (.compLoop (.ListComp (.Name (Str.ofString x) py) [⟨.Name (Str.ofString x) px, iter, [], 0⟩] scope pos) 0 (.ref ga) (.ref D) env) R s := by
  intro xs
  induction xs with
  | nil =>
    intro done h₀ lg glg vs s hO hS hV hz hR
    refine cg_compTurn (lg_pyNext hO (Le.refl _) hS hd hu ?_)
    intro h₁ s' hk₁ hS
    exact hR h₁ vs s' hk₁ (by simpa using hV.le hRel hk₁) hS
  | cons y xs ih =>
    intro done h₀ lg glg vs s hO hS hV hz hR
    refine cg_compTurn (lg_pyNext hO (Le.refl _) hS hd hu ?_)
    intro v h₁ l' gl' s' hk₁ hr hO' hS
    refine lg_pure ?_
    have hvl := hV.length
    have to : ∀ {c : Cell} {s : Shared}, St w os h₁ (l' ++ (c :: (D, LsO vs) :: l)) (gl' ++ []) s → St w os h₁ (c :: (l' ++ ((D, LsO vs) :: l))) (gl' ++ []) s := fun hS => hS.perm List.perm_middle.symm
    replace hS := to hS
    refine lg_of (wpAny_assign_Name (r_store hS (al' := [(x, some v)]) rfl (fun s' hS => ?_) hL hx hp))
    refine lg_of (r_local (v := v) hS (by unfold getV; simp) ?_ hL hk hx hdb)
    have hS2 : St w os h₁ ((D, LsO vs) :: (C, NsO [(x, some v)]) :: (l' ++ l)) (gl' ++ []) s' := by
      refine hS.perm ?_
      refine (List.Perm.swap _ _ _).trans (List.Perm.cons _ ?_)
      exact List.perm_middle.symm
    refine lg_of (r_append hS2 (i := 0) rfl (by rw [sizeLine_eq]; simp at hz; omega) fun s' hS => ?_)
    have hS3 : St w os h₁ (l' ++ ((C, NsO []) :: (D, LsO (vs ++ [v])) :: l)) (gl' ++ []) s' := by
      have h1 := hS.weak (P' := NsO []) (i := 1) rfl fun o q => NsO.weak q fun y v e => by cases e
      refine h1.perm ?_
      simp only [List.set_cons_zero, List.set_cons_succ]
      refine (List.perm_middle.trans (List.Perm.cons _ List.perm_middle)).trans (List.Perm.swap _ _ _)
    refine ih (done ++ [y]) h₁ l' gl' (vs ++ [v]) s' hO' hS3 ((hV.le hRel hk₁).snoc hr) (by simp at hz ⊢; omega) fun h₂ vs' s' hk₂ hV' hS => ?_
    exact hR h₂ vs' s' (hk₁.trans hk₂) (by simpa using hV') hS
theorem lg_ownComp (hRel : ∀ h h' v x, Le h h' → Rel h v x → Rel h' v x) {iter : Expr} {x : String} {px py : Pos} {scope : Scope} {pos : Pos} {env : Env} {Q : Value → Shared → Prop} (hd : d + kd ≤ 900) (hu : u + 20 * kd + 20 ≤ 9000)
    (hfree : ∀ y ∈ scope.names, y.2 ≠ .free) (hcell : ∀ y ∈ scope.names, y.2 ≠ .cell) (hkind : scope.kind = .function) (hnames : ∀ y ∈ scope.names, y.2 = .local → scope.names.lookup y.1 = some .local) (hx : scope.names.lookup (Str.ofString x) = some .local) (hdb : (Str.ofString x == ("__debug__" : Str)) = false)
    (h : LG prog w d u (eval iter env) (fun v s₁ => ∃ (h₁ : Heap) (ga : Addr) (lg : List Cell) (glg : List (Nat × GenState)) (l : List Cell) (xs : List X), v = .ref ga ∧ Own prog w os Rel kd xs h₁ ga lg glg ∧ St w os h₁ (lg ++ l) (glg ++ []) s₁ ∧ xs.length ≤ 100000 ∧
      ∀ D h₂ vs s', Le h₁ h₂ → RelL Rel h₂ vs xs → St w os h₂ ((D, LsO vs) :: l) [] s' → Q (.ref D) s') no s)
    (hs : ∀ x, foldedSetIterable iter env x = pure x := by intro _; rfl) :
    LG prog w d u (eval (.ListComp (.Name (Str.ofString x) py) [⟨.Name (Str.ofString x) px, iter, [], 0⟩] scope pos) env) Q no s := by
  refine lg_ListComp hfree hkind hnames (lg_mono h (fun v s₁ h₁ => ?_) fun _ _ x => x) hs
  obtain ⟨h₁, ga, lg, glg, l, xs, rfl, hO, hS, hz, hQ⟩ := h₁
  have hO' := hO
  obtain ⟨g, gs, lc, glc, rfl, rfl, hf, hG⟩ := hO'
  refine lg_of (r_iterGen hS (i := 0) rfl (lg_of ?_))
  replace hS : St w os h₁ ((ga, GenO g) :: (lc ++ l)) (((g, gs) :: glc) ++ []) s₁ := hS
  refine r_newList hS fun D s₃ hS => lg_of ?_
  refine wpAny_newFunctionEnv hcell (by intro y hy; simp at hy) (fun h' hns hsb => ?_) hkind
  obtain ⟨o, ho, hP⟩ := ns_cell (al := []) hns (fun y v e => by cases e)
  have hC := St.more (hS.toks (t := s₃.toks + 0)) (s' := { s₃ with heap := h', toks := s₃.toks + 0 }) (fun b o e => hsb.extBut b o (fun q => by rw [q, fresh_none _ (Nat.le_refl _)] at e; cases e) (Heap.get?_push_of_some _ e)) (fresh_none _ (Nat.le_refl _)) ho hP rfl rfl
  generalize ({ s₃ with heap := h', toks := s₃.toks + 0 } : Shared) = s₄ at hC
  generalize s₃.heap.objs.size = C at hC
  have hC2 : St w os h₁ (((ga, GenO g) :: lc) ++ ((C, NsO []) :: (D, LsO []) :: l)) (((g, gs) :: glc) ++ []) s₄ := by
    refine hC.perm ?_
    have p1 : ((ga, GenO g) :: (lc ++ ((C, NsO []) :: (D, LsO []) :: l))).Perm ((C, NsO []) :: (ga, GenO g) :: (lc ++ ((D, LsO []) :: l))) := (List.perm_middle (l₁ := (ga, GenO g) :: lc) (l₂ := ((D, LsO []) : Cell) :: l))
    have p2 : ((ga, GenO g) :: (lc ++ ((D, LsO []) :: l))).Perm ((ga, GenO g) :: (D, LsO []) :: (lc ++ l)) := (List.perm_middle (l₁ := lc)).cons _
    exact p1.trans (p2.cons _)
  have key : ∀ s₄, St w os h₁ (((ga, GenO g) :: lc) ++ ((C, NsO []) :: (D, LsO []) :: l)) (((g, gs) :: glc) ++ []) s₄ → CG prog w d u (.compLoop (.ListComp (.Name (Str.ofString x) py) [⟨.Name (Str.ofString x) px, iter, [], 0⟩] scope pos) 0 (.ref ga) (.ref D) (compEnv scope C env))
      (fun r s' => match r with | .ok _ => ∃ m, s'.heap.Ns C m ∧ ∀ h', Heap.SameBut C s'.heap h' → Q (.ref D) { s' with heap := h' } | .error _ => False) s₄ := fun s₄ hS =>
    own_loop (env := compEnv scope C env) hRel rfl (by exact hx) (by simp [compEnv, hkind]) hkind hdb hd hu xs [] h₁ _ _ [] s₄ hO hS .nil (by simpa using hz) fun h₂ vs' s' hk₂ hV hS => by
      obtain ⟨m, hm, _⟩ := hS.ns (i := 0) rfl
      exact ⟨m, hm, fun h' hsb => hQ D h₂ vs' _ hk₂ (by simpa using hV) (hS.drop (s' := { s' with heap := h' }) hsb.extBut rfl rfl)⟩
  exact cg_compStart (key _ hC2) (r_iterGen hC2 (i := 0) rfl (key _ hC2))
end
end

section
open PySem PySem.W PySem.Calls PyProof.Rows Builtin.ObjectAttr
theorem all_yes (n : Nat) : ((List.range n).all fun _ => true) = true := List.all_eq_true.mpr fun _ _ => rfl
section
variable {A : Around} {s : Shared} {h : Heap}
theorem eq_text {v v' : Value} {o : Option Str} (a : TextR h v o) (b : TextR h v' o) : SeqAt.EqAt A s v v' true := by
  cases o with
  | none => cases a; cases b; exact SeqAt.EqAt.same _
  | some n =>
    obtain ⟨t, rfl⟩ := a
    obtain ⟨t', rfl⟩ := b
    have := SeqAt.EqAt.str_str (A := A) (s := s) n t n t'
    simpa using this
theorem eq_tuple {l b : Addr} {items items2 : List Value} (hl : s.heap.IsTuple l items.toArray) (hb : s.heap.IsTuple b items2.toArray) (hz : items.length = items2.length) (hu : A.units < cLine)
    (he : ∀ j (h1 : j < items.length) (h2 : j < items2.length), SeqAt.EqAt A.in1 s items[j] items2[j] true) : SeqAt.EqAt A s (.ref l) (.ref b) true := by
  by_cases e : l = b
  · subst e; exact SeqAt.EqAt.same _
  · have := SeqAt.EqAt.of_refs e (SeqAt.RcAt.tuples (e := fun _ => true) hl hb hu (fun j h1 h2 => by simpa using he j (by simpa using h1) (by simpa using h2)))
    simpa [hz, all_yes] using this
theorem eq_texts : ∀ {vs ws : List Value} {os : List (Option Str)}, TextsR h vs os → TextsR h ws os → ∀ j (h1 : j < vs.length) (h2 : j < ws.length), SeqAt.EqAt A s vs[j] ws[j] true
  | _, _, _, .nil, .nil, j, h1, _ => absurd h1 (by simp)
  | _, _, _, .cons a b, .cons a' b', 0, _, _ => eq_text a a'
  | _, _, _, .cons a b, .cons a' b', j + 1, h1, h2 => eq_texts b b' j (by simpa using h1) (by simpa using h2)
theorem eq_told {v v' : Value} {t : Told} (hk : Le h s.heap) (hu : A.units < cLine) (a : ToldR h v t) (b : ToldR h v' t) : SeqAt.EqAt A s v v' true := by
  cases t with
  | one o => exact eq_text (h := h) a b
  | many os =>
    obtain ⟨x, vs, rfl, hx, hvs⟩ := a
    obtain ⟨y, ws, rfl, hy, hws⟩ := b
    exact eq_tuple ⟨_, hk _ _ hx, rfl, ⟨0, rfl⟩⟩ ⟨_, hk _ _ hy, rfl, ⟨0, rfl⟩⟩ (by rw [hvs.length, hws.length]) hu (eq_texts hvs hws)
theorem eq_row {v v' : Value} {r : Row} (hk : Le h s.heap) (hu : A.units + 2 < cLine) (a : RowR h v r) (b : RowR h v' r) : SeqAt.EqAt A s v v' true := by
  obtain ⟨x, lt, wt, tv, rfl, hx, ht⟩ := a
  obtain ⟨y, lt', wt', tv', rfl, hy, ht'⟩ := b
  refine eq_tuple (items := [_, _, _]) (items2 := [_, _, _]) ⟨_, hk _ _ hx, rfl, ⟨0, rfl⟩⟩ ⟨_, hk _ _ hy, rfl, ⟨0, rfl⟩⟩ rfl (by omega) ?_
  intro j h1 h2
  match j with
  | 0 => have := SeqAt.EqAt.int_int (A := A.in1) (s := s) r.line lt r.line lt'; simpa using this
  | 1 => have := SeqAt.EqAt.str_str (A := A.in1) (s := s) r.word wt r.word wt'; simpa using this
  | 2 => exact eq_told hk (by show A.units + 1 < cLine; omega) ht ht'
  | j + 3 => exact absurd h1 (by simp)
theorem eq_rows (hk : Le h s.heap) (hu : A.units + 2 < cLine) : ∀ {vs ws : List Value} {rs : List Row}, RelL RowR h vs rs → RowsR h ws rs → ∀ j (h1 : j < vs.length) (h2 : j < ws.length), SeqAt.EqAt A s vs[j] ws[j] true
  | _, _, _, .nil, .nil, j, h1, _ => absurd h1 (by simp)
  | _, _, _, .cons a b, .cons a' b', 0, _, _ => eq_row hk hu a a'
  | _, _, _, .cons a b, .cons a' b', j + 1, h1, h2 => eq_rows hk hu b b' j (by simpa using h1) (by simpa using h2)
theorem texts_rel {h : Heap} : ∀ {vs : List Value} {os : List (Option Str)}, RelL TextR h vs os → TextsR h vs os
  | _, _, .nil => .nil
  | _, _, .cons a b => .cons a (texts_rel b)
end
section
variable {prog : Program} {w : World} {A : Around} {E : Value → Shared → Prop} {s : Shared}
theorem ne_lists {a b : Addr} {vs ws : List Value} {Q : Value → Shared → Prop} (ha : s.heap.IsList a vs.toArray) (hb : s.heap.IsList b ws.toArray) (hz : vs.length = ws.length) (hu : A.units < cLine)
    (he : ∀ j (h1 : j < vs.length) (h2 : j < ws.length), SeqAt.EqAt A.in1 s vs[j] ws[j] true) (h : Q (.bool false) s) : wpAny (model prog w) A (compareOp .NotEq (.ref a) (.ref b)) Q E s :=
  SeqAt.RcNeAt.lists (e := fun _ => true) ha hb (by simpa using hz) hu (fun j h1 h2 => by simpa using he j (by simpa using h1) (by simpa using h2)) prog w E Q (by simpa [all_yes] using h)
theorem eq_lists {a b : Addr} {vs ws : List Value} {Q : Value → Shared → Prop} (ha : s.heap.IsList a vs.toArray) (hb : s.heap.IsList b ws.toArray) (hz : vs.length = ws.length) (hu : A.units < cLine)
    (he : ∀ j (h1 : j < vs.length) (h2 : j < ws.length), SeqAt.EqAt A.in1 s vs[j] ws[j] true) (h : Q (.bool true) s) : wpAny (model prog w) A (compareOp .Eq (.ref a) (.ref b)) Q E s :=
  SeqAt.RcAt.lists (e := fun _ => true) ha hb (by simpa using hz) hu (fun j h1 h2 => by simpa using he j (by simpa using h1) (by simpa using h2)) prog w E Q (by simpa [all_yes] using h)
end
end

section
open PySem PySem.W PySem.Calls PyProof.Rows Builtin.ObjectAttr
-- values that are numbers of the row
inductive NatsV : List Value → List Nat → Prop
  | nil : NatsV [] []
  | cons {r t vs rs} : NatsV vs rs → NatsV (.int ((r : Nat) : Int) t :: vs) (r :: rs)
theorem NatsV.append {us : List Value} {qs : List Nat} (y : NatsV us qs) : ∀ {vs : List Value} {rs : List Nat}, NatsV vs rs → NatsV (vs ++ us) (rs ++ qs)
  | _, _, .nil => y
  | _, _, .cons b => .cons (NatsV.append y b)
theorem NatsV.drop : ∀ {vs : List Value} {rs : List Nat}, NatsV vs rs → ∀ n, NatsV (vs.drop n) (rs.drop n)
  | _, _, .nil, n => by cases n <;> exact .nil
  | _, _, .cons b, 0 => .cons b
  | _, _, .cons b, n + 1 => b.drop n
theorem NatsV.length : ∀ {vs : List Value} {rs : List Nat}, NatsV vs rs → vs.length = rs.length
  | _, _, .nil => rfl
  | _, _, .cons b => by simp [b.length]
theorem NatsV.zip : ∀ {vs : List Value} {rs : List Nat}, NatsV vs rs → ∃ ts : List Tok, ts.length = rs.length ∧ vs = List.zipWith (fun (r : Nat) t => Value.int (r : Int) t) rs ts
  | _, _, .nil => ⟨[], rfl, rfl⟩
  | _, _, .cons (t := t) b => by
    obtain ⟨ts, h1, h2⟩ := b.zip
    exact ⟨t :: ts, by simp [h1], by simp [h2]⟩
theorem NatsV.row {vs : List Value} {rs : List Nat} (x : NatsV vs rs) {o : Obj} (h : LsO vs.reverse o) : RowO rs o := by
  obtain ⟨ts, h1, h2⟩ := x.zip
  exact ⟨ts, h1, by rw [← h2]; exact h⟩
theorem nats_of {vs ys : List Value} (h : Paired (fun _ y => ∃ (r : Nat) (t : Tok), y = .int (r : Int) t) vs ys) : ∃ rs, NatsV ys rs := by
  induction h with
  | nil => exact ⟨[], .nil⟩
  | cons a _ ih =>
    obtain ⟨r, t, rfl⟩ := a
    obtain ⟨rs, h⟩ := ih
    exact ⟨r :: rs, .cons h⟩
theorem intsAre_each : ∀ {vs : List Value} {ns : List Int}, IntsAre vs ns → ∀ v ∈ vs, ∃ i t, v = .int i t
  | _, _, .nil, v, hv => nomatch hv
  | _, _, .cons n t h, v, hv => by
    rcases List.mem_cons.mp hv with rfl | hv
    · exact ⟨_, _, rfl⟩
    · exact intsAre_each h v hv
theorem pick_up (vs : List Value) (n : Nat) : slicePick vs.toArray none (some (n : Int)) none = (vs.take n).toArray := by
  rw [kms_pick_eq]
  unfold kms_pick kms_lo kms_hi
  simp only
  rw [if_neg (by omega), Int.toNat_natCast, List.drop_zero, Nat.sub_zero, kmk_take_min]
section
variable {prog : Program} {w : World} {os : OsState} {h₀ : Heap} {c : Cell} {l : List Cell} {gl : List (Nat × GenState)} {s : Shared} {A : Around} {E : Value → Shared → Prop} {i : Nat}
theorem r_sliceG {value slice : Expr} {la sl : Addr} {vs : List Value} {a b d : Value} {lo hi st : Option Int} {ops : List Value} {Q : Value → Shared → Prop} (hS : St w os h₀ (c :: l) gl s) (hi' : (c :: l)[i]? = some (sl, SlO a b d)) (hl : s.heap.IsList la vs.toArray) (pl : IsPart a lo) (pu : IsPart b hi) (pk : IsPart d st) (h0 : st ≠ some 0) (hz : vs.length ≤ 10000)
    (h : ∀ D s', St w os h₀ (c :: (D, LsO (slicePick vs.toArray lo hi st).toList) :: l) gl s' → Q (.ref D) s')
    (hs : subscripted slice false (.ref la) (.ref sl) = operate ops (getItem (.ref la) (.ref sl)) := by with_unfolding_all rfl) :
    wpAny (model prog w) A (subscriptTail value slice (.ref la) (.ref sl)) Q E s := by
  obtain ⟨o, ho, hP⟩ := hS.at hi'
  have hT := hl.typeIs
  have hg : wpAny (model prog w) A (getItem (.ref la) (.ref sl)) Q E s := wpAny_getItem_list_slice hl ⟨o, ho, by rw [hP], by rw [hP]⟩ pl pu pk h0 (h _ _ (hS.push2 (P := LsO (slicePick vs.toArray lo hi st).toList) rfl ⟨0, by simp⟩ rfl rfl rfl)) (by rw [sizeLine_eq]; simp; omega)
  unfold subscriptTail
  refine wpAny_bind ?_
  rw [getitemInPython_of_ne hT.not_modules]
  refine wpAny_bind (wpAny_specialOf hT list_getitem_lookup ?_)
  have fin : wpAny (model prog w) A (subscripted slice false (.ref la) (.ref sl)) (fun r s₃ => wpAny (model prog w) A (letTemporaryGo value (.ref la) r >>= fun _ => pure r) Q E s₃) E s := by
    rw [hs]
    exact wpAny_operating (wpAny_mono hg (fun r s₃ h₃ => wpAny_bind (wpAny_letTemporaryGo (wpAny_pure h₃))) fun _ _ x => x)
  first
    | exact wpAny_pure (wpAny_bind fin)
    | exact wpAny_bind (wpAny_pure (wpAny_bind fin))
    | exact wpAny_bind fin
theorem r_modI {a : Int} {m : Nat} {t u : Tok} {Q : Value → Shared → Prop} (hS : St w os h₀ l gl s) (hm : m ≠ 0) (h : ∀ s' (r : Nat) t', St w os h₀ l gl s' → Q (.int ((r : Nat) : Int) t') s') : wpAny (model prog w) A (binaryOp .Mod (.int a t) (.int (m : Nat) u)) Q E s :=
  r_mod hS (by omega) fun s' t' hS => by
    have h0 : 0 ≤ Int.fmod a (m : Int) := Int.fmod_nonneg_of_pos _ (by omega)
    obtain ⟨r, hr⟩ := Int.eq_ofNat_of_zero_le h0
    rw [hr]
    exact h _ _ _ hS
def isNatC : Expr → Bool
  | .Constant (.int (.ofNat _)) _ _ => true
  | _ => false
theorem spliced_nats {pos : Pos} {env : Env} : ∀ (es : List Expr) (s : Shared) (Q : List Value → Shared → Prop), es.all isNatC = true → St w os h₀ l gl s → (∀ vs rs s', NatsV vs rs → vs.length = es.length → St w os h₀ l gl s' → Q vs s') → wpAny (model prog w) A (spliced (backTo pos (starEach es env))) Q E s
  | [], s, Q, _, hS, h => Calls.spliced_nil (h [] [] s .nil rfl hS)
  | e :: es, s, Q, he, hS, h => by
    rw [List.all_cons, Bool.and_eq_true] at he
    obtain ⟨n, k, p, rfl⟩ : ∃ (n : Nat) (k : Nat) (p : Pos), e = .Constant (.int (n : Int)) k p := by
      have h1 := he.1
      unfold isNatC at h1
      split at h1
      · exact ⟨_, _, _, rfl⟩
      · cases h1
    refine r_args_cons (r_int hS fun s' t hS => ?_)
    exact spliced_nats es s' _ he.2 hS fun vs rs s' hv hl hS => h _ (n :: rs) s' (.cons hv) (by simp [hl]) hS
def retL : Stmt → List Expr | .Return (some (.List es _)) _ => es | _ => []
theorem usual_all : (retL (sAt 0 (bodOf (stm 32)))).all isNatC = true := by kernel_rfl
theorem usual_len : (retL (sAt 0 (bodOf (stm 32)))).length = 44 := by kernel_rfl
def retP : Stmt → Pos × Pos | .Return (some (.List _ p)) q => (p, q) | _ => (default, default)
theorem usual_body : bodOf (stm 32) = [.Return (some (.List (retL (sAt 0 (bodOf (stm 32)))) (retP (sAt 0 (bodOf (stm 32)))).1)) (retP (sAt 0 (bodOf (stm 32)))).2] := by kernel_rfl
set_option maxHeartbeats 4000000
theorem usual_spec {Q : Value → Shared → Prop} (hS : St w os h₀ (c :: l) gl s) (hd : A.depth < 900) (h : ∀ D vs rs s', NatsV vs rs → vs.length = 44 → St w os h₀ (c :: (D, LsO vs) :: l) gl s' → Q (.ref D) s') : wpAny (model prog w) A (call (.ref 504) []) Q E s := by
  refine wpAny_call ?_
  refine r_call (fd := fd504) (body := bodOf (stm 32)) [] hS (k504 _) (c504 _) (by simp only [recursionLimit]; omega) rfl (BindsTo.of_eq rfl) (by decide +kernel) (locs rfl) al_nil (fun L s' hS => ?_)
  have e := usual_body
  have ha := usual_all
  have hl := usual_len
  generalize retL (sAt 0 (bodOf (stm 32))) = es at e ha hl
  generalize retP (sAt 0 (bodOf (stm 32))) = pp at e
  rw [e]
  refine wpAny_execs_cons (wpAny_Return_some (List_ ?_))
  refine spliced_nats es s' _ ha hS fun vs rs s' hv hvl hS => ?_
  refine r_newList hS (fun D s' hS => ?_) (by rw [hvl, hl]; decide)
  exact h D vs rs s' hv (by rw [hvl, hl]) (by
    replace hS := hS.less 0
    simp only [List.eraseIdx] at hS
    exact hS.swap)
end
end

section
open PySem PySem.W PySem.Calls PyProof.Rows Builtin.ObjectAttr
abbrev lwEnv (L : Addr) : Env := callEnv fd554 L 554
section
variable {prog : Program} {w : World} {os : OsState} {h₀ : Heap} {l : List Cell} {gl : List (Nat × GenState)} {s : Shared} {A : Around} {Q : Flow → Shared → Prop} {L sc : Addr}
set_option maxHeartbeats 4000000
theorem law_0 {vs : List Value} {ns : List Int} (hh : A.handled = none) (hS : St w os h₀ ((L, NsO [("script", some (.ref sc))]) :: l) gl s) (hl : h₀.IsList sc vs.toArray) (hi : IntsAre vs ns) (hz : vs.length ≤ 1000)
    (h : ∀ h₁ s' da ys rs, Le h₀ h₁ → NatsV ys rs → ys.length ≤ 44 → St w os h₁ ((L, NsO [("script", some (.ref sc)), ("drawn", some (.ref da))]) :: (da, LsO ys) :: l) gl s' → Q .next s') :
    wpAny (model prog w) A (exec (sAt 0 (bodOf (stm 40))) (lwEnv L)) Q no s := by
  conv in sAt _ _ => whnf
  refine r_assignComp (os := os) (gl := gl) (x := "one") (y := "drawn") (fun _ => true) (fun _ y => ∃ (r : Nat) (t : Tok), y = .int (r : Int) t) (by rfl) hh (by decide) (by decide) rfl (by decide) rfl rfl rfl ?_
  repeat (walk_at "sw")
  refine r_slice (i := 1) (hi := some ((44 : Nat) : Int)) hS rfl (isList_le hl hS.hp.keep) .none (.int _ _) .none (by simp) (by omega) fun D s' hS => ?_
  rw [pick_up] at hS
  obtain ⟨h₁, _, hk₁, hD, ⟨n, rfl⟩, hS⟩ := hS.freezeAt (i := 1) rfl
  simp only [List.eraseIdx] at hS
  refine ⟨h₁, _, true, D, vs.take 44, _, fun D => [("script", some (.ref sc)), ("drawn", some (.ref D))], rfl, hS, ⟨_, hD, by simp⟩, by simp; omega, fun C v s Q l' hv hS hQ => ?_, fun C v s Q l' hv hpv hS hQ => ?_, fun D => rfl, fun D ys s' hF hS => ?_⟩
  · exact wpAny_tests_nil (hQ _ hS)
  · obtain ⟨i, t, rfl⟩ := intsAre_each hi v (List.mem_of_mem_take hv)
    iterate 3 (walk_at "sw")
    refine r_modI (m := 65536) hS (by decide) fun s' r t' hS => ?_
    exact hQ _ _ ⟨r, t', rfl⟩ hS
  · obtain ⟨rs, hr⟩ := nats_of hF
    replace hS := hS.less 2
    simp only [List.eraseIdx] at hS
    refine h h₁ s' D ys rs hk₁ hr ?_ hS
    have e1 := hF.length
    have e2 : ((vs.take 44).filter fun _ => true).length ≤ 44 := Nat.le_trans (List.length_filter_le _ _) (by simp; omega)
    omega
theorem law_1 {ys : List Value} {rs : List Nat} {da : Addr} (hh : A.handled = none) (hd : A.depth < 800) (hS : St w os h₀ ((L, NsO [("script", some (.ref sc)), ("drawn", some (.ref da))]) :: (da, LsO ys) :: l) gl s) (hr : NatsV ys rs) (hz : ys.length ≤ 44)
    (h : ∀ h₁ s' ra rs', Le h₀ h₁ → rs'.length ≤ 100 → St w os h₁ ((L, NsO [("script", some (.ref sc)), ("drawn", some (.ref da)), ("row", some (.ref ra))]) :: (ra, RowO rs') :: l) gl s' → Q .next s') :
    wpAny (model prog w) A (exec (sAt 1 (bodOf (stm 40))) (lwEnv L)) Q no s := by
  conv in sAt _ _ => whnf
  obtain ⟨h₁, _, hk₁, hD, ⟨n, rfl⟩, hS⟩ := hS.freezeAt (i := 1) rfl
  simp only [List.eraseIdx] at hS
  have hda : h₁.IsList da ys.toArray := ⟨_, hD, rfl, n, rfl⟩
  repeat (walk_at "sw")
  refine callWith_K0 (hS.bs.K.keeps hS.hp.keep) (by kernel_rfl) ?_
  refine usual_spec hS (by omega) fun U us rs' s' hu hul hS => ?_
  repeat (walk_at "sw")
  refine r_lenL hS hda (by omega) fun s' t hS => ?_
  repeat (walk_at "sw")
  refine r_sliceG (i := 1) hS rfl (hS.isList (i := 2) rfl) (.int _ _) .none .none (by simp) (by omega) fun D s' hS => ?_
  rw [pick_from] at hS
  obtain ⟨h₂, _, hk₂, hD2, ⟨n2, rfl⟩, hS⟩ := hS.freezeAt (i := 1) rfl
  simp only [List.eraseIdx] at hS
  refine r_addLists hS (isList_le hda hk₂) ⟨_, hD2, rfl, n2, rfl⟩ (by simp; omega) fun X h₃ s' hk₃ hX hS => ?_
  repeat (walk_at "sw")
  refine wpAny_UnaryOp ?_
  repeat (walk_at "sw")
  refine neg_int ?_
  replace hS := hS.toks (t := s'.toks + 1)
  generalize ({ s' with toks := s'.toks + 1 } : Shared) = s'' at hS
  generalize s'.toks = tk
  refine ⟨_, _, _, _, hS, fun sl s' hS => ?_⟩
  refine r_sliceG (i := 1) hS rfl (isList_le hX hS.hp.keep) .none .none (.int _ _) (by simp) (by simp; omega) fun R s' hS => ?_
  rw [krv_pick] at hS
  repeat (walk_at "sw")
  have hnr : NatsV (ys ++ us.drop ys.length) (rs ++ rs'.drop ys.length) := (hu.drop _).append hr
  have hS' := hS.weak (i := 1) (P' := RowO (rs ++ rs'.drop ys.length)) rfl fun o q => hnr.row (by simpa using q)
  simp only [List.set_cons_succ, List.set_cons_zero] at hS'
  replace hS' := ((hS'.less 2).less 2).less 2
  simp only [List.eraseIdx] at hS'
  refine h h₃ _ R _ ((hk₁.trans hk₂).trans hk₃) ?_ hS'
  have e1 := hnr.length
  simp at e1 ⊢
  omega
end
end

section
open PySem PySem.W PySem.Calls PyProof.Rows Builtin.ObjectAttr
abbrev lwF : Stmt := sAt 3 (bodOf (stm 40))
abbrev lwAl (sc da ra ca ta ba : Addr) : Al := [("script", some (.ref sc)), ("drawn", some (.ref da)), ("row", some (.ref ra)), ("calls", some (.ref ca)), ("told", some (.ref ta)), ("body", some (.ref ba))]
section
variable {prog : Program} {w : World} {os : OsState} {gl : List (Nat × GenState)} {A : Around} {R : Result → Shared → Prop} {L ra ba : Addr} {i : Nat}
set_option maxHeartbeats 8000000
theorem lw_loop {Br Bc n k : Nat} {sc da : Addr} (hv : StmtSpec prog w os 2 Br Bc n k) (hh : A.handled = none) (hd : A.depth < 800 - 10 * k) (hu : A.units < 8000 - 100 * k) (hB : Br ≤ 1000) (hB' : Bc ≤ 1000) :
    ∀ (left x : Nat) (h₀ : Heap) (l : List Cell) (s : Shared) (it ca ta : Addr) (rs : List Nat) (as : List Value) (ots : List (Option Str)) (cs : List Cll),
      St w os h₀ ((L, NsO (lwAl sc da ra ca ta ba)) :: (it, RiO x left) :: (ba, LsO as) :: l) gl s → l[i]? = some (ra, RowO rs) → rs.length ≤ 1000 →
      BodyT prog w h₀ n as ots cs → TextsA h₀ ta ots → CallsA h₀ ca cs → as.length + left ≤ 4 → ots.length + left * Br ≤ 4 * Br → cs.length + left * Bc ≤ 4 * Bc →
      (∀ h₁ s' rs' ca' ta' as' ots' cs', Le h₀ h₁ → rs'.length ≤ rs.length → BodyT prog w h₁ n as' ots' cs' → TextsA h₁ ta' ots' → CallsA h₁ ca' cs' → as'.length ≤ 4 → ots'.length ≤ 4 * Br → cs'.length ≤ 4 * Bc →
        St w os h₁ ((L, NsO (lwAl sc da ra ca' ta' ba)) :: (ba, LsO as') :: l.set i (ra, RowO rs')) gl s' → R (.ok .next) s') →
      codeAny (model prog w) A (forC lwF (.ref it) (lwEnv L)) R s := by
  intro left
  induction left with
  | zero =>
    intro x h₀ l s it ca ta rs as ots cs hS hi hz hV hT hC hl1 hl2 hl4 hR
    refine code_turn (r_nextRange hh hS (i := 1) rfl fun s' hS => ?_)
    refine hR h₀ s' rs ca ta as ots cs (Le.refl _) (Nat.le_refl _) hV hT hC (by omega) (by omega) (by omega) ?_
    have hii : l.set i (ra, RowO rs) = l := by
      obtain ⟨hl, e⟩ := List.getElem?_eq_some_iff.mp hi
      rw [← e, List.set_getElem_self]
    rw [hii]
    exact hS
  | succ m ih =>
    intro x h₀ l s it ca ta rs as ots cs hS hi hz hV hT hC hl1 hl2 hl4 hR
    refine code_turn (r_nextRange hh hS (i := 1) rfl fun s' tx hS => ?_)
    replace hS : St w os h₀ ((L, NsO (lwAl sc da ra ca ta ba)) :: (it, RiO (x + 1) m) :: (ba, LsO as) :: l) gl s' := hS
    refine wpAny_pure ?_
    refine wpAny_assign_Name (r_store hS (al' := lwAl sc da ra ca ta ba ++ [("slot", some (.int (x : Nat) tx))]) rfl fun s' hS => ?_)
    conv in forB _ => whnf
    simp only [lwAl, List.cons_append, List.nil_append] at hS
    repeat (walk_at "sy")
    refine hv _ _ _ _ _ _ _ (i + 3) ra rs _ hS hi hz hh hd hu ?_
    intro h₁ s' b y ta' ca' rs' os' ds hle hrl hb hkid hta' hol hca' hcs hft hS
    simp only [List.set_cons_succ] at hS
    refine r_unpack3 hh hS (isTuple_le hb hS.hp.keep) fun s' hS => ?_
    repeat (walk_at "sy")
    refine r_method_list hS (i := 2) rfl PySem.F.slot_list_append PySem.F.type_list_append ?_
    repeat (walk_at "sy")
    refine r_append hS (i := 2) rfl (by rw [sizeLine_eq]; omega) fun s' hS => ?_
    repeat (walk_at "sy")
    obtain ⟨vt1, hlt1, ht1⟩ := hT.le hle
    obtain ⟨vt2, hlt2, ht2⟩ := hta'
    have et1 := ht1.length
    have et2 := ht2.length
    rw [Nat.add_mul] at hl2 hl4
    refine r_addLists hS hlt1 hlt2 (by omega) fun tx h₂ s' hle₂ htx hS => ?_
    repeat (walk_at "sy")
    obtain ⟨vs1, hl1', hc1⟩ := (hC.le hle).le hle₂
    obtain ⟨vs2, hl2', hc2⟩ := hca'.le hle₂
    have e1 := hc1.length
    have e2 := hc2.length
    refine r_addLists hS hl1' hl2' (by omega) fun cx h₃ s' hle₃ hcx hS => ?_
    repeat (walk_at "sy")
    have hkk := (hle.trans hle₂).trans hle₃
    have k2 := hle₂.trans hle₃
    have hS' := hS.weak (i := 0) (P' := NsO (lwAl sc da ra cx tx ba)) rfl fun o q => NsO.weak q fun y' v' e => getV_app (a := lwAl sc da ra cx tx ba) (b := [("slot", some _), ("node", some (.ref y)), ("more", some (.ref ta')), ("inner", some (.ref ca'))]) e
    have hb1 : BodyT prog w h₃ n [.ref y] os' ds := by
      have := BodyT.cons (hkid.le k2) (hft.le k2) .nil
      simpa using this
    refine ih (x + 1) h₃ (l.set i (ra, RowO rs')) s' it cx tx rs' (as ++ [Value.ref y]) (ots ++ os') (cs ++ ds) hS' (set_at hi) (by omega) (hb1.append (hV.le hkk)) ⟨_, isList_le htx hle₃, (ht1.append ht2).le⟩
      ⟨_, hcx, (hc2.le hle₃).append (hc1.le hle₃)⟩ (by simp; omega) (by simp; omega) (by simp; omega) ?_
    intro h₄ s'' rs'' ca'' ta'' as'' ots'' cs'' q1 q2 q3 q4 q5 q6 q7 q8 hS
    rw [set_set'] at hS
    exact hR h₄ s'' rs'' ca'' ta'' as'' ots'' cs'' (hkk.trans q1) (by omega) q3 q4 q5 q6 q7 q8 hS
end
section
variable {prog : Program} {w : World} {os : OsState} {h₀ : Heap} {l : List Cell} {gl : List (Nat × GenState)} {s : Shared} {A : Around} {Q : Flow → Shared → Prop} {L sc da ra : Addr}
set_option maxHeartbeats 8000000
theorem law_2 {rs : List Nat} (hhA : A.handled = none) (hS : St w os h₀ ((L, NsO [("script", some (.ref sc)), ("drawn", some (.ref da)), ("row", some (.ref ra))]) :: (ra, RowO rs) :: l) gl s)
    (h : ∀ h₁ s' ca ta ba, Le h₀ h₁ → CallsA h₁ ca [] → TextsA h₁ ta [] → St w os h₁ ((L, NsO (lwAl sc da ra ca ta ba)) :: (ba, LsO []) :: (ra, RowO rs) :: l) gl s' → Q .next s') :
    wpAny (model prog w) A (exec (sAt 2 (bodOf (stm 40))) (lwEnv L)) Q no s := by
  conv in sAt _ _ => whnf
  refine PyProof.Rows.Assign_Tuple_swapped (names := [Str.ofString "body", Str.ofString "told", Str.ofString "calls"]) ?_ (by kernel_rfl) (by kernel_rfl)
  repeat (walk_at "sz")
  have hT := hS.isTuple (i := 1) rfl
  refine r_unpackItems hhA hS hT rfl fun s' hS => ?_
  repeat (walk_at "sz")
  obtain ⟨h₁, _, hk₁, hca, ⟨nc, rfl⟩, hS⟩ := hS.freezeAt (i := 2) rfl
  simp only [List.eraseIdx] at hS
  obtain ⟨h₂, _, hk₂, hta, ⟨nt, rfl⟩, hS⟩ := hS.freezeAt (i := 2) rfl
  simp only [List.eraseIdx] at hS
  replace hS := hS.less 1
  simp only [List.eraseIdx] at hS
  exact h h₂ s' _ _ _ (hk₁.trans hk₂) ⟨[], isList_le ⟨_, hca, rfl, nc, rfl⟩ hk₂, .nil⟩ ⟨[], ⟨_, hta, rfl, nt, rfl⟩, .nil⟩ hS
theorem law_3 {rs : List Nat} {ca ta ba : Addr} (hhA : A.handled = none) (hd : A.depth < 600) (hu : A.units < 6000) (hz : rs.length ≤ 1000) (hca : CallsA h₀ ca []) (hta : TextsA h₀ ta []) (hS : St w os h₀ ((L, NsO (lwAl sc da ra ca ta ba)) :: (ba, LsO []) :: (ra, RowO rs) :: l) gl s)
    (h : ∀ h₁ s' ca ta as ots cs rs', Le h₀ h₁ → BodyT prog w h₁ 14 as ots cs → TextsA h₁ ta ots → CallsA h₁ ca cs → ots.length ≤ 336 → cs.length ≤ 2016 → St w os h₁ ((L, NsO (lwAl sc da ra ca ta ba)) :: (ba, LsO as) :: (ra, RowO rs') :: l) gl s' → Q .next s') :
    wpAny (model prog w) A (exec (sAt 3 (bodOf (stm 40))) (lwEnv L)) Q no s := by
  conv in sAt _ _ => whnf
  repeat (walk_at "sz")
  refine draw_spec hS (i := 2) rfl (by omega) (by omega) (by omega) fun s' t' hS => ?_
  simp only [List.set_cons_succ, List.set_cons_zero] at hS
  have hrl2 : rs.tail.length ≤ rs.length := by simp
  generalize rs.headD 0 = r at hS
  generalize rs.tail = rs₂ at hS hrl2
  repeat (walk_at "sz")
  have hr4 : r % 4 < 4 := Nat.mod_lt _ (by decide)
  generalize r % 4 = cnt at hr4 hS
  refine r_range hS fun r s' hS => ?_
  repeat (walk_at "sz")
  refine r_iterRange (i := 1) (by omega) hS rfl fun it s' hS => ?_
  replace hS := hS.less 2
  simp only [List.eraseIdx] at hS
  have hcnt : ∀ B, (1 + cnt) * B ≤ 4 * B := fun B => Nat.mul_le_mul_right _ (by omega)
  refine lw_loop (k := 11) (i := 0) (n := 14) stmt_2 hhA (by omega) (by omega) (by decide) (by decide) (1 + cnt) 0 h₀ _ s' it _ _ rs₂ [] [] [] hS rfl (by omega) .nil hta hca (by simp; omega) (by simpa using hcnt 84) (by simpa using hcnt 504) ?_
  intro h₃ s' rs₃ ca ta as ots cs hk₃ hrl₃ hI hT hC hal htl hcl hS
  simp only [List.set_cons_succ, List.set_cons_zero] at hS
  exact h h₃ s' ca ta as ots cs rs₃ hk₃ hI hT hC (by omega) (by omega) hS
theorem law_4 {rs : List Nat} {ca ta ba : Addr} {as : List Value} {ots : List (Option Str)} {cs : List Cll} (hhA : A.handled = none) (hd : A.depth < 800) (hB : BodyT prog w h₀ 14 as ots cs) (hS : St w os h₀ ((L, NsO (lwAl sc da ra ca ta ba)) :: (ba, LsO as) :: (ra, RowO rs) :: l) gl s)
    (h : ∀ h₁ s' x xs, Le h₀ h₁ → NodeK prog w h₁ x xs → FT prog w h₁ xs 14 ots cs → St w os h₁ ((L, NsO (lwAl sc da ra ca ta ba ++ [("tree", some (.ref x))])) :: l) gl s' → Q .next s') :
    wpAny (model prog w) A (exec (sAt 4 (bodOf (stm 40))) (lwEnv L)) Q no s := by
  conv in sAt _ _ => whnf
  simp only [lwAl, List.cons_append, List.nil_append] at hS
  obtain ⟨h₁, _, hk₁, hba, ⟨nb, rfl⟩, hS⟩ := hS.freezeAt (i := 1) rfl
  simp only [List.eraseIdx] at hS
  replace hS := hS.less 1
  simp only [List.eraseIdx] at hS
  obtain ⟨xs, hki, hft⟩ := hB.ft
  repeat (walk_at "sz")
  refine r_new hS (cl_template _) (mk_template _) hhA (by omega) fun x h₂ s' hk₂ hm hS => ?_
  repeat (walk_at "sz")
  refine h h₂ _ x xs (hk₁.trans hk₂) (hm.k (by decide) rfl (by decide) (by simp; rfl) ?_ (by kernel_rfl) (by kernel_rfl)) (hft.le (hk₁.trans hk₂)) hS
  rw [show xs = xs ++ [] by simp]
  exact .cons (.list ⟨_, hk₂ _ _ hba, rfl, nb, rfl⟩ (hki.le (hk₁.trans hk₂))) .nil
end
end

section
open PySem PySem.W PySem.Calls PyProof.Rows Builtin.ObjectAttr
abbrev lwAl2 (sc da ra ca ta ba x : Addr) : Al := [("script", some (.ref sc)), ("drawn", some (.ref da)), ("row", some (.ref ra)), ("calls", some (.ref ca)), ("told", some (.ref ta)), ("body", some (.ref ba)), ("tree", some (.ref x))]
section
variable {prog : Program} {w : World} {os : OsState} {h₀ : Heap} {l : List Cell} {s : Shared} {Q : Flow → Shared → Prop} {L sc da ra ca ta ba x : Addr} {d u : Nat}
set_option maxHeartbeats 8000000
theorem law_5 {xs : List Addr} {ots : List (Option Str)} {cs : List Cll} (hd : d ≤ 400) (hu : u ≤ 1000) (nk : NodeK prog w h₀ x xs) (hf : FT prog w h₀ xs 14 ots cs) (hT : TextsA h₀ ta ots) (hz : ots.length ≤ 1000)
    (hS : St w os h₀ ((L, NsO (lwAl2 sc da ra ca ta ba x)) :: l) [] s)
    (h : ∀ h₁ s', Le h₀ h₁ → St w os h₁ ((L, NsO (lwAl2 sc da ra ca ta ba x)) :: l) [] s' → Q .next s') :
    LG prog w d u (exec (sAt 5 (bodOf (stm 40))) (lwEnv L)) Q no s := by
  conv in sAt _ _ => whnf
  have hdA : (am d u).depth < 900 := by show d < _; omega
  refine lg_If (lg_isTrue_Compare1 (lg_ownComp (x := "one") (os := os) (Rel := TextR) (kd := kdF 14 + 8) (fun _ _ _ _ _ x => TextR.le x) (by unfold kdF; omega) (by unfold kdF; omega) (by decide) (by decide) rfl (by decide) rfl (by decide) (lg_of ?_)))
  repeat (walk_at "sw")
  refine wpAny_call ?_
  obtain ⟨ds, o1, o2, a1, a2, a3, a4, a5⟩ := hf.e
  refine r_callGen (fd := fd497) (body := bodOf (stm 30)) (binds := [(Str.ofString "ast", .ref x)]) [("ast", some (.ref x))] hS (k497 _) (c497 _) (by show d < recursionLimit; simp only [recursionLimit]; omega) rfl (BindsTo.of_eq rfl) (by decide +kernel) (locs rfl) (al_cons al_nil) (fun ga gn L₂ s' hS => ?_)
  refine ⟨h₀, ga, [(ga, GenO gn), (L₂, NsO [("ast", some (.ref x))])], [(gn, .fresh (frtF L₂))], _, ots, rfl, ⟨gn, _, _, _, rfl, rfl, ⟨_, .inl rfl⟩, frt_gen nk a1 a2 a3⟩, hS, by omega, fun D h₂ vs s' hk₂ hV hS => ?_⟩
  replace hS := hS.swap
  repeat (walk_at "sw")
  obtain ⟨ws, hl, hw⟩ := hT.le hk₂
  have e1 := hV.length
  have e2 := hw.length
  refine ne_lists (hS.isList (i := 1) rfl) (isList_le hl hS.hp.keep) (by omega) (by show u < cLine; simp only [cLine]; omega) (eq_texts (texts_rel hV) hw) ?_
  repeat (walk_at "sw")
  rw [if_neg Bool.false_ne_true]
  refine lg_of (wpAny_execs_nil ?_)
  replace hS := hS.less 1
  simp only [List.eraseIdx] at hS
  exact h h₂ _ hk₂ hS
end
end

section
open PySem PySem.W PySem.Calls PyProof.Rows Builtin.ObjectAttr
def gtWords : List Str := ["_", "gettext", "ngettext", "pgettext", "npgettext"].map Str.ofString
def enWords : List Str := ["_", "ngettext"].map Str.ofString
def trWords : List Str := ["tr", "_"].map Str.ofString
theorem any_same : ∀ n ∈ fourWords, gtWords.any (· == n) = enWords.any (· == n) := by decide
theorem row_same {c : Cll} (h : ∀ n, c.word = some n → n ∈ fourWords) (b : Bool) : rowOf gtWords b c = rowOf enWords b c := by
  unfold rowOf
  cases hw : c.word with
  | none => rfl
  | some n => simp only [any_same n (h n hw)]
theorem rows_same : ∀ {cs : List Cll}, (∀ c ∈ cs, ∀ n, c.word = some n → n ∈ fourWords) → ∀ b, cs.flatMap (rowOf gtWords b) = cs.flatMap (rowOf enWords b)
  | [], _, _ => rfl
  | c :: cs, h, b => by
    rw [List.flatMap_cons, List.flatMap_cons, row_same (h c (List.mem_cons_self ..)), rows_same (fun c hc => h c (List.mem_cons_of_mem _ hc))]
theorem CallsL.words {prog : Program} {w : World} {h : Heap} : ∀ {ys : List Addr} {cs : List Cll}, CallsL prog w h ys cs → ∀ c ∈ cs, ∀ n, c.word = some n → n ∈ fourWords
  | _, _, .nil, c, hc => nomatch hc
  | _, _, .cons a b, c, hc => by
    rcases List.mem_cons.mp hc with rfl | hc
    · exact a.wd
    · exact CallsL.words b c hc
theorem rowOf_len (words : List Str) (b : Bool) (c : Cll) : (rowOf words b c).length ≤ 1 := by
  unfold rowOf
  cases c.word with
  | none => simp
  | some n => dsimp only; split <;> (try split) <;> (try split) <;> simp
theorem rows_len (words : List Str) (b : Bool) : ∀ cs : List Cll, (cs.flatMap (rowOf words b)).length ≤ cs.length
  | [] => by simp
  | c :: cs => by
    have := rows_len words b cs
    have := rowOf_len words b c
    simp only [List.flatMap_cons, List.length_append, List.length_cons]
    omega
theorem lk_481 (P : Params) : (KK P).lookup 481 = some { cls := .type "tuple", data := .seq (List.toArray [.str (Str.ofString "_") 836, .str (Str.ofString "gettext") 837, .str (Str.ofString "ngettext") 838, .str (Str.ofString "pgettext") 839, .str (Str.ofString "npgettext") 840]) 0 } := by kernel_rfl
theorem gt_at {P : Params} {h : Heap} (hK : (KK P).In h) : ∃ vs, h.IsTuple 481 (List.toArray vs) ∧ StrsAre vs gtWords :=
  ⟨_, ⟨_, hK 481 _ (lk_481 P), rfl, ⟨0, rfl⟩⟩, .cons _ _ (.cons _ _ (.cons _ _ (.cons _ _ (.cons _ _ .nil))))⟩
section
variable {prog : Program} {w : World} {os : OsState} {h₀ : Heap} {l : List Cell} {s : Shared} {Q : Flow → Shared → Prop} {L sc da ra ca ta ba x : Addr} {d u : Nat}
set_option maxHeartbeats 8000000
theorem law_6 {xs : List Addr} {ots : List (Option Str)} {cs : List Cll} (hd : d ≤ 400) (hu : u ≤ 1000) (nk : NodeK prog w h₀ x xs) (hf : FT prog w h₀ xs 14 ots cs) (hC : CallsA h₀ ca cs) (hz : cs.length ≤ 4000)
    (hS : St w os h₀ ((L, NsO (lwAl2 sc da ra ca ta ba x)) :: l) [] s)
    (h : ∀ h₁ s', Le h₀ h₁ → St w os h₁ ((L, NsO (lwAl2 sc da ra ca ta ba x)) :: l) [] s' → Q .next s') :
    LG prog w d u (exec (sAt 6 (bodOf (stm 40))) (lwEnv L)) Q no s := by
  conv in sAt _ _ => whnf
  have hdA : (am d u).depth < 900 := by show d < _; omega
  refine lg_If (lg_isTrue_Compare1 (lg_ownComp (x := "one") (os := os) (Rel := RowR) (kd := kdF 14 + 8) (fun _ _ _ _ k x => RowR.le x k) (by unfold kdF; omega) (by unfold kdF; omega) (by decide) (by decide) rfl (by decide) rfl (by decide) (lg_of ?_)))
  repeat (walk_at "sw")
  refine wpAny_call ?_
  obtain ⟨ds, o1, o2, a1, a2, a3, a4, a5⟩ := hf.e
  obtain ⟨gvs, hgt, hgs⟩ := gt_at hS.bs.K
  have hsm := a5.small
  have hwd := a5.words
  refine r_callGen (fd := fd489) (body := bodOf (stm 27)) (binds := [(Str.ofString "ast", .ref x), (Str.ofString "gettext_functions", .ref 481), (Str.ofString "babel_style", .bool true)]) [("babel_style", some (.bool true)), ("gettext_functions", some (.ref 481)), ("ast", some (.ref x))] hS (k489 _) (c489 _) (by show d < recursionLimit; simp only [recursionLimit]; omega) rfl (binds_K (K := KK w.params) (T := 482) (hS.bs.K.keeps hS.hp.keep) rfl (by rfl) rfl rfl rfl) (by decide +kernel) (locs rfl) (al_cons (al_cons (al_cons al_nil))) (fun ga gn L₂ s' hS => ?_)
  refine ⟨h₀, ga, [(ga, GenO gn), (L₂, NsO [("babel_style", some (.bool true)), ("gettext_functions", some (.ref 481)), ("ast", some (.ref x))])], [(gn, .fresh (exF L₂))], _, cs.flatMap (rowOf gtWords true), rfl, ⟨gn, _, _, _, rfl, rfl, ⟨_, .inl rfl⟩, ex_gen nk a1 a4 a5 ⟨false, 481, gvs, rfl, hgt, hgs⟩ (fun e => by cases e)⟩, hS, by have := rows_len gtWords true cs; omega, fun D h₂ vs s' hk₂ hV hS => ?_⟩
  replace hS := hS.swap
  repeat (walk_at "sw")
  obtain ⟨h₃, _, hk₃, hwl, ⟨nw, rfl⟩, hS⟩ := hS.freezeAt (i := 1) rfl
  simp only [List.eraseIdx] at hS
  refine wanted_of (plain := false) (words := enWords) hS ((hC.le hk₂).le hk₃) hsm (by omega) ⟨_, hwl, rfl, nw, rfl⟩ (.cons _ _ (.cons _ _ .nil)) rfl (by show d < _; omega) (by show u < _; omega) fun h₄ s' W ws hk₄ hW hR _ hS => ?_
  have hV' := RelL.le (Rel := RowR) (fun _ _ _ _ k x => RowR.le x k) hk₄ (RelL.le (Rel := RowR) (fun _ _ _ _ k x => RowR.le x k) hk₃ hV)
  rw [rows_same hwd] at hV'
  have e1 := hV'.length
  have e2 := hR.length
  refine ne_lists (hS.isList (i := 1) rfl) (isList_le hW hS.hp.keep) (by rw [e1, e2]; rfl) (by show u < cLine; simp only [cLine]; omega) (eq_rows hS.hp.keep (by show u + 1 + 2 < cLine; simp only [cLine]; omega) hV' hR) ?_
  repeat (walk_at "sw")
  rw [if_neg Bool.false_ne_true]
  refine lg_of (wpAny_execs_nil ?_)
  replace hS := hS.less 1
  simp only [List.eraseIdx] at hS
  exact h h₄ _ ((hk₂.trans hk₃).trans hk₄) hS
end
end

section
open PySem PySem.W PySem.Calls PyProof.Rows Builtin.ObjectAttr
abbrev lwAl3 (sc da ra ca ta ba x wl : Addr) : Al := [("script", some (.ref sc)), ("drawn", some (.ref da)), ("row", some (.ref ra)), ("calls", some (.ref ca)), ("told", some (.ref ta)), ("body", some (.ref ba)), ("tree", some (.ref x)), ("words", some (.ref wl))]
section
variable {prog : Program} {w : World} {os : OsState} {h₀ : Heap} {l : List Cell} {gl : List (Nat × GenState)} {s : Shared} {A : Around} {Q : Flow → Shared → Prop} {L sc da ra ca ta ba x wl : Addr} {d u : Nat}
set_option maxHeartbeats 8000000
theorem law_7 (hS : St w os h₀ ((L, NsO (lwAl2 sc da ra ca ta ba x)) :: l) gl s)
    (h : ∀ h₁ s' wl wvs, Le h₀ h₁ → h₁.IsList wl (List.toArray wvs) → StrsAre wvs trWords → St w os h₁ ((L, NsO (lwAl3 sc da ra ca ta ba x wl)) :: l) gl s' → Q .next s') :
    wpAny (model prog w) A (exec (sAt 7 (bodOf (stm 40))) (lwEnv L)) Q no s := by
  conv in sAt _ _ => whnf
  repeat (walk_at "sw")
  obtain ⟨h₁, _, hk₁, hw, ⟨n, rfl⟩, hS⟩ := hS.freezeAt (i := 1) rfl
  simp only [List.eraseIdx] at hS
  exact h h₁ _ _ _ hk₁ ⟨_, hw, rfl, n, rfl⟩ (.cons _ _ (.cons _ _ .nil)) hS
theorem law_8 {xs : List Addr} {ots : List (Option Str)} {cs : List Cll} {wvs : List Value} (hd : d ≤ 400) (hu : u ≤ 1000) (hm4 : Mod4 h₀) (hwl : h₀.IsList wl wvs.toArray) (hws : StrsAre wvs trWords) (nk : NodeK prog w h₀ x xs) (hf : FT prog w h₀ xs 14 ots cs) (hC : CallsA h₀ ca cs) (hz : cs.length ≤ 4000)
    (hS : St w os h₀ ((L, NsO (lwAl3 sc da ra ca ta ba x wl)) :: l) [] s)
    (h : ∀ h₁ s', Le h₀ h₁ → St w os h₁ ((L, NsO (lwAl3 sc da ra ca ta ba x wl)) :: l) [] s' → Q (.ret (.bool true)) s') :
    LG prog w d u (exec (sAt 8 (bodOf (stm 40))) (lwEnv L)) Q no s := by
  conv in sAt _ _ => whnf
  have hdA : (am d u).depth < 900 := by show d < _; omega
  refine lg_Return (lg_Compare1 (lg_ownComp (x := "one") (os := os) (Rel := RowR) (kd := kdF 14 + 8) (fun _ _ _ _ k x => RowR.le x k) (by unfold kdF; omega) (by unfold kdF; omega) (by decide) (by decide) rfl (by decide) rfl (by decide) (lg_of ?_)))
  repeat (walk_at "sw")
  refine wpAny_call ?_
  obtain ⟨ds, o1, o2, a1, a2, a3, a4, a5⟩ := hf.e
  have hsm := a5.small
  refine r_callGen (fd := fd489) (body := bodOf (stm 27)) (binds := [(Str.ofString "ast", .ref x), (Str.ofString "gettext_functions", .ref wl), (Str.ofString "babel_style", .bool false)]) [("babel_style", some (.bool false)), ("gettext_functions", some (.ref wl)), ("ast", some (.ref x))] hS (k489 _) (c489 _) (by show d < recursionLimit; simp only [recursionLimit]; omega) rfl (binds_K (K := KK w.params) (T := 482) (hS.bs.K.keeps hS.hp.keep) rfl (by rfl) rfl rfl rfl) (by decide +kernel) (locs rfl) (al_cons (al_cons (al_cons al_nil))) (fun ga gn L₂ s' hS => ?_)
  refine ⟨h₀, ga, [(ga, GenO gn), (L₂, NsO [("babel_style", some (.bool false)), ("gettext_functions", some (.ref wl)), ("ast", some (.ref x))])], [(gn, .fresh (exF L₂))], _, cs.flatMap (rowOf trWords false), rfl, ⟨gn, _, _, _, rfl, rfl, ⟨_, .inl rfl⟩, ex_gen nk a1 a4 a5 ⟨true, wl, wvs, rfl, hwl, hws⟩ (fun _ => hm4)⟩, hS, by have := rows_len trWords false cs; omega, fun D h₂ vs s' hk₂ hV hS => ?_⟩
  replace hS := hS.swap
  repeat (walk_at "sw")
  refine wanted_of (plain := true) (words := trWords) hS (hC.le hk₂) hsm (by omega) (isList_le hwl hk₂) hws rfl (by show d < _; omega) (by show u < _; omega) fun h₄ s' W ws hk₄ hW hR _ hS => ?_
  have hV' := RelL.le (Rel := RowR) (fun _ _ _ _ k x => RowR.le x k) hk₄ hV
  have e1 := hV'.length
  have e2 := hR.length
  refine eq_lists (hS.isList (i := 1) rfl) (isList_le hW hS.hp.keep) (by rw [e1, e2]; rfl) (by show u < cLine; simp only [cLine]; omega) (eq_rows hS.hp.keep (by show u + 1 + 2 < cLine; simp only [cLine]; omega) hV' hR) ?_
  replace hS := hS.less 1
  simp only [List.eraseIdx] at hS
  exact h h₄ _ (hk₂.trans hk₄) hS
end
end

section
open PySem PySem.W PySem.Calls PyProof.Rows Builtin.ObjectAttr
section
variable {prog : Program} {w : World} {os : OsState} {h₀ : Heap} {l : List Cell} {gl : List (Nat × GenState)} {s : Shared} {d u : Nat}
theorem cg_callDef {f : Addr} {fd : FuncData} {oc : Value} {od : Option Addr} {osl : Array (Option Value)} {body : List Stmt} {args : Args} {binds : List (Str × Value)} {R : Result → Shared → Prop} (al : Al)
    (hS : St w os h₀ l gl s) (hK : (KK w.params).lookup f = some ⟨oc, od, .func fd, osl⟩) (hcd : codeIn (KK w.params) fd.code fd.qualname = true) (hroom : d < recursionLimit) (hbody : fd.body = .stmts body)
    (hbind : BindsTo s fd args binds) (hcell : ∀ x ∈ fd.scope.names, x.2 ≠ .cell) (hloc : ∀ x ∈ binds, fd.scope.names.lookup x.1 = some .local) (hal : ∀ y, binds.reverse.lookup y = getV al y)
    (h : ∀ L s', St w os h₀ ((L, NsO al) :: l) gl s' → LG prog w (d + 1) (u + 3) (execs body (callEnv fd L f)) (fun fl s'' => R (.ok (.ret (match fl with | .ret v => v | _ => .none))) s'') no s')
    (hco : fd.scope.isCoroutine = false := by rfl) (hgen : fd.scope.isGenerator = false := by rfl) (hk : fd.scope.kind = .function := by rfl) : CG prog w d u (.call (.ref f) args) R s := by
  have hfunc : ∀ L s', St w os h₀ ((L, NsO al) :: l) gl s' → CG prog w d u (.func body (callEnv fd L f)) R s' := fun L s' hS' => by
    refine cg_tree ?_
    show LG prog w (d + 1) (u + 3) (do point; match ← (execs body (callEnv fd L f)).onRaise (leaving (callEnv fd L f)) with | .ret v => ret v | _ => ret .none) _ _ s'
    refine lg_mono (E := no) (Q := fun fin s'' => match fin with | .done fl => R (.ok fl) s'' | .again c' => c'.quiet = true ∧ CG prog w d u c' R s'') (lg_bind (lg_of (wpAny_point (lg_bind (lg_onRaise (lg_mono (h L s' hS') (fun fl s'' q => ?_) fun _ _ x => x)))))) (fun _ _ x => x) fun _ _ x => x.elim
    cases fl <;> exact lg_pure q
  refine cg_tree ?_
  show LG prog w (d + 0) (u + 1) (callAny (.ref f) args) _ _ s
  have hroom' : (am (d + 0) (u + 1)).depth < recursionLimit := hroom
  refine lg_mono (E := no) (Q := fun fin s' => match fin with | .done fl => R (.ok fl) s' | .again c' => c'.quiet = true ∧ CG prog w d u c' R s') (lg_of ?_) (fun _ _ x => x) fun _ _ x => x.elim
  have ho := hS.old (hS.bs.K _ _ hK)
  have hlim : s.heap.NoLimit := hS.bs.lim.keeps hS.hp.keep
  simp only [callAny]
  refine wpAny_bind (wpAny_load ho ?_)
  obtain ⟨c, oc', vs, tq, hc, hoc, hdc, hq⟩ := codeRec_of (hS.bs.K.keeps hS.hp.keep) hcd
  simp only [callFunction, hco, hgen, hbody, hc]
  refine wpAny_bind (m := field (.ref c) 1) (wpAny_field hoc hdc hq (wpAny_bind (wpAny_pure ?_)))
  refine wpAny_bind (hbind _ _ _ _ ?_)
  refine wpAny_bind (wpAny_newFunctionEnv hcell hloc (fun h₂ hn hsb => ?_) hk)
  refine wpAny_bind (wpAny_enterFrame (hlim.fresh _ hsb) hroom' (wpAny_pure ⟨rfl, ?_⟩))
  obtain ⟨o, ho', hP⟩ := ns_cell (al := al) hn (fun y v q => (hal y).trans q)
  have hk₂ : Le s.heap h₂ := fun b o e => hsb.extBut b o (Nat.ne_of_lt (Heap.lt_size e)) (Heap.get?_push_of_some _ e)
  rw [← hc]
  exact hfunc _ _ (hS.more (s' := { s with heap := h₂, toks := s.toks + binds.length }) hk₂ (fresh_none _ (Nat.le_refl _)) ho' hP rfl rfl)
theorem law_body : bodOf (stm 40) = [sAt 0 (bodOf (stm 40)), sAt 1 (bodOf (stm 40)), sAt 2 (bodOf (stm 40)), sAt 3 (bodOf (stm 40)), sAt 4 (bodOf (stm 40)), sAt 5 (bodOf (stm 40)), sAt 6 (bodOf (stm 40)), sAt 7 (bodOf (stm 40)), sAt 8 (bodOf (stm 40))] := by kernel_rfl
theorem execs_law (env : Env) : execs (bodOf (stm 40)) env = execs [sAt 0 (bodOf (stm 40)), sAt 1 (bodOf (stm 40)), sAt 2 (bodOf (stm 40)), sAt 3 (bodOf (stm 40)), sAt 4 (bodOf (stm 40)), sAt 5 (bodOf (stm 40)), sAt 6 (bodOf (stm 40)), sAt 7 (bodOf (stm 40)), sAt 8 (bodOf (stm 40))] env := congrArg (fun b => execs b env) law_body
theorem law_all {sc : Addr} {vs : List Value} {ns : List Int} {Q : Value → Shared → Prop} (hd : d ≤ 390) (hu : u ≤ 900) (hS : St w os h₀ [] [] s) (hsc : h₀.IsList sc vs.toArray) (hi : IntsAre vs ns) (hz : vs.length ≤ 1000) (hm4 : Mod4 h₀)
    (h : ∀ h₁ l s', Le h₀ h₁ → St w os h₁ l [] s' → Q (.bool true) s') : LG prog w d u (PySem.call (.ref 554) [.ref sc]) Q no s := by
  refine lg_runValue (cg_callDef (fd := fd554) (body := bodOf (stm 40)) [("script", some (.ref sc))] hS (k554 _) (c554 _) (by simp only [recursionLimit]; omega) rfl (BindsTo.of_eq rfl) (by decide +kernel) (locs rfl) (al_cons al_nil) fun L s' hS => ?_)
  rw [execs_law]
  have hdA : (am (d + 1) (u + 3)).depth < 600 := by show d + 1 < _; omega
  have huA : (am (d + 1) (u + 3)).units < 6000 := by show u + 3 < _; omega
  refine lg_cons (lg_of (law_0 rfl hS hsc hi hz fun h₁ s' da ys rs k₁ hr hyl hS => ?_))
  refine lg_cons (lg_of (law_1 rfl (by omega) hS hr hyl fun h₂ s' ra rs k₂ hrl hS => ?_))
  refine lg_cons (lg_of (law_2 rfl hS fun h₃ s' ca ta ba k₃ hca hta hS => ?_))
  refine lg_cons (lg_of (law_3 rfl hdA huA (by omega) hca hta hS fun h₄ s' ca ta as ots cs rs' k₄ hB hT hC hol hcl hS => ?_))
  refine lg_cons (lg_of (law_4 rfl (by omega) hB hS fun h₅ s' x xs k₅ nk hf hS => ?_))
  refine lg_cons (law_5 (by omega) (by omega) nk hf (hT.le k₅) (by omega) hS fun h₆ s' k₆ hS => ?_)
  refine lg_cons (law_6 (by omega) (by omega) (nk.le k₆) (hf.le k₆) ((hC.le k₅).le k₆) (by omega) hS fun h₇ s' k₇ hS => ?_)
  refine lg_cons (lg_of (law_7 hS fun h₈ s' wl wvs k₈ hw hws hS => ?_))
  have k58 := (k₆.trans k₇).trans k₈
  have k08 := ((((k₁.trans k₂).trans k₃).trans k₄).trans k₅).trans k58
  refine lg_cons (law_8 (by omega) (by omega) (hm4.le k08) hw hws (nk.le k58) (hf.le k58) ((hC.le k₅).le k58) (by omega) hS fun h₉ s' k₉ hS => ?_)
  exact h h₉ _ _ (k08.trans k₉) hS
-- from the heap as the top left it
theorem law_good {vs : List Value} {ns : List Int} {Q E : Value → Shared → Prop} {s : Shared} (hd : d ≤ 390) (hu : u ≤ 900) (hK : (KK w.params).In s.heap) (h4 : s.heap.get? 484 = some (X.tableObj #[])) (hl : s.heap.NoLimit) (hg : ∃ mg, s.heap.Ns mainGlobals mg)
    (hb : ∃ mb, s.heap.Ns builtinsNs mb ∧ ∀ x : Str, x ≠ "__name__" → mb x = bootBuiltins x) (hm4 : Mod4 s.heap) (hgens : s.gens = #[]) (hsc : s.heap.IsList 555 vs.toArray) (hi : IntsAre vs ns) (hz : vs.length ≤ 1000)
    (h : ∀ s', OldK s.heap s'.heap → s'.os = s.os → AllBare s'.gens → Q (.bool true) s') : LG prog w d u (PySem.call (.ref 554) [.ref 555]) Q E s := by
  have up : ∀ b o, b ≠ 484 → s.heap.get? b = some o → (hideAll s.heap [484]).get? b = some o := fun b o hb e => hideAll_get _ e (by simpa using hb)
  have hS : St w s.os (hideAll s.heap [484]) [] [] s := by
    refine ⟨⟨fun a o e => up _ _ ?_ (hK a o e), ?_, ?_, ?_⟩, ⟨fun b o e => of_hideAll _ e, fun c hc => ?_, by simp⟩, ⟨fun p hp => (nomatch hp), List.nodup_nil⟩, fun i x hx => by rw [hgens] at hx; simp at hx, rfl⟩
    · rintro rfl
      have : (KK w.params).lookup 484 = none := by kernel_rfl
      rw [this] at e
      cases e
    · obtain ⟨mc, hn, hz⟩ := hl
      exact ⟨mc, hn.at' fun o e => up _ _ (by decide) e, hz⟩
    · obtain ⟨mg, hn⟩ := hg
      exact ⟨mg, hn.at' fun o e => up _ _ (by decide) e⟩
    · obtain ⟨mb, hn, hz⟩ := hb
      exact ⟨mb, hn.at' fun o e => up _ _ (by decide) e, hz⟩
    · rw [List.mem_singleton.mp hc]
      exact ⟨_, h4, ⟨[], rfl, trivial⟩, hideAll_none _ (List.mem_singleton.mpr rfl)⟩
  refine lg_mono (E := no) (law_all hd hu hS ?_ hi hz ?_ fun h₁ l s' k hS' => ?_) (fun _ _ x => x) fun _ _ x => x.elim
  · obtain ⟨o, e, r⟩ := hsc
    exact ⟨o, up _ _ (by decide) e, r⟩
  · obtain ⟨o, e, r⟩ := hm4
    exact ⟨o, up _ _ (by decide) e, r⟩
  · obtain ⟨o4, e4, ⟨ps, rfl, _⟩, _⟩ := hS'.amb
    refine h s' ⟨fun b o e => ?_, fun b o e => ?_⟩ hS'.os fun x hx => ?_
    · by_cases hb : b = 484
      · subst hb
        rw [h4] at e
        cases e
        obtain ⟨oc, fs, _, _, _, _, _, _, _, e1, e2, e3, e5, _⟩ := lk_488 w.params
        exact .inr (.inl ⟨⟨488, oc, fs, hK _ _ e1, e2, e3, e5⟩, rfl, #[], ps.toArray, rfl, by rw [show (#[] ++ ps.toArray : Array Value) = ps.toArray by simp]; exact e4⟩)
      · exact .inl (hS'.hp.keep _ _ (k _ _ (up _ _ hb e)))
    · by_cases hb : b = 484
      · subst hb; exact ⟨_, e4⟩
      · exact ⟨_, hS'.hp.keep _ _ (k _ _ (up _ _ hb e))⟩
    · obtain ⟨i, hi, e⟩ := Array.getElem_of_mem hx
      rcases hS'.bare i x (by rw [Array.getElem?_eq_getElem hi, e]) with q | q
      · exact q
      · cases q
end
end

section
open PySem PySem.W PySem.Calls PyProof.Rows
theorem lookup_mem {α β : Type} [BEq α] [LawfulBEq α] : ∀ {l : List (α × β)} {a : α} {b : β}, l.lookup a = some b → (a, b) ∈ l
  | [], _, _, h => by cases h
  | (x, y) :: l, a, b, h => by
    rw [List.lookup_cons] at h
    split at h
    · next e => cases h; rw [eq_of_beq e]; exact List.mem_cons_self ..
    · exact List.mem_cons_of_mem _ (lookup_mem h)
theorem in_of_map {K H : Frag} {h : Heap} (X : H.In h) (e : K.map (fun p => H.lookup p.1) = K.map (fun p => some p.2)) : K.In h := fun a o q => by
  have hm : (a, o) ∈ K := lookup_mem q
  exact X a o (List.map_inj_left.mp e (a, o) hm)
theorem law_close {prog : Program} {w : World} {c : ClaimW} {cl : Str → Option Addr} {mean : ExcName → Option Value} {args : List WData} {s : Shared} {q : Program} {loose : List Str} {mean' : ExcName → Option Value} {mg mb : Str → Option Value} {vs : List Value} {ns : List Int}
    (hK : (KK w.params).In s.heap) (h4 : s.heap.get? 484 = some (X.tableObj #[])) (T : Top q loose mean' mg mb s.heap) (hgens : s.gens = #[]) (hsc : s.heap.IsList 555 vs.toArray) (hi : IntsAre vs ns) (hz : ns.length ≤ 63)
    (hr : ∀ cls, c.raises args cls = false) (hp : c.post args (.bool true) args = true) :
    LG prog w (1 + claimMargin) 4 (PySem.call (.ref 554) [.ref 555]) (fun v s' => GoodWG c cl mean args s (.ok (.ret v)) s') (fun e s' => GoodWG c cl mean args s (.error e) s') s := by
  obtain ⟨bm, ob, b1, b2, b3, b4, b5, b6⟩ := T.bmain
  have e4 : mg "__builtins__" = some (.ref 4) := mg_of hK T.g (by kernel_rfl)
  rw [e4] at b1
  cases b1
  refine law_good (by decide) (by decide) hK h4 T.nolimit ⟨mg, T.g⟩ ⟨mb, T.b, T.builtins⟩ ⟨ob, b3, b4, b5, b6⟩ hgens hsc hi (by rw [hi.length]; omega) fun s' ho hos hb => ?_
  exact ⟨.inl ⟨_, .bool true, [], rfl, hr, .bool true, hp, fun _ => ⟨List.nodup_nil, fun _ h => nomatch h⟩⟩, ho, hos, hb⟩
theorem post_of (l : OpenLaw) (a : WData) : l.row.claim.post [a] (.bool true) [a] = true := by
  simp [OpenLaw.row, RowW.claim, WTm.holds, WTm.value, WShape.has, WShape.arms, same]
end

end Mine

open PySem PySem.W PySem.Spec PySem.Calls PyProof.Rows
open Mine
namespace Mine.Top
-- the road that the head takes: the walk may lead on through the loud yields
theorem PySem.W.holds_openX {r : OpenRow} {q : Program} {loose : List Str} {Xt : Shared → Bool} {XP : (Str → Option Value) → Heap → Prop} {α : Type} {Yf : Shared → α} {Ya : World → α} {d : DefRec} {kwd : List (Str × Expr)} {N : Nat}
    (left : LeftO r.prog q loose Xt Yf Ya N)
    (hX : ∀ s, Xt s = true → XP (s.heap.nsMap mainGlobals) s.heap) (hXk : ∀ mg h h', XP mg h → (∀ b o, h.get? b = some o → h'.get? b = some o) → XP mg h')
    (hdef : defOf q r.name = some (d, kwd)) (hp : r.prog.theDef r.name = some (d.params, d.body, d.scope)) (hk : kwWritten? d.params.kwonlyargs d.params.kw_defaults = some kwd) (hRf : ∀ s, Xt s = true → RecFacts r.records s.heap) (hwr : (!r.writes || r.records.isEmpty) = true)
    (k1 : r.wellSaid = true) (ok : (chainsOk q && opensWell r.prog && (frees r.toRowW && r.within.isEmpty)) = true) (hb : r.prog.bare) (hw : r.toRowW.promised)
    (walk : WalkL q loose XP Yf Ya r.toRowW d kwd) : r.Holds := by
  refine ⟨k1, hw, open_L (r := r.toRowW) left hX hXk hdef hRf hwr ok hb hw (fun w s hg G n hn => ?_) walk⟩
  obtain rfl : n = r.name := by split at hn <;> simp_all
  exact pinned_of_view hg G hdef hp hk

set_option maxHeartbeats 8000000 in
theorem fin : _root_.PySem.Challenge.rw_ez0131_01.Holds := by
  w_on; o_law; z_head; (case hw => w_witness2)
  k_fill
  intro w s₀ s₁ mg mb G y fa o pm cd doc dV kV ho hd hcd hD hmg hg args vals as L hpre hlay hrd hwl hlo
  z_open y L KX ZH ZN ZT
  refine _root_.PySem.W.Ground.open G ?_
  intro T B D TE TW
  wrow_args hpre hlay hrd hwl hlo
  obtain ⟨hat, hsz⟩ := _root_.PySem.W.X.script_at L
  have htk := _root_.PySem.W.X.script_toks L ZT
  rw [ZN] at hat hsz
  subst hat
  x_fa T KX hmg
  refine Mine.law_close (Mine.in_of_map KX (by kernel_rfl)) (KX 484 _ (by kernel_rfl)) T hg (by assumption) (by assumption) (by omega) (fun _ => rfl) (Mine.post_of _ _)
end Mine.Top

theorem PySem.Challenge.cw_ez0131_01_holds : PySem.Challenge.rw_ez0131_01.Holds := by
  exact Mine.Top.fin
