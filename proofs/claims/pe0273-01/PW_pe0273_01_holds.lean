import PyProof.Rows.All
import Wide.All
import OpenK.AllK
import Wide.FinOn
import Lean
import PySem.Challenge.RW_pe0273_01
set_option Elab.async false
set_option maxRecDepth 100000
set_option maxHeartbeats 8000000
namespace Mine
open PySem PySem.W PyProof.Rows PySem.Spec PySem.Calls PySem.SeqAt PySem.EqBoolInt
section
abbrev pw0 : Program := PySem.Challenge.pw_pe0273_01
def passS : Stmt := .Pass ⟨0, 0, 0, 0⟩
def stA (i : Nat) : Stmt := pw0.main.body.getD i passS
def stB (i j : Nat) : Stmt := match stA i with
  | .ClassDef _ _ _ b _ _ _ _ _ _ _ => b.getD j passS
  | s => s
def fdP (s : Stmt) (qual : Str) (globals : Addr) (closure : List (Str × Addr)) (defaults kwdefaults doc pyModule : Value) (annotations : Option Addr) (code closureTuple : Value) (builtins : Addr) : FuncData := match s with
  | .FunctionDef n args b _ _ _ scope _ _ _ => ⟨n, qual, args, .stmts b, scope, globals, closure, defaults, kwdefaults, doc, pyModule, annotations, code, closureTuple, builtins⟩
  | _ => default
noncomputable def kk (P : Params) : Frag :=
  (nat_lit 2, (.mk .none none (.dict #[(.mk (PyData.keyHash P "\x69mport.loaded._sre") (.str "\x69mport.loaded._sre" 183) (.bool true)), (.mk (PyData.keyHash P "class._frozen_importlib.BuiltinImporter") (.str "class._frozen_importlib.BuiltinImporter" 185) (.ref 14)), (.mk (PyData.keyHash P "watched.\x69mport") (.str "watched.\x69mport" 206) (.ref 18)), (.mk (PyData.keyHash P "class._frozen_importlib.ModuleSpec") (.str "class._frozen_importlib.ModuleSpec" 216) (.ref 22)), (.mk (PyData.keyHash P "sys.modules.booked-epoch") (.str "sys.modules.booked-epoch" 245) (.int 3 0)), (.mk (PyData.keyHash P "\x69mport.later-laid._sre") (.str "\x69mport.later-laid._sre" 270) (.bool true)), (.mk (PyData.keyHash P "watched.library") (.str "watched.library" 272) (.ref 27)), (.mk (PyData.keyHash P "watched.library-objects") (.str "watched.library-objects" 0) (.str "\x0c" 0)), (.mk (PyData.keyHash P "watched.library-deep._sre") (.str "watched.library-deep._sre" 273) (.str "\x04\x00\x00\x0b\x04\x00\x00\x0b\x04\x00\x00\x03\x04\x00\x00\x0b\x08\x04dict\x02" 0)), (.mk (PyData.keyHash P "type.__subclasses__.Exception.0") (.str "type.__subclasses__.Exception.0" 341) (.int 76 0)), (.mk (PyData.keyHash P "type.__subclasses__.Exception.n") (.str "type.__subclasses__.Exception.n" 342) (.int 1 0))] 11) #[])) ::
  (nat_lit 3, (.mk (.type "dict") none (.dict #[(.mk (PyData.keyHash P "__name__") (.str "__name__" 165) (.str "law_pe0273_01" 723)), (.mk (PyData.keyHash P "__doc__") (.str "__doc__" 166) .none), (.mk (PyData.keyHash P "__package__") (.str "__package__" 167) .none), (.mk (PyData.keyHash P "__loader__") (.str "__loader__" 168) (.builtin "__main__.__loader__#opaque")), (.mk (PyData.keyHash P "__spec__") (.str "__spec__" 169) .none), (.mk (PyData.keyHash P "__annotations__") (.str "__annotations__" 170) (.ref 6)), (.mk (PyData.keyHash P "__builtins__") (.str "__builtins__" 171) (.ref 4)), (.mk (PyData.keyHash P "__file__") (.str "__file__" 173) (.str "/claim/cut.py" 172)), (.mk (PyData.keyHash P "__cached__") (.str "__cached__" 174) .none), (.mk (PyData.keyHash P "_sre") (.str "_sre" 275) (.ref 12)), (.mk (PyData.keyHash P "_wall") (.str "_wall" 288) (.ref 38)), (.mk (PyData.keyHash P "NannyNag") (.str "NannyNag" 344) (.ref 76)), (.mk (PyData.keyHash P "Whitespace") (.str "Whitespace" 447) (.ref 141)), (.mk (PyData.keyHash P "format_witnesses") (.str "format_witnesses" 456) (.ref 152)), (.mk (PyData.keyHash P "tspecials") (.str "tspecials" 492) (.ref 157)), (.mk (PyData.keyHash P "_name_disallowed_re") (.str "_name_disallowed_re" 518) (.ref 162)), (.mk (PyData.keyHash P "_value_disallowed_re") (.str "_value_disallowed_re" 552) (.ref 167)), (.mk (PyData.keyHash P "_formatparam") (.str "_formatparam" 562) (.ref 175)), (.mk (PyData.keyHash P "Headers") (.str "Headers" 722) (.ref 298)), (.mk (PyData.keyHash P "_law_rows") (.str "_law_rows" 745) (.ref 309)), (.mk (PyData.keyHash P "_law_read") (.str "_law_read" 765) (.ref 316)), (.mk (PyData.keyHash P "_law_told") (.str "_law_told" 774) (.ref 323)), (.mk (PyData.keyHash P "_law_columns") (.str "_law_columns" 785) (.ref 330)), (.mk (PyData.keyHash P "_law_below") (.str "_law_below" 791) (.ref 335)), (.mk (PyData.keyHash P "_law_words") (.str "_law_words" 797) (.ref 340)), (.mk (PyData.keyHash P "_law_standing") (.str "_law_standing" 803) (.ref 345)), (.mk (PyData.keyHash P "_law_due") (.str "_law_due" 809) (.ref 350)), (.mk (PyData.keyHash P "law") (.str "law" 817) (.ref 357))] 28) #[])) ::
  (nat_lit 32, (.mk (.type "tuple") none (.seq #[] 0) #[])) ::
  (nat_lit 34, (.mk (.type "tuple") none (.seq #[(.str "k" 285)] 0) #[])) ::
  (nat_lit 35, (.mk (.type "tuple") none (.seq #[] 0) #[])) ::
  (nat_lit 37, (.mk (.type "code") none (.fields #[(.str "_wall" 282), (.str "_wall" 283), (.str "/claim/cut.py" 284), (.int 2 0), (.int 1 0), (.int 0 0), (.int 0 0), (.int 3 0), (.ref 32), (.bool true), (.int 276 0), (.ref 33), .none, (.ref 34), (.ref 35), (.ref 36), (.int 286 0), (.int 2 0), (.str "/claim/cut.py" 287)]) #[])) ::
  (nat_lit 38, (.mk (.type "function") none (.func (fdP (stA 1) "_wall" 3 [] .none .none .none (.str "__main__" 164) none (.ref 37) .none 0)) #[])) ::
  (nat_lit 39, (.mk (.type "tuple") none (.seq #[(.type "Exception")] 0) #[])) ::
  (nat_lit 46, (.mk (.type "tuple") none (.seq #[] 0) #[])) ::
  (nat_lit 48, (.mk (.type "tuple") none (.seq #[(.str "self" 306), (.str "lineno" 307), (.str "msg" 308), (.str "line" 309)] 0) #[])) ::
  (nat_lit 49, (.mk (.type "tuple") none (.seq #[] 0) #[])) ::
  (nat_lit 51, (.mk (.type "code") none (.fields #[(.str "__init__" 303), (.str "NannyNag.__init__" 304), (.str "/claim/cut.py" 305), (.int 8 0), (.int 4 0), (.int 0 0), (.int 0 0), (.int 3 0), (.ref 46), (.bool true), (.int 276 0), (.ref 47), .none, (.ref 48), (.ref 49), (.ref 50), (.int 310 0), (.int 8 0), (.str "/claim/cut.py" 311)]) #[])) ::
  (nat_lit 52, (.mk (.type "function") none (.func (fdP (stB 3 0) "NannyNag.__init__" 3 [] .none .none .none (.str "cpy313.tabnanny" 289) none (.ref 51) .none 0)) #[])) ::
  (nat_lit 53, (.mk (.type "tuple") none (.seq #[] 0) #[])) ::
  (nat_lit 55, (.mk (.type "tuple") none (.seq #[(.str "self" 316)] 0) #[])) ::
  (nat_lit 56, (.mk (.type "tuple") none (.seq #[] 0) #[])) ::
  (nat_lit 58, (.mk (.type "code") none (.fields #[(.str "get_lineno" 313), (.str "NannyNag.get_lineno" 314), (.str "/claim/cut.py" 315), (.int 11 0), (.int 1 0), (.int 0 0), (.int 0 0), (.int 3 0), (.ref 53), (.bool true), (.int 276 0), (.ref 54), .none, (.ref 55), (.ref 56), (.ref 57), (.int 317 0), (.int 11 0), (.str "/claim/cut.py" 318)]) #[])) ::
  (nat_lit 59, (.mk (.type "function") none (.func (fdP (stB 3 1) "NannyNag.get_lineno" 3 [] .none .none .none (.str "cpy313.tabnanny" 289) none (.ref 58) .none 0)) #[])) ::
  (nat_lit 60, (.mk (.type "tuple") none (.seq #[] 0) #[])) ::
  (nat_lit 62, (.mk (.type "tuple") none (.seq #[(.str "self" 323)] 0) #[])) ::
  (nat_lit 63, (.mk (.type "tuple") none (.seq #[] 0) #[])) ::
  (nat_lit 65, (.mk (.type "code") none (.fields #[(.str "get_msg" 320), (.str "NannyNag.get_msg" 321), (.str "/claim/cut.py" 322), (.int 14 0), (.int 1 0), (.int 0 0), (.int 0 0), (.int 3 0), (.ref 60), (.bool true), (.int 276 0), (.ref 61), .none, (.ref 62), (.ref 63), (.ref 64), (.int 324 0), (.int 14 0), (.str "/claim/cut.py" 325)]) #[])) ::
  (nat_lit 66, (.mk (.type "function") none (.func (fdP (stB 3 2) "NannyNag.get_msg" 3 [] .none .none .none (.str "cpy313.tabnanny" 289) none (.ref 65) .none 0)) #[])) ::
  (nat_lit 67, (.mk (.type "tuple") none (.seq #[] 0) #[])) ::
  (nat_lit 69, (.mk (.type "tuple") none (.seq #[(.str "self" 330)] 0) #[])) ::
  (nat_lit 70, (.mk (.type "tuple") none (.seq #[] 0) #[])) ::
  (nat_lit 72, (.mk (.type "code") none (.fields #[(.str "get_line" 327), (.str "NannyNag.get_line" 328), (.str "/claim/cut.py" 329), (.int 17 0), (.int 1 0), (.int 0 0), (.int 0 0), (.int 3 0), (.ref 67), (.bool true), (.int 276 0), (.ref 68), .none, (.ref 69), (.ref 70), (.ref 71), (.int 331 0), (.int 17 0), (.str "/claim/cut.py" 332)]) #[])) ::
  (nat_lit 73, (.mk (.type "function") none (.func (fdP (stB 3 3) "NannyNag.get_line" 3 [] .none .none .none (.str "cpy313.tabnanny" 289) none (.ref 72) .none 0)) #[])) ::
  (nat_lit 74, (.mk (.type "tuple") none (.seq #[(.str "line" 334), (.str "lineno" 335), (.str "msg" 336)] 0) #[])) ::
  (nat_lit 75, (.mk (.type "dict") none (.dict #[(.mk (PyData.keyHash P "__module__") (.str "__module__" 298) (.str "cpy313.tabnanny" 289)), (.mk (PyData.keyHash P "__firstlineno__") (.str "__firstlineno__" 302) (.int 6 301)), (.mk (PyData.keyHash P "__init__") (.str "__init__" 312) (.ref 52)), (.mk (PyData.keyHash P "get_lineno") (.str "get_lineno" 319) (.ref 59)), (.mk (PyData.keyHash P "get_msg") (.str "get_msg" 326) (.ref 66)), (.mk (PyData.keyHash P "get_line") (.str "get_line" 333) (.ref 73)), (.mk (PyData.keyHash P "__static_attributes__") (.str "__static_attributes__" 337) (.ref 74)), (.mk (PyData.keyHash P "__weakref__") (.str "__weakref__" 339) (.ref 77)), (.mk (PyData.keyHash P "__doc__") (.str "__doc__" 340) .none)] 3) #[])) ::
  (nat_lit 76, (.mk (.type "type") none (.cls (ClassData.mk "NannyNag" [(.type "Exception")] [(.ref 76), (.type "Exception"), (.type "BaseException"), (.type "object")] 75 "NannyNag" true [] [] false none false)) #[(some (.ref 39)), none, (some (.str "NannyNag" 291)), (some (.str "NannyNag" 299)), (some (.builtin "Exception.__new__")), (some (.bool true))])) ::
  (nat_lit 77, (.mk (.type "getset_descriptor") none (.fields #[(.str "__weakref__" 338), (.ref 76), (.builtin "ExceptionGroup.__weakref__"), .none]) #[])) ::
  (nat_lit 90, (.mk (.type "tuple") none (.seq #[] 0) #[])) ::
  (nat_lit 92, (.mk (.type "tuple") none (.seq #[(.str "self" 365), (.str "ws" 366), (.str "S" 367), (.str "T" 368), (.str "count" 369), (.str "b" 370), (.str "n" 371), (.str "nt" 372), (.str "ch" 373)] 0) #[])) ::
  (nat_lit 93, (.mk (.type "tuple") none (.seq #[] 0) #[])) ::
  (nat_lit 95, (.mk (.type "code") none (.fields #[(.str "__init__" 362), (.str "Whitespace.__init__" 363), (.str "/claim/cut.py" 364), (.int 22 0), (.int 2 0), (.int 0 0), (.int 0 0), (.int 3 0), (.ref 90), (.bool true), (.int 276 0), (.ref 91), .none, (.ref 92), (.ref 93), (.ref 94), (.int 374 0), (.int 22 0), (.str "/claim/cut.py" 375)]) #[])) ::
  (nat_lit 96, (.mk (.type "function") none (.func (fdP (stB 4 1) "Whitespace.__init__" 3 [] .none .none .none (.str "cpy313.tabnanny" 289) none (.ref 95) .none 0)) #[])) ::
  (nat_lit 97, (.mk (.type "tuple") none (.seq #[] 0) #[])) ::
  (nat_lit 99, (.mk (.type "tuple") none (.seq #[(.str "self" 380), (.str "count" 381), (.str "trailing" 382)] 0) #[])) ::
  (nat_lit 100, (.mk (.type "tuple") none (.seq #[] 0) #[])) ::
  (nat_lit 102, (.mk (.type "code") none (.fields #[(.str "longest_run_of_spaces" 377), (.str "Whitespace.longest_run_of_spaces" 378), (.str "/claim/cut.py" 379), (.int 45 0), (.int 1 0), (.int 0 0), (.int 0 0), (.int 3 0), (.ref 97), (.bool true), (.int 276 0), (.ref 98), .none, (.ref 99), (.ref 100), (.ref 101), (.int 383 0), (.int 45 0), (.str "/claim/cut.py" 384)]) #[])) ::
  (nat_lit 103, (.mk (.type "function") none (.func (fdP (stB 4 2) "Whitespace.longest_run_of_spaces" 3 [] .none .none .none (.str "cpy313.tabnanny" 289) none (.ref 102) .none 0)) #[])) ::
  (nat_lit 104, (.mk (.type "tuple") none (.seq #[] 0) #[])) ::
  (nat_lit 106, (.mk (.type "tuple") none (.seq #[(.str "self" 389), (.str "tabsize" 390), (.str "count" 391), (.str "trailing" 392), (.str "il" 393), (.str "i" 394)] 0) #[])) ::
  (nat_lit 107, (.mk (.type "tuple") none (.seq #[] 0) #[])) ::
  (nat_lit 109, (.mk (.type "code") none (.fields #[(.str "indent_level" 386), (.str "Whitespace.indent_level" 387), (.str "/claim/cut.py" 388), (.int 49 0), (.int 2 0), (.int 0 0), (.int 0 0), (.int 3 0), (.ref 104), (.bool true), (.int 276 0), (.ref 105), .none, (.ref 106), (.ref 107), (.ref 108), (.int 395 0), (.int 49 0), (.str "/claim/cut.py" 396)]) #[])) ::
  (nat_lit 110, (.mk (.type "function") none (.func (fdP (stB 4 3) "Whitespace.indent_level" 3 [] .none .none .none (.str "cpy313.tabnanny" 289) none (.ref 109) .none 0)) #[])) ::
  (nat_lit 111, (.mk (.type "tuple") none (.seq #[] 0) #[])) ::
  (nat_lit 113, (.mk (.type "tuple") none (.seq #[(.str "self" 401), (.str "other" 402)] 0) #[])) ::
  (nat_lit 114, (.mk (.type "tuple") none (.seq #[] 0) #[])) ::
  (nat_lit 116, (.mk (.type "code") none (.fields #[(.str "equal" 398), (.str "Whitespace.equal" 399), (.str "/claim/cut.py" 400), (.int 56 0), (.int 2 0), (.int 0 0), (.int 0 0), (.int 3 0), (.ref 111), (.bool true), (.int 276 0), (.ref 112), .none, (.ref 113), (.ref 114), (.ref 115), (.int 403 0), (.int 56 0), (.str "/claim/cut.py" 404)]) #[])) ::
  (nat_lit 117, (.mk (.type "function") none (.func (fdP (stB 4 4) "Whitespace.equal" 3 [] .none .none .none (.str "cpy313.tabnanny" 289) none (.ref 116) .none 0)) #[])) ::
  (nat_lit 118, (.mk (.type "tuple") none (.seq #[] 0) #[])) ::
  (nat_lit 120, (.mk (.type "tuple") none (.seq #[(.str "self" 409), (.str "other" 410), (.str "n" 411), (.str "a" 412), (.str "ts" 413)] 0) #[])) ::
  (nat_lit 121, (.mk (.type "tuple") none (.seq #[] 0) #[])) ::
  (nat_lit 123, (.mk (.type "code") none (.fields #[(.str "not_equal_witness" 406), (.str "Whitespace.not_equal_witness" 407), (.str "/claim/cut.py" 408), (.int 59 0), (.int 2 0), (.int 0 0), (.int 0 0), (.int 3 0), (.ref 118), (.bool true), (.int 276 0), (.ref 119), .none, (.ref 120), (.ref 121), (.ref 122), (.int 414 0), (.int 59 0), (.str "/claim/cut.py" 415)]) #[])) ::
  (nat_lit 124, (.mk (.type "function") none (.func (fdP (stB 4 5) "Whitespace.not_equal_witness" 3 [] .none .none .none (.str "cpy313.tabnanny" 289) none (.ref 123) .none 0)) #[])) ::
  (nat_lit 125, (.mk (.type "tuple") none (.seq #[] 0) #[])) ::
  (nat_lit 127, (.mk (.type "tuple") none (.seq #[(.str "self" 420), (.str "other" 421), (.str "n" 422), (.str "ts" 423)] 0) #[])) ::
  (nat_lit 128, (.mk (.type "tuple") none (.seq #[] 0) #[])) ::
  (nat_lit 130, (.mk (.type "code") none (.fields #[(.str "less" 417), (.str "Whitespace.less" 418), (.str "/claim/cut.py" 419), (.int 67 0), (.int 2 0), (.int 0 0), (.int 0 0), (.int 3 0), (.ref 125), (.bool true), (.int 276 0), (.ref 126), .none, (.ref 127), (.ref 128), (.ref 129), (.int 424 0), (.int 67 0), (.str "/claim/cut.py" 425)]) #[])) ::
  (nat_lit 131, (.mk (.type "function") none (.func (fdP (stB 4 6) "Whitespace.less" 3 [] .none .none .none (.str "cpy313.tabnanny" 289) none (.ref 130) .none 0)) #[])) ::
  (nat_lit 132, (.mk (.type "tuple") none (.seq #[] 0) #[])) ::
  (nat_lit 134, (.mk (.type "tuple") none (.seq #[(.str "self" 430), (.str "other" 431)] 0) #[])) ::
  (nat_lit 135, (.mk (.type "tuple") none (.seq #[] 0) #[])) ::
  (nat_lit 137, (.mk (.type "code") none (.fields #[(.str "not_less_witness" 427), (.str "Whitespace.not_less_witness" 428), (.str "/claim/cut.py" 429), (.int 78 0), (.int 2 0), (.int 0 0), (.int 0 0), (.int 3 0), (.ref 132), (.bool true), (.int 276 0), (.ref 133), .none, (.ref 134), (.ref 135), (.ref 136), (.int 432 0), (.int 78 0), (.str "/claim/cut.py" 433)]) #[])) ::
  (nat_lit 138, (.mk (.type "function") none (.func (fdP (stB 4 7) "Whitespace.not_less_witness" 3 [] .none .none .none (.str "cpy313.tabnanny" 289) none (.ref 137) .none 0)) #[])) ::
  (nat_lit 139, (.mk (.type "tuple") none (.seq #[(.str "is_simple" 435), (.str "n" 436), (.str "norm" 437), (.str "nt" 438), (.str "raw" 439)] 0) #[])) ::
  (nat_lit 140, (.mk (.type "dict") none (.dict #[(.mk (PyData.keyHash P "__module__") (.str "__module__" 352) (.str "cpy313.tabnanny" 289)), (.mk (PyData.keyHash P "__firstlineno__") (.str "__firstlineno__" 356) (.int 19 355)), (.mk (PyData.keyHash P "S") (.str "S" 360) (.str " " 358)), (.mk (PyData.keyHash P "T") (.str "T" 361) (.str "\t" 359)), (.mk (PyData.keyHash P "__init__") (.str "__init__" 376) (.ref 96)), (.mk (PyData.keyHash P "longest_run_of_spaces") (.str "longest_run_of_spaces" 385) (.ref 103)), (.mk (PyData.keyHash P "indent_level") (.str "indent_level" 397) (.ref 110)), (.mk (PyData.keyHash P "equal") (.str "equal" 405) (.ref 117)), (.mk (PyData.keyHash P "not_equal_witness") (.str "not_equal_witness" 416) (.ref 124)), (.mk (PyData.keyHash P "less") (.str "less" 426) (.ref 131)), (.mk (PyData.keyHash P "not_less_witness") (.str "not_less_witness" 434) (.ref 138)), (.mk (PyData.keyHash P "__static_attributes__") (.str "__static_attributes__" 440) (.ref 139)), (.mk (PyData.keyHash P "__dict__") (.str "__dict__" 442) (.ref 142)), (.mk (PyData.keyHash P "__weakref__") (.str "__weakref__" 444) (.ref 143)), (.mk (PyData.keyHash P "__doc__") (.str "__doc__" 445) .none)] 4) #[])) ::
  (nat_lit 141, (.mk (.type "type") none (.cls (ClassData.mk "Whitespace" [(.type "object")] [(.ref 141), (.type "object")] 140 "Whitespace" true [] [] false none false)) #[none, none, (some (.str "Whitespace" 345)), (some (.str "Whitespace" 353)), (some (.builtin "object.__new__")), (some (.bool true))])) ::
  (nat_lit 142, (.mk (.type "getset_descriptor") none (.fields #[(.str "__dict__" 441), (.ref 141), (.builtin "function.__dict__"), (.builtin "function.__dict__#set")]) #[])) ::
  (nat_lit 143, (.mk (.type "getset_descriptor") none (.fields #[(.str "__weakref__" 443), (.ref 141), (.builtin "ExceptionGroup.__weakref__"), .none]) #[])) ::
  (nat_lit 146, (.mk (.type "tuple") none (.seq #[] 0) #[])) ::
  (nat_lit 148, (.mk (.type "tuple") none (.seq #[(.str "w" 451), (.str "firsts" 452), (.str "prefix" 453)] 0) #[])) ::
  (nat_lit 149, (.mk (.type "tuple") none (.seq #[] 0) #[])) ::
  (nat_lit 151, (.mk (.type "code") none (.fields #[(.str "format_witnesses" 448), (.str "format_witnesses" 449), (.str "/claim/cut.py" 450), (.int 80 0), (.int 1 0), (.int 0 0), (.int 0 0), (.int 3 0), (.ref 146), (.bool true), (.int 276 0), (.ref 147), .none, (.ref 148), (.ref 149), (.ref 150), (.int 454 0), (.int 80 0), (.str "/claim/cut.py" 455)]) #[])) ::
  (nat_lit 152, (.mk (.type "function") none (.func (fdP (stA 5) "format_witnesses" 3 [] .none .none .none (.str "cpy313.tabnanny" 289) none (.ref 151) .none 0)) #[])) ::
  (nat_lit 156, (.mk (.type "tuple") none (.seq #[(.int 14 0), (.int 14 0), (.int 4 0), (.int 1 0), (.int 1 0), (.int 9 0), (.int 0 0), (.int 4227896069 0), (.int 939524097 0), (.int 0 0), (.int 0 0), (.int 0 0), (.int 0 0), (.int 0 0), (.int 0 0), (.int 13 0), (.int 11 0), (.int 9 0), (.int 0 0), (.int 4227896069 0), (.int 939524097 0), (.int 0 0), (.int 0 0), (.int 0 0), (.int 0 0), (.int 0 0), (.int 0 0), (.int 1 0)] 0) #[])) ::
  (nat_lit 157, (.mk (.type "re.Pattern") none (.fields ([(.str "[ \\(\\)<>@,;:\\\\\"/\\[\\]\\?=]" 460), (.int 32 491), (.int 0 0), .none, .none, (.ref 156), (.int 0 0)]).toArray) #[])) ::
  (nat_lit 161, (.mk (.type "tuple") none (.seq #[(.int 14 0), (.int 10 0), (.int 4 0), (.int 1 0), (.int 1 0), (.int 22 0), (.int 0 0), (.int 31 0), (.int 16 0), (.int 127 0), (.int 0 0), (.int 13 0), (.int 7 0), (.int 22 0), (.int 0 0), (.int 31 0), (.int 16 0), (.int 127 0), (.int 0 0), (.int 1 0)] 0) #[])) ::
  (nat_lit 162, (.mk (.type "re.Pattern") none (.fields ([(.str "[\\x00-\\x1F\\x7F]" 494), (.int 32 517), (.int 0 0), .none, .none, (.ref 161), (.int 0 0)]).toArray) #[])) ::
  (nat_lit 166, (.mk (.type "tuple") none (.seq #[(.int 14 0), (.int 14 0), (.int 4 0), (.int 1 0), (.int 1 0), (.int 9 0), (.int 4294966783 0), (.int 0 0), (.int 0 0), (.int 2147483648 0), (.int 0 0), (.int 0 0), (.int 0 0), (.int 0 0), (.int 0 0), (.int 13 0), (.int 11 0), (.int 9 0), (.int 4294966783 0), (.int 0 0), (.int 0 0), (.int 2147483648 0), (.int 0 0), (.int 0 0), (.int 0 0), (.int 0 0), (.int 0 0), (.int 1 0)] 0) #[])) ::
  (nat_lit 167, (.mk (.type "re.Pattern") none (.fields ([(.str "[\\x00-\\x08\\x0A-\\x1F\\x7F]" 520), (.int 32 551), (.int 0 0), .none, .none, (.ref 166), (.int 0 0)]).toArray) #[])) ::
  (nat_lit 168, (.mk (.type "tuple") none (.seq #[.none, (.int 1 553)] 0) #[])) ::
  (nat_lit 169, (.mk (.type "tuple") none (.seq #[] 0) #[])) ::
  (nat_lit 171, (.mk (.type "tuple") none (.seq #[(.str "param" 557), (.str "value" 558), (.str "quote" 559)] 0) #[])) ::
  (nat_lit 172, (.mk (.type "tuple") none (.seq #[] 0) #[])) ::
  (nat_lit 174, (.mk (.type "code") none (.fields #[(.str "_formatparam" 554), (.str "_formatparam" 555), (.str "/claim/cut.py" 556), (.int 90 0), (.int 3 0), (.int 0 0), (.int 0 0), (.int 3 0), (.ref 169), (.bool true), (.int 276 0), (.ref 170), .none, (.ref 171), (.ref 172), (.ref 173), (.int 560 0), (.int 90 0), (.str "/claim/cut.py" 561)]) #[])) ::
  (nat_lit 175, (.mk (.type "function") none (.func (fdP (stA 10) "_formatparam" 3 [] (.ref 168) .none .none (.str "cpy313.wsgiref.headers" 457) none (.ref 174) .none 0)) #[])) ::
  (nat_lit 183, (.mk (.type "tuple") none (.seq #[.none] 0) #[])) ::
  (nat_lit 184, (.mk (.type "tuple") none (.seq #[] 0) #[])) ::
  (nat_lit 186, (.mk (.type "tuple") none (.seq #[(.str "self" 578), (.str "headers" 579), (.str "k" 580), (.str "v" 581)] 0) #[])) ::
  (nat_lit 187, (.mk (.type "tuple") none (.seq #[] 0) #[])) ::
  (nat_lit 189, (.mk (.type "code") none (.fields #[(.str "__init__" 575), (.str "Headers.__init__" 576), (.str "/claim/cut.py" 577), (.int 101 0), (.int 2 0), (.int 0 0), (.int 0 0), (.int 3 0), (.ref 184), (.bool true), (.int 276 0), (.ref 185), .none, (.ref 186), (.ref 187), (.ref 188), (.int 582 0), (.int 101 0), (.str "/claim/cut.py" 583)]) #[])) ::
  (nat_lit 190, (.mk (.type "function") none (.func (fdP (stB 11 0) "Headers.__init__" 3 [] (.ref 183) .none .none (.str "cpy313.wsgiref.headers" 457) none (.ref 189) .none 0)) #[])) ::
  (nat_lit 191, (.mk (.type "tuple") none (.seq #[] 0) #[])) ::
  (nat_lit 193, (.mk (.type "tuple") none (.seq #[(.str "self" 588), (.str "value" 589), (.str "name" 590), (.str "regex" 591)] 0) #[])) ::
  (nat_lit 194, (.mk (.type "tuple") none (.seq #[] 0) #[])) ::
  (nat_lit 196, (.mk (.type "code") none (.fields #[(.str "_convert_string_type" 585), (.str "Headers._convert_string_type" 586), (.str "/claim/cut.py" 587), (.int 111 0), (.int 2 0), (.int 0 0), (.int 1 0), (.int 3 0), (.ref 191), (.bool true), (.int 276 0), (.ref 192), .none, (.ref 193), (.ref 194), (.ref 195), (.int 592 0), (.int 111 0), (.str "/claim/cut.py" 593)]) #[])) ::
  (nat_lit 197, (.mk (.type "function") none (.func (fdP (stB 11 1) "Headers._convert_string_type" 3 [] .none .none .none (.str "cpy313.wsgiref.headers" 457) none (.ref 196) .none 0)) #[])) ::
  (nat_lit 198, (.mk (.type "tuple") none (.seq #[] 0) #[])) ::
  (nat_lit 200, (.mk (.type "tuple") none (.seq #[(.str "self" 598)] 0) #[])) ::
  (nat_lit 201, (.mk (.type "tuple") none (.seq #[] 0) #[])) ::
  (nat_lit 203, (.mk (.type "code") none (.fields #[(.str "__len__" 595), (.str "Headers.__len__" 596), (.str "/claim/cut.py" 597), (.int 119 0), (.int 1 0), (.int 0 0), (.int 0 0), (.int 3 0), (.ref 198), (.bool true), (.int 276 0), (.ref 199), .none, (.ref 200), (.ref 201), (.ref 202), (.int 599 0), (.int 119 0), (.str "/claim/cut.py" 600)]) #[])) ::
  (nat_lit 204, (.mk (.type "function") none (.func (fdP (stB 11 2) "Headers.__len__" 3 [] .none .none .none (.str "cpy313.wsgiref.headers" 457) none (.ref 203) .none 0)) #[])) ::
  (nat_lit 205, (.mk (.type "tuple") none (.seq #[] 0) #[])) ::
  (nat_lit 207, (.mk (.type "tuple") none (.seq #[(.str "self" 605), (.str "name" 606), (.str "val" 607)] 0) #[])) ::
  (nat_lit 208, (.mk (.type "tuple") none (.seq #[] 0) #[])) ::
  (nat_lit 210, (.mk (.type "code") none (.fields #[(.str "__setitem__" 602), (.str "Headers.__setitem__" 603), (.str "/claim/cut.py" 604), (.int 122 0), (.int 3 0), (.int 0 0), (.int 0 0), (.int 3 0), (.ref 205), (.bool true), (.int 276 0), (.ref 206), .none, (.ref 207), (.ref 208), (.ref 209), (.int 608 0), (.int 122 0), (.str "/claim/cut.py" 609)]) #[])) ::
  (nat_lit 211, (.mk (.type "function") none (.func (fdP (stB 11 3) "Headers.__setitem__" 3 [] .none .none .none (.str "cpy313.wsgiref.headers" 457) none (.ref 210) .none 0)) #[])) ::
  (nat_lit 212, (.mk (.type "tuple") none (.seq #[] 0) #[])) ::
  (nat_lit 215, (.mk (.type "code") none (.fields #[(.str "__delitem__" 611), (.str "Headers.__delitem__" 612), (.str "/claim/cut.py" 613), (.int 126 0), (.int 2 0), (.int 0 0), (.int 0 0), (.int 3 0), (.ref 212), (.bool true), (.int 276 0), (.ref 213), .none, .none, .none, (.ref 214), (.int 614 0), (.int 126 0), (.str "/claim/cut.py" 615)]) #[])) ::
  (nat_lit 216, (.mk (.type "function") none (.func (fdP (stB 11 4) "Headers.__delitem__" 3 [] .none .none .none (.str "cpy313.wsgiref.headers" 457) none (.ref 215) .none 0)) #[])) ::
  (nat_lit 217, (.mk (.type "tuple") none (.seq #[] 0) #[])) ::
  (nat_lit 219, (.mk (.type "tuple") none (.seq #[(.str "self" 620), (.str "name" 621)] 0) #[])) ::
  (nat_lit 220, (.mk (.type "tuple") none (.seq #[] 0) #[])) ::
  (nat_lit 222, (.mk (.type "code") none (.fields #[(.str "__getitem__" 617), (.str "Headers.__getitem__" 618), (.str "/claim/cut.py" 619), (.int 130 0), (.int 2 0), (.int 0 0), (.int 0 0), (.int 3 0), (.ref 217), (.bool true), (.int 276 0), (.ref 218), .none, (.ref 219), (.ref 220), (.ref 221), (.int 622 0), (.int 130 0), (.str "/claim/cut.py" 623)]) #[])) ::
  (nat_lit 223, (.mk (.type "function") none (.func (fdP (stB 11 5) "Headers.__getitem__" 3 [] .none .none .none (.str "cpy313.wsgiref.headers" 457) none (.ref 222) .none 0)) #[])) ::
  (nat_lit 224, (.mk (.type "tuple") none (.seq #[] 0) #[])) ::
  (nat_lit 226, (.mk (.type "tuple") none (.seq #[(.str "self" 628), (.str "name" 629)] 0) #[])) ::
  (nat_lit 227, (.mk (.type "tuple") none (.seq #[] 0) #[])) ::
  (nat_lit 229, (.mk (.type "code") none (.fields #[(.str "__contains__" 625), (.str "Headers.__contains__" 626), (.str "/claim/cut.py" 627), (.int 133 0), (.int 2 0), (.int 0 0), (.int 0 0), (.int 3 0), (.ref 224), (.bool true), (.int 276 0), (.ref 225), .none, (.ref 226), (.ref 227), (.ref 228), (.int 630 0), (.int 133 0), (.str "/claim/cut.py" 631)]) #[])) ::
  (nat_lit 230, (.mk (.type "function") none (.func (fdP (stB 11 6) "Headers.__contains__" 3 [] .none .none .none (.str "cpy313.wsgiref.headers" 457) none (.ref 229) .none 0)) #[])) ::
  (nat_lit 231, (.mk (.type "tuple") none (.seq #[] 0) #[])) ::
  (nat_lit 233, (.mk (.type "tuple") none (.seq #[(.str "self" 636), (.str "name" 637)] 0) #[])) ::
  (nat_lit 234, (.mk (.type "tuple") none (.seq #[] 0) #[])) ::
  (nat_lit 236, (.mk (.type "code") none (.fields #[(.str "get_all" 633), (.str "Headers.get_all" 634), (.str "/claim/cut.py" 635), (.int 136 0), (.int 2 0), (.int 0 0), (.int 0 0), (.int 3 0), (.ref 231), (.bool true), (.int 276 0), (.ref 232), .none, (.ref 233), (.ref 234), (.ref 235), (.int 638 0), (.int 136 0), (.str "/claim/cut.py" 639)]) #[])) ::
  (nat_lit 237, (.mk (.type "function") none (.func (fdP (stB 11 7) "Headers.get_all" 3 [] .none .none .none (.str "cpy313.wsgiref.headers" 457) none (.ref 236) .none 0)) #[])) ::
  (nat_lit 238, (.mk (.type "tuple") none (.seq #[.none] 0) #[])) ::
  (nat_lit 239, (.mk (.type "tuple") none (.seq #[] 0) #[])) ::
  (nat_lit 241, (.mk (.type "tuple") none (.seq #[(.str "self" 644), (.str "name" 645), (.str "default" 646), (.str "k" 647), (.str "v" 648)] 0) #[])) ::
  (nat_lit 242, (.mk (.type "tuple") none (.seq #[] 0) #[])) ::
  (nat_lit 244, (.mk (.type "code") none (.fields #[(.str "get" 641), (.str "Headers.get" 642), (.str "/claim/cut.py" 643), (.int 139 0), (.int 3 0), (.int 0 0), (.int 0 0), (.int 3 0), (.ref 239), (.bool true), (.int 276 0), (.ref 240), .none, (.ref 241), (.ref 242), (.ref 243), (.int 649 0), (.int 139 0), (.str "/claim/cut.py" 650)]) #[])) ::
  (nat_lit 245, (.mk (.type "function") none (.func (fdP (stB 11 8) "Headers.get" 3 [] (.ref 238) .none .none (.str "cpy313.wsgiref.headers" 457) none (.ref 244) .none 0)) #[])) ::
  (nat_lit 246, (.mk (.type "tuple") none (.seq #[] 0) #[])) ::
  (nat_lit 249, (.mk (.type "code") none (.fields #[(.str "keys" 652), (.str "Headers.keys" 653), (.str "/claim/cut.py" 654), (.int 146 0), (.int 1 0), (.int 0 0), (.int 0 0), (.int 3 0), (.ref 246), (.bool true), (.int 276 0), (.ref 247), .none, .none, .none, (.ref 248), (.int 655 0), (.int 146 0), (.str "/claim/cut.py" 656)]) #[])) ::
  (nat_lit 250, (.mk (.type "function") none (.func (fdP (stB 11 9) "Headers.keys" 3 [] .none .none .none (.str "cpy313.wsgiref.headers" 457) none (.ref 249) .none 0)) #[])) ::
  (nat_lit 251, (.mk (.type "tuple") none (.seq #[] 0) #[])) ::
  (nat_lit 254, (.mk (.type "code") none (.fields #[(.str "values" 658), (.str "Headers.values" 659), (.str "/claim/cut.py" 660), (.int 149 0), (.int 1 0), (.int 0 0), (.int 0 0), (.int 3 0), (.ref 251), (.bool true), (.int 276 0), (.ref 252), .none, .none, .none, (.ref 253), (.int 661 0), (.int 149 0), (.str "/claim/cut.py" 662)]) #[])) ::
  (nat_lit 255, (.mk (.type "function") none (.func (fdP (stB 11 10) "Headers.values" 3 [] .none .none .none (.str "cpy313.wsgiref.headers" 457) none (.ref 254) .none 0)) #[])) ::
  (nat_lit 256, (.mk (.type "tuple") none (.seq #[] 0) #[])) ::
  (nat_lit 258, (.mk (.type "tuple") none (.seq #[(.str "self" 667)] 0) #[])) ::
  (nat_lit 259, (.mk (.type "tuple") none (.seq #[] 0) #[])) ::
  (nat_lit 261, (.mk (.type "code") none (.fields #[(.str "items" 664), (.str "Headers.items" 665), (.str "/claim/cut.py" 666), (.int 152 0), (.int 1 0), (.int 0 0), (.int 0 0), (.int 3 0), (.ref 256), (.bool true), (.int 276 0), (.ref 257), .none, (.ref 258), (.ref 259), (.ref 260), (.int 668 0), (.int 152 0), (.str "/claim/cut.py" 669)]) #[])) ::
  (nat_lit 262, (.mk (.type "function") none (.func (fdP (stB 11 11) "Headers.items" 3 [] .none .none .none (.str "cpy313.wsgiref.headers" 457) none (.ref 261) .none 0)) #[])) ::
  (nat_lit 263, (.mk (.type "tuple") none (.seq #[] 0) #[])) ::
  (nat_lit 265, (.mk (.type "tuple") none (.seq #[(.str "self" 674)] 0) #[])) ::
  (nat_lit 266, (.mk (.type "tuple") none (.seq #[] 0) #[])) ::
  (nat_lit 268, (.mk (.type "code") none (.fields #[(.str "__repr__" 671), (.str "Headers.__repr__" 672), (.str "/claim/cut.py" 673), (.int 155 0), (.int 1 0), (.int 0 0), (.int 0 0), (.int 3 0), (.ref 263), (.bool true), (.int 276 0), (.ref 264), .none, (.ref 265), (.ref 266), (.ref 267), (.int 675 0), (.int 155 0), (.str "/claim/cut.py" 676)]) #[])) ::
  (nat_lit 269, (.mk (.type "function") none (.func (fdP (stB 11 12) "Headers.__repr__" 3 [] .none .none .none (.str "cpy313.wsgiref.headers" 457) none (.ref 268) .none 0)) #[])) ::
  (nat_lit 270, (.mk (.type "tuple") none (.seq #[] 0) #[])) ::
  (nat_lit 273, (.mk (.type "code") none (.fields #[(.str "__str__" 678), (.str "Headers.__str__" 679), (.str "/claim/cut.py" 680), (.int 158 0), (.int 1 0), (.int 0 0), (.int 0 0), (.int 3 0), (.ref 270), (.bool true), (.int 276 0), (.ref 271), .none, .none, .none, (.ref 272), (.int 681 0), (.int 158 0), (.str "/claim/cut.py" 682)]) #[])) ::
  (nat_lit 274, (.mk (.type "function") none (.func (fdP (stB 11 13) "Headers.__str__" 3 [] .none .none .none (.str "cpy313.wsgiref.headers" 457) none (.ref 273) .none 0)) #[])) ::
  (nat_lit 275, (.mk (.type "tuple") none (.seq #[] 0) #[])) ::
  (nat_lit 277, (.mk (.type "tuple") none (.seq #[(.str "self" 687)] 0) #[])) ::
  (nat_lit 278, (.mk (.type "tuple") none (.seq #[] 0) #[])) ::
  (nat_lit 280, (.mk (.type "code") none (.fields #[(.str "__bytes__" 684), (.str "Headers.__bytes__" 685), (.str "/claim/cut.py" 686), (.int 161 0), (.int 1 0), (.int 0 0), (.int 0 0), (.int 3 0), (.ref 275), (.bool true), (.int 276 0), (.ref 276), .none, (.ref 277), (.ref 278), (.ref 279), (.int 688 0), (.int 161 0), (.str "/claim/cut.py" 689)]) #[])) ::
  (nat_lit 281, (.mk (.type "function") none (.func (fdP (stB 11 14) "Headers.__bytes__" 3 [] .none .none .none (.str "cpy313.wsgiref.headers" 457) none (.ref 280) .none 0)) #[])) ::
  (nat_lit 282, (.mk (.type "tuple") none (.seq #[] 0) #[])) ::
  (nat_lit 284, (.mk (.type "tuple") none (.seq #[(.str "self" 694), (.str "name" 695), (.str "value" 696), (.str "result" 697)] 0) #[])) ::
  (nat_lit 285, (.mk (.type "tuple") none (.seq #[] 0) #[])) ::
  (nat_lit 287, (.mk (.type "code") none (.fields #[(.str "setdefault" 691), (.str "Headers.setdefault" 692), (.str "/claim/cut.py" 693), (.int 164 0), (.int 3 0), (.int 0 0), (.int 0 0), (.int 3 0), (.ref 282), (.bool true), (.int 276 0), (.ref 283), .none, (.ref 284), (.ref 285), (.ref 286), (.int 698 0), (.int 164 0), (.str "/claim/cut.py" 699)]) #[])) ::
  (nat_lit 288, (.mk (.type "function") none (.func (fdP (stB 11 15) "Headers.setdefault" 3 [] .none .none .none (.str "cpy313.wsgiref.headers" 457) none (.ref 287) .none 0)) #[])) ::
  (nat_lit 289, (.mk (.type "tuple") none (.seq #[] 0) #[])) ::
  (nat_lit 291, (.mk (.type "tuple") none (.seq #[(.str "self" 704), (.str "_name" 705), (.str "_value" 706), (.str "_params" 707), (.str "parts" 708), (.str "k" 709), (.str "v" 710)] 0) #[])) ::
  (nat_lit 292, (.mk (.type "tuple") none (.seq #[] 0) #[])) ::
  (nat_lit 294, (.mk (.type "code") none (.fields #[(.str "add_header" 701), (.str "Headers.add_header" 702), (.str "/claim/cut.py" 703), (.int 172 0), (.int 3 0), (.int 0 0), (.int 0 0), (.int 11 0), (.ref 289), (.bool true), (.int 276 0), (.ref 290), .none, (.ref 291), (.ref 292), (.ref 293), (.int 711 0), (.int 172 0), (.str "/claim/cut.py" 712)]) #[])) ::
  (nat_lit 295, (.mk (.type "function") none (.func (fdP (stB 11 16) "Headers.add_header" 3 [] .none .none .none (.str "cpy313.wsgiref.headers" 457) none (.ref 294) .none 0)) #[])) ::
  (nat_lit 296, (.mk (.type "tuple") none (.seq #[(.str "_headers" 714)] 0) #[])) ::
  (nat_lit 297, (.mk (.type "dict") none (.dict #[(.mk (PyData.keyHash P "__module__") (.str "__module__" 570) (.str "cpy313.wsgiref.headers" 457)), (.mk (PyData.keyHash P "__firstlineno__") (.str "__firstlineno__" 574) (.int 99 573)), (.mk (PyData.keyHash P "__init__") (.str "__init__" 584) (.ref 190)), (.mk (PyData.keyHash P "_convert_string_type") (.str "_convert_string_type" 594) (.ref 197)), (.mk (PyData.keyHash P "__len__") (.str "__len__" 601) (.ref 204)), (.mk (PyData.keyHash P "__setitem__") (.str "__setitem__" 610) (.ref 211)), (.mk (PyData.keyHash P "__delitem__") (.str "__delitem__" 616) (.ref 216)), (.mk (PyData.keyHash P "__getitem__") (.str "__getitem__" 624) (.ref 223)), (.mk (PyData.keyHash P "__contains__") (.str "__contains__" 632) (.ref 230)), (.mk (PyData.keyHash P "get_all") (.str "get_all" 640) (.ref 237)), (.mk (PyData.keyHash P "get") (.str "get" 651) (.ref 245)), (.mk (PyData.keyHash P "keys") (.str "keys" 657) (.ref 250)), (.mk (PyData.keyHash P "values") (.str "values" 663) (.ref 255)), (.mk (PyData.keyHash P "items") (.str "items" 670) (.ref 262)), (.mk (PyData.keyHash P "__repr__") (.str "__repr__" 677) (.ref 269)), (.mk (PyData.keyHash P "__str__") (.str "__str__" 683) (.ref 274)), (.mk (PyData.keyHash P "__bytes__") (.str "__bytes__" 690) (.ref 281)), (.mk (PyData.keyHash P "setdefault") (.str "setdefault" 700) (.ref 288)), (.mk (PyData.keyHash P "add_header") (.str "add_header" 713) (.ref 295)), (.mk (PyData.keyHash P "__static_attributes__") (.str "__static_attributes__" 715) (.ref 296)), (.mk (PyData.keyHash P "__dict__") (.str "__dict__" 717) (.ref 299)), (.mk (PyData.keyHash P "__weakref__") (.str "__weakref__" 719) (.ref 300)), (.mk (PyData.keyHash P "__doc__") (.str "__doc__" 720) .none)] 4) #[])) ::
  (nat_lit 298, (.mk (.type "type") none (.cls (ClassData.mk "Headers" [(.type "object")] [(.ref 298), (.type "object")] 297 "Headers" true [] [] false none false)) #[none, none, (some (.str "Headers" 563)), (some (.str "Headers" 571)), (some (.builtin "object.__new__")), (some (.bool true))])) ::
  (nat_lit 299, (.mk (.type "getset_descriptor") none (.fields #[(.str "__dict__" 716), (.ref 298), (.builtin "function.__dict__"), (.builtin "function.__dict__#set")]) #[])) ::
  (nat_lit 300, (.mk (.type "getset_descriptor") none (.fields #[(.str "__weakref__" 718), (.ref 298), (.builtin "ExceptionGroup.__weakref__"), .none]) #[])) ::
  (nat_lit 303, (.mk (.type "tuple") none (.seq #[] 0) #[])) ::
  (nat_lit 305, (.mk (.type "tuple") none (.seq #[(.str "script" 728), (.str "deeper" 729), (.str "crooked" 730), (.str "names" 731), (.str "opened" 732), (.str "rows" 733), (.str "place" 734), (.str "number" 735), (.str "rest" 736), (.str "move" 737), (.str "which" 738), (.str "deed" 739), (.str "word" 740), (.str "lead" 741), (.str "runs" 742)] 0) #[])) ::
  (nat_lit 306, (.mk (.type "tuple") none (.seq #[] 0) #[])) ::
  (nat_lit 308, (.mk (.type "code") none (.fields #[(.str "_law_rows" 725), (.str "_law_rows" 726), (.str "/claim/cut.py" 727), (.int 186 0), (.int 1 0), (.int 0 0), (.int 0 0), (.int 3 0), (.ref 303), (.bool true), (.int 276 0), (.ref 304), .none, (.ref 305), (.ref 306), (.ref 307), (.int 743 0), (.int 186 0), (.str "/claim/cut.py" 744)]) #[])) ::
  (nat_lit 309, (.mk (.type "function") none (.func (fdP (stA 13) "_law_rows" 3 [] .none .none .none (.str "law_pe0273_01" 723) none (.ref 308) .none 0)) #[])) ::
  (nat_lit 310, (.mk (.type "tuple") none (.seq #[] 0) #[])) ::
  (nat_lit 312, (.mk (.type "tuple") none (.seq #[(.str "rows" 749), (.str "told" 750), (.str "pile" 751), (.str "tables" 752), (.str "place" 753), (.str "lead" 754), (.str "deed" 755), (.str "name" 756), (.str "kind" 757), (.str "value" 758), (.str "here" 759), (.str "words" 760), (.str "table" 761), (.str "answer" 762)] 0) #[])) ::
  (nat_lit 313, (.mk (.type "tuple") none (.seq #[] 0) #[])) ::
  (nat_lit 315, (.mk (.type "code") none (.fields #[(.str "_law_read" 746), (.str "_law_read" 747), (.str "/claim/cut.py" 748), (.int 207 0), (.int 2 0), (.int 0 0), (.int 0 0), (.int 3 0), (.ref 310), (.bool true), (.int 276 0), (.ref 311), .none, (.ref 312), (.ref 313), (.ref 314), (.int 763 0), (.int 207 0), (.str "/claim/cut.py" 764)]) #[])) ::
  (nat_lit 316, (.mk (.type "function") none (.func (fdP (stA 14) "_law_read" 3 [] .none .none .none (.str "law_pe0273_01" 723) none (.ref 315) .none 0)) #[])) ::
  (nat_lit 317, (.mk (.type "tuple") none (.seq #[] 0) #[])) ::
  (nat_lit 319, (.mk (.type "tuple") none (.seq #[(.str "rows" 769), (.str "told" 770), (.str "nag" 771)] 0) #[])) ::
  (nat_lit 320, (.mk (.type "tuple") none (.seq #[] 0) #[])) ::
  (nat_lit 322, (.mk (.type "code") none (.fields #[(.str "_law_told" 766), (.str "_law_told" 767), (.str "/claim/cut.py" 768), (.int 232 0), (.int 1 0), (.int 0 0), (.int 0 0), (.int 3 0), (.ref 317), (.bool true), (.int 276 0), (.ref 318), .none, (.ref 319), (.ref 320), (.ref 321), (.int 772 0), (.int 232 0), (.str "/claim/cut.py" 773)]) #[])) ::
  (nat_lit 323, (.mk (.type "function") none (.func (fdP (stA 15) "_law_told" 3 [] .none .none .none (.str "law_pe0273_01" 723) none (.ref 322) .none 0)) #[])) ::
  (nat_lit 324, (.mk (.type "tuple") none (.seq #[] 0) #[])) ::
  (nat_lit 326, (.mk (.type "tuple") none (.seq #[(.str "lead" 778), (.str "columns" 779), (.str "size" 780), (.str "column" 781), (.str "sign" 782)] 0) #[])) ::
  (nat_lit 327, (.mk (.type "tuple") none (.seq #[] 0) #[])) ::
  (nat_lit 329, (.mk (.type "code") none (.fields #[(.str "_law_columns" 775), (.str "_law_columns" 776), (.str "/claim/cut.py" 777), (.int 239 0), (.int 1 0), (.int 0 0), (.int 0 0), (.int 3 0), (.ref 324), (.bool true), (.int 276 0), (.ref 325), .none, (.ref 326), (.ref 327), (.ref 328), (.int 783 0), (.int 239 0), (.str "/claim/cut.py" 784)]) #[])) ::
  (nat_lit 330, (.mk (.type "function") none (.func (fdP (stA 16) "_law_columns" 3 [] .none .none .none (.str "law_pe0273_01" 723) none (.ref 329) .none 0)) #[])) ::
  (nat_lit 331, (.mk (.type "tuple") none (.seq #[] 0) #[])) ::
  (nat_lit 334, (.mk (.type "code") none (.fields #[(.str "_law_below" 786), (.str "_law_below" 787), (.str "/claim/cut.py" 788), (.int 247 0), (.int 2 0), (.int 0 0), (.int 0 0), (.int 3 0), (.ref 331), (.bool true), (.int 276 0), (.ref 332), .none, .none, .none, (.ref 333), (.int 789 0), (.int 247 0), (.str "/claim/cut.py" 790)]) #[])) ::
  (nat_lit 335, (.mk (.type "function") none (.func (fdP (stA 17) "_law_below" 3 [] .none .none .none (.str "law_pe0273_01" 723) none (.ref 334) .none 0)) #[])) ::
  (nat_lit 336, (.mk (.type "tuple") none (.seq #[] 0) #[])) ::
  (nat_lit 339, (.mk (.type "code") none (.fields #[(.str "_law_words" 792), (.str "_law_words" 793), (.str "/claim/cut.py" 794), (.int 249 0), (.int 2 0), (.int 0 0), (.int 0 0), (.int 3 0), (.ref 336), (.bool true), (.int 276 0), (.ref 337), .none, .none, .none, (.ref 338), (.int 795 0), (.int 249 0), (.str "/claim/cut.py" 796)]) #[])) ::
  (nat_lit 340, (.mk (.type "function") none (.func (fdP (stA 18) "_law_words" 3 [] .none .none .none (.str "law_pe0273_01" 723) none (.ref 339) .none 0)) #[])) ::
  (nat_lit 341, (.mk (.type "tuple") none (.seq #[] 0) #[])) ::
  (nat_lit 344, (.mk (.type "code") none (.fields #[(.str "_law_standing" 798), (.str "_law_standing" 799), (.str "/claim/cut.py" 800), (.int 254 0), (.int 3 0), (.int 0 0), (.int 0 0), (.int 3 0), (.ref 341), (.bool true), (.int 276 0), (.ref 342), .none, .none, .none, (.ref 343), (.int 801 0), (.int 254 0), (.str "/claim/cut.py" 802)]) #[])) ::
  (nat_lit 345, (.mk (.type "function") none (.func (fdP (stA 19) "_law_standing" 3 [] .none .none .none (.str "law_pe0273_01" 723) none (.ref 344) .none 0)) #[])) ::
  (nat_lit 346, (.mk (.type "tuple") none (.seq #[] 0) #[])) ::
  (nat_lit 349, (.mk (.type "code") none (.fields #[(.str "_law_due" 804), (.str "_law_due" 805), (.str "/claim/cut.py" 806), (.int 261 0), (.int 1 0), (.int 0 0), (.int 0 0), (.int 3 0), (.ref 346), (.bool true), (.int 276 0), (.ref 347), .none, .none, .none, (.ref 348), (.int 807 0), (.int 261 0), (.str "/claim/cut.py" 808)]) #[])) ::
  (nat_lit 350, (.mk (.type "function") none (.func (fdP (stA 20) "_law_due" 3 [] .none .none .none (.str "law_pe0273_01" 723) none (.ref 349) .none 0)) #[])) ::
  (nat_lit 351, (.mk (.type "tuple") none (.seq #[] 0) #[])) ::
  (nat_lit 353, (.mk (.type "tuple") none (.seq #[(.str "script" 813), (.str "rows" 814)] 0) #[])) ::
  (nat_lit 354, (.mk (.type "tuple") none (.seq #[] 0) #[])) ::
  (nat_lit 356, (.mk (.type "code") none (.fields #[(.str "law" 810), (.str "law" 811), (.str "/claim/cut.py" 812), (.int 281 0), (.int 1 0), (.int 0 0), (.int 0 0), (.int 3 0), (.ref 351), (.bool true), (.int 276 0), (.ref 352), .none, (.ref 353), (.ref 354), (.ref 355), (.int 815 0), (.int 281 0), (.str "/claim/cut.py" 816)]) #[])) ::
  (nat_lit 357, (.mk (.type "function") none (.func (fdP (stA 21) "law" 3 [] .none .none .none (.str "law_pe0273_01" 723) none (.ref 356) .none 0)) #[])) :: []
noncomputable def kas : List Nat := [2, 3, 32, 34, 35, 37, 38, 39, 46, 48, 49, 51, 52, 53, 55, 56, 58, 59, 60, 62, 63, 65, 66, 67, 69, 70, 72, 73, 74, 75, 76, 77, 90, 92, 93, 95, 96, 97, 99, 100, 102, 103, 104, 106, 107, 109, 110, 111, 113, 114, 116, 117, 118, 120, 121, 123, 124, 125, 127, 128, 130, 131, 132, 134, 135, 137, 138, 139, 140, 141, 142, 143, 146, 148, 149, 151, 152, 156, 157, 161, 162, 166, 167, 168, 169, 171, 172, 174, 175, 183, 184, 186, 187, 189, 190, 191, 193, 194, 196, 197, 198, 200, 201, 203, 204, 205, 207, 208, 210, 211, 212, 215, 216, 217, 219, 220, 222, 223, 224, 226, 227, 229, 230, 231, 233, 234, 236, 237, 238, 239, 241, 242, 244, 245, 246, 249, 250, 251, 254, 255, 256, 258, 259, 261, 262, 263, 265, 266, 268, 269, 270, 273, 274, 275, 277, 278, 280, 281, 282, 284, 285, 287, 288, 289, 291, 292, 294, 295, 296, 297, 298, 299, 300, 303, 305, 306, 308, 309, 310, 312, 313, 315, 316, 317, 319, 320, 322, 323, 324, 326, 327, 329, 330, 331, 334, 335, 336, 339, 340, 341, 344, 345, 346, 349, 350, 351, 353, 354, 356, 357]
theorem kas_ok : ∀ P, kas = (kk P).map (·.1) := fun _ => by kernel_rfl
end
section
noncomputable def vw : Program := view pw0 [0, 1, 3, 4, 5, 7, 8, 9, 11, 13, 14, 15, 16, 17, 18, 19, 20, 21]
noncomputable def looseL : List Str := ["Whitespace", "tspecials", "_name_disallowed_re", "_value_disallowed_re", "_formatparam"]
noncomputable abbrev XtL : Shared → Bool := fun s => xlAt vw [] s && recOk (RowW.records (PySem.Challenge.rw_pe0273_01.row.toRowW)) s
noncomputable abbrev kH : Hook := kHook kk kas kas_ok
noncomputable def obs (P : Params) : List Obj := (
  (.mk (.type "dict") none (.dict #[(.mk (PyData.keyHash P "__name__") (.str "__name__" 1) (.str "builtins" 160)), (.mk (PyData.keyHash P "__doc__") (.str "__doc__" 2) (.builtin "builtins.__doc__:str#opaque")), (.mk (PyData.keyHash P "__package__") (.str "__package__" 3) (.builtin "builtins.__package__:str#opaque")), (.mk (PyData.keyHash P "__loader__") (.str "__loader__" 4) (.builtin "builtins.__loader__:shared#opaque")), (.mk (PyData.keyHash P "__spec__") (.str "__spec__" 5) (.builtin "builtins.__spec__#opaque")), (.mk (PyData.keyHash P "__build_class__") (.str "__build_class__" 6) (.builtin "__build_class__")), (.mk (PyData.keyHash P "__import__") (.str "__import__" 7) (.builtin "__import__")), (.mk (PyData.keyHash P "abs") (.str "abs" 8) (.builtin "abs")), (.mk (PyData.keyHash P "all") (.str "all" 9) (.builtin "all")), (.mk (PyData.keyHash P "any") (.str "any" 10) (.builtin "any")), (.mk (PyData.keyHash P "ascii") (.str "ascii" 11) (.builtin "ascii")), (.mk (PyData.keyHash P "bin") (.str "bin" 12) (.builtin "bin")), (.mk (PyData.keyHash P "breakpoint") (.str "breakpoint" 13) (.builtin "breakpoint")), (.mk (PyData.keyHash P "callable") (.str "callable" 14) (.builtin "callable")), (.mk (PyData.keyHash P "chr") (.str "chr" 15) (.builtin "chr")), (.mk (PyData.keyHash P "compile") (.str "compile" 16) (.builtin "compile")), (.mk (PyData.keyHash P "delattr") (.str "delattr" 17) (.builtin "delattr")), (.mk (PyData.keyHash P "dir") (.str "dir" 18) (.builtin "dir")), (.mk (PyData.keyHash P "divmod") (.str "divmod" 19) (.builtin "divmod")), (.mk (PyData.keyHash P "eval") (.str "eval" 20) (.builtin "eval")), (.mk (PyData.keyHash P "exec") (.str "exec" 21) (.builtin "exec")), (.mk (PyData.keyHash P "format") (.str "format" 22) (.builtin "format")), (.mk (PyData.keyHash P "getattr") (.str "getattr" 23) (.builtin "getattr")), (.mk (PyData.keyHash P "globals") (.str "globals" 24) (.builtin "globals")), (.mk (PyData.keyHash P "hasattr") (.str "hasattr" 25) (.builtin "hasattr")), (.mk (PyData.keyHash P "hash") (.str "hash" 26) (.builtin "hash")), (.mk (PyData.keyHash P "hex") (.str "hex" 27) (.builtin "hex")), (.mk (PyData.keyHash P "id") (.str "id" 28) (.builtin "id")), (.mk (PyData.keyHash P "input") (.str "input" 29) (.builtin "input")), (.mk (PyData.keyHash P "isinstance") (.str "isinstance" 30) (.builtin "isinstance")), (.mk (PyData.keyHash P "issubclass") (.str "issubclass" 31) (.builtin "issubclass")), (.mk (PyData.keyHash P "iter") (.str "iter" 32) (.builtin "iter")), (.mk (PyData.keyHash P "aiter") (.str "aiter" 33) (.builtin "aiter")), (.mk (PyData.keyHash P "len") (.str "len" 34) (.builtin "len")), (.mk (PyData.keyHash P "locals") (.str "locals" 35) (.builtin "locals")), (.mk (PyData.keyHash P "max") (.str "max" 36) (.builtin "max")), (.mk (PyData.keyHash P "min") (.str "min" 37) (.builtin "min")), (.mk (PyData.keyHash P "next") (.str "next" 38) (.builtin "next")), (.mk (PyData.keyHash P "anext") (.str "anext" 39) (.builtin "anext")), (.mk (PyData.keyHash P "oct") (.str "oct" 40) (.builtin "oct")), (.mk (PyData.keyHash P "ord") (.str "ord" 41) (.builtin "ord")), (.mk (PyData.keyHash P "pow") (.str "pow" 42) (.builtin "pow")), (.mk (PyData.keyHash P "print") (.str "print" 43) (.builtin "print")), (.mk (PyData.keyHash P "repr") (.str "repr" 44) (.builtin "repr")), (.mk (PyData.keyHash P "round") (.str "round" 45) (.builtin "round")), (.mk (PyData.keyHash P "setattr") (.str "setattr" 46) (.builtin "setattr")), (.mk (PyData.keyHash P "sorted") (.str "sorted" 47) (.builtin "sorted")), (.mk (PyData.keyHash P "sum") (.str "sum" 48) (.builtin "sum")), (.mk (PyData.keyHash P "vars") (.str "vars" 49) (.builtin "vars")), (.mk (PyData.keyHash P "None") (.str "None" 50) .none), (.mk (PyData.keyHash P "Ellipsis") (.str "Ellipsis" 51) .ellipsis), (.mk (PyData.keyHash P "NotImplemented") (.str "NotImplemented" 52) .notImplemented), (.mk (PyData.keyHash P "False") (.str "False" 53) (.bool false)), (.mk (PyData.keyHash P "True") (.str "True" 54) (.bool true)), (.mk (PyData.keyHash P "bool") (.str "bool" 55) (.type "bool")), (.mk (PyData.keyHash P "memoryview") (.str "memoryview" 56) (.type "memoryview")), (.mk (PyData.keyHash P "bytearray") (.str "bytearray" 57) (.type "bytearray")), (.mk (PyData.keyHash P "bytes") (.str "bytes" 58) (.type "bytes")), (.mk (PyData.keyHash P "classmethod") (.str "classmethod" 59) (.type "classmethod")), (.mk (PyData.keyHash P "complex") (.str "complex" 60) (.type "complex")), (.mk (PyData.keyHash P "dict") (.str "dict" 61) (.type "dict")), (.mk (PyData.keyHash P "enumerate") (.str "enumerate" 62) (.type "enumerate")), (.mk (PyData.keyHash P "filter") (.str "filter" 63) (.type "filter")), (.mk (PyData.keyHash P "float") (.str "float" 64) (.type "float")), (.mk (PyData.keyHash P "frozenset") (.str "frozenset" 65) (.type "frozenset")), (.mk (PyData.keyHash P "property") (.str "property" 66) (.type "property")), (.mk (PyData.keyHash P "int") (.str "int" 67) (.type "int")), (.mk (PyData.keyHash P "list") (.str "list" 68) (.type "list")), (.mk (PyData.keyHash P "map") (.str "map" 69) (.type "map")), (.mk (PyData.keyHash P "object") (.str "object" 70) (.type "object")), (.mk (PyData.keyHash P "range") (.str "range" 71) (.type "range")), (.mk (PyData.keyHash P "reversed") (.str "reversed" 72) (.type "reversed")), (.mk (PyData.keyHash P "set") (.str "set" 73) (.type "set")), (.mk (PyData.keyHash P "slice") (.str "slice" 74) (.type "slice")), (.mk (PyData.keyHash P "staticmethod") (.str "staticmethod" 75) (.type "staticmethod")), (.mk (PyData.keyHash P "str") (.str "str" 76) (.type "str")), (.mk (PyData.keyHash P "super") (.str "super" 77) (.type "super")), (.mk (PyData.keyHash P "tuple") (.str "tuple" 78) (.type "tuple")), (.mk (PyData.keyHash P "type") (.str "type" 79) (.type "type")), (.mk (PyData.keyHash P "zip") (.str "zip" 80) (.type "zip")), (.mk (PyData.keyHash P "__debug__") (.str "__debug__" 81) (.bool true)), (.mk (PyData.keyHash P "BaseException") (.str "BaseException" 82) (.type "BaseException")), (.mk (PyData.keyHash P "BaseExceptionGroup") (.str "BaseExceptionGroup" 83) (.type "BaseExceptionGroup")), (.mk (PyData.keyHash P "Exception") (.str "Exception" 84) (.type "Exception")), (.mk (PyData.keyHash P "GeneratorExit") (.str "GeneratorExit" 85) (.type "GeneratorExit")), (.mk (PyData.keyHash P "KeyboardInterrupt") (.str "KeyboardInterrupt" 86) (.type "KeyboardInterrupt")), (.mk (PyData.keyHash P "SystemExit") (.str "SystemExit" 87) (.type "SystemExit")), (.mk (PyData.keyHash P "ArithmeticError") (.str "ArithmeticError" 88) (.type "ArithmeticError")), (.mk (PyData.keyHash P "AssertionError") (.str "AssertionError" 89) (.type "AssertionError")), (.mk (PyData.keyHash P "AttributeError") (.str "AttributeError" 90) (.type "AttributeError")), (.mk (PyData.keyHash P "BufferError") (.str "BufferError" 91) (.type "BufferError")), (.mk (PyData.keyHash P "EOFError") (.str "EOFError" 92) (.type "EOFError")), (.mk (PyData.keyHash P "ImportError") (.str "ImportError" 93) (.type "ImportError")), (.mk (PyData.keyHash P "LookupError") (.str "LookupError" 94) (.type "LookupError")), (.mk (PyData.keyHash P "MemoryError") (.str "MemoryError" 95) (.type "MemoryError")), (.mk (PyData.keyHash P "NameError") (.str "NameError" 96) (.type "NameError")), (.mk (PyData.keyHash P "OSError") (.str "OSError" 97) (.type "OSError")), (.mk (PyData.keyHash P "ReferenceError") (.str "ReferenceError" 98) (.type "ReferenceError")), (.mk (PyData.keyHash P "RuntimeError") (.str "RuntimeError" 99) (.type "RuntimeError")), (.mk (PyData.keyHash P "StopAsyncIteration") (.str "StopAsyncIteration" 100) (.type "StopAsyncIteration")), (.mk (PyData.keyHash P "StopIteration") (.str "StopIteration" 101) (.type "StopIteration")), (.mk (PyData.keyHash P "SyntaxError") (.str "SyntaxError" 102) (.type "SyntaxError")), (.mk (PyData.keyHash P "SystemError") (.str "SystemError" 103) (.type "SystemError")), (.mk (PyData.keyHash P "TypeError") (.str "TypeError" 104) (.type "TypeError")), (.mk (PyData.keyHash P "ValueError") (.str "ValueError" 105) (.type "ValueError")), (.mk (PyData.keyHash P "Warning") (.str "Warning" 106) (.type "Warning")), (.mk (PyData.keyHash P "FloatingPointError") (.str "FloatingPointError" 107) (.type "FloatingPointError")), (.mk (PyData.keyHash P "OverflowError") (.str "OverflowError" 108) (.type "OverflowError")), (.mk (PyData.keyHash P "ZeroDivisionError") (.str "ZeroDivisionError" 109) (.type "ZeroDivisionError")), (.mk (PyData.keyHash P "BytesWarning") (.str "BytesWarning" 110) (.type "BytesWarning")), (.mk (PyData.keyHash P "DeprecationWarning") (.str "DeprecationWarning" 111) (.type "DeprecationWarning")), (.mk (PyData.keyHash P "EncodingWarning") (.str "EncodingWarning" 112) (.type "EncodingWarning")), (.mk (PyData.keyHash P "FutureWarning") (.str "FutureWarning" 113) (.type "FutureWarning")), (.mk (PyData.keyHash P "ImportWarning") (.str "ImportWarning" 114) (.type "ImportWarning")), (.mk (PyData.keyHash P "PendingDeprecationWarning") (.str "PendingDeprecationWarning" 115) (.type "PendingDeprecationWarning")), (.mk (PyData.keyHash P "ResourceWarning") (.str "ResourceWarning" 116) (.type "ResourceWarning")), (.mk (PyData.keyHash P "RuntimeWarning") (.str "RuntimeWarning" 117) (.type "RuntimeWarning")), (.mk (PyData.keyHash P "SyntaxWarning") (.str "SyntaxWarning" 118) (.type "SyntaxWarning")), (.mk (PyData.keyHash P "UnicodeWarning") (.str "UnicodeWarning" 119) (.type "UnicodeWarning")), (.mk (PyData.keyHash P "UserWarning") (.str "UserWarning" 120) (.type "UserWarning")), (.mk (PyData.keyHash P "BlockingIOError") (.str "BlockingIOError" 121) (.type "BlockingIOError")), (.mk (PyData.keyHash P "ChildProcessError") (.str "ChildProcessError" 122) (.type "ChildProcessError")), (.mk (PyData.keyHash P "ConnectionError") (.str "ConnectionError" 123) (.type "ConnectionError")), (.mk (PyData.keyHash P "FileExistsError") (.str "FileExistsError" 124) (.type "FileExistsError")), (.mk (PyData.keyHash P "FileNotFoundError") (.str "FileNotFoundError" 125) (.type "FileNotFoundError")), (.mk (PyData.keyHash P "InterruptedError") (.str "InterruptedError" 126) (.type "InterruptedError")), (.mk (PyData.keyHash P "IsADirectoryError") (.str "IsADirectoryError" 127) (.type "IsADirectoryError")), (.mk (PyData.keyHash P "NotADirectoryError") (.str "NotADirectoryError" 128) (.type "NotADirectoryError")), (.mk (PyData.keyHash P "PermissionError") (.str "PermissionError" 129) (.type "PermissionError")), (.mk (PyData.keyHash P "ProcessLookupError") (.str "ProcessLookupError" 130) (.type "ProcessLookupError")), (.mk (PyData.keyHash P "TimeoutError") (.str "TimeoutError" 131) (.type "TimeoutError")), (.mk (PyData.keyHash P "IndentationError") (.str "IndentationError" 132) (.type "IndentationError")), (.mk (PyData.keyHash P "_IncompleteInputError") (.str "_IncompleteInputError" 133) (.type "_IncompleteInputError")), (.mk (PyData.keyHash P "IndexError") (.str "IndexError" 134) (.type "IndexError")), (.mk (PyData.keyHash P "KeyError") (.str "KeyError" 135) (.type "KeyError")), (.mk (PyData.keyHash P "ModuleNotFoundError") (.str "ModuleNotFoundError" 136) (.type "ModuleNotFoundError")), (.mk (PyData.keyHash P "NotImplementedError") (.str "NotImplementedError" 137) (.type "NotImplementedError")), (.mk (PyData.keyHash P "PythonFinalizationError") (.str "PythonFinalizationError" 138) (.type "PythonFinalizationError")), (.mk (PyData.keyHash P "RecursionError") (.str "RecursionError" 139) (.type "RecursionError")), (.mk (PyData.keyHash P "UnboundLocalError") (.str "UnboundLocalError" 140) (.type "UnboundLocalError")), (.mk (PyData.keyHash P "UnicodeError") (.str "UnicodeError" 141) (.type "UnicodeError")), (.mk (PyData.keyHash P "BrokenPipeError") (.str "BrokenPipeError" 142) (.type "BrokenPipeError")), (.mk (PyData.keyHash P "ConnectionAbortedError") (.str "ConnectionAbortedError" 143) (.type "ConnectionAbortedError")), (.mk (PyData.keyHash P "ConnectionRefusedError") (.str "ConnectionRefusedError" 144) (.type "ConnectionRefusedError")), (.mk (PyData.keyHash P "ConnectionResetError") (.str "ConnectionResetError" 145) (.type "ConnectionResetError")), (.mk (PyData.keyHash P "TabError") (.str "TabError" 146) (.type "TabError")), (.mk (PyData.keyHash P "UnicodeDecodeError") (.str "UnicodeDecodeError" 147) (.type "UnicodeDecodeError")), (.mk (PyData.keyHash P "UnicodeEncodeError") (.str "UnicodeEncodeError" 148) (.type "UnicodeEncodeError")), (.mk (PyData.keyHash P "UnicodeTranslateError") (.str "UnicodeTranslateError" 149) (.type "UnicodeTranslateError")), (.mk (PyData.keyHash P "ExceptionGroup") (.str "ExceptionGroup" 150) (.type "ExceptionGroup")), (.mk (PyData.keyHash P "EnvironmentError") (.str "EnvironmentError" 151) (.type "OSError")), (.mk (PyData.keyHash P "IOError") (.str "IOError" 152) (.type "OSError")), (.mk (PyData.keyHash P "open") (.str "open" 153) (.builtin "open")), (.mk (PyData.keyHash P "quit") (.str "quit" 154) (.builtin "builtins.quit#opaque")), (.mk (PyData.keyHash P "exit") (.str "exit" 155) (.builtin "builtins.exit#opaque")), (.mk (PyData.keyHash P "copyright") (.str "copyright" 156) (.builtin "builtins.copyright#opaque")), (.mk (PyData.keyHash P "credits") (.str "credits" 157) (.builtin "builtins.credits#opaque")), (.mk (PyData.keyHash P "license") (.str "license" 158) (.builtin "builtins.license#opaque")), (.mk (PyData.keyHash P "help") (.str "help" 159) (.builtin "builtins.help#opaque"))] 159) #[]) ::
  (.mk (.type "dict") none (.dict #[(.mk (PyData.keyHash P "builtins") (.str "builtins" 162) (.ref 4)), (.mk (PyData.keyHash P "__main__") (.str "__main__" 163) (.ref 5)), (.mk (PyData.keyHash P "_sre") (.str "_sre" 244) (.ref 12))] 3) #[]) ::
  (.mk .none none (.dict #[(.mk (PyData.keyHash P "\x69mport.loaded._sre") (.str "\x69mport.loaded._sre" 183) (.bool true)), (.mk (PyData.keyHash P "class._frozen_importlib.BuiltinImporter") (.str "class._frozen_importlib.BuiltinImporter" 185) (.ref 14)), (.mk (PyData.keyHash P "watched.\x69mport") (.str "watched.\x69mport" 206) (.ref 18)), (.mk (PyData.keyHash P "class._frozen_importlib.ModuleSpec") (.str "class._frozen_importlib.ModuleSpec" 216) (.ref 22)), (.mk (PyData.keyHash P "sys.modules.booked-epoch") (.str "sys.modules.booked-epoch" 245) (.int 3 0)), (.mk (PyData.keyHash P "\x69mport.later-laid._sre") (.str "\x69mport.later-laid._sre" 270) (.bool true)), (.mk (PyData.keyHash P "watched.library") (.str "watched.library" 272) (.ref 27)), (.mk (PyData.keyHash P "watched.library-objects") (.str "watched.library-objects" 0) (.str "\x0c" 0)), (.mk (PyData.keyHash P "watched.library-deep._sre") (.str "watched.library-deep._sre" 273) (.str "\x04\x00\x00\x0b\x04\x00\x00\x0b\x04\x00\x00\x03\x04\x00\x00\x0b\x08\x04dict\x02" 0)), (.mk (PyData.keyHash P "type.__subclasses__.Exception.0") (.str "type.__subclasses__.Exception.0" 341) (.int 76 0)), (.mk (PyData.keyHash P "type.__subclasses__.Exception.n") (.str "type.__subclasses__.Exception.n" 342) (.int 1 0))] 11) #[]) ::
  (.mk (.type "dict") none (.dict #[(.mk (PyData.keyHash P "__name__") (.str "__name__" 165) (.str "law_pe0273_01" 723)), (.mk (PyData.keyHash P "__doc__") (.str "__doc__" 166) .none), (.mk (PyData.keyHash P "__package__") (.str "__package__" 167) .none), (.mk (PyData.keyHash P "__loader__") (.str "__loader__" 168) (.builtin "__main__.__loader__#opaque")), (.mk (PyData.keyHash P "__spec__") (.str "__spec__" 169) .none), (.mk (PyData.keyHash P "__annotations__") (.str "__annotations__" 170) (.ref 6)), (.mk (PyData.keyHash P "__builtins__") (.str "__builtins__" 171) (.ref 4)), (.mk (PyData.keyHash P "__file__") (.str "__file__" 173) (.str "/claim/cut.py" 172)), (.mk (PyData.keyHash P "__cached__") (.str "__cached__" 174) .none), (.mk (PyData.keyHash P "_sre") (.str "_sre" 275) (.ref 12)), (.mk (PyData.keyHash P "_wall") (.str "_wall" 288) (.ref 38)), (.mk (PyData.keyHash P "NannyNag") (.str "NannyNag" 344) (.ref 76)), (.mk (PyData.keyHash P "Whitespace") (.str "Whitespace" 447) (.ref 141)), (.mk (PyData.keyHash P "format_witnesses") (.str "format_witnesses" 456) (.ref 152)), (.mk (PyData.keyHash P "tspecials") (.str "tspecials" 492) (.ref 157)), (.mk (PyData.keyHash P "_name_disallowed_re") (.str "_name_disallowed_re" 518) (.ref 162)), (.mk (PyData.keyHash P "_value_disallowed_re") (.str "_value_disallowed_re" 552) (.ref 167)), (.mk (PyData.keyHash P "_formatparam") (.str "_formatparam" 562) (.ref 175)), (.mk (PyData.keyHash P "Headers") (.str "Headers" 722) (.ref 298)), (.mk (PyData.keyHash P "_law_rows") (.str "_law_rows" 745) (.ref 309)), (.mk (PyData.keyHash P "_law_read") (.str "_law_read" 765) (.ref 316)), (.mk (PyData.keyHash P "_law_told") (.str "_law_told" 774) (.ref 323)), (.mk (PyData.keyHash P "_law_columns") (.str "_law_columns" 785) (.ref 330)), (.mk (PyData.keyHash P "_law_below") (.str "_law_below" 791) (.ref 335)), (.mk (PyData.keyHash P "_law_words") (.str "_law_words" 797) (.ref 340)), (.mk (PyData.keyHash P "_law_standing") (.str "_law_standing" 803) (.ref 345)), (.mk (PyData.keyHash P "_law_due") (.str "_law_due" 809) (.ref 350)), (.mk (PyData.keyHash P "law") (.str "law" 817) (.ref 357))] 28) #[]) ::
  (.mk (.type "module") (some 0) .plain #[]) ::
  (.mk (.type "module") (some 3) .plain #[]) ::
  (.mk (.type "dict") none (.dict #[] 0) #[]) ::
  (.mk (.type "tuple") none (.seq #[] 0) #[]) ::
  (.mk .none none (.fields #[]) #[]) ::
  (.mk (.type "code") none (.fields #[(.str "<module>" 176), (.str "<module>" 177), (.str "/claim/cut.py" 178), (.int 1 0), (.int 0 0), (.int 0 0), (.int 0 0), (.int 0 0), (.ref 7), (.bool false), (.int 175 0), (.ref 8), .none, .none, .none, .none, (.int 179 0), (.int 1 0), (.str "/claim/cut.py" 180)]) #[]) ::
  (.mk (.type "frame") none .plain #[(some (.ref 9)), (some (.ref 3)), (some (.ref 3)), none, (some (.str "__main__" 164)), none, (some (.ref 0))]) ::
  (.mk (.type "dict") none (.dict #[(.mk (PyData.keyHash P "__name__") (.str "__name__" 247) (.str "_sre" 246)), (.mk (PyData.keyHash P "__doc__") (.str "__doc__" 248) .none), (.mk (PyData.keyHash P "__package__") (.str "__package__" 250) (.str "" 249)), (.mk (PyData.keyHash P "__loader__") (.str "__loader__" 251) (.builtin "off-the-table:_sre.__loader__:shared#opaque")), (.mk (PyData.keyHash P "__spec__") (.str "__spec__" 252) (.builtin "off-the-table:_sre.__spec__:shared#opaque")), (.mk (PyData.keyHash P "compile") (.str "compile" 253) (.builtin "_sre.compile")), (.mk (PyData.keyHash P "template") (.str "template" 254) (.builtin "off-the-table:_sre.template:shared#opaque")), (.mk (PyData.keyHash P "getcodesize") (.str "getcodesize" 255) (.builtin "off-the-table:_sre.getcodesize:shared#opaque")), (.mk (PyData.keyHash P "ascii_iscased") (.str "ascii_iscased" 256) (.builtin "off-the-table:_sre.ascii_iscased:shared#opaque")), (.mk (PyData.keyHash P "unicode_iscased") (.str "unicode_iscased" 257) (.builtin "off-the-table:_sre.unicode_iscased:shared#opaque")), (.mk (PyData.keyHash P "ascii_tolower") (.str "ascii_tolower" 258) (.builtin "off-the-table:_sre.ascii_tolower:shared#opaque")), (.mk (PyData.keyHash P "unicode_tolower") (.str "unicode_tolower" 259) (.builtin "off-the-table:_sre.unicode_tolower:shared#opaque")), (.mk (PyData.keyHash P "MAGIC") (.str "MAGIC" 261) (.int 20230612 260)), (.mk (PyData.keyHash P "CODESIZE") (.str "CODESIZE" 263) (.int 4 262)), (.mk (PyData.keyHash P "MAXREPEAT") (.str "MAXREPEAT" 265) (.int 4294967295 264)), (.mk (PyData.keyHash P "MAXGROUPS") (.str "MAXGROUPS" 267) (.int 1073741823 266)), (.mk (PyData.keyHash P "copyright") (.str "copyright" 269) (.str " SRE 2.2.2 Copyright (c) 1997-2002 by Secret Labs AB " 268))] 17) #[]) ::
  (.mk (.type "module") (some 11) .plain #[]) ::
  (.mk (.type "dict") none (.dict #[(.mk (PyData.keyHash P "__module__") (.str "__module__" 189) (.str "_frozen_importlib" 186)), (.mk (PyData.keyHash P "__firstlineno__") (.str "__firstlineno__" 190) (.int 971 187)), (.mk (PyData.keyHash P "__doc__") (.str "__doc__" 191) (.builtin "_frozen_importlib.BuiltinImporter.__doc__:str#opaque")), (.mk (PyData.keyHash P "_ORIGIN") (.str "_ORIGIN" 192) (.str "built-in" 188)), (.mk (PyData.keyHash P "find_spec") (.str "find_spec" 193) (.builtin "_frozen_importlib.BuiltinImporter.find_spec#opaque")), (.mk (PyData.keyHash P "create_module") (.str "create_module" 194) (.builtin "_frozen_importlib.BuiltinImporter.create_module#opaque")), (.mk (PyData.keyHash P "exec_module") (.str "exec_module" 195) (.builtin "_frozen_importlib.BuiltinImporter.exec_module#opaque")), (.mk (PyData.keyHash P "get_code") (.str "get_code" 196) (.builtin "_frozen_importlib.BuiltinImporter.get_code#opaque")), (.mk (PyData.keyHash P "get_source") (.str "get_source" 197) (.builtin "_frozen_importlib.BuiltinImporter.get_source#opaque")), (.mk (PyData.keyHash P "is_package") (.str "is_package" 198) (.builtin "_frozen_importlib.BuiltinImporter.is_package#opaque")), (.mk (PyData.keyHash P "load_module") (.str "load_module" 199) (.builtin "_frozen_importlib.BuiltinImporter.load_module#opaque")), (.mk (PyData.keyHash P "__static_attributes__") (.str "__static_attributes__" 200) (.ref 15)), (.mk (PyData.keyHash P "__dict__") (.str "__dict__" 202) (.ref 16)), (.mk (PyData.keyHash P "__weakref__") (.str "__weakref__" 204) (.ref 17))] 14) #[]) ::
  (.mk (.type "type") none (.cls (ClassData.mk "BuiltinImporter" [(.type "object")] [(.ref 14), (.type "object")] 13 "BuiltinImporter" true [] [] false none false)) #[]) ::
  (.mk (.type "tuple") none (.seq #[] 0) #[]) ::
  (.mk (.type "getset_descriptor") none (.fields #[(.str "__dict__" 201), (.ref 14), (.builtin "function.__dict__"), (.builtin "function.__dict__#set")]) #[]) ::
  (.mk (.type "getset_descriptor") none (.fields #[(.str "__weakref__" 203), (.ref 14), (.builtin "ExceptionGroup.__weakref__"), .none]) #[]) ::
  (.mk .none none (.seq #[(.int 13 0), (.str "\x06½\n__module__\x06º\x11_frozen_importlib\x06¾\x0f__firstlineno__\x04»\x00ϋ\x06¿\x07__doc__\t4_frozen_importlib.BuiltinImporter.__doc__:str#opaque\x06À\x07_ORIGIN\x06¼\x08built-in\x06Á\tfind_spec\t2_frozen_importlib.BuiltinImporter.find_spec#opaque\x06Â\x0dcreate_module\t6_frozen_importlib.BuiltinImporter.create_module#opaque\x06Ã\x0bexec_module\t4_frozen_importlib.BuiltinImporter.exec_module#opaque\x06Ä\x08get_code\t1_frozen_importlib.BuiltinImporter.get_code#opaque\x06Å\nget_source\t3_frozen_importlib.BuiltinImporter.get_source#opaque\x06Æ\nis_package\t3_frozen_importlib.BuiltinImporter.is_package#opaque\x06Ç\x0bload_module\t4_frozen_importlib.BuiltinImporter.load_module#opaque\x06È\x15__static_attributes__\x04\x00\x00\x0f\x06Ê\x08__dict__\x04\x00\x00\x10\x06Ì\x0b__weakref__\x04\x00\x00\x11" 0), (.bool true), (.bool true), (.str "" 205), (.int 21 0), (.str "\x06ã\n__module__\x06Ù\x11_frozen_importlib\x06ä\x0f__firstlineno__\x04Ú\x00Ȳ\x06å\x07__doc__\t/_frozen_importlib.ModuleSpec.__doc__:str#opaque\x06æ\x08__init__\t,_frozen_importlib.ModuleSpec.__init__#opaque\x06ç\x08__repr__\t,_frozen_importlib.ModuleSpec.__repr__#opaque\x06è\x06__eq__\t*_frozen_importlib.ModuleSpec.__eq__#opaque\x06é\x06cached\t*_frozen_importlib.ModuleSpec.cached#opaque\x06ê\x06parent\t*_frozen_importlib.ModuleSpec.parent#opaque\x06ë\x0chas_location\t0_frozen_importlib.ModuleSpec.has_location#opaque\x06ì\x15__static_attributes__\x04\x00\x00\x17\x06î\x08__dict__\x04\x00\x00\x18\x06ð\x0b__weakref__\x04\x00\x00\x19\x06ñ\x08__hash__\x00" 0), (.bool true), (.bool true), (.str "" 242)] 1) #[]) ::
  (.mk (.type "list") none (.seq #[] 0) #[]) ::
  (.mk (.type "dict") none (.dict #[(.mk (PyData.keyHash P "name") (.str "name" 208) (.str "_sre" 207)), (.mk (PyData.keyHash P "loader") (.str "loader" 209) (.ref 14)), (.mk (PyData.keyHash P "origin") (.str "origin" 210) (.str "built-in" 184)), (.mk (PyData.keyHash P "loader_state") (.str "loader_state" 211) .none), (.mk (PyData.keyHash P "submodule_search_locations") (.str "submodule_search_locations" 212) .none), (.mk (PyData.keyHash P "_uninitialized_submodules") (.str "_uninitialized_submodules" 213) (.ref 19)), (.mk (PyData.keyHash P "_set_fileattr") (.str "_set_fileattr" 214) (.bool false)), (.mk (PyData.keyHash P "_cached") (.str "_cached" 215) .none), (.mk (PyData.keyHash P "_initializing") (.str "_initializing" 243) (.bool false))] 9) #[]) ::
  (.mk (.type "dict") none (.dict #[(.mk (PyData.keyHash P "__module__") (.str "__module__" 227) (.str "_frozen_importlib" 217)), (.mk (PyData.keyHash P "__firstlineno__") (.str "__firstlineno__" 228) (.int 562 218)), (.mk (PyData.keyHash P "__doc__") (.str "__doc__" 229) (.builtin "_frozen_importlib.ModuleSpec.__doc__:str#opaque")), (.mk (PyData.keyHash P "__init__") (.str "__init__" 230) (.builtin "_frozen_importlib.ModuleSpec.__init__#opaque")), (.mk (PyData.keyHash P "__repr__") (.str "__repr__" 231) (.builtin "_frozen_importlib.ModuleSpec.__repr__#opaque")), (.mk (PyData.keyHash P "__eq__") (.str "__eq__" 232) (.builtin "_frozen_importlib.ModuleSpec.__eq__#opaque")), (.mk (PyData.keyHash P "cached") (.str "cached" 233) (.builtin "_frozen_importlib.ModuleSpec.cached#opaque")), (.mk (PyData.keyHash P "parent") (.str "parent" 234) (.builtin "_frozen_importlib.ModuleSpec.parent#opaque")), (.mk (PyData.keyHash P "has_location") (.str "has_location" 235) (.builtin "_frozen_importlib.ModuleSpec.has_location#opaque")), (.mk (PyData.keyHash P "__static_attributes__") (.str "__static_attributes__" 236) (.ref 23)), (.mk (PyData.keyHash P "__dict__") (.str "__dict__" 238) (.ref 24)), (.mk (PyData.keyHash P "__weakref__") (.str "__weakref__" 240) (.ref 25)), (.mk (PyData.keyHash P "__hash__") (.str "__hash__" 241) .none)] 13) #[]) ::
  (.mk (.type "type") none (.cls (ClassData.mk "ModuleSpec" [(.type "object")] [(.ref 22), (.type "object")] 21 "ModuleSpec" true [] [] false none false)) #[]) ::
  (.mk (.type "tuple") none (.seq #[(.str "_cached" 219), (.str "_set_fileattr" 220), (.str "_uninitialized_submodules" 221), (.str "loader" 222), (.str "loader_state" 223), (.str "name" 224), (.str "origin" 225), (.str "submodule_search_locations" 226)] 0) #[]) ::
  (.mk (.type "getset_descriptor") none (.fields #[(.str "__dict__" 237), (.ref 22), (.builtin "function.__dict__"), (.builtin "function.__dict__#set")]) #[]) ::
  (.mk (.type "getset_descriptor") none (.fields #[(.str "__weakref__" 239), (.ref 22), (.builtin "ExceptionGroup.__weakref__"), .none]) #[]) ::
  (.mk (.ref 22) (some 20) .plain #[]) ::
  (.mk .none none (.seq #[(.int 11 0), (.str (Str.mk #[6, 247, 8, 95, 95, 110, 97, 109, 101, 95, 95, 6, 246, 4, 95, 115, 114, 101, 6, 248, 7, 95, 95, 100, 111, 99, 95, 95, 0, 6, 250, 11, 95, 95, 112, 97, 99, 107, 97, 103, 101, 95, 95, 6, 249, 0, 6, 251, 10, 95, 95, 108, 111, 97, 100, 101, 114, 95, 95, 4, 0, 0, 14, 6, 252, 8, 95, 95, 115, 112, 101, 99, 95, 95, 4, 0, 0, 26, 6, 253, 7, 99, 111, 109, 112, 105, 108, 101, 9, 12, 95, 115, 114, 101, 46, 99, 111, 109, 112, 105, 108, 101, 6, 254, 8, 116, 101, 109, 112, 108, 97, 116, 101, 9, 13, 95, 115, 114, 101, 46, 116, 101, 109, 112, 108, 97, 116, 101, 6, 255, 11, 103, 101, 116, 99, 111, 100, 101, 115, 105, 122, 101, 9, 16, 95, 115, 114, 101, 46, 103, 101, 116, 99, 111, 100, 101, 115, 105, 122, 101, 6, 256, 13, 97, 115, 99, 105, 105, 95, 105, 115, 99, 97, 115, 101, 100, 9, 18, 95, 115, 114, 101, 46, 97, 115, 99, 105, 105, 95, 105, 115, 99, 97, 115, 101, 100, 6, 257, 15, 117, 110, 105, 99, 111, 100, 101, 95, 105, 115, 99, 97, 115, 101, 100, 9, 20, 95, 115, 114, 101, 46, 117, 110, 105, 99, 111, 100, 101, 95, 105, 115, 99, 97, 115, 101, 100, 6, 258, 13, 97, 115, 99, 105, 105, 95, 116, 111, 108, 111, 119, 101, 114, 9, 18, 95, 115, 114, 101, 46, 97, 115, 99, 105, 105, 95, 116, 111, 108, 111, 119, 101, 114, 6, 259, 15, 117, 110, 105, 99, 111, 100, 101, 95, 116, 111, 108, 111, 119, 101, 114, 9, 20, 95, 115, 114, 101, 46, 117, 110, 105, 99, 111, 100, 101, 95, 116, 111, 108, 111, 119, 101, 114, 6, 261, 5, 77, 65, 71, 73, 67, 4, 260, 0, 20230612, 6, 263, 8, 67, 79, 68, 69, 83, 73, 90, 69, 4, 262, 0, 4, 6, 265, 9, 77, 65, 88, 82, 69, 80, 69, 65, 84, 4, 264, 0, 4294967295, 6, 267, 9, 77, 65, 88, 71, 82, 79, 85, 80, 83, 4, 266, 0, 1073741823, 6, 269, 9, 99, 111, 112, 121, 114, 105, 103, 104, 116, 6, 268, 53, 32, 83, 82, 69, 32, 50, 46, 50, 46, 50, 32, 67, 111, 112, 121, 114, 105, 103, 104, 116, 32, 40, 99, 41, 32, 49, 57, 57, 55, 45, 50, 48, 48, 50, 32, 98, 121, 32, 83, 101, 99, 114, 101, 116, 32, 76, 97, 98, 115, 32, 65, 66, 32]) 0), (.bool true), (.bool false), (.str "_sre" 271)] 0) #[]) ::
  (.mk (.type "tuple") none (.seq #[] 0) #[]) ::
  (.mk .none none (.fields #[(.int 2 0), (.int 0 0), (.ref 37), (.int 6 0), (.int 0 0), (.ref 44), (.int 19 0), (.int 0 0), (.ref 85), (.int 80 0), (.int 0 0), (.ref 151), (.int 90 0), (.int 0 0), (.ref 174), (.int 99 0), (.int 0 0), (.ref 181), (.int 186 0), (.int 0 0), (.ref 308), (.int 207 0), (.int 0 0), (.ref 315), (.int 232 0), (.int 0 0), (.ref 322), (.int 239 0), (.int 0 0), (.ref 329), (.int 247 0), (.int 0 0), (.ref 334), (.int 249 0), (.int 0 0), (.ref 339), (.int 254 0), (.int 0 0), (.ref 344), (.int 261 0), (.int 0 0), (.ref 349), (.int 281 0), (.int 0 0), (.ref 356)]) #[]) ::
  (.mk (.type "code") none (.fields #[(.str "<module>" 277), (.str "<module>" 278), (.str "/claim/cut.py" 279), (.int 1 0), (.int 0 0), (.int 0 0), (.int 0 0), (.int 0 0), (.ref 28), (.bool false), (.int 276 0), (.ref 29), .none, .none, .none, .none, (.int 280 0), (.int 1 0), (.str "/claim/cut.py" 281)]) #[]) ::
  (.mk (.type "frame") none .plain #[(some (.ref 30)), (some (.ref 3)), (some (.ref 3)), none, (some (.str "__main__" 164)), none, (some (.ref 0))]) ::
  (.mk (.type "tuple") none (.seq #[] 0) #[]) ::
  (.mk .none none (.fields #[]) #[]) ::
  (.mk (.type "tuple") none (.seq #[(.str "k" 285)] 0) #[]) ::
  (.mk (.type "tuple") none (.seq #[] 0) #[]) ::
  (.mk .none none (.func (fdP (stA 1) "_wall" 0 [] .none .none .none .none none .none .none 0)) #[]) ::
  (.mk (.type "code") none (.fields #[(.str "_wall" 282), (.str "_wall" 283), (.str "/claim/cut.py" 284), (.int 2 0), (.int 1 0), (.int 0 0), (.int 0 0), (.int 3 0), (.ref 32), (.bool true), (.int 276 0), (.ref 33), .none, (.ref 34), (.ref 35), (.ref 36), (.int 286 0), (.int 2 0), (.str "/claim/cut.py" 287)]) #[]) ::
  (.mk (.type "function") none (.func (fdP (stA 1) "_wall" 3 [] .none .none .none (.str "__main__" 164) none (.ref 37) .none 0)) #[]) ::
  (.mk (.type "tuple") none (.seq #[(.type "Exception")] 0) #[]) ::
  (.mk (.type "builtin_function_or_method") none (.fields #[(.builtin "type.__prepare__"), (.type "type")]) #[]) ::
  (.mk (.type "dict") none (.dict #[(.mk (PyData.keyHash P "__module__") (.str "__module__" 298) (.str "cpy313.tabnanny" 289)), (.mk (PyData.keyHash P "__qualname__") (.str "__qualname__" 300) (.str "NannyNag" 299)), (.mk (PyData.keyHash P "__firstlineno__") (.str "__firstlineno__" 302) (.int 6 301)), (.mk (PyData.keyHash P "__init__") (.str "__init__" 312) (.ref 52)), (.mk (PyData.keyHash P "get_lineno") (.str "get_lineno" 319) (.ref 59)), (.mk (PyData.keyHash P "get_msg") (.str "get_msg" 326) (.ref 66)), (.mk (PyData.keyHash P "get_line") (.str "get_line" 333) (.ref 73)), (.mk (PyData.keyHash P "__static_attributes__") (.str "__static_attributes__" 337) (.ref 74))] 8) #[]) ::
  (.mk (.type "tuple") none (.seq #[] 0) #[]) ::
  (.mk .none none (.fields #[(.int 8 0), (.int 4 0), (.ref 51), (.int 11 0), (.int 4 0), (.ref 58), (.int 14 0), (.int 4 0), (.ref 65), (.int 17 0), (.int 4 0), (.ref 72)]) #[]) ::
  (.mk (.type "code") none (.fields #[(.str "NannyNag" 293), (.str "NannyNag" 294), (.str "/claim/cut.py" 295), (.int 6 0), (.int 0 0), (.int 0 0), (.int 0 0), (.int 0 0), (.ref 42), (.bool false), (.int 276 0), (.ref 43), .none, .none, .none, .none, (.int 296 0), (.int 6 0), (.str "/claim/cut.py" 297)]) #[]) ::
  (.mk (.type "frame") none .plain #[(some (.ref 44)), (some (.ref 3)), (some (.ref 41)), none, (some (.str "cpy313.tabnanny" 289)), none, (some (.ref 0))]) ::
  (.mk (.type "tuple") none (.seq #[] 0) #[]) ::
  (.mk .none none (.fields #[]) #[]) ::
  (.mk (.type "tuple") none (.seq #[(.str "self" 306), (.str "lineno" 307), (.str "msg" 308), (.str "line" 309)] 0) #[]) ::
  (.mk (.type "tuple") none (.seq #[] 0) #[]) ::
  (.mk .none none (.func (fdP (stB 3 0) "NannyNag.__init__" 0 [] .none .none .none .none none .none .none 0)) #[]) ::
  (.mk (.type "code") none (.fields #[(.str "__init__" 303), (.str "NannyNag.__init__" 304), (.str "/claim/cut.py" 305), (.int 8 0), (.int 4 0), (.int 0 0), (.int 0 0), (.int 3 0), (.ref 46), (.bool true), (.int 276 0), (.ref 47), .none, (.ref 48), (.ref 49), (.ref 50), (.int 310 0), (.int 8 0), (.str "/claim/cut.py" 311)]) #[]) ::
  (.mk (.type "function") none (.func (fdP (stB 3 0) "NannyNag.__init__" 3 [] .none .none .none (.str "cpy313.tabnanny" 289) none (.ref 51) .none 0)) #[]) ::
  (.mk (.type "tuple") none (.seq #[] 0) #[]) ::
  (.mk .none none (.fields #[]) #[]) ::
  (.mk (.type "tuple") none (.seq #[(.str "self" 316)] 0) #[]) ::
  (.mk (.type "tuple") none (.seq #[] 0) #[]) ::
  (.mk .none none (.func (fdP (stB 3 1) "NannyNag.get_lineno" 0 [] .none .none .none .none none .none .none 0)) #[]) ::
  (.mk (.type "code") none (.fields #[(.str "get_lineno" 313), (.str "NannyNag.get_lineno" 314), (.str "/claim/cut.py" 315), (.int 11 0), (.int 1 0), (.int 0 0), (.int 0 0), (.int 3 0), (.ref 53), (.bool true), (.int 276 0), (.ref 54), .none, (.ref 55), (.ref 56), (.ref 57), (.int 317 0), (.int 11 0), (.str "/claim/cut.py" 318)]) #[]) ::
  (.mk (.type "function") none (.func (fdP (stB 3 1) "NannyNag.get_lineno" 3 [] .none .none .none (.str "cpy313.tabnanny" 289) none (.ref 58) .none 0)) #[]) ::
  (.mk (.type "tuple") none (.seq #[] 0) #[]) ::
  (.mk .none none (.fields #[]) #[]) ::
  (.mk (.type "tuple") none (.seq #[(.str "self" 323)] 0) #[]) ::
  (.mk (.type "tuple") none (.seq #[] 0) #[]) ::
  (.mk .none none (.func (fdP (stB 3 2) "NannyNag.get_msg" 0 [] .none .none .none .none none .none .none 0)) #[]) ::
  (.mk (.type "code") none (.fields #[(.str "get_msg" 320), (.str "NannyNag.get_msg" 321), (.str "/claim/cut.py" 322), (.int 14 0), (.int 1 0), (.int 0 0), (.int 0 0), (.int 3 0), (.ref 60), (.bool true), (.int 276 0), (.ref 61), .none, (.ref 62), (.ref 63), (.ref 64), (.int 324 0), (.int 14 0), (.str "/claim/cut.py" 325)]) #[]) ::
  (.mk (.type "function") none (.func (fdP (stB 3 2) "NannyNag.get_msg" 3 [] .none .none .none (.str "cpy313.tabnanny" 289) none (.ref 65) .none 0)) #[]) ::
  (.mk (.type "tuple") none (.seq #[] 0) #[]) ::
  (.mk .none none (.fields #[]) #[]) ::
  (.mk (.type "tuple") none (.seq #[(.str "self" 330)] 0) #[]) ::
  (.mk (.type "tuple") none (.seq #[] 0) #[]) ::
  (.mk .none none (.func (fdP (stB 3 3) "NannyNag.get_line" 0 [] .none .none .none .none none .none .none 0)) #[]) ::
  (.mk (.type "code") none (.fields #[(.str "get_line" 327), (.str "NannyNag.get_line" 328), (.str "/claim/cut.py" 329), (.int 17 0), (.int 1 0), (.int 0 0), (.int 0 0), (.int 3 0), (.ref 67), (.bool true), (.int 276 0), (.ref 68), .none, (.ref 69), (.ref 70), (.ref 71), (.int 331 0), (.int 17 0), (.str "/claim/cut.py" 332)]) #[]) ::
  (.mk (.type "function") none (.func (fdP (stB 3 3) "NannyNag.get_line" 3 [] .none .none .none (.str "cpy313.tabnanny" 289) none (.ref 72) .none 0)) #[]) ::
  (.mk (.type "tuple") none (.seq #[(.str "line" 334), (.str "lineno" 335), (.str "msg" 336)] 0) #[]) ::
  (.mk (.type "dict") none (.dict #[(.mk (PyData.keyHash P "__module__") (.str "__module__" 298) (.str "cpy313.tabnanny" 289)), (.mk (PyData.keyHash P "__firstlineno__") (.str "__firstlineno__" 302) (.int 6 301)), (.mk (PyData.keyHash P "__init__") (.str "__init__" 312) (.ref 52)), (.mk (PyData.keyHash P "get_lineno") (.str "get_lineno" 319) (.ref 59)), (.mk (PyData.keyHash P "get_msg") (.str "get_msg" 326) (.ref 66)), (.mk (PyData.keyHash P "get_line") (.str "get_line" 333) (.ref 73)), (.mk (PyData.keyHash P "__static_attributes__") (.str "__static_attributes__" 337) (.ref 74)), (.mk (PyData.keyHash P "__weakref__") (.str "__weakref__" 339) (.ref 77)), (.mk (PyData.keyHash P "__doc__") (.str "__doc__" 340) .none)] 3) #[]) ::
  (.mk (.type "type") none (.cls (ClassData.mk "NannyNag" [(.type "Exception")] [(.ref 76), (.type "Exception"), (.type "BaseException"), (.type "object")] 75 "NannyNag" true [] [] false none false)) #[(some (.ref 39)), none, (some (.str "NannyNag" 291)), (some (.str "NannyNag" 299)), (some (.builtin "Exception.__new__")), (some (.bool true))]) ::
  (.mk (.type "getset_descriptor") none (.fields #[(.str "__weakref__" 338), (.ref 76), (.builtin "ExceptionGroup.__weakref__"), .none]) #[]) ::
  (.mk (.type "super") none (.fields #[(.ref 76), (.ref 76), (.ref 76)]) #[]) ::
  (.mk (.type "builtin_function_or_method") none (.fields #[(.builtin "object.__init_subclass__"), (.ref 76)]) #[]) ::
  (.mk (.type "tuple") none (.seq #[] 0) #[]) ::
  (.mk (.type "builtin_function_or_method") none (.fields #[(.builtin "type.__prepare__"), (.type "type")]) #[]) ::
  (.mk (.type "dict") none (.dict #[(.mk (PyData.keyHash P "__module__") (.str "__module__" 352) (.str "cpy313.tabnanny" 289)), (.mk (PyData.keyHash P "__qualname__") (.str "__qualname__" 354) (.str "Whitespace" 353)), (.mk (PyData.keyHash P "__firstlineno__") (.str "__firstlineno__" 356) (.int 19 355)), (.mk (PyData.keyHash P "S") (.str "S" 360) (.str " " 358)), (.mk (PyData.keyHash P "T") (.str "T" 361) (.str "\t" 359)), (.mk (PyData.keyHash P "__init__") (.str "__init__" 376) (.ref 96)), (.mk (PyData.keyHash P "longest_run_of_spaces") (.str "longest_run_of_spaces" 385) (.ref 103)), (.mk (PyData.keyHash P "indent_level") (.str "indent_level" 397) (.ref 110)), (.mk (PyData.keyHash P "equal") (.str "equal" 405) (.ref 117)), (.mk (PyData.keyHash P "not_equal_witness") (.str "not_equal_witness" 416) (.ref 124)), (.mk (PyData.keyHash P "less") (.str "less" 426) (.ref 131)), (.mk (PyData.keyHash P "not_less_witness") (.str "not_less_witness" 434) (.ref 138)), (.mk (PyData.keyHash P "__static_attributes__") (.str "__static_attributes__" 440) (.ref 139))] 13) #[]) ::
  (.mk (.type "tuple") none (.seq #[] 0) #[]) ::
  (.mk .none none (.fields #[(.int 22 0), (.int 4 0), (.ref 95), (.int 45 0), (.int 4 0), (.ref 102), (.int 49 0), (.int 4 0), (.ref 109), (.int 56 0), (.int 4 0), (.ref 116), (.int 59 0), (.int 4 0), (.ref 123), (.int 67 0), (.int 4 0), (.ref 130), (.int 78 0), (.int 4 0), (.ref 137)]) #[]) ::
  (.mk (.type "code") none (.fields #[(.str "Whitespace" 347), (.str "Whitespace" 348), (.str "/claim/cut.py" 349), (.int 19 0), (.int 0 0), (.int 0 0), (.int 0 0), (.int 0 0), (.ref 83), (.bool false), (.int 276 0), (.ref 84), .none, .none, .none, .none, (.int 350 0), (.int 19 0), (.str "/claim/cut.py" 351)]) #[]) ::
  (.mk (.type "frame") none .plain #[(some (.ref 85)), (some (.ref 3)), (some (.ref 82)), none, (some (.str "cpy313.tabnanny" 289)), none, (some (.ref 0))]) ::
  (.mk (.type "str_ascii_iterator") none (.fields #[.none, (.int 2 0)]) #[]) ::
  (.mk (.type "tuple") none (.seq #[] 0) #[]) ::
  (.mk (.type "StopIteration") none (.fields #[(.ref 88), .none, .none, .none, (.bool false), .none]) #[]) ::
  (.mk (.type "tuple") none (.seq #[] 0) #[]) ::
  (.mk .none none (.fields #[]) #[]) ::
  (.mk (.type "tuple") none (.seq #[(.str "self" 365), (.str "ws" 366), (.str "S" 367), (.str "T" 368), (.str "count" 369), (.str "b" 370), (.str "n" 371), (.str "nt" 372), (.str "ch" 373)] 0) #[]) ::
  (.mk (.type "tuple") none (.seq #[] 0) #[]) ::
  (.mk .none none (.func (fdP (stB 4 1) "Whitespace.__init__" 0 [] .none .none .none .none none .none .none 0)) #[]) ::
  (.mk (.type "code") none (.fields #[(.str "__init__" 362), (.str "Whitespace.__init__" 363), (.str "/claim/cut.py" 364), (.int 22 0), (.int 2 0), (.int 0 0), (.int 0 0), (.int 3 0), (.ref 90), (.bool true), (.int 276 0), (.ref 91), .none, (.ref 92), (.ref 93), (.ref 94), (.int 374 0), (.int 22 0), (.str "/claim/cut.py" 375)]) #[]) ::
  (.mk (.type "function") none (.func (fdP (stB 4 1) "Whitespace.__init__" 3 [] .none .none .none (.str "cpy313.tabnanny" 289) none (.ref 95) .none 0)) #[]) ::
  (.mk (.type "tuple") none (.seq #[] 0) #[]) ::
  (.mk .none none (.fields #[]) #[]) ::
  (.mk (.type "tuple") none (.seq #[(.str "self" 380), (.str "count" 381), (.str "trailing" 382)] 0) #[]) ::
  (.mk (.type "tuple") none (.seq #[] 0) #[]) ::
  (.mk .none none (.func (fdP (stB 4 2) "Whitespace.longest_run_of_spaces" 0 [] .none .none .none .none none .none .none 0)) #[]) ::
  (.mk (.type "code") none (.fields #[(.str "longest_run_of_spaces" 377), (.str "Whitespace.longest_run_of_spaces" 378), (.str "/claim/cut.py" 379), (.int 45 0), (.int 1 0), (.int 0 0), (.int 0 0), (.int 3 0), (.ref 97), (.bool true), (.int 276 0), (.ref 98), .none, (.ref 99), (.ref 100), (.ref 101), (.int 383 0), (.int 45 0), (.str "/claim/cut.py" 384)]) #[]) ::
  (.mk (.type "function") none (.func (fdP (stB 4 2) "Whitespace.longest_run_of_spaces" 3 [] .none .none .none (.str "cpy313.tabnanny" 289) none (.ref 102) .none 0)) #[]) ::
  (.mk (.type "tuple") none (.seq #[] 0) #[]) ::
  (.mk .none none (.fields #[]) #[]) ::
  (.mk (.type "tuple") none (.seq #[(.str "self" 389), (.str "tabsize" 390), (.str "count" 391), (.str "trailing" 392), (.str "il" 393), (.str "i" 394)] 0) #[]) ::
  (.mk (.type "tuple") none (.seq #[] 0) #[]) ::
  (.mk .none none (.func (fdP (stB 4 3) "Whitespace.indent_level" 0 [] .none .none .none .none none .none .none 0)) #[]) ::
  (.mk (.type "code") none (.fields #[(.str "indent_level" 386), (.str "Whitespace.indent_level" 387), (.str "/claim/cut.py" 388), (.int 49 0), (.int 2 0), (.int 0 0), (.int 0 0), (.int 3 0), (.ref 104), (.bool true), (.int 276 0), (.ref 105), .none, (.ref 106), (.ref 107), (.ref 108), (.int 395 0), (.int 49 0), (.str "/claim/cut.py" 396)]) #[]) ::
  (.mk (.type "function") none (.func (fdP (stB 4 3) "Whitespace.indent_level" 3 [] .none .none .none (.str "cpy313.tabnanny" 289) none (.ref 109) .none 0)) #[]) ::
  (.mk (.type "tuple") none (.seq #[] 0) #[]) ::
  (.mk .none none (.fields #[]) #[]) ::
  (.mk (.type "tuple") none (.seq #[(.str "self" 401), (.str "other" 402)] 0) #[]) ::
  (.mk (.type "tuple") none (.seq #[] 0) #[]) ::
  (.mk .none none (.func (fdP (stB 4 4) "Whitespace.equal" 0 [] .none .none .none .none none .none .none 0)) #[]) ::
  (.mk (.type "code") none (.fields #[(.str "equal" 398), (.str "Whitespace.equal" 399), (.str "/claim/cut.py" 400), (.int 56 0), (.int 2 0), (.int 0 0), (.int 0 0), (.int 3 0), (.ref 111), (.bool true), (.int 276 0), (.ref 112), .none, (.ref 113), (.ref 114), (.ref 115), (.int 403 0), (.int 56 0), (.str "/claim/cut.py" 404)]) #[]) ::
  (.mk (.type "function") none (.func (fdP (stB 4 4) "Whitespace.equal" 3 [] .none .none .none (.str "cpy313.tabnanny" 289) none (.ref 116) .none 0)) #[]) ::
  (.mk (.type "tuple") none (.seq #[] 0) #[]) ::
  (.mk .none none (.fields #[]) #[]) ::
  (.mk (.type "tuple") none (.seq #[(.str "self" 409), (.str "other" 410), (.str "n" 411), (.str "a" 412), (.str "ts" 413)] 0) #[]) ::
  (.mk (.type "tuple") none (.seq #[] 0) #[]) ::
  (.mk .none none (.func (fdP (stB 4 5) "Whitespace.not_equal_witness" 0 [] .none .none .none .none none .none .none 0)) #[]) ::
  (.mk (.type "code") none (.fields #[(.str "not_equal_witness" 406), (.str "Whitespace.not_equal_witness" 407), (.str "/claim/cut.py" 408), (.int 59 0), (.int 2 0), (.int 0 0), (.int 0 0), (.int 3 0), (.ref 118), (.bool true), (.int 276 0), (.ref 119), .none, (.ref 120), (.ref 121), (.ref 122), (.int 414 0), (.int 59 0), (.str "/claim/cut.py" 415)]) #[]) ::
  (.mk (.type "function") none (.func (fdP (stB 4 5) "Whitespace.not_equal_witness" 3 [] .none .none .none (.str "cpy313.tabnanny" 289) none (.ref 123) .none 0)) #[]) ::
  (.mk (.type "tuple") none (.seq #[] 0) #[]) ::
  (.mk .none none (.fields #[]) #[]) ::
  (.mk (.type "tuple") none (.seq #[(.str "self" 420), (.str "other" 421), (.str "n" 422), (.str "ts" 423)] 0) #[]) ::
  (.mk (.type "tuple") none (.seq #[] 0) #[]) ::
  (.mk .none none (.func (fdP (stB 4 6) "Whitespace.less" 0 [] .none .none .none .none none .none .none 0)) #[]) ::
  (.mk (.type "code") none (.fields #[(.str "less" 417), (.str "Whitespace.less" 418), (.str "/claim/cut.py" 419), (.int 67 0), (.int 2 0), (.int 0 0), (.int 0 0), (.int 3 0), (.ref 125), (.bool true), (.int 276 0), (.ref 126), .none, (.ref 127), (.ref 128), (.ref 129), (.int 424 0), (.int 67 0), (.str "/claim/cut.py" 425)]) #[]) ::
  (.mk (.type "function") none (.func (fdP (stB 4 6) "Whitespace.less" 3 [] .none .none .none (.str "cpy313.tabnanny" 289) none (.ref 130) .none 0)) #[]) ::
  (.mk (.type "tuple") none (.seq #[] 0) #[]) ::
  (.mk .none none (.fields #[]) #[]) ::
  (.mk (.type "tuple") none (.seq #[(.str "self" 430), (.str "other" 431)] 0) #[]) ::
  (.mk (.type "tuple") none (.seq #[] 0) #[]) ::
  (.mk .none none (.func (fdP (stB 4 7) "Whitespace.not_less_witness" 0 [] .none .none .none .none none .none .none 0)) #[]) ::
  (.mk (.type "code") none (.fields #[(.str "not_less_witness" 427), (.str "Whitespace.not_less_witness" 428), (.str "/claim/cut.py" 429), (.int 78 0), (.int 2 0), (.int 0 0), (.int 0 0), (.int 3 0), (.ref 132), (.bool true), (.int 276 0), (.ref 133), .none, (.ref 134), (.ref 135), (.ref 136), (.int 432 0), (.int 78 0), (.str "/claim/cut.py" 433)]) #[]) ::
  (.mk (.type "function") none (.func (fdP (stB 4 7) "Whitespace.not_less_witness" 3 [] .none .none .none (.str "cpy313.tabnanny" 289) none (.ref 137) .none 0)) #[]) ::
  (.mk (.type "tuple") none (.seq #[(.str "is_simple" 435), (.str "n" 436), (.str "norm" 437), (.str "nt" 438), (.str "raw" 439)] 0) #[]) ::
  (.mk (.type "dict") none (.dict #[(.mk (PyData.keyHash P "__module__") (.str "__module__" 352) (.str "cpy313.tabnanny" 289)), (.mk (PyData.keyHash P "__firstlineno__") (.str "__firstlineno__" 356) (.int 19 355)), (.mk (PyData.keyHash P "S") (.str "S" 360) (.str " " 358)), (.mk (PyData.keyHash P "T") (.str "T" 361) (.str "\t" 359)), (.mk (PyData.keyHash P "__init__") (.str "__init__" 376) (.ref 96)), (.mk (PyData.keyHash P "longest_run_of_spaces") (.str "longest_run_of_spaces" 385) (.ref 103)), (.mk (PyData.keyHash P "indent_level") (.str "indent_level" 397) (.ref 110)), (.mk (PyData.keyHash P "equal") (.str "equal" 405) (.ref 117)), (.mk (PyData.keyHash P "not_equal_witness") (.str "not_equal_witness" 416) (.ref 124)), (.mk (PyData.keyHash P "less") (.str "less" 426) (.ref 131)), (.mk (PyData.keyHash P "not_less_witness") (.str "not_less_witness" 434) (.ref 138)), (.mk (PyData.keyHash P "__static_attributes__") (.str "__static_attributes__" 440) (.ref 139)), (.mk (PyData.keyHash P "__dict__") (.str "__dict__" 442) (.ref 142)), (.mk (PyData.keyHash P "__weakref__") (.str "__weakref__" 444) (.ref 143)), (.mk (PyData.keyHash P "__doc__") (.str "__doc__" 445) .none)] 4) #[]) ::
  (.mk (.type "type") none (.cls (ClassData.mk "Whitespace" [(.type "object")] [(.ref 141), (.type "object")] 140 "Whitespace" true [] [] false none false)) #[none, none, (some (.str "Whitespace" 345)), (some (.str "Whitespace" 353)), (some (.builtin "object.__new__")), (some (.bool true))]) ::
  (.mk (.type "getset_descriptor") none (.fields #[(.str "__dict__" 441), (.ref 141), (.builtin "function.__dict__"), (.builtin "function.__dict__#set")]) #[]) ::
  (.mk (.type "getset_descriptor") none (.fields #[(.str "__weakref__" 443), (.ref 141), (.builtin "ExceptionGroup.__weakref__"), .none]) #[]) ::
  (.mk (.type "super") none (.fields #[(.ref 141), (.ref 141), (.ref 141)]) #[]) ::
  (.mk (.type "builtin_function_or_method") none (.fields #[(.builtin "object.__init_subclass__"), (.ref 141)]) #[]) ::
  (.mk (.type "tuple") none (.seq #[] 0) #[]) ::
  (.mk .none none (.fields #[]) #[]) ::
  (.mk (.type "tuple") none (.seq #[(.str "w" 451), (.str "firsts" 452), (.str "prefix" 453)] 0) #[]) ::
  (.mk (.type "tuple") none (.seq #[] 0) #[]) ::
  (.mk .none none (.func (fdP (stA 5) "format_witnesses" 0 [] .none .none .none .none none .none .none 0)) #[]) ::
  (.mk (.type "code") none (.fields #[(.str "format_witnesses" 448), (.str "format_witnesses" 449), (.str "/claim/cut.py" 450), (.int 80 0), (.int 1 0), (.int 0 0), (.int 0 0), (.int 3 0), (.ref 146), (.bool true), (.int 276 0), (.ref 147), .none, (.ref 148), (.ref 149), (.ref 150), (.int 454 0), (.int 80 0), (.str "/claim/cut.py" 455)]) #[]) ::
  (.mk (.type "function") none (.func (fdP (stA 5) "format_witnesses" 3 [] .none .none .none (.str "cpy313.tabnanny" 289) none (.ref 151) .none 0)) #[]) ::
  (.mk (.type "list") none (.seq #[(.int 14 462), (.int 14 463), (.int 4 464), (.int 1 465), (.int 1 466), (.int 9 467), (.int 0 468), (.int 4227896069 469), (.int 939524097 470), (.int 0 471), (.int 0 472), (.int 0 473), (.int 0 474), (.int 0 475), (.int 0 476), (.int 13 477), (.int 11 478), (.int 9 479), (.int 0 480), (.int 4227896069 481), (.int 939524097 482), (.int 0 483), (.int 0 484), (.int 0 485), (.int 0 486), (.int 0 487), (.int 0 488), (.int 1 489)] 0) #[]) ::
  (.mk (.type "dict") none (.dict #[] 0) #[]) ::
  (.mk (.type "tuple") none (.seq #[.none] 0) #[]) ::
  (.mk (.type "tuple") none (.seq #[(.int 14 0), (.int 14 0), (.int 4 0), (.int 1 0), (.int 1 0), (.int 9 0), (.int 0 0), (.int 4227896069 0), (.int 939524097 0), (.int 0 0), (.int 0 0), (.int 0 0), (.int 0 0), (.int 0 0), (.int 0 0), (.int 13 0), (.int 11 0), (.int 9 0), (.int 0 0), (.int 4227896069 0), (.int 939524097 0), (.int 0 0), (.int 0 0), (.int 0 0), (.int 0 0), (.int 0 0), (.int 0 0), (.int 1 0)] 0) #[]) ::
  (.mk (.type "re.Pattern") none (.fields ([(.str "[ \\(\\)<>@,;:\\\\\"/\\[\\]\\?=]" 460), (.int 32 491), (.int 0 0), .none, .none, (.ref 156), (.int 0 0)]).toArray) #[]) ::
  (.mk (.type "list") none (.seq #[(.int 14 496), (.int 10 497), (.int 4 498), (.int 1 499), (.int 1 500), (.int 22 501), (.int 0 502), (.int 31 503), (.int 16 504), (.int 127 505), (.int 0 506), (.int 13 507), (.int 7 508), (.int 22 509), (.int 0 510), (.int 31 511), (.int 16 512), (.int 127 513), (.int 0 514), (.int 1 515)] 0) #[]) ::
  (.mk (.type "dict") none (.dict #[] 0) #[]) ::
  (.mk (.type "tuple") none (.seq #[.none] 0) #[]) ::
  (.mk (.type "tuple") none (.seq #[(.int 14 0), (.int 10 0), (.int 4 0), (.int 1 0), (.int 1 0), (.int 22 0), (.int 0 0), (.int 31 0), (.int 16 0), (.int 127 0), (.int 0 0), (.int 13 0), (.int 7 0), (.int 22 0), (.int 0 0), (.int 31 0), (.int 16 0), (.int 127 0), (.int 0 0), (.int 1 0)] 0) #[]) ::
  (.mk (.type "re.Pattern") none (.fields ([(.str "[\\x00-\\x1F\\x7F]" 494), (.int 32 517), (.int 0 0), .none, .none, (.ref 161), (.int 0 0)]).toArray) #[]) ::
  (.mk (.type "list") none (.seq #[(.int 14 522), (.int 14 523), (.int 4 524), (.int 1 525), (.int 1 526), (.int 9 527), (.int 4294966783 528), (.int 0 529), (.int 0 530), (.int 2147483648 531), (.int 0 532), (.int 0 533), (.int 0 534), (.int 0 535), (.int 0 536), (.int 13 537), (.int 11 538), (.int 9 539), (.int 4294966783 540), (.int 0 541), (.int 0 542), (.int 2147483648 543), (.int 0 544), (.int 0 545), (.int 0 546), (.int 0 547), (.int 0 548), (.int 1 549)] 0) #[]) ::
  (.mk (.type "dict") none (.dict #[] 0) #[]) ::
  (.mk (.type "tuple") none (.seq #[.none] 0) #[]) ::
  (.mk (.type "tuple") none (.seq #[(.int 14 0), (.int 14 0), (.int 4 0), (.int 1 0), (.int 1 0), (.int 9 0), (.int 4294966783 0), (.int 0 0), (.int 0 0), (.int 2147483648 0), (.int 0 0), (.int 0 0), (.int 0 0), (.int 0 0), (.int 0 0), (.int 13 0), (.int 11 0), (.int 9 0), (.int 4294966783 0), (.int 0 0), (.int 0 0), (.int 2147483648 0), (.int 0 0), (.int 0 0), (.int 0 0), (.int 0 0), (.int 0 0), (.int 1 0)] 0) #[]) ::
  (.mk (.type "re.Pattern") none (.fields ([(.str "[\\x00-\\x08\\x0A-\\x1F\\x7F]" 520), (.int 32 551), (.int 0 0), .none, .none, (.ref 166), (.int 0 0)]).toArray) #[]) ::
  (.mk (.type "tuple") none (.seq #[.none, (.int 1 553)] 0) #[]) ::
  (.mk (.type "tuple") none (.seq #[] 0) #[]) ::
  (.mk .none none (.fields #[]) #[]) ::
  (.mk (.type "tuple") none (.seq #[(.str "param" 557), (.str "value" 558), (.str "quote" 559)] 0) #[]) ::
  (.mk (.type "tuple") none (.seq #[] 0) #[]) ::
  (.mk .none none (.func (fdP (stA 10) "_formatparam" 0 [] .none .none .none .none none .none .none 0)) #[]) ::
  (.mk (.type "code") none (.fields #[(.str "_formatparam" 554), (.str "_formatparam" 555), (.str "/claim/cut.py" 556), (.int 90 0), (.int 3 0), (.int 0 0), (.int 0 0), (.int 3 0), (.ref 169), (.bool true), (.int 276 0), (.ref 170), .none, (.ref 171), (.ref 172), (.ref 173), (.int 560 0), (.int 90 0), (.str "/claim/cut.py" 561)]) #[]) ::
  (.mk (.type "function") none (.func (fdP (stA 10) "_formatparam" 3 [] (.ref 168) .none .none (.str "cpy313.wsgiref.headers" 457) none (.ref 174) .none 0)) #[]) ::
  (.mk (.type "tuple") none (.seq #[] 0) #[]) ::
  (.mk (.type "builtin_function_or_method") none (.fields #[(.builtin "type.__prepare__"), (.type "type")]) #[]) ::
  (.mk (.type "dict") none (.dict #[(.mk (PyData.keyHash P "__module__") (.str "__module__" 570) (.str "cpy313.wsgiref.headers" 457)), (.mk (PyData.keyHash P "__qualname__") (.str "__qualname__" 572) (.str "Headers" 571)), (.mk (PyData.keyHash P "__firstlineno__") (.str "__firstlineno__" 574) (.int 99 573)), (.mk (PyData.keyHash P "__init__") (.str "__init__" 584) (.ref 190)), (.mk (PyData.keyHash P "_convert_string_type") (.str "_convert_string_type" 594) (.ref 197)), (.mk (PyData.keyHash P "__len__") (.str "__len__" 601) (.ref 204)), (.mk (PyData.keyHash P "__setitem__") (.str "__setitem__" 610) (.ref 211)), (.mk (PyData.keyHash P "__delitem__") (.str "__delitem__" 616) (.ref 216)), (.mk (PyData.keyHash P "__getitem__") (.str "__getitem__" 624) (.ref 223)), (.mk (PyData.keyHash P "__contains__") (.str "__contains__" 632) (.ref 230)), (.mk (PyData.keyHash P "get_all") (.str "get_all" 640) (.ref 237)), (.mk (PyData.keyHash P "get") (.str "get" 651) (.ref 245)), (.mk (PyData.keyHash P "keys") (.str "keys" 657) (.ref 250)), (.mk (PyData.keyHash P "values") (.str "values" 663) (.ref 255)), (.mk (PyData.keyHash P "items") (.str "items" 670) (.ref 262)), (.mk (PyData.keyHash P "__repr__") (.str "__repr__" 677) (.ref 269)), (.mk (PyData.keyHash P "__str__") (.str "__str__" 683) (.ref 274)), (.mk (PyData.keyHash P "__bytes__") (.str "__bytes__" 690) (.ref 281)), (.mk (PyData.keyHash P "setdefault") (.str "setdefault" 700) (.ref 288)), (.mk (PyData.keyHash P "add_header") (.str "add_header" 713) (.ref 295)), (.mk (PyData.keyHash P "__static_attributes__") (.str "__static_attributes__" 715) (.ref 296))] 21) #[]) ::
  (.mk (.type "tuple") none (.seq #[] 0) #[]) ::
  (.mk .none none (.fields #[(.int 101 0), (.int 4 0), (.ref 189), (.int 111 0), (.int 4 0), (.ref 196), (.int 119 0), (.int 4 0), (.ref 203), (.int 122 0), (.int 4 0), (.ref 210), (.int 126 0), (.int 4 0), (.ref 215), (.int 130 0), (.int 4 0), (.ref 222), (.int 133 0), (.int 4 0), (.ref 229), (.int 136 0), (.int 4 0), (.ref 236), (.int 139 0), (.int 4 0), (.ref 244), (.int 146 0), (.int 4 0), (.ref 249), (.int 149 0), (.int 4 0), (.ref 254), (.int 152 0), (.int 4 0), (.ref 261), (.int 155 0), (.int 4 0), (.ref 268), (.int 158 0), (.int 4 0), (.ref 273), (.int 161 0), (.int 4 0), (.ref 280), (.int 164 0), (.int 4 0), (.ref 287), (.int 172 0), (.int 4 0), (.ref 294)]) #[]) ::
  (.mk (.type "code") none (.fields #[(.str "Headers" 565), (.str "Headers" 566), (.str "/claim/cut.py" 567), (.int 99 0), (.int 0 0), (.int 0 0), (.int 0 0), (.int 0 0), (.ref 179), (.bool false), (.int 276 0), (.ref 180), .none, .none, .none, .none, (.int 568 0), (.int 99 0), (.str "/claim/cut.py" 569)]) #[]) ::
  (.mk (.type "frame") none .plain #[(some (.ref 181)), (some (.ref 3)), (some (.ref 178)), none, (some (.str "cpy313.wsgiref.headers" 457)), none, (some (.ref 0))]) ::
  (.mk (.type "tuple") none (.seq #[.none] 0) #[]) ::
  (.mk (.type "tuple") none (.seq #[] 0) #[]) ::
  (.mk .none none (.fields #[]) #[]) ::
  (.mk (.type "tuple") none (.seq #[(.str "self" 578), (.str "headers" 579), (.str "k" 580), (.str "v" 581)] 0) #[]) ::
  (.mk (.type "tuple") none (.seq #[] 0) #[]) ::
  (.mk .none none (.func (fdP (stB 11 0) "Headers.__init__" 0 [] .none .none .none .none none .none .none 0)) #[]) ::
  (.mk (.type "code") none (.fields #[(.str "__init__" 575), (.str "Headers.__init__" 576), (.str "/claim/cut.py" 577), (.int 101 0), (.int 2 0), (.int 0 0), (.int 0 0), (.int 3 0), (.ref 184), (.bool true), (.int 276 0), (.ref 185), .none, (.ref 186), (.ref 187), (.ref 188), (.int 582 0), (.int 101 0), (.str "/claim/cut.py" 583)]) #[]) ::
  (.mk (.type "function") none (.func (fdP (stB 11 0) "Headers.__init__" 3 [] (.ref 183) .none .none (.str "cpy313.wsgiref.headers" 457) none (.ref 189) .none 0)) #[]) ::
  (.mk (.type "tuple") none (.seq #[] 0) #[]) ::
  (.mk .none none (.fields #[]) #[]) ::
  (.mk (.type "tuple") none (.seq #[(.str "self" 588), (.str "value" 589), (.str "name" 590), (.str "regex" 591)] 0) #[]) ::
  (.mk (.type "tuple") none (.seq #[] 0) #[]) ::
  (.mk .none none (.func (fdP (stB 11 1) "Headers._convert_string_type" 0 [] .none .none .none .none none .none .none 0)) #[]) ::
  (.mk (.type "code") none (.fields #[(.str "_convert_string_type" 585), (.str "Headers._convert_string_type" 586), (.str "/claim/cut.py" 587), (.int 111 0), (.int 2 0), (.int 0 0), (.int 1 0), (.int 3 0), (.ref 191), (.bool true), (.int 276 0), (.ref 192), .none, (.ref 193), (.ref 194), (.ref 195), (.int 592 0), (.int 111 0), (.str "/claim/cut.py" 593)]) #[]) ::
  (.mk (.type "function") none (.func (fdP (stB 11 1) "Headers._convert_string_type" 3 [] .none .none .none (.str "cpy313.wsgiref.headers" 457) none (.ref 196) .none 0)) #[]) ::
  (.mk (.type "tuple") none (.seq #[] 0) #[]) ::
  (.mk .none none (.fields #[]) #[]) ::
  (.mk (.type "tuple") none (.seq #[(.str "self" 598)] 0) #[]) ::
  (.mk (.type "tuple") none (.seq #[] 0) #[]) ::
  (.mk .none none (.func (fdP (stB 11 2) "Headers.__len__" 0 [] .none .none .none .none none .none .none 0)) #[]) ::
  (.mk (.type "code") none (.fields #[(.str "__len__" 595), (.str "Headers.__len__" 596), (.str "/claim/cut.py" 597), (.int 119 0), (.int 1 0), (.int 0 0), (.int 0 0), (.int 3 0), (.ref 198), (.bool true), (.int 276 0), (.ref 199), .none, (.ref 200), (.ref 201), (.ref 202), (.int 599 0), (.int 119 0), (.str "/claim/cut.py" 600)]) #[]) ::
  (.mk (.type "function") none (.func (fdP (stB 11 2) "Headers.__len__" 3 [] .none .none .none (.str "cpy313.wsgiref.headers" 457) none (.ref 203) .none 0)) #[]) ::
  (.mk (.type "tuple") none (.seq #[] 0) #[]) ::
  (.mk .none none (.fields #[]) #[]) ::
  (.mk (.type "tuple") none (.seq #[(.str "self" 605), (.str "name" 606), (.str "val" 607)] 0) #[]) ::
  (.mk (.type "tuple") none (.seq #[] 0) #[]) ::
  (.mk .none none (.func (fdP (stB 11 3) "Headers.__setitem__" 0 [] .none .none .none .none none .none .none 0)) #[]) ::
  (.mk (.type "code") none (.fields #[(.str "__setitem__" 602), (.str "Headers.__setitem__" 603), (.str "/claim/cut.py" 604), (.int 122 0), (.int 3 0), (.int 0 0), (.int 0 0), (.int 3 0), (.ref 205), (.bool true), (.int 276 0), (.ref 206), .none, (.ref 207), (.ref 208), (.ref 209), (.int 608 0), (.int 122 0), (.str "/claim/cut.py" 609)]) #[]) ::
  (.mk (.type "function") none (.func (fdP (stB 11 3) "Headers.__setitem__" 3 [] .none .none .none (.str "cpy313.wsgiref.headers" 457) none (.ref 210) .none 0)) #[]) ::
  (.mk (.type "tuple") none (.seq #[] 0) #[]) ::
  (.mk .none none (.fields #[]) #[]) ::
  (.mk .none none (.func (fdP (stB 11 4) "Headers.__delitem__" 0 [] .none .none .none .none none .none .none 0)) #[]) ::
  (.mk (.type "code") none (.fields #[(.str "__delitem__" 611), (.str "Headers.__delitem__" 612), (.str "/claim/cut.py" 613), (.int 126 0), (.int 2 0), (.int 0 0), (.int 0 0), (.int 3 0), (.ref 212), (.bool true), (.int 276 0), (.ref 213), .none, .none, .none, (.ref 214), (.int 614 0), (.int 126 0), (.str "/claim/cut.py" 615)]) #[]) ::
  (.mk (.type "function") none (.func (fdP (stB 11 4) "Headers.__delitem__" 3 [] .none .none .none (.str "cpy313.wsgiref.headers" 457) none (.ref 215) .none 0)) #[]) ::
  (.mk (.type "tuple") none (.seq #[] 0) #[]) ::
  (.mk .none none (.fields #[]) #[]) ::
  (.mk (.type "tuple") none (.seq #[(.str "self" 620), (.str "name" 621)] 0) #[]) ::
  (.mk (.type "tuple") none (.seq #[] 0) #[]) ::
  (.mk .none none (.func (fdP (stB 11 5) "Headers.__getitem__" 0 [] .none .none .none .none none .none .none 0)) #[]) ::
  (.mk (.type "code") none (.fields #[(.str "__getitem__" 617), (.str "Headers.__getitem__" 618), (.str "/claim/cut.py" 619), (.int 130 0), (.int 2 0), (.int 0 0), (.int 0 0), (.int 3 0), (.ref 217), (.bool true), (.int 276 0), (.ref 218), .none, (.ref 219), (.ref 220), (.ref 221), (.int 622 0), (.int 130 0), (.str "/claim/cut.py" 623)]) #[]) ::
  (.mk (.type "function") none (.func (fdP (stB 11 5) "Headers.__getitem__" 3 [] .none .none .none (.str "cpy313.wsgiref.headers" 457) none (.ref 222) .none 0)) #[]) ::
  (.mk (.type "tuple") none (.seq #[] 0) #[]) ::
  (.mk .none none (.fields #[]) #[]) ::
  (.mk (.type "tuple") none (.seq #[(.str "self" 628), (.str "name" 629)] 0) #[]) ::
  (.mk (.type "tuple") none (.seq #[] 0) #[]) ::
  (.mk .none none (.func (fdP (stB 11 6) "Headers.__contains__" 0 [] .none .none .none .none none .none .none 0)) #[]) ::
  (.mk (.type "code") none (.fields #[(.str "__contains__" 625), (.str "Headers.__contains__" 626), (.str "/claim/cut.py" 627), (.int 133 0), (.int 2 0), (.int 0 0), (.int 0 0), (.int 3 0), (.ref 224), (.bool true), (.int 276 0), (.ref 225), .none, (.ref 226), (.ref 227), (.ref 228), (.int 630 0), (.int 133 0), (.str "/claim/cut.py" 631)]) #[]) ::
  (.mk (.type "function") none (.func (fdP (stB 11 6) "Headers.__contains__" 3 [] .none .none .none (.str "cpy313.wsgiref.headers" 457) none (.ref 229) .none 0)) #[]) ::
  (.mk (.type "tuple") none (.seq #[] 0) #[]) ::
  (.mk .none none (.fields #[]) #[]) ::
  (.mk (.type "tuple") none (.seq #[(.str "self" 636), (.str "name" 637)] 0) #[]) ::
  (.mk (.type "tuple") none (.seq #[] 0) #[]) ::
  (.mk .none none (.func (fdP (stB 11 7) "Headers.get_all" 0 [] .none .none .none .none none .none .none 0)) #[]) ::
  (.mk (.type "code") none (.fields #[(.str "get_all" 633), (.str "Headers.get_all" 634), (.str "/claim/cut.py" 635), (.int 136 0), (.int 2 0), (.int 0 0), (.int 0 0), (.int 3 0), (.ref 231), (.bool true), (.int 276 0), (.ref 232), .none, (.ref 233), (.ref 234), (.ref 235), (.int 638 0), (.int 136 0), (.str "/claim/cut.py" 639)]) #[]) ::
  (.mk (.type "function") none (.func (fdP (stB 11 7) "Headers.get_all" 3 [] .none .none .none (.str "cpy313.wsgiref.headers" 457) none (.ref 236) .none 0)) #[]) ::
  (.mk (.type "tuple") none (.seq #[.none] 0) #[]) ::
  (.mk (.type "tuple") none (.seq #[] 0) #[]) ::
  (.mk .none none (.fields #[]) #[]) ::
  (.mk (.type "tuple") none (.seq #[(.str "self" 644), (.str "name" 645), (.str "default" 646), (.str "k" 647), (.str "v" 648)] 0) #[]) ::
  (.mk (.type "tuple") none (.seq #[] 0) #[]) ::
  (.mk .none none (.func (fdP (stB 11 8) "Headers.get" 0 [] .none .none .none .none none .none .none 0)) #[]) ::
  (.mk (.type "code") none (.fields #[(.str "get" 641), (.str "Headers.get" 642), (.str "/claim/cut.py" 643), (.int 139 0), (.int 3 0), (.int 0 0), (.int 0 0), (.int 3 0), (.ref 239), (.bool true), (.int 276 0), (.ref 240), .none, (.ref 241), (.ref 242), (.ref 243), (.int 649 0), (.int 139 0), (.str "/claim/cut.py" 650)]) #[]) ::
  (.mk (.type "function") none (.func (fdP (stB 11 8) "Headers.get" 3 [] (.ref 238) .none .none (.str "cpy313.wsgiref.headers" 457) none (.ref 244) .none 0)) #[]) ::
  (.mk (.type "tuple") none (.seq #[] 0) #[]) ::
  (.mk .none none (.fields #[]) #[]) ::
  (.mk .none none (.func (fdP (stB 11 9) "Headers.keys" 0 [] .none .none .none .none none .none .none 0)) #[]) ::
  (.mk (.type "code") none (.fields #[(.str "keys" 652), (.str "Headers.keys" 653), (.str "/claim/cut.py" 654), (.int 146 0), (.int 1 0), (.int 0 0), (.int 0 0), (.int 3 0), (.ref 246), (.bool true), (.int 276 0), (.ref 247), .none, .none, .none, (.ref 248), (.int 655 0), (.int 146 0), (.str "/claim/cut.py" 656)]) #[]) ::
  (.mk (.type "function") none (.func (fdP (stB 11 9) "Headers.keys" 3 [] .none .none .none (.str "cpy313.wsgiref.headers" 457) none (.ref 249) .none 0)) #[]) ::
  (.mk (.type "tuple") none (.seq #[] 0) #[]) ::
  (.mk .none none (.fields #[]) #[]) ::
  (.mk .none none (.func (fdP (stB 11 10) "Headers.values" 0 [] .none .none .none .none none .none .none 0)) #[]) ::
  (.mk (.type "code") none (.fields #[(.str "values" 658), (.str "Headers.values" 659), (.str "/claim/cut.py" 660), (.int 149 0), (.int 1 0), (.int 0 0), (.int 0 0), (.int 3 0), (.ref 251), (.bool true), (.int 276 0), (.ref 252), .none, .none, .none, (.ref 253), (.int 661 0), (.int 149 0), (.str "/claim/cut.py" 662)]) #[]) ::
  (.mk (.type "function") none (.func (fdP (stB 11 10) "Headers.values" 3 [] .none .none .none (.str "cpy313.wsgiref.headers" 457) none (.ref 254) .none 0)) #[]) ::
  (.mk (.type "tuple") none (.seq #[] 0) #[]) ::
  (.mk .none none (.fields #[]) #[]) ::
  (.mk (.type "tuple") none (.seq #[(.str "self" 667)] 0) #[]) ::
  (.mk (.type "tuple") none (.seq #[] 0) #[]) ::
  (.mk .none none (.func (fdP (stB 11 11) "Headers.items" 0 [] .none .none .none .none none .none .none 0)) #[]) ::
  (.mk (.type "code") none (.fields #[(.str "items" 664), (.str "Headers.items" 665), (.str "/claim/cut.py" 666), (.int 152 0), (.int 1 0), (.int 0 0), (.int 0 0), (.int 3 0), (.ref 256), (.bool true), (.int 276 0), (.ref 257), .none, (.ref 258), (.ref 259), (.ref 260), (.int 668 0), (.int 152 0), (.str "/claim/cut.py" 669)]) #[]) ::
  (.mk (.type "function") none (.func (fdP (stB 11 11) "Headers.items" 3 [] .none .none .none (.str "cpy313.wsgiref.headers" 457) none (.ref 261) .none 0)) #[]) ::
  (.mk (.type "tuple") none (.seq #[] 0) #[]) ::
  (.mk .none none (.fields #[]) #[]) ::
  (.mk (.type "tuple") none (.seq #[(.str "self" 674)] 0) #[]) ::
  (.mk (.type "tuple") none (.seq #[] 0) #[]) ::
  (.mk .none none (.func (fdP (stB 11 12) "Headers.__repr__" 0 [] .none .none .none .none none .none .none 0)) #[]) ::
  (.mk (.type "code") none (.fields #[(.str "__repr__" 671), (.str "Headers.__repr__" 672), (.str "/claim/cut.py" 673), (.int 155 0), (.int 1 0), (.int 0 0), (.int 0 0), (.int 3 0), (.ref 263), (.bool true), (.int 276 0), (.ref 264), .none, (.ref 265), (.ref 266), (.ref 267), (.int 675 0), (.int 155 0), (.str "/claim/cut.py" 676)]) #[]) ::
  (.mk (.type "function") none (.func (fdP (stB 11 12) "Headers.__repr__" 3 [] .none .none .none (.str "cpy313.wsgiref.headers" 457) none (.ref 268) .none 0)) #[]) ::
  (.mk (.type "tuple") none (.seq #[] 0) #[]) ::
  (.mk .none none (.fields #[]) #[]) ::
  (.mk .none none (.func (fdP (stB 11 13) "Headers.__str__" 0 [] .none .none .none .none none .none .none 0)) #[]) ::
  (.mk (.type "code") none (.fields #[(.str "__str__" 678), (.str "Headers.__str__" 679), (.str "/claim/cut.py" 680), (.int 158 0), (.int 1 0), (.int 0 0), (.int 0 0), (.int 3 0), (.ref 270), (.bool true), (.int 276 0), (.ref 271), .none, .none, .none, (.ref 272), (.int 681 0), (.int 158 0), (.str "/claim/cut.py" 682)]) #[]) ::
  (.mk (.type "function") none (.func (fdP (stB 11 13) "Headers.__str__" 3 [] .none .none .none (.str "cpy313.wsgiref.headers" 457) none (.ref 273) .none 0)) #[]) ::
  (.mk (.type "tuple") none (.seq #[] 0) #[]) ::
  (.mk .none none (.fields #[]) #[]) ::
  (.mk (.type "tuple") none (.seq #[(.str "self" 687)] 0) #[]) ::
  (.mk (.type "tuple") none (.seq #[] 0) #[]) ::
  (.mk .none none (.func (fdP (stB 11 14) "Headers.__bytes__" 0 [] .none .none .none .none none .none .none 0)) #[]) ::
  (.mk (.type "code") none (.fields #[(.str "__bytes__" 684), (.str "Headers.__bytes__" 685), (.str "/claim/cut.py" 686), (.int 161 0), (.int 1 0), (.int 0 0), (.int 0 0), (.int 3 0), (.ref 275), (.bool true), (.int 276 0), (.ref 276), .none, (.ref 277), (.ref 278), (.ref 279), (.int 688 0), (.int 161 0), (.str "/claim/cut.py" 689)]) #[]) ::
  (.mk (.type "function") none (.func (fdP (stB 11 14) "Headers.__bytes__" 3 [] .none .none .none (.str "cpy313.wsgiref.headers" 457) none (.ref 280) .none 0)) #[]) ::
  (.mk (.type "tuple") none (.seq #[] 0) #[]) ::
  (.mk .none none (.fields #[]) #[]) ::
  (.mk (.type "tuple") none (.seq #[(.str "self" 694), (.str "name" 695), (.str "value" 696), (.str "result" 697)] 0) #[]) ::
  (.mk (.type "tuple") none (.seq #[] 0) #[]) ::
  (.mk .none none (.func (fdP (stB 11 15) "Headers.setdefault" 0 [] .none .none .none .none none .none .none 0)) #[]) ::
  (.mk (.type "code") none (.fields #[(.str "setdefault" 691), (.str "Headers.setdefault" 692), (.str "/claim/cut.py" 693), (.int 164 0), (.int 3 0), (.int 0 0), (.int 0 0), (.int 3 0), (.ref 282), (.bool true), (.int 276 0), (.ref 283), .none, (.ref 284), (.ref 285), (.ref 286), (.int 698 0), (.int 164 0), (.str "/claim/cut.py" 699)]) #[]) ::
  (.mk (.type "function") none (.func (fdP (stB 11 15) "Headers.setdefault" 3 [] .none .none .none (.str "cpy313.wsgiref.headers" 457) none (.ref 287) .none 0)) #[]) ::
  (.mk (.type "tuple") none (.seq #[] 0) #[]) ::
  (.mk .none none (.fields #[]) #[]) ::
  (.mk (.type "tuple") none (.seq #[(.str "self" 704), (.str "_name" 705), (.str "_value" 706), (.str "_params" 707), (.str "parts" 708), (.str "k" 709), (.str "v" 710)] 0) #[]) ::
  (.mk (.type "tuple") none (.seq #[] 0) #[]) ::
  (.mk .none none (.func (fdP (stB 11 16) "Headers.add_header" 0 [] .none .none .none .none none .none .none 0)) #[]) ::
  (.mk (.type "code") none (.fields #[(.str "add_header" 701), (.str "Headers.add_header" 702), (.str "/claim/cut.py" 703), (.int 172 0), (.int 3 0), (.int 0 0), (.int 0 0), (.int 11 0), (.ref 289), (.bool true), (.int 276 0), (.ref 290), .none, (.ref 291), (.ref 292), (.ref 293), (.int 711 0), (.int 172 0), (.str "/claim/cut.py" 712)]) #[]) ::
  (.mk (.type "function") none (.func (fdP (stB 11 16) "Headers.add_header" 3 [] .none .none .none (.str "cpy313.wsgiref.headers" 457) none (.ref 294) .none 0)) #[]) ::
  (.mk (.type "tuple") none (.seq #[(.str "_headers" 714)] 0) #[]) ::
  (.mk (.type "dict") none (.dict #[(.mk (PyData.keyHash P "__module__") (.str "__module__" 570) (.str "cpy313.wsgiref.headers" 457)), (.mk (PyData.keyHash P "__firstlineno__") (.str "__firstlineno__" 574) (.int 99 573)), (.mk (PyData.keyHash P "__init__") (.str "__init__" 584) (.ref 190)), (.mk (PyData.keyHash P "_convert_string_type") (.str "_convert_string_type" 594) (.ref 197)), (.mk (PyData.keyHash P "__len__") (.str "__len__" 601) (.ref 204)), (.mk (PyData.keyHash P "__setitem__") (.str "__setitem__" 610) (.ref 211)), (.mk (PyData.keyHash P "__delitem__") (.str "__delitem__" 616) (.ref 216)), (.mk (PyData.keyHash P "__getitem__") (.str "__getitem__" 624) (.ref 223)), (.mk (PyData.keyHash P "__contains__") (.str "__contains__" 632) (.ref 230)), (.mk (PyData.keyHash P "get_all") (.str "get_all" 640) (.ref 237)), (.mk (PyData.keyHash P "get") (.str "get" 651) (.ref 245)), (.mk (PyData.keyHash P "keys") (.str "keys" 657) (.ref 250)), (.mk (PyData.keyHash P "values") (.str "values" 663) (.ref 255)), (.mk (PyData.keyHash P "items") (.str "items" 670) (.ref 262)), (.mk (PyData.keyHash P "__repr__") (.str "__repr__" 677) (.ref 269)), (.mk (PyData.keyHash P "__str__") (.str "__str__" 683) (.ref 274)), (.mk (PyData.keyHash P "__bytes__") (.str "__bytes__" 690) (.ref 281)), (.mk (PyData.keyHash P "setdefault") (.str "setdefault" 700) (.ref 288)), (.mk (PyData.keyHash P "add_header") (.str "add_header" 713) (.ref 295)), (.mk (PyData.keyHash P "__static_attributes__") (.str "__static_attributes__" 715) (.ref 296)), (.mk (PyData.keyHash P "__dict__") (.str "__dict__" 717) (.ref 299)), (.mk (PyData.keyHash P "__weakref__") (.str "__weakref__" 719) (.ref 300)), (.mk (PyData.keyHash P "__doc__") (.str "__doc__" 720) .none)] 4) #[]) ::
  (.mk (.type "type") none (.cls (ClassData.mk "Headers" [(.type "object")] [(.ref 298), (.type "object")] 297 "Headers" true [] [] false none false)) #[none, none, (some (.str "Headers" 563)), (some (.str "Headers" 571)), (some (.builtin "object.__new__")), (some (.bool true))]) ::
  (.mk (.type "getset_descriptor") none (.fields #[(.str "__dict__" 716), (.ref 298), (.builtin "function.__dict__"), (.builtin "function.__dict__#set")]) #[]) ::
  (.mk (.type "getset_descriptor") none (.fields #[(.str "__weakref__" 718), (.ref 298), (.builtin "ExceptionGroup.__weakref__"), .none]) #[]) ::
  (.mk (.type "super") none (.fields #[(.ref 298), (.ref 298), (.ref 298)]) #[]) ::
  (.mk (.type "builtin_function_or_method") none (.fields #[(.builtin "object.__init_subclass__"), (.ref 298)]) #[]) ::
  (.mk (.type "tuple") none (.seq #[] 0) #[]) ::
  (.mk .none none (.fields #[]) #[]) ::
  (.mk (.type "tuple") none (.seq #[(.str "script" 728), (.str "deeper" 729), (.str "crooked" 730), (.str "names" 731), (.str "opened" 732), (.str "rows" 733), (.str "place" 734), (.str "number" 735), (.str "rest" 736), (.str "move" 737), (.str "which" 738), (.str "deed" 739), (.str "word" 740), (.str "lead" 741), (.str "runs" 742)] 0) #[]) ::
  (.mk (.type "tuple") none (.seq #[] 0) #[]) ::
  (.mk .none none (.func (fdP (stA 13) "_law_rows" 0 [] .none .none .none .none none .none .none 0)) #[]) ::
  (.mk (.type "code") none (.fields #[(.str "_law_rows" 725), (.str "_law_rows" 726), (.str "/claim/cut.py" 727), (.int 186 0), (.int 1 0), (.int 0 0), (.int 0 0), (.int 3 0), (.ref 303), (.bool true), (.int 276 0), (.ref 304), .none, (.ref 305), (.ref 306), (.ref 307), (.int 743 0), (.int 186 0), (.str "/claim/cut.py" 744)]) #[]) ::
  (.mk (.type "function") none (.func (fdP (stA 13) "_law_rows" 3 [] .none .none .none (.str "law_pe0273_01" 723) none (.ref 308) .none 0)) #[]) ::
  (.mk (.type "tuple") none (.seq #[] 0) #[]) ::
  (.mk .none none (.fields #[]) #[]) ::
  (.mk (.type "tuple") none (.seq #[(.str "rows" 749), (.str "told" 750), (.str "pile" 751), (.str "tables" 752), (.str "place" 753), (.str "lead" 754), (.str "deed" 755), (.str "name" 756), (.str "kind" 757), (.str "value" 758), (.str "here" 759), (.str "words" 760), (.str "table" 761), (.str "answer" 762)] 0) #[]) ::
  (.mk (.type "tuple") none (.seq #[] 0) #[]) ::
  (.mk .none none (.func (fdP (stA 14) "_law_read" 0 [] .none .none .none .none none .none .none 0)) #[]) ::
  (.mk (.type "code") none (.fields #[(.str "_law_read" 746), (.str "_law_read" 747), (.str "/claim/cut.py" 748), (.int 207 0), (.int 2 0), (.int 0 0), (.int 0 0), (.int 3 0), (.ref 310), (.bool true), (.int 276 0), (.ref 311), .none, (.ref 312), (.ref 313), (.ref 314), (.int 763 0), (.int 207 0), (.str "/claim/cut.py" 764)]) #[]) ::
  (.mk (.type "function") none (.func (fdP (stA 14) "_law_read" 3 [] .none .none .none (.str "law_pe0273_01" 723) none (.ref 315) .none 0)) #[]) ::
  (.mk (.type "tuple") none (.seq #[] 0) #[]) ::
  (.mk .none none (.fields #[]) #[]) ::
  (.mk (.type "tuple") none (.seq #[(.str "rows" 769), (.str "told" 770), (.str "nag" 771)] 0) #[]) ::
  (.mk (.type "tuple") none (.seq #[] 0) #[]) ::
  (.mk .none none (.func (fdP (stA 15) "_law_told" 0 [] .none .none .none .none none .none .none 0)) #[]) ::
  (.mk (.type "code") none (.fields #[(.str "_law_told" 766), (.str "_law_told" 767), (.str "/claim/cut.py" 768), (.int 232 0), (.int 1 0), (.int 0 0), (.int 0 0), (.int 3 0), (.ref 317), (.bool true), (.int 276 0), (.ref 318), .none, (.ref 319), (.ref 320), (.ref 321), (.int 772 0), (.int 232 0), (.str "/claim/cut.py" 773)]) #[]) ::
  (.mk (.type "function") none (.func (fdP (stA 15) "_law_told" 3 [] .none .none .none (.str "law_pe0273_01" 723) none (.ref 322) .none 0)) #[]) ::
  (.mk (.type "tuple") none (.seq #[] 0) #[]) ::
  (.mk .none none (.fields #[]) #[]) ::
  (.mk (.type "tuple") none (.seq #[(.str "lead" 778), (.str "columns" 779), (.str "size" 780), (.str "column" 781), (.str "sign" 782)] 0) #[]) ::
  (.mk (.type "tuple") none (.seq #[] 0) #[]) ::
  (.mk .none none (.func (fdP (stA 16) "_law_columns" 0 [] .none .none .none .none none .none .none 0)) #[]) ::
  (.mk (.type "code") none (.fields #[(.str "_law_columns" 775), (.str "_law_columns" 776), (.str "/claim/cut.py" 777), (.int 239 0), (.int 1 0), (.int 0 0), (.int 0 0), (.int 3 0), (.ref 324), (.bool true), (.int 276 0), (.ref 325), .none, (.ref 326), (.ref 327), (.ref 328), (.int 783 0), (.int 239 0), (.str "/claim/cut.py" 784)]) #[]) ::
  (.mk (.type "function") none (.func (fdP (stA 16) "_law_columns" 3 [] .none .none .none (.str "law_pe0273_01" 723) none (.ref 329) .none 0)) #[]) ::
  (.mk (.type "tuple") none (.seq #[] 0) #[]) ::
  (.mk .none none (.fields #[]) #[]) ::
  (.mk .none none (.func (fdP (stA 17) "_law_below" 0 [] .none .none .none .none none .none .none 0)) #[]) ::
  (.mk (.type "code") none (.fields #[(.str "_law_below" 786), (.str "_law_below" 787), (.str "/claim/cut.py" 788), (.int 247 0), (.int 2 0), (.int 0 0), (.int 0 0), (.int 3 0), (.ref 331), (.bool true), (.int 276 0), (.ref 332), .none, .none, .none, (.ref 333), (.int 789 0), (.int 247 0), (.str "/claim/cut.py" 790)]) #[]) ::
  (.mk (.type "function") none (.func (fdP (stA 17) "_law_below" 3 [] .none .none .none (.str "law_pe0273_01" 723) none (.ref 334) .none 0)) #[]) ::
  (.mk (.type "tuple") none (.seq #[] 0) #[]) ::
  (.mk .none none (.fields #[]) #[]) ::
  (.mk .none none (.func (fdP (stA 18) "_law_words" 0 [] .none .none .none .none none .none .none 0)) #[]) ::
  (.mk (.type "code") none (.fields #[(.str "_law_words" 792), (.str "_law_words" 793), (.str "/claim/cut.py" 794), (.int 249 0), (.int 2 0), (.int 0 0), (.int 0 0), (.int 3 0), (.ref 336), (.bool true), (.int 276 0), (.ref 337), .none, .none, .none, (.ref 338), (.int 795 0), (.int 249 0), (.str "/claim/cut.py" 796)]) #[]) ::
  (.mk (.type "function") none (.func (fdP (stA 18) "_law_words" 3 [] .none .none .none (.str "law_pe0273_01" 723) none (.ref 339) .none 0)) #[]) ::
  (.mk (.type "tuple") none (.seq #[] 0) #[]) ::
  (.mk .none none (.fields #[]) #[]) ::
  (.mk .none none (.func (fdP (stA 19) "_law_standing" 0 [] .none .none .none .none none .none .none 0)) #[]) ::
  (.mk (.type "code") none (.fields #[(.str "_law_standing" 798), (.str "_law_standing" 799), (.str "/claim/cut.py" 800), (.int 254 0), (.int 3 0), (.int 0 0), (.int 0 0), (.int 3 0), (.ref 341), (.bool true), (.int 276 0), (.ref 342), .none, .none, .none, (.ref 343), (.int 801 0), (.int 254 0), (.str "/claim/cut.py" 802)]) #[]) ::
  (.mk (.type "function") none (.func (fdP (stA 19) "_law_standing" 3 [] .none .none .none (.str "law_pe0273_01" 723) none (.ref 344) .none 0)) #[]) ::
  (.mk (.type "tuple") none (.seq #[] 0) #[]) ::
  (.mk .none none (.fields #[]) #[]) ::
  (.mk .none none (.func (fdP (stA 20) "_law_due" 0 [] .none .none .none .none none .none .none 0)) #[]) ::
  (.mk (.type "code") none (.fields #[(.str "_law_due" 804), (.str "_law_due" 805), (.str "/claim/cut.py" 806), (.int 261 0), (.int 1 0), (.int 0 0), (.int 0 0), (.int 3 0), (.ref 346), (.bool true), (.int 276 0), (.ref 347), .none, .none, .none, (.ref 348), (.int 807 0), (.int 261 0), (.str "/claim/cut.py" 808)]) #[]) ::
  (.mk (.type "function") none (.func (fdP (stA 20) "_law_due" 3 [] .none .none .none (.str "law_pe0273_01" 723) none (.ref 349) .none 0)) #[]) ::
  (.mk (.type "tuple") none (.seq #[] 0) #[]) ::
  (.mk .none none (.fields #[]) #[]) ::
  (.mk (.type "tuple") none (.seq #[(.str "script" 813), (.str "rows" 814)] 0) #[]) ::
  (.mk (.type "tuple") none (.seq #[] 0) #[]) ::
  (.mk .none none (.func (fdP (stA 21) "law" 0 [] .none .none .none .none none .none .none 0)) #[]) ::
  (.mk (.type "code") none (.fields #[(.str "law" 810), (.str "law" 811), (.str "/claim/cut.py" 812), (.int 281 0), (.int 1 0), (.int 0 0), (.int 0 0), (.int 3 0), (.ref 351), (.bool true), (.int 276 0), (.ref 352), .none, (.ref 353), (.ref 354), (.ref 355), (.int 815 0), (.int 281 0), (.str "/claim/cut.py" 816)]) #[]) ::
  (.mk (.type "function") none (.func (fdP (stA 21) "law" 3 [] .none .none .none (.str "law_pe0273_01" 723) none (.ref 356) .none 0)) #[]) :: [])
noncomputable def h1 (P : Params) : Heap := Heap.mk (Array.mk (obs P)) {}
end
section
noncomputable def obsAt (P : Params) (n : Nat) (g f : Obj) : List Obj := (((obs P).take n).set 3 g).set 29 f
noncomputable def alt : Bool → List Obj → List Obj
  | _, [] => []
  | true, x :: r => x :: alt false r
  | false, _ :: r => alt true r
noncomputable def bt : Nat → List Obj → BT
  | 0, _ => .nil
  | _ + 1, [] => .nil
  | n + 1, o :: r => .node o (bt n (alt true r)) (bt n (alt false r))
noncomputable def g43 (P : Params) : Obj := (.mk .none none (.dict #[(.mk (PyData.keyHash P "\x69mport.loaded._sre") (.str "\x69mport.loaded._sre" 183) (.bool .true)), (.mk (PyData.keyHash P "class._frozen_importlib.BuiltinImporter") (.str "class._frozen_importlib.BuiltinImporter" 185) (.ref 14)), (.mk (PyData.keyHash P "watched.\x69mport") (.str "watched.\x69mport" 206) (.ref 18)), (.mk (PyData.keyHash P "class._frozen_importlib.ModuleSpec") (.str "class._frozen_importlib.ModuleSpec" 216) (.ref 22)), (.mk (PyData.keyHash P "sys.modules.booked-epoch") (.str "sys.modules.booked-epoch" 245) (.int 3 0)), (.mk (PyData.keyHash P "\x69mport.later-laid._sre") (.str "\x69mport.later-laid._sre" 270) (.bool .true)), (.mk (PyData.keyHash P "watched.library") (.str "watched.library" 272) (.ref 27)), (.mk (PyData.keyHash P "watched.library-objects") (.str "watched.library-objects" 0) (.str "\x0c" 0)), (.mk (PyData.keyHash P "watched.library-deep._sre") (.str "watched.library-deep._sre" 273) (.str "\x04\x00\x00\x0b\x04\x00\x00\x0b\x04\x00\x00\x03\x04\x00\x00\x0b\x08\x04dict\x02" 0))] 9) #[])
noncomputable def g44 (P : Params) : Obj := (.mk (.type "dict") none (.dict #[(.mk (PyData.keyHash P "__name__") (.str "__name__" 165) (.str "__main__" 164)), (.mk (PyData.keyHash P "__doc__") (.str "__doc__" 166) .none), (.mk (PyData.keyHash P "__package__") (.str "__package__" 167) .none), (.mk (PyData.keyHash P "__loader__") (.str "__loader__" 168) (.builtin "__main__.__loader__#opaque")), (.mk (PyData.keyHash P "__spec__") (.str "__spec__" 169) .none), (.mk (PyData.keyHash P "__annotations__") (.str "__annotations__" 170) (.ref 6)), (.mk (PyData.keyHash P "__builtins__") (.str "__builtins__" 171) (.ref 4)), (.mk (PyData.keyHash P "__file__") (.str "__file__" 173) (.str "/claim/cut.py" 172)), (.mk (PyData.keyHash P "__cached__") (.str "__cached__" 174) .none), (.mk (PyData.keyHash P "_sre") (.str "_sre" 275) (.ref 12))] 10) #[])
noncomputable def g70 (P : Params) : Obj := (.mk .none none (.fields #[]) #[])
noncomputable def g76 (P : Params) : Obj := (.mk (.type "dict") none (.dict #[(.mk (PyData.keyHash P "__name__") (.str "__name__" 165) (.str "cpy313.tabnanny" 289)), (.mk (PyData.keyHash P "__doc__") (.str "__doc__" 166) .none), (.mk (PyData.keyHash P "__package__") (.str "__package__" 167) .none), (.mk (PyData.keyHash P "__loader__") (.str "__loader__" 168) (.builtin "__main__.__loader__#opaque")), (.mk (PyData.keyHash P "__spec__") (.str "__spec__" 169) .none), (.mk (PyData.keyHash P "__annotations__") (.str "__annotations__" 170) (.ref 6)), (.mk (PyData.keyHash P "__builtins__") (.str "__builtins__" 171) (.ref 4)), (.mk (PyData.keyHash P "__file__") (.str "__file__" 173) (.str "/claim/cut.py" 172)), (.mk (PyData.keyHash P "__cached__") (.str "__cached__" 174) .none), (.mk (PyData.keyHash P "_sre") (.str "_sre" 275) (.ref 12)), (.mk (PyData.keyHash P "_wall") (.str "_wall" 288) (.ref 38)), (.mk (PyData.keyHash P "NannyNag") (.str "NannyNag" 344) (.ref 76))] 12) #[])
noncomputable def g77 (P : Params) : Obj := (.mk .none none (.fields #[(.int 2 0), (.int 0 0), (.ref 37), (.int 6 0), (.int 0 0), (.ref 44)]) #[])
noncomputable def g126 (P : Params) : Obj := (.mk (.type "dict") none (.dict #[(.mk (PyData.keyHash P "__name__") (.str "__name__" 165) (.str "cpy313.tabnanny" 289)), (.mk (PyData.keyHash P "__doc__") (.str "__doc__" 166) .none), (.mk (PyData.keyHash P "__package__") (.str "__package__" 167) .none), (.mk (PyData.keyHash P "__loader__") (.str "__loader__" 168) (.builtin "__main__.__loader__#opaque")), (.mk (PyData.keyHash P "__spec__") (.str "__spec__" 169) .none), (.mk (PyData.keyHash P "__annotations__") (.str "__annotations__" 170) (.ref 6)), (.mk (PyData.keyHash P "__builtins__") (.str "__builtins__" 171) (.ref 4)), (.mk (PyData.keyHash P "__file__") (.str "__file__" 173) (.str "/claim/cut.py" 172)), (.mk (PyData.keyHash P "__cached__") (.str "__cached__" 174) .none), (.mk (PyData.keyHash P "_sre") (.str "_sre" 275) (.ref 12)), (.mk (PyData.keyHash P "_wall") (.str "_wall" 288) (.ref 38)), (.mk (PyData.keyHash P "NannyNag") (.str "NannyNag" 344) (.ref 76)), (.mk (PyData.keyHash P "Whitespace") (.str "Whitespace" 447) (.ref 141))] 13) #[])
noncomputable def g127 (P : Params) : Obj := (.mk .none none (.fields #[(.int 2 0), (.int 0 0), (.ref 37), (.int 6 0), (.int 0 0), (.ref 44), (.int 19 0), (.int 0 0), (.ref 85)]) #[])
noncomputable def g196 (P : Params) : Obj := (.mk (.type "dict") none (.dict #[(.mk (PyData.keyHash P "__name__") (.str "__name__" 165) (.str "cpy313.wsgiref.headers" 457)), (.mk (PyData.keyHash P "__doc__") (.str "__doc__" 166) .none), (.mk (PyData.keyHash P "__package__") (.str "__package__" 167) .none), (.mk (PyData.keyHash P "__loader__") (.str "__loader__" 168) (.builtin "__main__.__loader__#opaque")), (.mk (PyData.keyHash P "__spec__") (.str "__spec__" 169) .none), (.mk (PyData.keyHash P "__annotations__") (.str "__annotations__" 170) (.ref 6)), (.mk (PyData.keyHash P "__builtins__") (.str "__builtins__" 171) (.ref 4)), (.mk (PyData.keyHash P "__file__") (.str "__file__" 173) (.str "/claim/cut.py" 172)), (.mk (PyData.keyHash P "__cached__") (.str "__cached__" 174) .none), (.mk (PyData.keyHash P "_sre") (.str "_sre" 275) (.ref 12)), (.mk (PyData.keyHash P "_wall") (.str "_wall" 288) (.ref 38)), (.mk (PyData.keyHash P "NannyNag") (.str "NannyNag" 344) (.ref 76)), (.mk (PyData.keyHash P "Whitespace") (.str "Whitespace" 447) (.ref 141)), (.mk (PyData.keyHash P "format_witnesses") (.str "format_witnesses" 456) (.ref 152)), (.mk (PyData.keyHash P "tspecials") (.str "tspecials" 492) (.ref 157)), (.mk (PyData.keyHash P "_name_disallowed_re") (.str "_name_disallowed_re" 518) (.ref 162)), (.mk (PyData.keyHash P "_value_disallowed_re") (.str "_value_disallowed_re" 552) (.ref 167)), (.mk (PyData.keyHash P "_formatparam") (.str "_formatparam" 562) (.ref 175))] 18) #[])
noncomputable def g197 (P : Params) : Obj := (.mk .none none (.fields #[(.int 2 0), (.int 0 0), (.ref 37), (.int 6 0), (.int 0 0), (.ref 44), (.int 19 0), (.int 0 0), (.ref 85), (.int 80 0), (.int 0 0), (.ref 151), (.int 90 0), (.int 0 0), (.ref 174)]) #[])
noncomputable def g228 (P : Params) : Obj := (.mk (.type "dict") none (.dict #[(.mk (PyData.keyHash P "__name__") (.str "__name__" 165) (.str "cpy313.wsgiref.headers" 457)), (.mk (PyData.keyHash P "__doc__") (.str "__doc__" 166) .none), (.mk (PyData.keyHash P "__package__") (.str "__package__" 167) .none), (.mk (PyData.keyHash P "__loader__") (.str "__loader__" 168) (.builtin "__main__.__loader__#opaque")), (.mk (PyData.keyHash P "__spec__") (.str "__spec__" 169) .none), (.mk (PyData.keyHash P "__annotations__") (.str "__annotations__" 170) (.ref 6)), (.mk (PyData.keyHash P "__builtins__") (.str "__builtins__" 171) (.ref 4)), (.mk (PyData.keyHash P "__file__") (.str "__file__" 173) (.str "/claim/cut.py" 172)), (.mk (PyData.keyHash P "__cached__") (.str "__cached__" 174) .none), (.mk (PyData.keyHash P "_sre") (.str "_sre" 275) (.ref 12)), (.mk (PyData.keyHash P "_wall") (.str "_wall" 288) (.ref 38)), (.mk (PyData.keyHash P "NannyNag") (.str "NannyNag" 344) (.ref 76)), (.mk (PyData.keyHash P "Whitespace") (.str "Whitespace" 447) (.ref 141)), (.mk (PyData.keyHash P "format_witnesses") (.str "format_witnesses" 456) (.ref 152)), (.mk (PyData.keyHash P "tspecials") (.str "tspecials" 492) (.ref 157)), (.mk (PyData.keyHash P "_name_disallowed_re") (.str "_name_disallowed_re" 518) (.ref 162)), (.mk (PyData.keyHash P "_value_disallowed_re") (.str "_value_disallowed_re" 552) (.ref 167)), (.mk (PyData.keyHash P "_formatparam") (.str "_formatparam" 562) (.ref 175)), (.mk (PyData.keyHash P "Headers") (.str "Headers" 722) (.ref 298))] 19) #[])
noncomputable def g229 (P : Params) : Obj := (.mk .none none (.fields #[(.int 2 0), (.int 0 0), (.ref 37), (.int 6 0), (.int 0 0), (.ref 44), (.int 19 0), (.int 0 0), (.ref 85), (.int 80 0), (.int 0 0), (.ref 151), (.int 90 0), (.int 0 0), (.ref 174), (.int 99 0), (.int 0 0), (.ref 181)]) #[])
noncomputable def d0 : Drawn := { order := 0, schedule := 0, lifetime := 0, other := 0 }
noncomputable def h0 (P : Params) : Heap := Heap.mk (Array.mk ((((obs P).take 28).set 2 (g43 P)).set 3 (g44 P))) {}
noncomputable def l2 (P : Params) : List Obj := (obsAt P 32 (g44 P) (g70 P)).set 2 (g43 P)
noncomputable def env1 : Env := { scope := pw0.main.scope, locals := mainNs, globals := mainNs, cells := [], code := .ref 30, frame := some 31 }
noncomputable abbrev bhd : List Stmt := behindTheImports pw0
noncomputable abbrev c1 : Code := Code.body bhd env1
abbrev z0 : Pos := ⟨0, 0, 0, 0⟩
abbrev q1 : Pos := ⟨6, 0, 18, 24⟩
abbrev q2 : Pos := ⟨19, 0, 79, 16⟩
abbrev q3 : Pos := ⟨90, 0, 98, 20⟩
abbrev q4 : Pos := ⟨99, 0, 184, 93⟩
abbrev q5 : Pos := ⟨281, 0, 283, 44⟩
abbrev fr0 : List Frame := [topFrame z0]
noncomputable abbrev sT (l : List Obj) (n tk : Nat) (os : OsState) : SharedT := ⟨bt 10 l, n, {}, Array.mk [], d0, tk, os⟩
noncomputable abbrev t0 (P : Params) (os : OsState) : SharedT := sT (l2 P) 32 282 os
noncomputable abbrev t1 (P : Params) (os : OsState) : SharedT := sT (obsAt P 80 (g76 P) (g77 P)) 80 345 os
noncomputable abbrev t2 (P : Params) (os : OsState) : SharedT := sT (obsAt P 146 (g126 P) (g127 P)) 146 448 os
noncomputable abbrev t3 (P : Params) (os : OsState) : SharedT := sT (obsAt P 176 (g196 P) (g197 P)) 176 563 os
noncomputable abbrev t4 (P : Params) (os : OsState) : SharedT := sT (obsAt P 303 (g228 P) (g229 P)) 303 723 os
noncomputable abbrev t5 (P : Params) (os : OsState) : SharedT := sT (obs P) 358 818 os
end
section
set_option maxHeartbeats 0 in
theorem pc1 (w : World) (os) : segRunT treeTable pw0 w 28 (some (.ref 6)) 1 364 (t0 w.params os) (piecesOf (bhd.take 3) env1 c1 z0 fr0) = some (.next, t1 w.params os, c1, q1) := by
  rw [PySem.W.Fast.te10110043849684766642, PySem.W.Fast.te14364793385576792824]
  kernel_rfl
end
section
set_option maxHeartbeats 0 in
theorem pc2F (w : World) (os) : segRunT treeTable pw0 (w.withFollow "special-get-raises" false) 28 (some (.ref 6)) 1 496 (t1 (w.withFollow "special-get-raises" false).params os) (piecesOf ((bhd.drop 3).take 1) env1 c1 q1 fr0) = some (.next, t2 (w.withFollow "special-get-raises" false).params os, c1, q2) := by
  rw [PySem.W.Fast.te10110043849684766642, PySem.W.Fast.te14364793385576792824]
  kernel_rfl
set_option maxHeartbeats 0 in
theorem pc2T (w : World) (os) : segRunT treeTable pw0 (w.withFollow "special-get-raises" true) 28 (some (.ref 6)) 1 496 (t1 (w.withFollow "special-get-raises" true).params os) (piecesOf ((bhd.drop 3).take 1) env1 c1 q1 fr0) = some (.next, t2 (w.withFollow "special-get-raises" true).params os, c1, q2) := by
  rw [PySem.W.Fast.te10110043849684766642, PySem.W.Fast.te14364793385576792824]
  kernel_rfl
end
section
set_option maxHeartbeats 0 in
theorem pc3 (w : World) (os) : segRunT treeTable pw0 w 28 (some (.ref 6)) 1 297 (t2 w.params os) (piecesOf ((bhd.drop 4).take 6) env1 c1 q2 fr0) = some (.next, t3 w.params os, c1, q3) := by
  rw [PySem.W.Fast.te10110043849684766642, PySem.W.Fast.te14364793385576792824]
  kernel_rfl
end
section
set_option maxHeartbeats 0 in
theorem pc4 (w : World) (os) : segRunT treeTable pw0 w 28 (some (.ref 6)) 1 732 (t3 w.params os) (piecesOf ((bhd.drop 10).take 1) env1 c1 q3 fr0) = some (.next, t4 w.params os, c1, q4) := by
  rw [PySem.W.Fast.te10110043849684766642, PySem.W.Fast.te14364793385576792824]
  kernel_rfl
end
section
set_option maxHeartbeats 0 in
theorem pc5 (w : World) (os) : segRunT treeTable pw0 w 28 (some (.ref 6)) 1 293 (t4 w.params os) (piecesOf (bhd.drop 11) env1 c1 q4 fr0) = some (.next, t5 w.params os, c1, q5) := by
  rw [PySem.W.Fast.te10110043849684766642, PySem.W.Fast.te14364793385576792824]
  kernel_rfl
end
section
set_option maxHeartbeats 0 in
theorem pre0 (w : World) (os) : topGo treeTable pw0 w 28 (some (.ref 6)) 12 ⟨h0 w.params, Array.mk [], d0, 276, os⟩ (topStub pw0) = some (⟨Heap.mk (Array.mk (l2 w.params)) {}, Array.mk [], d0, 282, os⟩, ⟨denote treeTable c1, c1, z0, fr0⟩) := by
  kernel_rfl
set_option maxHeartbeats 0 in
theorem blk0 (w : World) (os) : segRun treeTable pw0 w 28 (some (.ref 6)) 1 1 ⟨Heap.mk (Array.mk (l2 w.params)) {}, Array.mk [], d0, 282, os⟩ (blockOf bhd env1 c1 z0 fr0) = some (.next, (t0 w.params os).abs, c1, z0) := by
  kernel_rfl
set_option maxHeartbeats 0 in
theorem fin0 (w : World) (os) : topRun treeTable pw0 w 28 (some (.ref 6)) 2 (t5 w.params os).abs ⟨doneF .next, c1, q5, fr0⟩ = some ⟨h1 w.params, Array.mk [], d0, 818, os⟩ := by
  kernel_rfl
set_option maxHeartbeats 0 in
theorem size0 (w : World) : ((h0 w.params).isNs mainGlobals && (Array.mk [] : Array GenState).size == 0, (h0 w.params).objs.size, (h0 w.params).nsMap mainGlobals "__annotations__") = (true, 28, some (.ref 6)) := by
  kernel_rfl
set_option maxHeartbeats 0 in
theorem stat1 (P : Params) (os) : (staticsOk (importedModules pw0.main.body) (h0 P) (h1 P) && namesBound pw0 (h1 P) && gensDone ⟨h1 P, Array.mk [], d0, 818, os⟩ && laidKept (h0 P) (h1 P)) = true := by
  kernel_rfl
end
section
noncomputable def impT (st : SharedT → Thread → Option (SharedT × Thread)) : Nat → SharedT → Thread → Option SharedT
  | 0, _, _ => none
  | n + 1, s, t => match t.atExitBegin with
    | some [] => some s
    | some (_ :: _) => none
    | none => match st s t with
      | some (s', t') => impT st n s' t'
      | none => none
theorem impT_of {tb : String → Option Builtin} {p : Program} {w : World} : ∀ {n : Nat} {s s' : SharedT} {t : Thread}, impT (stepT (denote tb) p w) n s t = some s' → importEnds tb p w n s.abs t = some s'.abs
  | 0, _, _, _, h => by cases h
  | n + 1, s, s', t, h => by
    unfold impT at h
    unfold importEnds
    cases he : t.atExitBegin with
    | some x =>
      rw [he] at h
      cases x with
      | nil => cases h; rfl
      | cons _ _ => cases h
    | none =>
      rw [he] at h
      cases hs : stepT (denote tb) p w s t with
      | none => rw [hs] at h; cases h
      | some r => obtain ⟨s₂, t₂⟩ := r; rw [hs] at h; dsimp only; rw [stepT_spec hs]; exact impT_of h
noncomputable def os0 : OsState := (start (opening pw0)).1.os
noncomputable def sE : SharedT := ⟨.nil, 0, {}, Array.mk [], d0, 1, os0⟩
noncomputable def g560 (P : Params) : Obj := (.mk (.type "dict") none (.dict #[(.mk (PyData.keyHash P "__name__") (.str "__name__" 247) (.str "_sre" 246)), (.mk (PyData.keyHash P "__doc__") (.str "__doc__" 248) .none), (.mk (PyData.keyHash P "__package__") (.str "__package__" 250) (.str "" 249)), (.mk (PyData.keyHash P "__loader__") (.str "__loader__" 251) (.ref 14)), (.mk (PyData.keyHash P "__spec__") (.str "__spec__" 252) (.ref 26)), (.mk (PyData.keyHash P "compile") (.str "compile" 253) (.builtin "_sre.compile")), (.mk (PyData.keyHash P "template") (.str "template" 254) (.builtin "_sre.template")), (.mk (PyData.keyHash P "getcodesize") (.str "getcodesize" 255) (.builtin "_sre.getcodesize")), (.mk (PyData.keyHash P "ascii_iscased") (.str "ascii_iscased" 256) (.builtin "_sre.ascii_iscased")), (.mk (PyData.keyHash P "unicode_iscased") (.str "unicode_iscased" 257) (.builtin "_sre.unicode_iscased")), (.mk (PyData.keyHash P "ascii_tolower") (.str "ascii_tolower" 258) (.builtin "_sre.ascii_tolower")), (.mk (PyData.keyHash P "unicode_tolower") (.str "unicode_tolower" 259) (.builtin "_sre.unicode_tolower")), (.mk (PyData.keyHash P "MAGIC") (.str "MAGIC" 261) (.int 20230612 260)), (.mk (PyData.keyHash P "CODESIZE") (.str "CODESIZE" 263) (.int 4 262)), (.mk (PyData.keyHash P "MAXREPEAT") (.str "MAXREPEAT" 265) (.int 4294967295 264)), (.mk (PyData.keyHash P "MAXGROUPS") (.str "MAXGROUPS" 267) (.int 1073741823 266)), (.mk (PyData.keyHash P "copyright") (.str "copyright" 269) (.str " SRE 2.2.2 Copyright (c) 1997-2002 by Secret Labs AB " 268))] 17) #[])
noncomputable def l0 (P : Params) : List Obj := ((((obs P).take 28).set 2 (g43 P)).set 3 (g44 P)).set 11 (g560 P)
set_option maxHeartbeats 0 in
theorem imp0 (w : World) : impT (stepT (denote treeTable) (opening pw0) w) 1000 sE (start (opening pw0)).2 = some ⟨bt 10 (l0 w.params), 28, {}, Array.mk [], d0, 276, os0⟩ := by
  rw [PySem.W.Fast.te10156331382660048174, PySem.W.Fast.te11892475500146522536, PySem.W.Fast.te14364793385576792824, PySem.W.Fast.te1435165496053646825]
  kernel_rfl
theorem starts : (start (opening pw0)).1 = sE.abs := by kernel_rfl
set_option maxHeartbeats 0 in
theorem fence0 (w : World) : (fun os => (fenceModules? pw0 ⟨absHeap (bt 10 (l0 w.params)) 28 {}, Array.mk [], d0, 276, os⟩).map (fun s => (s.heap, s.gens, s.drawn, s.toks))) = fun _ => some (h0 w.params, Array.mk [], d0, 276) := by
  kernel_rfl
theorem opens : ∀ w : World, (fencedOpening treeTable pw0 w 4480).map (fun s => (s.heap, s.gens, s.drawn, s.toks)) = some (h0 w.params, Array.mk [], d0, 276) :=
  open_cut (He := fun P => absHeap (bt 10 (l0 P)) 28 {}) (fun w => by rw [starts]; exact impT_of (imp0 w)) rfl fence0
end
section
set_option maxHeartbeats 0 in
theorem seenA (P : Params) (os) : openSeen vw looseL (importedModules pw0.main.body) XtL true ⟨h1 P, Array.mk [], d0, 818, os⟩ = openGood vw looseL := by
  rw [PySem.W.Fast.te4187177175401517315, PySem.W.Fast.te5923862056798008813]
  kernel_rfl
set_option maxHeartbeats 0 in
theorem seenB (P : Params) (os) : kas.map (Shared.mk (h1 P) (Array.mk []) d0 818 os).heap.get? = (kk P).map fun p => some p.2 := by
  rw [PySem.W.R.mapR_eq]
  kernel_rfl
theorem seen1 (P : Params) (os) : (fun s => (openSeen vw looseL (importedModules pw0.main.body) XtL true s, kas.map s.heap.get?)) ⟨h1 P, Array.mk [], d0, 818, os⟩ = (openGood vw looseL, (kk P).map fun p => some p.2) := looks_pair (seenA P os) (seenB P os)
end
section
set_option maxHeartbeats 0 in
theorem wsaid : PySem.Challenge.rw_pe0273_01.wellSaid = true := by
  unfold OpenLaw.wellSaid
  repeat' (first | (with_reducible refine look_both ?_ ?_) | unfold OpenRow.wellSaid | unfold OpenRow.partSaid | unfold looksOpen)
  all_goals (first | (rw [PySem.W.Fast.te8377067652309620493]; decide +kernel) | (rw [PySem.W.Fast.te18344453789297297638]; decide +kernel) | (rw [PySem.W.Fast.te11788848310118352699]; decide +kernel) | (rw [PySem.W.Fast.te8326940854005059898]; decide +kernel) | (rw [PySem.W.Fast.te17119622794617984870]; decide +kernel) | decide +kernel)
end
section
theorem pc2 (w : World) : ∀ os, segRunT treeTable pw0 w 28 (some (.ref 6)) 1 496 (t1 w.params os) (piecesOf ((bhd.drop 3).take 1) env1 c1 q1 fr0) = some (.next, t2 w.params os, c1, q2) :=
  byRow2 "special-get-raises" (P := fun w => ∀ os, segRunT treeTable pw0 w 28 (some (.ref 6)) 1 496 (t1 w.params os) (piecesOf ((bhd.drop 3).take 1) env1 c1 q1 fr0) = some (.next, t2 w.params os, c1, q2)) (fun w os => pc2F w os) (fun w os => pc2T w os) w
theorem bhd_cut : bhd = bhd.take 3 ++ ((bhd.drop 3).take 1 ++ ((bhd.drop 4).take 6 ++ ((bhd.drop 10).take 1 ++ (bhd.drop 11 ++ [])))) := by
  generalize bhd = b
  have h (b : List Stmt) (i k : Nat) : b.drop i = (b.drop i).take k ++ b.drop (i + k) := by rw [← List.drop_drop, List.take_append_drop]
  rw [List.append_nil, ← h b 10 1, ← h b 4 6, ← h b 3 1, List.take_append_drop]
theorem run0 (w : World) (os : OsState) : topRun treeTable pw0 w 28 (some (.ref 6)) (12 + (1 + (364 + (496 + (297 + (732 + (293 + 2))))))) ⟨h0 w.params, Array.mk [], d0, 276, os⟩ (topStub pw0) = some ⟨h1 w.params, Array.mk [], d0, 818, os⟩ := by
  refine go_top (pre0 w os) (piece_block (blk0 w os) ?_)
  have k5 := piece_app (rest := []) (segRun_of (pc5 w os)) (fin0 w os)
  have k4 := piece_app (segRun_of (pc4 w os)) k5
  have k3 := piece_app (segRun_of (pc3 w os)) k4
  have k2 := piece_app (segRun_of (pc2 w os)) k3
  have k1 := piece_app (segRun_of (pc1 w os)) k2
  rw [← bhd_cut] at k1
  exact k1
noncomputable def lawD : DefRec := match stA 21 with
  | .FunctionDef n args b _ _ _ scope _ _ pos => ⟨n, args, b, scope, pos⟩
  | _ => ⟨(default : FuncData).name, (default : FuncData).params, [], (default : FuncData).scope, ⟨0, 0, 0, 0⟩⟩
theorem left : LeftO pw0 vw looseL XtL (kH.obs) (Hook.val kH) 4480 :=
  LeftO.of_pieces (H₀ := h0) (H₁ := h1) opens size0 run0 rfl fun w => funext fun os => looks_pair (stat1 w.params os) (seen1 w.params os)
theorem hd (call : WalkO vw looseL (XL vw []) (Hook.says (kHook kk kas kas_ok)) PySem.Challenge.rw_pe0273_01.row.toRowW lawD [] fun f vs => PySem.call f vs) : PySem.Challenge.rw_pe0273_01.Holds := by
  refine holds_law wsaid fun said => ?_
  refine holds_open (q := vw) (loose := looseL) (Xt := XtL) (XP := XL vw []) (Yf := kH.obs) (Ya := Hook.val kH) (YP := Hook.says kH) (N := 4480) left (Hook.of kH) (Hook.keeps kH) (fun s e => xl_of s (Bool.and_eq_true_iff.mp e).1) XL.keeps (by rfl) (by rfl) (by rfl) (fun s e => recFacts_of (Bool.and_eq_true_iff.mp e).2) (by rfl) (by first | assumption | decide +kernel) (by decide +kernel) ⟨rfl, rfl, rfl, rfl, rfl, by decide +kernel⟩ ?hw call
  w_witness2
end
section
section
variable {α β γ : Sort _} {a b c d e f g h i G : Prop}
theorem and2 (x : a ∧ b) (k : a → b → G) : G := k x.1 x.2
theorem and3 (x : a ∧ b ∧ c) (k : a → b → c → G) : G := k x.1 x.2.1 x.2.2
theorem and4 (x : a ∧ b ∧ c ∧ d) (k : a → b → c → d → G) : G := k x.1 x.2.1 x.2.2.1 x.2.2.2
theorem and5 (x : a ∧ b ∧ c ∧ d ∧ e) (k : a → b → c → d → e → G) : G := and4 x fun p q r y => and2 y fun s t => k p q r s t
theorem and6 (x : a ∧ b ∧ c ∧ d ∧ e ∧ f) (k : a → b → c → d → e → f → G) : G := and4 x fun p q r y => and3 y fun s t u => k p q r s t u
theorem and7 (x : a ∧ b ∧ c ∧ d ∧ e ∧ f ∧ g) (k : a → b → c → d → e → f → g → G) : G := and4 x fun p q r y => and4 y fun s t u v => k p q r s t u v
theorem and8 (x : a ∧ b ∧ c ∧ d ∧ e ∧ f ∧ g ∧ h) (k : a → b → c → d → e → f → g → h → G) : G := and4 x fun p q r y => and5 y fun s t u v w => k p q r s t u v w
theorem and9 (x : a ∧ b ∧ c ∧ d ∧ e ∧ f ∧ g ∧ h ∧ i) (k : a → b → c → d → e → f → g → h → i → G) : G := and4 x fun p q r y => and6 y fun s t u v w z => k p q r s t u v w z
theorem ex1 {p : α → Prop} (x : ∃ u, p u) (k : ∀ u, p u → G) : G := let ⟨u, y⟩ := x; k u y
theorem ex2 {p : α → β → Prop} (x : ∃ u v, p u v) (k : ∀ u v, p u v → G) : G := let ⟨u, v, y⟩ := x; k u v y
theorem ex4 {δ : Sort _} {p : α → β → γ → δ → Prop} (x : ∃ u v w z, p u v w z) (k : ∀ u v w z, p u v w z → G) : G := let ⟨u, v, w, z, y⟩ := x; k u v w z y
theorem ex3 {p : α → β → γ → Prop} (x : ∃ u v w, p u v w) (k : ∀ u v w, p u v w → G) : G := let ⟨u, v, w, y⟩ := x; k u v w y
theorem ex11 {p q : α → Prop} (x : ∃ u, p u ∧ q u) (k : ∀ u, p u → q u → G) : G := let ⟨u, y, z⟩ := x; k u y z
theorem ex21 {p q : α → β → Prop} (x : ∃ u v, p u v ∧ q u v) (k : ∀ u v, p u v → q u v → G) : G := let ⟨u, v, y, z⟩ := x; k u v y z
end
section
variable {α : Type _} {P : α → Prop} {a b c d e f g : α} {l k : List α}
theorem allc (h : P a) (t : ∀ x, x ∈ l → P x) : ∀ x, x ∈ a :: l → P x := List.forall_mem_cons.mpr ⟨h, t⟩
theorem alln : ∀ x, x ∈ ([] : List α) → P x := fun _ h => nomatch h
theorem alls (h : P a) : ∀ x, x ∈ [a] → P x := allc h alln
theorem alla (h : ∀ x, x ∈ l → P x) (t : ∀ x, x ∈ k → P x) : ∀ x, x ∈ l ++ k → P x := fun x m => (List.mem_append.mp m).elim (h x) (t x)
theorem m0 : a ∈ a :: l := .head _
theorem m1 : a ∈ b :: a :: l := .tail _ m0
theorem m2 : a ∈ b :: c :: a :: l := .tail _ m1
theorem m3 : a ∈ b :: c :: d :: a :: l := .tail _ m2
theorem m4 : a ∈ b :: c :: d :: e :: a :: l := .tail _ m3
theorem m5 : a ∈ b :: c :: d :: e :: f :: a :: l := .tail _ m4
end
theorem some_p {α : Type _} {o x : α} {P : α → Prop} {v : Option α} (h : v = some o) (k : P o) (e : v = some x) : P x := by rw [h] at e; cases e; exact k
theorem of_eq {α : Sort _} {a b : α} {P : α → Prop} (e : a = b) (h : P b) : P a := e ▸ h
end
section
theorem tnm (n : Nat) : (-1 + ((n : Int) + 1)).toNat = n := by rw [Int.add_comm (n : Int) 1, Int.neg_add_cancel_left]; rfl
theorem tn0 (i : Nat) : ((0 : Int) + (i : Int)).toNat = i := by rw [Int.zero_add]; rfl
theorem tn1 (i : Nat) : ((1 : Int) + (i : Int) - 1).toNat = i := by rw [Int.add_comm, Int.add_sub_cancel]; rfl
theorem tn2 (i : Nat) : ((i : Int) + 1 - 1).toNat = i := by rw [Int.add_sub_cancel]; rfl
theorem tn3 (i : Nat) : ((i : Int) + 1).toNat = i + 1 := rfl
theorem tnl {n : Nat} (h : 0 < n) : ((-1 : Int) + (n : Int)).toNat = n - 1 := by
  cases n with
  | zero => exact absurd h (Nat.lt_irrefl _)
  | succ m => exact tnm m
theorem tns {b c : Nat} (h : c ≤ b) : ((b : Int) - (c : Int) + 1).toNat = b - c + 1 := by rw [← Int.ofNat_sub h]; rfl
theorem lmax {k a b : Nat} : (k ≤ a ∨ k ≤ b) ↔ k ≤ max a b := ⟨fun h => h.elim (fun h => Nat.le_trans h (Nat.le_max_left _ _)) fun h => Nat.le_trans h (Nat.le_max_right _ _), fun h => by
  rcases Nat.le_total a b with q | q
  · rw [Nat.max_eq_right q] at h; exact .inr h
  · rw [Nat.max_eq_left q] at h; exact .inl h⟩
theorem four {d : Int} (h : 0 ≤ d ∧ d ≤ 3) : d = 0 ∨ d = 1 ∨ d = 2 ∨ d = 3 := by
  obtain ⟨n, rfl⟩ := Int.eq_ofNat_of_zero_le h.1
  have : n ≤ 3 := Int.ofNat_le.mp h.2
  match n, this with
  | 0, _ => exact .inl rfl
  | 1, _ => exact .inr (.inl rfl)
  | 2, _ => exact .inr (.inr (.inl rfl))
  | 3, _ => exact .inr (.inr (.inr rfl))
theorem fmB (x : Int) {k m : Int} (h : 0 < k) (e : m + 1 = k) : 0 ≤ x.fmod k ∧ x.fmod k ≤ m := ⟨Int.fmod_nonneg_of_pos x h, Int.le_of_lt_add_one (by rw [e]; exact Int.fmod_lt_of_pos x h)⟩
theorem fm5 (x : Int) : 0 ≤ x.fmod 5 ∧ x.fmod 5 ≤ 4 := fmB x (by decide) rfl
theorem fm4 (x : Int) : 0 ≤ x.fmod 4 ∧ x.fmod 4 ≤ 3 := fmB x (by decide) rfl
theorem fm400 (x : Int) : 0 ≤ x.fmod 400 ∧ x.fmod 400 < 400 := ⟨Int.fmod_nonneg_of_pos x (by decide), Int.fmod_lt_of_pos x (by decide)⟩
theorem fd80 {r : Int} (h : 0 ≤ r ∧ r < 400) : 0 ≤ r.fdiv 80 ∧ r.fdiv 80 ≤ 4 := by rw [Int.fdiv_eq_ediv_of_nonneg _ (by decide)]; omega
theorem half_nat {w : Int} (h : 0 ≤ w) : w / 2 = ((w.toNat / 2 : Nat) : Int) := by
  obtain ⟨n, rfl⟩ := Int.eq_ofNat_of_zero_le h; rfl
theorem tlt {w : Int} {n : Nat} (h : w ≤ (n : Int)) : w.toNat < n + 1 := by
  cases w with
  | ofNat k => exact Nat.lt_succ_of_le (Int.ofNat_le.mp h)
  | negSucc k => exact Nat.succ_pos _
theorem tlt1 {w : Int} {n : Nat} (h0 : 1 ≤ w) (h : w ≤ (n : Int)) : (w - 1).toNat < n := by omega
theorem min_bd {i n k : Nat} (h : n ≤ k) : min i n ≤ k := Nat.le_trans (Nat.min_le_right _ _) h
theorem lt_of_le_lt {a n k : Nat} (h : a < n) (q : n ≤ k) : a < k := Nat.lt_of_lt_of_le h q
theorem bnd {a b c : Nat} (h : a ≤ b) (q : Nat.ble b c = true) : a ≤ c := Nat.le_trans h (Nat.le_of_ble_eq_true q)
theorem room {a m k L : Nat} (h : a + m < L) (q : Nat.ble k m = true) : a + k < L := Nat.lt_of_le_of_lt (Nat.add_le_add_left (Nat.le_of_ble_eq_true q) a) h
theorem room0 {a m L : Nat} (h : a + m < L) : a < L := Nat.lt_of_le_of_lt (Nat.le_add_right a m) h
theorem s63 {k : Int} {n : Nat} (h : k ≤ (n : Int)) (q : n ≤ 1000000) : k < 2 ^ 63 := Int.lt_of_le_of_lt h (Int.lt_of_le_of_lt (Int.ofNat_le.mpr q) (by decide))
theorem nat63 {n : Nat} (q : n ≤ 1000000) : (n : Int) < 2 ^ 63 := Int.lt_of_le_of_lt (Int.ofNat_le.mpr q) (by decide)
theorem i63 {k : Int} (q : k ≤ 1000000) : k < 2 ^ 63 := Int.lt_of_le_of_lt q (by decide)
end
section
inductive AV where
  | none
  | bool (b : Bool)
  | int (i : Int)
  | str (x : Str)
  | ref (a : Addr)
  | lit (v : Value)

noncomputable def VR : AV → Value → Prop
  | .none, v => v = .none
  | .bool b, v => v = .bool b
  | .int i, v => ∃ t, v = .int i t
  | .str x, v => ∃ t, v = .str x t
  | .ref a, v => v = .ref a
  | .lit u, v => v = u

noncomputable def VRs : List AV → List Value → Prop
  | [], vs => vs = []
  | a :: as, vs => ∃ v r, vs = v :: r ∧ VR a v ∧ VRs as r

noncomputable def Vals : AV → (Value → Prop) → Prop
  | .none, P => P .none
  | .bool b, P => P (.bool b)
  | .int i, P => ∀ t, P (.int i t)
  | .str x, P => ∀ t, P (.str x t)
  | .ref a, P => P (.ref a)
  | .lit v, P => P v
noncomputable def ValsQ (av : AV) (Q : Value → Shared → Prop) (s : Shared) : Prop := Vals av fun v => Q v s
theorem Vals.at {av : AV} {P : Value → Prop} (h : Vals av P) {v : Value} (r : VR av v) : P v := by
  cases av with
  | none => cases r; exact h
  | bool b => cases r; exact h
  | int i => obtain ⟨t, rfl⟩ := r; exact h t
  | str x => obtain ⟨t, rfl⟩ := r; exact h t
  | ref a => cases r; exact h
  | lit v => cases r; exact h

theorem VRs.length : ∀ {as : List AV} {vs : List Value}, VRs as vs → vs.length = as.length
  | [], _, h => by cases h; rfl
  | _ :: _, _, h => by obtain ⟨v, r, rfl, _, h⟩ := h; simp [VRs.length h]
theorem VRs.get : ∀ {as : List AV} {vs : List Value}, VRs as vs → ∀ {i : Nat} {a : AV}, as[i]? = some a → ∃ v, vs[i]? = some v ∧ VR a v
  | [], _, _, i, a, e => by simp at e
  | b :: r, _, h, i, a, e => by
    obtain ⟨v, rr, rfl, hv, h⟩ := h
    cases i with
    | zero => simp at e; subst e; exact ⟨v, rfl, hv⟩
    | succ i => simp at e ⊢; exact VRs.get h e
theorem VRs.append : ∀ {as bs : List AV} {vs ws : List Value}, VRs as vs → VRs bs ws → VRs (as ++ bs) (vs ++ ws)
  | [], _, _, _, h, k => by cases h; exact k
  | _ :: _, _, _, _, h, k => by obtain ⟨v, r, rfl, hv, h⟩ := h; exact ⟨v, _, rfl, hv, VRs.append h k⟩
theorem VRs.take : ∀ {as : List AV} {vs : List Value} (n : Nat), VRs as vs → VRs (as.take n) (vs.take n)
  | _, _, 0, _ => rfl
  | [], _, n + 1, h => by cases h; rfl
  | _ :: _, _, n + 1, h => by obtain ⟨v, r, rfl, hv, h⟩ := h; exact ⟨v, _, rfl, hv, VRs.take n h⟩
theorem VRs.drop : ∀ {as : List AV} {vs : List Value} (n : Nat), VRs as vs → VRs (as.drop n) (vs.drop n)
  | _, _, 0, h => h
  | [], _, n + 1, h => by cases h; rfl
  | _ :: _, _, n + 1, h => by obtain ⟨v, r, rfl, hv, h⟩ := h; exact VRs.drop n h
theorem VRs.reverse : ∀ {as : List AV} {vs : List Value}, VRs as vs → VRs as.reverse vs.reverse
  | [], _, h => by cases h; rfl
  | _ :: _, _, h => by
    obtain ⟨v, r, rfl, hv, h⟩ := h
    rw [List.reverse_cons, List.reverse_cons]
    exact VRs.append (VRs.reverse h) ⟨v, [], rfl, hv, rfl⟩
theorem VRs.set : ∀ {as : List AV} {vs : List Value} (i : Nat) {a : AV} {v : Value}, VRs as vs → VR a v → VRs (as.set i a) (vs.set i v)
  | [], _, _, _, _, h, _ => by cases h; rfl
  | _ :: _, _, 0, _, v, h, k => by obtain ⟨_, r, rfl, _, h⟩ := h; exact ⟨v, r, rfl, k, h⟩
  | _ :: _, _, i + 1, _, v, h, k => by obtain ⟨u, r, rfl, hu, h⟩ := h; exact ⟨u, _, rfl, hu, VRs.set i h k⟩
theorem VRs.one {a : AV} {v : Value} (h : VR a v) : VRs [a] [v] := ⟨v, [], rfl, h, rfl⟩
theorem VRs.cons {a : AV} {v : Value} {as : List AV} {vs : List Value} (h : VR a v) (k : VRs as vs) : VRs (a :: as) (v :: vs) := ⟨v, vs, rfl, h, k⟩
theorem VRs.nil : VRs [] [] := rfl
theorem VRs.replicate {a : AV} {v : Value} (h : VR a v) : ∀ n, VRs (List.replicate n a) (List.replicate n v)
  | 0 => rfl
  | n + 1 => ⟨v, _, rfl, h, VRs.replicate h n⟩

inductive AO where
  | list (vs : List AV)
  | tup (vs : List AV)
  | inst (C d : Addr)
  | raw (p : Obj → Prop)
  | ns (n : Nat) (fs : List (Str × AV))

noncomputable def NsR (m : Str → Option Value) (fs : List (Str × AV)) : Prop :=
  ∀ x, match fs.lookup x with
    | some av => ∃ v, m x = some v ∧ VR av v
    | none => m x = none
noncomputable def NsN (h : Heap) (a : Addr) (n : Nat) (m : Str → Option Value) : Prop :=
  h.Ns a m ∧ ∃ o es ep, h.get? a = some o ∧ o.data = .dict es ep ∧ es.size ≤ n
noncomputable def IsNs (h : Heap) (a : Addr) (n : Nat) (fs : List (Str × AV)) : Prop := ∃ m, NsN h a n m ∧ NsR m fs

noncomputable def OR (h : Heap) (a : Addr) : AO → Prop
  | .list vs => ∃ items : List Value, ∃ n, h.get? a = some { cls := .type "list", dict := none, data := .seq items.toArray n, slots := #[] } ∧ VRs vs items
  | .tup vs => ∃ items : List Value, ∃ n, h.get? a = some { cls := .type "tuple", dict := none, data := .seq items.toArray n, slots := #[] } ∧ VRs vs items
  | .raw p => ∃ o, h.get? a = some o ∧ p o
  | .inst C d => ∃ sl, h.get? a = some { cls := .ref C, dict := some d, data := .plain, slots := sl }
  | .ns n fs => IsNs h a n fs

theorem OR.there {h : Heap} {a : Addr} {ao : AO} (x : OR h a ao) : ∃ o, h.get? a = some o := by
  cases ao with
  | list vs => obtain ⟨_, _, ho, _⟩ := x; exact ⟨_, ho⟩
  | tup vs => obtain ⟨_, _, ho, _⟩ := x; exact ⟨_, ho⟩
  | raw p => obtain ⟨o, ho, _⟩ := x; exact ⟨o, ho⟩
  | inst C d => obtain ⟨sl, ho⟩ := x; exact ⟨_, ho⟩
  | ns n fs => obtain ⟨m, ⟨⟨o, _, _, ho, _⟩, _⟩, _⟩ := x; exact ⟨o, ho⟩
theorem OR.lt {h : Heap} {a : Addr} {ao : AO} (x : OR h a ao) : a < h.objs.size := let ⟨_, ho⟩ := OR.there x; Heap.lt_size ho
theorem OR.mv {h h' : Heap} {a : Addr} {ao : AO} (x : OR h a ao) (k : ∀ o, h.get? a = some o → h'.get? a = some o) : OR h' a ao := by
  cases ao with
  | list vs => obtain ⟨items, n, ho, q⟩ := x; exact ⟨items, n, k _ ho, q⟩
  | tup vs => obtain ⟨items, n, ho, q⟩ := x; exact ⟨items, n, k _ ho, q⟩
  | raw p => obtain ⟨o, ho, q⟩ := x; exact ⟨o, k _ ho, q⟩
  | inst C d => obtain ⟨sl, ho⟩ := x; exact ⟨sl, k _ ho⟩
  | ns n fs => obtain ⟨m, ⟨⟨o, es, ep, ho, r⟩, ⟨o', es', ep', ho', r'⟩⟩, q⟩ := x; exact ⟨m, ⟨⟨o, es, ep, k o ho, r⟩, ⟨o', es', ep', k o' ho', r'⟩⟩, q⟩

abbrev Sto := Addr → Option AO
noncomputable def upd (σ : Sto) (a : Addr) (o : AO) : Sto := fun b => if b = a then some o else σ b
theorem upd_self {σ : Sto} {a : Addr} {o : AO} : upd σ a o a = some o := if_pos rfl
theorem upd_ne {σ : Sto} {a b : Addr} {o : AO} (h : b ≠ a) : upd σ a o b = σ b := if_neg h

abbrev Vars := List (Str × AV)

noncomputable def Adv (z s : Shared) : Prop := s.drawn = z.drawn ∧ (s.os, s.gens) = (z.os, z.gens)
theorem Adv.trans {a b c : Shared} (x : Adv a b) (y : Adv b c) : Adv a c := ⟨y.1.trans x.1, y.2.trans x.2⟩
theorem Adv.of {s : Shared} {h : Heap} {t : Nat} : Adv s { s with heap := h, toks := t } := ⟨rfl, rfl⟩

structure St (z : Shared) (G : Addr → Option (Obj × Bool)) (env : Env) (ε : Vars) (σ : Sto) (s : Shared) : Prop where
  adv : Adv z s
  keep : ∀ b o, z.heap.get? b = some o → ∃ fl, G b = some (o, fl)
  prot : ∀ b o fl, G b = some (o, fl) → s.heap.get? b = some o
  fn : env.scope.kind = .function
  loc : ∃ m, s.heap.Ns env.locals m ∧ ∀ x av, ε.lookup x = some av → env.kindOf x = some .local → ∃ v, m x = some v ∧ VR av v
  locG : G env.locals = none
  locS : σ env.locals = none
  cel : ∀ x c, env.cells.lookup x = some c → env.kindOf x = some .cell → (∃ ov, s.heap.IsCell c ov) ∧ (∀ av, ε.lookup x = some av → ∃ v, s.heap.IsCell c (some v) ∧ VR av v) ∧ σ c = none ∧ c ≠ env.locals
  celG : ∀ x c, env.cells.lookup x = some c → env.kindOf x = some .cell → ∀ p, G c ≠ some (p, true)
  apart : ∀ x y c, env.cells.lookup x = some c → env.cells.lookup y = some c → x = y
  fre : ∀ x c av, env.cells.lookup x = some c → env.kindOf x = some .free → ε.lookup x = some av → ∃ o v fl, G c = some (o, fl) ∧ o.data = .cell (some v) ∧ VR av v
  obj : ∀ a o, σ a = some o → OR s.heap a o
  objG : ∀ a o, σ a = some o → G a = none ∨ ∃ p, G a = some (p, true)

section
variable {z s s' : Shared} {G : Addr → Option (Obj × Bool)} {env : Env} {ε : Vars} {σ : Sto}

theorem St.base (S : St z G env ε σ s) : ∀ b o, z.heap.get? b = some o → s.heap.get? b = some o := fun b o e => let ⟨fl, q⟩ := S.keep b o e; S.prot b o fl q

theorem St.grow (S : St z G env ε σ s) (ad : Adv s s') (k : ∀ b o, s.heap.get? b = some o → s'.heap.get? b = some o) : St z G env ε σ s' where
  adv := S.adv.trans ad
  keep := S.keep
  prot b o fl e := k b o (S.prot b o fl e)
  fn := S.fn
  loc := by obtain ⟨m, hm, r⟩ := S.loc; exact ⟨m, hm.keeps k, r⟩
  locG := S.locG
  locS := S.locS
  cel x c e kd := by
    refine and3 (S.cel x c e kd) fun z2x0 b r => ?_
    obtain ⟨ov, a⟩ := z2x0
    exact ⟨⟨ov, a.keeps k⟩, fun av q => let ⟨v, hv, q⟩ := b av q; ⟨v, hv.keeps k, q⟩, r⟩
  celG := S.celG
  apart := S.apart
  fre := S.fre
  obj a o e := OR.mv (S.obj a o e) fun o' => k a o'
  objG := S.objG

theorem St.fresh (S : St z G env ε σ s) {a : Addr} (ha : s.heap.objs.size ≤ a) : σ a = none := by
  cases e : σ a with
  | none => rfl
  | some o => exact absurd (OR.lt (S.obj a o e)) (Nat.not_lt.mpr ha)
theorem St.freshG (S : St z G env ε σ s) {a : Addr} (ha : s.heap.objs.size ≤ a) : G a = none := by
  cases e : G a with
  | none => rfl
  | some o => exact absurd (Heap.lt_size (S.prot a o.1 o.2 e)) (Nat.not_lt.mpr ha)

theorem St.new (S : St z G env ε σ s) {a : Addr} {ao : AO} (ad : Adv s s') (ha : s.heap.objs.size ≤ a) (k : ∀ b o, s.heap.get? b = some o → s'.heap.get? b = some o) (r : OR s'.heap a ao) : St z G env ε (upd σ a ao) s' := by
  have S' := S.grow ad k
  have hL : env.locals ≠ a := by obtain ⟨m, hm, _⟩ := S.loc; exact Nat.ne_of_lt (Nat.lt_of_lt_of_le hm.lt ha)
  refine { S' with locS := by rw [upd_ne hL]; exact S.locS, cel := ?_, obj := ?_, objG := ?_ }
  · intro x c e kd
    refine and4 (S'.cel x c e kd) fun z3x0 b s n => ?_
    obtain ⟨ov, y⟩ := z3x0
    refine and2 (S.cel x c e kd) fun z4x0 _ => ?_
    obtain ⟨ov₀, y₀⟩ := z4x0
    exact ⟨⟨ov, y⟩, b, by rw [upd_ne (Nat.ne_of_lt (Nat.lt_of_lt_of_le y₀.lt ha))]; exact s, n⟩
  · intro b o e
    by_cases q : b = a
    · subst q; rw [upd_self] at e; cases e; exact r
    · rw [upd_ne q] at e; exact S'.obj b o e
  · intro b o e
    by_cases q : b = a
    · subst q; exact .inl (S.freshG ha)
    · rw [upd_ne q] at e; exact S.objG b o e

theorem St.turn (S : St z G env ε σ s) {a : Addr} {old ao : AO} (ad : Adv s s') (ha : σ a = some old) (hG : G a = none) (k : ∀ b o, b ≠ a → s.heap.get? b = some o → s'.heap.get? b = some o) (r : OR s'.heap a ao) : St z G env ε (upd σ a ao) s' := by
  have hL : env.locals ≠ a := fun q => by have := S.locS; rw [q, ha] at this; cases this
  refine { S with adv := S.adv.trans ad, prot := ?_, loc := ?_, locS := by rw [upd_ne hL]; exact S.locS, cel := ?_, obj := ?_, objG := ?_ }
  · intro b o fl e
    exact k b o (fun q => by rw [q, hG] at e; cases e) (S.prot b o fl e)
  · refine ex1 S.loc fun m z5x0r => ?_
    refine and2 z5x0r fun hm q => ?_
    refine ex3 hm fun o es ep z6x0r => ?_
    refine and2 z6x0r fun ho z => ?_
    exact ⟨m, ⟨o, es, ep, k _ _ hL ho, z⟩, q⟩
  · intro x c e kd
    refine and4 (S.cel x c e kd) fun z7x0 b s n => ?_
    obtain ⟨ov, y⟩ := z7x0
    have hc : c ≠ a := fun q => by rw [q, ha] at s; cases s
    refine ex1 y fun o z8x0r => ?_
    refine and2 z8x0r fun ho hd => ?_
    refine ⟨⟨ov, o, k _ _ hc ho, hd⟩, fun av q => ?_, by rw [upd_ne hc]; exact s, n⟩
    refine ex1 (b av q) fun v z9x0r => ?_
    refine and2 z9x0r fun z9x1 q => ?_
    obtain ⟨o', ho', hd'⟩ := z9x1
    exact ⟨v, ⟨o', k _ _ hc ho', hd'⟩, q⟩
  · intro b o e
    by_cases q : b = a
    · subst q; rw [upd_self] at e; cases e; exact r
    · rw [upd_ne q] at e; exact OR.mv (S.obj b o e) fun o' => k b o' q
  · intro b o e
    by_cases q : b = a
    · subst q; exact .inl hG
    · rw [upd_ne q] at e; exact S.objG b o e

noncomputable def put (ε : Vars) (x : Str) (av : AV) : Vars := (x, av) :: ε.filter fun p => p.1 != x
theorem lookup_cons' {x y : Str} {av : AV} {r : Vars} : List.lookup y ((x, av) :: r) = if y = x then some av else r.lookup y := by
  rw [List.lookup_cons]
  by_cases e : y = x
  · subst e; simp
  · have : (y == x) = false := by simpa using e
    rw [this, if_neg e]
theorem lookup_filter {x y : Str} (e : y ≠ x) : ∀ ε : Vars, List.lookup y (ε.filter fun p => p.1 != x) = ε.lookup y
  | [] => rfl
  | (z, av) :: r => by
    rw [List.filter_cons]
    by_cases q : z = x
    · have h1 : ((z, av).1 != x) = false := by simpa using q
      rw [h1, if_neg (by decide), lookup_filter e r, lookup_cons', if_neg (by rw [q]; exact e)]
    · have h1 : ((z, av).1 != x) = true := by simpa using q
      rw [h1, if_pos rfl, lookup_cons', lookup_cons', lookup_filter e r]
theorem put_lookup {ε : Vars} {x y : Str} {av : AV} : (put ε x av).lookup y = if y = x then some av else ε.lookup y := by
  unfold put
  rw [lookup_cons']
  by_cases e : y = x
  · rw [if_pos e, if_pos e]
  · rw [if_neg e, if_neg e, lookup_filter e]

theorem St.storeLocal (S : St z G env ε σ s) (ad : Adv s s') {x : Str} {av : AV} {v : Value} {m : Str → Option Value} (hk : env.kindOf x = some .local) (r : VR av v)
    (hm : ∀ y av, ε.lookup y = some av → env.kindOf y = some .local → ∃ v, m y = some v ∧ VR av v)
    (hn : s'.heap.Ns env.locals (fun y => if y = x then some v else m y)) (hs : Heap.SameBut env.locals s.heap s'.heap) : St z G env (put ε x av) σ s' := by
  have k : ∀ b o, b ≠ env.locals → s.heap.get? b = some o → s'.heap.get? b = some o := fun b o n e => (hs.2 b n).trans e
  refine { S with adv := S.adv.trans ad, prot := ?_, loc := ⟨_, hn, ?_⟩, cel := ?_, fre := ?_, obj := ?_ }
  · intro b o fl e
    exact k b o (fun q => by have := S.locG; rw [← q, e] at this; cases this) (S.prot b o fl e)
  · intro y av' e kd
    rw [put_lookup] at e
    by_cases q : y = x
    · subst q; rw [if_pos rfl] at e; cases e; exact ⟨v, if_pos rfl, r⟩
    · rw [if_neg q] at e
      refine ex1 (hm y av' e kd) fun u z10x0r => ?_
      refine and2 z10x0r fun hu z => ?_
      exact ⟨u, (if_neg q).trans hu, z⟩
  · intro y c e kd
    refine and4 (S.cel y c e kd) fun z11x0 b s n => ?_
    obtain ⟨ov, o, ho, hd⟩ := z11x0
    refine ⟨⟨ov, o, k _ _ n ho, hd⟩, fun av' q => ?_, s, n⟩
    rw [put_lookup] at q
    by_cases yx : y = x
    · subst yx; rw [hk] at kd; cases kd
    · rw [if_neg yx] at q
      refine ex1 (b av' q) fun u z12x0r => ?_
      refine and2 z12x0r fun z12x1 z => ?_
      obtain ⟨o', ho', hd'⟩ := z12x1
      exact ⟨u, ⟨o', k _ _ n ho', hd'⟩, z⟩
  · intro y c av' e kd q
    rw [put_lookup] at q
    by_cases yx : y = x
    · subst yx; rw [hk] at kd; cases kd
    · rw [if_neg yx] at q; exact S.fre y c av' e kd q
  · intro a o e
    have : a ≠ env.locals := fun q => by have := S.locS; rw [← q, e] at this; cases this
    exact OR.mv (S.obj a o e) fun o' => k a o' this

theorem St.storeCell (S : St z G env ε σ s) (ad : Adv s s') {x : Str} {c : Addr} {av : AV} {v : Value} (hk : env.kindOf x = some .cell) (hc : env.cells.lookup x = some c) (cG : G c = none) (r : VR av v)
    (hn : s'.heap.IsCell c (some v)) (hs : Heap.SameBut c s.heap s'.heap) : St z G env (put ε x av) σ s' := by
  have k : ∀ b o, b ≠ c → s.heap.get? b = some o → s'.heap.get? b = some o := fun b o n e => (hs.2 b n).trans e
  refine and4 (S.cel x c hc hk) fun _ _ cS cL => ?_
  refine { S with adv := S.adv.trans ad, prot := ?_, loc := ?_, cel := ?_, fre := ?_, obj := ?_ }
  · intro b o fl e
    exact k b o (fun q => by rw [q, cG] at e; cases e) (S.prot b o fl e)
  · refine ex1 S.loc fun m z14x0r => ?_
    refine and2 z14x0r fun z14x1 q => ?_
    obtain ⟨o, es, ep, ho, z⟩ := z14x1
    refine ⟨m, ⟨o, es, ep, k _ _ (Ne.symm cL) ho, z⟩, fun y av' e kd => ?_⟩
    rw [put_lookup] at e
    by_cases yx : y = x
    · subst yx; rw [hk] at kd; cases kd
    · rw [if_neg yx] at e; exact q y av' e kd
  · intro y c' e kd
    by_cases yx : y = x
    · subst yx
      rw [hc] at e; cases e
      refine ⟨⟨_, hn⟩, fun av' q => ?_, cS, cL⟩
      rw [put_lookup, if_pos rfl] at q; cases q; exact ⟨v, hn, r⟩
    · refine and4 (S.cel y c' e kd) fun z15x0 b s n => ?_
      obtain ⟨ov, o, ho, hd⟩ := z15x0
      have cc : c' ≠ c := fun q => yx (S.apart y x c (q ▸ e) hc)
      refine ⟨⟨ov, o, k _ _ cc ho, hd⟩, fun av' q => ?_, s, n⟩
      rw [put_lookup, if_neg yx] at q
      refine ex1 (b av' q) fun u z16x0r => ?_
      refine and2 z16x0r fun z16x1 z => ?_
      obtain ⟨o', ho', hd'⟩ := z16x1
      exact ⟨u, ⟨o', k _ _ cc ho', hd'⟩, z⟩
  · intro y c' av' e kd q
    rw [put_lookup] at q
    by_cases yx : y = x
    · subst yx; rw [hk] at kd; cases kd
    · rw [if_neg yx] at q; exact S.fre y c' av' e kd q
  · intro a o e
    have : a ≠ c := fun q => by rw [q, cS] at e; cases e
    exact OR.mv (S.obj a o e) fun o' => k a o' this

noncomputable def rem (σ : Sto) (a : Addr) : Sto := fun b => if b = a then none else σ b
theorem rem_ne {σ : Sto} {a b : Addr} (h : b ≠ a) : rem σ a b = σ b := if_neg h
theorem St.lose (S : St z G env ε σ s) (ad : Adv s s') {a : Addr} {old : AO} (ha : σ a = some old) (hG : G a = none) (k : ∀ b o, b ≠ a → s.heap.get? b = some o → s'.heap.get? b = some o) : St z G env ε (rem σ a) s' := by
  have hL : env.locals ≠ a := fun q => by have := S.locS; rw [q, ha] at this; cases this
  refine { S with adv := S.adv.trans ad, prot := ?_, loc := ?_, locS := by rw [rem_ne hL]; exact S.locS, cel := ?_, obj := ?_, objG := ?_ }
  · intro b o fl e
    exact k b o (fun q => by rw [q, hG] at e; cases e) (S.prot b o fl e)
  · refine ex1 S.loc fun m z17x0r => ?_
    refine and2 z17x0r fun hm q => ?_
    refine ex3 hm fun o es ep z18x0r => ?_
    refine and2 z18x0r fun ho z => ?_
    exact ⟨m, ⟨o, es, ep, k _ _ hL ho, z⟩, q⟩
  · intro x c e kd
    refine and4 (S.cel x c e kd) fun z19x0 b s n => ?_
    obtain ⟨ov, y⟩ := z19x0
    have hc : c ≠ a := fun q => by rw [q, ha] at s; cases s
    refine ex1 y fun o z20x0r => ?_
    refine and2 z20x0r fun ho hd => ?_
    refine ⟨⟨ov, o, k _ _ hc ho, hd⟩, fun av q => ?_, by rw [rem_ne hc]; exact s, n⟩
    refine ex1 (b av q) fun v z21x0r => ?_
    refine and2 z21x0r fun z21x1 q => ?_
    obtain ⟨o', ho', hd'⟩ := z21x1
    exact ⟨v, ⟨o', k _ _ hc ho', hd'⟩, q⟩
  · intro b o e
    by_cases q : b = a
    · subst q; exact absurd e (by unfold rem; rw [if_pos rfl]; intro e; cases e)
    · rw [rem_ne q] at e; exact OR.mv (S.obj b o e) fun o' => k b o' q
  · intro b o e
    by_cases q : b = a
    · subst q; exact .inl hG
    · rw [rem_ne q] at e; exact S.objG b o e

noncomputable def allIn (h : Heap) (L : Addr) : List (Addr × Obj) := (List.range h.objs.size).filterMap fun a => if a = L then none else (h.get? a).map fun o => (a, o)
theorem mem_allIn {h : Heap} {L a : Addr} {o : Obj} : (a, o) ∈ allIn h L ↔ a ≠ L ∧ h.get? a = some o := by
  unfold allIn
  rw [List.mem_filterMap]
  constructor
  · rintro ⟨b, _, e⟩
    by_cases q : b = L
    · rw [if_pos q] at e; cases e
    · rw [if_neg q] at e
      refine ex1 (Option.map_eq_some_iff.mp e) fun o' z22x0r => ?_
      refine and2 z22x0r fun ho e => ?_
      cases e; exact ⟨q, ho⟩
  · rintro ⟨n, e⟩
    exact ⟨a, List.mem_range.mpr (Heap.lt_size e), by rw [if_neg n, e]; rfl⟩
noncomputable def blank : Heap := { objs := #[] }
theorem blank_get {a : Addr} : blank.get? a = none := by
  cases e : blank.get? a with
  | none => rfl
  | some o => have := Heap.lt_size e; simp [blank] at this
theorem St.fr (S : St z G env ε σ s) : ∃ m, Fr blank env.locals s.heap m ∧ News blank env.locals s.heap (allIn s.heap env.locals) ∧
    ∀ s', Adv s s' → Fr blank env.locals s'.heap m → News blank env.locals s'.heap (allIn s.heap env.locals) → St z G env ε σ s' := by
  refine ex1 S.loc fun m z23x0r => ?_
  refine and2 z23x0r fun hm q => ?_
  refine ⟨m, ⟨hm, fun b o e => (by rw [blank_get] at e; cases e), Nat.zero_le _⟩, fun p hp => ?_, fun s' ad F N => ?_⟩
  · obtain ⟨a, o⟩ := p
    refine and2 (mem_allIn.mp hp) fun n e => ?_
    exact ⟨e, n, blank_get⟩
  have k : ∀ b o, b ≠ env.locals → s.heap.get? b = some o → s'.heap.get? b = some o := fun b o n e => (N (b, o) (mem_allIn.mpr ⟨n, e⟩)).1
  refine { S with adv := S.adv.trans ad, prot := ?_, loc := ⟨m, F.ns, q⟩, cel := ?_, obj := ?_ }
  · intro b o fl e
    exact k b o (fun q => by have := S.locG; rw [← q, e] at this; cases this) (S.prot b o fl e)
  · intro x c e kd
    refine and4 (S.cel x c e kd) fun z26x0 b s n => ?_
    obtain ⟨ov, y⟩ := z26x0
    refine ex1 y fun o z27x0r => ?_
    refine and2 z27x0r fun ho hd => ?_
    refine ⟨⟨ov, o, k _ _ n ho, hd⟩, fun av q => ?_, s, n⟩
    refine ex1 (b av q) fun v z28x0r => ?_
    refine and2 z28x0r fun z28x1 q => ?_
    obtain ⟨o', ho', hd'⟩ := z28x1
    exact ⟨v, ⟨o', k _ _ n ho', hd'⟩, q⟩
  · intro a o e
    exact OR.mv (S.obj a o e) fun o' => k a o' fun q => by have := S.locS; rw [← q, e] at this; cases this
end
end
section
noncomputable def absv : Value → AV
  | .none => .none
  | .bool b => .bool b
  | .int i _ => .int i
  | .str x _ => .str x
  | .ref a => .ref a
  | v => .lit v
theorem vr_abs (v : Value) : VR (absv v) v := by
  cases v <;> first | exact ⟨_, rfl⟩ | rfl

noncomputable def absB (binds : List (Str × Value)) : Vars := binds.map fun p => (p.1, absv p.2)

theorem absB_lookup (x : Str) : ∀ binds : List (Str × Value), (absB binds).lookup x = (binds.lookup x).map absv
  | [] => rfl
  | (n, v) :: r => by
    show List.lookup x ((n, absv v) :: absB r) = _
    rw [lookup_cons', List.lookup_cons]
    by_cases e : x = n
    · subst e; simp
    · have : (x == n) = false := by simpa using e
      rw [if_neg e, this, absB_lookup x r]
theorem lookup_none_of {x : Str} : ∀ {binds : List (Str × Value)}, x ∉ binds.map (·.1) → binds.lookup x = none
  | [], _ => rfl
  | (n, v) :: r, h => by
    rw [List.lookup_cons]
    have : (x == n) = false := by
      simp only [List.map_cons, List.mem_cons, not_or] at h
      simpa using h.1
    rw [this]
    exact lookup_none_of fun q => h (.tail _ q)
theorem bindL_lookup {k : Str → Option NameKind} {x : Str} (hk : k x = some .local) : ∀ (binds : List (Str × Value)) (m : Str → Option Value), (binds.map (·.1)).Nodup → bindL k binds m x = (binds.lookup x).or (m x)
  | [], m, _ => by simp [bindL]
  | (n, v) :: r, m, h => by
    rw [List.map_cons, List.nodup_cons] at h
    unfold bindL
    rw [bindL_lookup hk r _ h.2, List.lookup_cons]
    by_cases e : x = n
    · subst e
      rw [lookup_none_of h.1, if_pos hk]
      simp
    · have : (x == n) = false := by simpa using e
      rw [this]
      congr 1
      split
      · exact if_neg e
      · rfl
theorem bindC_lookup {k : Str → Option NameKind} {x : Str} (hk : k x ≠ some .local) : ∀ (binds : List (Str × Value)) (m : Str → Option Value), (binds.map (·.1)).Nodup → bindC k binds m x = (binds.lookup x).or (m x)
  | [], m, _ => by simp [bindC]
  | (n, v) :: r, m, h => by
    rw [List.map_cons, List.nodup_cons] at h
    unfold bindC
    rw [bindC_lookup hk r _ h.2, List.lookup_cons]
    by_cases e : x = n
    · subst e
      rw [lookup_none_of h.1, if_neg hk]
      simp
    · have : (x == n) = false := by simpa using e
      rw [this]
      congr 1
      split
      · rfl
      · exact if_neg e

structure Wd (K : Frag) (mg mb : Str → Option Value) (h₀ : Heap) : Prop where
  X : K.In h₀
  g : h₀.Ns mainGlobals mg
  b : h₀.Ns builtinsNs mb
  nolimit : h₀.NoLimit
  builtins : ∀ x : Str, x ≠ "__name__" → mb x = bootBuiltins x

noncomputable def hidden (G : Addr → Option (Obj × Bool)) (σ : Sto) (h : Heap) : Addr → Option (Obj × Bool) := fun b => match G b, σ b with
  | some p, _ => some p
  | none, some _ => none
  | none, none => (h.get? b).map fun o => (o, false)
theorem hidden_G {G : Addr → Option (Obj × Bool)} {σ : Sto} {h : Heap} {b : Addr} {p : Obj × Bool} (e : G b = some p) : hidden G σ h b = some p := by unfold hidden; rw [e]
theorem hidden_off {G : Addr → Option (Obj × Bool)} {σ : Sto} {h : Heap} {b : Addr} {o : Obj} (e : G b = none) (q : σ b = none) (ho : h.get? b = some o) : hidden G σ h b = some (o, false) := by unfold hidden; rw [e, q, ho]; rfl
theorem hidden_sto {G : Addr → Option (Obj × Bool)} {σ : Sto} {h : Heap} {b : Addr} {ao : AO} (e : G b = none) (q : σ b = some ao) : hidden G σ h b = none := by unfold hidden; rw [e, q]
theorem hidden_get {G : Addr → Option (Obj × Bool)} {σ : Sto} {h : Heap} {b : Addr} {p : Obj × Bool} (gh : ∀ b o fl, G b = some (o, fl) → h.get? b = some o) (e : hidden G σ h b = some p) : h.get? b = some p.1 := by
  unfold hidden at e
  cases q : G b with
  | some p' => rw [q] at e; cases e; exact gh b _ _ q
  | none =>
    rw [q] at e
    cases r : σ b with
    | some _ => rw [r] at e; cases e
    | none => rw [r] at e; obtain ⟨o, ho, rfl⟩ := Option.map_eq_some_iff.mp e; exact ho

section
variable {prog : Program} {w : World} {A : Around} {E : Value → Shared → Prop} {s : Shared} {K : Frag} {mg mb : Str → Option Value} {z : Shared} {G : Addr → Option (Obj × Bool)} {env : Env} {ε : Vars} {σ : Sto} {x : Str} {pos : Pos}

theorem St.cellsOff {fd : FuncData} {f : Addr} {ml mc : Str → Option Value} {s₁ : Shared} (S : St z G env ε σ s) (I : InCallC s (callEnvC fd s.heap.objs.size f).locals ml (callEnvC fd s.heap.objs.size f).cells mc s₁)
    {x : Str} {c : Addr} (e : (callEnvC fd s.heap.objs.size f).cells.lookup x = some c) : hidden G σ s.heap c = none := by
  cases q : hidden G σ s.heap c with
  | none => rfl
  | some o => exact absurd (Heap.lt_size (hidden_get S.prot q)) (Nat.not_lt.mpr (Nat.le_of_lt (Nat.lt_of_le_of_lt I.toInCall.fresh (I.above x c (mem_of_lookup e)))))

theorem St.into {fd : FuncData} {f : Addr} {binds : List (Str × Value)} {s₁ : Shared} (S : St z G env ε σ s) (hk : fd.scope.kind = .function) (hnd : (binds.map (·.1)).Nodup) (hnf : (fd.scope.names.all fun p => p.2 != .free) = true)
    (I : InCallC s (callEnvC fd s.heap.objs.size f).locals (bindL (callEnvC fd s.heap.objs.size f).kindOf binds fun _ => none) (callEnvC fd s.heap.objs.size f).cells (bindC (callEnvC fd s.heap.objs.size f).kindOf binds fun _ => none) s₁) :
    St z (hidden G σ s.heap) (callEnvC fd s.heap.objs.size f) (absB binds) σ s₁ where
  adv := by obtain ⟨_, _, rfl⟩ := I.toInCall.same; exact S.adv
  keep b o e := let ⟨fl, q⟩ := S.keep b o e; ⟨fl, hidden_G q⟩
  prot b o fl e := I.toInCall.keep b o (hidden_get S.prot e)
  fn := hk
  loc := by
    refine ⟨_, I.toInCall.ns, fun x av e kd => ?_⟩
    rw [absB_lookup] at e
    refine ex1 (Option.map_eq_some_iff.mp e) fun v z0x0r => ?_
    refine and2 z0x0r fun hv z0x2 => ?_
    subst z0x2
    exact ⟨v, by rw [bindL_lookup kd binds _ hnd, hv]; rfl, vr_abs v⟩
  locG := by
    cases q : hidden G σ s.heap (callEnvC fd s.heap.objs.size f).locals with
    | none => rfl
    | some o => exact absurd (Heap.lt_size (hidden_get S.prot q)) (Nat.not_lt.mpr I.toInCall.fresh)
  locS := S.fresh I.toInCall.fresh
  cel := by
    intro x c e kd
    have hc := I.cell x c e
    have ha := I.above x c (mem_of_lookup e)
    have hlt : s.heap.objs.size ≤ c := Nat.le_of_lt (Nat.lt_of_le_of_lt I.toInCall.fresh ha)
    refine ⟨⟨_, hc⟩, fun av q => ?_, S.fresh hlt, Nat.ne_of_gt ha⟩
    · rw [absB_lookup] at q
      refine ex1 (Option.map_eq_some_iff.mp q) fun v z1x0r => ?_
      refine and2 z1x0r fun hv z1x2 => ?_
      subst z1x2
      refine ⟨v, ?_, vr_abs v⟩
      have : bindC (callEnvC fd s.heap.objs.size f).kindOf binds (fun _ => none) x = some v := by rw [bindC_lookup (by rw [kd]; intro z; cases z) binds _ hnd, hv]; rfl
      rw [this] at hc; exact hc
  celG := by
    intro x c e kd p q
    have ha := I.above x c (mem_of_lookup e)
    exact absurd (Heap.lt_size (hidden_get S.prot q)) (Nat.not_lt.mpr (Nat.le_of_lt (Nat.lt_of_le_of_lt I.toInCall.fresh ha)))
  apart x y c e1 e2 := name_of_addr I.apart (mem_of_lookup e1) (mem_of_lookup e2)
  fre := by
    intro x c av _ kd
    exfalso
    have : (x, NameKind.free) ∈ fd.scope.names := mem_of_lookup kd
    have := List.all_eq_true.mp hnf _ this
    simp at this
  obj a o e := OR.mv (S.obj a o e) fun o' => I.toInCall.keep a o'
  objG a o e := by
    rcases S.objG a o e with h | ⟨p, h⟩
    · exact .inl (hidden_sto h e)
    · exact .inr ⟨p, hidden_G h⟩

theorem St.back {env' : Env} {ε' : Vars} {σ' : Sto} {s' : Shared} (S : St z G env ε σ s) (S' : St z (hidden G σ s.heap) env' ε' σ' s') : St z G env ε σ' s' where
  adv := S'.adv
  keep := S.keep
  prot b o fl e := S'.prot b o fl (hidden_G e)
  fn := S.fn
  loc := by
    refine ex1 S.loc fun m z2x0r => ?_
    refine and2 z2x0r fun z2x1 q => ?_
    obtain ⟨o, es, ep, ho, z⟩ := z2x1
    exact ⟨m, ⟨o, es, ep, S'.prot _ _ _ (hidden_off S.locG S.locS ho), z⟩, q⟩
  locG := S.locG
  locS := by
    refine ex1 S.loc fun m z3x0r => ?_
    refine and2 z3x0r fun z3x1 q => ?_
    obtain ⟨o, es, ep, ho, z⟩ := z3x1
    cases q : σ' env.locals with
    | none => rfl
    | some ao => rcases S'.objG _ _ q with h | ⟨p, h⟩ <;> (rw [hidden_off S.locG S.locS ho] at h; cases h)
  cel := by
    intro x c e kd
    refine and4 (S.cel x c e kd) fun z4x0 b sn n => ?_
    obtain ⟨ov, o, ho, hd⟩ := z4x0
    obtain ⟨fl, hc⟩ : ∃ fl, hidden G σ s.heap c = some (o, fl) := by
      cases q : G c with
      | none => exact ⟨false, hidden_off q sn ho⟩
      | some p =>
        have := S.prot c p.1 p.2 q
        rw [ho] at this; cases this
        exact ⟨p.2, hidden_G q⟩
    refine ⟨⟨ov, o, S'.prot _ _ _ hc, hd⟩, fun av q => ?_, ?_, n⟩
    · refine ex1 (b av q) fun v z5x0r => ?_
      refine and2 z5x0r fun z5x1 r => ?_
      obtain ⟨o', ho', hd'⟩ := z5x1
      rw [ho] at ho'; cases ho'
      exact ⟨v, ⟨o, S'.prot _ _ _ hc, hd'⟩, r⟩
    · cases q : σ' c with
      | none => rfl
      | some ao =>
        exfalso
        rcases S'.objG _ _ q with h | ⟨p, h⟩
        · rw [hc] at h; cases h
        · cases r : G c with
          | none => rw [hidden_off r sn ho] at h; cases h
          | some p' => rw [hidden_G r] at h; cases h; exact S.celG x c e kd _ r
  celG := S.celG
  apart := S.apart
  fre := S.fre
  obj := S'.obj
  objG a o e := by
    rcases S'.objG a o e with h | ⟨p, h⟩
    · refine .inl ?_
      cases q : G a with
      | none => rfl
      | some p => rw [hidden_G q] at h; cases h
    · cases q : G a with
      | none =>
        exfalso
        unfold hidden at h
        rw [q] at h
        cases r : σ a with
        | none => rw [r] at h; obtain ⟨o, _, e⟩ := Option.map_eq_some_iff.mp h; cases e
        | some _ => rw [r] at h; cases h
      | some p' => rw [hidden_G q] at h; cases h; exact .inr ⟨p, rfl⟩

theorem St.sub {σ' : Sto} (S : St z G env ε σ s) (k : ∀ a o, σ' a = some o → σ a = some o) : St z G env ε σ' s where
  adv := S.adv
  keep := S.keep
  prot := S.prot
  fn := S.fn
  loc := S.loc
  locG := S.locG
  locS := by
    cases q : σ' env.locals with
    | none => rfl
    | some o => have := k _ _ q; rw [S.locS] at this; cases this
  cel x c e kd := by
    refine and4 (S.cel x c e kd) fun a b sn n => ?_
    refine ⟨a, b, ?_, n⟩
    cases q : σ' c with
    | none => rfl
    | some o => have := k _ _ q; rw [sn] at this; cases this
  celG := S.celG
  apart := S.apart
  fre := S.fre
  obj a o e := S.obj a o (k a o e)
  objG a o e := S.objG a o (k a o e)

noncomputable def SubV (ε : Vars) : Vars → Prop
  | [] => True
  | p :: r => ε.lookup p.1 = some p.2 ∧ SubV ε r
theorem SubV.get {ε : Vars} : ∀ {ε' : Vars}, SubV ε ε' → ∀ {x : Str} {av : AV}, ε'.lookup x = some av → ε.lookup x = some av
  | [], _, _, _, e => by cases e
  | (y, a) :: r, h, x, av, e => by
    rw [lookup_cons'] at e
    by_cases q : x = y
    · rw [if_pos q] at e; cases e; rw [q]; exact h.1
    · rw [if_neg q] at e; exact SubV.get h.2 e
theorem St.vars {ε' : Vars} (S : St z G env ε σ s) (k : SubV ε ε') : St z G env ε' σ s where
  adv := S.adv
  keep := S.keep
  prot := S.prot
  fn := S.fn
  loc := by obtain ⟨m, hm, q⟩ := S.loc; exact ⟨m, hm, fun x av e => q x av (k.get e)⟩
  locG := S.locG
  locS := S.locS
  cel x c e kd := by
    refine and3 (S.cel x c e kd) fun a b r => ?_
    exact ⟨a, fun av q => b av (k.get q), r⟩
  celG := S.celG
  apart := S.apart
  fre x c av e kd q := S.fre x c av e kd (k.get q)
  obj := S.obj
  objG := S.objG

noncomputable def bindOk (fd : FuncData) (L : Addr) (ns : List Str) : Bool := ns.all fun x => match fd.scope.names.lookup x with
  | some .local => true
  | some .cell => ((cellsFrom (L + 1) fd.scope.names []).lookup x).isSome
  | _ => false
noncomputable def distinct : List Str → Bool
  | [] => true
  | x :: r => !r.contains x && distinct r
theorem nodup_of : ∀ {ns : List Str}, distinct ns = true → ns.Nodup
  | [], _ => List.nodup_nil
  | x :: r, h => by
    unfold distinct at h
    rw [Bool.and_eq_true] at h
    rw [List.nodup_cons]
    refine ⟨fun q => ?_, nodup_of h.2⟩
    have := h.1
    simp [q] at this

theorem enter {fd : FuncData} {f : Addr} {body : List Stmt} {vals : List Value} {ns : List Str} {binds : List (Str × Value)} {R : Result → Shared → Prop} {oc : Value} {od : Option Addr} {osl : Array (Option Value)}
    (W : Wd K mg mb z.heap) (S : St z G env ε σ s) (hroom : A.depth < recursionLimit) (ho : K.lookup f = some ⟨oc, od, .func fd, osl⟩) (hcd : codeIn K fd.code fd.qualname = true)
    (hbody : fd.body = .stmts body) (hbind : bindArgs fd ⟨vals, []⟩ = pure binds) (hclo : fd.closure = []) (hns : binds.map (·.1) = ns)
    (hkind : ∀ L, bindOk fd L ns = true) (hnd : distinct ns = true) (hnf : (fd.scope.names.all fun p => p.2 != .free) = true)
    (h : ∀ L s₁, let en := callEnvC fd L f; (∀ x c, en.cells.lookup x = some c → hidden G σ s.heap c = none) → St z (hidden G σ s.heap) en (absB binds) σ s₁ →
      wpAny (model prog w) (A.deeper en) (execs body en) (fun fl s' => R (.ok (.ret (match fl with | .ret v => v | _ => .none))) s')
        (fun e s' => wpAny (model prog w) (A.deeper en) (leaving en e) (fun _ s'' => R (.error e) s'') (fun e' s'' => R (.error e') s'') s') s₁)
    (hco : fd.scope.isCoroutine = false := by rfl) (hgen : fd.scope.isGenerator = false := by rfl) (hk : fd.scope.kind = .function := by rfl) : codeAny (model prog w) A (.call (.ref f) ⟨vals, []⟩) R s :=
  codeAny_call_cells hroom ((W.X.keeps S.base) _ _ ho) rfl (W.nolimit.keeps S.base) (codeRec_of (W.X.keeps S.base) hcd) hbody hbind hclo
    (fun x hx => by
      have hx : x.1 ∈ ns := hns ▸ List.mem_map_of_mem hx
      have := List.all_eq_true.mp (hkind s.heap.objs.size) _ hx
      revert this
      cases q : fd.scope.names.lookup x.1 with
      | none => intro h; cases h
      | some k => cases k <;> intro h <;> first | exact .inl rfl | exact .inr ⟨rfl, h⟩ | cases h)
    (fun s₁ I => h _ s₁ (fun x c e => S.cellsOff I e) (S.into hk (hns ▸ nodup_of hnd) hnf I)) hco hgen hk

noncomputable def retOf : Flow → Value
  | .ret v => v
  | _ => .none
noncomputable def Leave (M : Model) (A : Around) (en : Env) (E : Value → Shared → Prop) : Value → Shared → Prop := fun e s' => wpAny M A (leaving en e) (fun _ s'' => E e s'') E s'
structure LetQ {α : Type} (Q : α → Shared → Prop) (E : Value → Shared → Prop) (Q' : α → Shared → Prop) (E' : Value → Shared → Prop) : Prop where
  up : ∀ f s, Q f s → Q' f s
  er : ∀ e s, E e s → E' e s
noncomputable def LetW {α : Type} (M : Model) (A : Around) (c : Sem α) (Q : α → Shared → Prop) (E : Value → Shared → Prop) (s : Shared) : Prop := ∀ Q' E', LetQ Q E Q' E' → wpAny M A c Q' E' s
theorem LetW.go {α : Type} {M : Model} {A : Around} {c : Sem α} {Q : α → Shared → Prop} {E : Value → Shared → Prop} {s : Shared} (h : ∀ Q' E', LetQ Q E Q' E' → wpAny M A c Q' E' s) : LetW M A c Q E s := h
theorem LetW.of {α : Type} {M : Model} {A : Around} {c : Sem α} {Q : α → Shared → Prop} {E : Value → Shared → Prop} {s : Shared} (h : wpAny M A c Q E s) : LetW M A c Q E s := fun _ _ q => wpAny_mono h q.up q.er
theorem LetW.run {α : Type} {M : Model} {A : Around} {c : Sem α} {Q : α → Shared → Prop} {E : Value → Shared → Prop} {s : Shared} (h : LetW M A c Q E s) : wpAny M A c Q E s := h Q E ⟨fun _ _ x => x, fun _ _ x => x⟩
theorem enterC {fd : FuncData} {f : Addr} {body : List Stmt} {vals : List Value} {ns : List Str} {binds : List (Str × Value)} {Q : Value → Shared → Prop} {oc : Value} {od : Option Addr} {osl : Array (Option Value)}
    (W : Wd K mg mb z.heap) (S : St z G env ε σ s) (hroom : A.depth < recursionLimit) (ho : K.lookup f = some ⟨oc, od, .func fd, osl⟩) (hcd : codeIn K fd.code fd.qualname = true)
    (hbody : fd.body = .stmts body) (hbind : bindArgs fd ⟨vals, []⟩ = pure binds) (hclo : fd.closure = []) (hns : binds.map (·.1) = ns)
    (hkind : ∀ L, bindOk fd L ns = true) (hnd : distinct ns = true) (hnf : (fd.scope.names.all fun p => p.2 != .free) = true)
    (h : ∀ L s₁, let en := callEnvC fd L f; (∀ x c, en.cells.lookup x = some c → hidden G σ s.heap c = none) → St z (hidden G σ s.heap) en (absB binds) σ s₁ →
      LetW (model prog w) (A.deeper en) (execs body en) (fun fl s' => Q (retOf fl) s') (Leave (model prog w) (A.deeper en) en E) s₁)
    (hco : fd.scope.isCoroutine = false := by rfl) (hgen : fd.scope.isGenerator = false := by rfl) (hk : fd.scope.kind = .function := by rfl) : wpAny (model prog w) A (call (.ref f) vals) Q E s := by
  refine wpAny_call (enter W S hroom ho hcd hbody hbind hclo hns hkind hnd hnf (fun L s₁ C₁ S₁ => ?_) hco hgen hk)
  refine wpAny_mono (h L s₁ C₁ S₁).run (fun fl s' q => ?_) fun e s' q => ?_
  · cases fl <;> exact q
  · exact wpAny_mono q (fun _ _ q => q) fun _ _ q => q
end
end
section
section
variable {prog : Program} {w : World} {A : Around} {E : Value → Shared → Prop} {s : Shared} {K : Frag} {mg mb : Str → Option Value} {z : Shared} {G : Addr → Option (Obj × Bool)} {env : Env} {ε : Vars} {σ : Sto} {x : Str} {pos : Pos}

theorem r_local {M : Model} {av : AV} {Q : Value → Shared → Prop} (S : St z G env ε σ s) (hl : env.kindOf x = some .local) (hx : ε.lookup x = some av) (hd : (x == ("__debug__" : Str)) = false)
    (h : ValsQ av Q s) : wpAny M A (eval (.Name x pos) env) Q E s := by
  refine ex1 S.loc fun m z0x0r => ?_
  refine and2 z0x0r fun hm q => ?_
  refine ex1 (q x av hx hl) fun v z1x0r => ?_
  refine and2 z1x0r fun hv r => ?_
  exact wpAny_Name (wpAny_loadName_local S.fn hl hm hv (h.at r)) hd
theorem r_cell {M : Model} {av : AV} {c : Addr} {Q : Value → Shared → Prop} (S : St z G env ε σ s) (hl : env.kindOf x = some .cell) (hc : env.cells.lookup x = some c) (hx : ε.lookup x = some av) (hd : (x == ("__debug__" : Str)) = false)
    (h : ValsQ av Q s) : wpAny M A (eval (.Name x pos) env) Q E s := by
  refine and3 (S.cel x c hc hl) fun _ q _ => ?_
  refine ex1 (q av hx) fun v z3x0r => ?_
  refine and2 z3x0r fun hv r => ?_
  exact wpAny_Name (wpAny_loadName_cell S.fn hl hc hv (h.at r)) hd
theorem r_free {M : Model} {av : AV} {c : Addr} {Q : Value → Shared → Prop} (S : St z G env ε σ s) (hl : env.kindOf x = some .free) (hc : env.cells.lookup x = some c) (hx : ε.lookup x = some av) (hd : (x == ("__debug__" : Str)) = false) (hn : (x == ("__classdict__" : Str)) = false)
    (h : ValsQ av Q s) : wpAny M A (eval (.Name x pos) env) Q E s := by
  refine ex3 (S.fre x c av hc hl hx) fun o v fl z4x0r => ?_
  refine and3 z4x0r fun ho hv r => ?_
  exact wpAny_Name (wpAny_loadName_free S.fn hl hc ⟨o, S.prot _ _ _ ho, hv⟩ (h.at r) hn) hd
theorem r_glob {M : Model} {v : Value} {Q : Value → Shared → Prop} (W : Wd K mg mb z.heap) (S : St z G env ε σ s) (hl : env.kindOf x = some .globalImplicit) (hg : env.globals = mainGlobals) (e : nsIn K mainGlobals x = some (some v)) (hd : (x == ("__debug__" : Str)) = false)
    (h : Q v s) : wpAny M A (eval (.Name x pos) env) Q E s :=
  Name_function_global S.fn hl (loadGlobal_global (env := env) (show s.heap.Ns env.globals mg from hg ▸ W.g.keeps S.base) (mg_of W.X W.g e) h) hd
theorem r_built {M : Model} {v : Value} {Q : Value → Shared → Prop} (W : Wd K mg mb z.heap) (S : St z G env ε σ s) (hl : env.kindOf x = some .globalImplicit) (hg : env.globals = mainGlobals) (hb : env.builtins = builtinsNs) (e : nsIn K mainGlobals x = some none)
    (hv : bootBuiltins x = some v) (hn : x ≠ "__name__") (hd : (x == ("__debug__" : Str)) = false) (h : Q v s) : wpAny M A (eval (.Name x pos) env) Q E s :=
  Name_function_global S.fn hl (loadGlobal_builtin (env := env) (show s.heap.Ns env.globals mg from hg ▸ W.g.keeps S.base) (mg_none_of W.X W.g e) (show s.heap.Ns env.builtins mb from hb ▸ W.b.keeps S.base) ((W.builtins x hn).trans hv) h) hd

theorem r_store {M : Model} {v : Value} {Q : Unit → Shared → Prop} (S : St z G env ε σ s) (hl : env.kindOf x = some .local)
    (h : ∀ s', St z G env (put ε x (absv v)) σ s' → Q () s') : wpAny M A (storeName env x v) Q E s := by
  refine ex1 S.loc fun m z5x0r => ?_
  refine and2 z5x0r fun hm q => ?_
  refine wpAny_storeName_local hl hm (fun h' hn hs => h _ (S.storeLocal (s' := { s with heap := h', toks := s.toks + 1 }) ⟨rfl, rfl⟩ hl (vr_abs v) q hn hs)) ?_
  show (env.scope.kind == .class || (env.scope.kind == .module && env.locals != env.globals)) = false
  rw [S.fn]; rfl
theorem r_storeC {M : Model} {v : Value} {c : Addr} {Q : Unit → Shared → Prop} (S : St z G env ε σ s) (hl : env.kindOf x = some .cell) (hc : env.cells.lookup x = some c) (hm : ∀ x c, env.cells.lookup x = some c → G c = none)
    (h : ∀ s', St z G env (put ε x (absv v)) σ s' → Q () s') : wpAny M A (storeName env x v) Q E s := by
  refine and2 (S.cel x c hc hl) fun z6x0 _ => ?_
  obtain ⟨ov, hv⟩ := z6x0
  exact wpAny_storeName_cell S.fn hl hc hv fun h' hn hs => h _ (S.storeCell (s' := { s with heap := h' }) ⟨rfl, rfl⟩ hl hc (hm x c hc) (vr_abs v) hn hs)

noncomputable def plainAV : AV → Bool
  | .lit _ => false
  | _ => true
theorem handed_of {av : AV} {v : Value} (r : VR av v) (h : plainAV av = true) : handedIn v = true := by
  cases av with
  | none => cases r; rfl
  | bool b => cases r; rfl
  | int i => obtain ⟨t, rfl⟩ := r; rfl
  | str x => obtain ⟨t, rfl⟩ := r; rfl
  | ref a => cases r; rfl
  | lit v => cases h

theorem ns_look {h : Heap} {d : Addr} {m : Str → Option Value} (hn : h.Ns d m) : ∃ o, h.get? d = some o ∧ ∀ x, lookIn x o = some (m x) := by
  refine ex3 hn fun o es ep z7x0r => ?_
  refine and4 z7x0r fun ho hd hk hf => ?_
  refine ⟨o, ho, fun x => ?_⟩
  unfold lookIn
  rw [hd]
  dsimp only
  have e := hf x
  unfold nsFind findBy at e
  rw [← Array.find?_toList] at e
  have r : es.toList.any (·.refKey) = false := by
    rw [List.any_eq_false]
    intro en he
    refine ex2 (hk en (by simpa using he)) fun n t q => ?_
    simp [DictEntry.refKey, q]
  cases q : es.toList.find? (·.key.isStr x) with
  | some en => rw [q] at e; simp only [Option.map_some] at e; rw [← e]
  | none => rw [q] at e; simp only [Option.map_none] at e; rw [← e, r]; rfl

theorem inst_at {a d C : Addr} {n : Nat} {fs : List (Str × AV)} (S : St z G env ε σ s) (hi : σ a = some (.inst C d)) (hd : σ d = some (.ns n fs)) :
    ∃ ox od m, InstAt s.heap a ox C (some od) ∧ ox.dict = some d ∧ NsN s.heap d n m ∧ NsR m fs ∧ ∀ x, lookIn x od = some (m x) := by
  refine ex1 (S.obj a _ hi) fun sl ho => ?_
  refine ex1 (S.obj d _ hd) fun m z10x0r => ?_
  refine and2 z10x0r fun hm r => ?_
  refine ex1 (ns_look hm.1) fun o z11x0r => ?_
  refine and2 z11x0r fun hod hl => ?_
  exact ⟨_, o, m, ⟨ho, rfl, rfl, hod⟩, rfl, hm, r, hl⟩

theorem r_attr {a d C : Addr} {n : Nat} {fs : List (Str × AV)} {name : Str} {av : AV} {expr : Bool} {Q : Value → Shared → Prop} (W : Wd K mg mb z.heap) (S : St z G env ε σ s) (hi : σ a = some (.inst C d)) (hd : σ d = some (.ns n fs)) (hx : fs.lookup name = some av)
    (hav : plainAV av = true)
    (hga : findIn K (.ref C) "__getattribute__" = some (some (.builtin "object.__getattribute__"))) (hf : findIn K (.ref C) name = some none) (hc : hasDictIn K C = true)
    (h : ∀ s', St z G env ε σ s' → ValsQ av Q s') : wpAny (model prog w) A (getAttr (.ref a) name expr) Q E s := by
  refine ex3 (inst_at S hi hd) fun ox od m z12x0r => ?_
  refine and5 z12x0r fun I _ _ r hl => ?_
  have q := r name
  rw [hx] at q
  refine ex1 q fun v z13x0r => ?_
  refine and2 z13x0r fun hv vr => ?_
  refine get_value (W.X.keeps S.base) I hga (v := v) ?_ (handed_of vr hav) ((h _ (S.grow (s' := { s with toks := s.toks + 1 }) ⟨rfl, rfl⟩ fun _ _ e => e)).at vr)
  unfold hasDictIn at hc
  cases cc : clsIn K C with
  | none => rw [cc] at hc; cases hc
  | some cd =>
    rw [cc] at hc
    have hc : cd.hasDict = true := hc
    unfold findObj
    rw [cc, hf]
    simp only [Option.bind_some]
    unfold PySem.W.ownOf
    rw [if_pos hc]
    simp only [hl, hv, Option.bind_some]

theorem r_method {a d C f : Addr} {n : Nat} {fs : List (Str × AV)} {name : Str} {pl : Sem Bool} {Q : Value × List Value → Shared → Prop} (W : Wd K mg mb z.heap) (S : St z G env ε σ s) (hi : σ a = some (.inst C d)) (hd : σ d = some (.ns n fs)) (hx : fs.lookup name = none)
    (hga : findIn K (.ref C) "__getattribute__" = some (some (.builtin "object.__getattribute__"))) (hk : findIn K (.ref C) "__getattr__" = some none)
    (hf : findIn K (.ref C) name = some (some (.ref f))) (ht : typeIn K (.ref f) = some (.type "function")) (h : Q (.ref f, [.ref a]) s) : wpAny (model prog w) A (getMethod (.ref a) name pl) Q E s := by
  refine ex3 (inst_at S hi hd) fun ox od m z14x0r => ?_
  refine and5 z14x0r fun I _ _ r hl => ?_
  have q := r name
  rw [hx] at q
  refine method_fn (W.X.keeps S.base) I hga hk hf ht ?_ h
  unfold shadowIn
  simp [hl, q]

theorem nsr_put {m : Str → Option Value} {fs : List (Str × AV)} {name : Str} {v : Value} (r : NsR m fs) : NsR (fun x => if x = name then some v else m x) (put fs name (absv v)) := by
  intro x
  rw [put_lookup]
  by_cases e : x = name
  · rw [if_pos e]; exact ⟨v, if_pos e, vr_abs v⟩
  · rw [if_neg e]
    have q := r x
    cases z : fs.lookup x with
    | none => rw [z] at q; exact (if_neg e).trans q
    | some av => rw [z] at q; obtain ⟨u, hu, vr⟩ := q; exact ⟨u, (if_neg e).trans hu, vr⟩

theorem r_nsSet {M : Model} {a : Addr} {n : Nat} {m : Str → Option Value} {name : Str} {v : Value} {Q : Unit → Shared → Prop} (hn : NsN s.heap a n m)
    (h : ∀ h', NsN h' a (n + 1) (fun x => if x = name then some v else m x) → Heap.SameBut a s.heap h' → Q () { s with heap := h', toks := s.toks + 1 }) : wpAny M A (nsSet a name v) Q E s := by
  obtain ⟨⟨o, es, ep, ho, hd, hk, hm⟩, o2, es2, ep2, ho2, hd2, hz⟩ := hn
  rw [ho] at ho2; cases ho2
  rw [hd] at hd2; cases hd2
  unfold nsSet
  refine wpAny_bind (wpAny_bind (wpAny_askSetting (wpAny_pure (wpAny_bind (wpAny_mkText (wpAny_bind (wpAny_loadPart (s := { s with toks := s.toks + 1 }) ho ?_)))))))
  have hany : es.any (·.refKey) = false := by
    rw [Array.any_eq_false']; intro e he; obtain ⟨n, t, h⟩ := hk e he; simp [DictEntry.refKey, h]
  simp only [hd, aRefKeyMayBeTheName_eq, aRefKeyMayBeTheNameByArray, hany, Bool.and_false, Bool.false_eq_true, if_false]
  refine wpAny_updatePart (s := { s with toks := s.toks + 1 }) ho ?_
  refine h _ ?_ (Heap.SameBut.update ..)
  obtain ⟨c, d, dt, sl⟩ := o
  subst hd
  cases hi : es.findIdx? (·.key.isStr name) with
  | some i =>
    refine ⟨⟨_, _, ep, Heap.get?_update_self _ ho (by simp only [Obj.putName_eq, Obj.putNameByArray, hi]; rfl), by simp only [Obj.putName_eq, Obj.putNameByArray, hi]; rfl, hk.modify _ _, fun x => ?_⟩,
      ⟨_, _, ep, Heap.get?_update_self _ ho (by simp only [Obj.putName_eq, Obj.putNameByArray, hi]; rfl), by simp only [Obj.putName_eq, Obj.putNameByArray, hi]; rfl, by rw [Array.size_modify]; omega⟩⟩
    show _ = if x = name then some v else m x
    rw [← hm]; exact findBy_modify (fun n v => v.isStr n) Value.isStr_inj es name x v i hi
  | none =>
    refine ⟨⟨_, _, ep + 1, Heap.get?_update_self _ ho (by simp only [Obj.putName_eq, Obj.putNameByArray, hi]; rfl), by simp only [Obj.putName_eq, Obj.putNameByArray, hi]; rfl, hk.push _ _ _ _, fun x => ?_⟩,
      ⟨_, _, ep + 1, Heap.get?_update_self _ ho (by simp only [Obj.putName_eq, Obj.putNameByArray, hi]; rfl), by simp only [Obj.putName_eq, Obj.putNameByArray, hi]; rfl, by rw [Array.size_push]; omega⟩⟩
    show _ = if x = name then some v else m x
    rw [← hm]
    exact findBy_push (fun n v => v.isStr n) es name x _ _ v (fun y => by
      show (name == y) = decide (y = name)
      by_cases h : y = name
      · subst h; simp
      · have : ¬ name = y := fun e => h e.symm
        simp [h, this]) hi

theorem r_setattr {a d C : Addr} {n : Nat} {fs : List (Str × AV)} {name : Str} {v : Value} {Q : Unit → Shared → Prop} (W : Wd K mg mb z.heap) (S : St z G env ε σ s) (hi : σ a = some (.inst C d)) (hd : σ d = some (.ns n fs)) (hG : G d = none)
    (hs : findIn K (.ref C) "__setattr__" = some (some (.builtin "object.__setattr__"))) (hp : plainOver K C = true) (ht : takerIn K C name = some none) (hc : hasDictIn K C = true) (hz : n ≤ 1000)
    (h : ∀ s', St z G env ε (upd σ d (.ns (n + 1) (put fs name (absv v)))) s' → Q () s') : wpAny (model prog w) A (setAttr (.ref a) name v) Q E s := by
  refine ex3 (inst_at S hi hd) fun ox od m z17x0r => ?_
  refine and5 z17x0r fun I hdx hm r hl => ?_
  have X := W.X.keeps S.base
  refine set_plain X I hs ?_
  unfold hasDictIn at hc
  refine ex1 (any_some hc) fun cd z18x0r => ?_
  refine and2 z18x0r fun hcd hd' => ?_
  have I' := I
  obtain ⟨hx, hcl, hn, -⟩ := I
  obtain ⟨oc, odi, oda, osl⟩ := ox
  dsimp only at hcl hdx
  subst hcl hdx
  obtain ⟨hh, g, dr, tk, os⟩ := s
  refine osa_open (s := ⟨hh, g, dr, tk + 1, os⟩) X I' hp ht fun b => ?_
  refine wpAny_bind (wpAny_pure (wpAny_bind (wpAny_bind (wpAny_loadPart hx (wpAny_bind ((looks_clsIn X hcd).at ?_))))))
  rw [hd']
  refine wpAny_pure (a := some d) (wpAny_bind (wpAny_pure (wpAny_bind ?_)))
  refine r_nsSet hm fun h' hn' hs' => ?_
  have S' := S.turn (s' := ⟨h', g, dr, tk + 1 + 1, os⟩) ⟨rfl, rfl⟩ hd hG (fun b o e1 e2 => (hs'.2 b e1).trans e2) (show OR h' d (.ns (n + 1) (put fs name (absv v))) from ⟨_, hn', nsr_put r⟩)
  refine and2 hn' fun hn1 z22x0r => ?_
  refine ex3 z22x0r fun o es ep z22x1r => ?_
  refine and3 z22x1r fun ho hda hz' => ?_
  refine wpAny_bind (wpAny_lookBehind ho (by rw [hda]; exact pastItsLine_dict (by rw [sizeLine_eq]; omega)) ?_)
  exact wpAny_pure (h _ S')
end
end
section
section
variable {z s s' : Shared} {G : Addr → Option (Obj × Bool)} {env : Env} {ε : Vars} {σ : Sto}

theorem St.tick (S : St z G env ε σ s) {t : Nat} : St z G env ε σ { s with toks := t } := S.grow ⟨rfl, rfl⟩ fun _ _ e => e
theorem St.push (S : St z G env ε σ s) {o : Obj} {t : Nat} : St z G env ε σ { s with heap := s.heap.push o, toks := t } := S.grow ⟨rfl, rfl⟩ fun _ _ e => Heap.get?_push_of_some _ e
theorem St.add (S : St z G env ε σ s) (S' : St z G env ε σ s') {a : Addr} {ao : AO} (ha : s.heap.objs.size ≤ a) (r : OR s'.heap a ao) : St z G env ε (upd σ a ao) s' := by
  have hL : env.locals ≠ a := by obtain ⟨m, hm, _⟩ := S.loc; exact Nat.ne_of_lt (Nat.lt_of_lt_of_le hm.lt ha)
  refine { S' with locS := by rw [upd_ne hL]; exact S.locS, cel := ?_, obj := ?_, objG := ?_ }
  · intro x c e kd
    refine and4 (S'.cel x c e kd) fun z0x0 b s n => ?_
    obtain ⟨ov, y⟩ := z0x0
    refine and2 (S.cel x c e kd) fun z1x0 _ => ?_
    obtain ⟨ov₀, y₀⟩ := z1x0
    exact ⟨⟨ov, y⟩, b, by rw [upd_ne (Nat.ne_of_lt (Nat.lt_of_lt_of_le y₀.lt ha))]; exact s, n⟩
  · intro b o e
    by_cases q : b = a
    · subst q; rw [upd_self] at e; cases e; exact r
    · rw [upd_ne q] at e; exact S'.obj b o e
  · intro b o e
    by_cases q : b = a
    · subst q; exact .inl (S.freshG ha)
    · rw [upd_ne q] at e; exact S.objG b o e

theorem vrs_abs : ∀ vs : List Value, VRs (vs.map absv) vs
  | [] => rfl
  | v :: r => ⟨v, r, rfl, vr_abs v, vrs_abs r⟩
theorem isList_of {h : Heap} {a : Addr} {items : List Value} {n : Nat} (e : h.get? a = some { cls := .type "list", dict := none, data := .seq items.toArray n, slots := #[] }) : h.IsList a items.toArray := ⟨_, e, rfl, n, rfl⟩
theorem isTup_of {h : Heap} {a : Addr} {items : List Value} {n : Nat} (e : h.get? a = some { cls := .type "tuple", dict := none, data := .seq items.toArray n, slots := #[] }) : IsTup h a items.toArray := ⟨_, e, rfl, n, rfl⟩

noncomputable def Grow (σ σ' : Sto) : Prop := ∀ a o, σ a = some o → σ' a = some o
theorem Grow.refl {σ : Sto} : Grow σ σ := fun _ _ e => e
theorem Grow.trans {a b c : Sto} (x : Grow a b) (y : Grow b c) : Grow a c := fun d o e => y d o (x d o e)
theorem Grow.upd {σ : Sto} {a : Addr} {ao : AO} (h : σ a = none) : Grow σ (upd σ a ao) := fun b o e => by
  rw [upd_ne (fun q => by rw [q, h] at e; cases e)]; exact e
noncomputable def off (a : Addr) : List Addr → Prop
  | [] => True
  | b :: r => a ≠ b ∧ off a r
theorem off_of {a : Addr} : ∀ {ls : List Addr}, off a ls → ∀ b ∈ ls, a ≠ b
  | _ :: _, h, _, .head _ => h.1
  | _ :: _, h, b, .tail _ q => off_of h.2 b q
theorem off_sub {a : Addr} : ∀ {ls : List Addr}, (∀ b ∈ ls, a ≠ b) → off a ls
  | [], _ => trivial
  | b :: r, h => ⟨h b (.head _), off_sub fun c q => h c (.tail _ q)⟩
noncomputable def But (ls : List Addr) (σ σ' : Sto) : Prop := ∀ a o, off a ls → σ a = some o → σ' a = some o
theorem Grow.but {ls : List Addr} {σ σ' : Sto} (x : Grow σ σ') : But ls σ σ' := fun a o _ e => x a o e
theorem But.refl {ls : List Addr} {σ : Sto} : But ls σ σ := fun _ _ _ e => e
theorem But.trans {ls : List Addr} {a b c : Sto} (x : But ls a b) (y : But ls b c) : But ls a c := fun d o n e => y d o n (x d o n e)
theorem But.upd {ls : List Addr} {l : Addr} {σ : Sto} {ao : AO} (h : l ∈ ls) : But ls σ (upd σ l ao) := fun a o n e => by rw [upd_ne (off_of n l h)]; exact e
theorem But.rem {ls : List Addr} {l : Addr} {σ : Sto} (h : l ∈ ls) : But ls σ (rem σ l) := fun a o n e => by rw [rem_ne (off_of n l h)]; exact e
theorem But.mono {ls ks : List Addr} {σ σ' : Sto} (x : But ls σ σ') (h : ∀ b ∈ ls, b ∈ ks) : But ks σ σ' := fun a o n e => x a o (off_sub fun b q => off_of n b (h b q)) e
theorem But.drop {ls : List Addr} {l : Addr} {σ σ₁ σ' : Sto} (x : But (l :: ls) σ₁ σ') (g : Grow σ σ₁) (hn : σ l = none) : But ls σ σ' := fun a o n e => x a o ⟨fun q => (by rw [q, hn] at e; cases e), n⟩ (g a o e)
theorem But.grow {σ σ' : Sto} (x : But [] σ σ') : Grow σ σ' := fun a o e => x a o trivial e
theorem But.get {ls : List Addr} {a : Addr} {σ σ' : Sto} {o : AO} (x : But ls σ σ') (e : σ a = some o) (n : off a ls) : σ' a = some o := x a o n e
theorem Grow.get {a : Addr} {σ σ' : Sto} {o : AO} (x : Grow σ σ') (e : σ a = some o) : σ' a = some o := x a o e
theorem ne_new {σ : Sto} {a b : Addr} {o : AO} (e : σ a = some o) (n : σ b = none) : a ≠ b := fun q => by rw [q, n] at e; cases e
theorem upd_at {σ : Sto} {a b : Addr} {o ao : AO} (h : σ b = some o) (ha : σ a = none) : upd σ a ao b = some o := Grow.upd ha b o h
theorem rem_off {σ : Sto} {a b : Addr} {o : AO} (h : σ b = some o) (ha : b ≠ a) : rem σ a b = some o := by rw [rem_ne ha]; exact h
theorem upd_off {σ : Sto} {a b : Addr} {o ao : AO} (h : σ b = some o) (ha : b ≠ a) : upd σ a ao b = some o := by rw [upd_ne ha]; exact h
end
section
variable {prog : Program} {w : World} {A : Around} {E : Value → Shared → Prop} {s : Shared} {K : Frag} {mg mb : Str → Option Value} {z : Shared} {G : Addr → Option (Obj × Bool)} {env : Env} {ε : Vars} {σ : Sto} {x : Str} {pos : Pos}

theorem r_cint {M : Model} {i : Int} {k : Nat} {Q : Value → Shared → Prop} (S : St z G env ε σ s) (h : ∀ t s', St z G env ε σ s' → Q (.int i t) s') : wpAny M A (eval (.Constant (.int i) k pos) env) Q E s := wpAny_Constant_int (h _ _ S.tick)
theorem r_cstr {M : Model} {k : Nat} {Q : Value → Shared → Prop} (S : St z G env ε σ s) (h : ∀ t s', St z G env ε σ s' → Q (.str x t) s') : wpAny M A (eval (.Constant (.str x) k pos) env) Q E s := Calls.Constant_str (h _ _ S.tick)
section
variable {a b : Int} {t u : Tok} {Q : Value → Shared → Prop}
theorem r_add (S : St z G env ε σ s) (h : ∀ t s', St z G env ε σ s' → Q (.int (a + b) t) s') : wpAny (model prog w) A (binaryOp .Add (.int a t) (.int b u)) Q E s := PyProof.Rows.add_int (h _ _ S.tick)
theorem r_sub (S : St z G env ε σ s) (h : ∀ t s', St z G env ε σ s' → Q (.int (a - b) t) s') : wpAny (model prog w) A (binaryOp .Sub (.int a t) (.int b u)) Q E s := PyProof.Rows.sub_int (h _ _ S.tick)
theorem r_mul (S : St z G env ε σ s) (hm : IntMulOk a b) (h : ∀ t s', St z G env ε σ s' → Q (.int (a * b) t) s') : wpAny (model prog w) A (binaryOp .Mult (.int a t) (.int b u)) Q E s := PyProof.Rows.mul_int (h _ _ S.tick) hm
theorem r_fdiv (S : St z G env ε σ s) (h1 : -1000000000 < b) (h2 : b < 1000000000) (hb : b ≠ 0) (h : ∀ t s', St z G env ε σ s' → Q (.int (a.fdiv b) t) s') : wpAny (model prog w) A (binaryOp .FloorDiv (.int a t) (.int b u)) Q E s := PyProof.Rows.floordiv_int hb (h _ _ S.tick) (Or.inl (PyProof.noPylong_small (by omega)))
theorem mul_ok {a b : Int} (h1 : -1000000000 < b) (h2 : b < 1000000000) : IntMulOk a b := IntMulOk.of_right (intBits_le_64 (by omega) (by omega))
theorem r_mod (S : St z G env ε σ s) (hb : b ≠ 0) (h : ∀ t s', St z G env ε σ s' → Q (.int (a.fmod b) t) s') : wpAny (model prog w) A (binaryOp .Mod (.int a t) (.int b u)) Q E s := PyProof.Rows.mod_int hb (h _ _ S.tick)
end

noncomputable def MkL (vs : List Value) (Q : Value → Shared → Prop) (s : Shared) : Prop := vs.length ≤ sizeLine ∧ Q (.ref s.heap.objs.size) { s with heap := s.heap.push { cls := .type "list", data := .seq vs.toArray } }
noncomputable def MkT (vs : List Value) (Q : Value → Shared → Prop) (s : Shared) : Prop := vs.length ≤ sizeLine ∧ Q (.ref s.heap.objs.size) { s with heap := s.heap.push { cls := .type "tuple", data := .seq vs.toArray } }
theorem r_List {M : Model} {elts : List Expr} {Q : Value → Shared → Prop} (h : wpAny M A (spliced (backTo pos (starEach elts env))) (fun vs s₁ => MkL vs Q s₁) E s) : wpAny M A (eval (.List elts pos) env) Q E s := wpAny_List h
theorem r_Tuple {M : Model} {elts : List Expr} {k : Nat} {Q : Value → Shared → Prop} (h : wpAny M A (spliced (backTo pos (starEach elts env))) (fun vs s₁ => MkT vs Q s₁) E s) : wpAny M A (eval (.Tuple elts k pos) env) Q E s := wpAny_Tuple h
theorem r_newList {vs : List Value} {Q : Value → Shared → Prop} (S : St z G env ε σ s) (hz : vs.length ≤ 1000) (h : ∀ a s' σ', σ a = none → G a = none → Grow σ σ' → σ' a = some (.list (vs.map absv)) → St z G env ε σ' s' → Q (.ref a) s') : MkL vs Q s := by
  refine ⟨by rw [sizeLine_eq]; omega, h _ _ _ (S.fresh (Nat.le_refl _)) (S.freshG (Nat.le_refl _)) (Grow.upd (S.fresh (Nat.le_refl _))) upd_self (S.new ⟨rfl, rfl⟩ (Nat.le_refl _) (fun _ _ e => Heap.get?_push_of_some _ e) ?_)⟩
  exact ⟨vs, _, Heap.get?_push_size _ rfl, vrs_abs vs⟩
theorem r_newTup {vs : List Value} {Q : Value → Shared → Prop} (S : St z G env ε σ s) (hz : vs.length ≤ 1000) (h : ∀ a s' σ', σ a = none → G a = none → Grow σ σ' → σ' a = some (.tup (vs.map absv)) → St z G env ε σ' s' → Q (.ref a) s') : MkT vs Q s := by
  refine ⟨by rw [sizeLine_eq]; omega, h _ _ _ (S.fresh (Nat.le_refl _)) (S.freshG (Nat.le_refl _)) (Grow.upd (S.fresh (Nat.le_refl _))) upd_self (S.new ⟨rfl, rfl⟩ (Nat.le_refl _) (fun _ _ e => Heap.get?_push_of_some _ e) ?_)⟩
  exact ⟨vs, _, Heap.get?_push_size _ rfl, vrs_abs vs⟩

theorem r_listMethod {name : Str} {id : String} {pl : Sem Bool} {l : Addr} {vs : List AV} {Q : Value × List Value → Shared → Prop} (S : St z G env ε σ s) (hl : σ l = some (.list vs)) (slot : Slot "list" name id)
    (hty : typeOf (.builtin id) = pure (.type "method_descriptor")) (h : Q (.builtin id, [.ref l]) s) : wpAny (model prog w) A (getMethod (.ref l) name pl) Q E s := by
  refine ex2 (S.obj _ _ hl) fun items n z2x0r => ?_
  refine and2 z2x0r fun ho r => ?_
  exact getMethod_list_of slot hty (isList_of ho) (by first | exact ⟨_, ho, rfl⟩ | (intro a e; cases e; exact ⟨_, ho, rfl⟩)) h

theorem r_append {l : Addr} {vs : List AV} {v : Value} {Q : Value → Shared → Prop} (S : St z G env ε σ s) (hl : σ l = some (.list vs)) (hG : G l = none) (hz : vs.length ≤ 100000)
    (h : ∀ s', St z G env ε (upd σ l (.list (vs ++ [absv v]))) s' → Q .none s') : wpAny (model prog w) A (call (.builtin "list.append") [.ref l, v]) Q E s := by
  refine ex2 (S.obj _ _ hl) fun items n z3x0r => ?_
  refine and2 z3x0r fun ho r => ?_
  refine wpAny_list_append_plain ⟨n, ho⟩ (fun h' hp hs => ?_) (by have := r.length; rw [sizeLine_eq, List.size_toArray]; omega)
  refine ex1 hp fun n' hp => ?_
  refine h _ (S.turn (s' := { s with heap := h' }) ⟨rfl, rfl⟩ hl hG (fun b o e1 e2 => (hs.2 b e1).trans e2) ⟨items ++ [v], n', ?_, r.append (VRs.one (vr_abs v))⟩)
  rw [hp]; simp

theorem r_item {value slice : Expr} {l : Addr} {vs : List AV} {k : Int} {u : Tok} {av : AV} {Q : Value → Shared → Prop} (S : St z G env ε σ s) (hl : σ l = some (.list vs)) (h0 : 0 ≤ k) (hfit : k < 2 ^ 63) (hx : vs[k.toNat]? = some av)
    (h : ValsQ av Q s) (hs : subscripted slice false (.ref l) (.int k u) = operate [.ref l, .int k u] (getItem (.ref l) (.int k u)) := by with_unfolding_all rfl) :
    wpAny (model prog w) A (subscriptTail value slice (.ref l) (.int k u)) Q E s := by
  refine ex2 (S.obj _ _ hl) fun items n z5x0r => ?_
  refine and2 z5x0r fun ho r => ?_
  refine ex1 (r.get hx) fun v z6x0r => ?_
  refine and2 z6x0r fun hv vr => ?_
  exact tail_any (isList_of ho).typeIs slot_list_getitem.lookup (wpAny_getItem_list (x := v) (isList_of ho) h0 hfit (by simpa using hv) (h.at vr)) hs
theorem r_itemNeg {value slice : Expr} {l : Addr} {vs : List AV} {k : Int} {u : Tok} {av : AV} {Q : Value → Shared → Prop} (S : St z G env ε σ s) (hl : σ l = some (.list vs)) (h0 : k < 0) (h1 : -(vs.length : Int) ≤ k) (hfit : -(2 ^ 63) ≤ k) (hx : vs[(k + vs.length).toNat]? = some av)
    (h : ValsQ av Q s) (hs : subscripted slice false (.ref l) (.int k u) = operate [.ref l, .int k u] (getItem (.ref l) (.int k u)) := by with_unfolding_all rfl) :
    wpAny (model prog w) A (subscriptTail value slice (.ref l) (.int k u)) Q E s := by
  refine ex2 (S.obj _ _ hl) fun items n z7x0r => ?_
  refine and2 z7x0r fun ho r => ?_
  refine ex1 (r.get hx) fun v z8x0r => ?_
  refine and2 z8x0r fun hv vr => ?_
  have hlen := r.length
  exact tail_any (isList_of ho).typeIs slot_list_getitem.lookup (wpAny_getItem_list_neg (x := v) (isList_of ho) h0 (by rw [List.size_toArray]; omega) hfit (by rw [List.size_toArray, hlen]; simpa using hv) (h.at vr)) hs
theorem r_titem {value slice : Expr} {l : Addr} {vs : List AV} {k : Nat} {u : Tok} {av : AV} {Q : Value → Shared → Prop} (S : St z G env ε σ s) (hl : σ l = some (.tup vs)) (hz : k < 1000) (hx : vs[k]? = some av)
    (h : ValsQ av Q s) (hs : subscripted slice false (.ref l) (.int k u) = operate [.ref l, .int k u] (getItem (.ref l) (.int k u)) := by with_unfolding_all rfl) :
    wpAny (model prog w) A (subscriptTail value slice (.ref l) (.int k u)) Q E s := by
  refine ex2 (S.obj _ _ hl) fun items n z9x0r => ?_
  refine and2 z9x0r fun ho r => ?_
  refine ex1 (r.get hx) fun v z10x0r => ?_
  refine and2 z10x0r fun hv vr => ?_
  have hlt : k < items.length := (List.getElem?_eq_some_iff.mp hv).1
  refine tail_any (isTup_of ho).typeIs slot_tuple_getitem.lookup (getItem_tuple (x := v) (j := k) (isTup_of ho) (by omega) (by omega) ?_ (by simpa using hv) (h.at vr)) hs
  unfold seqIndex?
  simp only [List.size_toArray]
  split <;> first | (simp; done) | (simp; omega) | omega

theorem r_last {value slice : Expr} {l : Addr} {vs : List AV} {u : Tok} {av : AV} {Q : Value → Shared → Prop} (S : St z G env ε σ s) (hl : σ l = some (.list vs)) (hx : vs[((-1 : Int) + vs.length).toNat]? = some av)
    (h : ValsQ av Q s) (hs : subscripted slice false (.ref l) (.int (-1) u) = operate [.ref l, .int (-1) u] (getItem (.ref l) (.int (-1) u)) := by with_unfolding_all rfl) :
    wpAny (model prog w) A (subscriptTail value slice (.ref l) (.int (-1) u)) Q E s := r_itemNeg S hl (by decide) (by
      cases vs with
      | nil => simp at hx
      | cons a r => rw [List.length_cons]; exact Int.neg_le_neg (Int.ofNat_le.mpr (Nat.le_add_left 1 _))) (by decide) hx h hs
theorem r_len {l : Addr} {vs : List AV} {Q : Value → Shared → Prop} (S : St z G env ε σ s) (hl : σ l = some (.list vs)) (hz : vs.length ≤ 100000) (h : ∀ t s', St z G env ε σ s' → Q (.int vs.length t) s') :
    wpAny (model prog w) A (call (.builtin "len") [.ref l]) Q E s := by
  refine ex2 (S.obj _ _ hl) fun items n z11x0r => ?_
  refine and2 z11x0r fun ho r => ?_
  have hlen := r.length
  refine Calls.call_len_list (isList_of ho) (by rw [List.size_toArray]; omega) ?_
  have e : ((items.toArray.size : Nat) : Int) = (vs.length : Int) := by rw [List.size_toArray, hlen]
  rw [e]
  exact h _ _ S.tick

theorem r_cat {l b : Addr} {vs ws : List AV} {Q : Value → Shared → Prop} (S : St z G env ε σ s) (hl : σ l = some (.list vs)) (hb : σ b = some (.list ws)) (hz : vs.length + ws.length ≤ 100000)
    (h : ∀ a s' σ', σ a = none → G a = none → Grow σ σ' → σ' a = some (.list (vs ++ ws)) → St z G env ε σ' s' → Q (.ref a) s') : wpAny (model prog w) A (binaryOp .Add (.ref l) (.ref b)) Q E s := by
  refine ex2 (S.obj _ _ hl) fun xs n z12x0r => ?_
  refine and2 z12x0r fun ho r => ?_
  refine ex2 (S.obj _ _ hb) fun ys m z13x0r => ?_
  refine and2 z13x0r fun hp q => ?_
  refine ex1 S.fr fun mm z14x0r => ?_
  refine and3 z14x0r fun F N back => ?_
  refine add_lists F N (isList_of ho) (isList_of hp) (fun h' F' N' => ?_) (by have := r.length; have := q.length; rw [sizeLine_eq]; omega)
  have S' := back { s with heap := h' } ⟨rfl, rfl⟩ F' (fun p hp => N' p (.tail _ hp))
  exact h _ _ _ (S.fresh (Nat.le_refl _)) (S.freshG (Nat.le_refl _)) (Grow.upd (S.fresh (Nat.le_refl _))) upd_self (S.add S' (Nat.le_refl _) ⟨xs ++ ys, _, (N' _ (.head _)).1, r.append q⟩)

end
end
section
noncomputable def rgO (a b : Int) : AO := .raw fun o => ∃ t u v, o = { cls := .type "range", dict := none, data := .fields #[.int a t, .int b u, .int 1 v], slots := #[] }
noncomputable def rngO (a n : Int) : AO := .raw fun o => o = { cls := .type "range_iterator", dict := none, data := .fields #[rawInt a, rawInt n, rawInt 1], slots := #[] }
noncomputable def litO (l : Addr) (i : Nat) : AO := .raw fun o => o.cls = .type "list_iterator" ∧ o.data = .fields #[.ref l, .int i 0]
noncomputable def sitO (x : Str) (i : Nat) : AO := .raw fun o => ∃ t, o.cls = .type (strIterType x) ∧ o.data = .fields #[.str x t, .int i 0]
noncomputable def enmO (it : Addr) (i : Int) : AO := .raw fun o => ∃ old, o = { cls := .type "enumerate", dict := none, data := .fields #[.none, .bool false, .ref it, rawInt i, .none, old], slots := #[] }

section
variable {prog : Program} {w : World} {A : Around} {E : Value → Shared → Prop} {s : Shared} {K : Frag} {mg mb : Str → Option Value} {z : Shared} {G : Addr → Option (Obj × Bool)} {env : Env} {ε : Vars} {σ : Sto} {x : Str} {pos : Pos}

theorem r_range1 {b : Int} {u : Tok} {Q : Value → Shared → Prop} (S : St z G env ε σ s) (h : ∀ a s' σ', σ a = none → G a = none → Grow σ σ' → σ' a = some (rgO 0 b) → St z G env ε σ' s' → Q (.ref a) s') : wpAny (model prog w) A (call (.type "range") [.int b u]) Q E s :=
  call_range_1 (h _ _ _ (S.fresh (Nat.le_refl _)) (S.freshG (Nat.le_refl _)) (Grow.upd (S.fresh (Nat.le_refl _))) upd_self (S.new ⟨rfl, rfl⟩ (Nat.le_refl _) (fun _ _ e => Heap.get?_push_of_some _ e) ⟨_, Heap.get?_push_size _ rfl, _, _, _, rfl⟩))
theorem r_range2 {a b : Int} {t u : Tok} {Q : Value → Shared → Prop} (S : St z G env ε σ s) (h : ∀ r s' σ', σ r = none → G r = none → Grow σ σ' → σ' r = some (rgO a b) → St z G env ε σ' s' → Q (.ref r) s') : wpAny (model prog w) A (call (.type "range") [.int a t, .int b u]) Q E s :=
  call_range_2 (h _ _ _ (S.fresh (Nat.le_refl _)) (S.freshG (Nat.le_refl _)) (Grow.upd (S.fresh (Nat.le_refl _))) upd_self (S.new ⟨rfl, rfl⟩ (Nat.le_refl _) (fun _ _ e => Heap.get?_push_of_some _ e) ⟨_, Heap.get?_push_size _ rfl, _, _, _, rfl⟩))

theorem small_of {a b : Int} (h1 : -1000000 ≤ a) (h2 : a ≤ 1000000) (h3 : -1000000 ≤ b) (h4 : b ≤ 1000000) : Builtin.Range.small a b 1 = true := by
  unfold Builtin.Range.small
  rw [rangeSize_one]
  have f : ∀ i : Int, -3000000 ≤ i → i ≤ 3000000 → Builtin.Range.rangeFitsLong i = true := fun i p q => by
    unfold Builtin.Range.rangeFitsLong; simp; omega
  rw [f a (by omega) (by omega), f b (by omega) (by omega), f 1 (by omega) (by omega)]
  by_cases q : a < b
  · rw [if_pos q, f _ (by omega) (by omega), if_pos (by decide), f _ (by omega) (by omega)]; simp
  · rw [if_neg q, f _ (by omega) (by omega), if_pos (by decide), f _ (by omega) (by omega)]; simp
theorem r_iterRange {r : Addr} {a b : Int} {Q : Value → Shared → Prop} (S : St z G env ε σ s) (hr : σ r = some (rgO a b)) (h1 : -1000000 ≤ a) (h2 : a ≤ 1000000) (h3 : -1000000 ≤ b) (h4 : b ≤ 1000000)
    (h : ∀ I s' σ', σ I = none → G I = none → Grow σ σ' → σ' I = some (rngO a (if a < b then b - a else 0)) → St z G env ε σ' s' → Q (.ref I) s') : wpAny (model prog w) A (pyIter (.ref r)) Q E s := by
  obtain ⟨o, ho, t, u, v, rfl⟩ := S.obj _ _ hr
  refine wpAny_pyIter_range ho (small_of h1 h2 h3 h4) ?_
  rw [rangeSize_one]
  exact h _ _ _ (S.fresh (Nat.le_refl _)) (S.freshG (Nat.le_refl _)) (Grow.upd (S.fresh (Nat.le_refl _))) upd_self (S.new ⟨rfl, rfl⟩ (Nat.le_refl _) (fun _ _ e => Heap.get?_push_of_some _ e) ⟨_, Heap.get?_push_size _ rfl, rfl⟩)
theorem r_nextRange {I : Addr} {a n : Int} {Q : Option Value → Shared → Prop} (S : St z G env ε σ s) (hI : σ I = some (rngO a n)) (hG : G I = none) (hn : 0 < n)
    (h : ∀ t s', St z G env ε (upd σ I (rngO (a + 1) (n - 1))) s' → Q (some (.int a t)) s') : wpAny (model prog w) A (pyNext (.ref I)) Q E s := by
  obtain ⟨o, ho, rfl⟩ := S.obj _ _ hI
  exact wpAny_pyNext_range_item ho hn fun h' hi hs => h _ _ (S.turn (s' := { s with heap := h', toks := s.toks + 1 }) ⟨rfl, rfl⟩ hI hG (fun b o e1 e2 => (hs.2 b e1).trans e2) ⟨_, hi, rfl⟩)
theorem r_endRange {I : Addr} {a n : Int} {Q : Option Value → Shared → Prop} (S : St z G env ε σ s) (hh : A.handled = none) (hI : σ I = some (rngO a n)) (hG : G I = none) (hn : n ≤ 0)
    (h : ∀ s', St z G env ε (rem σ I) s' → Q none s') : wpAny (model prog w) A (pyNext (.ref I)) Q E s := by
  obtain ⟨o, ho, rfl⟩ := S.obj _ _ hI
  exact wpAny_pyNext_range_end hh ho hn fun h' hs => h _ (S.lose (s' := { s with heap := h' }) ⟨rfl, rfl⟩ hI hG fun b o e1 e2 => hs b o e1 e2)

theorem r_iterList {l : Addr} {vs : List AV} {Q : Value → Shared → Prop} (S : St z G env ε σ s) (hl : σ l = some (.list vs)) (h : ∀ I s' σ', σ I = none → G I = none → Grow σ σ' → σ' I = some (litO l 0) → St z G env ε σ' s' → Q (.ref I) s') : wpAny (model prog w) A (pyIter (.ref l)) Q E s := by
  obtain ⟨items, n, ho, r⟩ := S.obj _ _ hl
  exact wpAny_pyIter_list (isList_of ho) (h _ _ _ (S.fresh (Nat.le_refl _)) (S.freshG (Nat.le_refl _)) (Grow.upd (S.fresh (Nat.le_refl _))) upd_self (S.new ⟨rfl, rfl⟩ (Nat.le_refl _) (fun _ _ e => Heap.get?_push_of_some _ e) ⟨_, Heap.get?_push_size _ rfl, rfl, rfl⟩))
theorem r_nextList {I l : Addr} {i : Nat} {vs : List AV} {av : AV} {Q : Option Value → Shared → Prop} (S : St z G env ε σ s) (hI : σ I = some (litO l i)) (hG : G I = none) (hl : σ l = some (.list vs)) (hx : vs[i]? = some av)
    (h : ∀ s', St z G env ε (upd σ I (litO l (i + 1))) s' → Vals av fun v => Q (some v) s') : wpAny (model prog w) A (pyNext (.ref I)) Q E s := by
  obtain ⟨o, ho, hp⟩ := S.obj _ _ hI
  obtain ⟨items, n, hlo, r⟩ := S.obj _ _ hl
  obtain ⟨v, hv, vr⟩ := r.get hx
  refine wpAny_pyNext_list_item (x := v) ⟨o, ho, hp⟩ (isList_of hlo) (by simpa using hv) fun h' hi hs => (h _ (S.turn (s' := { s with heap := h' }) ⟨rfl, rfl⟩ hI hG (fun b o e1 e2 => (hs.2 b e1).trans e2) ?_)).at vr
  obtain ⟨o', ho', hp'⟩ := hi
  exact ⟨o', ho', hp'⟩
theorem r_endList {I l : Addr} {i : Nat} {vs : List AV} {Q : Option Value → Shared → Prop} (S : St z G env ε σ s) (hh : A.handled = none) (hI : σ I = some (litO l i)) (hG : G I = none) (hl : σ l = some (.list vs)) (hx : vs.length ≤ i)
    (h : ∀ s', St z G env ε (rem σ I) s' → Q none s') : wpAny (model prog w) A (pyNext (.ref I)) Q E s := by
  obtain ⟨o, ho, hp⟩ := S.obj _ _ hI
  obtain ⟨items, n, hlo, r⟩ := S.obj _ _ hl
  exact wpAny_pyNext_list_end hh ⟨o, ho, hp⟩ (isList_of hlo) (by have := r.length; simp; omega) fun h' hs => h _ (S.lose (s' := { s with heap := h' }) ⟨rfl, rfl⟩ hI hG fun b o e1 e2 => hs b o e1 e2)

theorem r_iterStr {t : Tok} {Q : Value → Shared → Prop} (S : St z G env ε σ s) (h : ∀ I s' σ', σ I = none → G I = none → Grow σ σ' → σ' I = some (sitO x 0) → St z G env ε σ' s' → Q (.ref I) s') : wpAny (model prog w) A (pyIter (.str x t)) Q E s :=
  wpAny_pyIter_strU (h _ _ _ (S.fresh (Nat.le_refl _)) (S.freshG (Nat.le_refl _)) (Grow.upd (S.fresh (Nat.le_refl _))) upd_self (S.new ⟨rfl, rfl⟩ (Nat.le_refl _) (fun _ _ e => Heap.get?_push_of_some _ e) ⟨_, Heap.get?_push_size _ rfl, t, rfl, rfl⟩))
theorem r_nextStr {I : Addr} {i c : Nat} {Q : Option Value → Shared → Prop} (S : St z G env ε σ s) (hI : σ I = some (sitO x i)) (hG : G I = none) (hx : x.cps[i]? = some c)
    (h : ∀ t s', St z G env ε (upd σ I (sitO x (i + 1))) s' → Q (some (.str ⟨#[c]⟩ t)) s') : wpAny (model prog w) A (pyNext (.ref I)) Q E s := by
  obtain ⟨o, ho, t, hc, hd⟩ := S.obj _ _ hI
  cases ha : x.cps.all (· < 128) with
  | true =>
    have e : strIterType x = "str_ascii_iterator" := by unfold strIterType; rw [if_pos ha]
    refine wpAny_pyNext_ascii_item ⟨o, ho, by rw [hc, e], hd⟩ hx fun h' hi hs => h _ _ (S.turn (s' := { s with heap := h', toks := s.toks + 1 }) ⟨rfl, rfl⟩ hI hG (fun b o e1 e2 => (hs.2 b e1).trans e2) ?_)
    obtain ⟨o', ho', hp', hq⟩ := hi
    exact ⟨o', ho', t, by rw [hp', e], hq⟩
  | false =>
    have e : strIterType x = "str_iterator" := by unfold strIterType; rw [if_neg (by rw [ha]; decide)]
    refine wpAny_pyNext_wide_item ⟨o, ho, by rw [hc, e], hd⟩ hx fun h' hi hs => h _ _ (S.turn (s' := { s with heap := h', toks := s.toks + 1 }) ⟨rfl, rfl⟩ hI hG (fun b o e1 e2 => (hs.2 b e1).trans e2) ?_)
    obtain ⟨o', ho', hp', hq⟩ := hi
    exact ⟨o', ho', t, by rw [hp', e], hq⟩
theorem r_endStr {I : Addr} {i : Nat} {Q : Option Value → Shared → Prop} (S : St z G env ε σ s) (hh : A.handled = none) (hI : σ I = some (sitO x i)) (hG : G I = none) (hx : x.cps.size ≤ i)
    (h : ∀ s', St z G env ε (rem σ I) s' → Q none s') : wpAny (model prog w) A (pyNext (.ref I)) Q E s := by
  obtain ⟨o, ho, t, hc, hd⟩ := S.obj _ _ hI
  have hx : x.cps[i]? = none := by simp; omega
  cases ha : x.cps.all (· < 128) with
  | true =>
    have e : strIterType x = "str_ascii_iterator" := by unfold strIterType; rw [if_pos ha]
    exact wpAny_pyNext_ascii_end hh ⟨o, ho, by rw [hc, e], hd⟩ hx fun h' hs => h _ (S.lose (s' := { s with heap := h' }) ⟨rfl, rfl⟩ hI hG fun b o e1 e2 => hs b o e1 e2)
  | false =>
    have e : strIterType x = "str_iterator" := by unfold strIterType; rw [if_neg (by rw [ha]; decide)]
    exact wpAny_pyNext_wide_end hh ⟨o, ho, by rw [hc, e], hd⟩ hx fun h' hs => h _ (S.lose (s' := { s with heap := h' }) ⟨rfl, rfl⟩ hI hG fun b o e1 e2 => hs b o e1 e2)

theorem r_loop {Q : Flow → Shared → Prop} {X : Value → Shared → Prop} {target : Expr} {it : Value} {body orelse : List Stmt} {D : Type} (n : Nat) (v : Nat → D → Vars) (J : Nat → D → Sto → Prop) (d₀ : D) (S : St z G env (v 0 d₀) σ s) (h0 : J 0 d₀ σ)
    (turn : ∀ i d σ s, i < n → St z G env (v i d) σ s → J i d σ → wpAny (model prog w) A (pyNext it) (fun r s₁ => ∃ x, r = some x ∧
      wpAny (model prog w) A (letOwnedTupleGo target it x) (fun _ s₁' => wpAny (model prog w) A (assign target env x) (fun _ s₂ => LetW (model prog w) A (execs body env) (fun f s₃ => match f with
          | .next | .cont => ∃ d' σ', St z G env (v (i + 1) d') σ' s₃ ∧ J (i + 1) d' σ'
          | .brk => Q .next s₃
          | .ret v => Q (.ret v) s₃) (notedBy (model prog w) A env X) s₂) (notedBy (model prog w) A env X) s₁') (notedBy (model prog w) A env X) s₁)
      (notedBy (model prog w) A env X) s)
    (fin : ∀ d σ s, St z G env (v n d) σ s → J n d σ → wpAny (model prog w) A (pyNext it) (fun r s₁ => r = none ∧
      wpAny (model prog w) A (execs orelse env) (fun f s₃ => Q f s₃) (notedBy (model prog w) A env X) s₁) (notedBy (model prog w) A env X) s) :
    codeAny (model prog w) A (.forLoop target it body orelse env) (fun r s' => match r with | .ok f => Q f s' | .error e => X e s') s := by
  refine codeAny_forLoop_any (fun k s => ∃ i d σ, k = n - i ∧ i ≤ n ∧ St z G env (v i d) σ s ∧ J i d σ) ?_ n ⟨0, d₀, σ, rfl, Nat.zero_le _, S, h0⟩
  rintro k s ⟨i, d, σ, rfl, hi, S, hJ⟩
  by_cases q : i < n
  · refine wpAny_mono (turn i d σ s q S hJ) (fun r s₁ h₁ => ?_) fun _ _ e => e
    obtain ⟨v, rfl, h₁⟩ := h₁
    refine wpAny_mono h₁ (fun _ _ h₂ => wpAny_mono h₂ (fun _ _ h₃ => wpAny_mono h₃.run (fun f s₃ h₄ => ?_) fun _ _ e => e) fun _ _ e => e) fun _ _ e => e
    cases f with
    | next => obtain ⟨d', σ', S', J'⟩ := h₄; exact ⟨_, Nat.sub_lt_sub_left q (Nat.lt_succ_self i), i + 1, d', σ', rfl, q, S', J'⟩
    | cont => obtain ⟨d', σ', S', J'⟩ := h₄; exact ⟨_, Nat.sub_lt_sub_left q (Nat.lt_succ_self i), i + 1, d', σ', rfl, q, S', J'⟩
    | brk => exact h₄
    | ret v => exact h₄
  · have : i = n := by omega
    subst this
    refine wpAny_mono (fin d σ s S hJ) (fun r s₁ h₁ => ?_) fun _ _ e => e
    obtain ⟨rfl, h₁⟩ := h₁
    exact h₁

end
end
section
section
variable {P : Value → Prop}
theorem Vals.int {i : Int} (h : ∀ t, P (.int i t)) : Vals (.int i) P := h
theorem Vals.str {x : Str} (h : ∀ t, P (.str x t)) : Vals (.str x) P := h
theorem Vals.ref {a : Addr} (h : P (.ref a)) : Vals (.ref a) P := h
theorem Vals.bool {b : Bool} (h : P (.bool b)) : Vals (.bool b) P := h
theorem Vals.none (h : P .none) : Vals .none P := h
theorem Vals.lit {v : Value} (h : P v) : Vals (.lit v) P := h
variable {Q : Value → Shared → Prop} {s : Shared}
theorem ValsQ.int {i : Int} (h : ∀ t, Q (.int i t) s) : ValsQ (.int i) Q s := h
theorem ValsQ.str {x : Str} (h : ∀ t, Q (.str x t) s) : ValsQ (.str x) Q s := h
theorem ValsQ.ref {a : Addr} (h : Q (.ref a) s) : ValsQ (.ref a) Q s := h
theorem ValsQ.bool {b : Bool} (h : Q (.bool b) s) : ValsQ (.bool b) Q s := h
theorem ValsQ.none (h : Q .none s) : ValsQ .none Q s := h
theorem ValsQ.lit {v : Value} (h : Q v s) : ValsQ (.lit v) Q s := h
theorem Vals.any {av : AV} (h : ∀ v, VR av v → P v) : Vals av P := by
  cases av with
  | none => exact h _ rfl
  | bool b => exact h _ rfl
  | int i => exact fun t => h _ ⟨t, rfl⟩
  | str x => exact fun t => h _ ⟨t, rfl⟩
  | ref a => exact h _ rfl
  | lit v => exact h _ rfl
end
structure UpN (M : Model) (A : Around) (rest : List Stmt) (env : Env) (Q : Flow → Shared → Prop) (E : Value → Shared → Prop) (Q' : Flow → Shared → Prop) : Prop where
  nx : ∀ s, wpAny M A (execs rest env) Q E s → Q' .next s
  rt : ∀ v s, Q (.ret v) s → Q' (.ret v) s
  bk : ∀ s, Q .brk s → Q' .brk s
  ct : ∀ s, Q .cont s → Q' .cont s
section
variable {M : Model} {A : Around} {rest : List Stmt} {st : Stmt} {env : Env} {Q Q' : Flow → Shared → Prop} {E : Value → Shared → Prop} {s : Shared} {v : Value}
theorem execs_gen (h : ∀ Q', UpN M A rest env Q E Q' → wpAny M A (exec st env) Q' E s) : wpAny M A (execs (st :: rest) env) Q E s :=
  wpAny_execs_cons (h _ ⟨fun _ x => x, fun _ _ x => x, fun _ x => x, fun _ x => x⟩)
theorem UpN.next (u : UpN M A rest env Q E Q') (h : wpAny M A (execs rest env) Q E s) : Q' .next s := u.nx s h
theorem UpN.ret (u : UpN M A rest env Q E Q') (h : Q (.ret v) s) : Q' (.ret v) s := u.rt v s h
theorem UpN.brk (u : UpN M A rest env Q E Q') (h : Q .brk s) : Q' .brk s := u.bk s h
theorem UpN.cont (u : UpN M A rest env Q E Q') (h : Q .cont s) : Q' .cont s := u.ct s h
end
theorem r_ite {c : Bool} {X Y : Prop} (h1 : c = true → X) (h2 : c = false → Y) : if c = true then X else Y := by
  cases c
  · exact h2 rfl
  · exact h1 rfl
theorem ne_kind {σ : Sto} {a b : Addr} {x y : AO} (e : σ a = some x) (f : σ b = some y) (n : x ≠ y) : a ≠ b := fun q => by subst q; rw [e] at f; cases f; exact n rfl
end
local macro_rules | `(tactic| wtm_at "sto") => `(tactic| first
  | with_reducible assumption
  | with_reducible exact upd_self
  | ((with_reducible refine' upd_off ?e ?n); (case n => wtm_at "ne"); (case e => wtm_at "sto"))
  | ((with_reducible refine' rem_off ?e ?n); (case n => wtm_at "ne"); (case e => wtm_at "sto"))
  | ((with_reducible refine' Grow.get ‹Grow _ _› ?e); (case e => wtm_at "sto"))
  | ((with_reducible refine' But.get ‹But _ _ _› ?e ?n); (case e => wtm_at "sto"); (case n => wtm_at "off")))
local macro_rules | `(tactic| wtm_at "off") => `(tactic| first | exact trivial | ((refine' And.intro ?a ?b); (case a => wtm_at "ne"); (case b => wtm_at "off")))
local macro_rules | `(tactic| wtm_at "ne") => `(tactic| first
  | with_reducible assumption
  | ((with_reducible refine' Ne.symm ?_); with_reducible assumption)
  | ((with_reducible refine' ne_new ?e ?n); (case n => with_reducible assumption); (case e => with_reducible assumption)))
local macro_rules | `(tactic| wtm_at "vals") => `(tactic| first
  | ((with_reducible refine' ValsQ.int ?_); intro _)
  | ((with_reducible refine' ValsQ.str ?_); intro _)
  | with_reducible refine' ValsQ.ref ?_
  | with_reducible refine' ValsQ.bool ?_
  | with_reducible refine' ValsQ.none ?_
  | (refine' Vals.int ?_; intro _)
  | (refine' Vals.str ?_; intro _)
  | refine' Vals.ref ?_
  | refine' Vals.bool ?_
  | refine' Vals.none ?_)
local macro_rules | `(tactic| wtm_at "m eval") => `(tactic| first
  | ((with_reducible refine' r_local ‹St _ _ _ _ _ _› ?k ?x ?d ?_); (case k => exact rfl); (case x => exact rfl); (case d => exact rfl); wtm_at "vals")
  | ((with_reducible refine' r_cell ‹St _ _ _ _ _ _› ?k ?c ?x ?d ?_); (case k => exact rfl); (case c => exact rfl); (case x => exact rfl); (case d => exact rfl); wtm_at "vals")
  | ((with_reducible refine' r_glob ‹Wd _ _ _ _› ‹St _ _ _ _ _ _› ?k ?g ?e ?d ?_); (case k => exact rfl); (case g => exact rfl); (case e => k_is); (case d => exact rfl))
  | ((with_reducible refine' r_built ‹Wd _ _ _ _› ‹St _ _ _ _ _ _› ?k ?g ?b ?e ?v ?n ?d ?_); (case k => exact rfl); (case g => exact rfl); (case b => exact rfl); (case e => k_is); (case v => first | reg3_boot | boot_fact); (case n => decide); (case d => exact rfl))
  | ((with_reducible refine' r_cint ‹St _ _ _ _ _ _› ?_); intro _ _ _)
  | ((with_reducible refine' r_cstr ‹St _ _ _ _ _ _› ?_); intro _ _ _)
  | with_reducible refine' wpAny_Constant_none ?_
  | with_reducible refine' wpAny_Constant_bool ?_
  | with_reducible refine' wpAny_BinOp ?_
  | with_reducible refine' PyProof.Rows.Subscript_ ?_
  | ((with_reducible refine' wpAny_Compare1 (hm := ?m) ?_); (case m => with_unfolding_all rfl))
  | with_reducible refine' r_List ?_
  | with_reducible refine' r_Tuple ?_
  | ((with_reducible refine' MethodCall_ (he := ?m) ?_); (case m => exact rfl))
  | ((with_reducible refine' PyProof.Rows.Call_ (he := ?m) ?_); (case m => exact rfl))
  | ((with_reducible refine' methodCall_KW (he := ?m) ?_); (case m => exact rfl)))
local macro_rules | `(tactic| wtm_at "m exec") => `(tactic| first
  | ((with_reducible refine' wpAny_Assign_Name (hs := ?m) ?_); (case m => exact rfl))
  | with_reducible refine' wpAny_If ?_
  | with_reducible refine' wpAny_Return_some ?_
  | ((with_reducible refine' wpAny_Expr_any (hi := ?m) (hs := ?n) ?_); (case m => exact rfl); (case n => exact rfl))
  | ((with_reducible refine' wpAny_For (hs := ?m) ?_); (case m => intro _; exact rfl)))
local macro_rules | `(tactic| wtm_at "m op") => `(tactic| first
  | ((with_reducible refine' r_add ‹St _ _ _ _ _ _› ?_); intro _ _ _)
  | ((with_reducible refine' r_sub ‹St _ _ _ _ _ _› ?_); intro _ _ _)
  | with_reducible refine' PyProof.Rows.eq_int ?_
  | with_reducible refine' wpAny_truthy_bool ?_)
local macro_rules | `(tactic| wtm_at "m mem") => `(tactic| first
  | ((with_reducible refine' r_store ‹St _ _ _ _ _ _› ?k ?_); (case k => exact rfl); intro _ _)
  | ((with_reducible refine' r_storeC ‹St _ _ _ _ _ _› ?k ?c ?g ?_); (case k => exact rfl); (case c => exact rfl); (case g => with_reducible assumption); intro _ _)
  | with_reducible refine' wpAny_assign_Name ?_
  | ((with_reducible refine' r_listMethod ‹St _ _ _ _ _ _› ?l slot_list_append type_list_append ?_); (case l => wtm_at "sto"))
  | ((with_reducible refine' r_append ‹St _ _ _ _ _ _› ?l ?g ?z ?_); (case l => wtm_at "sto"); (case g => with_reducible assumption); (case z => first | omega | ((try simp only [List.length_append, List.length_map, List.length_cons, List.length_nil, List.length_range]) <;> omega)); intro _ _))
local macro_rules | `(tactic| wtm_at "m call") => `(tactic| first
  | ((with_reducible refine' PyProof.Rows.callWith_method1 (he := ?m) (hplain := ?n) ?_); (case m => exact rfl); (case n => exact rfl))
  | ((with_reducible refine' PyProof.Rows.callWith_type1 (he := ?m) (hplain := ?n) ?_); (case m => exact rfl); (case n => exact rfl)))
local macro_rules | `(tactic| wtm_at "m flow") => `(tactic| first
  | ((with_reducible refine' execs_gen ?_); intro _ _)
  | ((with_reducible refine' LetW.go ?_); intro _ _ _)
  | with_reducible refine' wpAny_execs_nil ?_
  | ((with_reducible refine' wpAny_items_cons (he := ?m) ?_); (case m => exact rfl))
  | with_reducible refine' wpAny_items_nil ?_
  | ((with_reducible refine' wpAny_isTrue_Compare1 (hm := ?m) ?_); (case m => with_unfolding_all rfl)))
local macro_rules | `(tactic| wtm_at "m leave") => `(tactic| first
  | with_reducible refine' UpN.next ‹UpN _ _ _ _ _ _ _› ?_
  | with_reducible refine' UpN.ret ‹UpN _ _ _ _ _ _ _› ?_
  | with_reducible refine' UpN.brk ‹UpN _ _ _ _ _ _ _› ?_
  | with_reducible refine' LetQ.up ‹LetQ _ _ _ _› _ _ ?_)
local macro_rules | `(tactic| wtm_at "m1") => `(tactic| first
  | wtm_at "m flow" | wtm_at "m eval" | wtm_at "m exec" | wtm_at "m op" | wtm_at "m mem" | wtm_at "m call" | (dsimp only [List.cons_append, List.nil_append, List.append_nil]))
local macro_rules | `(tactic| wtm_at "m") => `(tactic| first | (wtm_at "m1"; repeat wtm_at "m leave") | wtm_at "m leave")
section
section
variable {prog : Program} {w : World} {A : Around} {E : Value → Shared → Prop} {s : Shared} {K : Frag} {mg mb : Str → Option Value} {z : Shared} {G : Addr → Option (Obj × Bool)} {env : Env} {ε : Vars} {σ : Sto} {x : Str} {pos : Pos}

theorem r_tests0 {M : Model} {Q : Bool → Shared → Prop} (h : Q true s) : wpAny M A (forIn ([] : List Expr) true fun c r => if r = true then do let ok ← isTrue c env (eval c env); pure (ForInStep.yield ok) else pure (ForInStep.yield r)) Q E s := wpAny_pure h
theorem r_tests1 {M : Model} {c : Expr} {Q : Bool → Shared → Prop} (h : wpAny M A (isTrue c env (eval c env)) Q E s) : wpAny M A (forIn [c] true fun c r => if r = true then do let ok ← isTrue c env (eval c env); pure (ForInStep.yield ok) else pure (ForInStep.yield r)) Q E s := by
  rw [List.forIn_cons]
  refine wpAny_bind ?_
  rw [if_pos rfl]
  refine wpAny_bind (wpAny_mono h (fun ok s' q => ?_) fun _ _ e => e)
  exact wpAny_pure (wpAny_pure q)
theorem self_rng {I : Addr} {a n : Int} (s : Shared) (Q : Value → Shared → Prop) (E : Value → Shared → Prop) (h : OR s.heap I (rngO a n)) (q : Q (.ref I) s) : wpAny (model prog w) A (pyIter (.ref I)) Q E s := by
  obtain ⟨o, ho, rfl⟩ := h
  exact wpAny_pyIter_rangeiter ho q
theorem self_lit {I l : Addr} {i : Nat} (s : Shared) (Q : Value → Shared → Prop) (E : Value → Shared → Prop) (h : OR s.heap I (litO l i)) (q : Q (.ref I) s) : wpAny (model prog w) A (pyIter (.ref I)) Q E s := by
  obtain ⟨o, ho, hp⟩ := h
  exact wpAny_pyIter_listiter (l := l) (i := i) ⟨o, ho, hp⟩ q

theorem St.skip {s' : Shared} (S : St z G env ε σ s) (ad : Adv s s') {a : Addr} (hσ : σ a = none) (hG : G a = none) (hL : env.locals ≠ a) (hc : ∀ x c, env.cells.lookup x = some c → env.kindOf x = some .cell → c ≠ a)
    (k : ∀ b o, b ≠ a → s.heap.get? b = some o → s'.heap.get? b = some o) : St z G env ε σ s' := by
  refine { S with adv := S.adv.trans ad, prot := ?_, loc := ?_, cel := ?_, obj := ?_ }
  · intro b o fl e
    exact k b o (fun q => by rw [q, hG] at e; cases e) (S.prot b o fl e)
  · obtain ⟨m, ⟨o, es, ep, ho, z⟩, q⟩ := S.loc
    exact ⟨m, ⟨o, es, ep, k _ _ hL ho, z⟩, q⟩
  · intro x c e kd
    obtain ⟨⟨ov, o, ho, hd⟩, b, sn, n⟩ := S.cel x c e kd
    have ca := hc x c e kd
    refine ⟨⟨ov, o, k _ _ ca ho, hd⟩, fun av q => ?_, sn, n⟩
    obtain ⟨v, ⟨o', ho', hd'⟩, q⟩ := b av q
    exact ⟨v, ⟨o', k _ _ ca ho', hd'⟩, q⟩
  · intro b o e
    exact OR.mv (S.obj b o e) fun o' => k b o' fun q => by rw [q, hσ] at e; cases e

noncomputable def ClOk (env : Env) : List (Str × Addr) → Prop
  | [] => True
  | p :: r => (env.cells.lookup p.1 = some p.2 ∧ env.kindOf p.1 = some .cell) ∧ ClOk env r
theorem ClOk.get {cl : List (Str × Addr)} : ClOk env cl → ∀ {x : Str} {c : Addr}, cl.lookup x = some c → env.cells.lookup x = some c ∧ env.kindOf x = some .cell := by
  induction cl with
  | nil => intro _ x c e; cases e
  | cons p r ih =>
    obtain ⟨y, a⟩ := p
    intro h x c e
    rw [List.lookup_cons] at e
    by_cases q : x = y
    · subst q; simp at e; subst e; exact h.1
    · have : (x == y) = false := by simpa using q
      rw [this] at e
      exact ih h.2 e

noncomputable def CelV (kf : Str → Option NameKind) : Vars → Prop
  | [] => True
  | p :: r => kf p.1 = some .cell ∧ CelV kf r
theorem CelV.get {kf : Str → Option NameKind} : ∀ {ε : Vars}, CelV kf ε → ∀ {y : Str} {av : AV}, ε.lookup y = some av → kf y ≠ some .local
  | [], _, _, _, e => by cases e
  | (x, a) :: r, h, y, av, e => by
    rw [lookup_cons'] at e
    by_cases q : y = x
    · subst q; rw [h.1]; intro h; cases h
    · rw [if_neg q] at e; exact CelV.get h.2 e

theorem St.inner {scope : Scope} {cl : List (Str × Addr)} {ε' : Vars} {s' : Shared} {D C : Addr} {m : Str → Option Value} (S : St z G env ε σ s) (ad : Adv s s') (hkind : scope.kind = .function) (hcl : ClOk env cl)
    (hfree : ((relabel scope env).names.all fun p => p.2 != .free) = true) (hε : SubV ε ε') (hx : ∀ y av, ε'.lookup y = some av → (compEnvC scope cl C env).kindOf y ≠ some .local)
    (hD : s.heap.objs.size ≤ D) (hC : s.heap.objs.size ≤ C) (hDC : D ≠ C) (k : ∀ b o, s.heap.get? b = some o → s'.heap.get? b = some o) (hn : s'.heap.Ns C m) (hd : OR s'.heap D (.list [])) :
    St z (hidden G σ s.heap) (compEnvC scope cl C env) ε' (upd σ D (.list [])) s' where
  adv := S.adv.trans ad
  keep b o e := let ⟨fl, q⟩ := S.keep b o e; ⟨fl, hidden_G q⟩
  prot b o fl e := k b o (hidden_get S.prot e)
  fn := hkind
  loc := ⟨m, hn, fun y av e kd => absurd kd (hx y av e)⟩
  locG := by
    show hidden G σ s.heap C = none
    cases q : hidden G σ s.heap C with
    | none => rfl
    | some o => exact absurd (Heap.lt_size (hidden_get S.prot q)) (Nat.not_lt.mpr hC)
  locS := by
    show upd σ D (.list []) C = none
    rw [upd_ne (Ne.symm hDC)]; exact S.fresh hC
  cel := by
    intro y c e kd
    obtain ⟨e', kd'⟩ := hcl.get e
    obtain ⟨⟨ov, y1⟩, b, sn, n⟩ := S.cel y c e' kd'
    have hlt := y1.lt
    refine ⟨⟨ov, y1.keeps k⟩, fun av q => ?_, ?_, ?_⟩
    · obtain ⟨v, hv, r⟩ := b av (hε.get q)
      exact ⟨v, hv.keeps k, r⟩
    · rw [upd_ne (Nat.ne_of_lt (Nat.lt_of_lt_of_le hlt hD))]; exact sn
    · exact Nat.ne_of_lt (Nat.lt_of_lt_of_le hlt hC)
  celG := by
    intro y c e kd p q
    obtain ⟨e', kd'⟩ := hcl.get e
    obtain ⟨_, _, sn, _⟩ := S.cel y c e' kd'
    cases r : G c with
    | some p' => rw [hidden_G r] at q; cases q; exact S.celG y c e' kd' _ r
    | none =>
      unfold hidden at q
      rw [r, sn] at q
      obtain ⟨o, _, e⟩ := Option.map_eq_some_iff.mp q
      cases e
  apart := by
    intro a b c e1 e2
    exact S.apart a b c (hcl.get e1).1 (hcl.get e2).1
  fre := by
    intro y c av _ kd
    exfalso
    have : (y, NameKind.free) ∈ (relabel scope env).names := mem_of_lookup kd
    have := List.all_eq_true.mp hfree _ this
    simp at this
  obj a o e := by
    by_cases q : a = D
    · subst q; rw [upd_self] at e; cases e; exact hd
    · rw [upd_ne q] at e; exact OR.mv (S.obj a o e) fun o' => k a o'
  objG a o e := by
    by_cases q : a = D
    · subst q
      refine .inl ?_
      cases q : hidden G σ s.heap a with
      | none => rfl
      | some o => exact absurd (Heap.lt_size (hidden_get S.prot q)) (Nat.not_lt.mpr hD)
    · rw [upd_ne q] at e
      rcases S.objG a o e with h | ⟨p, h⟩
      · exact .inl (hidden_sto h e)
      · exact .inr ⟨p, hidden_G h⟩

noncomputable def CompK (M : Model) (A : Around) (E : Value → Shared → Prop) (elt : Expr) (x : Str) (px : Pos) (iter : Expr) (ifs : List Expr) (scope : Scope) (cl : List (Str × Addr)) (pos : Pos) (env : Env) (use : Option (Value → Sem Unit)) (Q : Value → Shared → Prop) (it : Value) (s₂ : Shared) : Prop :=
  wpAny M A (newList []) (fun acc s₃ => wpAny M A (newFunctionEnv scope env.globals cl [] env.qual none .none (some env)) (fun cenv s₄ =>
    codeAny M A (.compStart (.ListComp elt [⟨.Name x px, iter, ifs, 0⟩] scope pos) 0 it acc { cenv with scope := relabel scope env }) (compPost M A E use Q acc cenv.locals) s₄) E s₃) E s₂

theorem r_ListComp {M : Model} {elt iter : Expr} {px : Pos} {ifs : List Expr} {scope : Scope} {cl : List (Str × Addr)} {Q : Value → Shared → Prop} (hclos : closureFor scope env = pure cl) (hkind : scope.kind = .function)
    (hnames : ∀ y ∈ scope.names, y.2 = .local → scope.names.lookup y.1 = some .local) (hs : ∀ x, foldedSetIterable iter env x = pure x)
    (h : wpAny M A (eval iter env) (fun xv s₁ => wpAny M A (pyIter xv) (fun it s₂ => CompK M A E elt x px iter ifs scope cl pos env none Q it s₂) E s₁) E s) :
    wpAny M A (eval (.ListComp elt [⟨.Name x px, iter, ifs, 0⟩] scope pos) env) Q E s := by
  rw [eval_ListComp]
  exact wpAny_comprehension_free (use := none) rfl hs hclos hkind hnames h

theorem r_AssignListComp {elt iter : Expr} {px py : Pos} {y : Str} {spos : Pos} {ifs : List Expr} {scope : Scope} {cl : List (Str × Addr)} {Q : Flow → Shared → Prop}
    (hsw : swapsWith (.ListComp elt [⟨.Name x px, iter, ifs, 0⟩] scope pos) (some (.Name y py)) spos.line env = pure true) (hclos : closureFor scope env = pure cl) (hkind : scope.kind = .function)
    (hnames : ∀ y ∈ scope.names, y.2 = .local → scope.names.lookup y.1 = some .local) (hs : ∀ x, foldedSetIterable iter env x = pure x)
    (h : wpAny (model prog w) A (eval iter env) (fun xv s₁ => wpAny (model prog w) A (pyIter xv) (fun it s₂ => CompK (model prog w) A E elt x px iter ifs scope cl pos env (some (assign (.Name y py) env)) (fun _ s' => Q .next s') it s₂) E s₁) E s) :
    wpAny (model prog w) A (exec (.Assign [.Name y py] (.ListComp elt [⟨.Name x px, iter, ifs, 0⟩] scope pos) spos) env) Q E s := by
  rw [exec_Assign_Name_used _ _ _ _ hsw]
  refine wpAny_bind (wpAny_standAt (wpAny_bind ?_))
  show wpAny _ A (do let _ ← comprehension (.ListComp elt [⟨.Name x px, iter, ifs, 0⟩] scope pos) scope env _ (newList []) false (eval iter env) (some (assign (.Name y py) env))) _ _ s
  exact wpAny_bind (wpAny_mono (wpAny_comprehension_free (use := some (assign (.Name y py) env)) (Q := fun _ s' => Q .next s') rfl hs hclos hkind hnames h) (fun _ s' hq => wpAny_pure (wpAny_pure hq)) fun _ _ e => e)

noncomputable def CompEnd (M : Model) (A : Around) (E : Value → Shared → Prop) (z : Shared) (G : Addr → Option (Obj × Bool)) (env : Env) (use : Option (Value → Sem Unit)) (Q : Value → Shared → Prop) (ε : Vars) (σ : Sto) (D : Addr) (s : Shared) : Prop :=
  match use with
  | none => Q (.ref D) s
  | some u => ∀ C m, C ≠ env.locals → (∀ x c, env.cells.lookup x = some c → env.kindOf x = some .cell → c ≠ C) → G C = none → σ C = none → s.heap.Ns C m →
      wpAny M A (u (.ref D)) (fun _ s' => (∃ m', s'.heap.Ns C m') ∧ ∃ ε', St z G env ε' σ s' ∧ ∀ s'', St z G env ε' σ s'' → Q .none s'') E s

theorem r_compK {elt iter : Expr} {px : Pos} {ifs : List Expr} {scope : Scope} {cl : List (Str × Addr)} {use : Option (Value → Sem Unit)} {Q : Value → Shared → Prop} {I : Addr} {io : AO} {ε' : Vars} {Dt : Type} (n : Nat) (J : Nat → Addr → Dt → Sto → Prop) (J' : Addr → Dt → Sto → Prop) (d₀ : Dt)
    (S : St z G env ε σ s) (hcell : ∀ y ∈ scope.names, y.2 ≠ .cell) (hkind : scope.kind = .function) (hcl : ClOk env cl) (hfree : ((relabel scope env).names.all fun p => p.2 != .free) = true) (hε : SubV ε ε')
    (hx : ∀ C, CelV (compEnvC scope cl C env).kindOf ε') (hI : σ I = some io) (hself : ∀ (s : Shared) (Q : Value → Shared → Prop) (E : Value → Shared → Prop), OR s.heap I io → Q (.ref I) s → wpAny (model prog w) A (pyIter (.ref I)) Q E s)
    (h0 : ∀ D, σ D = none → J 0 D d₀ (upd σ D (.list [])))
    (turn : ∀ D C i d σ' s' (N : Value → Shared → Prop), let en := compEnvC scope cl C env; i < n → σ D = none → hidden G σ s.heap D = none → (∀ o, hidden G σ s.heap C = some o → False) → St z (hidden G σ s.heap) en ε' σ' s' → J i D d σ' →
      wpAny (model prog w) A (pyNext (.ref I)) (fun r s₁ => ∃ y, r = some y ∧ wpAny (model prog w) A (assign (.Name x px) en y) (fun _ s₂ =>
        LetW (model prog w) A (forIn ifs true fun c r => if r = true then do let ok ← isTrue c en (eval c en); pure (ForInStep.yield ok) else pure (ForInStep.yield r)) (fun ok s₃ =>
          if ok = true then LetW (model prog w) A (eval elt en) (fun y s₄ => wpAny (model prog w) A (call (.builtin "list.append") [.ref D, y]) (fun _ s₅ => ∃ d' σ'', St z (hidden G σ s.heap) en ε' σ'' s₅ ∧ J (i + 1) D d' σ'') N s₄) N s₃
          else ∃ d' σ'', St z (hidden G σ s.heap) en ε' σ'' s₃ ∧ J (i + 1) D d' σ'') N s₂) N s₁) N s')
    (stop : ∀ D C d σ' s' (N : Value → Shared → Prop), let en := compEnvC scope cl C env; σ D = none → hidden G σ s.heap D = none → St z (hidden G σ s.heap) en ε' σ' s' → J n D d σ' →
      wpAny (model prog w) A (pyNext (.ref I)) (fun r s₁ => r = none ∧ ∃ d' σ'', St z (hidden G σ s.heap) en ε' σ'' s₁ ∧ J' D d' σ'') N s')
    (fin : ∀ D d σ' s', σ D = none → G D = none → St z G env ε σ' s' → J' D d σ' → CompEnd (model prog w) A E z G env use Q ε σ' D s') :
    CompK (model prog w) A E elt x px iter ifs scope cl pos env use Q (.ref I) s := by
  unfold CompK
  refine wpAny_newObj_type (wpAny_newFunctionEnv hcell (by intro y hy; simp at hy) (fun h₁ hns₁ hsb₁ => ?_) hkind)
  dsimp only at hns₁ hsb₁ ⊢
  generalize hH2 : s.heap.push { cls := .type "list", dict := none, data := .seq ([] : List Value).toArray } = H2 at hns₁ hsb₁ ⊢
  have hC : H2.objs.size = s.heap.objs.size + 1 := by rw [← hH2, Heap.size_push]
  have hDC : s.heap.objs.size ≠ H2.objs.size := by rw [hC]; exact Nat.ne_of_lt (Nat.lt_succ_self _)
  have hCle : s.heap.objs.size ≤ H2.objs.size := by rw [hC]; exact Nat.le_succ _
  have below : ∀ b, b < s.heap.objs.size → b ≠ H2.objs.size := fun b hb => by rw [hC]; exact Nat.ne_of_lt (Nat.lt_succ_of_lt hb)
  have old : ∀ b o, s.heap.get? b = some o → h₁.get? b = some o := fun b o e => hsb₁.extBut b o (below b (Heap.lt_size e)) (Heap.get?_push_of_some _ (hH2 ▸ Heap.get?_push_of_some _ e))
  have hacc : OR h₁ s.heap.objs.size (.list []) := ⟨[], _, hsb₁.extBut _ _ hDC (Heap.get?_push_of_some _ (hH2 ▸ Heap.get?_push_size _ rfl)), rfl⟩
  have hσD := S.fresh (Nat.le_refl s.heap.objs.size)
  have hGD := S.freshG (Nat.le_refl s.heap.objs.size)
  have hσC := S.fresh hCle
  have hGC := S.freshG hCle
  have hidC : ∀ o, hidden G σ s.heap H2.objs.size = some o → False := fun o q => absurd (Heap.lt_size (hidden_get S.prot q)) (Nat.not_lt.mpr hCle)
  have hidD : hidden G σ s.heap s.heap.objs.size = none := by
    cases q : hidden G σ s.heap s.heap.objs.size with
    | none => rfl
    | some o => exact absurd (Heap.lt_size (hidden_get S.prot q)) (Nat.lt_irrefl _)
  have hLC : env.locals ≠ H2.objs.size := by obtain ⟨m, hm, _⟩ := S.loc; exact below _ hm.lt
  have hcC : ∀ x c, env.cells.lookup x = some c → env.kindOf x = some .cell → c ≠ H2.objs.size := fun x c e kd => by
    obtain ⟨⟨ov, y⟩, _⟩ := S.cel x c e kd
    exact below _ y.lt
  have S₁ : St z (hidden G σ s.heap) (compEnvC scope cl H2.objs.size env) ε' (upd σ s.heap.objs.size (.list [])) { s with heap := h₁, toks := s.toks + ([] : List (Str × Value)).length } :=
    S.inner ⟨rfl, rfl⟩ hkind hcl hfree hε (fun y av e => (hx _).get e) (Nat.le_refl _) hCle hDC old hns₁ hacc
  have post : ∀ σ' s', St z (hidden G σ s.heap) (compEnvC scope cl H2.objs.size env) ε' σ' s' → (∃ d, J' s.heap.objs.size d σ') →
      compPost (model prog w) A E use Q (.ref s.heap.objs.size) H2.objs.size (.ok .next) s' := by
    rintro σ' s' S' ⟨d, hJ⟩
    have SB := S.back S'
    have hσ' : σ' H2.objs.size = none := S'.locS
    obtain ⟨m, hm, _⟩ := S'.loc
    have F := fin _ d σ' s' hσD hGD SB hJ
    unfold CompEnd at F
    cases use with
    | none =>
      refine ⟨m, hm, fun h' hs' => ?_⟩
      have := fin _ d σ' { s' with heap := h' } hσD hGD (SB.skip (s' := { s' with heap := h' }) ⟨rfl, rfl⟩ hσ' hGC hLC hcC fun b o n e => (hs'.2 b n).trans e) hJ
      exact this
    | some u =>
      refine wpAny_mono (F _ m (Ne.symm hLC) hcC hGC hσ' hm) (fun _ s'' h'' => ?_) fun _ _ e => e
      obtain ⟨⟨m', hm'⟩, ε'', S'', q⟩ := h''
      exact ⟨m', hm', fun h' hs' => q _ (S''.skip (s' := { s'' with heap := h' }) ⟨rfl, rfl⟩ hσ' hGC hLC hcC fun b o n e => (hs'.2 b n).trans e)⟩
  have loop : codeAny (model prog w) A (.compLoop (.ListComp elt [⟨.Name x px, iter, ifs, 0⟩] scope pos) 0 (.ref I) (.ref s.heap.objs.size) (compEnvC scope cl H2.objs.size env))
      (compPost (model prog w) A E use Q (.ref s.heap.objs.size) H2.objs.size) { s with heap := h₁, toks := s.toks + ([] : List (Str × Value)).length } := by
    refine codeAny_compLoop_tests (fun k s' => ∃ i d σ', k = n - i ∧ i ≤ n ∧ St z (hidden G σ s.heap) (compEnvC scope cl H2.objs.size env) ε' σ' s' ∧ J i s.heap.objs.size d σ') ?_ n ⟨0, d₀, _, rfl, Nat.zero_le _, S₁, h0 _ hσD⟩
    rintro k s' ⟨i, d, σ', rfl, hi, S', hJ⟩
    by_cases q : i < n
    · refine wpAny_mono (turn _ _ i d σ' s' _ q hσD hidD hidC S' hJ) (fun r s₁ h₁ => ?_) fun _ _ e => e
      obtain ⟨y, rfl, h₁⟩ := h₁
      refine wpAny_mono h₁ (fun _ _ h₂ => wpAny_mono h₂.run (fun ok s₃ h₃ => ?_) fun _ _ e => e) fun _ _ e => e
      cases ok with
      | false => obtain ⟨d', σ'', S'', J''⟩ := h₃; exact ⟨_, Nat.sub_lt_sub_left q (Nat.lt_succ_self i), i + 1, d', σ'', rfl, q, S'', J''⟩
      | true =>
        refine wpAny_mono (LetW.run h₃) (fun _ _ h₄ => wpAny_mono h₄ (fun _ s₅ h₅ => ?_) fun _ _ e => e) fun _ _ e => e
        obtain ⟨d', σ'', S'', J''⟩ := h₅
        exact ⟨_, Nat.sub_lt_sub_left q (Nat.lt_succ_self i), i + 1, d', σ'', rfl, q, S'', J''⟩
    · have : i = n := by omega
      subst this
      refine wpAny_mono (stop _ _ d σ' s' _ hσD hidD S' hJ) (fun r s₁ h₁ => ?_) fun _ _ e => e
      obtain ⟨rfl, d', σ'', S'', J''⟩ := h₁
      exact post σ'' s₁ S'' ⟨d', J''⟩
  refine codeAny_compStart_list loop (hself _ _ _ ?_ loop)
  exact OR.mv (S.obj _ _ hI) fun o => old _ o
end
end
section
section
variable {prog : Program} {w : World} {A : Around} {E : Value → Shared → Prop} {s : Shared} {K : Frag} {mg mb : Str → Option Value} {z : Shared} {G : Addr → Option (Obj × Bool)} {env : Env} {ε : Vars} {σ : Sto} {x : Str} {pos : Pos}

theorem r_eqNil {l b : Addr} {vs : List AV} {Q : Value → Shared → Prop} (S : St z G env ε σ s) (hu : A.units < cLine) (hl : σ l = some (.list vs)) (hb : σ b = some (.list [])) (h : Q (.bool vs.isEmpty) s) :
    wpAny (model prog w) A (compareOp .Eq (.ref l) (.ref b)) Q E s := by
  obtain ⟨xs, n, ho, r⟩ := S.obj _ _ hl
  obtain ⟨ys, m, hp, q⟩ := S.obj _ _ hb
  cases q
  have hlen := r.length
  refine of_rc (k := vs.isEmpty) ?_ h
  cases vs with
  | nil => cases r; exact RcAt.lists (e := fun _ => true) (isList_of ho) (isList_of hp) rfl hu (fun j h1 => absurd h1 (Nat.not_lt_zero _))
  | cons v rest => exact RcAt.lists_lengths (isList_of ho) (isList_of hp) (by cases xs <;> simp at hlen ⊢) hu
theorem r_neNil {l b : Addr} {vs : List AV} {Q : Value → Shared → Prop} (S : St z G env ε σ s) (hu : A.units < cLine) (hl : σ l = some (.list vs)) (hb : σ b = some (.list [])) (h : Q (.bool !vs.isEmpty) s) :
    wpAny (model prog w) A (compareOp .NotEq (.ref l) (.ref b)) Q E s := by
  obtain ⟨xs, n, ho, r⟩ := S.obj _ _ hl
  obtain ⟨ys, m, hp, q⟩ := S.obj _ _ hb
  cases q
  have hlen := r.length
  refine of_rcne (k := !vs.isEmpty) ?_ h
  cases vs with
  | nil => cases r; exact RcNeAt.lists (e := fun _ => true) (isList_of ho) (isList_of hp) rfl hu (fun j h1 => absurd h1 (Nat.not_lt_zero _))
  | cons v rest => exact RcNeAt.lists_lengths (isList_of ho) (isList_of hp) (by cases xs <;> simp at hlen ⊢) hu

theorem r_itemInts {value slice : Expr} {l : Addr} {is : List Int} {k : Int} {u : Tok} {Q : Value → Shared → Prop} (S : St z G env ε σ s) (hl : σ l = some (.list (is.map .int))) (h0 : 0 ≤ k) (hk : k < is.length) (hz : is.length ≤ 100000)
    (h : ∀ t, Q (.int (is.getD k.toNat 0) t) s) (hs : subscripted slice false (.ref l) (.int k u) = operate [.ref l, .int k u] (getItem (.ref l) (.int k u)) := by with_unfolding_all rfl) :
    wpAny (model prog w) A (subscriptTail value slice (.ref l) (.int k u)) Q E s :=
  r_item (av := .int (is.getD k.toNat 0)) S hl h0 (by omega) (by rw [List.getElem?_map, List.getElem?_eq_getElem (by omega)]; simp [List.getD, List.getElem?_eq_getElem (show k.toNat < is.length by omega)]) h hs

theorem all_int {is js : List Int} (h : is.length = js.length) : (List.range is.length).all (fun j => is[j]? == js[j]?) = (is == js) := by
  rw [Bool.eq_iff_iff]
  simp only [List.all_eq_true, List.mem_range, beq_iff_eq]
  constructor
  · intro H
    apply List.ext_getElem? 
    intro j
    by_cases q : j < is.length
    · exact H j q
    · rw [List.getElem?_eq_none (by omega), List.getElem?_eq_none (by omega)]
  · rintro rfl _ _; rfl
theorem vrs_int {is : List Int} {vs : List Value} (r : VRs (is.map .int) vs) {j : Nat} {i : Int} (h : is[j]? = some i) : ∃ t, vs[j]? = some (.int i t) := by
  obtain ⟨v, hv, t, rfl⟩ := r.get (i := j) (a := .int i) (by rw [List.getElem?_map, h]; rfl)
  exact ⟨t, hv⟩
theorem ints_eqAt {A : Around} {is js : List Int} {xs ys : List Value} (r : VRs (is.map .int) xs) (q : VRs (js.map .int) ys) (j : Nat) (h1 : j < xs.toArray.size) (h2 : j < ys.toArray.size) :
    EqAt A s xs.toArray[j] ys.toArray[j] (is[j]? == js[j]?) := by
  have l1 := r.length
  have l2 := q.length
  simp only [List.size_toArray, List.length_map] at h1 h2 l1 l2
  obtain ⟨t, ht⟩ := vrs_int r (j := j) (i := is[j]'(by omega)) (by simp)
  obtain ⟨u, hu⟩ := vrs_int q (j := j) (i := js[j]'(by omega)) (by simp)
  have e1 : xs.toArray[j]'(by simpa using h1) = .int (is[j]'(by omega)) t := by
    have := List.getElem?_eq_some_iff.mp ht
    obtain ⟨_, e⟩ := this
    simpa using e
  have e2 : ys.toArray[j]'(by simpa using h2) = .int (js[j]'(by omega)) u := by
    have := List.getElem?_eq_some_iff.mp hu
    obtain ⟨_, e⟩ := this
    simpa using e
  rw [e1, e2]
  have := EqAt.int_int (A := A) (s := s) (is[j]'(by omega)) t (js[j]'(by omega)) u
  simpa [List.getElem?_eq_getElem (show j < is.length by omega), List.getElem?_eq_getElem (show j < js.length by omega)] using this
theorem r_neInts {l b : Addr} {is js : List Int} {Q : Value → Shared → Prop} (S : St z G env ε σ s) (hu : A.units < cLine) (hl : σ l = some (.list (is.map .int))) (hb : σ b = some (.list (js.map .int))) (h : Q (.bool (is != js)) s) :
    wpAny (model prog w) A (compareOp .NotEq (.ref l) (.ref b)) Q E s := by
  obtain ⟨xs, n, ho, r⟩ := S.obj _ _ hl
  obtain ⟨ys, m, hp, q⟩ := S.obj _ _ hb
  have l1 := r.length
  have l2 := q.length
  simp only [List.length_map] at l1 l2
  by_cases e : is.length = js.length
  · refine of_rcne (k := !(List.range xs.toArray.size).all fun j => is[j]? == js[j]?) (RcNeAt.lists (isList_of ho) (isList_of hp) (by simp; omega) hu fun j h1 h2 => ints_eqAt r q j h1 h2) ?_
    rw [List.size_toArray, l1, all_int e]
    exact h
  · refine of_rcne (k := true) (RcNeAt.lists_lengths (isList_of ho) (isList_of hp) (by simp; omega) hu) ?_
    have : (is != js) = true := by simp; intro q; exact e (congrArg List.length q)
    rw [this] at h
    exact h
end
end
local macro_rules | `(tactic| wtm_at "m1") => `(tactic| first
  | ((with_reducible refine' r_itemInts ‹St _ _ _ _ _ _› ?l ?a ?b ?c ?_ (hs := ?s)); (case s => with_unfolding_all rfl); (case l => wtm_at "sto"); (case a => omega); (case b => omega); (case c => omega); intro _))
section
section
variable {prog : Program} {w : World} {A : Around} {E : Value → Shared → Prop} {s : Shared} {K : Frag} {mg mb : Str → Option Value} {z : Shared} {G : Addr → Option (Obj × Bool)} {env : Env} {ε : Vars} {σ : Sto} {x : Str} {pos : Pos}

theorem r_unpack {t : Addr} {vs : List AV} {elts : List Expr} {k : Nat} {Q : Unit → Shared → Prop} (S : St z G env ε σ s) (hh : A.handled = none) (ht : σ t = some (.tup vs)) (hn : (assignEach elts env).length = vs.length) (hstar : (assignEach elts env).findIdx? (·.1) = none)
    (h : ∀ items s', VRs vs items → St z G env ε σ s' → wpAny (model prog w) A (assignInOrder ((assignEach elts env).map (·.2)) items) Q E s') : wpAny (model prog w) A (assign (.Tuple elts k pos) env (.ref t)) Q E s := by
  refine ex2 (S.obj _ _ ht) fun items n z0x0r => ?_
  refine and2 z0x0r fun ho r => ?_
  have hlen := r.length
  refine wpAny_assign_Tuple (items := items.toArray) hh ⟨_, ho, rfl, n, rfl⟩ (by rw [hn, List.size_toArray, hlen]) hstar fun h' he => ?_
  have := h items { s with heap := h' } r (S.grow (s' := { s with heap := h' }) ⟨rfl, rfl⟩ fun b o e => he b o (Nat.ne_of_lt (Heap.lt_size e)) e)
  exact this
theorem r_inOrder {M : Model} {av : AV} {t : Value → Sem Unit} {ts : List (Value → Sem Unit)} {vs : List AV} {items : List Value} {Q : Unit → Shared → Prop} (r : VRs (av :: vs) items)
    (h : Vals av fun v => ∀ rest, VRs vs rest → wpAny M A (t v) (fun _ s' => wpAny M A (assignInOrder ts rest) Q E s') E s) : wpAny M A (assignInOrder (t :: ts) items) Q E s := by
  obtain ⟨v, rest, rfl, vr, r⟩ := r
  exact wpAny_bind (wpAny_holding (h.at vr rest r))
theorem r_inOrderNil {M : Model} {items : List Value} {Q : Unit → Shared → Prop} (h : Q () s) : wpAny M A (assignInOrder [] items) Q E s := by
  cases items <;> exact wpAny_pure h

theorem mul_okL {a b : Int} (h1 : -1000000000 < a) (h2 : a < 1000000000) : IntMulOk a b := IntMulOk.of_left (intBits_le_64 (by omega) (by omega))
theorem r_titemInts {value slice : Expr} {l : Addr} {is : List Int} {k : Int} {u : Tok} {Q : Value → Shared → Prop} (S : St z G env ε σ s) (hl : σ l = some (.tup (is.map .int))) (h0 : 0 ≤ k) (hk : k < is.length) (hz : is.length ≤ 100000)
    (h : ∀ t, Q (.int (is.getD k.toNat 0) t) s) (hs : subscripted slice false (.ref l) (.int k u) = operate [.ref l, .int k u] (getItem (.ref l) (.int k u)) := by with_unfolding_all rfl) :
    wpAny (model prog w) A (subscriptTail value slice (.ref l) (.int k u)) Q E s := by
  refine ex2 (S.obj _ _ hl) fun items n z2x0r => ?_
  refine and2 z2x0r fun ho r => ?_
  have hlen := r.length
  refine ex1 (r.get (i := k.toNat) (a := .int (is.getD k.toNat 0)) (by rw [List.getElem?_map, List.getElem?_eq_getElem (by omega)]; simp [List.getD, List.getElem?_eq_getElem (show k.toNat < is.length by omega)])) fun v z3x0r => ?_
  refine and2 z3x0r fun hv vr => ?_
  refine ex1 vr fun t z4x1 => ?_
  subst z4x1
  rw [List.length_map] at hlen
  refine tail_any (isTup_of ho).typeIs slot_tuple_getitem.lookup (getItem_tuple (x := .int (is.getD k.toNat 0) t) (j := k.toNat) (isTup_of ho) (by omega) (by omega) ?_ (by simpa using hv) (h t)) hs
  unfold seqIndex?
  simp only [List.size_toArray]
  split <;> first | (simp; done) | (simp; omega) | omega
theorem r_lenT {l : Addr} {vs : List AV} {Q : Value → Shared → Prop} (S : St z G env ε σ s) (hl : σ l = some (.tup vs)) (hz : vs.length ≤ 100000) (h : ∀ t s', St z G env ε σ s' → Q (.int vs.length t) s') :
    wpAny (model prog w) A (call (.builtin "len") [.ref l]) Q E s := by
  refine ex2 (S.obj _ _ hl) fun items n z5x0r => ?_
  refine and2 z5x0r fun ho r => ?_
  have hlen := r.length
  refine PyProof.Rows.len_tuple (isTup_of ho) (by rw [List.size_toArray]; omega) ?_
  have e : ((items.toArray.size : Nat) : Int) = (vs.length : Int) := by rw [List.size_toArray, hlen]
  rw [e]
  exact h _ _ S.tick
theorem r_max2 {a b : Int} {t u : Tok} {Q : Value → Shared → Prop} (S : St z G env ε σ s) (hh : A.handled = none) (h : ∀ t s', St z G env ε σ s' → Q (.int (if b > a then b else a) t) s') :
    wpAny (model prog w) A (call (.builtin "max") [.int a t, .int b u]) Q E s := by
  refine ex1 S.fr fun m z6x0r => ?_
  refine and3 z6x0r fun F N back => ?_
  exact max_two_N hh F N fun h' tk F' N' => h _ _ (back _ ⟨rfl, rfl⟩ F' N')
end
end
local macro_rules | `(tactic| wtm_at "m1") => `(tactic| first
  | ((with_reducible refine' Attribute_any_ (he := ?m) ?_); (case m => with_unfolding_all rfl))
  | ((with_reducible refine' r_attr ‹Wd _ _ _ _› ‹St _ _ _ _ _ _› ?i ?d ?x ?p ?g ?f ?c ?_); (case i => wtm_at "sto"); (case d => wtm_at "sto"); (case x => exact rfl); (case p => exact rfl); (case g => k_is); (case f => k_is); (case c => k_is); intro _ _; wtm_at "vals")
  | ((with_reducible refine' r_unpack ‹St _ _ _ _ _ _› ?h ?t ?n ?f ?_); (case h => with_reducible assumption); (case t => wtm_at "sto"); (case n => exact rfl); (case f => exact rfl); intro _ _ _ _)
  | ((with_reducible show wpAny _ _ (assignInOrder _ _) _ _ _); first | ((refine' r_inOrder ‹VRs _ _› ?_); wtm_at "vals"; intro _ _) | (refine' r_inOrderNil ?_))
  | ((with_reducible refine' r_len ‹St _ _ _ _ _ _› ?l ?z ?_); (case l => wtm_at "sto"); (case z => first | omega | ((try simp only [List.length_append, List.length_map, List.length_cons, List.length_nil, List.length_range]) <;> omega)); intro _ _ _))
section
section
variable {prog : Program} {w : World} {A : Around} {E : Value → Shared → Prop} {s : Shared} {K : Frag} {mg mb : Str → Option Value} {z : Shared} {G : Addr → Option (Obj × Bool)} {env : Env} {ε : Vars} {σ : Sto} {x : Str} {pos : Pos}
theorem r_callK0 {M : Model} {f : Value} {first : List Value} {Q : Value → Shared → Prop} (W : Wd K mg mb z.heap) (S : St z G env ε σ s) (hk : keepIn K f = true) (h : wpAny M A (call f (first ++ [])) Q E s) :
    wpAny M A (callWith pos f first (backTo pos (starEach [] env)) []) Q E s := callWith_K0 (W.X.keeps S.base) hk h
noncomputable def KC (K : Frag) (M : Model) (A : Around) (E : Value → Shared → Prop) (f : Value) (vs : List Value) (Q : Value → Shared → Prop) (s : Shared) : Prop := K.In s.heap ∧ wpAny M A (call f vs) Q E s
theorem r_callK {M : Model} {f : Value} {first : List Value} {e : Expr} {rest : List Expr} {Q : Value → Shared → Prop} (W : Wd K mg mb z.heap) (hk : keepIn K f = true) (h : wpAny M A (spliced (backTo pos (starEach (e :: rest) env))) (fun vs s₁ => KC K M A E f (first ++ vs) Q s₁) E s)
    (he : starEach (e :: rest) env = (false, eval e env) :: starEach rest env) (hplain : (backTo pos (starEach rest env)).any (·.1) = false) :
    wpAny M A (callWith pos f first (backTo pos (starEach (e :: rest) env)) []) Q E s := callWith_K W.X hk h he hplain
theorem r_KC {M : Model} {f : Value} {vs : List Value} {Q : Value → Shared → Prop} (W : Wd K mg mb z.heap) (S : St z G env ε σ s) (h : wpAny M A (call f vs) Q E s) : KC K M A E f vs Q s := ⟨W.X.keeps S.base, h⟩
theorem r_cutB {M : Model} {t : Sem Bool} {Q : Bool → Shared → Prop} (S : St z G env ε σ s) (B : Bool) (ht : LetW M A t (fun b s' => b = B ∧ St z G env ε σ s') E s) (h : ∀ s', St z G env ε σ s' → Q B s') : wpAny M A t Q E s :=
  wpAny_mono ht.run (fun b s' q => by obtain ⟨rfl, S⟩ := q; exact h s' S) fun _ _ e => e
end
end
local macro_rules | `(tactic| wtm_at "m1") => `(tactic| first
  | ((with_reducible refine' r_callK0 ‹Wd _ _ _ _› ‹St _ _ _ _ _ _› ?k ?_); (case k => k_is); (try dsimp only [List.cons_append, List.nil_append, List.append_nil]))
  | ((with_reducible refine' r_callK ‹Wd _ _ _ _› ?k ?_ ?m ?n); (case k => k_is); (case m => exact rfl); (case n => exact rfl))
  | ((with_reducible refine' r_KC ‹Wd _ _ _ _› ‹St _ _ _ _ _ _› ?_); (try dsimp only [List.cons_append, List.nil_append, List.append_nil]))
  | ((with_reducible refine' r_method ‹Wd _ _ _ _› ‹St _ _ _ _ _ _› ?i ?d ?x ?g ?k ?f ?t ?_); (case i => wtm_at "sto"); (case d => wtm_at "sto"); (case x => exact rfl); (case g => k_is); (case k => k_is); (case f => k_is); (case t => k_is))
  | (with_reducible refine' wpAny_allTrue_And_cons ?_)
  | ((with_reducible refine' wpAny_isTrue_value ?_ ?m); (case m => exact rfl)))
section
section
variable {prog : Program} {w : World} {A : Around} {E : Value → Shared → Prop} {s : Shared} {K : Frag} {mg mb : Str → Option Value} {z : Shared} {G : Addr → Option (Obj × Bool)} {env : Env} {ε : Vars} {σ : Sto} {x : Str} {pos : Pos}
theorem all_int2 {is js : List Int} : ((List.range (min is.length js.length)).all (fun j => is[j]? == js[j]?) && is.length == js.length) = (is == js) := by
  by_cases h : is.length = js.length
  · rw [← h, Nat.min_self, all_int h]; simp
  · have e : (is == js) = false := by simp; intro q; exact h (congrArg List.length q)
    rw [e]; simp [h]
theorem vrs_inj : ∀ {is js : List Int} {vs : List Value}, VRs (is.map .int) vs → VRs (js.map .int) vs → is = js
  | [], [], _, _, _ => rfl
  | [], j :: js, vs, h, k => by cases h; obtain ⟨_, _, e, _⟩ := k; cases e
  | i :: is, [], vs, h, k => by cases k; obtain ⟨_, _, e, _⟩ := h; cases e
  | i :: is, j :: js, vs, h, k => by
    obtain ⟨v, r, rfl, ⟨t, rfl⟩, h⟩ := h
    obtain ⟨v', r', e, ⟨t', rfl⟩, k⟩ := k
    cases e
    rw [vrs_inj h k]
theorem eqAt_intTups {l b : Addr} {is js : List Int} (S : St z G env ε σ s) (hu : A.units + 1 < cLine) (hl : σ l = some (.tup (is.map .int))) (hb : σ b = some (.tup (js.map .int))) : EqAt A s (.ref l) (.ref b) (is == js) := by
  obtain ⟨xs, n, ho, r⟩ := S.obj _ _ hl
  obtain ⟨ys, m, hp, q⟩ := S.obj _ _ hb
  by_cases e : l = b
  · subst e
    rw [ho] at hp
    have : is = js := by
      have e1 : xs = ys := by injection hp with hp; injection hp with _ _ hd _; injection hd with hd; simpa using hd
      subst e1
      exact vrs_inj r q
    subst this
    have e2 : (is == is) = true := by simp
    rw [e2]
    exact EqAt.same _
  · have l1 := r.length
    have l2 := q.length
    simp only [List.length_map] at l1 l2
    have h := RcAt.tuples (A := A) (s := s) (l := l) (b := b) (items := xs.toArray) (items2 := ys.toArray) (e := fun j => is[j]? == js[j]?) ⟨_, ho, rfl, n, rfl⟩ ⟨_, hp, rfl, m, rfl⟩ (by omega) (fun j h1 h2 => ints_eqAt r q j h1 h2)
    rw [List.size_toArray, List.size_toArray, l1, l2, all_int2] at h
    exact EqAt.of_refs e h
theorem r_eqNorm {t1 t2 c1 c2 : Addr} {is js : List Int} {p q : Int} {Q : Value → Shared → Prop} (S : St z G env ε σ s) (hu : A.units + 3 < cLine) (h1 : σ t1 = some (.tup [.ref c1, .int p])) (h2 : σ t2 = some (.tup [.ref c2, .int q]))
    (h3 : σ c1 = some (.tup (is.map .int))) (h4 : σ c2 = some (.tup (js.map .int))) (h : Q (.bool ((is == js) && (p == q))) s) : wpAny (model prog w) A (compareOp .Eq (.ref t1) (.ref t2)) Q E s := by
  obtain ⟨xs, n, ho, r⟩ := S.obj _ _ h1
  obtain ⟨ys, m, hp, r'⟩ := S.obj _ _ h2
  obtain ⟨x0, _, rfl, rx0, x1, _, rfl, ⟨tx, rfl⟩, e⟩ := r
  cases rx0; cases e
  obtain ⟨y0, _, rfl, ry0, y1, _, rfl, ⟨ty, rfl⟩, e⟩ := r'
  cases ry0; cases e
  refine of_rc (k := (is == js) && (p == q)) ?_ h
  have := RcAt.tuples (A := A) (s := s) (l := t1) (b := t2) (items := #[.ref c1, .int p tx]) (items2 := #[.ref c2, .int q ty]) (e := fun j => if j = 0 then is == js else p == q) ⟨_, ho, rfl, n, rfl⟩ ⟨_, hp, rfl, m, rfl⟩ (by omega) (fun j g1 g2 => by
    match j, g1 with
    | 0, _ => exact eqAt_intTups S (by show A.units + 1 + 1 < cLine; omega) h3 h4
    | 1, _ => exact EqAt.int_int p tx q ty)
  simpa [List.range_succ] using this
end
end
section
section
variable {prog : Program} {w : World} {A : Around} {E : Value → Shared → Prop} {s : Shared} {K : Frag} {mg mb : Str → Option Value} {z : Shared} {G : Addr → Option (Obj × Bool)} {env : Env} {ε : Vars} {σ : Sto} {x : Str} {pos : Pos}
theorem r_tupleOf {l : Addr} {vs : List AV} {Q : Value → Shared → Prop} (S : St z G env ε σ s) (hl : σ l = some (.list vs)) (hz : vs.length ≤ 100000)
    (h : ∀ a s' σ', σ a = none → G a = none → Grow σ σ' → σ' a = some (.tup vs) → St z G env ε σ' s' → Q (.ref a) s') : wpAny (model prog w) A (call (.type "tuple") [.ref l]) Q E s := by
  refine ex2 (S.obj _ _ hl) fun items n z0x0r => ?_
  refine and2 z0x0r fun ho r => ?_
  have hlen := r.length
  refine call_tuple_list (isList_of ho) (fun h' hk => ?_) (by rw [sizeLine_eq, List.size_toArray]; omega)
  have S' : St z G env ε σ { s with heap := h' } := S.grow ⟨rfl, rfl⟩ hk
  exact h _ _ _ (S'.fresh (Nat.le_refl _)) (S'.freshG (Nat.le_refl _)) (Grow.upd (S'.fresh (Nat.le_refl _))) upd_self (S'.new (s' := { s with heap := h'.push { cls := .type "tuple", data := .seq items.toArray } }) ⟨rfl, rfl⟩ (Nat.le_refl _) (fun _ _ e => Heap.get?_push_of_some _ e) ⟨items, _, Heap.get?_push_size _ rfl, r⟩)

theorem fold_one (v : Value) : ∀ (n : Nat) (acc : Array Value), (List.replicate n #[v]).foldl (fun x1 x2 => x1 ++ x2) acc = acc ++ (List.replicate n v).toArray
  | 0, acc => by simp
  | n + 1, acc => by
    rw [List.replicate_succ, List.foldl_cons, fold_one v n, List.replicate_succ]
    apply Array.ext'
    simp
theorem r_mulOne {l : Addr} {av : AV} {k : Int} {u : Tok} {Q : Value → Shared → Prop} (S : St z G env ε σ s) (hl : σ l = some (.list [av])) (h1 : -100000 ≤ k) (h2 : k ≤ 100000)
    (h : ∀ a s' σ', σ a = none → G a = none → Grow σ σ' → σ' a = some (.list (List.replicate k.toNat av)) → St z G env ε σ' s' → Q (.ref a) s') : wpAny (model prog w) A (binaryOp .Mult (.ref l) (.int k u)) Q E s := by
  refine ex2 (S.obj _ _ hl) fun items n z1x0r => ?_
  refine and2 z1x0r fun ho r => ?_
  refine ex2 r fun v _ z2x0r => ?_
  refine and3 z2x0r fun z2x2 vr e => ?_
  subst z2x2
  cases e
  refine ex1 S.fr fun m z3x0r => ?_
  refine and3 z3x0r fun F N back => ?_
  refine mul_list F N ho (by omega) (by omega) (by simp; omega) fun h' F' N' => ?_
  have S' := back { s with heap := h' } ⟨rfl, rfl⟩ F' (fun p hp => N' p (.tail _ hp))
  refine h _ _ _ (S.fresh (Nat.le_refl _)) (S.freshG (Nat.le_refl _)) (Grow.upd (S.fresh (Nat.le_refl _))) upd_self (S.add S' (Nat.le_refl _) ⟨List.replicate k.toNat v, 0, ?_, VRs.replicate vr _⟩)
  have e := (N' _ (.head _)).1
  rw [e]
  have e2 : List.foldl (fun x1 x2 => x1 ++ x2) #[] (List.replicate (if (#[v] : Array Value).isEmpty = true then 0 else k.toNat) #[v]) = (List.replicate k.toNat v).toArray := by
    rw [if_neg (by simp), fold_one]; simp
  exact congrArg (fun d => some ({ cls := .type "list", dict := none, data := .seq d 0, slots := #[] } : Obj)) e2
theorem r_setItem {l : Addr} {vs : List AV} {k : Int} {t : Tok} {v : Value} {Q : Unit → Shared → Prop} (S : St z G env ε σ s) (hl : σ l = some (.list vs)) (hG : G l = none) (h0 : 0 ≤ k) (hk : k < vs.length) (hz : vs.length ≤ 100000)
    (h : ∀ s', St z G env ε (upd σ l (.list (vs.set k.toNat (absv v)))) s' → Q () s') : wpAny (model prog w) A (setItem (.ref l) (.int k t) v) Q E s := by
  refine ex2 (S.obj _ _ hl) fun items n z4x0r => ?_
  refine and2 z4x0r fun ho r => ?_
  have hlen := r.length
  refine ki_setAt (items := items.toArray) (n := n) ho h0 (by omega) (by rw [List.size_toArray]; omega) ?_
  refine ex1 (Obj.data_mapSeq (o := { cls := .type "list", dict := none, data := .seq items.toArray n, slots := #[] }) rfl (·.setIfInBounds k.toNat v)) fun n' hd' => ?_
  refine h _ (S.turn (s' := { s with heap := s.heap.update l (Obj.mapSeq (·.setIfInBounds k.toNat v)) }) ⟨rfl, rfl⟩ hl hG (fun b o e1 e2 => (((Heap.SameBut.update ..).2 b e1).trans e2)) ⟨items.set k.toNat v, n', ?_, r.set _ (vr_abs v)⟩)
  have e := Heap.get?_update_self (Obj.mapSeq (·.setIfInBounds k.toNat v)) ho (Obj.isFreed_of_seq hd')
  rw [e]
  have e2 : Obj.mapSeq (·.setIfInBounds k.toNat v) { cls := .type "list", dict := none, data := .seq items.toArray n, slots := #[] } = { cls := .type "list", dict := none, data := .seq (items.set k.toNat v).toArray n', slots := #[] } := by
    simp only [Obj.mapSeq] at hd' ⊢
    injection hd' with _ hn
    rw [hn]
    simp
  rw [e2]
end
end
local macro_rules | `(tactic| wtm_at "m1") => `(tactic| first
  | ((with_reducible refine' plainObj_wpAny_Assign_Attribute (hs := ?m) ?_); (case m => exact rfl))
  | ((with_reducible refine' r_setattr ‹Wd _ _ _ _› ‹St _ _ _ _ _ _› ?i ?d ?g ?s ?p ?t ?c ?z ?_); (case i => wtm_at "sto"); (case d => wtm_at "sto"); (case g => with_reducible assumption); (case s => k_is); (case p => k_is); (case t => k_is); (case c => k_is); (case z => omega); intro _ _))
section
section
variable {prog : Program} {w : World} {A : Around} {E : Value → Shared → Prop} {s : Shared} {K : Frag} {mg mb : Str → Option Value} {z : Shared} {G : Addr → Option (Obj × Bool)} {env : Env} {ε : Vars} {σ : Sto} {x : Str} {pos : Pos}
theorem r_clsVal {C : Addr} {mc a : Value} {name : Str} {expr : Bool} {Q : Value → Shared → Prop} (W : Wd K mg mb z.heap) (S : St z G env ε σ s) (hm : typeIn K (.ref C) = some mc) (hr : readsIn K C mc = true) (e : findCls K (.ref C) mc name = some (.val a)) (hh : handedIn a = true)
    (h : ∀ s', St z G env ε σ s' → Q a s') : wpAny (model prog w) A (getAttr (.ref C) name expr) Q E s := let _ := hm; cls_value (W.X.keeps S.base) hr e hh (h _ S.tick)
theorem r_unpackItems {t : Addr} {vs : List AV} {n : Nat} {Q : List Value → Shared → Prop} (S : St z G env ε σ s) (hh : A.handled = none) (ht : σ t = some (.tup vs)) (hn : n = vs.length) (h : ∀ items s', VRs vs items → St z G env ε σ s' → Q items s') :
    wpAny (model prog w) A (unpackItems (.ref t) n none) Q E s := by
  refine ex2 (S.obj _ _ ht) fun items k z0x0r => ?_
  refine and2 z0x0r fun ho r => ?_
  have hlen := r.length
  have e : n = items.toArray.size := by rw [hn, List.size_toArray, hlen]
  rw [e]
  refine wpAny_unpackItems_tuple (items := items.toArray) hh ⟨_, ho, rfl, k, rfl⟩ fun h' he => ?_
  have := h items { s with heap := h' } r (S.grow (s' := { s with heap := h' }) ⟨rfl, rfl⟩ fun b o e => he b o (Nat.ne_of_lt (Heap.lt_size e)) e)
  simpa using this
theorem r_inOrderRev {M : Model} {ts : List (Value → Sem Unit)} {vs : List AV} {items : List Value} {Q : Unit → Shared → Prop} (r : VRs vs items) (h : ∀ items', VRs vs.reverse items' → wpAny M A (assignInOrder ts items') Q E s) : wpAny M A (assignInOrder ts items.reverse) Q E s := h _ r.reverse

theorem r_loopP {Q : Flow → Shared → Prop} {X : Value → Shared → Prop} {target : Expr} {it : Value} {body : List Stmt} {D : Type} (P : Shared → Prop) (n : Nat) (v : Nat → D → Vars) (J : Nat → D → Sto → Prop) (d₀ : D) (S : St z G env (v 0 d₀) σ s) (h0 : J 0 d₀ σ)
    (turn : ∀ i d σ s, i < n → St z G env (v i d) σ s → J i d σ → wpAny (model prog w) A (pyNext it) (fun r s₁ => ∃ x, r = some x ∧
      wpAny (model prog w) A (letOwnedTupleGo target it x) (fun _ s₁' => wpAny (model prog w) A (assign target env x) (fun _ s₂ => LetW (model prog w) A (execs body env) (fun f s₃ => match f with
          | .next | .cont => ∃ d' σ', St z G env (v (i + 1) d') σ' s₃ ∧ J (i + 1) d' σ'
          | .brk => P s₃
          | .ret v => Q (.ret v) s₃) (notedBy (model prog w) A env X) s₂) (notedBy (model prog w) A env X) s₁') (notedBy (model prog w) A env X) s₁)
      (notedBy (model prog w) A env X) s)
    (fin : ∀ d σ s, St z G env (v n d) σ s → J n d σ → wpAny (model prog w) A (pyNext it) (fun r s₁ => r = none ∧ P s₁) (notedBy (model prog w) A env X) s) (after : ∀ s', P s' → Q .next s') :
    codeAny (model prog w) A (.forLoop target it body [] env) (fun r s' => match r with | .ok f => Q f s' | .error e => X e s') s :=
  r_loop n v J d₀ S h0 (fun i d σ s hi S hJ => wpAny_mono (turn i d σ s hi S hJ) (fun r s₁ h₁ => by
      refine ex1 h₁ fun x z1x0r => ?_
      refine and2 z1x0r fun e h₁ => ?_
      refine ⟨x, e, wpAny_mono h₁ (fun _ _ h₂ => wpAny_mono h₂ (fun _ _ h₃ => LetW.go fun Q' E' q => wpAny_mono h₃.run (fun f s₃ h₄ => q.up _ _ ?_) fun _ _ e => q.er _ _ e) fun _ _ e => e) fun _ _ e => e⟩
      cases f with
      | brk => exact after _ h₄
      | _ => exact h₄) fun _ _ e => e)
    (fun d σ s S hJ => wpAny_mono (fin d σ s S hJ) (fun r s₁ h₁ => ⟨h₁.1, wpAny_execs_nil (after _ h₁.2)⟩) fun _ _ e => e)
end
end
section
section
variable {prog : Program} {w : World} {A : Around} {E : Value → Shared → Prop} {s : Shared} {K : Frag} {mg mb : Str → Option Value} {z : Shared} {G : Addr → Option (Obj × Bool)} {env : Env} {ε : Vars} {σ : Sto} {x : Str} {pos : Pos}
noncomputable def CR (Q E : Value → Shared → Prop) : Result → Shared → Prop := fun r s' => match r with | .ok (.ret v) => Q v s' | .ok _ => False | .error e => E e s'
theorem enter_core {fd : FuncData} {f : Addr} {body : List Stmt} {ns : List Str} {binds : List (Str × Value)} {Q : Value → Shared → Prop} {E' : Value → Shared → Prop}
    (W : Wd K mg mb z.heap) (S : St z G env ε σ s) (hclo : fd.closure = []) (hns : binds.map (·.1) = ns)
    (hkind : ∀ L, bindOk fd L ns = true) (hnd : distinct ns = true) (hnf : (fd.scope.names.all fun p => p.2 != .free) = true)
    (h : ∀ L s₁, let en := callEnvC fd L f; (∀ x c, en.cells.lookup x = some c → hidden G σ s.heap c = none) → St z (hidden G σ s.heap) en (absB binds) σ s₁ →
      wpAny (model prog w) (A.deeper en) (execs body en) (fun fl s' => Q (retOf fl) s') (Leave (model prog w) (A.deeper en) en E) s₁)
    (hk : fd.scope.kind = .function) : wpAny (model prog w) A.in1 (newFunctionEnv fd.scope fd.globals fd.closure binds (fd.qualname ++ ".<locals>.") (some f) fd.code none fd.builtins)
        (fun env s₂ => s₂.heap.NoLimit ∧ codeAny (model prog w) A (.func body env) (CR Q E) s₂) E' s := by
  rw [hclo]
  refine wpAny_newFunctionEnv_cells hk (fun x hx => by
      have hx : x.1 ∈ ns := hns ▸ List.mem_map_of_mem hx
      have := List.all_eq_true.mp (hkind s.heap.objs.size) _ hx
      revert this
      cases q : fd.scope.names.lookup x.1 with
      | none => intro h; cases h
      | some k => cases k <;> intro h <;> first | exact .inl rfl | exact .inr ⟨rfl, h⟩ | cases h) fun env he s' x => ?_
  subst he
  refine ⟨(W.nolimit.keeps S.base).keeps x.toInCall.keep, codeAny_func ?_⟩
  have I : InCallC s (callEnvC fd s.heap.objs.size f).locals (bindL (callEnvC fd s.heap.objs.size f).kindOf binds fun _ => none) (callEnvC fd s.heap.objs.size f).cells (bindC (callEnvC fd s.heap.objs.size f).kindOf binds fun _ => none) s' := x
  refine wpAny_mono (h _ s' (fun x c e => S.cellsOff I e) (S.into hk (hns ▸ nodup_of hnd) hnf I)) (fun fl s' q => ?_) fun e s' q => ?_
  · cases fl <;> exact q
  · exact wpAny_mono q (fun _ _ q => q) fun _ _ q => q
theorem enterR {fd : FuncData} {f : Addr} {body : List Stmt} {vals : List Value} {ns : List Str} {binds : List (Str × Value)} {kws : List (Str × Value)} {Q : Value → Shared → Prop} {oc : Value} {od : Option Addr} {osl : Array (Option Value)}
    (W : Wd K mg mb z.heap) (S : St z G env ε σ s) (hroom : A.depth < recursionLimit) (ho : K.lookup f = some ⟨oc, od, .func fd, osl⟩) (hcd : codeIn K fd.code fd.qualname = true)
    (hbody : fd.body = .stmts body) (hbind : peek K ⟨prog, w.params⟩ (bindArgs fd ⟨vals, kws⟩) = some binds) (hclo : fd.closure = []) (hns : binds.map (·.1) = ns)
    (hkind : ∀ L, bindOk fd L ns = true) (hnd : distinct ns = true) (hnf : (fd.scope.names.all fun p => p.2 != .free) = true)
    (h : ∀ L s₁, let en := callEnvC fd L f; (∀ x c, en.cells.lookup x = some c → hidden G σ s.heap c = none) → St z (hidden G σ s.heap) en (absB binds) σ s₁ →
      LetW (model prog w) (A.deeper en) (execs body en) (fun fl s' => Q (retOf fl) s') (Leave (model prog w) (A.deeper en) en E) s₁)
    (hco : fd.scope.isCoroutine = false := by rfl) (hgen : fd.scope.isGenerator = false := by rfl) (hk : fd.scope.kind = .function := by rfl) : codeAny (model prog w) A (.call (.ref f) ⟨vals, kws⟩) (CR Q E) s :=
  codeAny_call_function hroom ((W.X.keeps S.base) _ _ ho) rfl hco hgen hbody (codeRec_of (W.X.keeps S.base) hcd)
    ((Looks.of_peek (M := model prog w) (W.X.keeps S.base) hbind).here (enter_core W S hclo hns hkind hnd hnf (fun L s₁ c s2 => (h L s₁ c s2).run) hk))
theorem wp_peek1 {α : Type} {M : Model} {E : Value → Shared → Prop} {Q : α → Shared → Prop} {o : Obj} {r : Addr → α} (X : K.In s.heap) (q : Q (r s.heap.objs.size) { s with heap := s.heap.push o }) :
    ∀ (t : Sem α) (g : Addr → Option α), peek1 K ⟨M.prog, M.w.params⟩ t = some (o, g) → (∀ D, g D = some (r D)) → wpAny M A t Q E s := by
  intro t
  induction t with
  | rule _ k ih => intro g e hg Γ p hΓ; exact ih () g e hg Γ p hΓ
  | point _ k ih => intro g e hg Γ p hΓ; exact ih () g e hg Γ p hΓ
  | ask k ih => intro g e hg Γ p hΓ; exact ih _ g e hg Γ p hΓ
  | load a _ k ih =>
    intro g e hg Γ p hΓ
    simp only [peek1] at e
    split at e
    · rename_i ob ho; exact ⟨ob, X _ _ ho, ih ob g e hg Γ p hΓ⟩
    · cases e
  | alloc ob k _ =>
    intro g e hg
    have e : some (ob, fun D => peek K ⟨M.prog, M.w.params⟩ (k D)) = some (o, g) := e
    obtain ⟨rfl, rfl⟩ := Prod.mk.inj (Option.some.inj e)
    have X' : K.In (s.heap.push ob) := X.keeps fun b x hb => Heap.get?_push_of_some _ hb
    show wpAny M A (alloc ob >>= k) Q E s
    refine wpAny_bind (wpAny_alloc ?_)
    exact (Looks.of_peek (M := M) (h := s.heap.push ob) X' (hg s.heap.objs.size)).here (s := { s with heap := s.heap.push ob }) q
  | _ => intro g e; cases e
theorem enterD {fd : FuncData} {f : Addr} {body : List Stmt} {vals : List Value} {ns : List Str} {binds : Addr → List (Str × Value)} {kws : List (Str × Value)} {g : Addr → Option (List (Str × Value))} {o : Obj} {Q : Value → Shared → Prop} {oc : Value} {od : Option Addr} {osl : Array (Option Value)}
    (W : Wd K mg mb z.heap) (S : St z G env ε σ s) (hroom : A.depth < recursionLimit) (ho : K.lookup f = some ⟨oc, od, .func fd, osl⟩) (hcd : codeIn K fd.code fd.qualname = true)
    (hbody : fd.body = .stmts body) (hbind : peek1 K ⟨prog, w.params⟩ (bindArgs fd ⟨vals, kws⟩) = some (o, g)) (hg : ∀ D, g D = some (binds D)) (hf : o.isFreed = false) (hclo : fd.closure = []) (hns : ∀ D, (binds D).map (·.1) = ns)
    (hkind : ∀ L, bindOk fd L ns = true) (hnd : distinct ns = true) (hnf : (fd.scope.names.all fun p => p.2 != .free) = true)
    (h : ∀ D L s₀ s₁ σ', let en := callEnvC fd L f; (D == sysModules) = false → σ D = none → G D = none → Grow σ σ' → σ' D = some (.raw fun o' => o' = o) → St z G env ε σ' s₀ → (∀ x c, en.cells.lookup x = some c → hidden G σ' s₀.heap c = none) → St z (hidden G σ' s₀.heap) en (absB (binds D)) σ' s₁ →
      LetW (model prog w) (A.deeper en) (execs body en) (fun fl s' => Q (retOf fl) s') (Leave (model prog w) (A.deeper en) en E) s₁)
    (hco : fd.scope.isCoroutine = false := by rfl) (hgen : fd.scope.isGenerator = false := by rfl) (hk : fd.scope.kind = .function := by rfl) : codeAny (model prog w) A (.call (.ref f) ⟨vals, kws⟩) (CR Q E) s := by
  refine codeAny_call_function hroom ((W.X.keeps S.base) _ _ ho) rfl hco hgen hbody (codeRec_of (W.X.keeps S.base) hcd) ?_
  refine wp_peek1 (W.X.keeps S.base) ?_ _ g hbind hg
  have hSD := S.fresh (Nat.le_refl _)
  have S2 := S.new (s' := { s with heap := s.heap.push o }) (ao := .raw fun o' => o' = o) ⟨rfl, rfl⟩ (Nat.le_refl _) (fun _ _ e => Heap.get?_push_of_some _ e) ⟨o, Heap.get?_push_size _ hf, rfl⟩
  exact enter_core W S2 hclo (hns _) hkind hnd hnf (fun L s₁ c s2 => h _ L _ s₁ _ (beq_eq_false_iff_ne.mpr (Nat.ne_of_gt (modules_low (W.nolimit.keeps S.base)))) hSD (S.freshG (Nat.le_refl _)) (Grow.upd hSD) upd_self S2 c s2 |>.run) hk
theorem r_kw {M : Model} {f : Value} {vals : List Value} {kws : List (Str × Value)} {Q : Value → Shared → Prop} (h : codeAny M A (.call f ⟨vals, kws⟩) (CR Q E) s) : wpAny M A (call f vals kws) Q E s := wpAny_call h

theorem r_make {C fI : Addr} {vals : List Value} {Q : Value → Shared → Prop} (W : Wd K mg mb z.heap) (S : St z G env ε σ s) (hm : makesIn K C = true)
    (hi : findIn K (.ref C) "__init__" = some (some (.ref fI))) (hf : typeIn K (.ref fI) = some (.type "function"))
    (h : ∀ a d s' σ', σ a = none → σ d = none → G a = none → G d = none → Grow σ σ' → σ' a = some (.inst C d) → σ' d = some (.ns 0 []) → St z G env ε σ' s' →
      codeAny (model prog w) (A.under (.builtin "type.__call__" ⟨.ref C :: vals, []⟩)) (.call (.ref fI) ⟨.ref a :: vals, []⟩) (CR (fun v s'' => v = .none ∧ Q (.ref a) s'') E) s') :
    wpAny (model prog w) A (call (.ref C) vals) Q E s := by
  have X := W.X.keeps S.base
  obtain ⟨hh, g, d, t, os⟩ := s
  refine wpAny_call (make_core (makes_of X hm) (looks_findIn X hi) (fun self => bind_fn X self hf) (.inl rfl) ?_)
  have hd := S.fresh (Nat.le_refl _)
  have hdG := S.freshG (Nat.le_refl _)
  dsimp only at hd hdG
  have S1 : St z G env ε (upd σ hh.objs.size (.ns 0 [])) ⟨hh.push emptyDict, g, d, t, os⟩ := S.new (s' := ⟨hh.push emptyDict, g, d, t, os⟩) ⟨rfl, rfl⟩ (Nat.le_refl _) (fun _ _ e => Heap.get?_push_of_some _ e) (by
    refine ⟨fun _ => none, ⟨⟨emptyDict, #[], _, Heap.get?_push_size _ rfl, rfl, ?_, ?_⟩, emptyDict, #[], _, Heap.get?_push_size _ rfl, rfl, by simp⟩, fun x => rfl⟩
    · intro e he; simp at he
    · intro x; rfl)
  have ha := S1.fresh (Nat.le_refl _)
  have haG := S1.freshG (Nat.le_refl _)
  dsimp only at ha haG
  rw [Heap.size_push] at ha haG
  have S2 := S1.new (s' := ⟨(hh.push emptyDict).push (instObj C hh.objs.size), g, d, t, os⟩) (ao := .inst C hh.objs.size) ⟨rfl, rfl⟩ (Nat.le_refl _) (fun _ _ e => Heap.get?_push_of_some _ e) ⟨#[], Heap.get?_push_size _ rfl⟩
  dsimp only at S2
  rw [Heap.size_push] at S2
  have g1 : Grow σ (upd σ hh.objs.size (.ns 0 [])) := Grow.upd hd
  have ha0 : σ (hh.objs.size + 1) = none := by
    cases q : σ (hh.objs.size + 1) with
    | none => rfl
    | some o => have := g1.get q; rw [ha] at this; cases this
  refine codeAny_mono (h (hh.objs.size + 1) hh.objs.size _ _ ha0 hd haG hdG (g1.trans (Grow.upd ha)) upd_self ((Grow.upd ha).get upd_self) S2) ?_
  intro r s' q
  rcases r with e | (v | _ | _ | _)
  · exact q
  all_goals exact q
end
end
theorem filled : True := by
  first
  | (have := hd (by k_fill; fail ""); trivial)
  | trivial
section
structure Ws where
  raw : Str
  n : Int
  nt : Int
  count : List Int
  trail : Int
noncomputable def wsFs (r : Ws) (tN : Addr) : List (Str × AV) := [("is_simple", .bool (decide (r.count.length ≤ 1))), ("norm", .ref tN), ("nt", .int r.nt), ("n", .int r.n), ("raw", .str r.raw)]
noncomputable def WsAt (σ : Sto) (a : Addr) (r : Ws) : Prop := ∃ d n tN tC, σ a = some (.inst 141 d) ∧ σ d = some (.ns n (wsFs r tN)) ∧ σ tN = some (.tup [.ref tC, .int r.trail]) ∧ σ tC = some (.tup (r.count.map .int))
noncomputable def longest (r : Ws) : Int := if r.trail > (r.count.length : Int) - 1 then r.trail else (r.count.length : Int) - 1
theorem dpt {A : Around} {env : Env} {k m L : Nat} (h : A.depth + m < L) (q : Nat.ble (k + 1) m = true) : (A.deeper env).depth + k < L := by
  have := Nat.le_of_ble_eq_true q
  rw [depth_deeper]; omega
theorem upt {A : Around} {env : Env} {k m L : Nat} (h : A.units + m < L) (q : Nat.ble (k + 3) m = true) : (A.deeper env).units + k < L := by
  have := Nat.le_of_ble_eq_true q
  rw [units_deeper]; omega
end
section
variable {w : World} {A : Around} {E : Value → Shared → Prop} {s z : Shared} {mg mb : Str → Option Value} {G : Addr → Option (Obj × Bool)} {env : Env} {ε : Vars} {σ : Sto}
theorem longest_run {a : Addr} {r : Ws} {Q : Value → Shared → Prop} (W : Wd (kk w.params) mg mb z.heap) (S0 : St z G env ε σ s) (hh : A.handled = none) (hdp : A.depth + 5 < recursionLimit) (hu : A.units + 40 < cLine)
   (ha : WsAt σ a r) (hz : r.count.length ≤ 1000)
   (h : ∀ t s', St z G env ε σ s' → Q (.int (longest r) t) s') :
   wpAny (model PySem.Challenge.pw_pe0273_01 w) A (call (.ref 103) [.ref a]) Q E s := by
  refine ex4 ha fun d n tN tC z0x0r => ?_
  refine and4 z0x0r fun h1 h2 h3 h4 => ?_
  have hh' : ∀ e, (A.deeper e).handled = none := fun e => hh
  refine enterC (binds := [("self", .ref a)]) W S0 (by first | exact room0 hdp | omega) (by exact rfl) (by k_is) rfl rfl rfl rfl (fun L => by exact rfl) (by exact rfl) (by exact rfl) ?_
  intro L s₁ env' C₁ S₁
  have hh := hh' env'
  repeat wtm_at "m"
  ((with_reducible refine' Assign_Tuple (hs := ?mu2) (hw := ?nu2) ?_); (case mu2 => exact rfl); (case nu2 => exact rfl))
  repeat wtm_at "m"
  ((with_reducible refine' r_lenT ‹St _ _ _ _ _ _› ?lu3 ?zu3 ?_); (case lu3 => wtm_at "sto"); (case zu3 => first | omega | ((try simp only [List.length_append, List.length_map, List.length_cons, List.length_nil, List.length_range]) <;> omega)); intro _ _ _)
  repeat wtm_at "m"
  ((with_reducible refine' r_max2 ‹St _ _ _ _ _ _› ?hu4 ?_); (case hu4 => with_reducible assumption); intro _ _ _)
  repeat wtm_at "m"
  rw [List.length_map]
  exact h _ _ (S0.back (by assumption))
noncomputable def ilAt (ts : Int) (count : List Int) (j : Nat) : Int := (List.range j).foldl (fun il k => il + (ts + (k : Nat)).fdiv ts * count.getD (ts + (k : Nat)).toNat 0) 0
noncomputable def level (r : Ws) (ts : Int) : Int := r.trail + ts * (ilAt ts r.count (r.count.length - ts.toNat) + r.nt)
theorem ilAt_succ {ts : Int} {count : List Int} {j : Nat} : ilAt ts count (j + 1) = ilAt ts count j + (ts + (j : Nat)).fdiv ts * count.getD (ts + (j : Nat)).toNat 0 := by
  unfold ilAt
  rw [List.range_succ, List.foldl_append]
  rfl
theorem indent_level {a : Addr} {r : Ws} {ts : Int} {u : Tok} {Q : Value → Shared → Prop} (W : Wd (kk w.params) mg mb z.heap) (S0 : St z G env ε σ s) (hh : A.handled = none) (hdp : A.depth + 5 < recursionLimit) (hu : A.units + 40 < cLine)
   (ha : WsAt σ a r) (hz : r.count.length ≤ 1000) (hc : ∀ j, 0 ≤ r.count.getD j 0 ∧ r.count.getD j 0 ≤ 1000) (h1 : 1 ≤ ts) (h2 : ts ≤ 1000)
   (h : ∀ t s' σ', Grow σ σ' → St z G env ε σ' s' → Q (.int (level r ts) t) s') :
   wpAny (model PySem.Challenge.pw_pe0273_01 w) A (call (.ref 110) [.ref a, .int ts u]) Q E s := by
  refine ex4 ha fun d n tN tC z1x0r => ?_
  refine and4 z1x0r fun h1' h2' h3 h4 => ?_
  have hh' : ∀ e, (A.deeper e).handled = none := fun e => hh
  refine enterC (binds := [("self", .ref a), ("tabsize", .int ts u)]) W S0 (by first | exact room0 hdp | omega) (by exact rfl) (by k_is) rfl rfl rfl rfl (fun L => by exact rfl) (by exact rfl) (by exact rfl) ?_
  intro L s₁ env' C₁ S₁
  have hh := hh' env'
  repeat wtm_at "m"
  ((with_reducible refine' Assign_Tuple (hs := ?mu5) (hw := ?nu5) ?_); (case mu5 => exact rfl); (case nu5 => exact rfl))
  repeat wtm_at "m"
  ((with_reducible refine' r_lenT ‹St _ _ _ _ _ _› ?lu6 ?zu6 ?_); (case lu6 => wtm_at "sto"); (case zu6 => first | omega | ((try simp only [List.length_append, List.length_map, List.length_cons, List.length_nil, List.length_range]) <;> omega)); intro _ _ _)
  repeat wtm_at "m"
  refine r_range2 ‹St _ _ _ _ _ _› ?_
  intro rg s₂ σ₁ hr Gr g1 r1 S2
  rw [List.length_map] at r1
  refine r_iterRange S2 r1 (by omega) (by omega) (by omega) (by omega) ?_
  intro I s₃ σ₂ hI GI g2 I2 S3
  have a2 := g2.get (g1.get h1')
  have d2 := g2.get (g1.get h2')
  have n2 := g2.get (g1.get h3)
  have c2 := g2.get (g1.get h4)
  have aI : a ≠ I := ne_new (g1.get h1') hI
  have dI : d ≠ I := ne_new (g1.get h2') hI
  have cI : tC ≠ I := ne_new (g1.get h4) hI
  have en : (if ts < (r.count.length : Int) then (r.count.length : Int) - ts else 0) = ((r.count.length - ts.toNat : Nat) : Int) := by split <;> omega
  rw [en] at I2
  refine r_loop (D := Unit) (r.count.length - ts.toNat) (fun i _ => [("self", .ref a), ("tabsize", .int ts), ("count", .ref tC), ("trailing", .int r.trail), ("il", .int (ilAt ts r.count i))])
    (fun i _ σ' => But [I] σ₂ σ' ∧ σ' I = some (rngO (ts + i) (((r.count.length - ts.toNat : Nat) : Int) - i))) () (S3.vars ⟨rfl, rfl, rfl, rfl, rfl, trivial⟩) ⟨But.refl, ?_⟩ ?_ ?_
  · rw [I2]; congr 1; congr 1 <;> omega
  · rintro i - σ s hi S Hpat2
    refine and2 Hpat2 fun b hI' => ?_
    have hb := hc (ts + (i : Nat)).toNat
    refine r_nextRange S hI' GI (by omega) ?_
    intro t s S
    refine ⟨_, rfl, wpAny_pure ?_⟩
    have er : rngO (ts + ((i + 1 : Nat) : Int)) (((r.count.length - ts.toNat : Nat) : Int) - ((i + 1 : Nat) : Int)) = rngO (ts + i + 1) (((r.count.length - ts.toNat : Nat) : Int) - i - 1) := by rw [show (ts + ((i + 1 : Nat) : Int)) = ts + i + 1 by omega, show (((r.count.length - ts.toNat : Nat) : Int) - ((i + 1 : Nat) : Int)) = ((r.count.length - ts.toNat : Nat) : Int) - i - 1 by omega]
    repeat wtm_at "m"
    ((with_reducible refine' r_fdiv ‹St _ _ _ _ _ _› ?lu7 ?mu7 ?nu7 ?_); (case lu7 => omega); (case mu7 => omega); (case nu7 => omega); intro _ _ _)
    repeat wtm_at "m"
    ((with_reducible refine' r_titemInts ‹St _ _ _ _ _ _› ?lu8 ?au8 ?bu8 ?cu8 ?_ (hs := ?su8)); (case su8 => with_unfolding_all rfl); (case lu8 => wtm_at "sto"); (case au8 => omega); (case bu8 => omega); (case cu8 => omega); intro _)
    ((with_reducible refine' r_mul ‹St _ _ _ _ _ _› ?mu9 ?_); (case mu9 => exact mul_ok (by omega) (by omega)); intro _ _ _)
    repeat wtm_at "m"
    rw [er, ilAt_succ]
    exact ⟨(), _, St.vars (by assumption) ⟨rfl, rfl, rfl, rfl, rfl, trivial⟩, b.trans (But.upd (l := I) (by simp)), upd_self⟩
  · rintro - σ s S Hpat3
    refine and2 Hpat3 fun b hI' => ?_
    refine r_endRange S hh hI' GI (by omega) ?_
    intro s S
    refine ⟨rfl, ?_⟩
    repeat wtm_at "m"
    ((with_reducible refine' r_mul ‹St _ _ _ _ _ _› ?mu10 ?_); (case mu10 => exact mul_okL (by omega) (by omega)); intro _ _ _)
    repeat wtm_at "m"
    exact h _ _ _ (g1.trans ((b.trans (But.rem (l := I) (by simp))).drop g2 hI).grow) (S0.back (by assumption))
end
section
noncomputable def imax (a b : Int) : Int := if b > a then b else a
noncomputable def lessB (x y : Ws) : Bool :=
  if y.n ≤ x.n then false
  else if x.count.length ≤ 1 ∧ y.count.length ≤ 1 then decide (x.nt ≤ y.nt)
  else (List.range (imax (longest x) (longest y)).toNat).all fun i => !decide (level y (2 + (i : Nat)) ≤ level x (2 + (i : Nat)))
noncomputable def Ws.Ok (r : Ws) : Prop := r.count.length ≤ 500 ∧ (∀ j, 0 ≤ r.count.getD j 0 ∧ r.count.getD j 0 ≤ 1000) ∧ 0 ≤ r.trail ∧ r.trail ≤ 500 ∧ 0 ≤ r.nt ∧ r.nt ≤ 1000
variable {w : World} {A : Around} {E : Value → Shared → Prop} {s z : Shared} {mg mb : Str → Option Value} {G : Addr → Option (Obj × Bool)} {env : Env} {ε : Vars} {σ : Sto}
theorem WsAt.grow {σ σ' : Sto} {a : Addr} {r : Ws} (h : WsAt σ a r) (g : Grow σ σ') : WsAt σ' a r := let ⟨d, n, tN, tC, h1, h2, h3, h4⟩ := h; ⟨d, n, tN, tC, g.get h1, g.get h2, g.get h3, g.get h4⟩
theorem less {a b : Addr} {x y : Ws} {Q : Value → Shared → Prop} (W : Wd (kk w.params) mg mb z.heap) (S0 : St z G env ε σ s) (hh : A.handled = none) (hdp : A.depth + 10 < recursionLimit) (hu : A.units + 60 < cLine)
   (ha : WsAt σ a x) (hb : WsAt σ b y) (ox : x.Ok) (oy : y.Ok)
   (h : ∀ s' σ', Grow σ σ' → St z G env ε σ' s' → Q (.bool (lessB x y)) s') :
   wpAny (model PySem.Challenge.pw_pe0273_01 w) A (call (.ref 131) [.ref a, .ref b]) Q E s := by
  refine ex4 (id ha) fun da na tNa tCa z0x0r => ?_
  refine and4 z0x0r fun a1 a2 a3 a4 => ?_
  refine ex4 (id hb) fun db nb tNb tCb z1x0r => ?_
  refine and4 z1x0r fun b1 b2 b3 b4 => ?_
  have hh' : ∀ e, (A.deeper e).handled = none := fun e => hh
  refine enterC (binds := [("self", .ref a), ("other", .ref b)]) W S0 (by first | exact room0 hdp | omega) (by exact rfl) (by k_is) rfl rfl rfl rfl (fun L => by exact rfl) (by exact rfl) (by exact rfl) ?_
  intro L s₁ env' C₁ S₁
  have hh := hh' env'
  repeat wtm_at "m"
  with_reducible refine' PyProof.Rows.ge_int ?_
  repeat wtm_at "m"
  refine r_ite (fun hs => ?_) fun hs => ?_
  · repeat wtm_at "m"
    have e : lessB x y = false := by unfold lessB; rw [if_pos (of_decide_eq_true hs)]
    have := h _ _ Grow.refl (S0.back (by assumption))
    rw [e] at this; exact this
  wtm_at "m"
  wtm_at "m"
  have hlt : ¬ y.n ≤ x.n := of_decide_eq_false hs
  refine wpAny_If ?_
  refine r_cutB ‹St _ _ _ _ _ _› (decide (x.count.length ≤ 1 ∧ y.count.length ≤ 1)) ?_ ?_
  · refine LetW.go ?_
    intro _ _ _
    (with_reducible refine' wpAny_isTrue_BoolOp ?_)
    repeat wtm_at "m"
    refine r_ite (fun h1 => ?_) fun h1 => ?_
    · repeat wtm_at "m"
      refine r_ite (fun h2 => ?_) fun h2 => ?_
      · (with_reducible refine' wpAny_allTrue_And_nil ?_)
        repeat wtm_at "m"
        exact ⟨by simp at h1 h2; simp [h1, h2], by assumption⟩
      · repeat wtm_at "m leave"
        exact ⟨by simp at h1 h2; simp [h1]; omega, by assumption⟩
    · repeat wtm_at "m leave"
      exact ⟨by simp at h1; simp; omega, by assumption⟩
  intro s S
  refine r_ite (fun hs2 => ?_) fun hs2 => ?_
  · repeat wtm_at "m"
    with_reducible refine' PyProof.Rows.le_int ?_
    repeat wtm_at "m"
    have e : lessB x y = decide (x.nt ≤ y.nt) := by unfold lessB; rw [if_neg hlt, if_pos (of_decide_eq_true hs2)]
    have := h _ _ Grow.refl (S0.back (by assumption))
    rw [e] at this; exact this
  repeat wtm_at "m"
  refine longest_run W ‹St _ _ _ _ _ _› hh (by first | exact dpt hdp rfl | (simp only [depth_deeper]; omega)) (by first | exact upt hu rfl | (simp only [units_deeper]; omega)) ha (by have := ox.1; omega) ?_
  intro t s S
  repeat wtm_at "m"
  refine longest_run W ‹St _ _ _ _ _ _› hh (by first | exact dpt hdp rfl | (simp only [depth_deeper]; omega)) (by first | exact upt hu rfl | (simp only [units_deeper]; omega)) hb (by have := oy.1; omega) ?_
  intro t s S
  repeat wtm_at "m"
  ((with_reducible refine' r_max2 ‹St _ _ _ _ _ _› ?hu41 ?_); (case hu41 => with_reducible assumption); intro _ _ _)
  repeat wtm_at "m"
  have bx : -1 ≤ longest x ∧ longest x ≤ 500 ∧ 0 ≤ longest x := by unfold longest; have := ox.1; have := ox.2.2.1; have := ox.2.2.2.1; split <;> omega
  have bY : -1 ≤ longest y ∧ longest y ≤ 500 ∧ 0 ≤ longest y := by unfold longest; have := oy.1; have := oy.2.2.1; have := oy.2.2.2.1; split <;> omega
  have em : (if longest y > longest x then longest y else longest x) = imax (longest x) (longest y) := rfl
  have bm : 0 ≤ imax (longest x) (longest y) ∧ imax (longest x) (longest y) ≤ 500 := by unfold imax; split <;> omega
  refine r_range2 ‹St _ _ _ _ _ _› ?_
  intro rg s₂ σ₁ hr Gr g1 r1 S2
  rw [em] at r1
  refine r_iterRange S2 r1 (by omega) (by omega) (by omega) (by omega) ?_
  intro I s₃ σ₂ hI GI g2 I2 S3
  have en : (if (2 : Int) < imax (longest x) (longest y) + 1 + 1 then imax (longest x) (longest y) + 1 + 1 - 2 else 0) = (((imax (longest x) (longest y)).toNat : Nat) : Int) := by split <;> omega
  rw [en] at I2
  have fallthrough : lessB x y = (List.range (imax (longest x) (longest y)).toNat).all fun i => !decide (level y (2 + (i : Nat)) ≤ level x (2 + (i : Nat))) := by
    unfold lessB; rw [if_neg hlt, if_neg (of_decide_eq_false hs2)]
  refine r_loop (D := Unit) (imax (longest x) (longest y)).toNat (fun i _ => [("self", .ref a), ("other", .ref b)])
    (fun i _ σ' => But [I] σ₂ σ' ∧ σ' I = some (rngO (2 + i) (((imax (longest x) (longest y)).toNat : Nat) - i)) ∧ ∀ j, j < i → decide (level y (2 + (j : Nat)) ≤ level x (2 + (j : Nat))) = false) () (S3.vars ⟨rfl, rfl, trivial⟩) ⟨But.refl, ?_, fun j hj => absurd hj (Nat.not_lt_zero _)⟩ ?_ ?_
  · rw [I2]; congr 1
  · rintro i - σ' s hi S Hpat2
    refine and3 Hpat2 fun b' hI' hall => ?_
    refine r_nextRange S hI' GI (by omega) ?_
    intro t s S
    refine ⟨_, rfl, wpAny_pure ?_⟩
    have gg := g1.trans ((b'.trans (But.upd (l := I) (ao := rngO (2 + (i : Int) + 1) (((imax (longest x) (longest y)).toNat : Nat) - (i : Int) - 1)) (by simp))).drop g2 hI).grow
    have er : rngO (2 + ((i + 1 : Nat) : Int)) (((imax (longest x) (longest y)).toNat : Nat) - ((i + 1 : Nat) : Int)) = rngO (2 + i + 1) (((imax (longest x) (longest y)).toNat : Nat) - (i : Int) - 1) := by rw [show (2 + ((i + 1 : Nat) : Int)) = 2 + i + 1 by omega, show ((((imax (longest x) (longest y)).toNat : Nat) : Int) - ((i + 1 : Nat) : Int)) = (((imax (longest x) (longest y)).toNat : Nat) : Int) - i - 1 by omega]
    have a1' := gg.get a1
    have a2' := gg.get a2
    have b1' := gg.get b1
    have b2' := gg.get b2
    repeat wtm_at "m"
    refine indent_level W ‹St _ _ _ _ _ _› hh (by first | exact dpt hdp rfl | (simp only [depth_deeper]; omega)) (by first | exact upt hu rfl | (simp only [units_deeper]; omega)) (ha.grow gg) (by have := ox.1; omega) ox.2.1 (by omega) (by omega) ?_
    intro t s σ₃ g3 S4
    have b1'' := g3.get b1'
    have b2'' := g3.get b2'
    repeat wtm_at "m"
    refine indent_level W ‹St _ _ _ _ _ _› hh (by first | exact dpt hdp rfl | (simp only [depth_deeper]; omega)) (by first | exact upt hu rfl | (simp only [units_deeper]; omega)) (hb.grow (gg.trans g3)) (by have := oy.1; omega) oy.2.1 (by omega) (by omega) ?_
    intro t s σ₄ g4 S5
    with_reducible refine' PyProof.Rows.ge_int ?_
    repeat wtm_at "m"
    refine r_ite (fun hs3 => ?_) fun hs3 => ?_
    · repeat wtm_at "m"
      have e : lessB x y = false := by
        rw [fallthrough, List.all_eq_false]
        exact ⟨i, List.mem_range.mpr hi, by rw [hs3]; decide⟩
      have := h _ _ ((gg.trans g3).trans g4) (S0.back (by assumption))
      rw [e] at this; exact this
    · repeat wtm_at "m"
      refine ⟨(), _, St.vars (by assumption) ?_, ?_, ?_, ?_⟩
      · exact ⟨rfl, rfl, trivial⟩
      · exact ((b'.trans (But.upd (l := I) (by simp))).trans g3.but).trans g4.but
      · rw [er]; exact g4.get (g3.get upd_self)
      · intro j hj
        by_cases q : j < i
        · exact hall j q
        · have : j = i := by omega
          subst this; exact hs3
  · rintro - σ' s S Hpat3
    refine and3 Hpat3 fun b' hI' hall => ?_
    refine r_endRange S hh hI' GI (by omega) ?_
    intro s S
    refine ⟨rfl, ?_⟩
    repeat wtm_at "m"
    have e : lessB x y = true := by
      rw [fallthrough, List.all_eq_true]
      intro j hj
      rw [hall j (List.mem_range.mp hj)]; rfl
    have := h _ _ (g1.trans ((b'.trans (But.rem (l := I) (by simp))).drop g2 hI).grow) (S0.back (by assumption))
    rw [e] at this; exact this
end
section
noncomputable def eqB (x y : Ws) : Bool := (x.count == y.count) && (x.trail == y.trail)
variable {w : World} {A : Around} {E : Value → Shared → Prop} {s z : Shared} {mg mb : Str → Option Value} {G : Addr → Option (Obj × Bool)} {env : Env} {ε : Vars} {σ : Sto}
theorem equal {a b : Addr} {x y : Ws} {Q : Value → Shared → Prop} (W : Wd (kk w.params) mg mb z.heap) (S0 : St z G env ε σ s) (hdp : A.depth + 10 < recursionLimit) (hu : A.units + 60 < cLine)
   (ha : WsAt σ a x) (hb : WsAt σ b y) (h : ∀ s', St z G env ε σ s' → Q (.bool (eqB x y)) s') :
   wpAny (model PySem.Challenge.pw_pe0273_01 w) A (call (.ref 117) [.ref a, .ref b]) Q E s := by
  refine ex4 (id ha) fun da na tNa tCa z0x0r => ?_
  refine and4 z0x0r fun a1 a2 a3 a4 => ?_
  refine ex4 (id hb) fun db nb tNb tCb z1x0r => ?_
  refine and4 z1x0r fun b1 b2 b3 b4 => ?_
  refine enterC (binds := [("self", .ref a), ("other", .ref b)]) W S0 (by first | exact room0 hdp | omega) (by exact rfl) (by k_is) rfl rfl rfl rfl (fun L => by exact rfl) (by exact rfl) (by exact rfl) ?_
  intro L s₁ env' C₁ S₁
  repeat wtm_at "m"
  ((with_reducible refine' r_eqNorm ‹St _ _ _ _ _ _› ?uu104 ?au104 ?bu104 ?cu104 ?du104 ?_); (case uu104 => (try simp only [units_in1, units_deeper]); omega); (case au104 => wtm_at "sto"); (case bu104 => wtm_at "sto"); (case cu104 => wtm_at "sto"); (case du104 => wtm_at "sto"))
  repeat wtm_at "m"

  exact h _ (S0.back (by assumption))
end
section
structure Sc where
  count : List Int
  b : Nat
  n : Nat
  nt : Nat
noncomputable def bump (count : List Int) (b : Nat) : List Int :=
  let c := if count.length ≤ b then count ++ List.replicate (b - count.length + 1) 0 else count
  c.set b (c.getD b 0 + 1)
noncomputable def scan : List Nat → Sc → Sc
  | [], r => r
  | c :: cs, r => if c = 32 then scan cs { r with b := r.b + 1, n := r.n + 1 } else if c = 9 then scan cs { count := bump r.count r.b, b := 0, n := r.n + 1, nt := r.nt + 1 } else r
noncomputable def wsOf (x : Str) : Ws :=
  let r := scan x.cps.toList ⟨[], 0, 0, 0⟩
  ⟨x, r.n, r.nt, r.count, r.b⟩
theorem one_eq {c k : Nat} {y : Str} (hy : y = ⟨#[k]⟩) : ((⟨#[c]⟩ : Str) == y) = decide (c = k) := by
  subst hy
  rw [Bool.eq_iff_iff]
  simp
theorem eq_sp {c : Nat} : ((⟨#[c]⟩ : Str) == (" " : Str)) = decide (c = 32) := one_eq (by decide)
theorem eq_tab {c : Nat} : ((⟨#[c]⟩ : Str) == ("\t" : Str)) = decide (c = 9) := one_eq (by decide)
theorem drop_at {l : List Nat} {i c : Nat} (h : l[i]? = some c) : l.drop i = c :: l.drop (i + 1) := by
  refine ex1 (List.getElem?_eq_some_iff.mp h) fun hlt e => ?_
  rw [← e]; exact List.drop_eq_getElem_cons hlt
theorem getD_cat0 {l : List Int} {n j : Nat} : (l ++ List.replicate n 0).getD j 0 = l.getD j 0 := by
  simp only [List.getD_eq_getElem?_getD, List.getElem?_append, List.getElem?_replicate]
  split
  · rfl
  · rw [List.getElem?_eq_none (by omega : l.length ≤ j)]; split <;> rfl
theorem bump_bound {l : List Int} {b : Nat} {i : Int} (h : ∀ j, 0 ≤ l.getD j 0 ∧ l.getD j 0 ≤ i) (j : Nat) : 0 ≤ (l.set b (l.getD b 0 + 1)).getD j 0 ∧ (l.set b (l.getD b 0 + 1)).getD j 0 ≤ i + 1 := by
  have hj := h j
  have hb := h b
  simp only [List.getD_eq_getElem?_getD, List.getElem?_set] at hj hb ⊢
  split
  · split
    · simp only [Option.getD_some]; omega
    · simp only [Option.getD_none]; omega
  · omega
variable {w : World} {A : Around} {E : Value → Shared → Prop} {s z : Shared} {mg mb : Str → Option Value} {G : Addr → Option (Obj × Bool)} {env : Env} {ε : Vars} {σ : Sto}
theorem ws_init {a d : Addr} {x : Str} {t : Tok} {Q : Value → Shared → Prop} (W : Wd (kk w.params) mg mb z.heap) (S0 : St z G env ε σ s) (hh : A.handled = none) (hdp : A.depth + 10 < recursionLimit) (hu : A.units + 60 < cLine)
   (ha : σ a = some (.inst 141 d)) (hd' : σ d = some (.ns 0 [])) (hGd : G d = none) (hx : x.cps.size ≤ 100)
   (h : ∀ s' σ', But [d] σ σ' → WsAt σ' a (wsOf x) → St z G env ε σ' s' → Q .none s') :
   codeAny (model PySem.Challenge.pw_pe0273_01 w) A (.call (.ref 96) ⟨[.ref a, .str x t], []⟩) (CR Q E) s := by
  have nad : a ≠ d := ne_kind ha hd' (by intro e; cases e)
  refine enterR (binds := [("self", .ref a), ("ws", .str x t)]) W S0 (by first | exact room0 hdp | omega) (by exact rfl) (by k_is) rfl (by exact rfl) rfl rfl (fun L => by exact rfl) (by exact rfl) (by exact rfl) ?_
  intro L s₁ env' C₁ S₁
  have hh : (A.deeper env').handled = none := hh
  have hGd' : hidden G σ s.heap d = none := hidden_sto hGd hd'
  repeat wtm_at "m"
  ((with_reducible refine' Assign_Tuple_swapped (hs := ?mu113) (hw := ?nu113) ?_); (case mu113 => exact rfl); (case nu113 => exact rfl))
  repeat wtm_at "m"
  ((with_reducible refine' r_clsVal ‹Wd _ _ _ _› ‹St _ _ _ _ _ _› ?au114 ?bu114 ?cu114 ?du114 ?_); (case au114 => k_is); (case bu114 => k_is); (case cu114 => k_is); (case du114 => exact rfl); intro _ _)
  repeat wtm_at "m"
  ((with_reducible refine' r_clsVal ‹Wd _ _ _ _› ‹St _ _ _ _ _ _› ?au115 ?bu115 ?cu115 ?du115 ?_); (case au115 => k_is); (case bu115 => k_is); (case cu115 => k_is); (case du115 => exact rfl); intro _ _)
  repeat wtm_at "m"
  refine r_newTup ‹St _ _ _ _ _ _› (by decide) ?_
  intro tp s₂ σ₁ htp Gtp g1 tp1 S2
  repeat wtm_at "m"
  ((with_reducible refine' r_unpackItems ‹St _ _ _ _ _ _› ?hu116 ?tu116 ?nu116 ?_); (case hu116 => with_reducible assumption); (case tu116 => wtm_at "sto"); (case nu116 => exact rfl); intro _ _ _ _)
  ((with_reducible refine' r_inOrderRev ‹VRs _ _› ?_); intro _ _)
  repeat wtm_at "m"
  (with_reducible refine' bindName_ ?_)
  repeat wtm_at "m"
  (with_reducible refine' bindName_ ?_)
  repeat wtm_at "m"
  refine r_newList ‹St _ _ _ _ _ _› (by decide) ?_
  intro cl s₃ σ₂ hcl Gcl g2 cl2 S3
  repeat wtm_at "m"
  ((with_reducible refine' wpAny_Assign_three (he := ?mu120) (hw := ?nu120) ?_); (case mu120 => exact rfl); (case nu120 => exact rfl))
  repeat wtm_at "m"
  refine r_iterStr ‹St _ _ _ _ _ _› ?_
  intro I s₄ σ₃ hI GI g3 I3 S4
  let vv : Addr → Sc → Vars := fun c r => [("self", .ref a), ("S", .str " "), ("T", .str "\t"), ("count", .ref c), ("b", .int r.b), ("n", .int r.n), ("nt", .int r.nt)]
  refine r_loopP (fun s' => ∃ c σ', St z (hidden G σ s.heap) env' (vv c (scan x.cps.toList ⟨[], 0, 0, 0⟩)) σ' s' ∧ Grow σ₁ σ' ∧ σ' c = some (.list ((scan x.cps.toList ⟨[], 0, 0, 0⟩).count.map .int)) ∧ c ≠ d ∧ (scan x.cps.toList ⟨[], 0, 0, 0⟩).count.length ≤ 1000)
    (D := Addr × Sc) x.cps.size (fun _ d => vv d.1 d.2)
    (fun i d σ' => Grow σ₁ σ' ∧ σ₁ d.1 = none ∧ hidden G σ s.heap d.1 = none ∧ d.1 ≠ I ∧ σ' d.1 = some (.list (d.2.count.map .int)) ∧ σ' I = some (sitO x i) ∧ scan (x.cps.toList.drop i) d.2 = scan x.cps.toList ⟨[], 0, 0, 0⟩ ∧ d.2.b ≤ i ∧ d.2.n ≤ i ∧ d.2.nt ≤ i ∧ d.2.count.length ≤ i ∧ ∀ j, 0 ≤ d.2.count.getD j 0 ∧ d.2.count.getD j 0 ≤ i)
    (cl, ⟨[], 0, 0, 0⟩) (S4.vars ⟨rfl, rfl, rfl, rfl, rfl, rfl, rfl, trivial⟩) ?_ ?_ ?_ ?_
  · refine ⟨g2.trans g3, hcl, Gcl, ne_new cl2 hI, g3.get cl2, I3, rfl, Nat.le_refl _, Nat.le_refl _, Nat.le_refl _, Nat.le_refl _, fun j => ?_⟩
    simp
  · rintro i ⟨c, r⟩ σ' s' hi S Hpat1
    refine and9 Hpat1 fun g hc Gc hcI c1 I1 hsc hb z1x0r => ?_
    refine and4 z1x0r fun hn hnt hcl' hcc => ?_
    have hx1 : x.cps[i]? = some x.cps[i] := by simp [hi]
    refine r_nextStr S I1 GI hx1 ?_
    intro t s S
    refine ⟨_, rfl, wpAny_pure ?_⟩
    repeat wtm_at "m"
    with_reducible refine' PyProof.Rows.eq_str ?_
    repeat wtm_at "m"
    have hdr : x.cps.toList.drop i = x.cps[i] :: x.cps.toList.drop (i + 1) := drop_at (by simpa using hx1)
    rw [hdr] at hsc
    refine r_ite (fun h1 => ?_) fun h1 => ?_
    · repeat wtm_at "m"
      rw [eq_sp] at h1
      rw [scan, if_pos (of_decide_eq_true h1)] at hsc
      refine ⟨(c, { r with b := r.b + 1, n := r.n + 1 }), _, St.vars (by assumption) ?_, ?_⟩
      · exact ⟨rfl, rfl, rfl, rfl, rfl, rfl, rfl, trivial⟩
      · refine ⟨fun b o e => by rw [upd_ne (ne_new (g2.get e) hI)]; exact g _ _ e, hc, Gc, hcI, upd_off c1 hcI, upd_self, hsc, by dsimp only at *; omega, by dsimp only at *; omega, by dsimp only at *; omega, by dsimp only at *; omega, fun j => ?_⟩
        have := hcc j; dsimp only at *; omega
    · repeat wtm_at "m"
      with_reducible refine' PyProof.Rows.eq_str ?_
      repeat wtm_at "m"
      refine r_ite (fun h2 => ?_) fun h2 => ?_
      · dsimp only at c1 hc hcI hcl' Gc hb hn hnt hcc hsc
        have c1' : upd σ' I (sitO x (i + 1)) c = some (.list (r.count.map .int)) := upd_off c1 hcI
        have I1' : upd σ' I (sitO x (i + 1)) I = some (sitO x (i + 1)) := upd_self
        have gI : Grow σ₁ (upd σ' I (sitO x (i + 1))) := fun b o e => by rw [upd_ne (ne_new (g2.get e) hI)]; exact g _ _ e
        generalize upd σ' I (sitO x (i + 1)) = σI at *
        rw [eq_sp] at h1
        rw [eq_tab] at h2
        rw [scan, if_neg (of_decide_eq_false h1), if_pos (of_decide_eq_true h2)] at hsc
        repeat wtm_at "m"
        with_reducible refine' PyProof.Rows.ge_int ?_
        repeat wtm_at "m"
        refine r_ite (fun h3 => ?_) fun h3 => ?_
        · have hlb : r.count.length ≤ r.b := by rw [List.length_map] at h3; have := of_decide_eq_true h3; omega
          repeat wtm_at "m"
          refine r_newList ‹St _ _ _ _ _ _› (Nat.le_of_ble_eq_true rfl) ?_
          intro z1 s₅ σ₅ hz1 Gz1 g5 z5 S5
          have c5 := g5.get c1'
          repeat wtm_at "m"
          rw [List.length_map]
          refine r_mulOne ‹St _ _ _ _ _ _› z5 (by omega) (by omega) ?_
          intro z2 s₆ σ₆ hz2 Gz2 g6 z6 S6
          have c6 := g6.get c5
          repeat wtm_at "m"
          refine r_cat ‹St _ _ _ _ _ _› c6 z6 (by rw [List.length_map, List.length_replicate]; omega) ?_
          intro c7 s₇ σ₇ hc7 Gc7 g7 c7' S7
          have ec : List.map AV.int r.count ++ List.replicate (((r.b : Int) - r.count.length + 1).toNat) (absv (.int 0 0)) = (r.count ++ List.replicate (r.b - r.count.length + 1) 0).map .int := by
            rw [List.map_append, List.map_replicate, tns hlb]; rfl
          have c8 : σ₇ c7 = some (.list ((r.count ++ List.replicate (r.b - r.count.length + 1) 0).map .int)) := by rw [← ec]; exact c7'
          have g17 : Grow σ₁ σ₇ := ((gI.trans g5).trans g6).trans g7
          have hc71 : σ₁ c7 = none := by
            cases e : σ₁ c7 with
            | none => rfl
            | some o => have := ((gI.trans g5).trans g6).get e; rw [hc7] at this; cases this
          have hc7I : c7 ≠ I := Ne.symm (ne_new ((g5.trans g6).get I1') hc7)
          have hl8 : (r.count ++ List.replicate (r.b - r.count.length + 1) 0).length = r.b + 1 := by rw [List.length_append, List.length_replicate]; omega
          have hbump : bump r.count r.b = (r.count ++ List.replicate (r.b - r.count.length + 1) 0).set r.b ((r.count ++ List.replicate (r.b - r.count.length + 1) 0).getD r.b 0 + 1) := by unfold bump; rw [if_pos hlb]
          have hcc8 : ∀ j, 0 ≤ (r.count ++ List.replicate (r.b - r.count.length + 1) 0).getD j 0 ∧ (r.count ++ List.replicate (r.b - r.count.length + 1) 0).getD j 0 ≤ (i : Int) := fun j => by
            rw [getD_cat0]; exact hcc j
          generalize r.count ++ List.replicate (r.b - r.count.length + 1) 0 = cnt at *
          repeat wtm_at "m"
          ((with_reducible refine' wpAny_Assign_Subscript (hs := ?mu124) ?_); (case mu124 => exact rfl))
          repeat wtm_at "m"
          refine r_setItem ‹St _ _ _ _ _ _› c8 Gc7 (by omega) (by rw [List.length_map]; omega) (by rw [List.length_map]; omega) ?_
          intro s₈ S8
          repeat wtm_at "m"
          have c9 : List.set (List.map AV.int cnt) (Int.toNat r.b) (absv (.int (cnt.getD (Int.toNat r.b) 0 + 1) 0)) = (cnt.set r.b (cnt.getD r.b 0 + 1)).map .int := by
            rw [Int.toNat_natCast, List.map_set]; rfl
          refine ⟨(c7, ⟨bump r.count r.b, 0, r.n + 1, r.nt + 1⟩), _, St.vars (by assumption) ?_, ?_⟩
          · exact ⟨rfl, rfl, rfl, rfl, rfl, rfl, rfl, trivial⟩
          · refine ⟨fun b o e => ?_, hc71, Gc7, hc7I, ?_, ?_, hsc, Nat.zero_le _, by dsimp only; omega, by dsimp only; omega, ?_, ?_⟩
            · rw [upd_ne (ne_new e hc71)]; exact g17 _ _ e
            · rw [hbump, ← c9]; exact upd_self
            · rw [upd_ne (Ne.symm hc7I)]; exact g7.get ((g5.trans g6).get I1')
            · dsimp only; rw [hbump, List.length_set]; omega
            · intro j
              dsimp only
              rw [hbump]
              have := bump_bound (b := r.b) hcc8 j
              omega
        · have hlb : ¬ r.count.length ≤ r.b := by rw [List.length_map] at h3; have := of_decide_eq_false h3; omega
          repeat wtm_at "m"
          ((with_reducible refine' wpAny_Assign_Subscript (hs := ?mu125) ?_); (case mu125 => exact rfl))
          repeat wtm_at "m"
          refine r_setItem ‹St _ _ _ _ _ _› c1' Gc (by omega) (by rw [List.length_map]; omega) (by rw [List.length_map]; omega) ?_
          intro s₈ S8
          repeat wtm_at "m"
          have c9 : List.set (List.map AV.int r.count) (Int.toNat r.b) (absv (.int (r.count.getD (Int.toNat r.b) 0 + 1) 0)) = (r.count.set r.b (r.count.getD r.b 0 + 1)).map .int := by
            rw [Int.toNat_natCast, List.map_set]; rfl
          have hbump : bump r.count r.b = r.count.set r.b (r.count.getD r.b 0 + 1) := by unfold bump; rw [if_neg hlb]
          refine ⟨(c, ⟨bump r.count r.b, 0, r.n + 1, r.nt + 1⟩), _, St.vars (by assumption) ?_, ?_⟩
          · exact ⟨rfl, rfl, rfl, rfl, rfl, rfl, rfl, trivial⟩
          · refine ⟨fun b o e => ?_, hc, Gc, hcI, ?_, ?_, hsc, Nat.zero_le _, by dsimp only; omega, by dsimp only; omega, ?_, ?_⟩
            · rw [upd_ne (ne_new e hc)]; exact gI _ _ e
            · rw [hbump, ← c9]; exact upd_self
            · rw [upd_ne (Ne.symm hcI)]; exact I1'
            · dsimp only; rw [hbump, List.length_set]; omega
            · intro j
              dsimp only
              rw [hbump]
              have := bump_bound (b := r.b) hcc j
              omega
      · repeat wtm_at "m"
        refine wpAny_Break ?_
        rw [eq_sp] at h1
        rw [eq_tab] at h2
        rw [scan, if_neg (of_decide_eq_false h1), if_neg (of_decide_eq_false h2)] at hsc
        dsimp only at c1 hc hcI hcl'
        repeat wtm_at "m leave"
        refine ⟨c, _, St.vars (by assumption) ?_, ?_, ?_, ?_, ?_⟩
        · rw [← hsc]; exact ⟨rfl, rfl, rfl, rfl, rfl, rfl, rfl, trivial⟩
        · exact fun b o e => by rw [upd_ne (ne_new (g2.get e) hI)]; exact g _ _ e
        · rw [← hsc]; exact upd_off c1 hcI
        · exact Ne.symm (ne_new (g1.get upd_self) hc)
        · rw [← hsc]; exact Nat.le_trans hcl' (by omega)
  · rintro ⟨c, r⟩ σ' s' S Hpat2
    refine and9 Hpat2 fun g hc Gc hcI c1 I1 hsc hb z2x0r => ?_
    refine and4 z2x0r fun hn hnt hcl' hcc => ?_
    refine r_endStr S hh I1 GI (Nat.le_refl _) ?_
    intro s S
    have er : r = scan x.cps.toList ⟨[], 0, 0, 0⟩ := by
      rw [← hsc]
      have : x.cps.toList.drop x.cps.size = [] := List.drop_of_length_le (by simp)
      rw [this]; rfl
    dsimp only at S c1 hc hcI hcl'
    rw [er] at S c1 hcl'
    refine ⟨rfl, c, _, S, ?_, ?_, ?_, by omega⟩
    · intro b o e
      rw [rem_ne (ne_new (g2.get e) hI)]; exact g _ _ e
    · rw [rem_ne hcI]; exact c1
    · exact Ne.symm (ne_new (g1.get upd_self) hc)
  · rintro s' Hpat3
    refine ex2 Hpat3 fun c σ' z3x0r => ?_
    refine and5 z3x0r fun S5 g5 c5 hcd hlen => ?_
    have a5 := g5.get (g1.get (upd_off (ao := .ns (0 + 1) (put [] "raw" (absv (.str x t)))) ha nad))
    repeat wtm_at "m"
    refine r_tupleOf ‹St _ _ _ _ _ _› (upd_off (upd_off c5 hcd) hcd) (by simp; omega) ?_
    intro tC s₆ σ₆ htC GtC g6 c6 S6
    repeat wtm_at "m"
    refine r_newTup ‹St _ _ _ _ _ _› (Nat.le_of_ble_eq_true rfl) ?_
    intro tN s₇ σ₇ htN GtN g7 n7 S7
    have c7 := g7.get (g6.get (upd_off (upd_off c5 hcd) hcd))
    repeat wtm_at "m"
    with_reducible refine' PyProof.Rows.le_int ?_
    repeat wtm_at "m"
    refine h _ _ ?_ ?_ (S0.back (by assumption))
    · intro b o nb e
      have e1 : upd σ d (.ns (0 + 1) (put [] "raw" (absv (.str x t)))) b = some o := by rw [upd_ne nb.1]; exact e
      have e2 := g5.get (g1.get e1)
      rw [upd_ne nb.1, upd_ne nb.1]
      refine g7.get (g6.get ?_)
      rw [upd_ne nb.1, upd_ne nb.1]
      exact e2
    · have d6 := g6.get (upd_self (σ := upd σ' d (.ns (0 + 1 + 1) (put (put [] "raw" (absv (.str x t))) "n" (absv (.int ((scan x.cps.toList ⟨[], 0, 0, 0⟩).n) 0))))) (a := d) (o := .ns (0 + 1 + 1 + 1) (put (put (put [] "raw" (absv (.str x t))) "n" (absv (.int ((scan x.cps.toList ⟨[], 0, 0, 0⟩).n) 0))) "nt" (absv (.int ((scan x.cps.toList ⟨[], 0, 0, 0⟩).nt) 0)))))
      have c6' := g7.get c6
      have ntC : tC ≠ d := fun q => by rw [q, upd_self] at htC; cases htC
      have ntN : tN ≠ d := Ne.symm (ne_new d6 htN)
      refine ⟨d, 5, tN, tC, upd_off (upd_off (g7.get (g6.get (upd_off (upd_off a5 nad) nad))) nad) nad, ?_, upd_off (upd_off n7 ntN) ntN, upd_off (upd_off c6' ntC) ntC⟩
      rw [upd_self]
      have e : decide (((List.map AV.int (scan x.cps.toList ⟨[], 0, 0, 0⟩).count).length : Int) ≤ 1) = decide ((wsOf x).count.length ≤ 1) := by
        rw [List.length_map]
        show decide (((scan x.cps.toList ⟨[], 0, 0, 0⟩).count.length : Int) ≤ 1) = decide ((scan x.cps.toList ⟨[], 0, 0, 0⟩).count.length ≤ 1)
        rw [Bool.eq_iff_iff]; simp only [decide_eq_true_eq]; omega
      rw [e]
      rfl
end
section
noncomputable def colStep (size : Int) (c : Int) (ch : Nat) : Int := if (⟨#[ch]⟩ : Str) == " " then c + 1 else (c.fdiv size + 1) * size
noncomputable def colAt (size : Int) (x : List Nat) : Int := x.foldl (colStep size) 0
noncomputable def colsOf (lead : Str) : List Int := (List.range 7).map fun i => colAt (1 + (i : Nat)) lead.cps.toList
theorem colStep_bound {size c : Int} {ch : Nat} (h1 : 1 ≤ size) (h7 : size ≤ 7) (hc : 0 ≤ c) : 0 ≤ colStep size c ch ∧ colStep size c ch ≤ c + 7 := by
  unfold colStep
  rw [Int.fdiv_eq_ediv_of_nonneg _ (by omega)]
  split
  · omega
  · have h := Int.mul_ediv_add_emod c size
    have m1 := Int.emod_nonneg c (show size ≠ 0 by omega)
    have q0 : 0 ≤ c / size := Int.ediv_nonneg hc (by omega)
    have e : (c / size + 1) * size = size * (c / size) + size := by rw [Int.add_mul, Int.mul_comm]; omega
    have e2 : 0 ≤ size * (c / size) := Int.mul_nonneg (by omega) q0
    omega
theorem colAt_bound {size : Int} (h1 : 1 ≤ size) (h7 : size ≤ 7) (x : List Nat) : 0 ≤ colAt size x ∧ colAt size x ≤ 7 * x.length := by
  have : ∀ (x : List Nat) (c : Int), 0 ≤ c → 0 ≤ x.foldl (colStep size) c ∧ x.foldl (colStep size) c ≤ c + 7 * x.length := by
    intro x
    induction x with
    | nil => intro c hc; simp; exact hc
    | cons a r ih =>
      intro c hc
      have b := colStep_bound (ch := a) h1 h7 hc
      have i := ih (colStep size c a) b.1
      simp only [List.foldl_cons, List.length_cons]
      omega
  have := this x 0 (by omega)
  unfold colAt
  omega
theorem colAt_take {size : Int} {x : List Nat} {i c : Nat} (h : x[i]? = some c) : colAt size (x.take (i + 1)) = colStep size (colAt size (x.take i)) c := by
  unfold colAt
  rw [List.take_add_one, h]
  simp

variable {w : World} {A : Around} {E : Value → Shared → Prop} {s z : Shared} {mg mb : Str → Option Value} {G : Addr → Option (Obj × Bool)} {env : Env} {ε : Vars} {σ : Sto}
theorem columns {lead : Str} {t : Tok} {Q : Value → Shared → Prop} (W : Wd (kk w.params) mg mb z.heap) (S0 : St z G env ε σ s) (hh : A.handled = none) (hdp : A.depth + 5 < recursionLimit)
   (hlen : lead.cps.size ≤ 1000)
   (h : ∀ a s' σ', Grow σ σ' → σ' a = some (.list ((colsOf lead).map .int)) → St z G env ε σ' s' → Q (.ref a) s') :
   wpAny (model PySem.Challenge.pw_pe0273_01 w) A (call (.ref 330) [.str lead t]) Q E s := by
  refine enterC (binds := [("lead", .str lead t)]) W S0 (by first | exact room0 hdp | omega) (by exact rfl) (by k_is) rfl rfl rfl rfl (fun L => by exact rfl) (by exact rfl) (by exact rfl) ?_
  intro L s₁ env' _ S₁
  repeat wtm_at "m"
  refine r_newList ‹St _ _ _ _ _ _› (by decide) ?_
  intro l s₂ σ₀ hl Gl g1 l1 S2
  repeat wtm_at "m"
  refine r_range2 ‹St _ _ _ _ _ _› ?_
  intro r s₃ σ₂ hr Gr g2 r2 S3
  refine r_iterRange S3 r2 (by omega) (by omega) (by omega) (by omega) ?_
  intro I s₄ σ₁ hI GI g3 I3 S4
  refine r_loop (D := Unit) 7 (fun i _ => [("lead", .str lead), ("columns", .ref l)]) (fun i _ σ' => But [l, I] σ₁ σ' ∧ σ' l = some (.list (((List.range i).map fun i => colAt (1 + (i : Nat)) lead.cps.toList).map .int)) ∧ σ' I = some (rngO (1 + i) (7 - i))) () (S4.vars ⟨rfl, rfl, trivial⟩) ⟨?_, ?_, I3⟩ ?_ ?_
  · exact But.refl
  · exact (g2.trans g3).get l1
  · rintro i - σ s hi S Hpat0
    refine and3 Hpat0 fun g hl' hI' => ?_
    refine r_nextRange S hI' GI (by omega) ?_
    intro t s S
    refine ⟨_, rfl, wpAny_pure ?_⟩
    repeat wtm_at "m"
    refine r_iterStr ‹St _ _ _ _ _ _› ?_
    intro I2 s₅ σ₃ hI2 GI2 g4 I4 S5
    have hne : l ≠ I := ne_kind hl' hI' (by intro e; cases e)
    have hne2 : l ≠ I2 := ne_new (upd_off hl' hne) hI2
    have hne3 : I ≠ I2 := ne_new upd_self hI2
    refine r_loop (D := Unit) lead.cps.size (fun j _ => [("lead", .str lead), ("columns", .ref l), ("size", .int (1 + (i : Nat))), ("column", .int (colAt (1 + (i : Nat)) (lead.cps.toList.take j)))])
      (fun j _ σ' => But [I2] σ₃ σ' ∧ σ' I2 = some (sitO lead j)) () (S5.vars ⟨rfl, rfl, rfl, rfl, trivial⟩) ⟨But.refl, I4⟩ ?_ ?_
    · rintro j - σ s hj S Hpat1
      refine and2 Hpat1 fun b hI2' => ?_
      have hc : lead.cps[j]? = some lead.cps[j] := by simp [hj]
      refine r_nextStr S hI2' GI2 hc ?_
      intro t s S
      refine ⟨_, rfl, wpAny_pure ?_⟩
      have bd := colAt_bound (size := 1 + (i : Nat)) (by omega) (by omega) (lead.cps.toList.take j)
      have bl : (lead.cps.toList.take j).length ≤ 1000 := by simp; omega
      repeat wtm_at "m"
      with_reducible refine' wpAny_IfExp ?_
      repeat wtm_at "m"
      with_reducible refine' PyProof.Rows.eq_str ?_
      repeat wtm_at "m"
      have hcl : lead.cps.toList[j]? = some lead.cps[j] := by simpa using hc
      refine r_ite (fun hs => ?_) fun hs => ?_
      · repeat wtm_at "m"
        rw [colAt_take hcl, colStep, if_pos hs]
        exact ⟨(), _, St.vars ‹_› ⟨rfl, rfl, rfl, rfl, trivial⟩, b.trans (But.upd (by simp)), upd_self⟩
      · repeat wtm_at "m"
        ((with_reducible refine' r_fdiv ‹St _ _ _ _ _ _› ?lu66 ?mu66 ?nu66 ?_); (case lu66 => omega); (case mu66 => omega); (case nu66 => omega); intro _ _ _)
        repeat wtm_at "m"
        ((with_reducible refine' r_mul ‹St _ _ _ _ _ _› ?mu67 ?_); (case mu67 => exact mul_ok (by omega) (by omega)); intro _ _ _)
        repeat wtm_at "m"
        rw [colAt_take hcl, colStep, if_neg (by rw [hs]; decide)]
        exact ⟨(), _, St.vars ‹_› ⟨rfl, rfl, rfl, rfl, trivial⟩, b.trans (But.upd (by simp)), upd_self⟩
    · rintro - σ s S Hpat2
      refine and2 Hpat2 fun b hI2' => ?_
      refine r_endStr S hh hI2' GI2 (Nat.le_refl _) ?_
      intro s S
      refine ⟨rfl, ?_⟩
      have htk : List.take lead.cps.size lead.cps.toList = lead.cps.toList := List.take_of_length_le (by simp)
      rw [htk] at S
      have b' := (b.trans (But.rem (.head _))).drop g4 hI2
      repeat wtm_at "m"
      have er : rngO (1 + ((i + 1 : Nat) : Int)) (7 - ((i + 1 : Nat) : Int)) = rngO (1 + i + 1) (7 - i - 1) := by rw [show (1 + ((i + 1 : Nat) : Int)) = 1 + i + 1 by omega, show (7 - ((i + 1 : Nat) : Int)) = 7 - i - 1 by omega]
      refine ⟨(), _, St.vars (by assumption) ?_, ?_, ?_, ?_⟩
      · exact ⟨rfl, rfl, trivial⟩
      · exact ((g.trans (But.upd (l := I) (by simp))).trans (b'.mono (by simp))).trans (But.upd (l := l) (by simp))
      · rw [upd_self, List.range_succ, List.map_append, List.map_append]; rfl
      · rw [er]; wtm_at "sto"
  · rintro - σ s S Hpat3
    refine and3 Hpat3 fun g hl' hI' => ?_
    refine r_endRange S hh hI' GI (by omega) ?_
    intro s S
    refine ⟨rfl, ?_⟩
    repeat wtm_at "m"
    refine h _ _ (rem σ I) ?_ ?_ ?_
    · exact ((((g.trans (But.rem (l := I) (by simp))).mono (by simp : ∀ b ∈ [l, I], b ∈ [I, l])).drop g3 hI).drop (g1.trans g2) hl).grow
    · exact rem_off hl' (ne_kind hl' hI' (by intro e; cases e))
    · exact S0.back ‹_›
end
section
noncomputable def belowB (x y : List Int) : Bool := (List.range 7).all fun k => !decide (y.getD k 0 ≤ x.getD k 0)
variable {w : World} {A : Around} {E : Value → Shared → Prop} {s z : Shared} {mg mb : Str → Option Value} {G : Addr → Option (Obj × Bool)} {env : Env} {ε : Vars} {σ : Sto}
theorem below {a b : Addr} {xs ys : List Int} {Q : Value → Shared → Prop} (W : Wd (kk w.params) mg mb z.heap) (S0 : St z G env ε σ s) (hh : A.handled = none) (hdp : A.depth + 5 < recursionLimit) (hu : A.units + 40 < cLine)
   (ha : σ a = some (.list (xs.map .int))) (hb : σ b = some (.list (ys.map .int))) (hx : xs.length = 7) (hy : ys.length = 7)
   (h : ∀ s' σ', Grow σ σ' → St z G env ε σ' s' → Q (.bool (belowB xs ys)) s') :
   wpAny (model PySem.Challenge.pw_pe0273_01 w) A (call (.ref 335) [.ref a, .ref b]) Q E s := by
  refine enterC (binds := [("here", .ref a), ("there", .ref b)]) W S0 (by first | exact room0 hdp | omega) (by exact rfl) (by k_is) rfl rfl rfl rfl (fun L => by exact rfl) (by exact rfl) (by exact rfl) ?_
  intro L s₁ env' C₁ S₁
  repeat wtm_at "m"
  refine r_ListComp (by with_unfolding_all rfl) (by exact rfl) (by decide) (by intro _; exact rfl) ?_
  repeat wtm_at "m"
  refine r_range1 ‹St _ _ _ _ _ _› ?_
  intro r s₂ σ₁ hr Gr g1 r1 S2
  refine r_iterRange S2 r1 (by omega) (by omega) (by omega) (by omega) ?_
  intro I s₃ σ₂ hI GI g2 I2 S3
  let p : Nat → Bool := fun k => decide (ys.getD k 0 ≤ xs.getD k 0)
  refine r_compK (Dt := Unit) (ε' := [("here", .ref a), ("there", .ref b)]) 7
    (fun i D _ σ' => But [D, I] σ₂ σ' ∧ σ' D = some (.list (((List.range i).filter p).map fun k : Nat => AV.int k)) ∧ σ' I = some (rngO (0 + i) (7 - i)))
    (fun D _ σ' => But [D, I] σ₂ σ' ∧ σ' D = some (.list (((List.range 7).filter p).map fun k : Nat => AV.int k)))
    () S3 (by decide) (by exact rfl) (by exact ⟨⟨rfl, rfl⟩, ⟨rfl, rfl⟩, trivial⟩) (by exact rfl) (by exact ⟨rfl, rfl, trivial⟩) (by intro C; exact ⟨rfl, rfl, trivial⟩) I2 self_rng ?_ ?_ ?_ ?_
  · intro D hD
    refine ⟨But.upd (by simp), upd_self, ?_⟩
    rw [upd_ne (ne_new I2 hD)]; exact I2
  · intro D C i d σ' s' N en hi hD hGD hGC S ⟨g, hl', hI'⟩
    have GI' := hidden_sto (h := s₃.heap) GI I2
    have a2 := g2.get (g1.get ha)
    have b2 := g2.get (g1.get hb)
    have aD : a ≠ D := ne_new a2 hD
    have bD : b ≠ D := ne_new b2 hD
    have aI : a ≠ I := ne_kind a2 I2 (by intro e; cases e)
    have bI : b ≠ I := ne_kind b2 I2 (by intro e; cases e)
    have DI : D ≠ I := Ne.symm (ne_new I2 hD)
    refine r_nextRange S hI' GI' (by omega) ?_
    intro t s S
    refine ⟨_, rfl, ?_⟩
    repeat wtm_at "m"
    refine r_tests1 ?_
    have er : rngO (0 + ((i + 1 : Nat) : Int)) (7 - ((i + 1 : Nat) : Int)) = rngO (0 + i + 1) (7 - i - 1) := by rw [show (0 + ((i + 1 : Nat) : Int)) = 0 + i + 1 by omega, show (7 - ((i + 1 : Nat) : Int)) = 7 - i - 1 by omega]
    repeat wtm_at "m"
    with_reducible refine' PyProof.Rows.ge_int ?_
    repeat wtm_at "m"
    have ei : (0 + (i : Int)).toNat = i := by omega
    rw [ei]
    rw [List.range_succ, List.filter_append]
    refine r_ite (fun hs => ?_) fun hs => ?_
    · have e1 : [i].filter p = [i] := by show List.filter p [i] = _; rw [List.filter_cons, if_pos hs]; rfl
      rw [e1]
      have hz : ((List.range i).filter p).length ≤ 7 := Nat.le_trans (List.length_filter_le _ _) (by simp; omega)
      repeat wtm_at "m"
      refine ⟨(), _, St.vars (by assumption) ?_, ?_, ?_, ?_⟩
      · exact ⟨rfl, rfl, trivial⟩
      · exact (g.trans (But.upd (l := I) (by simp))).trans (But.upd (l := D) (by simp))
      · rw [upd_self, List.map_append]
        show some (AO.list (_ ++ [AV.int (0 + (i : Int))])) = _
        rw [Int.zero_add]; rfl
      · rw [er]; wtm_at "sto"
    · have e1 : [i].filter p = [] := by show List.filter p [i] = _; rw [List.filter_cons, if_neg (by show ¬ (decide (ys.getD i 0 ≤ xs.getD i 0) = true); rw [hs]; decide)]; rfl
      rw [e1, List.append_nil]
      refine ⟨(), _, St.vars (by assumption) ?_, ?_, ?_, ?_⟩
      · exact ⟨rfl, rfl, trivial⟩
      · exact g.trans (But.upd (l := I) (by simp))
      · wtm_at "sto"
      · rw [er]; wtm_at "sto"
  · rintro D C d σ' s' N en hD hGD S Hpat0
    refine and3 Hpat0 fun g hl' hI' => ?_
    refine r_endRange S hh hI' (hidden_sto (h := s₃.heap) GI I2) (by omega) ?_
    intro s S
    refine ⟨rfl, (), _, S, g.trans (But.rem (l := I) (by simp)), ?_⟩
    rw [rem_ne (Ne.symm (ne_new I2 hD))]
    exact hl'
  · intro D d σ' s' hD hGD S ⟨g, hl'⟩
    unfold CompEnd
    dsimp only
    repeat wtm_at "m"
    refine r_newList ‹St _ _ _ _ _ _› (by decide) ?_
    intro b' s₄ σ₃ hb' Gb' g3 b3 S4
    refine r_eqNil S4 (by first | exact upt hu rfl | (simp only [units_deeper]; omega)) (g3.get hl') b3 ?_
    have eb : (((List.range 7).filter p).map fun k : Nat => AV.int k).isEmpty = belowB xs ys := by
      rw [Bool.eq_iff_iff]
      simp [belowB, p]
    rw [eb]
    repeat wtm_at "m leave"
    refine h _ σ₃ ?_ (S0.back S4)
    exact (((g.drop (Grow.refl.trans Grow.refl) hD).drop g2 hI).grow).trans g3 |> (g1.trans ·)
end
section
noncomputable def All2 {α β : Type} (P : α → β → Prop) : List α → List β → Prop
  | [], [] => True
  | a :: as, b :: bs => P a b ∧ All2 P as bs
  | _, _ => False
section
variable {α β : Type} {P P' : α → β → Prop}
theorem All2.length : ∀ {as : List α} {bs : List β}, All2 P as bs → as.length = bs.length
  | [], [], _ => rfl
  | _ :: _, _ :: _, h => by simp [All2.length h.2]
  | [], _ :: _, h => h.elim
  | _ :: _, [], h => h.elim
theorem All2.mono (k : ∀ a b, P a b → P' a b) : ∀ {as : List α} {bs : List β}, All2 P as bs → All2 P' as bs
  | [], [], _ => trivial
  | _ :: _, _ :: _, h => ⟨k _ _ h.1, All2.mono k h.2⟩
  | [], _ :: _, h => h.elim
  | _ :: _, [], h => h.elim
theorem All2.append : ∀ {as : List α} {bs : List β} {as' : List α} {bs' : List β}, All2 P as bs → All2 P as' bs' → All2 P (as ++ as') (bs ++ bs')
  | [], [], _, _, _, k => k
  | _ :: _, _ :: _, _, _, h, k => ⟨h.1, All2.append h.2 k⟩
  | [], _ :: _, _, _, h, _ => h.elim
  | _ :: _, [], _, _, h, _ => h.elim
theorem All2.one {a : α} {b : β} (h : P a b) : All2 P [a] [b] := ⟨h, trivial⟩
theorem All2.get : ∀ {as : List α} {bs : List β}, All2 P as bs → ∀ {i : Nat} {b : β}, bs[i]? = some b → ∃ a, as[i]? = some a ∧ P a b
  | [], [], _, i, b, e => by simp at e
  | a :: as, c :: bs, h, i, b, e => by
    cases i with
    | zero => simp at e; subst e; exact ⟨a, rfl, h.1⟩
    | succ i => simp at e ⊢; exact All2.get h.2 e
  | [], _ :: _, h, _, _, _ => h.elim
  | _ :: _, [], h, _, _, _ => h.elim
theorem All2.take : ∀ (n : Nat) {as : List α} {bs : List β}, All2 P as bs → All2 P (as.take n) (bs.take n)
  | 0, _, _, _ => trivial
  | n + 1, [], [], _ => trivial
  | n + 1, _ :: _, _ :: _, h => ⟨h.1, All2.take n h.2⟩
  | _ + 1, [], _ :: _, h => h.elim
  | _ + 1, _ :: _, [], h => h.elim
end
noncomputable def Keep (p : AO → Prop) (σ σ' : Sto) : Prop := ∀ a o, σ a = some o → p o → σ' a = some o
theorem Grow.keep {p : AO → Prop} {σ σ' : Sto} (g : Grow σ σ') : Keep p σ σ' := fun a o e _ => g a o e
theorem Keep.trans {p : AO → Prop} {a b c : Sto} (x : Keep p a b) (y : Keep p b c) : Keep p a c := fun d o e q => y d o (x d o e q) q
theorem Keep.upd {p : AO → Prop} {σ : Sto} {a : Addr} {o ao : AO} (e : σ a = some o) (n : ¬ p o) : Keep p σ (upd σ a ao) := fun b o' e' q => by
  rw [upd_ne (fun z => by subst z; rw [e] at e'; cases e'; exact n q)]; exact e'
theorem Keep.rem {p : AO → Prop} {σ : Sto} {a : Addr} {o : AO} (e : σ a = some o) (n : ¬ p o) : Keep p σ (rem σ a) := fun b o' e' q => by
  rw [rem_ne (fun z => by subst z; rw [e] at e'; cases e'; exact n q)]; exact e'
noncomputable def isT : AO → Prop
  | .tup _ => True
  | _ => False
section
variable {prog : Program} {w : World} {A : Around} {E : Value → Shared → Prop} {s : Shared} {K : Frag} {mg mb : Str → Option Value} {z : Shared} {G : Addr → Option (Obj × Bool)} {env : Env} {ε : Vars} {σ : Sto} {x : Str} {pos : Pos}
theorem depth_make {A : Around} {C : Addr} {vals : List Value} : (A.under (.builtin "type.__call__" ⟨.ref C :: vals, []⟩)).depth = A.depth + 1 := rfl
theorem units_make {A : Around} {C : Addr} {vals : List Value} : (A.under (.builtin "type.__call__" ⟨.ref C :: vals, []⟩)).units ≤ A.units + 10 := by
  rw [units_under_make]; omega
theorem handled_make {A : Around} {C : Addr} {vals : List Value} : (A.under (.builtin "type.__call__" ⟨.ref C :: vals, []⟩)).handled = A.handled := rfl
end
end
section
theorem G_of_hidden {G : Addr → Option (Obj × Bool)} {σ : Sto} {h : Heap} {b : Addr} (e : hidden G σ h b = none) : G b = none := by
  cases q : G b with
  | none => rfl
  | some p => rw [hidden_G q] at e; cases e
variable {w : World} {A : Around} {E : Value → Shared → Prop} {s z : Shared} {mg mb : Str → Option Value} {G : Addr → Option (Obj × Bool)} {env : Env} {ε : Vars} {σ : Sto}
theorem new_ws {x : Str} {t : Tok} {Q : Value → Shared → Prop} (W : Wd (kk w.params) mg mb z.heap) (S0 : St z G env ε σ s) (hh : A.handled = none) (hdp : A.depth + 20 < recursionLimit) (hu : A.units + 100 < cLine) (hx : x.cps.size ≤ 100)
   (h : ∀ a s' σ', Grow σ σ' → WsAt σ' a (wsOf x) → St z G env ε σ' s' → Q (.ref a) s') :
   wpAny (model PySem.Challenge.pw_pe0273_01 w) A (call (.ref 141) [.str x t]) Q E s := by
  refine r_make (fI := 96) W S0 (by k_is) (by k_is) (by k_is) ?_
  intro a d s' σ' ha hd' Ga Gd g a1 d1 S
  refine ws_init W S (by rw [handled_make]; exact hh) (by rw [depth_make]; omega) (by have := @units_make A 141 [.str x t]; omega) a1 d1 Gd hx ?_
  intro s'' σ'' b at' S'
  exact ⟨rfl, h a s'' σ'' (b.drop g hd').grow at' S'⟩
noncomputable def sizesW (x y : Ws) (n : Nat) : List Int := ((List.range n).map fun i : Nat => (1 + (i : Int))).filter fun ts => decide (level x ts ≠ level y ts)
noncomputable def witSizes (x y : Ws) : List Int := sizesW x y (imax (longest x) (longest y) + 1).toNat
noncomputable def TupsAt (σ : Sto) (ps : List Addr) (ts : List Int) : Prop := All2 (fun p t => ∃ u v : Int, σ p = some (.tup [.int t, .int u, .int v])) ps ts
theorem TupsAt.keep {σ σ' : Sto} {ps : List Addr} {ts : List Int} (h : TupsAt σ ps ts) (k : Keep isT σ σ') : TupsAt σ' ps ts := All2.mono (fun _ _ ⟨u, v, e⟩ => ⟨u, v, k _ _ e trivial⟩) h
theorem TupsAt.append {σ : Sto} {ps qs : List Addr} {ts us : List Int} (h : TupsAt σ ps ts) (k : TupsAt σ qs us) : TupsAt σ (ps ++ qs) (ts ++ us) := All2.append h k
theorem sizesW_succ {x y : Ws} {i : Nat} : sizesW x y (i + 1) = sizesW x y i ++ (if level x (1 + (i : Int)) = level y (1 + (i : Int)) then [] else [1 + (i : Int)]) := by
  unfold sizesW
  rw [List.range_succ, List.map_append, List.filter_append]
  congr 1
  simp only [List.map_cons, List.map_nil, List.filter_cons, List.filter_nil]
  split <;> split <;> simp_all
theorem witness {a b : Addr} {x y : Ws} {Q : Value → Shared → Prop} (W : Wd (kk w.params) mg mb z.heap) (S0 : St z G env ε σ s) (hh : A.handled = none) (hdp : A.depth + 10 < recursionLimit) (hu : A.units + 60 < cLine)
   (ha : WsAt σ a x) (hb : WsAt σ b y) (ox : x.Ok) (oy : y.Ok)
   (h : ∀ l ps s' σ', Grow σ σ' → G l = none → σ' l = some (.list (ps.map .ref)) → TupsAt σ' ps (witSizes x y) → St z G env ε σ' s' → Q (.ref l) s') :
   wpAny (model PySem.Challenge.pw_pe0273_01 w) A (call (.ref 124) [.ref a, .ref b]) Q E s := by
  refine ex4 (id ha) fun da na tNa tCa z0x0r => ?_
  refine and4 z0x0r fun a1 a2 a3 a4 => ?_
  refine ex4 (id hb) fun db nb tNb tCb z1x0r => ?_
  refine and4 z1x0r fun b1 b2 b3 b4 => ?_
  have hh' : ∀ e, (A.deeper e).handled = none := fun e => hh
  refine enterC (binds := [("self", .ref a), ("other", .ref b)]) W S0 (by first | exact room0 hdp | omega) (by exact rfl) (by k_is) rfl rfl rfl rfl (fun L => by exact rfl) (by exact rfl) (by exact rfl) ?_
  intro L s₁ env' C₁ S₁
  have hh := hh' env'
  repeat wtm_at "m"
  refine longest_run W ‹St _ _ _ _ _ _› hh (by first | exact dpt hdp rfl | (simp only [depth_deeper]; omega)) (by first | exact upt hu rfl | (simp only [units_deeper]; omega)) ha (by have := ox.1; omega) ?_
  intro t s S
  repeat wtm_at "m"
  refine longest_run W ‹St _ _ _ _ _ _› hh (by first | exact dpt hdp rfl | (simp only [depth_deeper]; omega)) (by first | exact upt hu rfl | (simp only [units_deeper]; omega)) hb (by have := oy.1; omega) ?_
  intro t s S
  repeat wtm_at "m"
  ((with_reducible refine' r_max2 ‹St _ _ _ _ _ _› ?hu91 ?_); (case hu91 => with_reducible assumption); intro _ _ _)
  repeat wtm_at "m"
  have bx : -1 ≤ longest x ∧ longest x ≤ 500 ∧ 0 ≤ longest x := by unfold longest; have := ox.1; have := ox.2.2.1; have := ox.2.2.2.1; split <;> omega
  have bY : -1 ≤ longest y ∧ longest y ≤ 500 ∧ 0 ≤ longest y := by unfold longest; have := oy.1; have := oy.2.2.1; have := oy.2.2.2.1; split <;> omega
  have em : (if longest y > longest x then longest y else longest x) = imax (longest x) (longest y) := rfl
  have bm : 0 ≤ imax (longest x) (longest y) ∧ imax (longest x) (longest y) ≤ 500 := by unfold imax; split <;> omega
  refine r_newList ‹St _ _ _ _ _ _› (by decide) ?_
  intro l s₂ σ₁ hl Gl g1 l1 S2
  repeat wtm_at "m"
  refine r_range2 ‹St _ _ _ _ _ _› ?_
  intro rg s₃ σ₂ hr Gr g2 r2 S3
  rw [em] at r2
  refine r_iterRange S3 r2 (by omega) (by omega) (by omega) (by omega) ?_
  intro I s₄ σ₃ hI GI g3 I3 S4
  have en : (if (1 : Int) < imax (longest x) (longest y) + 1 + 1 then imax (longest x) (longest y) + 1 + 1 - 1 else 0) = (((imax (longest x) (longest y) + 1).toNat : Nat) : Int) := by split <;> omega
  rw [en] at I3
  have l3 := g3.get (g2.get l1)
  refine r_loop (D := List Addr) (imax (longest x) (longest y) + 1).toNat (fun i _ => [("self", .ref a), ("other", .ref b), ("a", .ref l)])
    (fun i ps σ' => But [l, I] σ₃ σ' ∧ σ' l = some (.list (ps.map .ref)) ∧ TupsAt σ' ps (sizesW x y i) ∧ σ' I = some (rngO (1 + i) (((imax (longest x) (longest y) + 1).toNat : Nat) - i))) [] (S4.vars ⟨rfl, rfl, rfl, trivial⟩) ⟨But.refl, l3, trivial, ?_⟩ ?_ ?_
  · rw [I3]; congr 1
  · rintro i ps σ' s hi S Hpat2
    refine and4 Hpat2 fun b' l' T I' => ?_
    have lI : l ≠ I := ne_kind l' I' (by intro e; cases e)
    refine r_nextRange S I' GI (by omega) ?_
    intro t s S
    refine ⟨_, rfl, wpAny_pure ?_⟩
    have b2' := b'.trans (But.upd (l := I) (ao := rngO (1 + (i : Int) + 1) (((imax (longest x) (longest y) + 1).toNat : Nat) - (i : Int) - 1)) (by simp : I ∈ [l, I]))
    have gg := (((b2'.mono (by simp : ∀ b ∈ [l, I], b ∈ [I, l])).drop g3 hI).drop (g1.trans g2) hl).grow
    have er : rngO (1 + ((i + 1 : Nat) : Int)) (((imax (longest x) (longest y) + 1).toNat : Nat) - ((i + 1 : Nat) : Int)) = rngO (1 + i + 1) (((imax (longest x) (longest y) + 1).toNat : Nat) - (i : Int) - 1) := by rw [show (1 + ((i + 1 : Nat) : Int)) = 1 + i + 1 by omega, show ((((imax (longest x) (longest y) + 1).toNat : Nat) : Int) - ((i + 1 : Nat) : Int)) = (((imax (longest x) (longest y) + 1).toNat : Nat) : Int) - i - 1 by omega]
    have l'' := upd_off (ao := rngO (1 + (i : Int) + 1) (((imax (longest x) (longest y) + 1).toNat : Nat) - (i : Int) - 1)) l' lI
    have I'' := upd_self (σ := σ') (a := I) (o := rngO (1 + (i : Int) + 1) (((imax (longest x) (longest y) + 1).toNat : Nat) - (i : Int) - 1))
    have T' := T.keep (Keep.upd (ao := rngO (1 + (i : Int) + 1) (((imax (longest x) (longest y) + 1).toNat : Nat) - (i : Int) - 1)) I' (fun q => q))
    generalize upd σ' I (rngO (1 + (i : Int) + 1) (((imax (longest x) (longest y) + 1).toNat : Nat) - (i : Int) - 1)) = σ₄ at *
    have a1' := gg.get a1
    have a2' := gg.get a2
    have b1' := gg.get b1
    have b2'' := gg.get b2
    repeat wtm_at "m"
    refine indent_level W ‹St _ _ _ _ _ _› hh (by first | exact dpt hdp rfl | (simp only [depth_deeper]; omega)) (by first | exact upt hu rfl | (simp only [units_deeper]; omega)) (ha.grow gg) (by have := ox.1; omega) ox.2.1 (by omega) (by omega) ?_
    intro t s σ₅ g5 S5
    have b1' := g5.get b1'
    have b2'' := g5.get b2''
    repeat wtm_at "m"
    refine indent_level W ‹St _ _ _ _ _ _› hh (by first | exact dpt hdp rfl | (simp only [depth_deeper]; omega)) (by first | exact upt hu rfl | (simp only [units_deeper]; omega)) (hb.grow (gg.trans g5)) (by have := oy.1; omega) oy.2.1 (by omega) (by omega) ?_
    intro t s σ₆ g6 S6
    have g46 := g5.trans g6
    have l6 := g46.get l''
    have a1' := g46.get a1'
    have a2' := g46.get a2'
    with_reducible refine' PyProof.Rows.ne_int ?_
    repeat wtm_at "m"
    refine r_ite (fun hs3 => ?_) fun hs3 => ?_
    · repeat wtm_at "m"
      refine indent_level W ‹St _ _ _ _ _ _› hh (by first | exact dpt hdp rfl | (simp only [depth_deeper]; omega)) (by first | exact upt hu rfl | (simp only [units_deeper]; omega)) (ha.grow (gg.trans g46)) (by have := ox.1; omega) ox.2.1 (by omega) (by omega) ?_
      intro t s σ₇ g7 S7
      have b1' := g7.get (g6.get b1')
      have b2'' := g7.get (g6.get b2'')
      repeat wtm_at "m"
      refine indent_level W ‹St _ _ _ _ _ _› hh (by first | exact dpt hdp rfl | (simp only [depth_deeper]; omega)) (by first | exact upt hu rfl | (simp only [units_deeper]; omega)) (hb.grow ((gg.trans g46).trans g7)) (by have := oy.1; omega) oy.2.1 (by omega) (by omega) ?_
      intro t s σ₈ g8 S8
      repeat wtm_at "m"
      refine r_newTup ‹St _ _ _ _ _ _› (Nat.le_of_ble_eq_true rfl) ?_
      intro tp s σ₉ htp Gtp g9 tp9 S9
      have g49 := ((g46.trans g7).trans g8).trans g9
      have l9 := g49.get l''
      have hz : ps.length ≤ 1000 := by
        rw [T.length]
        unfold sizesW
        refine Nat.le_trans (List.length_filter_le _ _) ?_
        simp; omega
      repeat wtm_at "m"
      refine ⟨ps ++ [tp], _, St.vars (by assumption) ⟨rfl, rfl, rfl, trivial⟩, ?_, ?_, ?_, ?_⟩
      · exact (b2'.trans g49.but).trans (But.upd (by simp))
      · rw [upd_self, List.map_append]; rfl
      · rw [sizesW_succ, if_neg (by simpa using hs3)]
        refine ((T'.keep g49.keep).append (show TupsAt _ [tp] [1 + (i : Int)] from ⟨⟨_, _, tp9⟩, trivial⟩)).keep (Keep.upd l9 fun q => q)
      · rw [er]; exact upd_off (g49.get I'') (Ne.symm lI)
    · repeat wtm_at "m"
      refine ⟨ps, _, St.vars (by assumption) ⟨rfl, rfl, rfl, trivial⟩, b2'.trans g46.but, l6, ?_, by rw [er]; exact g46.get I''⟩
      rw [sizesW_succ, if_pos (by simpa using hs3), List.append_nil]
      exact T'.keep g46.keep
  · rintro ps σ' s S Hpat3
    refine and4 Hpat3 fun b' l' T I' => ?_
    have lI : l ≠ I := ne_kind l' I' (by intro e; cases e)
    refine r_endRange S hh I' GI (by omega) ?_
    intro s S
    refine ⟨rfl, ?_⟩
    repeat wtm_at "m"
    refine h l ps _ (rem σ' I) ?_ (G_of_hidden Gl) (rem_off l' lI) ?_ (S0.back (by assumption))
    · exact ((((b'.trans (But.rem (by simp : I ∈ [l, I]))).mono (by simp : ∀ b ∈ [l, I], b ∈ [I, l])).drop g3 hI).drop (g1.trans g2) hl).grow
    · exact T.keep (Keep.rem I' fun q => q)
end
section
theorem slot_pat_search : Slot "re.Pattern" "search" "re.Pattern.search" :=
  .of (owner := "re.Pattern") (n := "search") (by rw [typeLookup_type, builtinLookup_eq_fast]; kernel_rfl) (by decide +kernel) (by decide +kernel) (by decide +kernel)
    (by first | exact .inl (by decide +kernel) | exact .inr (by decide +kernel)) (by rw [isSubtype_type]; kernel_rfl)
theorem type_pat_search : typeOf (.builtin "re.Pattern.search") = pure (.type "method_descriptor") := by show builtinType _ = _; rw [builtinType_eq_fast]; kernel_rfl
theorem plain_pat : PlainAttrs "re.Pattern" :=
  ⟨⟨"object.__getattribute__", by rw [typeLookup_type, builtinLookup_eq_fast]; kernel_rfl, by decide +kernel⟩, by rw [typeLookup_type, builtinLookup_eq_fast]; kernel_rfl⟩
theorem entry_pat_search : entryFor table "re.Pattern.search" = some Builtin.«re.Pattern.search» := entryFor_of_tree (by kernel_rfl)
theorem args_pat_search (a b : Value) : argsOk "re.Pattern.search" ⟨[a, b], []⟩ := by unfold argsOk; kernel_rfl
section
variable {prog : Program} {w : World} {A : Around} {E : Value → Shared → Prop} {s : Shared} {K : Frag} {mg mb : Str → Option Value} {z : Shared} {G : Addr → Option (Obj × Bool)} {env : Env} {ε : Vars} {σ : Sto} {x : Str} {pos : Pos}
noncomputable def patIn (K : Frag) (p : Addr) : Bool := match K.lookup p with
  | some ⟨.type "re.Pattern", none, _, _⟩ => true
  | _ => false
theorem pat_of {p : Addr} (h : patIn K p = true) : ∃ o, K.lookup p = some o ∧ o.cls = .type "re.Pattern" ∧ o.dict = none := by
  unfold patIn at h
  split at h
  · rename_i d sl e; exact ⟨_, e, rfl, rfl⟩
  · cases h
theorem r_patMethod {p : Addr} {pl : Sem Bool} {Q : Value × List Value → Shared → Prop} (W : Wd K mg mb z.heap) (S : St z G env ε σ s) (hp : patIn K p = true) (h : Q (.builtin "re.Pattern.search", [.ref p]) s) :
    wpAny (model prog w) A (getMethod (.ref p) "search" pl) Q E s := by
  refine ex1 (pat_of hp) fun o z0x0r => ?_
  refine and3 z0x0r fun ho hc hd => ?_
  have ho' := (W.X.keeps S.base) _ _ ho
  exact getMethod_builtin (T := "re.Pattern") ⟨o, ho', hc⟩ plain_pat slot_pat_search type_pat_search (fun a e => by cases e; exact ⟨o, ho', hd⟩) h
theorem r_search {p : Addr} {v : Str} {t : Tok} {Q : Value → Shared → Prop} (W : Wd K mg mb z.heap) (S : St z G env ε σ s) (hp : patIn K p = true)
    (hc : peek K ⟨prog, w.params⟩ (Builtin.«re.Pattern.search» ⟨[.ref p, .str v t], []⟩) = some (.done (.ret .none))) (h : Q .none s) :
    wpAny (model prog w) A (call (.builtin "re.Pattern.search") [.ref p, .str v t]) Q E s := by
  refine ex1 (pat_of hp) fun o z1x0r => ?_
  refine and3 z1x0r fun ho hcl hd => ?_
  have ho' := (W.X.keeps S.base) _ _ ho
  exact wpAny_call_entry slot_pat_search (s := s) ⟨o, ho', hcl⟩ entry_pat_search ((Looks.of_peek (M := model prog w) (W.X.keeps S.base) hc).here ⟨_, rfl, h⟩) (args_pat_search _ _)
theorem r_typeStr {v : Str} {t : Tok} {Q : Value → Shared → Prop} (h : Q (.type "str") s) : wpAny (model prog w) A (call (.type "type") [.str v t]) Q E s :=
  call_type_of (typeIs_str _ _ _) (by decide +kernel) h
theorem r_isType {a : String} {Q : Value → Shared → Prop} (h : Q (.bool true) s) : wpAny (model prog w) A (compareOp .Is (.type a) (.type a)) Q E s := wpAny_is_self (by rfl) h
theorem r_noneTruth {M : Model} {Q : Bool → Shared → Prop} (h : Q false s) : wpAny M A (truthy .none) Q E s := fun _ _ _ => h
end
end
section
variable {w : World} {A : Around} {E : Value → Shared → Prop} {s z : Shared} {mg mb : Str → Option Value} {G : Addr → Option (Obj × Bool)} {env : Env} {ε : Vars} {σ : Sto}
noncomputable def Clean (w : World) (fl : Bool) (v : Str) : Prop := ∀ t, peek (kk w.params) ⟨PySem.Challenge.pw_pe0273_01, w.params⟩ (Builtin.«re.Pattern.search» ⟨[.ref (if fl then 162 else 167), .str v t], []⟩) = some (.done (.ret .none))
theorem convert {a : Addr} {v : Str} {t : Tok} {fl : Bool} {Q : Value → Shared → Prop} (W : Wd (kk w.params) mg mb z.heap) (S0 : St z G env ε σ s) (hh : A.handled = none) (hdp : A.depth + 10 < recursionLimit) (hu : A.units + 60 < cLine) (hc : Clean w fl v)
   (h : ∀ t s', St z G env ε σ s' → Q (.str v t) s') :
   codeAny (model PySem.Challenge.pw_pe0273_01 w) A (.call (.ref 197) ⟨[.ref a, .str v t], [("name", .bool fl)]⟩) (CR Q E) s := by
  have hh' : ∀ e, (A.deeper e).handled = none := fun e => hh
  refine enterR (binds := [("self", .ref a), ("value", .str v t), ("name", .bool fl)]) W S0 (by first | exact room0 hdp | omega) (by exact rfl) (by k_is) rfl (by exact rfl) rfl rfl (fun L => by exact rfl) (by exact rfl) (by exact rfl) ?_
  intro L s₁ env' C₁ S₁
  have hh := hh' env'
  repeat wtm_at "m"
  with_reducible refine' r_typeStr ?_
  repeat wtm_at "m"
  with_reducible refine' r_isType ?_
  repeat wtm_at "m"
  refine r_ite (fun hs => ?_) fun hs => ?_
  · repeat wtm_at "m"
    with_reducible refine' wpAny_IfExp ?_
    repeat wtm_at "m"
    refine r_ite (fun hf => ?_) fun hf => ?_
    · subst hf
      repeat wtm_at "m"
      ((with_reducible refine' r_patMethod ‹Wd _ _ _ _› ‹St _ _ _ _ _ _› ?pu46 ?_); (case pu46 => exact rfl))
      repeat wtm_at "m"
      refine r_search W ‹St _ _ _ _ _ _› (by exact rfl) (hc _) ?_
      with_reducible refine' r_noneTruth ?_
      repeat wtm_at "m"
      refine r_ite (fun hs => ?_) fun hs => ?_
      · cases hs
      · repeat wtm_at "m"
        exact h _ _ (S0.back (by assumption))
    · subst hf
      repeat wtm_at "m"
      ((with_reducible refine' r_patMethod ‹Wd _ _ _ _› ‹St _ _ _ _ _ _› ?pu48 ?_); (case pu48 => exact rfl))
      repeat wtm_at "m"
      refine r_search W ‹St _ _ _ _ _ _› (by exact rfl) (hc _) ?_
      with_reducible refine' r_noneTruth ?_
      repeat wtm_at "m"
      refine r_ite (fun hs => ?_) fun hs => ?_
      · cases hs
      · repeat wtm_at "m"
        exact h _ _ (S0.back (by assumption))
  · cases hs
theorem clean_one : Clean w true "Via" := fun t => by kernel_rfl
end
section
section
variable {prog : Program} {w : World} {A : Around} {E : Value → Shared → Prop} {s : Shared} {K : Frag} {mg mb : Str → Option Value} {z : Shared} {G : Addr → Option (Obj × Bool)} {env : Env} {ε : Vars} {σ : Sto} {x : Str} {pos : Pos}
noncomputable def sliO : AO := .raw fun o => o = { cls := .type "slice", dict := none, data := .fields #[.none, .none, .none], slots := #[] }
theorem r_Slice {M : Model} {p : Pos} {Q : Value → Shared → Prop} (S : St z G env ε σ s) (h : ∀ a s' σ', σ a = none → G a = none → Grow σ σ' → σ' a = some sliO → St z G env ε σ' s' → Q (.ref a) s') :
    wpAny M A (eval (.Slice none none none p) env) Q E s := by
  refine wpAny_Slice ?_
  rw [evalPart_none]
  refine wpAny_pure (wpAny_pure (wpAny_pure ?_))
  exact h _ _ _ (S.fresh (Nat.le_refl _)) (S.freshG (Nat.le_refl _)) (Grow.upd (S.fresh (Nat.le_refl _))) upd_self (S.new ⟨rfl, rfl⟩ (Nat.le_refl _) (fun _ _ e => Heap.get?_push_of_some _ e) ⟨_, Heap.get?_push_size _ rfl, rfl⟩)
theorem isSlice_of {a : Addr} (S : St z G env ε σ s) (h : σ a = some sliO) : s.heap.IsSliceOf a .none .none .none := by
  refine ex1 (S.obj _ _ h) fun o z0x0r => ?_
  refine and2 z0x0r fun ho z0x2 => ?_
  subst z0x2
  exact ⟨_, ho, rfl, rfl⟩
theorem r_copy {value slice : Expr} {l sl : Addr} {vs : List AV} {Q : Value → Shared → Prop} (S : St z G env ε σ s) (hl : σ l = some (.list vs)) (hs : σ sl = some sliO) (hz : vs.length ≤ 100000)
    (h : ∀ a s' σ', σ a = none → G a = none → Grow σ σ' → σ' a = some (.list vs) → St z G env ε σ' s' → Q (.ref a) s')
    (hsub : subscripted slice false (.ref l) (.ref sl) = operate [.ref sl, .ref l] (getItem (.ref l) (.ref sl)) := by with_unfolding_all rfl) : wpAny (model prog w) A (subscriptTail value slice (.ref l) (.ref sl)) Q E s := by
  refine ex2 (S.obj _ _ hl) fun items n z1x0r => ?_
  refine and2 z1x0r fun ho r => ?_
  have hlen := r.length
  refine tail_any (isList_of ho).typeIs list_getitem_lookup (wpAny_getItem_list_slice (isList_of ho) (isSlice_of S hs) .none .none .none (by simp) ?_ (by rw [sizeLine_eq, List.size_toArray]; omega)) hsub
  rw [slicePick_all]
  exact h _ _ _ (S.fresh (Nat.le_refl _)) (S.freshG (Nat.le_refl _)) (Grow.upd (S.fresh (Nat.le_refl _))) upd_self (S.new ⟨rfl, rfl⟩ (Nat.le_refl _) (fun _ _ e => Heap.get?_push_of_some _ e) ⟨items, _, Heap.get?_push_size _ rfl, r⟩)
theorem r_setAll {l sl b : Addr} {vs us : List AV} {Q : Unit → Shared → Prop} (S : St z G env ε σ s) (hl : σ l = some (.list vs)) (hs : σ sl = some sliO) (hb : σ b = some (.list us)) (hG : G l = none) (hz : vs.length ≤ 10000) (hy : us.length ≤ 10000) (hne : l ≠ b)
    (h : ∀ s', St z G env ε (upd σ l (.list us)) s' → Q () s') : wpAny (model prog w) A (setItem (.ref l) (.ref sl) (.ref b)) Q E s := by
  refine ex2 (S.obj _ _ hl) fun items n z2x0r => ?_
  refine and2 z2x0r fun ho r => ?_
  refine ex2 (S.obj _ _ hb) fun its m z3x0r => ?_
  refine and2 z3x0r fun hp q => ?_
  have hlen := r.length
  have hlen2 := q.length
  refine ex1 (isSlice_of S hs) fun os z4x0r => ?_
  refine and3 z4x0r fun hos hcs hds => ?_
  have hTs : s.TypeIs (.ref sl) "slice" := ⟨os, hos, hcs⟩
  have hT := (isList_of ho).typeIs
  unfold setItem
  refine wpAny_holding ?_
  refine wpAny_bind (wpAny_sequenceKey hT (by decide) ?_)
  refine wpAny_bind (wpAny_callSpecial?_slot (name := Str.ofString "__setitem__") hT slot_list_setitem
    (wpAny_call_entry slot_list_setitem hT entry_list_setitem ?_ (args_list_setitem _ _ _)))
  show wpAny _ _ (Builtin.List.listSubscript? (.ref sl) >>= _) _ _ s
  refine wpAny_bind ?_
  unfold Builtin.List.listSubscript?
  refine wpAny_bind (wpAny_specialOf hTs slice_no_index ?_)
  simp only [Option.isNone_none, if_true]
  refine wpAny_pure ?_
  show wpAny _ _ (typeOf (.ref sl) >>= _) _ _ s
  refine wpAny_bind (wpAny_typeOf hTs ?_)
  rw [if_neg (by decide)]
  rw [listSliceParts_eq]
  refine wpAny_bind (wpAny_bind (wpAny_field hos hds (x := .none) rfl (wpAny_bind (wpAny_listPart .none ?_))))
  rw [if_neg (show ¬ ((rawPart none == rawInt 0) = true) from Bool.false_ne_true)]
  refine wpAny_bind (wpAny_field hos hds (x := .none) rfl (wpAny_bind (wpAny_listPart .none ?_)))
  refine wpAny_bind (wpAny_field hos hds (x := .none) rfl (wpAny_bind (wpAny_listPart .none (wpAny_pure ?_))))
  dsimp only
  have hsr : Builtin.List.listSameRef (.ref l) (.ref b) = false := by
    unfold Builtin.List.listSameRef
    simpa using hne
  rw [hsr, if_neg Bool.false_ne_true]
  refine wpAny_bind (m := Builtin.List.listAllItems (.ref b) _) ?_
  unfold Builtin.List.listAllItems
  refine wpAny_bind (wpAny_typeOf (isList_of hp).typeIs ?_)
  rw [if_pos (by decide)]
  unfold Builtin.List.listItems
  refine wpAny_bind (wpAny_seqItems hp rfl (wpAny_pure ?_))
  refine wpAny_bind (wpAny_bind (wpAny_seqItems ho rfl (wpAny_pure ?_)))
  have esl := sliceIndices_raw none none none items.toArray.size (by simp)
  refine wpAny_bind (wpAny_of_eq esl ?_)
  have eb : sliceBounds none none none items.toArray.size = ((0 : Int), (items.toArray.size : Int), 1) := by simp [sliceBounds]
  rw [eb]
  dsimp only
  rw [if_pos (by decide)]
  have hlong : Builtin.List.listTooLong (items.toArray.size + its.toArray.size) = false := by
    unfold Builtin.List.listTooLong
    simp only [List.size_toArray]
    rw [sizeLine_eq]
    simp
    omega
  refine wpAny_bind (wpAny_rule ?_)
  rw [hlong, if_neg Bool.false_ne_true]
  refine wpAny_bind (m := Builtin.List.listUpdate (.ref l) _) ?_
  unfold Builtin.List.listUpdate
  have efn : (fun xs : Array Value => xs.extract 0 (Int.toNat 0) ++ its.toArray ++ xs.extract (max 0 (items.toArray.size : Int)).toNat) items.toArray = its.toArray := by
    simp
  refine wpAny_updateSeq (xs := items.toArray) (n := n) ho rfl (wpAny_bind (wpAny_letGo ?_)) (by rw [sizeLine_eq, List.size_toArray]; omega) (by show ((fun xs : Array Value => xs.extract 0 (Int.toNat 0) ++ its.toArray ++ xs.extract (max 0 (items.toArray.size : Int)).toNat) items.toArray).size ≤ _; rw [efn, sizeLine_eq, List.size_toArray]; omega)
  refine wpAny_pure ⟨_, rfl, wpAny_pure ?_⟩
  refine ex1 (Obj.data_mapSeq (o := { cls := .type "list", dict := none, data := .seq items.toArray n, slots := #[] }) rfl (fun xs : Array Value => xs.extract 0 (Int.toNat 0) ++ its.toArray ++ xs.extract (max 0 (items.toArray.size : Int)).toNat)) fun n' hd' => ?_
  refine h _ (S.turn (s' := { s with heap := s.heap.update l (Obj.mapSeq fun xs : Array Value => xs.extract 0 (Int.toNat 0) ++ its.toArray ++ xs.extract (max 0 (items.toArray.size : Int)).toNat) }) ⟨rfl, rfl⟩ hl hG (fun b o e1 e2 => (((Heap.SameBut.update ..).2 b e1).trans e2)) ⟨its, n', ?_, q⟩)
  have e := Heap.get?_update_self (Obj.mapSeq fun xs : Array Value => xs.extract 0 (Int.toNat 0) ++ its.toArray ++ xs.extract (max 0 (items.toArray.size : Int)).toNat) ho (Obj.isFreed_of_seq hd')
  rw [e]
  have e2 : Obj.mapSeq (fun xs : Array Value => xs.extract 0 (Int.toNat 0) ++ its.toArray ++ xs.extract (max 0 (items.toArray.size : Int)).toNat) { cls := .type "list", dict := none, data := .seq items.toArray n, slots := #[] } = { cls := .type "list", dict := none, data := .seq its.toArray n', slots := #[] } := by
    simp only [Obj.mapSeq] at hd' ⊢
    injection hd' with _ hn
    rw [hn]
    rw [show (items.toArray.extract 0 (Int.toNat 0) ++ its.toArray ++ items.toArray.extract (max 0 (items.toArray.size : Int)).toNat) = its.toArray from efn]
  rw [e2]
theorem r_lowerM {M : Model} {x : Str} {t : Tok} {pl : Sem Bool} {Q : Value × List Value → Shared → Prop} (h : Q (.builtin "str.lower", [.str x t]) s) : wpAny M A (getMethod (.str x t) "lower" pl) Q E s := PySem.GM.lower h
theorem r_lower {x y : Str} {t : Tok} {Q : Value → Shared → Prop} (S : St z G env ε σ s) (hy : Txt.lower x = y) (hz : y.length ≤ 1000) (h : ∀ t s', St z G env ε σ s' → Q (.str y t) s') :
    wpAny (model prog w) A (call (.builtin "str.lower") [.str x t]) Q E s := by
  subst hy
  exact PySem.SC.lower (by unfold Builtin.Str.tooLong; rw [sizeLine_eq]; simp; omega) (h _ _ S.tick)
theorem r_setItemOwn {a d C f : Addr} {i v : Value} {n : Nat} {fs : List (Str × AV)} {Q : Unit → Shared → Prop} (W : Wd K mg mb z.heap) (S : St z G env ε σ s) (hi : σ a = some (.inst C d)) (hd : σ d = some (.ns n fs))
    (hq : noSeq K C = true) (hs : findIn K (.ref C) "__setitem__" = some (some (.ref f))) (hf : isFn K (.ref f) = true)
    (h : wpAny (model prog w) A (call (.ref f) [.ref a, i, v]) (fun _ s' => Q () s') E s) : wpAny (model prog w) A (setItem (.ref a) i v) Q E s := by
  refine ex3 (inst_at S hi hd) fun ox od m z6x0r => ?_
  refine and5 z6x0r fun I _ _ r hl => ?_
  have X := W.X.keeps S.base
  unfold setItem sequenceKey
  refine wpAny_holding (wpAny_bind (wpAny_bind (I.type.here ?_)))
  refine wpAny_bind ((anyM_none X hq).here ?_)
  rw [if_pos (show (!false) = true from rfl)]
  exact wpAny_pure (wpAny_bind (special_fn X I hs (beq_iff_eq.mp hf) (wpAny_mono h (fun _ _ z => wpAny_pure z) fun _ _ z => z)))
theorem r_delItemOwn {a d C f : Addr} {i : Value} {n : Nat} {fs : List (Str × AV)} {Q : Unit → Shared → Prop} (W : Wd K mg mb z.heap) (S : St z G env ε σ s) (hi : σ a = some (.inst C d)) (hd : σ d = some (.ns n fs))
    (hq : noSeq K C = true) (hs : findIn K (.ref C) "__delitem__" = some (some (.ref f))) (hf : isFn K (.ref f) = true)
    (h : wpAny (model prog w) A (call (.ref f) [.ref a, i]) (fun _ s' => Q () s') E s) : wpAny (model prog w) A (delItem (.ref a) i) Q E s := by
  refine ex3 (inst_at S hi hd) fun ox od m z7x0r => ?_
  refine and5 z7x0r fun I _ _ r hl => ?_
  have X := W.X.keeps S.base
  unfold delItem sequenceKey
  refine wpAny_holding (wpAny_bind (wpAny_bind (I.type.here ?_)))
  refine wpAny_bind ((anyM_none X hq).here ?_)
  rw [if_pos (show (!false) = true from rfl)]
  exact wpAny_pure (wpAny_bind (special_fn X I hs (beq_iff_eq.mp hf) (wpAny_mono h (fun _ _ z => wpAny_pure z) fun _ _ z => z)))
noncomputable def KWC (K : Frag) (M : Model) (A : Around) (E : Value → Shared → Prop) (f : Value) (vs ks : List Value) (ns : List Str) (Q : Value → Shared → Prop) (s : Shared) : Prop := K.In s.heap ∧ wpAny M A (call f vs (ns.zip ks)) Q E s
theorem r_callKW {M : Model} {f : Value} {first : List Value} {e : Expr} {rest : List Expr} {kws : List Keyword} {Q : Value → Shared → Prop} {ns : List Str} {ts : List (Sem Value)} (W : Wd K mg mb z.heap) (hk : keepIn K f = true)
    (hall : (backToKw pos (keywordEach kws env)).all (·.1.isSome) = true) (hns : (backToKw pos (keywordEach kws env)).filterMap (·.1) = ns) (hts : (backToKw pos (keywordEach kws env)).map (·.2) = ts)
    (h : wpAny M A (spliced (backTo pos (starEach (e :: rest) env))) (fun vs s₁ => wpAny M A (evalAll ts) (fun ks s₂ => KWC K M A E f (first ++ vs) ks ns Q s₂) E s₁) E s)
    (hplain : ((backTo pos (starEach (e :: rest) env)).any (·.1) || (backToKw pos (keywordEach kws env)).any (·.1.isNone)) = false) (he : starEach (e :: rest) env = (false, eval e env) :: starEach rest env) :
    wpAny M A (callWith pos f first (backTo pos (starEach (e :: rest) env)) (backToKw pos (keywordEach kws env))) Q E s := by
  subst hns hts
  exact callWith_KW W.X hk hall h hplain he
theorem r_KWC {M : Model} {f : Value} {vs ks : List Value} {ns : List Str} {Q : Value → Shared → Prop} (W : Wd K mg mb z.heap) (S : St z G env ε σ s) (h : codeAny M A (.call f ⟨vs, ns.zip ks⟩) (CR Q E) s) : KWC K M A E f vs ks ns Q s := ⟨W.X.keeps S.base, wpAny_call h⟩
theorem r_evalAll1 {M : Model} {ts : List (Sem Value)} {e : Expr} {p : Pos} {Q : List Value → Shared → Prop} (hts : ts = [eval e env >>= fun v => standAt p >>= fun _ => pure v]) (h : wpAny M A (eval e env) (fun v s' => Q [v] s') E s) : wpAny M A (evalAll ts) Q E s := by
  subst hts
  refine wpAny_evalAll_cons (wpAny_bind (wpAny_mono h (fun v s' q => wpAny_bind (wpAny_standAt (wpAny_pure ?_))) fun _ _ e => e))
  exact wpAny_evalAll_nil q
end
end
local macro_rules | `(tactic| wtm_at "m1") => `(tactic| first
  | ((with_reducible refine' r_evalAll1 ?t ?_); (case t => exact rfl))
  | ((with_reducible refine' r_callKW ‹Wd _ _ _ _› ?k ?a ?n ?t ?_ ?m ?e); (case k => k_is); (case a => exact rfl); (case n => exact rfl); (case t => exact rfl); (case m => exact rfl); (case e => exact rfl))
  | with_reducible refine' wpAny_deleteEach_nil ?_)
section
noncomputable def PairsAt (σ : Sto) (ps : List Addr) (tb : List (Str × Str)) : Prop := All2 (fun p t => σ p = some (.tup [.str t.1, .str t.2])) ps tb
theorem PairsAt.keep {σ σ' : Sto} {ps : List Addr} {tb : List (Str × Str)} (h : PairsAt σ ps tb) (k : Keep isT σ σ') : PairsAt σ' ps tb := All2.mono (P' := fun p (t : Str × Str) => σ' p = some (.tup [.str t.1, .str t.2])) (fun _ _ e => k _ _ e trivial) h
noncomputable def HdAt (σ : Sto) (a d l : Addr) (tb : List (Str × Str)) : Prop := ∃ ps, σ a = some (.inst 298 d) ∧ σ d = some (.ns 1 [("_headers", .ref l)]) ∧ σ l = some (.list (ps.map .ref)) ∧ PairsAt σ ps tb
noncomputable def low (x : Str) : Str := Txt.lower x
noncomputable def Named (w : World) (x : Str) : Prop := (low x).length ≤ 1000 ∧ Clean w true (low x) ∧ Clean w true x
variable {w : World} {A : Around} {E : Value → Shared → Prop} {s z : Shared} {mg mb : Str → Option Value} {G : Addr → Option (Obj × Bool)} {env : Env} {ε : Vars} {σ : Sto}
theorem hd_del {a d l : Addr} {tb : List (Str × Str)} {x : Str} {t : Tok} {Q : Value → Shared → Prop} (W : Wd (kk w.params) mg mb z.heap) (S0 : St z G env ε σ s) (hh : A.handled = none) (hdp : A.depth + 20 < recursionLimit) (hu : A.units + 100 < cLine)
   (ha : HdAt σ a d l tb) (hG : G l = none) (hx : Named w x) (hn : ∀ p ∈ tb, Named w p.1) (hz : tb.length ≤ 1000)
   (h : ∀ s' σ', But [l] σ σ' → HdAt σ' a d l (tb.filter fun p => low p.1 != low x) → St z G env ε σ' s' → Q .none s') :
   wpAny (model PySem.Challenge.pw_pe0273_01 w) A (call (.ref 216) [.ref a, .str x t]) Q E s := by
  refine ex1 (id ha) fun ps z0x0r => ?_
  refine and4 z0x0r fun a1 d1 l1 T => ?_
  have hh' : ∀ e, (A.deeper e).handled = none := fun e => hh
  refine enterC (binds := [("self", .ref a), ("name", .str x t)]) W S0 (by first | exact room0 hdp | omega) (by exact rfl) (by k_is) rfl rfl rfl rfl (fun L => by exact rfl) (by exact rfl) (by exact rfl) ?_
  intro L s₁ env' C₁ S₁
  have hh := hh' env'
  repeat wtm_at "m"
  with_reducible refine' r_lowerM ?_
  with_reducible refine' PyProof.Rows.callWith_method0 ?_
  repeat wtm_at "m"
  refine r_lower ‹St _ _ _ _ _ _› (y := low x) rfl hx.1 ?_
  intro t s S
  repeat wtm_at "m"
  refine r_KWC W ‹St _ _ _ _ _ _› ?_
  refine convert W ‹St _ _ _ _ _ _› hh (by first | exact dpt hdp rfl | (simp only [depth_deeper]; omega)) (by first | exact upt hu rfl | (simp only [units_deeper]; omega)) hx.2.1 ?_
  intro t s S
  repeat wtm_at "m"
  ((with_reducible refine' wpAny_Assign_Subscript (hs := ?mu33) ?_); (case mu33 => exact rfl))
  repeat wtm_at "m"
  refine r_ListComp (by with_unfolding_all rfl) (by exact rfl) (by decide) (by intro _; exact rfl) ?_
  repeat wtm_at "m"
  refine r_iterList ‹St _ _ _ _ _ _› l1 ?_
  intro I s₃ σ₂ hI GI g2 I2 S3
  let f : Str × Str → Bool := fun p => low p.1 != low x
  have l2 := g2.get l1
  have T2 := T.keep g2.keep
  have lI : l ≠ I := ne_new l1 hI
  have hlen := T.length
  refine r_compK (Dt := List Addr) (ε' := [("name", .str (low x))]) tb.length
    (fun i D qs σ' => But [D, I] σ₂ σ' ∧ σ' D = some (.list (qs.map .ref)) ∧ PairsAt σ' qs ((tb.take i).filter f) ∧ σ' I = some (litO l i) ∧ Keep isT σ₂ σ')
    (fun D qs σ' => But [D, I] σ₂ σ' ∧ σ' D = some (.list (qs.map .ref)) ∧ PairsAt σ' qs (tb.filter f) ∧ Keep isT σ₂ σ')
    [] S3 (by decide) (by exact rfl) (by exact ⟨⟨rfl, rfl⟩, trivial⟩) (by exact rfl) (by exact ⟨rfl, trivial⟩) (by intro C; exact ⟨rfl, trivial⟩) I2 self_lit ?_ ?_ ?_ ?_
  · intro D hD
    refine ⟨But.upd (by simp), upd_self, trivial, ?_, (Grow.upd hD).keep⟩
    rw [upd_ne (ne_new I2 hD)]; exact I2
  · intro D C i qs σ' s' N en hi hD hGD hGC S ⟨b, hD', T', hI', kp⟩
    have GI' := hidden_sto (h := s₃.heap) GI I2
    have DI : D ≠ I := Ne.symm (ne_new I2 hD)
    have lD : l ≠ D := ne_new l2 hD
    have l' : σ' l = some (.list (ps.map .ref)) := b.get l2 ⟨lD, lI, trivial⟩
    refine ex1 (T2.get (i := i) (b := tb[i]) (by simp [hi])) fun p z1x0r => ?_
    refine and2 z1x0r fun hp ep => ?_
    refine r_nextList S hI' GI' l' (av := .ref p) (by rw [List.getElem?_map, hp]; rfl) ?_
    intro s S
    refine Vals.ref ?_
    refine ⟨_, rfl, ?_⟩
    have k1 : Keep isT σ' (upd σ' I (litO l (i + 1))) := Keep.upd hI' fun q => q
    have ep' := k1 _ _ (kp _ _ ep trivial) trivial
    have hD'' := upd_off (ao := litO l (i + 1)) hD' DI
    have T'' := T'.keep k1
    have I'' := upd_self (σ := σ') (a := I) (o := litO l (i + 1))
    have b'' := b.trans (But.upd (l := I) (ao := litO l (i + 1)) (by simp : I ∈ [D, I]))
    have kp'' := kp.trans k1
    have hlen2 := T'.length
    generalize upd σ' I (litO l (i + 1)) = σ₄ at *
    repeat wtm_at "m"
    refine r_tests1 ?_
    repeat wtm_at "m"
    refine r_titem (k := 0) ‹St _ _ _ _ _ _› ep' (by decide) rfl (Vals.str ?_) (hs := by with_unfolding_all rfl)
    intro t
    with_reducible refine' r_lowerM ?_
    with_reducible refine' PyProof.Rows.callWith_method0 ?_
    repeat wtm_at "m"
    refine r_lower ‹St _ _ _ _ _ _› (y := low tb[i].1) rfl (hn _ (List.getElem_mem hi)).1 ?_
    intro t s S
    repeat wtm_at "m"
    with_reducible refine' PyProof.Rows.ne_str ?_
    repeat wtm_at "m"
    have htk : tb.take (i + 1) = tb.take i ++ [tb[i]] := by rw [List.take_add_one]; simp [hi]
    have hzq : qs.length ≤ 10000 := by
      rw [hlen2]
      refine Nat.le_trans (List.length_filter_le _ _) ?_
      rw [List.length_take]; omega
    refine r_ite (fun hs => ?_) fun hs => ?_
    · have e1 : [tb[i]].filter f = [tb[i]] := by rw [List.filter_cons, if_pos hs]; rfl
      repeat wtm_at "m"
      refine ⟨qs ++ [p], _, St.vars (by assumption) ⟨rfl, trivial⟩, b''.trans (But.upd (by simp)), ?_, ?_, ?_, kp''.trans (Keep.upd hD'' fun q => q)⟩
      · rw [upd_self, List.map_append]; rfl
      · rw [htk, List.filter_append, e1]
        refine (show PairsAt _ (qs ++ [p]) (_ ++ [tb[i]]) from All2.append T'' ⟨ep', trivial⟩).keep (Keep.upd hD'' fun q => q)
      · exact upd_off I'' (Ne.symm DI)
    · have e1 : [tb[i]].filter f = [] := by rw [List.filter_cons, if_neg (by rw [show f tb[i] = false from hs]; decide)]; rfl
      refine ⟨qs, _, St.vars (by assumption) ⟨rfl, trivial⟩, b'', hD'', ?_, I'', kp''⟩
      rw [htk, List.filter_append, e1, List.append_nil]
      exact T''
  · rintro D C qs σ' s' N en hD hGD S Hpat2
    refine and5 Hpat2 fun b hD' T' hI' kp => ?_
    have lD : l ≠ D := ne_new l2 hD
    have l' : σ' l = some (.list (ps.map .ref)) := b.get l2 ⟨lD, lI, trivial⟩
    refine r_endList S hh hI' (hidden_sto (h := s₃.heap) GI I2) l' (by rw [List.length_map]; omega) ?_
    intro s S
    refine ⟨rfl, qs, _, S, b.trans (But.rem (l := I) (by simp)), ?_, ?_, kp.trans (Keep.rem hI' fun q => q)⟩
    · rw [rem_ne (Ne.symm (ne_new I2 hD))]; exact hD'
    · rw [List.take_of_length_le (by omega)] at T'
      exact T'.keep (Keep.rem hI' fun q => q)
  · intro D qs σ' s' hD hGD S ⟨b, hD', T', kp⟩
    unfold CompEnd
    dsimp only
    have lD : l ≠ D := ne_new l2 hD
    have aD : a ≠ D := ne_new (g2.get a1) hD
    have dD : d ≠ D := ne_new (g2.get d1) hD
    have aI : a ≠ I := ne_new a1 hI
    have dI : d ≠ I := ne_new d1 hI
    have l' := b.get l2 ⟨lD, lI, trivial⟩
    have a' := b.get (g2.get a1) ⟨aD, aI, trivial⟩
    have d' := b.get (g2.get d1) ⟨dD, dI, trivial⟩
    repeat wtm_at "m"
    refine r_Slice ‹St _ _ _ _ _ _› ?_
    intro sl s σ₅ hsl Gsl g5 sl5 S5
    have hlen2 := T'.length
    refine r_setAll S5 (g5.get l') sl5 (g5.get hD') (hidden_sto hG l1) (by rw [List.length_map]; omega) (by rw [List.length_map, hlen2]; exact Nat.le_trans (List.length_filter_le _ _) (by omega)) lD ?_
    intro s S6
    repeat wtm_at "m"
    have gg : Grow σ σ₅ := (((b.drop Grow.refl hD).drop g2 hI).grow).trans g5
    have nal : a ≠ l := ne_kind a1 l1 (by intro e; cases e)
    have ndl : d ≠ l := ne_kind d1 l1 (by intro e; cases e)
    refine h _ _ (gg.but.trans (But.upd (by simp))) ⟨qs, upd_off (gg.get a1) nal, upd_off (gg.get d1) ndl, upd_self, ?_⟩ (S0.back (by assumption))
    exact (T'.keep g5.keep).keep (Keep.upd (gg.get l1) fun q => q)
end
section
section
variable {prog : Program} {w : World} {A : Around} {E : Value → Shared → Prop} {s : Shared} {K : Frag} {mg mb : Str → Option Value} {z : Shared} {G : Addr → Option (Obj × Bool)} {env : Env} {ε : Vars} {σ : Sto} {x : Str} {pos : Pos}
noncomputable def edO : AO := .raw fun o => o = dictOf [] 0
noncomputable def vwO (d : Addr) : AO := .raw fun o => o = { cls := .type "dict_items", dict := none, data := .fields #[.ref d], slots := #[] }
noncomputable def vitO (d : Addr) : AO := .raw fun o => o = { cls := .type "dict_itemiterator", dict := none, data := .fields #[.none, .bool false, .ref d, .int 0 0, .int 0 0, .int 0 0, .none, .none], slots := #[] }
theorem ed_at {d : Addr} (S : St z G env ε σ s) (hd : σ d = some edO) : s.heap.DictAt (strKind prog w) d [] 0 := by
  refine ex1 (S.obj _ _ hd) fun o z0x0r => ?_
  refine and2 z0x0r fun ho z0x2 => ?_
  subst z0x2
  exact ⟨_, #[], ho, ⟨rfl, rfl, rfl⟩, rfl, fun e he => by simp at he, .nil, List.nodup_nil⟩
theorem r_itemsM {d : Addr} {pl : Sem Bool} {Q : Value × List Value → Shared → Prop} (S : St z G env ε σ s) (hd : σ d = some edO) (h : Q (.builtin "dict.items", [.ref d]) s) : wpAny (model prog w) A (getMethod (.ref d) "items" pl) Q E s := by
  refine ex1 (S.obj _ _ hd) fun o z1x0r => ?_
  refine and2 z1x0r fun ho z1x2 => ?_
  subst z1x2
  exact getMethod_builtin (T := "dict") ⟨_, ho, rfl⟩ PySem.F.plainAttrs_dict PySem.F.slot_dict_items PySem.F.type_dict_items (fun a e => by cases e; exact ⟨_, ho, rfl⟩) h
theorem r_items {d : Addr} {Q : Value → Shared → Prop} (S : St z G env ε σ s) (hm : (d == sysModules) = false) (hd : σ d = some edO) (h : ∀ v s' σ', σ v = none → G v = none → Grow σ σ' → σ' v = some (vwO d) → St z G env ε σ' s' → Q (.ref v) s') :
    wpAny (model prog w) A (call (.builtin "dict.items") [.ref d]) Q E s := by
  refine ex1 (S.obj _ _ hd) fun o z2x0r => ?_
  refine and2 z2x0r fun ho e => ?_
  refine call_meetsIn PySem.F.slot_dict_items ⟨o, ho, by rw [e]⟩ PySem.F.entry_dict_items (PySem.F.args_dict_items_1 _) (meets_dict_items (strKind prog w) d hm) ⟨⟨[], ?_⟩, ?_⟩
  · refine ex2 (ed_at (prog := prog) (w := w) S hd) fun o' es r => ?_
    exact ⟨o', es, _, r⟩
  · exact h _ _ _ (S.fresh (Nat.le_refl _)) (S.freshG (Nat.le_refl _)) (Grow.upd (S.fresh (Nat.le_refl _))) upd_self (S.new ⟨rfl, rfl⟩ (Nat.le_refl _) (fun _ _ e => Heap.get?_push_of_some _ e) ⟨_, Heap.get?_push_size _ rfl, rfl⟩)
theorem r_iterItems {v d : Addr} {Q : Value → Shared → Prop} (S : St z G env ε σ s) (hv : σ v = some (vwO d)) (hd : σ d = some edO) (h : ∀ I s' σ', σ I = none → G I = none → Grow σ σ' → σ' I = some (vitO d) → St z G env ε σ' s' → Q (.ref I) s') :
    wpAny (model prog w) A (pyIter (.ref v)) Q E s := by
  refine ex1 (S.obj _ _ hv) fun o z4x0r => ?_
  refine and2 z4x0r fun ho z4x2 => ?_
  subst z4x2
  refine wpAny_pyIter_items (knd := strKind prog w) (kvs := []) ⟨_, ho, rfl, rfl⟩ (ed_at S hd) ?_
  exact h _ _ _ (S.fresh (Nat.le_refl _)) (S.freshG (Nat.le_refl _)) (Grow.upd (S.fresh (Nat.le_refl _))) upd_self (S.new ⟨rfl, rfl⟩ (Nat.le_refl _) (fun _ _ e => Heap.get?_push_of_some _ e) ⟨_, Heap.get?_push_size _ rfl, rfl⟩)
theorem r_endItems {I d : Addr} {Q : Option Value → Shared → Prop} (S : St z G env ε σ s) (hh : A.handled = none) (hI : σ I = some (vitO d)) (hG : G I = none) (hd : σ d = some edO) (h : ∀ s', St z G env ε (rem σ I) s' → Q none s') :
    wpAny (model prog w) A (pyNext (.ref I)) Q E s := by
  refine ex1 (S.obj _ _ hI) fun o z5x0r => ?_
  refine and2 z5x0r fun ho z5x2 => ?_
  subst z5x2
  refine wpAny_pyNext_items_end (knd := strKind prog w) (kvs := []) hh ho (ed_at S hd) rfl fun h' hs => ?_
  exact h _ (S.lose (s' := { s with heap := h' }) ⟨rfl, rfl⟩ hI hG fun b o e1 e2 => hs b o e1 e2)
theorem r_letList {I l : Addr} {i : Nat} {target : Expr} {v : Value} {Q : Unit → Shared → Prop} (S : St z G env ε σ s) (hI : σ I = some (litO l i)) (h : Q () s) : wpAny (model prog w) A (letOwnedTupleGo target (.ref I) v) Q E s := by
  refine ex1 (S.obj _ _ hI) fun o z6x0r => ?_
  refine and2 z6x0r fun ho hp => ?_
  exact letGo_listiter ⟨o, ho, hp⟩ h
theorem r_joinM {M : Model} {x : Str} {t : Tok} {pl : Sem Bool} {Q : Value × List Value → Shared → Prop} (h : Q (.builtin "str.join", [.str x t]) s) : wpAny M A (getMethod (.str x t) "join" pl) Q E s := PySem.GM.join h
theorem vrs_strs : ∀ {ts : List Str} {vs : List Value}, VRs (ts.map .str) vs → StrsAre vs ts
  | [], _, h => by cases h; exact .nil
  | x :: r, _, h => by obtain ⟨v, rest, rfl, ⟨t, rfl⟩, h⟩ := h; exact .cons x t (vrs_strs h)
theorem r_join {l : Addr} {ts : List Str} {x : Str} {t : Tok} {Q : Value → Shared → Prop} (S : St z G env ε σ s) (hl : σ l = some (.list (ts.map .str))) (hok : (ts.map (·.length)).sum + ts.length * x.length ≤ 16777216)
    (h : ∀ t s', St z G env ε σ s' → Q (.str (Txt.join x ts) t) s') : wpAny (model prog w) A (call (.builtin "str.join") [.str x t, .ref l]) Q E s := by
  refine ex2 (S.obj _ _ hl) fun items n z7x0r => ?_
  refine and2 z7x0r fun ho r => ?_
  exact PyProof.Rows.join_list (isList_of ho) (by simpa using vrs_strs r) hok fun t' k => h _ _ S.tick
end
end
section
variable {w : World} {A : Around} {E : Value → Shared → Prop} {s z : Shared} {mg mb : Str → Option Value} {G : Addr → Option (Obj × Bool)} {env : Env} {ε : Vars} {σ : Sto}
theorem hd_set {a d l : Addr} {tb : List (Str × Str)} {x v : Str} {t u : Tok} {Q : Value → Shared → Prop} (W : Wd (kk w.params) mg mb z.heap) (S0 : St z G env ε σ s) (hh : A.handled = none) (hdp : A.depth + 40 < recursionLimit) (hu : A.units + 200 < cLine)
   (ha : HdAt σ a d l tb) (hG : G l = none) (hx : Named w x) (hv : Clean w false v) (hn : ∀ p ∈ tb, Named w p.1) (hz : tb.length ≤ 1000)
   (h : ∀ s' σ', But [l] σ σ' → HdAt σ' a d l ((tb.filter fun p => low p.1 != low x) ++ [(x, v)]) → St z G env ε σ' s' → Q .none s') :
   wpAny (model PySem.Challenge.pw_pe0273_01 w) A (call (.ref 211) [.ref a, .str x t, .str v u]) Q E s := by
  refine ex1 (id ha) fun ps z0x0r => ?_
  refine and4 z0x0r fun a1 d1 l1 T => ?_
  have hh' : ∀ e, (A.deeper e).handled = none := fun e => hh
  refine enterC (binds := [("self", .ref a), ("name", .str x t), ("val", .str v u)]) W S0 (by first | exact room0 hdp | omega) (by exact rfl) (by k_is) rfl rfl rfl rfl (fun L => by exact rfl) (by exact rfl) (by exact rfl) ?_
  intro L s₁ env' C₁ S₁
  have hh := hh' env'
  have Gl := hidden_sto (h := s.heap) hG l1
  repeat wtm_at "m"
  with_reducible refine' wpAny_Delete ?_
  with_reducible refine' wpAny_deleteEach_cons ?_
  with_reducible refine' wpAny_delete_Subscript ?_
  repeat wtm_at "m"
  refine r_delItemOwn (f := 216) W ‹St _ _ _ _ _ _› a1 d1 (by k_is) (by k_is) (by k_is) ?_
  refine hd_del W ‹St _ _ _ _ _ _› hh (by first | exact dpt hdp rfl | (simp only [depth_deeper]; omega)) (by first | exact upt hu rfl | (simp only [units_deeper]; omega)) ha Gl hx hn hz ?_
  intro s2 σ2 b2 H2 S2
  refine ex1 (id H2) fun ps2 z1x0r => ?_
  refine and4 z1x0r fun a2 d2 l2 T2 => ?_
  repeat wtm_at "m"
  refine r_KWC W ‹St _ _ _ _ _ _› (convert W ‹St _ _ _ _ _ _› hh (by first | exact dpt hdp rfl | (simp only [depth_deeper]; omega)) (by first | exact upt hu rfl | (simp only [units_deeper]; omega)) hx.2.2 ?_)
  intro t s S
  repeat wtm_at "m"
  refine r_KWC W ‹St _ _ _ _ _ _› (convert W ‹St _ _ _ _ _ _› hh (by first | exact dpt hdp rfl | (simp only [depth_deeper]; omega)) (by first | exact upt hu rfl | (simp only [units_deeper]; omega)) hv ?_)
  intro t s S
  repeat wtm_at "m"
  refine r_newTup ‹St _ _ _ _ _ _› (Nat.le_of_ble_eq_true rfl) ?_
  intro tp s σ₃ htp Gtp g3 tp3 S3
  have l3 := g3.get l2
  have hz2 : ps2.length ≤ 1000 := by rw [T2.length]; exact Nat.le_trans (List.length_filter_le _ _) hz
  repeat wtm_at "m"
  have nal : a ≠ l := ne_kind a1 l1 (by intro e; cases e)
  have ndl : d ≠ l := ne_kind d1 l1 (by intro e; cases e)
  refine h _ _ ((b2.trans g3.but).trans (But.upd (by simp))) ⟨ps2 ++ [tp], upd_off (g3.get a2) nal, upd_off (g3.get d2) ndl, ?_, ?_⟩ (S0.back (by assumption))
  · rw [upd_self, List.map_append]; rfl
  · exact (show PairsAt _ (ps2 ++ [tp]) (_ ++ [(x, v)]) from All2.append (T2.keep g3.keep) ⟨tp3, trivial⟩).keep (Keep.upd l3 fun q => q)
noncomputable def getAV (tb : List (Str × Str)) (x : Str) : AV := match tb.find? fun p => low p.1 == low x with
  | some p => .str p.2
  | none => .none
theorem hd_get {a d l : Addr} {tb : List (Str × Str)} {x : Str} {t : Tok} {Q : Value → Shared → Prop} (W : Wd (kk w.params) mg mb z.heap) (S0 : St z G env ε σ s) (hh : A.handled = none) (hdp : A.depth + 40 < recursionLimit) (hu : A.units + 200 < cLine)
   (ha : HdAt σ a d l tb) (hx : Named w x) (hn : ∀ p ∈ tb, Named w p.1) (hz : tb.length ≤ 1000)
   (h : ∀ s' σ', Grow σ σ' → St z G env ε σ' s' → Vals (getAV tb x) fun v => Q v s') :
   wpAny (model PySem.Challenge.pw_pe0273_01 w) A (call (.ref 245) [.ref a, .str x t]) Q E s := by
  refine ex1 (id ha) fun ps z2x0r => ?_
  refine and4 z2x0r fun a1 d1 l1 T => ?_
  refine wpAny_call ?_
  have hh' : ∀ e, (A.deeper e).handled = none := fun e => hh
  refine enterR (binds := [("self", .ref a), ("name", .str x t), ("default", .none)]) W S0 (by first | exact room0 hdp | omega) (by exact rfl) (by k_is) rfl (by exact rfl) rfl rfl (fun L => by exact rfl) (by exact rfl) (by exact rfl) ?_
  intro L s₁ env' C₁ S₁
  have hh := hh' env'
  repeat wtm_at "m"
  with_reducible refine' r_lowerM ?_
  with_reducible refine' PyProof.Rows.callWith_method0 ?_
  repeat wtm_at "m"
  refine r_lower ‹St _ _ _ _ _ _› (y := low x) rfl hx.1 ?_
  intro t s S
  repeat wtm_at "m"
  refine r_KWC W ‹St _ _ _ _ _ _› (convert W ‹St _ _ _ _ _ _› hh (by first | exact dpt hdp rfl | (simp only [depth_deeper]; omega)) (by first | exact upt hu rfl | (simp only [units_deeper]; omega)) hx.2.1 ?_)
  intro t s S
  repeat wtm_at "m"
  refine r_iterList ‹St _ _ _ _ _ _› l1 ?_
  intro I s₃ σ₂ hI GI g2 I2 S3
  have l2 := g2.get l1
  have T2 := T.keep g2.keep
  have lI : l ≠ I := ne_new l1 hI
  have hlen := T.length
  refine r_loop (D := Unit) tb.length (fun i _ => [("self", .ref a), ("name", .str (low x)), ("default", .none)])
    (fun i _ σ' => But [I] σ₂ σ' ∧ σ' I = some (litO l i) ∧ ∀ j, (hj : j < tb.length) → j < i → (low tb[j].1 == low x) = false) () (S3.vars ⟨rfl, rfl, rfl, trivial⟩) ⟨But.refl, I2, fun j _ hj => absurd hj (Nat.not_lt_zero _)⟩ ?_ ?_
  · rintro i - σ' s hi S Hpat3
    refine and3 Hpat3 fun b hI' hall => ?_
    have l' : σ' l = some (.list (ps.map .ref)) := b.get l2 ⟨lI, trivial⟩
    refine ex1 (T.get (i := i) (b := tb[i]) (by simp [hi])) fun p z4x0r => ?_
    refine and2 z4x0r fun hp ep => ?_
    refine r_nextList S hI' GI l' (av := .ref p) (by rw [List.getElem?_map, hp]; rfl) ?_
    intro s S
    refine Vals.ref ?_
    refine ⟨_, rfl, r_letList S upd_self ?_⟩
    have b' := b.trans (But.upd (l := I) (ao := litO l (i + 1)) (by simp : I ∈ [I]))
    have pI : p ≠ I := ne_new ep hI
    have ep' := b'.get (g2.get ep) ⟨pI, trivial⟩
    have I'' := upd_self (σ := σ') (a := I) (o := litO l (i + 1))
    generalize upd σ' I (litO l (i + 1)) = σ₄ at *
    repeat wtm_at "m"
    with_reducible refine' r_lowerM ?_
    with_reducible refine' PyProof.Rows.callWith_method0 ?_
    repeat wtm_at "m"
    refine r_lower ‹St _ _ _ _ _ _› (y := low tb[i].1) rfl (hn _ (List.getElem_mem hi)).1 ?_
    intro t s S
    repeat wtm_at "m"
    with_reducible refine' PyProof.Rows.eq_str ?_
    repeat wtm_at "m"
    refine r_ite (fun hs => ?_) fun hs => ?_
    · repeat wtm_at "m"
      have ef : tb.find? (fun p => low p.1 == low x) = some tb[i] := by
        rw [List.find?_eq_some_iff_getElem]
        exact ⟨hs, i, hi, rfl, fun j hj => by rw [hall j (by omega) hj]; rfl⟩
      have := h _ σ₄ ((b'.drop g2 hI).grow) (S0.back (by assumption))
      unfold getAV at this
      rw [ef] at this
      exact this _
    · repeat wtm_at "m"
      refine ⟨(), _, St.vars (by assumption) ⟨rfl, rfl, rfl, trivial⟩, b', I'', fun j hj hji => ?_⟩
      by_cases q : j < i
      · exact hall j hj q
      · have : j = i := by omega
        subst this; exact hs
  · rintro - σ' s S Hpat5
    refine and3 Hpat5 fun b hI' hall => ?_
    have l' : σ' l = some (.list (ps.map .ref)) := b.get l2 ⟨lI, trivial⟩
    refine r_endList S hh hI' GI l' (by rw [List.length_map]; omega) ?_
    intro s S
    refine ⟨rfl, ?_⟩
    repeat wtm_at "m"
    have ef : tb.find? (fun p => low p.1 == low x) = none := by
      rw [List.find?_eq_none]
      intro p hp
      obtain ⟨j, hj, rfl⟩ := List.getElem_of_mem hp
      rw [hall j hj hj]; decide
    have := h _ (rem σ' I) (((b.trans (But.rem (by simp : I ∈ [I]))).drop g2 hI).grow) (S0.back (by assumption))
    unfold getAV at this
    rw [ef] at this
    exact this
end
section
section
variable {prog : Program} {w : World} {A : Around} {E : Value → Shared → Prop} {s : Shared} {K : Frag} {mg mb : Str → Option Value} {z : Shared} {G : Addr → Option (Obj × Bool)} {env : Env} {ε : Vars} {σ : Sto} {x : Str} {pos : Pos}
theorem r_isNoneNone {M : Model} {Q : Value → Shared → Prop} (h : Q (.bool true) s) : wpAny M A (compareOp .Is .none .none) Q E s := wpAny_is_self (by rfl) h
theorem r_debug {M : Model} {Q : Value → Shared → Prop} (h : Q (.bool true) s) : wpAny M A (eval (.Name "__debug__" pos) env) Q E s := by
  have e : eval (.Name "__debug__" pos) env = ((do
      standAt pos
      if (("__debug__" : Str) == ("__debug__" : Str)) then (do rule "name.__debug__"; pure (Value.bool true)) else loadName env "__debug__") : Sem Value) := rfl
  rw [e]
  refine wpAny_bind (wpAny_standAt ?_)
  rw [if_pos (by decide)]
  exact wpAny_bind (wpAny_rule (wpAny_pure h))
theorem r_typeList {l : Addr} {vs : List AV} {Q : Value → Shared → Prop} (S : St z G env ε σ s) (hl : σ l = some (.list vs)) (h : Q (.type "list") s) : wpAny (model prog w) A (call (.type "type") [.ref l]) Q E s := by
  refine ex2 (S.obj _ _ hl) fun items n z0x0r => ?_
  refine and2 z0x0r fun ho r => ?_
  exact call_type_of (isList_of ho).typeIs (by decide +kernel) h
theorem r_isNotType {a : String} {Q : Value → Shared → Prop} (h : Q (.bool false) s) : wpAny (model prog w) A (compareOp .IsNot (.type a) (.type a)) Q E s := wpAny_isNot_self (by rfl) h
end
end
section
variable {w : World} {A : Around} {E : Value → Shared → Prop} {s z : Shared} {mg mb : Str → Option Value} {G : Addr → Option (Obj × Bool)} {env : Env} {ε : Vars} {σ : Sto}
theorem hd_items {a d l : Addr} {tb : List (Str × Str)} {Q : Value → Shared → Prop} (W : Wd (kk w.params) mg mb z.heap) (S0 : St z G env ε σ s) (hh : A.handled = none) (hdp : A.depth + 40 < recursionLimit) (hu : A.units + 200 < cLine)
   (ha : HdAt σ a d l tb) (hz : tb.length ≤ 1000)
   (h : ∀ c ps s' σ', σ c = none → G c = none → Grow σ σ' → σ' c = some (.list (ps.map .ref)) → PairsAt σ' ps tb → St z G env ε σ' s' → Q (.ref c) s') :
   wpAny (model PySem.Challenge.pw_pe0273_01 w) A (call (.ref 262) [.ref a]) Q E s := by
  refine ex1 (id ha) fun ps z0x0r => ?_
  refine and4 z0x0r fun a1 d1 l1 T => ?_
  have hh' : ∀ e, (A.deeper e).handled = none := fun e => hh
  refine enterC (binds := [("self", .ref a)]) W S0 (by first | exact room0 hdp | omega) (by exact rfl) (by k_is) rfl rfl rfl rfl (fun L => by exact rfl) (by exact rfl) (by exact rfl) ?_
  intro L s₁ env' C₁ S₁
  have hh := hh' env'
  repeat wtm_at "m"
  refine r_Slice ‹St _ _ _ _ _ _› ?_
  intro sl s σ5 hsl Gsl g5 sl5 S5
  refine r_copy S5 (g5.get l1) sl5 (by rw [List.length_map, T.length]; omega) ?_
  intro c s σ6 hc Gc g6 c6 S6
  repeat wtm_at "m"
  refine h c ps _ _ ?_ (G_of_hidden Gc) (g5.trans g6) c6 (T.keep (g5.trans g6).keep) (S0.back (by assumption))
  cases e : σ c with
  | none => rfl
  | some o => have := g5.get e; rw [hc] at this; cases this
noncomputable def ansOf (tb : List (Str × Str)) (x v : Str) : Str := match tb.find? fun p => low p.1 == low x with
  | some p => p.2
  | none => v
noncomputable def defTb (tb : List (Str × Str)) (x v : Str) : List (Str × Str) := match tb.find? fun p => low p.1 == low x with
  | some _ => tb
  | none => tb ++ [(x, v)]
theorem hd_default {a d l : Addr} {tb : List (Str × Str)} {x v : Str} {t u : Tok} {Q : Value → Shared → Prop} (W : Wd (kk w.params) mg mb z.heap) (S0 : St z G env ε σ s) (hh : A.handled = none) (hdp : A.depth + 60 < recursionLimit) (hu : A.units + 300 < cLine)
   (ha : HdAt σ a d l tb) (hG : G l = none) (hx : Named w x) (hv : Clean w false v) (hn : ∀ p ∈ tb, Named w p.1) (hz : tb.length ≤ 1000)
   (h : ∀ t s' σ', But [l] σ σ' → HdAt σ' a d l (defTb tb x v) → St z G env ε σ' s' → Q (.str (ansOf tb x v) t) s') :
   wpAny (model PySem.Challenge.pw_pe0273_01 w) A (call (.ref 288) [.ref a, .str x t, .str v u]) Q E s := by
  refine ex1 (id ha) fun ps z1x0r => ?_
  refine and4 z1x0r fun a1 d1 l1 T => ?_
  have hh' : ∀ e, (A.deeper e).handled = none := fun e => hh
  refine enterC (binds := [("self", .ref a), ("name", .str x t), ("value", .str v u)]) W S0 (by first | exact room0 hdp | omega) (by exact rfl) (by k_is) rfl rfl rfl rfl (fun L => by exact rfl) (by exact rfl) (by exact rfl) ?_
  intro L s₁ env' C₁ S₁
  have hh := hh' env'
  have Gl := hidden_sto (h := s.heap) hG l1
  have nal : a ≠ l := ne_kind a1 l1 (by intro e; cases e)
  have ndl : d ≠ l := ne_kind d1 l1 (by intro e; cases e)
  repeat wtm_at "m"
  refine hd_get W ‹St _ _ _ _ _ _› hh (by first | exact dpt hdp rfl | (simp only [depth_deeper]; omega)) (by first | exact upt hu rfl | (simp only [units_deeper]; omega)) ha hx hn hz ?_
  intro s σ2 g2 S2
  have a2 := g2.get a1
  have d2 := g2.get d1
  have l2 := g2.get l1
  have T2 := T.keep g2.keep
  unfold getAV
  cases ef : tb.find? (fun p => low p.1 == low x) with
  | none =>
    have e1 : ansOf tb x v = v := by unfold ansOf; rw [ef]
    have e2 : defTb tb x v = tb ++ [(x, v)] := by unfold defTb; rw [ef]
    rw [e1, e2] at h
    refine Vals.none ?_
    repeat wtm_at "m"
    with_reducible refine' r_isNoneNone ?_
    repeat wtm_at "m"
    refine r_ite (fun hs => ?_) fun hs => ?_
    · repeat wtm_at "m"
      refine r_KWC W ‹St _ _ _ _ _ _› (convert W ‹St _ _ _ _ _ _› hh (by first | exact dpt hdp rfl | (simp only [depth_deeper]; omega)) (by first | exact upt hu rfl | (simp only [units_deeper]; omega)) hx.2.2 ?_)
      intro t s S
      repeat wtm_at "m"
      refine r_KWC W ‹St _ _ _ _ _ _› (convert W ‹St _ _ _ _ _ _› hh (by first | exact dpt hdp rfl | (simp only [depth_deeper]; omega)) (by first | exact upt hu rfl | (simp only [units_deeper]; omega)) hv ?_)
      intro t s S
      repeat wtm_at "m"
      refine r_newTup ‹St _ _ _ _ _ _› (Nat.le_of_ble_eq_true rfl) ?_
      intro tp s σ₃ htp Gtp g3 tp3 S3
      have l3 := g3.get l2
      have hz2 : ps.length ≤ 1000 := by rw [T.length]; exact hz
      repeat wtm_at "m"
      refine h _ _ _ (((g2.trans g3).but).trans (But.upd (by simp))) ⟨ps ++ [tp], upd_off (g3.get a2) nal, upd_off (g3.get d2) ndl, ?_, ?_⟩ (S0.back (by assumption))
      · rw [upd_self, List.map_append]; rfl
      · exact (show PairsAt _ (ps ++ [tp]) (tb ++ [(x, v)]) from All2.append (T2.keep g3.keep) ⟨tp3, trivial⟩).keep (Keep.upd l3 fun q => q)
    · cases hs
  | some p =>
    have e1 : ansOf tb x v = p.2 := by unfold ansOf; rw [ef]
    have e2 : defTb tb x v = tb := by unfold defTb; rw [ef]
    rw [e1, e2] at h
    refine Vals.str ?_
    intro t
    repeat wtm_at "m"
    with_reducible refine' PyProof.Rows.is_str_none ?_
    repeat wtm_at "m"
    refine r_ite (fun hs => ?_) fun hs => ?_
    · cases hs
    · repeat wtm_at "m"
      exact h _ _ _ g2.but ⟨ps, a2, d2, l2, T2⟩ (S0.back (by assumption))
end
section
variable {w : World} {A : Around} {E : Value → Shared → Prop} {s z : Shared} {mg mb : Str → Option Value} {G : Addr → Option (Obj × Bool)} {env : Env} {ε : Vars} {σ : Sto}
theorem len_sep : ("; " : Str).length = 2 := by rfl
theorem hd_add {a d l : Addr} {tb : List (Str × Str)} {x v : Str} {t u : Tok} {Q : Value → Shared → Prop} (W : Wd (kk w.params) mg mb z.heap) (S0 : St z G env ε σ s) (hh : A.handled = none) (hdp : A.depth + 60 < recursionLimit) (hu : A.units + 300 < cLine)
   (ha : HdAt σ a d l tb) (hG : G l = none) (hx : Named w x) (hv : Clean w false v) (hvz : v.length ≤ 1000) (hz : tb.length ≤ 1000)
   (h : ∀ s' σ', But [l] σ σ' → HdAt σ' a d l (tb ++ [(x, v)]) → St z G env ε σ' s' → Q .none s') :
   wpAny (model PySem.Challenge.pw_pe0273_01 w) A (call (.ref 295) [.ref a, .str x t, .str v u]) Q E s := by
  refine ex1 (id ha) fun ps z0x0r => ?_
  refine and4 z0x0r fun a1 d1 l1 T => ?_
  have hh' : ∀ e, (A.deeper e).handled = none := fun e => hh
  refine wpAny_call ?_
  refine enterD (ns := ["self", "_name", "_value", "_params"]) (binds := fun D => [("self", .ref a), ("_name", .str x t), ("_value", .str v u), ("_params", .ref D)]) W S0 (by first | exact room0 hdp | omega) (by exact rfl) (by k_is) rfl (by exact rfl) (by intro D; exact rfl) (by exact rfl) rfl (by intro D; exact rfl) (fun L => by exact rfl) (by exact rfl) (by exact rfl) ?_
  intro D L s₀ s₁ σ0 env' hm hD GD g0 D0 S00 C₁ S₁
  have hh := hh' env'
  have D0 : σ0 D = some edO := D0
  have l0 := g0.get l1
  have Gl := hidden_sto (h := s₀.heap) hG l0
  have nal : a ≠ l := ne_kind a1 l1 (by intro e; cases e)
  have ndl : d ≠ l := ne_kind d1 l1 (by intro e; cases e)
  repeat wtm_at "m"
  refine r_newList ‹St _ _ _ _ _ _› (Nat.le_of_ble_eq_true rfl) ?_
  intro pt s σ1 hpt Gpt g1 pt1 S1
  repeat wtm_at "m"
  with_reducible refine' PyProof.Rows.isnot_str_none ?_
  repeat wtm_at "m"
  refine r_ite (fun hs => ?_) fun hs => by cases hs
  repeat wtm_at "m"
  refine r_KWC W ‹St _ _ _ _ _ _› (convert W ‹St _ _ _ _ _ _› hh (by first | exact dpt hdp rfl | (simp only [depth_deeper]; omega)) (by first | exact upt hu rfl | (simp only [units_deeper]; omega)) hv ?_)
  intro t s S
  repeat wtm_at "m"
  ((with_reducible refine' r_itemsM ‹St _ _ _ _ _ _› ?lu51 ?_); (case lu51 => wtm_at "sto"))
  with_reducible refine' PyProof.Rows.callWith_method0 ?_
  repeat wtm_at "m"
  have nDp : D ≠ pt := ne_new D0 hpt
  have D1 := upd_off (ao := .list (List.map absv [] ++ [absv (.str v t)])) (g1.get D0) nDp
  refine r_items ‹St _ _ _ _ _ _› hm D1 ?_
  intro vw s σ2 hvw Gvw g2 vw2 S2
  have D2 := g2.get D1
  refine r_iterItems ‹St _ _ _ _ _ _› vw2 D2 ?_
  intro I s σ3 hI GI g3 I3 S3
  have D3 := g3.get D2
  have npl : pt ≠ l := Ne.symm (ne_new (g0.get l1) hpt)
  have npa : pt ≠ a := Ne.symm (ne_new (g0.get a1) hpt)
  have npd : pt ≠ d := Ne.symm (ne_new (g0.get d1) hpt)
  have gr : Grow σ σ3 := fun b o e => by
    refine g3.get (g2.get (upd_off (g1.get (g0.get e)) ?_))
    exact ne_new (g0.get e) hpt
  have p3 := g3.get (g2.get (upd_self (σ := σ1) (a := pt) (o := .list (List.map absv [] ++ [absv (.str v t)]))))
  refine r_loop (D := Unit) 0 (fun i _ => [("self", .ref a), ("_name", .str x), ("_value", .str v), ("_params", .ref D), ("parts", .ref pt)])
    (fun i _ σ' => σ' = σ3) () (S3.vars ⟨rfl, rfl, rfl, rfl, rfl, trivial⟩) rfl (fun i _ _ _ hi => absurd hi (Nat.not_lt_zero _)) ?_
  rintro - σ' s S rfl
  refine r_endItems S hh I3 GI D3 ?_
  intro s S
  refine ⟨rfl, ?_⟩
  have nl : l ≠ I := ne_new (g2.get (upd_off (g1.get (g0.get l1)) (Ne.symm npl))) hI
  have na : a ≠ I := ne_new (g2.get (upd_off (g1.get (g0.get a1)) (Ne.symm npa))) hI
  have nd : d ≠ I := ne_new (g2.get (upd_off (g1.get (g0.get d1)) (Ne.symm npd))) hI
  have np : pt ≠ I := ne_new (g2.get (upd_self (σ := σ1) (a := pt) (o := .list (List.map absv [] ++ [absv (.str v t)])))) hI
  have l4 := rem_off (gr.get l1) nl
  have a4 := rem_off (gr.get a1) na
  have d4 := rem_off (gr.get d1) nd
  have p4 := rem_off p3 np
  have T4 : PairsAt (rem σ' I) ps tb := (T.keep gr.keep).keep (Keep.rem I3 fun q => q)
  have b4 : But [I] σ (rem σ' I) := gr.but.trans (But.rem (by simp))
  have nI : σ I = none := by
    cases e : σ I with
    | none => rfl
    | some o => have := g2.get (upd_off (ao := .list (List.map absv [] ++ [absv (.str v t)])) (g1.get (g0.get e)) (ne_new (g0.get e) hpt)); rw [hI] at this; cases this
  have g4 : Grow σ (rem σ' I) := (b4.drop Grow.refl nI).grow
  generalize rem σ' I = σ5 at *
  repeat wtm_at "m"
  refine r_KWC W ‹St _ _ _ _ _ _› (convert W ‹St _ _ _ _ _ _› hh (by first | exact dpt hdp rfl | (simp only [depth_deeper]; omega)) (by first | exact upt hu rfl | (simp only [units_deeper]; omega)) hx.2.2 ?_)
  intro t s S
  repeat wtm_at "m"
  with_reducible refine' r_joinM ?_
  repeat wtm_at "m"
  refine r_join (ts := [v]) ‹St _ _ _ _ _ _› p4 (by simp only [List.map_cons, List.map_nil, List.sum_cons, List.sum_nil, List.length_cons, List.length_nil, len_sep]; omega) ?_
  intro t s S
  have ej : Txt.join "; " [v] = v := by rfl
  rw [ej]
  repeat wtm_at "m"
  refine r_newTup ‹St _ _ _ _ _ _› (Nat.le_of_ble_eq_true rfl) ?_
  intro tp s σ₆ htp Gtp g6 tp6 S6
  have l6 := g6.get l4
  have hz2 : ps.length ≤ 1000 := by rw [T.length]; exact hz
  repeat wtm_at "m"
  refine h _ _ (((g4.trans g6).but).trans (But.upd (by simp))) ⟨ps ++ [tp], upd_off (g6.get a4) nal, upd_off (g6.get d4) ndl, ?_, ?_⟩ (S00.back (by assumption))
  · rw [upd_self, List.map_append]; rfl
  · exact (show PairsAt _ (ps ++ [tp]) (tb ++ [(x, v)]) from All2.append (T4.keep g6.keep) ⟨tp6, trivial⟩).keep (Keep.upd l6 fun q => q)
theorem hd_init0 {a d : Addr} {Q : Value → Shared → Prop} (W : Wd (kk w.params) mg mb z.heap) (S0 : St z G env ε σ s) (hh : A.handled = none) (hdp : A.depth + 60 < recursionLimit) (hu : A.units + 300 < cLine)
   (ha : σ a = some (.inst 298 d)) (hd' : σ d = some (.ns 0 [])) (hGd : G d = none)
   (h : ∀ l s' σ', σ l = none → G l = none → But [d] σ σ' → HdAt σ' a d l [] → St z G env ε σ' s' → Q .none s') :
   codeAny (model PySem.Challenge.pw_pe0273_01 w) A (.call (.ref 190) ⟨[.ref a], []⟩) (CR Q E) s := by
  have nad : a ≠ d := ne_kind ha hd' (by intro e; cases e)
  have hh' : ∀ e, (A.deeper e).handled = none := fun e => hh
  refine enterR (binds := [("self", .ref a), ("headers", .none)]) W S0 (by first | exact room0 hdp | omega) (by exact rfl) (by k_is) rfl (by exact rfl) rfl rfl (fun L => by exact rfl) (by exact rfl) (by exact rfl) ?_
  have Gd1 := hidden_sto (h := s.heap) hGd hd'
  intro L s₁ env' C₁ S₁
  have hh := hh' env'
  repeat wtm_at "m"
  with_reducible refine' wpAny_IfExp ?_
  repeat wtm_at "m"
  with_reducible refine' PyProof.Rows.isnot_none_none ?_
  repeat wtm_at "m"
  refine r_ite (fun hs => by cases hs) fun hs => ?_
  repeat wtm_at "m"
  refine r_newList ‹St _ _ _ _ _ _› (Nat.le_of_ble_eq_true rfl) ?_
  intro l s σ1 hl Gl g1 l1 S1
  have a1 := g1.get ha
  have d1 := g1.get hd'
  repeat wtm_at "m"
  ((with_reducible refine' r_typeList ‹St _ _ _ _ _ _› ?lu56 ?_); (case lu56 => wtm_at "sto"))
  repeat wtm_at "m"
  with_reducible refine' r_isNotType ?_
  repeat wtm_at "m"
  refine r_ite (fun hs => by cases hs) fun hs => ?_
  repeat wtm_at "m"
  refine r_ite (fun hs => ?_) fun hs => by cases hs
  have nld : l ≠ d := Ne.symm (ne_new hd' hl)
  have l2 := upd_off (ao := .ns (0 + 1) (put [] "_headers" (absv (.ref l)))) l1 nld
  repeat wtm_at "m"
  refine r_iterList ‹St _ _ _ _ _ _› l2 ?_
  intro I s σ3 hI GI g3 I3 S3
  have nlI : l ≠ I := ne_new l2 hI
  have naI : a ≠ I := ne_new (upd_off a1 nad) hI
  have ndI : d ≠ I := ne_new upd_self hI
  refine r_loop (D := Unit) 0 (fun i _ => [("self", .ref a), ("headers", .ref l)])
    (fun i _ σ' => σ' = σ3) () (S3.vars ⟨rfl, rfl, trivial⟩) rfl (fun i _ _ _ hi => absurd hi (Nat.not_lt_zero _)) ?_
  rintro - σ' s S rfl
  refine r_endList S hh I3 GI (g3.get l2) (Nat.le_refl _) ?_
  intro s S
  refine ⟨rfl, ?_⟩
  repeat wtm_at "m"
  refine h l _ _ hl (G_of_hidden Gl) ?_ ⟨[], rem_off (g3.get (upd_off a1 nad)) naI, rem_off (g3.get upd_self) ndI, rem_off (g3.get l2) nlI, trivial⟩ (S0.back (by assumption))
  intro b o nb e
  rw [rem_ne (fun q => by subst q; have := upd_off (ao := .ns (0 + 1) (put [] "_headers" (absv (.ref l)))) (g1.get e) nb.1; rw [hI] at this; cases this)]
  exact g3.get (upd_off (g1.get e) nb.1)
theorem hd_init1 {a d l : Addr} {ps : List Addr} {tb : List (Str × Str)} {Q : Value → Shared → Prop} (W : Wd (kk w.params) mg mb z.heap) (S0 : St z G env ε σ s) (hh : A.handled = none) (hdp : A.depth + 60 < recursionLimit) (hu : A.units + 300 < cLine)
   (ha : σ a = some (.inst 298 d)) (hd' : σ d = some (.ns 0 [])) (hGd : G d = none) (hl : σ l = some (.list (ps.map .ref))) (T : PairsAt σ ps tb) (hz : tb.length ≤ 1000)
   (hn : ∀ p ∈ tb, Clean w true p.1 ∧ Clean w false p.2)
   (h : ∀ s' σ', But [d] σ σ' → HdAt σ' a d l tb → St z G env ε σ' s' → Q .none s') :
   codeAny (model PySem.Challenge.pw_pe0273_01 w) A (.call (.ref 190) ⟨[.ref a, .ref l], []⟩) (CR Q E) s := by
  have nad : a ≠ d := ne_kind ha hd' (by intro e; cases e)
  have nld : l ≠ d := ne_kind hl hd' (by intro e; cases e)
  have hh' : ∀ e, (A.deeper e).handled = none := fun e => hh
  refine enterR (binds := [("self", .ref a), ("headers", .ref l)]) W S0 (by first | exact room0 hdp | omega) (by exact rfl) (by k_is) rfl (by exact rfl) rfl rfl (fun L => by exact rfl) (by exact rfl) (by exact rfl) ?_
  have Gd1 := hidden_sto (h := s.heap) hGd hd'
  intro L s₁ env' C₁ S₁
  have hh := hh' env'
  repeat wtm_at "m"
  with_reducible refine' wpAny_IfExp ?_
  repeat wtm_at "m"
  with_reducible refine' PyProof.Rows.isnot_ref_none ?_
  repeat wtm_at "m"
  refine r_ite (fun hs => ?_) fun hs => by cases hs
  repeat wtm_at "m"
  ((with_reducible refine' r_typeList ‹St _ _ _ _ _ _› ?lu60 ?_); (case lu60 => wtm_at "sto"))
  repeat wtm_at "m"
  with_reducible refine' r_isNotType ?_
  repeat wtm_at "m"
  refine r_ite (fun hs => by cases hs) fun hs => ?_
  repeat wtm_at "m"
  refine r_ite (fun hs => ?_) fun hs => by cases hs
  have l2 := upd_off (ao := .ns (0 + 1) (put [] "_headers" (absv (.ref l)))) hl nld
  have a2 := upd_off (ao := .ns (0 + 1) (put [] "_headers" (absv (.ref l)))) ha nad
  have d2 := upd_self (σ := σ) (a := d) (o := .ns (0 + 1) (put [] "_headers" (absv (.ref l))))
  have T2 := T.keep (Keep.upd (ao := .ns (0 + 1) (put [] "_headers" (absv (.ref l)))) hd' fun q => q)
  have b2 : But [d] σ (upd σ d (.ns (0 + 1) (put [] "_headers" (absv (.ref l))))) := But.upd (by simp)
  generalize upd σ d (.ns (0 + 1) (put [] "_headers" (absv (.ref l)))) = σ2 at *
  repeat wtm_at "m"
  refine r_iterList ‹St _ _ _ _ _ _› l2 ?_
  intro I s σ3 hI GI g3 I3 S3
  have l3 := g3.get l2
  have a3 := g3.get a2
  have d3 := g3.get d2
  have T3 := T2.keep g3.keep
  have lI : l ≠ I := ne_new l2 hI
  have aI : a ≠ I := ne_new a2 hI
  have dI : d ≠ I := ne_new d2 hI
  have hlen := T.length
  refine r_loop (D := Unit) tb.length (fun i _ => [("self", .ref a), ("headers", .ref l)])
    (fun i _ σ' => But [I] σ3 σ' ∧ σ' I = some (litO l i)) () (S3.vars ⟨rfl, rfl, trivial⟩) ⟨But.refl, I3⟩ ?_ ?_
  · rintro i - σ' s hi S Hpat1
    refine and2 Hpat1 fun b hI' => ?_
    have l' := b.get l3 ⟨lI, trivial⟩
    refine ex1 (T2.get (i := i) (b := tb[i]) (by simp [hi])) fun p z2x0r => ?_
    refine and2 z2x0r fun hp ep => ?_
    refine r_nextList S hI' GI l' (av := .ref p) (by rw [List.getElem?_map, hp]; rfl) ?_
    intro s S
    refine Vals.ref ?_
    refine ⟨_, rfl, r_letList S upd_self ?_⟩
    have b' := b.trans (But.upd (l := I) (ao := litO l (i + 1)) (by simp : I ∈ [I]))
    have pI : p ≠ I := ne_new ep hI
    have ep' := b'.get (g3.get ep) ⟨pI, trivial⟩
    have a' := b'.get a3 ⟨aI, trivial⟩
    have d' := b'.get d3 ⟨dI, trivial⟩
    have I'' := upd_self (σ := σ') (a := I) (o := litO l (i + 1))
    generalize upd σ' I (litO l (i + 1)) = σ₄ at *
    have hni := hn _ (List.getElem_mem hi)
    repeat wtm_at "m"
    refine r_KWC W ‹St _ _ _ _ _ _› (convert W ‹St _ _ _ _ _ _› hh (by first | exact dpt hdp rfl | (simp only [depth_deeper]; omega)) (by first | exact upt hu rfl | (simp only [units_deeper]; omega)) hni.1 ?_)
    intro t s S
    repeat wtm_at "m"
    refine r_KWC W ‹St _ _ _ _ _ _› (convert W ‹St _ _ _ _ _ _› hh (by first | exact dpt hdp rfl | (simp only [depth_deeper]; omega)) (by first | exact upt hu rfl | (simp only [units_deeper]; omega)) hni.2 ?_)
    intro t s S
    repeat wtm_at "m"
    exact ⟨(), _, St.vars (by assumption) ⟨rfl, rfl, trivial⟩, b', I''⟩
  · rintro - σ' s S Hpat3
    refine and2 Hpat3 fun b hI' => ?_
    have l' := b.get l3 ⟨lI, trivial⟩
    refine r_endList S hh hI' GI l' (by rw [List.length_map]; omega) ?_
    intro s S
    refine ⟨rfl, ?_⟩
    repeat wtm_at "m"
    have gg : Grow σ2 (rem σ' I) := ((b.trans (But.rem (by simp : I ∈ [I]))).drop g3 hI).grow
    exact h _ _ (b2.trans gg.but) ⟨ps, gg.get a2, gg.get d2, gg.get l2, T2.keep gg.keep⟩ (S0.back (by assumption))
theorem new_hd0 {Q : Value → Shared → Prop} (W : Wd (kk w.params) mg mb z.heap) (S0 : St z G env ε σ s) (hh : A.handled = none) (hdp : A.depth + 80 < recursionLimit) (hu : A.units + 400 < cLine)
   (h : ∀ a d l s' σ', σ l = none → G l = none → Grow σ σ' → HdAt σ' a d l [] → St z G env ε σ' s' → Q (.ref a) s') :
   wpAny (model PySem.Challenge.pw_pe0273_01 w) A (call (.ref 298) []) Q E s := by
  refine r_make (fI := 190) W S0 (by k_is) (by k_is) (by k_is) ?_
  intro a d s' σ' ha hd' Ga Gd g a1 d1 S
  refine hd_init0 W S (by rw [handled_make]; exact hh) (by rw [depth_make]; omega) (by have := @units_make A 298 []; omega) a1 d1 Gd ?_
  intro l s'' σ'' hl Gl b at' S'
  refine ⟨rfl, h a d l s'' σ'' ?_ Gl (b.drop g hd').grow at' S'⟩
  cases e : σ l with
  | none => rfl
  | some o => have := g.get e; rw [hl] at this; cases this
theorem new_hd1 {l : Addr} {ps : List Addr} {tb : List (Str × Str)} {Q : Value → Shared → Prop} (W : Wd (kk w.params) mg mb z.heap) (S0 : St z G env ε σ s) (hh : A.handled = none) (hdp : A.depth + 80 < recursionLimit) (hu : A.units + 400 < cLine)
   (hl : σ l = some (.list (ps.map .ref))) (T : PairsAt σ ps tb) (hz : tb.length ≤ 1000) (hn : ∀ p ∈ tb, Clean w true p.1 ∧ Clean w false p.2)
   (h : ∀ a d s' σ', Grow σ σ' → HdAt σ' a d l tb → St z G env ε σ' s' → Q (.ref a) s') :
   wpAny (model PySem.Challenge.pw_pe0273_01 w) A (call (.ref 298) [.ref l]) Q E s := by
  refine r_make (fI := 190) W S0 (by k_is) (by k_is) (by k_is) ?_
  intro a d s' σ' ha hd' Ga Gd g a1 d1 S
  refine hd_init1 W S (by rw [handled_make]; exact hh) (by rw [depth_make]; omega) (by have := @units_make A 298 [.ref l]; omega) a1 d1 Gd (g.get hl) (T.keep g.keep) hz hn ?_
  intro s'' σ'' b at' S'
  exact ⟨rfl, h a d s'' σ'' (b.drop g hd').grow at' S'⟩
end
section
section
variable {prog : Program} {w : World} {A : Around} {E : Value → Shared → Prop} {s s' : Shared} {K : Frag} {mg mb : Str → Option Value} {z : Shared} {G : Addr → Option (Obj × Bool)} {env : Env} {ε : Vars} {σ σ' : Sto} {x : Str} {pos : Pos}
theorem St.swap {ls : List Addr} (S : St z G env ε σ s) (ad : Adv s s') (hls : ∀ a ∈ ls, (∃ o, σ a = some o) ∧ G a = none) (k : ∀ b o, b ∉ ls → s.heap.get? b = some o → s'.heap.get? b = some o)
    (hσ : ∀ a o, σ' a = some o → (a ∉ ls ∧ σ a = some o) ∨ (OR s'.heap a o ∧ (a ∈ ls ∨ s.heap.objs.size ≤ a))) : St z G env ε σ' s' := by
  have hL : env.locals ∉ ls := fun q => by obtain ⟨⟨o, e⟩, _⟩ := hls _ q; rw [S.locS] at e; cases e
  have lt : env.locals < s.heap.objs.size := by obtain ⟨m, hm, _⟩ := S.loc; exact hm.lt
  refine { S with adv := S.adv.trans ad, prot := ?_, loc := ?_, locS := ?_, cel := ?_, obj := ?_, objG := ?_ }
  · intro b o fl e
    exact k b o (fun q => by rw [(hls _ q).2] at e; cases e) (S.prot b o fl e)
  · obtain ⟨m, ⟨o, es, ep, ho, z⟩, q⟩ := S.loc
    exact ⟨m, ⟨o, es, ep, k _ _ hL ho, z⟩, q⟩
  · cases q : σ' env.locals with
    | none => rfl
    | some o =>
      rcases hσ _ _ q with ⟨_, h⟩ | ⟨_, h | h⟩
      · rw [S.locS] at h; cases h
      · exact absurd h hL
      · exact absurd lt (Nat.not_lt.mpr h)
  · intro x c e kd
    obtain ⟨⟨ov, y⟩, b, sn, n⟩ := S.cel x c e kd
    have hc : c ∉ ls := fun q => by obtain ⟨⟨o, e⟩, _⟩ := hls _ q; rw [sn] at e; cases e
    have hlt := y.lt
    obtain ⟨o, ho, hd⟩ := y
    refine ⟨⟨ov, o, k _ _ hc ho, hd⟩, fun av q => ?_, ?_, n⟩
    · obtain ⟨v, ⟨o', ho', hd'⟩, q⟩ := b av q
      exact ⟨v, ⟨o', k _ _ hc ho', hd'⟩, q⟩
    · cases q : σ' c with
      | none => rfl
      | some o =>
        rcases hσ _ _ q with ⟨_, h⟩ | ⟨_, h | h⟩
        · rw [sn] at h; cases h
        · exact absurd h hc
        · exact absurd hlt (Nat.not_lt.mpr h)
  · intro a o e
    rcases hσ a o e with ⟨n, h⟩ | ⟨h, _⟩
    · exact OR.mv (S.obj a o h) fun o' => k a o' n
    · exact h
  · intro a o e
    rcases hσ a o e with ⟨n, h⟩ | ⟨_, h | h⟩
    · exact S.objG a o h
    · exact .inl (hls a h).2
    · exact .inl (S.freshG h)

noncomputable def enmOut (it : Addr) (i : Int) (t : Addr) : AO := .raw fun o => ∃ item, o = { cls := .type "enumerate", dict := none, data := .fields #[rawInt t, .bool false, .ref it, rawInt i, .none, item], slots := #[] }
theorem r_enumerate {l : Addr} {vs : List AV} {Q : Value → Shared → Prop} (S : St z G env ε σ s) (hl : σ l = some (.list vs))
    (h : ∀ e it s' σ', σ e = none → σ it = none → e ≠ it → G e = none → G it = none → Grow σ σ' → σ' e = some (enmO it 0) → σ' it = some (litO l 0) → St z G env ε σ' s' → Q (.ref e) s') : wpAny (model prog w) A (call (.type "enumerate") [.ref l]) Q E s := by
  obtain ⟨items, n, ho, r⟩ := S.obj _ _ hl
  refine call_enumerate_list (isList_of ho) fun h' he hi hz hk => ?_
  have h1 := S.fresh (Nat.le_refl s.heap.objs.size)
  have h2 := S.fresh (Nat.le_succ s.heap.objs.size)
  have g1 := S.freshG (Nat.le_refl s.heap.objs.size)
  have g2 := S.freshG (Nat.le_succ s.heap.objs.size)
  have ne : s.heap.objs.size + 1 ≠ s.heap.objs.size := Nat.succ_ne_self _
  have gg : Grow σ (upd (upd σ s.heap.objs.size (litO l 0)) (s.heap.objs.size + 1) (enmO s.heap.objs.size 0)) := (Grow.upd h1).trans (Grow.upd (by rw [upd_ne ne]; exact h2))
  refine h (s.heap.objs.size + 1) s.heap.objs.size { s with heap := h' } _ h2 h1 ne g2 g1 gg upd_self (by rw [upd_ne (Ne.symm ne)]; exact upd_self) ?_
  refine S.swap (ls := []) (s' := { s with heap := h' }) ⟨rfl, rfl⟩ (fun a h => nomatch h) (fun b o _ e => hk b o e) fun a o e => ?_
  by_cases q : a = s.heap.objs.size + 1
  · subst q; rw [upd_self] at e; cases e; exact .inr ⟨⟨_, he, _, rfl⟩, .inr (Nat.le_succ _)⟩
  · rw [upd_ne q] at e
    by_cases q2 : a = s.heap.objs.size
    · subst q2; rw [upd_self] at e; cases e
      obtain ⟨o', ho', hp'⟩ := hi
      exact .inr ⟨⟨o', ho', hp'⟩, .inr (Nat.le_refl _)⟩
    · rw [upd_ne q2] at e; exact .inl ⟨(fun h => nomatch h), e⟩
theorem r_iterEnum {e it : Addr} {i : Int} {Q : Value → Shared → Prop} (S : St z G env ε σ s) (he : σ e = some (enmO it i)) (h : Q (.ref e) s) : wpAny (model prog w) A (pyIter (.ref e)) Q E s := by
  obtain ⟨o, ho, old, rfl⟩ := S.obj _ _ he
  exact wpAny_pyIter_enum ho h
theorem r_nextEnum {e it l : Addr} {i : Nat} {vs : List AV} {av : AV} {Q : Option Value → Shared → Prop} (S : St z G env ε σ s) (he : σ e = some (enmO it i)) (hi : σ it = some (litO l i)) (Ge : G e = none) (Gi : G it = none) (hl : σ l = some (.list vs)) (hx : vs[i]? = some av)
    (h : ∀ t s' σ', σ t = none → G t = none → But [e, it] σ σ' → σ' e = some (enmOut it ((i : Int) + 1) t) → σ' it = some (litO l (i + 1)) → σ' t = some (.tup [.int i, av]) → Keep isT σ σ' → St z G env ε σ' s' → Q (some (.ref t)) s') :
    wpAny (model prog w) A (pyNext (.ref e)) Q E s := by
  obtain ⟨o, ho, old, rfl⟩ := S.obj _ _ he
  obtain ⟨oi, hoi, hpi⟩ := S.obj _ _ hi
  obtain ⟨items, n, hlo, r⟩ := S.obj _ _ hl
  obtain ⟨v, hv, vr⟩ := r.get hx
  have ne : e ≠ it := ne_kind he hi (fun q => by
    have h1 : OR s.heap e (litO l i) := by rw [← q]; exact S.obj _ _ he
    obtain ⟨o', ho', hc, _⟩ := h1
    rw [ho] at ho'; cases ho'
    simp at hc)
  refine wpAny_pyNext_enum_item (l := l) ho ⟨oi, hoi, hpi⟩ (isList_of hlo) (by simpa using hv) ne fun h' heo hit ht hz hk => ?_
  have ft := S.fresh (Nat.le_refl s.heap.objs.size)
  have te : e ≠ s.heap.objs.size := ne_new he ft
  have ti : it ≠ s.heap.objs.size := ne_new hi ft
  refine h s.heap.objs.size { s with heap := h', toks := s.toks + 1 } (upd (upd (upd σ e (enmOut it ((i : Int) + 1) s.heap.objs.size)) it (litO l (i + 1))) s.heap.objs.size (.tup [.int i, av])) ft (S.freshG (Nat.le_refl _)) ?_ ?_ ?_ upd_self ?_ ?_
  · intro a o na ea
    rw [upd_ne (ne_new ea ft), upd_ne na.2.1, upd_ne na.1]; exact ea
  · rw [upd_ne te, upd_ne ne]; exact upd_self
  · rw [upd_ne ti]; exact upd_self
  · exact ((Keep.upd he fun q => q).trans (Keep.upd (upd_off hi (Ne.symm ne)) fun q => q)).trans (Grow.upd (by rw [upd_ne (Ne.symm ti), upd_ne (Ne.symm te)]; exact ft)).keep
  · refine S.swap (ls := [e, it]) (s' := { s with heap := h', toks := s.toks + 1 }) ⟨rfl, rfl⟩ (fun a ha => ?_) (fun b o nb eb => ?_) fun a o ea => ?_
    · simp only [List.mem_cons, List.not_mem_nil, or_false] at ha
      rcases ha with rfl | rfl
      · exact ⟨⟨_, he⟩, Ge⟩
      · exact ⟨⟨_, hi⟩, Gi⟩
    · simp only [List.mem_cons, List.not_mem_nil, or_false, not_or] at nb
      exact hk b o nb.1 nb.2 eb
    · by_cases q : a = s.heap.objs.size
      · subst q; rw [upd_self] at ea; cases ea
        exact .inr ⟨⟨[.int i s.toks, v], _, ht, ⟨_, _, rfl, ⟨_, rfl⟩, ⟨_, _, rfl, vr, rfl⟩⟩⟩, .inr (Nat.le_refl _)⟩
      · rw [upd_ne q] at ea
        by_cases q2 : a = it
        · subst q2; rw [upd_self] at ea; cases ea
          obtain ⟨o', ho', hp'⟩ := hit
          exact .inr ⟨⟨o', ho', hp'⟩, .inl (by simp)⟩
        · rw [upd_ne q2] at ea
          by_cases q3 : a = e
          · subst q3; rw [upd_self] at ea; cases ea
            exact .inr ⟨⟨_, heo, _, rfl⟩, .inl (by simp)⟩
          · rw [upd_ne q3] at ea
            exact .inl ⟨by simp [q2, q3], ea⟩
theorem r_letEnum {e it t : Addr} {i : Int} {elts : List Expr} {x1 : Nat} {p : Pos} {Q : Unit → Shared → Prop} (S : St z G env ε σ s) (he : σ e = some (enmOut it i t)) (Ge : G e = none) (h : ∀ s', St z G env ε (upd σ e (enmO it i)) s' → Q () s') :
    wpAny (model prog w) A (letOwnedTupleGo (.Tuple elts x1 p) (.ref e) (.ref t)) Q E s := by
  obtain ⟨o, ho, item, rfl⟩ := S.obj _ _ he
  refine wpAny_letOwnedTupleGo_enum ho fun h' he' hs' => ?_
  exact h _ (S.turn (s' := { s with heap := h' }) ⟨rfl, rfl⟩ he Ge (fun b o e1 e2 => (hs'.2 b e1).trans e2) ⟨_, he', item, rfl⟩)
theorem r_endEnum {e it l : Addr} {i : Nat} {vs : List AV} {Q : Option Value → Shared → Prop} (S : St z G env ε σ s) (hh : A.handled = none) (he : σ e = some (enmO it i)) (hi : σ it = some (litO l i)) (Gi : G it = none) (hl : σ l = some (.list vs)) (hx : vs.length ≤ i)
    (h : ∀ s', St z G env ε (rem σ it) s' → Q none s') : wpAny (model prog w) A (pyNext (.ref e)) Q E s := by
  obtain ⟨o, ho, old, rfl⟩ := S.obj _ _ he
  obtain ⟨oi, hoi, hpi⟩ := S.obj _ _ hi
  obtain ⟨items, n, hlo, r⟩ := S.obj _ _ hl
  have hlen := r.length
  exact wpAny_pyNext_enum_end (l := l) hh ho ⟨oi, hoi, hpi⟩ (isList_of hlo) (by simp; omega) fun h' hs => h _ (S.lose (s' := { s with heap := h' }) ⟨rfl, rfl⟩ hi Gi fun b o e1 e2 => hs b o e1 e2)
end
end
section
noncomputable def pickL {α : Type} (xs : List α) (lo hi st : Option Int) : List α :=
  (sliceRange (sliceBounds lo hi st xs.length).1 (sliceBounds lo hi st xs.length).2.1 (sliceBounds lo hi st xs.length).2.2).filterMap (xs[·]?)
theorem pickL_val (items : List Value) (lo hi st : Option Int) : slicePick items.toArray lo hi st = (pickL items lo hi st).toArray := by
  unfold slicePick pickL
  simp
theorem VRs.filterMap {vs : List AV} {items : List Value} (r : VRs vs items) : ∀ ks : List Nat, VRs (ks.filterMap (vs[·]?)) (ks.filterMap (items[·]?))
  | [] => rfl
  | k :: ks => by
    have ih := VRs.filterMap r ks
    rw [List.filterMap_cons, List.filterMap_cons]
    cases e : vs[k]? with
    | some a =>
      refine ex1 (r.get e) fun v z0x0r => ?_
      refine and2 z0x0r fun hv vr => ?_
      rw [hv]
      exact VRs.cons vr ih
    | none =>
      have : items[k]? = none := by
        rw [List.getElem?_eq_none_iff] at e ⊢
        rw [r.length]; exact e
      rw [this]
      exact ih
theorem VRs.pick {vs : List AV} {items : List Value} (r : VRs vs items) (lo hi st : Option Int) : VRs (pickL vs lo hi st) (pickL items lo hi st) := by
  unfold pickL
  rw [r.length]
  exact r.filterMap _
theorem pickL_from {α : Type} (xs : List α) (a : Nat) (ha : a ≤ xs.length) : pickL xs (some a) none none = xs.drop a := by
  have e : sliceBounds (some (a : Int)) none none xs.length = ((a : Int), (xs.length : Int), 1) := by
    simp only [sliceBounds, Option.getD_none]
    have h1 : ¬ ((a : Int) < 0) := by omega
    simp only [h1, if_false, show (1 : Int) > 0 by decide, if_true]
    congr 1
    omega
  unfold pickL
  rw [e]
  have := pick_run xs.toArray a (xs.length - a)
  simp only [List.getElem?_toArray] at this
  simp only [sliceRange_one, this]
  rw [List.take_of_length_le (by simp)]
theorem pickL_map {α β : Type} (f : α → β) (xs : List α) (lo hi st : Option Int) : pickL (xs.map f) lo hi st = (pickL xs lo hi st).map f := by
  unfold pickL
  rw [List.length_map]
  generalize sliceRange _ _ _ = ks
  induction ks with
  | nil => rfl
  | cons k ks ih =>
    rw [List.filterMap_cons, List.filterMap_cons, List.getElem?_map]
    cases e : xs[k]? with
    | none => simpa using ih
    | some a => simp only [Option.map_some, List.map_cons]; rw [ih]
section
variable {prog : Program} {w : World} {A : Around} {E : Value → Shared → Prop} {s s' : Shared} {K : Frag} {mg mb : Str → Option Value} {z : Shared} {G : Addr → Option (Obj × Bool)} {env : Env} {ε : Vars} {σ σ' : Sto} {x : Str} {pos : Pos}
noncomputable def slcO (lo hi st : Option Int) : AO := .raw fun o => ∃ vl vu vk, o = { cls := .type "slice", dict := none, data := .fields #[vl, vu, vk], slots := #[] } ∧ IsPart vl lo ∧ IsPart vu hi ∧ IsPart vk st
noncomputable def MkS (l u st : Value) (Q : Value → Shared → Prop) (s : Shared) : Prop := Q (.ref s.heap.objs.size) { s with heap := s.heap.push { cls := .type "slice", data := .fields #[l, u, st] } }
theorem r_SliceG {M : Model} {lower upper step : Option Expr} {p : Pos} {Q : Value → Shared → Prop} (h : wpAny M A (evalPart lower env) (fun l s₁ => wpAny M A (evalPart upper env) (fun u s₂ => wpAny M A (evalPart step env) (fun st s₃ => MkS l u st Q s₃) E s₂) E s₁) E s) :
    wpAny M A (eval (.Slice lower upper step p) env) Q E s := wpAny_Slice h
theorem r_partN {M : Model} {Q : Value → Shared → Prop} (h : Q .none s) : wpAny M A (evalPart none env) Q E s := wpAny_pure h
theorem r_partS {M : Model} {e : Expr} {Q : Value → Shared → Prop} (h : wpAny M A (eval e env) Q E s) : wpAny M A (evalPart (some e) env) Q E s := h
theorem r_MkS {l u k : Value} {lo hi st : Option Int} {Q : Value → Shared → Prop} (S : St z G env ε σ s) (pl : IsPart l lo) (pu : IsPart u hi) (pk : IsPart k st) (h : ∀ a s' σ', σ a = none → G a = none → Grow σ σ' → σ' a = some (slcO lo hi st) → St z G env ε σ' s' → Q (.ref a) s') : MkS l u k Q s :=
  h _ _ _ (S.fresh (Nat.le_refl _)) (S.freshG (Nat.le_refl _)) (Grow.upd (S.fresh (Nat.le_refl _))) upd_self (S.new ⟨rfl, rfl⟩ (Nat.le_refl _) (fun _ _ e => Heap.get?_push_of_some _ e) ⟨_, Heap.get?_push_size _ rfl, l, u, k, rfl, pl, pu, pk⟩)
theorem r_sliced {value slice : Expr} {l sl : Addr} {vs : List AV} {lo hi st : Option Int} {Q : Value → Shared → Prop} (S : St z G env ε σ s) (hl : σ l = some (.list vs)) (hs : σ sl = some (slcO lo hi st)) (h0 : st ≠ some 0) (hz : vs.length ≤ 100000)
    (h : ∀ a s' σ', σ a = none → G a = none → Grow σ σ' → σ' a = some (.list (pickL vs lo hi st)) → St z G env ε σ' s' → Q (.ref a) s')
    (hsub : subscripted slice false (.ref l) (.ref sl) = operate [.ref sl, .ref l] (getItem (.ref l) (.ref sl)) := by with_unfolding_all rfl) : wpAny (model prog w) A (subscriptTail value slice (.ref l) (.ref sl)) Q E s := by
  refine ex2 (S.obj _ _ hl) fun items n z1x0r => ?_
  refine and2 z1x0r fun ho r => ?_
  refine ex1 (S.obj _ _ hs) fun os z2x0r => ?_
  refine and2 z2x0r fun hos z2x1r => ?_
  refine ex3 z2x1r fun vl vu vk z2x2r => ?_
  refine and4 z2x2r fun z2x5 pl pu pk => ?_
  subst z2x5
  have hlen := r.length
  refine tail_any (isList_of ho).typeIs list_getitem_lookup (wpAny_getItem_list_slice (isList_of ho) ⟨_, hos, rfl, rfl⟩ pl pu pk h0 ?_ (by rw [sizeLine_eq, List.size_toArray]; omega)) hsub
  rw [pickL_val]
  exact h _ _ _ (S.fresh (Nat.le_refl _)) (S.freshG (Nat.le_refl _)) (Grow.upd (S.fresh (Nat.le_refl _))) upd_self (S.new ⟨rfl, rfl⟩ (Nat.le_refl _) (fun _ _ e => Heap.get?_push_of_some _ e) ⟨_, _, Heap.get?_push_size _ rfl, r.pick _ _ _⟩)
theorem r_inTup {t : Addr} {is : List Int} {k : Int} {u : Tok} {Q : Value → Shared → Prop} (S : St z G env ε σ s) (ht : σ t = some (.tup (is.map .int))) (h : Q (.bool (is.any (· == k))) s) :
    wpAny (model prog w) A (compareOp .In (.int k u) (.ref t)) Q E s := by
  refine ex2 (S.obj _ _ ht) fun items n z3x0r => ?_
  refine and2 z3x0r fun ho r => ?_
  let e : Value → Bool := fun v => match v with | .int i _ => i == k | _ => false
  have all : ∀ (is : List Int) (items : List Value), VRs (is.map .int) items → (∀ y ∈ items, EqAt (A.in1) s y (.int k u) (e y)) ∧ items.any e = is.any (· == k) := by
    intro is
    induction is with
    | nil => intro items r; cases r; exact ⟨(fun y h => nomatch h), rfl⟩
    | cons i is ih =>
      intro items r
      obtain ⟨v, rest, rfl, ⟨t, rfl⟩, r⟩ := r
      obtain ⟨h1, h2⟩ := ih rest r
      refine ⟨fun y hy => ?_, ?_⟩
      · rcases List.mem_cons.mp hy with rfl | hy
        · exact EqAt.int_int i t k u
        · exact h1 y hy
      · rw [List.any_cons, List.any_cons, h2]
  refine and2 (all is items r) fun h1 h2 => ?_
  refine in_tupleAt (items := items.toArray) e ⟨_, ho, rfl, n, rfl⟩ (fun y hy => h1 y (by simpa using hy)) ?_
  rw [List.any_toArray, h2]
  exact h
theorem r_itemAny {value slice : Expr} {l : Addr} {vs : List AV} {k : Int} {u : Tok} {av : AV} {Q : Value → Shared → Prop} (S : St z G env ε σ s) (hl : σ l = some (.list vs)) (h0 : 0 ≤ k) (hfit : k < 2 ^ 63) (hx : vs[k.toNat]? = some av)
    (h : ValsQ av Q s) (hs : subscripted slice false (.ref l) (.int k u) = operate [.ref l, .int k u] (getItem (.ref l) (.int k u)) := by with_unfolding_all rfl) :
    wpAny (model prog w) A (subscriptTail value slice (.ref l) (.int k u)) Q E s := r_item S hl h0 hfit hx h hs
theorem r_neg {i : Int} {t : Tok} {Q : Value → Shared → Prop} (S : St z G env ε σ s) (h : ∀ t s', St z G env ε σ s' → Q (.int (-i) t) s') : wpAny (model prog w) A (unaryOp .USub (.int i t)) Q E s := PyProof.Rows.neg_int (h _ _ S.tick)
end
end
local macro_rules | `(tactic| wtm_at "m1") => `(tactic| first
  | with_reducible refine' r_SliceG ?_
  | with_reducible refine' r_partN ?_
  | with_reducible refine' r_partS ?_
  | with_reducible refine' wpAny_UnaryOp ?_
  | ((with_reducible refine' r_neg ‹St _ _ _ _ _ _› ?_); intro _ _ _))
section
section
variable {prog : Program} {w : World} {A : Around} {E : Value → Shared → Prop} {s s' : Shared} {K : Frag} {mg mb : Str → Option Value} {z : Shared} {G : Addr → Option (Obj × Bool)} {env : Env} {ε : Vars} {σ σ' : Sto} {x : Str} {pos : Pos}
theorem r_compStore {y : Str} {py : Pos} {D : Addr} {Q : Value → Shared → Prop} (S : St z G env ε σ s) (hl : env.kindOf y = some .local) (h : ∀ s', St z G env (put ε y (.ref D)) σ s' → Q .none s') :
    CompEnd (model prog w) A E z G env (some (assign (.Name y py) env)) Q ε σ D s := by
  unfold CompEnd
  intro C m nC hcC GC SC hC
  refine wpAny_assign_Name ?_
  refine ex1 S.loc fun ml z0x0r => ?_
  refine and2 z0x0r fun hm q => ?_
  refine wpAny_storeName_local hl hm (fun h' hn hs => ?_) ?_
  · refine ex3 hC fun o es ep z1x0r => ?_
    refine and2 z1x0r fun hoC r => ?_
    exact ⟨⟨m, o, es, ep, (hs.2 C nC).trans hoC, r⟩, _, S.storeLocal (s' := { s with heap := h', toks := s.toks + 1 }) ⟨rfl, rfl⟩ hl (vr_abs (.ref D)) q hn hs, fun s'' S'' => h _ S''⟩
  · show (env.scope.kind == .class || (env.scope.kind == .module && env.locals != env.globals)) = false
    rw [S.fn]; rfl
theorem r_itT {X Y : Prop} (h : X) : if true = true then X else Y := h
theorem r_itF {X Y : Prop} (h : Y) : if false = true then X else Y := h
end
end
local macro_rules | `(tactic| wtm_at "m1") => `(tactic| first
  | with_reducible refine' r_itT ?_)
section
structure Rw where
  lead : Str
  deed : Int
  name : Str
  kind : Int
  value : Str
noncomputable def rw0 : Rw := ⟨"", 0, "", 0, ""⟩
noncomputable def rwT (r : Rw) : AO := .tup [.str r.lead, .int r.deed, .str r.name, .int r.kind, .str r.value]
noncomputable def RwsAt (σ : Sto) (ps : List Addr) (rs : List Rw) : Prop := All2 (fun p r => σ p = some (rwT r)) ps rs
theorem RwsAt.keep {σ σ' : Sto} {ps : List Addr} {rs : List Rw} (h : RwsAt σ ps rs) (k : Keep isT σ σ') : RwsAt σ' ps rs := All2.mono (P' := fun p (r : Rw) => σ' p = some (rwT r)) (fun _ _ e => k _ _ e trivial) h
noncomputable def overB (rs : List Rw) (k m : Int) : Bool := ((rs.getD (m - 1).toNat rw0).deed == 1 || (rs.getD (m - 1).toNat rw0).deed == 3) && (rs.getD (m - 1).toNat rw0).kind == (rs.getD (k - 1).toNat rw0).kind
noncomputable def standF (rs : List Rw) (laid : List Bool) : List Int → List Int
  | [] => []
  | k :: r => if laid.getD k.toNat false && !(r.any (overB rs k)) then k :: standF rs laid r else standF rs laid r
variable {w : World} {A : Around} {E : Value → Shared → Prop} {s z : Shared} {mg mb : Str → Option Value} {G : Addr → Option (Obj × Bool)} {env : Env} {ε : Vars} {σ : Sto}
theorem standing {rl sl ll : Addr} {ps : List Addr} {rs : List Rw} {sight : List Int} {laid : List Bool} {Q : Value → Shared → Prop} (W : Wd (kk w.params) mg mb z.heap) (S0 : St z G env ε σ s) (hh : A.handled = none) (hdp : A.depth + 40 < recursionLimit) (hu : A.units + 200 < cLine)
   (hr : σ rl = some (.list (ps.map .ref))) (R : RwsAt σ ps rs) (hs : σ sl = some (.list (sight.map .int))) (hl : σ ll = some (.list (laid.map .bool))) (hz : rs.length ≤ 1000) (hz2 : sight.length ≤ 1000)
   (hk : ∀ k ∈ sight, 1 ≤ k ∧ k ≤ rs.length ∧ k < laid.length) (hlz : laid.length ≤ 1000)
   (h : ∀ l s' σ', σ l = none → G l = none → Grow σ σ' → σ' l = some (.list ((standF rs laid sight).map .int)) → St z G env ε σ' s' → Q (.ref l) s') :
   wpAny (model PySem.Challenge.pw_pe0273_01 w) A (call (.ref 345) [.ref rl, .ref sl, .ref ll]) Q E s := by
  have hh' : ∀ e, (A.deeper e).handled = none := fun e => hh
  refine enterC (binds := [("rows", .ref rl), ("sight", .ref sl), ("laid", .ref ll)]) W S0 (by first | exact room0 hdp | omega) (by exact rfl) (by k_is) rfl rfl rfl rfl (fun L => by exact rfl) (by exact rfl) (by exact rfl) ?_
  intro L s₁ env' C₁ S₁
  have hh := hh' env'
  repeat wtm_at "m"
  refine r_newList ‹St _ _ _ _ _ _› (Nat.le_of_ble_eq_true rfl) ?_
  intro out s σ1 ho Go g1 out1 S1
  repeat wtm_at "m"
  refine r_enumerate ‹St _ _ _ _ _ _› (g1.get hs) ?_
  intro e it s σ2 he hit eit Ge Gi g2 e2 it2 S2
  repeat wtm_at "m"
  refine r_iterEnum ‹St _ _ _ _ _ _› e2 ?_
  have hr2 := g2.get (g1.get hr)
  have R2 := R.keep (g1.trans g2).keep
  have hs2 := g2.get (g1.get hs)
  have hl2 := g2.get (g1.get hl)
  have out2 := g2.get out1
  have n1 : rl ≠ out := ne_new hr ho
  have n2 : sl ≠ out := ne_new hs ho
  have n3 : ll ≠ out := ne_new hl ho
  have n4 : rl ≠ e := ne_new (g1.get hr) he
  have n5 : sl ≠ e := ne_new (g1.get hs) he
  have n6 : ll ≠ e := ne_new (g1.get hl) he
  have n7 : rl ≠ it := ne_new (g1.get hr) hit
  have n8 : sl ≠ it := ne_new (g1.get hs) hit
  have n9 : ll ≠ it := ne_new (g1.get hl) hit
  have n10 : out ≠ e := ne_new out1 he
  have n11 : out ≠ it := ne_new out1 hit
  refine r_loop (D := List Int) sight.length (fun i _ => [("rows", .ref rl), ("sight", .ref sl), ("laid", .ref ll), ("standing", .ref out)])
    (fun i acc σ' => But [out, e, it] σ2 σ' ∧ Keep isT σ2 σ' ∧ σ' e = some (enmO it i) ∧ σ' it = some (litO sl i) ∧ σ' out = some (.list (acc.map .int)) ∧ acc ++ standF rs laid (sight.drop i) = standF rs laid sight ∧ acc.length ≤ i) [] (S2.vars ⟨rfl, rfl, rfl, rfl, trivial⟩) ⟨But.refl, fun _ _ e _ => e, e2, it2, out2, rfl, Nat.le_refl _⟩ ?_ ?_
  · rintro i acc σ' s hi S Hpat0
    refine and7 Hpat0 fun b kp e' it' out' hacc hal => ?_
    have hsx : (sight.map AV.int)[i]? = some (.int sight[i]) := by rw [List.getElem?_map]; simp [hi]
    refine r_nextEnum S e' it' Ge Gi (b.get hs2 ⟨n2, n5, n8, trivial⟩) hsx ?_
    intro t s σ3 ht Gt b3 e3 it3 t3 kp3 S3
    refine ⟨_, rfl, ?_⟩
    refine r_letEnum S3 e3 Ge ?_
    intro s S4
    have out3 : upd σ3 e (enmO it ((i : Int) + 1)) out = some (.list (acc.map .int)) := upd_off (b3.get out' ⟨n10, n11, trivial⟩) n10
    have te : t ≠ e := ne_kind t3 e3 (by intro q; cases q)
    have t4 := upd_off (ao := enmO it ((i : Int) + 1)) t3 te
    have it4 := upd_off (ao := enmO it ((i : Int) + 1)) it3 (Ne.symm eit)
    have e4 := upd_self (σ := σ3) (a := e) (o := enmO it ((i : Int) + 1))
    have kp4 : Keep isT σ2 (upd σ3 e (enmO it ((i : Int) + 1))) := (kp.trans kp3).trans (Keep.upd e3 fun q => q)
    have b4 : But [out, e, it] σ2 (upd σ3 e (enmO it ((i : Int) + 1))) := (b.trans (b3.mono (by simp))).trans (But.upd (by simp))
    generalize upd σ3 e (enmO it ((i : Int) + 1)) = σ4 at *
    have hr4 := b4.get hr2 ⟨n1, n4, n7, trivial⟩
    have hs4 := b4.get hs2 ⟨n2, n5, n8, trivial⟩
    have hl4 := b4.get hl2 ⟨n3, n6, n9, trivial⟩
    have R4 := R2.keep kp4
    repeat wtm_at "m"
    ((with_reducible refine' r_AssignListComp ?au84 ?bu84 ?cu84 ?du84 ?eu84 ?_); (case au84 => exact rfl); (case bu84 => with_unfolding_all rfl); (case cu84 => exact rfl); (case du84 => decide); (case eu84 => intro _; exact rfl))
    repeat wtm_at "m"
    refine r_MkS ‹St _ _ _ _ _ _› (.int _ _) .none .none ?_
    intro sc s σ5 hsc Gsc g5 sc5 S5
    refine r_sliced S5 (g5.get hs4) sc5 (by simp) (by rw [List.length_map]; omega) ?_
    intro rest s σ6 hrest Grest g6 rest6 S6
    have ep : pickL (sight.map AV.int) (some ((i : Int) + 1)) none none = (sight.drop (i + 1)).map .int := by
      rw [show ((i : Int) + 1) = ((i + 1 : Nat) : Int) by omega, pickL_from _ _ (by rw [List.length_map]; omega), List.map_drop]
    rw [ep] at rest6
    refine r_iterList S6 rest6 ?_
    intro I s σ7 hI GI g7 I7 S7
    have g57 := (g5.trans g6).trans g7
    have hr7 := g57.get hr4
    have R7 := R4.keep g57.keep
    have rest7 := g7.get rest6
    have nrI : rest ≠ I := ne_new rest6 hI
    have nlI : rl ≠ I := ne_new (g6.get (g5.get hr4)) hI
    have hki := hk _ (List.getElem_mem hi)
    let k := sight[i]
    let f : Int → Bool := overB rs k
    have hkl : (sight.drop (i + 1)).length ≤ 1000 := by rw [List.length_drop]; omega
    have hkm : ∀ m ∈ sight.drop (i + 1), 1 ≤ m ∧ m ≤ rs.length := fun m hm => ⟨(hk m (List.mem_of_mem_drop hm)).1, (hk m (List.mem_of_mem_drop hm)).2.1⟩
    have hdrop : sight.drop i = k :: sight.drop (i + 1) := List.drop_eq_getElem_cons hi
    generalize hrs : sight.drop (i + 1) = rst at *
    have hps := R.length
    refine r_compK (Dt := Unit) (ε' := [("rows", .ref rl), ("k", .int k)]) rst.length
      (fun j D _ σ' => But [D, I] σ7 σ' ∧ σ' D = some (.list (((rst.take j).filter f).map .int)) ∧ σ' I = some (litO rest j) ∧ Keep isT σ7 σ')
      (fun D _ σ' => But [D, I] σ7 σ' ∧ σ' D = some (.list ((rst.filter f).map .int)) ∧ Keep isT σ7 σ')
      () S7 (by decide) (by exact rfl) (by exact ⟨⟨rfl, rfl⟩, ⟨rfl, rfl⟩, trivial⟩) (by exact rfl) (by exact ⟨rfl, rfl, trivial⟩) (by intro C; exact ⟨rfl, rfl, trivial⟩) I7 self_lit ?_ ?_ ?_ ?_
    · intro D hD
      refine ⟨But.upd (by simp), upd_self, ?_, (Grow.upd hD).keep⟩
      rw [upd_ne (ne_new I7 hD)]; exact I7
    · intro D C j _ σ' s' N en hj hD hGD hGC S ⟨b, hD', hI', kp⟩
      have GI' := hidden_sto (h := s.heap) GI I7
      have DI : D ≠ I := Ne.symm (ne_new I7 hD)
      have rD : rest ≠ D := ne_new rest7 hD
      have rest' := b.get rest7 ⟨rD, nrI, trivial⟩
      refine r_nextList S hI' GI' rest' (av := .int rst[j]) (by rw [List.getElem?_map]; simp [hj]) ?_
      intro s S
      refine Vals.int fun t => ?_
      refine ⟨_, rfl, ?_⟩
      have k1 : Keep isT σ' (upd σ' I (litO rest (j + 1))) := Keep.upd hI' fun q => q
      have hD'' := upd_off (ao := litO rest (j + 1)) hD' DI
      have I'' := upd_self (σ := σ') (a := I) (o := litO rest (j + 1))
      have b'' := b.trans (But.upd (l := I) (ao := litO rest (j + 1)) (by simp : I ∈ [D, I]))
      have kp'' := kp.trans k1
      generalize upd σ' I (litO rest (j + 1)) = σ8 at *
      have nlD : rl ≠ D := ne_new hr7 hD
      have hr8 := b''.get hr7 ⟨nlD, nlI, trivial⟩
      have R8 := R7.keep kp''
      have hm1 := hkm _ (List.getElem_mem hj)
      refine ex1 (R8.get (i := (rst[j] - 1).toNat) (b := rs.getD (rst[j] - 1).toNat rw0) (by rw [List.getD_eq_getElem?_getD, List.getElem?_eq_getElem (by omega)]; rfl)) fun pm z1x0r => ?_
      refine and2 z1x0r fun hpm epm => ?_
      refine ex1 (R8.get (i := (k - 1).toNat) (b := rs.getD (k - 1).toNat rw0) (by rw [List.getD_eq_getElem?_getD, List.getElem?_eq_getElem (by omega)]; rfl)) fun pk z2x0r => ?_
      refine and2 z2x0r fun hpk epk => ?_
      repeat wtm_at "m"
      refine r_tests1 ?_
      (with_reducible refine' wpAny_isTrue_BoolOp ?_)
      repeat wtm_at "m"
      have hdm : rwT (rs.getD (rst[j] - 1).toNat rw0) = .tup [.str (rs.getD (rst[j] - 1).toNat rw0).lead, .int (rs.getD (rst[j] - 1).toNat rw0).deed, .str (rs.getD (rst[j] - 1).toNat rw0).name, .int (rs.getD (rst[j] - 1).toNat rw0).kind, .str (rs.getD (rst[j] - 1).toNat rw0).value] := rfl
      have hf : f rst[j] = (((rs.getD (rst[j] - 1).toNat rw0).deed == 1 || (rs.getD (rst[j] - 1).toNat rw0).deed == 3) && (rs.getD (rst[j] - 1).toNat rw0).kind == (rs.getD (k - 1).toNat rw0).kind) := rfl
      generalize rs.getD (rst[j] - 1).toNat rw0 = rm at *
      generalize hrk : rs.getD (k - 1).toNat rw0 = rk at *
      refine r_itemAny ‹St _ _ _ _ _ _› hr8 (by omega) (by omega) (av := .ref pm) (by rw [List.getElem?_map, hpm]; rfl) (Vals.ref ?_) (hs := by with_unfolding_all rfl)
      repeat wtm_at "m"
      refine r_titem (k := 1) ‹St _ _ _ _ _ _› epm (by decide) rfl (Vals.int fun t => ?_) (hs := by with_unfolding_all rfl)
      repeat wtm_at "m"
      refine r_newTup ‹St _ _ _ _ _ _› (Nat.le_of_ble_eq_true rfl) ?_
      intro tp s σ9 htp Gtp g9 tp9 S9
      have hr9 := g9.get hr8
      have epm9 := g9.get epm
      have epk9 := g9.get epk
      have hD9 := g9.get hD''
      have I9 := g9.get I''
      have b9 := b''.trans g9.but
      have kp9 := kp''.trans g9.keep
      repeat wtm_at "m"
      refine r_inTup (is := [1, 3]) ‹St _ _ _ _ _ _› tp9 ?_
      repeat wtm_at "m"
      have htk : rst.take (j + 1) = rst.take j ++ [rst[j]] := by rw [List.take_add_one]; simp [hj]
      have efalse : f rst[j] = false → ((rst.take (j + 1)).filter f) = (rst.take j).filter f := fun q => by
        rw [htk, List.filter_append]
        have : [rst[j]].filter f = [] := by rw [List.filter_cons, if_neg (by rw [q]; decide)]; rfl
        rw [this, List.append_nil]
      have etrue : f rst[j] = true → ((rst.take (j + 1)).filter f) = (rst.take j).filter f ++ [rst[j]] := fun q => by
        rw [htk, List.filter_append]
        have : [rst[j]].filter f = [rst[j]] := by rw [List.filter_cons, if_pos q]; rfl
        rw [this]
      have eany : ([1, 3] : List Int).any (· == rm.deed) = (rm.deed == 1 || rm.deed == 3) := by
        simp only [List.any_cons, List.any_nil, Bool.or_false]
        rw [Bool.eq_iff_iff]; simp; constructor <;> (rintro (h | h) <;> simp [h])
      rw [eany]
      refine r_ite (fun hs1 => ?_) fun hs1 => ?_
      · repeat wtm_at "m"
        refine r_itemAny ‹St _ _ _ _ _ _› hr9 (by omega) (by omega) (av := .ref pm) (by rw [List.getElem?_map, hpm]; rfl) (Vals.ref ?_) (hs := by with_unfolding_all rfl)
        repeat wtm_at "m"
        refine r_titem (k := 3) ‹St _ _ _ _ _ _› epm9 (by decide) rfl (Vals.int fun t => ?_) (hs := by with_unfolding_all rfl)
        repeat wtm_at "m"
        refine r_itemAny ‹St _ _ _ _ _ _› hr9 (by omega) (by omega) (av := .ref pk) (by rw [List.getElem?_map, hpk]; rfl) (Vals.ref ?_) (hs := by with_unfolding_all rfl)
        repeat wtm_at "m"
        refine r_titem (k := 3) ‹St _ _ _ _ _ _› epk9 (by decide) rfl (Vals.int fun t => ?_) (hs := by with_unfolding_all rfl)
        repeat wtm_at "m"
        refine r_ite (fun hs2 => ?_) fun hs2 => ?_
        · have hf' : f rst[j] = true := by rw [hf, hs1]; simpa using hs2
          have hz3 : ((rst.take j).filter f).length ≤ 1000 := Nat.le_trans (List.length_filter_le _ _) (by rw [List.length_take]; omega)
          (with_reducible refine' wpAny_allTrue_And_nil ?_)
          repeat wtm_at "m"
          repeat wtm_at "m"
          refine ⟨(), _, St.vars (by assumption) ⟨rfl, rfl, trivial⟩, b9.trans (But.upd (by simp)), ?_, ?_, kp9.trans (Keep.upd hD9 fun q => q)⟩
          · rw [upd_self, etrue hf', List.map_append]; rfl
          · exact upd_off I9 (Ne.symm DI)
        · have hf' : f rst[j] = false := by rw [hf, hs1]; simpa using hs2
          refine LetQ.up ‹LetQ _ _ _ _› _ _ ?_
          refine ⟨(), _, St.vars (by assumption) ⟨rfl, rfl, trivial⟩, b9, ?_, I9, kp9⟩
          rw [efalse hf']; exact hD9
      · have hf' : f rst[j] = false := by rw [hf, hs1]; rfl
        refine LetQ.up ‹LetQ _ _ _ _› _ _ ?_
        refine ⟨(), _, St.vars (by assumption) ⟨rfl, rfl, trivial⟩, b9, ?_, I9, kp9⟩
        rw [efalse hf']; exact hD9
    · rintro D C _ σ' s' N en hD hGD S Hpat3
      refine and4 Hpat3 fun b hD' hI' kp => ?_
      have rD : rest ≠ D := ne_new rest7 hD
      have rest' := b.get rest7 ⟨rD, nrI, trivial⟩
      refine r_endList S hh hI' (hidden_sto (h := s.heap) GI I7) rest' (by rw [List.length_map]; exact Nat.le_refl _) ?_
      intro s S
      refine ⟨rfl, (), _, S, b.trans (But.rem (l := I) (by simp)), ?_, kp.trans (Keep.rem hI' fun q => q)⟩
      rw [rem_ne (Ne.symm (ne_new I7 hD))]
      rw [List.take_of_length_le (Nat.le_refl _)] at hD'
      exact hD'
    · intro D _ σ' s' hD hGD S ⟨b, hD', kp⟩
      refine r_compStore S (by exact rfl) ?_
      intro s S
      have b0 : Grow σ4 σ' := ((((b.drop Grow.refl hD).drop g7 hI).grow)|> fun x => (g5.trans g6).trans x)
      have nD : ∀ {b : Addr} {o : AO}, σ4 b = some o → σ' b = some o := fun e => b0.get e
      repeat wtm_at "m"
      (with_reducible refine' wpAny_isTrue_BoolOp ?_)
      repeat wtm_at "m"
      refine r_itemAny ‹St _ _ _ _ _ _› (b0.get hl4) (by omega) (by omega) (av := .bool (laid.getD k.toNat false)) (by rw [List.getElem?_map, List.getElem?_eq_getElem (by omega)]; simp [List.getD_eq_getElem?_getD, List.getElem?_eq_getElem (show k.toNat < laid.length by omega)]; rfl) (Vals.bool ?_) (hs := by with_unfolding_all rfl)
      repeat wtm_at "m"
      have b0b : But [out, e, it] σ2 σ' := b4.trans b0.but
      have kp0 := kp4.trans b0.keep
      have hstep : standF rs laid (sight.drop i) = if laid.getD k.toNat false && !(rst.any f) then k :: standF rs laid rst else standF rs laid rst := by rw [hdrop, standF]
      have hemp : ((rst.filter f).map AV.int).isEmpty = !(rst.any f) := by
        rw [Bool.eq_iff_iff]; simp
      refine r_ite (fun hs1 => ?_) fun hs1 => ?_
      · repeat wtm_at "m"
        refine r_newList ‹St _ _ _ _ _ _› (Nat.le_of_ble_eq_true rfl) ?_
        intro nl s σ9 hnl Gnl g9 nl9 S9
        refine r_eqNil S9 (by first | exact upt hu rfl | (simp only [units_deeper]; omega)) (g9.get hD') nl9 ?_
        rw [hemp]
        repeat wtm_at "m"
        have out9 := g9.get (b0.get out3)
        have e9 := g9.get (b0.get e4)
        have it9 := g9.get (b0.get it4)
        refine r_ite (fun hs2 => ?_) fun hs2 => ?_
        · (with_reducible refine' wpAny_allTrue_And_nil ?_)
          repeat wtm_at "m"
          refine ⟨acc ++ [k], _, St.vars (by assumption) ⟨rfl, rfl, rfl, rfl, trivial⟩, (b0b.trans g9.but).trans (But.upd (by simp)), (kp0.trans g9.keep).trans (Keep.upd out9 fun q => q), upd_off e9 (Ne.symm n10), upd_off it9 (Ne.symm n11), ?_, ?_, ?_⟩
          · rw [upd_self, List.map_append]; rfl
          · rw [← hacc, hstep, hs1, hs2, if_pos (by decide), List.append_assoc]; rfl
          · rw [List.length_append]; show acc.length + 1 ≤ i + 1; omega
        · with_reducible refine' r_itF ?_
          repeat wtm_at "m"
          refine ⟨acc, _, St.vars (by assumption) ⟨rfl, rfl, rfl, rfl, trivial⟩, b0b.trans g9.but, kp0.trans g9.keep, e9, it9, out9, ?_, by omega⟩
          rw [← hacc, hstep, hs1, hs2, if_neg (by decide)]
      · with_reducible refine' r_itF ?_
        repeat wtm_at "m"
        refine ⟨acc, _, St.vars (by assumption) ⟨rfl, rfl, rfl, rfl, trivial⟩, b0b, kp0, b0.get e4, b0.get it4, b0.get out3, ?_, by omega⟩
        rw [← hacc, hstep, hs1, if_neg (by simp)]
  · rintro acc σ' s S Hpat4
    refine and7 Hpat4 fun b kp e' it' out' hacc hal => ?_
    refine r_endEnum S hh e' it' Gi (b.get hs2 ⟨n2, n5, n8, trivial⟩) (by rw [List.length_map]; exact Nat.le_refl _) ?_
    intro s S
    refine ⟨rfl, ?_⟩
    repeat wtm_at "m"
    rw [List.drop_of_length_le (Nat.le_refl _)] at hacc
    have eacc : acc = standF rs laid sight := by rw [← hacc]; simp [standF]
    rw [eacc] at out'
    have gf : Grow σ (rem σ' it) := ((((b.trans (But.rem (by simp : it ∈ [out, e, it]))).mono (by simp : ∀ b ∈ [out, e, it], b ∈ [it, e, out])).drop g2 hit).drop (Grow.refl) he).drop g1 ho |>.grow
    refine h out _ (rem σ' it) ho (G_of_hidden Go) gf (rem_off out' n11) (S0.back (by assumption))
end
section
noncomputable def maxL : List Int → Int
  | [] => 0
  | a :: r => r.foldl (fun m x => if m < x then x else m) a
theorem foldl_max (r : List Int) : ∀ a, (r.foldl (fun m x => if m < x then x else m) a = a ∨ r.foldl (fun m x => if m < x then x else m) a ∈ r) ∧ a ≤ r.foldl (fun m x => if m < x then x else m) a ∧ ∀ x ∈ r, x ≤ r.foldl (fun m x => if m < x then x else m) a := by
  induction r with
  | nil => intro a; exact ⟨.inl rfl, Int.le_refl _, fun x h => nomatch h⟩
  | cons y r ih =>
    intro a
    rw [List.foldl_cons]
    refine and3 (ih (if a < y then y else a)) fun h1 h2 h3 => ?_
    refine ⟨?_, ?_, ?_⟩
    · rcases h1 with h | h
      · rw [h]; split
        · exact .inr (by simp)
        · exact .inl rfl
      · exact .inr (List.mem_cons_of_mem _ h)
    · refine Int.le_trans ?_ h2; split <;> omega
    · intro x hx
      rcases List.mem_cons.mp hx with rfl | hx
      · refine Int.le_trans ?_ h2; split <;> omega
      · exact h3 x hx
theorem maxL_of {l : List Int} {M : Int} (hm : M ∈ l) (h : ∀ a ∈ l, a ≤ M) : M = maxL l := by
  cases l with
  | nil => cases hm
  | cons a r =>
    refine and3 (foldl_max r a) fun h1 h2 h3 => ?_
    have le : maxL (a :: r) ≤ M := by
      show r.foldl _ a ≤ M
      rcases h1 with e | e
      · rw [e]; exact h a (by simp)
      · exact h _ (List.mem_cons_of_mem _ e)
    have ge : M ≤ maxL (a :: r) := by
      show M ≤ r.foldl _ a
      rcases List.mem_cons.mp hm with rfl | hm
      · exact h2
      · exact h3 _ hm
    exact Int.le_antisymm ge le
section
variable {prog : Program} {w : World} {A : Around} {E : Value → Shared → Prop} {s s' : Shared} {K : Frag} {mg mb : Str → Option Value} {z : Shared} {G : Addr → Option (Obj × Bool)} {env : Env} {ε : Vars} {σ σ' : Sto} {x y : Str} {pos : Pos} {t u : Tok}
theorem r_inStr {Q : Value → Shared → Prop} (h : Q (.bool (Txt.contains x y)) s) : wpAny (model prog w) A (compareOp .In (.str y u) (.str x t)) Q E s := PySem.SB.contains h
theorem mulOk_small {n : Int} (hx : x.length = 1) (h0 : n ≤ 1000) (h1 : -1000 ≤ n) : MulOk x n := by
  refine ⟨?_, fun h2 _ => ?_, fun h2 _ => ?_⟩
  · simp; omega
  · have : (1 : Int) ≤ (2 ^ 63 - 1) / n := by
      rw [Int.le_ediv_iff_mul_le (by omega)]; omega
    rw [hx]; omega
  · unfold Builtin.Str.tooLong; rw [sizeLine_eq, hx]; simp; omega
theorem r_mulStr {n : Int} {Q : Value → Shared → Prop} (S : St z G env ε σ s) (hx : x.length = 1) (h0 : n ≤ 1000) (h1 : -1000 ≤ n) (h : ∀ t s', St z G env ε σ s' → Q (.str (Txt.mul x n) t) s') :
    wpAny (model prog w) A (binaryOp .Mult (.str x t) (.int n u)) Q E s := PySem.SB.mul (mulOk_small hx h0 h1) fun t' k => h _ _ S.tick
theorem r_addStr {Q : Value → Shared → Prop} (S : St z G env ε σ s) (hz : x.length + y.length ≤ 100000) (h : ∀ t s', St z G env ε σ s' → Q (.str (x ++ y) t) s') :
    wpAny (model prog w) A (binaryOp .Add (.str x t) (.str y u)) Q E s := PyProof.Rows.add_str (fun t' k => h _ _ S.tick) (by rw [sizeLine_eq]; omega)
noncomputable def txt (a : Int) : Str := Str.ofString (toString a)
theorem log2_small {n : Nat} (h : n < 2 ^ 20) : n.log2 < 1920 := by
  by_cases e : n = 0
  · subst e; decide
  · exact Nat.lt_of_lt_of_le ((Nat.log2_lt e).mpr h) (by decide)
theorem r_strInt {a : Int} {Q : Value → Shared → Prop} (S : St z G env ε σ s) (h0 : -1000000 ≤ a) (h1 : a ≤ 1000000) (h : ∀ t s', St z G env ε σ s' → Q (.str (txt a) t) s') : wpAny (model prog w) A (call (.type "str") [.int a t]) Q E s :=
  PySem.P.str_of_int (log2_small (by omega)) (h _ _ S.tick)
theorem intsAre_of : ∀ {is : List Int} {vs : List Value}, VRs (is.map .int) vs → IntsAre vs is
  | [], _, h => by cases h; exact .nil
  | i :: r, _, h => by obtain ⟨v, rest, rfl, ⟨t, rfl⟩, h⟩ := h; exact .cons i t (intsAre_of h)
theorem r_maxL {l : Addr} {is : List Int} {Q : Value → Shared → Prop} (S : St z G env ε σ s) (hh : A.handled = none) (hl : σ l = some (.list (is.map .int))) (hne : 0 < is.length) (h : ∀ t s', St z G env ε σ s' → Q (.int (maxL is) t) s') :
    wpAny (model prog w) A (call (.builtin "max") [.ref l]) Q E s := by
  refine ex2 (S.obj _ _ hl) fun items n z2x0r => ?_
  refine and2 z2x0r fun ho r => ?_
  refine ex1 S.fr fun m z3x0r => ?_
  refine and3 z3x0r fun F N back => ?_
  refine max_list_N hh F N (isList_of ho) (intsAre_of r) hne fun h' M t tk F' N' hm hle => ?_
  rw [maxL_of hm hle]
  exact h _ _ (back _ ⟨rfl, rfl⟩ F' N')
end
end
section
noncomputable def inB (one other : Str) (k : Nat) : Bool := Txt.contains one (Txt.mul " " k) || Txt.contains other (Txt.mul " " k)
noncomputable def longW (one other : Str) : Int := maxL (((List.range 7).filter (inB one other)).map fun k : Nat => (k : Int))
noncomputable def sizesB (one other : Str) : List Str := ((List.range (longW one other + 1).toNat).filter fun k => (colsOf one).getD k 0 != (colsOf other).getD k 0).map fun k : Nat => txt (k + 1)
noncomputable def wordsF (one other : Str) : Str := "at tab size" ++ (if 1 < (sizesB one other).length then "s " else " " : Str) ++ Txt.join ", " (sizesB one other)
theorem len_colsOf {x : Str} : (colsOf x).length = 7 := by simp [colsOf]
theorem maxL_mem : ∀ {l : List Int}, 0 < l.length → maxL l ∈ l
  | [], h => absurd h (by simp)
  | a :: r, _ => by
    rcases (foldl_max r a).1 with e | e
    · show r.foldl _ a ∈ a :: r
      rw [e]; simp
    · exact List.mem_cons_of_mem _ e
theorem longW_bound {one other : Str} (h0 : 0 < ((List.range 7).filter (inB one other)).length) : 0 ≤ longW one other ∧ longW one other ≤ 6 := by
  have h := maxL_mem (l := ((List.range 7).filter (inB one other)).map fun k : Nat => (k : Int)) (by rw [List.length_map]; exact h0)
  obtain ⟨k, hk, e⟩ := List.mem_map.mp h
  have := List.mem_range.mp (List.mem_filter.mp hk).1
  unfold longW
  omega
theorem len_comma : (", " : Str).length = 2 := by rfl
theorem join_bound {p : Str} {l : List Str} {n : Nat} (hp : p.length = n) (hs : (l.map (·.length)).sum ≤ l.length) (hl : l.length ≤ 7) (hn : n ≤ 1000 := by decide) : p.length + (Txt.join ", " l).length ≤ 100000 := by
  have h := StrLaws.join_length_le ", " l
  have e : Txt.join ", " l = Str.join ", " l := StrLaws.glued_eq_join ..
  rw [e, hp]
  rw [len_comma] at h
  omega
theorem txt_one : ∀ k, k < 7 → (txt ((k : Nat) + 1)).length = 1 := by decide +kernel
theorem sum_ones {l : List Str} (h : ∀ x ∈ l, x.length ≤ 1) : (l.map (·.length)).sum ≤ l.length := by
  induction l with
  | nil => simp
  | cons a r ih =>
    have h1 := h a (by simp)
    have h2 := ih fun x hx => h x (List.mem_cons_of_mem _ hx)
    simp only [List.map_cons, List.sum_cons, List.length_cons]
    omega
variable {w : World} {A : Around} {E : Value → Shared → Prop} {s z : Shared} {mg mb : Str → Option Value} {G : Addr → Option (Obj × Bool)} {env : Env} {ε : Vars} {σ : Sto}
theorem words {one other : Str} {t u : Tok} {Q : Value → Shared → Prop} (W : Wd (kk w.params) mg mb z.heap) (S0 : St z G env ε σ s) (hh : A.handled = none) (hdp : A.depth + 40 < recursionLimit) (hu : A.units + 200 < cLine)
   (h1 : one.cps.size ≤ 100) (h2 : other.cps.size ≤ 100) (h0 : 0 < ((List.range 7).filter (inB one other)).length)
   (h : ∀ t s' σ', Grow σ σ' → St z G env ε σ' s' → Q (.str (wordsF one other) t) s') :
   wpAny (model PySem.Challenge.pw_pe0273_01 w) A (call (.ref 340) [.str one t, .str other u]) Q E s := by
  have hh' : ∀ e, (A.deeper e).handled = none := fun e => hh
  refine enterC (binds := [("one", .str one t), ("other", .str other u)]) W S0 (by first | exact room0 hdp | omega) (by exact rfl) (by k_is) rfl rfl rfl rfl (fun L => by exact rfl) (by exact rfl) (by exact rfl) ?_
  intro L s₁ env' C₁ S₁
  have hh := hh' env'
  repeat wtm_at "m"
  ((with_reducible refine' r_ListComp ?bu69 ?cu69 ?du69 ?eu69 ?_); (case bu69 => with_unfolding_all rfl); (case cu69 => exact rfl); (case du69 => decide); (case eu69 => intro _; exact rfl))
  repeat wtm_at "m"
  refine r_range1 ‹St _ _ _ _ _ _› ?_
  intro r s₂ σ₁ hr Gr g1 r1 S2
  refine r_iterRange S2 r1 (by omega) (by omega) (by omega) (by omega) ?_
  intro I s₃ σ₂ hI GI g2 I2 S3
  let f : Nat → Bool := inB one other
  refine r_compK (Dt := Unit) (ε' := [("one", .str one), ("other", .str other)]) 7
    (fun i D _ σ' => But [D, I] σ₂ σ' ∧ σ' D = some (.list (((List.range i).filter f).map fun k : Nat => AV.int k)) ∧ σ' I = some (rngO (0 + i) (7 - i)))
    (fun D _ σ' => But [D, I] σ₂ σ' ∧ σ' D = some (.list (((List.range 7).filter f).map fun k : Nat => AV.int k)))
    () S3 (by decide) (by exact rfl) (by exact ⟨⟨rfl, rfl⟩, ⟨rfl, rfl⟩, trivial⟩) (by exact rfl) (by exact ⟨rfl, rfl, trivial⟩) (by intro C; exact ⟨rfl, rfl, trivial⟩) I2 self_rng ?_ ?_ ?_ ?_
  · intro D hD
    refine ⟨But.upd (by simp), upd_self, ?_⟩
    rw [upd_ne (ne_new I2 hD)]; exact I2
  · intro D C i d σ' s' N en hi hD hGD hGC S ⟨g, hl', hI'⟩
    have GI' := hidden_sto (h := s₃.heap) GI I2
    have DI : D ≠ I := Ne.symm (ne_new I2 hD)
    refine r_nextRange S hI' GI' (by omega) ?_
    intro t s S
    refine ⟨_, rfl, ?_⟩
    have er : rngO (0 + ((i + 1 : Nat) : Int)) (7 - ((i + 1 : Nat) : Int)) = rngO (0 + i + 1) (7 - i - 1) := by rw [show (0 + ((i + 1 : Nat) : Int)) = 0 + i + 1 by omega, show (7 - ((i + 1 : Nat) : Int)) = 7 - i - 1 by omega]
    repeat wtm_at "m"
    refine r_tests1 ?_
    (with_reducible refine' wpAny_isTrue_BoolOp ?_)
    (with_reducible refine' wpAny_allTrue_Or_cons ?_)
    repeat wtm_at "m"
    refine r_mulStr ‹St _ _ _ _ _ _› (by exact rfl) (by omega) (by omega) ?_
    intro t s S
    repeat wtm_at "m"
    with_reducible refine' r_inStr ?_
    repeat wtm_at "m"
    have ei : (0 + (i : Int)) = i := by omega
    have e1 : f i = true → (List.range (i + 1)).filter f = (List.range i).filter f ++ [i] := fun q => by
      rw [List.range_succ, List.filter_append]
      have : [i].filter f = [i] := by rw [List.filter_cons, if_pos q]; rfl
      rw [this]
    have e0 : f i = false → (List.range (i + 1)).filter f = (List.range i).filter f := fun q => by
      rw [List.range_succ, List.filter_append]
      have : [i].filter f = [] := by rw [List.filter_cons, if_neg (by rw [q]; decide)]; rfl
      rw [this, List.append_nil]
    have hz : ((List.range i).filter f).length ≤ 7 := Nat.le_trans (List.length_filter_le _ _) (by simp; omega)
    have hff : f i = (Txt.contains one (Txt.mul " " (0 + (i : Int))) || Txt.contains other (Txt.mul " " (0 + (i : Int)))) := by rw [ei]; rfl
    refine r_ite (fun hs => ?_) fun hs => ?_
    · have hf : f i = true := by rw [hff, hs]; rfl
      repeat wtm_at "m"
      refine ⟨(), _, St.vars (by assumption) ⟨rfl, rfl, trivial⟩, (g.trans (But.upd (l := I) (by simp))).trans (But.upd (l := D) (by simp)), ?_, ?_⟩
      · rw [upd_self, e1 hf, List.map_append]
        show some (AO.list (_ ++ [AV.int (0 + (i : Int))])) = _
        rw [Int.zero_add]; rfl
      · rw [er]; exact upd_off upd_self (Ne.symm DI)
    · (with_reducible refine' wpAny_allTrue_Or_cons ?_)
      repeat wtm_at "m"
      refine r_mulStr ‹St _ _ _ _ _ _› (by exact rfl) (by omega) (by omega) ?_
      intro t s S
      repeat wtm_at "m"
      with_reducible refine' r_inStr ?_
      repeat wtm_at "m"
      refine r_ite (fun hs2 => ?_) fun hs2 => ?_
      · have hf : f i = true := by rw [hff, hs, hs2]; rfl
        repeat wtm_at "m"
        refine ⟨(), _, St.vars (by assumption) ⟨rfl, rfl, trivial⟩, (g.trans (But.upd (l := I) (by simp))).trans (But.upd (l := D) (by simp)), ?_, ?_⟩
        · rw [upd_self, e1 hf, List.map_append]
          show some (AO.list (_ ++ [AV.int (0 + (i : Int))])) = _
          rw [Int.zero_add]; rfl
        · rw [er]; exact upd_off upd_self (Ne.symm DI)
      · have hf : f i = false := by rw [hff, hs, hs2]; rfl
        (with_reducible refine' wpAny_allTrue_Or_nil ?_)
        repeat wtm_at "m leave"
        with_reducible refine' r_itF ?_
        repeat wtm_at "m"
        refine ⟨(), _, St.vars (by assumption) ⟨rfl, rfl, trivial⟩, g.trans (But.upd (l := I) (by simp)), ?_, ?_⟩
        · rw [e0 hf]; exact upd_off hl' DI
        · rw [er]; exact upd_self
  · rintro D C d σ' s' N en hD hGD S ⟨g, hl', hI'⟩
    refine r_endRange S hh hI' (hidden_sto (h := s₃.heap) GI I2) (by omega) ?_
    intro s S
    refine ⟨rfl, (), _, S, g.trans (But.rem (l := I) (by simp)), ?_⟩
    rw [rem_ne (Ne.symm (ne_new I2 hD))]
    exact hl'
  · intro D d σ' s' hD hGD S ⟨g, hl'⟩
    unfold CompEnd
    dsimp only
    have el : ((List.range 7).filter f).map (fun k : Nat => AV.int k) = (((List.range 7).filter f).map fun k : Nat => (k : Int)).map .int := by rw [List.map_map]; rfl
    rw [el] at hl'
    have gg := g1.trans ((g.drop Grow.refl hD).drop g2 hI).grow
    repeat wtm_at "m"
    refine r_maxL ‹St _ _ _ _ _ _› hh hl' (by rw [List.length_map]; exact h0) ?_
    intro t s S
    repeat wtm_at "m"
    ((with_reducible refine' Assign_Tuple (hs := ?mu77) (hw := ?nu77) ?_); (case mu77 => exact rfl); (case nu77 => exact rfl))
    repeat wtm_at "m"
    refine columns W ‹St _ _ _ _ _ _› hh (by first | exact dpt hdp rfl | (simp only [depth_deeper]; omega)) (by omega) ?_
    intro c1 s σ4 g4 c4 S4
    repeat wtm_at "m"
    refine columns W ‹St _ _ _ _ _ _› hh (by first | exact dpt hdp rfl | (simp only [depth_deeper]; omega)) (by omega) ?_
    intro c2 s σ5 g5 c5 S5
    have c45 := g5.get c4
    repeat wtm_at "m"
    refine r_newTup ‹St _ _ _ _ _ _› (Nat.le_of_ble_eq_true rfl) ?_
    intro tp s σ6 htp Gtp g6 tp6 S6
    have c46 := g6.get c45
    have c56 := g6.get c5
    have bl := longW_bound h0
    have el2 : maxL (((List.range 7).filter f).map fun k : Nat => (k : Int)) = longW one other := rfl
    rw [el2] at S6
    repeat wtm_at "m"
    ((with_reducible refine' r_AssignListComp ?au78 ?bu78 ?cu78 ?du78 ?eu78 ?_); (case au78 => exact rfl); (case bu78 => with_unfolding_all rfl); (case cu78 => exact rfl); (case du78 => decide); (case eu78 => intro _; exact rfl))
    repeat wtm_at "m"
    refine r_range1 ‹St _ _ _ _ _ _› ?_
    intro r s σ7 hr Gr g7 r7 S7
    refine r_iterRange S7 r7 (by omega) (by omega) (by omega) (by omega) ?_
    intro I2' s7 σ8 hI2 GI2' g8 I8 S8
    have c78 := g8.get (g7.get c46)
    have c88 := g8.get (g7.get c56)
    have en : (if (0 : Int) < longW one other + 1 then longW one other + 1 - 0 else 0) = (((longW one other + 1).toNat : Nat) : Int) := by split <;> omega
    rw [en] at I8
    have hc1 : (colsOf one).length = 7 := len_colsOf
    have hc2 : (colsOf other).length = 7 := len_colsOf
    have nle : (longW one other + 1).toNat ≤ 7 := by omega
    let f2 : Nat → Bool := fun k => (colsOf one).getD k 0 != (colsOf other).getD k 0
    have esz : sizesB one other = ((List.range (longW one other + 1).toNat).filter f2).map fun k : Nat => txt (k + 1) := rfl
    generalize (longW one other + 1).toNat = n at *
    have hgo : Grow σ σ7 := ((((gg.trans g4).trans g5).trans g6).trans g7)
    refine r_compK (Dt := Unit) (ε' := [("first", .ref c1), ("second", .ref c2)]) n
      (fun i D _ σ' => But [D, I2'] σ8 σ' ∧ σ' D = some (.list (((List.range i).filter f2).map fun k : Nat => AV.str (txt (k + 1)))) ∧ σ' I2' = some (rngO (0 + i) ((n : Int) - i)))
      (fun D _ σ' => But [D, I2'] σ8 σ' ∧ σ' D = some (.list (((List.range n).filter f2).map fun k : Nat => AV.str (txt (k + 1)))))
      () S8 (by decide) (by exact rfl) (by exact ⟨⟨rfl, rfl⟩, ⟨rfl, rfl⟩, trivial⟩) (by exact rfl) (by exact ⟨rfl, rfl, trivial⟩) (by intro C; exact ⟨rfl, rfl, trivial⟩) I8 self_rng ?_ ?_ ?_ ?_
    · intro D hD
      refine ⟨But.upd (by simp), upd_self, ?_⟩
      rw [upd_ne (ne_new I8 hD), I8]; congr 1
    · intro D C i d σ' s' N en hi hD hGD hGC S ⟨g, hl', hI'⟩
      have GI' := hidden_sto (h := s7.heap) GI2' I8
      have DI : D ≠ I2' := Ne.symm (ne_new I8 hD)
      refine r_nextRange S hI' GI' (by omega) ?_
      intro t s S
      refine ⟨_, rfl, ?_⟩
      have er : rngO (0 + ((i + 1 : Nat) : Int)) ((n : Int) - ((i + 1 : Nat) : Int)) = rngO (0 + i + 1) ((n : Int) - i - 1) := by rw [show (0 + ((i + 1 : Nat) : Int)) = 0 + i + 1 by omega, show ((n : Int) - ((i + 1 : Nat) : Int)) = n - i - 1 by omega]
      have hl'' := upd_off (ao := rngO (0 + (i : Int) + 1) ((n : Int) - i - 1)) hl' DI
      have I'' := upd_self (σ := σ') (a := I2') (o := rngO (0 + (i : Int) + 1) ((n : Int) - i - 1))
      have g' := g.trans (But.upd (l := I2') (ao := rngO (0 + (i : Int) + 1) ((n : Int) - i - 1)) (by simp : I2' ∈ [D, I2']))
      generalize upd σ' I2' (rngO (0 + (i : Int) + 1) ((n : Int) - i - 1)) = σ9 at *
      have d1 := g'.get c78 ⟨ne_new c78 hD, ne_new (g7.get c46) hI2, trivial⟩
      have d2 := g'.get c88 ⟨ne_new c88 hD, ne_new (g7.get c56) hI2, trivial⟩
      repeat wtm_at "m"
      refine r_tests1 ?_
      repeat wtm_at "m"
      with_reducible refine' PyProof.Rows.ne_int ?_
      repeat wtm_at "m"
      have ei : (0 + (i : Int)).toNat = i := by omega
      rw [ei]
      have e1 : f2 i = true → (List.range (i + 1)).filter f2 = (List.range i).filter f2 ++ [i] := fun q => by
        rw [List.range_succ, List.filter_append]
        have : [i].filter f2 = [i] := by rw [List.filter_cons, if_pos q]; rfl
        rw [this]
      have e0 : f2 i = false → (List.range (i + 1)).filter f2 = (List.range i).filter f2 := fun q => by
        rw [List.range_succ, List.filter_append]
        have : [i].filter f2 = [] := by rw [List.filter_cons, if_neg (by rw [q]; decide)]; rfl
        rw [this, List.append_nil]
      have hz : ((List.range i).filter f2).length ≤ 7 := Nat.le_trans (List.length_filter_le _ _) (by simp; omega)
      refine r_ite (fun hs => ?_) fun hs => ?_
      · repeat wtm_at "m"
        refine r_strInt ‹St _ _ _ _ _ _› (by omega) (by omega) ?_
        intro t s S
        repeat wtm_at "m"
        refine ⟨(), _, St.vars (by assumption) ⟨rfl, rfl, trivial⟩, g'.trans (But.upd (l := D) (by simp)), ?_, ?_⟩
        · rw [upd_self, e1 (by simpa [f2] using hs), List.map_append]
          show some (AO.list (_ ++ [AV.str (txt (0 + (i : Int) + 1))])) = _
          rw [Int.zero_add]; rfl
        · rw [er]; exact upd_off I'' (Ne.symm DI)
      · repeat wtm_at "m"
        refine ⟨(), _, St.vars (by assumption) ⟨rfl, rfl, trivial⟩, g', ?_, ?_⟩
        · rw [e0 (by simpa [f2] using hs)]; exact hl''
        · rw [er]; exact I''
    · rintro D C d σ' s' N en hD hGD S ⟨g, hl', hI'⟩
      refine r_endRange S hh hI' (hidden_sto (h := s7.heap) GI2' I8) (by omega) ?_
      intro s S
      refine ⟨rfl, (), _, S, g.trans (But.rem (l := I2') (by simp)), ?_⟩
      rw [rem_ne (Ne.symm (ne_new I8 hD))]
      exact hl'
    · intro D d σ' s' hD hGD S ⟨g, hl'⟩
      refine r_compStore S (by exact rfl) ?_
      intro s S
      have eD : σ' D = some (.list ((sizesB one other).map .str)) := by rw [hl', esz, List.map_map]; rfl
      have hgo2 : Grow σ σ' := hgo.trans ((g.drop Grow.refl hD).drop g8 hI2).grow
      have hone : ∀ x ∈ sizesB one other, x.length ≤ 1 := by
        intro x hx
        rw [esz] at hx
        obtain ⟨k, hk, rfl⟩ := List.mem_map.mp hx
        have := List.mem_range.mp (List.mem_filter.mp hk).1
        exact Nat.le_of_eq (txt_one k (by omega))
      have hlen : (sizesB one other).length ≤ 7 := by
        rw [esz, List.length_map]
        refine Nat.le_trans (List.length_filter_le _ _) ?_
        simp; omega
      have hsum := sum_ones hone
      repeat wtm_at "m"
      with_reducible refine' wpAny_IfExp ?_
      repeat wtm_at "m"
      with_reducible refine' PyProof.Rows.gt_int ?_
      repeat wtm_at "m"
      rw [List.length_map]
      refine r_ite (fun hs => ?_) fun hs => ?_
      · repeat wtm_at "m"
        refine r_addStr ‹St _ _ _ _ _ _› (Nat.le_of_ble_eq_true rfl) ?_
        intro t s S
        repeat wtm_at "m"
        with_reducible refine' r_joinM ?_
        repeat wtm_at "m"
        refine r_join (ts := sizesB one other) ‹St _ _ _ _ _ _› eD (by rw [len_comma]; omega) ?_
        intro t s S
        repeat wtm_at "m"
        refine r_addStr ‹St _ _ _ _ _ _› (join_bound (by exact rfl) hsum hlen) ?_
        intro t s S
        repeat wtm_at "m"
        have ew : wordsF one other = "at tab size" ++ "s " ++ Txt.join ", " (sizesB one other) := by
          unfold wordsF; rw [if_pos (by have := of_decide_eq_true hs; omega)]
        have := h t _ σ' hgo2 (S0.back (by assumption))
        rw [ew] at this; exact this
      · repeat wtm_at "m"
        refine r_addStr ‹St _ _ _ _ _ _› (Nat.le_of_ble_eq_true rfl) ?_
        intro t s S
        repeat wtm_at "m"
        with_reducible refine' r_joinM ?_
        repeat wtm_at "m"
        refine r_join (ts := sizesB one other) ‹St _ _ _ _ _ _› eD (by rw [len_comma]; omega) ?_
        intro t s S
        repeat wtm_at "m"
        refine r_addStr ‹St _ _ _ _ _ _› (join_bound (by exact rfl) hsum hlen) ?_
        intro t s S
        repeat wtm_at "m"
        have ew : wordsF one other = "at tab size" ++ " " ++ Txt.join ", " (sizesB one other) := by
          unfold wordsF; rw [if_neg (by have := of_decide_eq_false hs; omega)]
        have := h t _ σ' hgo2 (S0.back (by assumption))
        rw [ew] at this; exact this
end
section
section
variable {prog : Program} {w : World} {A : Around} {E : Value → Shared → Prop} {s s' : Shared} {K : Frag} {mg mb : Str → Option Value} {z : Shared} {G : Addr → Option (Obj × Bool)} {env : Env} {ε : Vars} {σ σ' : Sto} {x : Str} {pos : Pos}
theorem r_compStoreC {y : Str} {py : Pos} {D c : Addr} {Q : Value → Shared → Prop} (S : St z G env ε σ s) (hl : env.kindOf y = some .cell) (hc : env.cells.lookup y = some c) (hm : ∀ x c, env.cells.lookup x = some c → G c = none) (h : ∀ s', St z G env (put ε y (.ref D)) σ s' → Q .none s') :
    CompEnd (model prog w) A E z G env (some (assign (.Name y py) env)) Q ε σ D s := by
  unfold CompEnd
  intro C m nC hcC GC SC hC
  refine wpAny_assign_Name ?_
  refine and2 (S.cel y c hc hl) fun z0x0 _ => ?_
  obtain ⟨ov, hv⟩ := z0x0
  refine wpAny_storeName_cell S.fn hl hc hv fun h' hn hs => ?_
  refine ex3 hC fun o es ep z1x0r => ?_
  refine and2 z1x0r fun hoC r => ?_
  exact ⟨⟨m, o, es, ep, (hs.2 C (Ne.symm (hcC y c hc hl))).trans hoC, r⟩, _, S.storeCell (s' := { s with heap := h' }) ⟨rfl, rfl⟩ hl hc (hm y c hc) (vr_abs (.ref D)) hn hs, fun s'' S'' => h _ S''⟩
end
end
section
noncomputable def fdk350 (p : Params) : { x : Value × Option Addr × FuncData × Array (Option Value) // (kk p).lookup 350 = some ⟨x.1, x.2.1, .func x.2.2.1, x.2.2.2⟩ } := ⟨(_, _, _, _), rfl⟩
noncomputable abbrev fd350 (p : Params) : FuncData := (fdk350 p).1.2.2.1
noncomputable def bodyOf : FuncBody → List Stmt
  | .stmts b => b
  | _ => []
noncomputable abbrev st350 (p : Params) (i : Nat) : Stmt := (bodyOf (fd350 p).body).getD i (.Pass ⟨0, 0, 0, 0⟩)
noncomputable abbrev lb350 (p : Params) (i : Nat) : Stmt := match st350 p 5 with
  | .For _ _ b _ _ => b.getD i (.Pass ⟨0, 0, 0, 0⟩)
  | s => s
variable {w : World} {A : Around} {E : Value → Shared → Prop} {s z : Shared} {mg mb : Str → Option Value} {G : Addr → Option (Obj × Bool)} {env : Env} {ε : Vars} {σ : Sto}
theorem due_leads {L rl : Addr} {ps : List Addr} {rs : List Rw} {Q : Flow → Shared → Prop} (W : Wd (kk w.params) mg mb z.heap) (hh : A.handled = none)
   (S0 : St z G (callEnvC (fd350 w.params) L 350) [("rows", .ref rl)] σ s) (hr : σ rl = some (.list (ps.map .ref))) (R : RwsAt σ ps rs) (hz : rs.length ≤ 1000)
   (C₁ : ∀ (x : Str) (c : Addr), List.lookup x (callEnvC (fd350 w.params) L 350).cells = some c → G c = none)
   (h : ∀ l s' σ', Grow σ σ' → σ' l = some (.list ((("" : Str) :: rs.map (·.lead)).map .str)) → St z G (callEnvC (fd350 w.params) L 350) [("rows", .ref rl), ("leads", .ref l)] σ' s' → Q .next s') :
   wpAny (model PySem.Challenge.pw_pe0273_01 w) A (exec (st350 w.params 0) (callEnvC (fd350 w.params) L 350)) Q E s := by
  show wpAny _ _ (exec (.Assign [.Name _ _] _ _) _) _ _ _
  repeat wtm_at "m"
  refine r_newList ‹St _ _ _ _ _ _› (Nat.le_of_ble_eq_true rfl) ?_
  intro l1 s σ1 hl1 Gl1 g1 l11 S1
  ((with_reducible refine' r_ListComp ?bu127 ?cu127 ?du127 ?eu127 ?_); (case bu127 => with_unfolding_all rfl); (case cu127 => exact rfl); (case du127 => decide); (case eu127 => intro _; exact rfl))
  repeat wtm_at "m"
  have hr1 := g1.get hr
  refine r_iterList ‹St _ _ _ _ _ _› hr1 ?_
  intro I s3 σ2 hI GI g2 I2 S3
  have hr2 := g2.get hr1
  have R2 := R.keep (g1.trans g2).keep
  have l2 := g2.get l11
  have rI : rl ≠ I := ne_new hr1 hI
  have hps := R.length
  refine r_compK (Dt := Unit) (ε' := []) rs.length
    (fun i D _ σ' => But [D, I] σ2 σ' ∧ σ' D = some (.list ((rs.take i).map fun r => AV.str r.lead)) ∧ σ' I = some (litO rl i) ∧ Keep isT σ2 σ')
    (fun D _ σ' => But [D, I] σ2 σ' ∧ σ' D = some (.list (rs.map fun r => AV.str r.lead)))
    () S3 (by decide) (by exact rfl) (by exact trivial) (by exact rfl) (by exact trivial) (by intro C; exact trivial) I2 self_lit ?_ ?_ ?_ ?_
  · intro D hD
    refine ⟨But.upd (by simp), upd_self, ?_, (Grow.upd hD).keep⟩
    rw [upd_ne (ne_new I2 hD)]; exact I2
  · intro D C i _ σ' s' N en hi hD hGD hGC S ⟨b, hD', hI', kp⟩
    have GI' := hidden_sto (h := s3.heap) GI I2
    have DI : D ≠ I := Ne.symm (ne_new I2 hD)
    have r' := b.get hr2 ⟨ne_new hr2 hD, rI, trivial⟩
    refine ex1 (R2.get (i := i) (b := rs[i]) (by simp [hi])) fun p z0x0r => ?_
    refine and2 z0x0r fun hp ep => ?_
    refine r_nextList S hI' GI' r' (av := .ref p) (by rw [List.getElem?_map, hp]; rfl) ?_
    intro s S
    refine Vals.ref ?_
    refine ⟨_, rfl, ?_⟩
    have k1 : Keep isT σ' (upd σ' I (litO rl (i + 1))) := Keep.upd hI' fun q => q
    have hD'' := upd_off (ao := litO rl (i + 1)) hD' DI
    have I'' := upd_self (σ := σ') (a := I) (o := litO rl (i + 1))
    have b'' := b.trans (But.upd (l := I) (ao := litO rl (i + 1)) (by simp : I ∈ [D, I]))
    have kp'' := kp.trans k1
    have ep' := kp'' _ _ ep trivial
    generalize upd σ' I (litO rl (i + 1)) = σ4 at *
    repeat wtm_at "m"
    refine r_tests0 ?_
    repeat wtm_at "m"
    refine r_titem (k := 0) ‹St _ _ _ _ _ _› ep' (by decide) rfl (Vals.str fun t => ?_) (hs := by with_unfolding_all rfl)
    repeat wtm_at "m"
    have hz1 : ((rs.take i).map fun r => AV.str r.lead).length ≤ 1000 := by rw [List.length_map, List.length_take]; omega
    repeat wtm_at "m"
    refine ⟨(), _, St.vars (by assumption) trivial, b''.trans (But.upd (by simp)), ?_, upd_off I'' (Ne.symm DI), kp''.trans (Keep.upd hD'' fun q => q)⟩
    rw [upd_self, show rs.take (i + 1) = rs.take i ++ [rs[i]] by rw [List.take_add_one]; simp [hi], List.map_append]; rfl
  · rintro D C _ σ' s' N en hD hGD S Hpat1
    refine and4 Hpat1 fun b hD' hI' kp => ?_
    have r' := b.get hr2 ⟨ne_new hr2 hD, rI, trivial⟩
    refine r_endList S hh hI' (hidden_sto (h := s3.heap) GI I2) r' (by rw [List.length_map]; omega) ?_
    intro s S
    refine ⟨rfl, (), _, S, b.trans (But.rem (l := I) (by simp)), ?_⟩
    rw [rem_ne (Ne.symm (ne_new I2 hD))]
    rw [List.take_of_length_le (Nat.le_refl _)] at hD'
    exact hD'
  · intro D _ σ' s' hD hGD S ⟨b, hD'⟩
    unfold CompEnd
    dsimp only
    have gg := (((b.drop Grow.refl hD).drop g2 hI).grow)
    repeat wtm_at "m"
    refine r_cat ‹St _ _ _ _ _ _› (gg.get l11) hD' (by simp; omega) ?_
    intro a s σ5 ha Ga g5 a5 S5
    repeat wtm_at "m"
    refine h a _ σ5 ((g1.trans gg).trans g5) ?_ (St.vars (by assumption) ⟨rfl, rfl, trivial⟩)
    rw [a5]
    simp only [List.map_cons, List.map_map]
    rfl

noncomputable def ColsAt (σ : Sto) (cs : List Addr) (xs : List Str) : Prop := All2 (fun c x => σ c = some (.list ((colsOf x).map .int))) cs xs
theorem ColsAt.grow {σ σ' : Sto} {cs : List Addr} {xs : List Str} (h : ColsAt σ cs xs) (g : Grow σ σ') : ColsAt σ' cs xs := All2.mono (P' := fun c (x : Str) => σ' c = some (.list ((colsOf x).map .int))) (fun _ _ e => g.get e) h
theorem ColsAt.upd {σ : Sto} {cs : List Addr} {xs : List Str} {a : Addr} {o : AO} (h : ColsAt σ cs xs) (n : ∀ c ∈ cs, c ≠ a) : ColsAt (upd σ a o) cs xs := by
  induction cs generalizing xs with
  | nil => cases xs with
    | nil => trivial
    | cons _ _ => exact h.elim
  | cons c cs ih => cases xs with
    | nil => exact h.elim
    | cons x xs => exact ⟨upd_off h.1 (n c (by simp)), ih h.2 fun b hb => n b (by simp [hb])⟩
theorem ColsAt.rem {σ : Sto} {cs : List Addr} {xs : List Str} {a : Addr} (h : ColsAt σ cs xs) (n : ∀ c ∈ cs, c ≠ a) : ColsAt (rem σ a) cs xs := by
  induction cs generalizing xs with
  | nil => cases xs with
    | nil => trivial
    | cons _ _ => exact h.elim
  | cons c cs ih => cases xs with
    | nil => exact h.elim
    | cons x xs => exact ⟨rem_off h.1 (n c (by simp)), ih h.2 fun b hb => n b (by simp [hb])⟩
theorem refs_ne_cols {cs : List Addr} {x : Str} (h : cs.map AV.ref = (colsOf x).map AV.int) : False := by
  unfold colsOf at h
  cases cs with
  | nil => simp at h
  | cons c cs => simp [List.range, List.range.loop] at h
theorem due_columns {L rl ll : Addr} {xs : List Str} {Q : Flow → Shared → Prop} (W : Wd (kk w.params) mg mb z.heap) (hh : A.handled = none) (hdp : A.depth + 20 < recursionLimit)
   (S0 : St z G (callEnvC (fd350 w.params) L 350) [("rows", .ref rl), ("leads", .ref ll)] σ s) (hl : σ ll = some (.list (xs.map .str))) (hz : xs.length ≤ 1000) (hx : ∀ x ∈ xs, x.cps.size ≤ 100)
   (C₁ : ∀ (x : Str) (c : Addr), List.lookup x (callEnvC (fd350 w.params) L 350).cells = some c → G c = none)
   (h : ∀ l cs s' σ', Grow σ σ' → σ' l = some (.list (cs.map .ref)) → ColsAt σ' cs xs → St z G (callEnvC (fd350 w.params) L 350) [("rows", .ref rl), ("leads", .ref ll), ("columns", .ref l)] σ' s' → Q .next s') :
   wpAny (model PySem.Challenge.pw_pe0273_01 w) A (exec (st350 w.params 1) (callEnvC (fd350 w.params) L 350)) Q E s := by
  show wpAny _ _ (exec (.Assign [.Name _ _] (.ListComp _ [⟨.Name _ _, _, _, 0⟩] _ _) _) _) _ _ _
  repeat wtm_at "m"
  ((with_reducible refine' r_ListComp ?bu128 ?cu128 ?du128 ?eu128 ?_); (case bu128 => with_unfolding_all rfl); (case cu128 => exact rfl); (case du128 => decide); (case eu128 => intro _; exact rfl))
  repeat wtm_at "m"
  refine r_iterList ‹St _ _ _ _ _ _› hl ?_
  intro I s3 σ2 hI GI g2 I2 S3
  have hl2 := g2.get hl
  have lI : ll ≠ I := ne_new hl hI
  refine r_compK (Dt := List Addr) (ε' := []) xs.length
    (fun i D cs σ' => But [D, I] σ2 σ' ∧ σ' D = some (.list (cs.map .ref)) ∧ σ' I = some (litO ll i) ∧ ColsAt σ' cs (xs.take i) ∧ (∀ c ∈ cs, c ≠ D) ∧ (∀ c ∈ cs, c ≠ I))
    (fun D cs σ' => But [D, I] σ2 σ' ∧ σ' D = some (.list (cs.map .ref)) ∧ ColsAt σ' cs xs ∧ (∀ c ∈ cs, c ≠ D))
    [] S3 (by decide) (by exact rfl) (by exact trivial) (by exact rfl) (by exact trivial) (by intro C; exact trivial) I2 self_lit ?_ ?_ ?_ ?_
  · intro D hD
    refine ⟨But.upd (by simp), upd_self, ?_, trivial, by simp, by simp⟩
    rw [upd_ne (ne_new I2 hD)]; exact I2
  · intro D C i cs σ' s' N en hi hD hGD hGC S ⟨b, hD', hI', T, nD, nI⟩
    have GI' := hidden_sto (h := s3.heap) GI I2
    have DI : D ≠ I := Ne.symm (ne_new I2 hD)
    have r' := b.get hl2 ⟨ne_new hl2 hD, lI, trivial⟩
    refine r_nextList S hI' GI' r' (av := .str xs[i]) (by rw [List.getElem?_map]; simp [hi]) ?_
    intro s S
    refine Vals.str fun t => ?_
    refine ⟨_, rfl, ?_⟩
    have hD'' := upd_off (ao := litO ll (i + 1)) hD' DI
    have I'' := upd_self (σ := σ') (a := I) (o := litO ll (i + 1))
    have b'' := b.trans (But.upd (l := I) (ao := litO ll (i + 1)) (by simp : I ∈ [D, I]))
    have T'' := T.upd (o := litO ll (i + 1)) nI
    generalize upd σ' I (litO ll (i + 1)) = σ4 at *
    have hcl := T.length
    rw [List.length_take] at hcl
    repeat wtm_at "m"
    refine r_tests0 ?_
    repeat wtm_at "m"
    refine columns W ‹St _ _ _ _ _ _› hh (by omega) (by have := hx _ (List.getElem_mem hi); omega) ?_
    intro c s σ5 g5 c5 S5
    have D5 := g5.get hD''
    have I5 := g5.get I''
    have T5 := T''.grow g5
    have ncD : c ≠ D := fun q => by
      rw [q, D5] at c5
      exact refs_ne_cols (AO.list.inj (Option.some.inj c5))
    have ncI : c ≠ I := ne_kind c5 I5 (by intro q; cases q)
    repeat wtm_at "m"
    refine ⟨cs ++ [c], _, St.vars (by assumption) trivial, (b''.trans g5.but).trans (But.upd (by simp)), ?_, upd_off I5 (Ne.symm DI), ?_, ?_, ?_⟩
    · rw [upd_self, List.map_append]; rfl
    · rw [show xs.take (i + 1) = xs.take i ++ [xs[i]] by rw [List.take_add_one]; simp [hi]]
      refine ColsAt.upd (All2.append T5 ⟨c5, trivial⟩) fun b hb => ?_
      rcases List.mem_append.mp hb with hb | hb
      · exact nD b hb
      · rw [List.mem_singleton.mp hb]; exact ncD
    · intro b hb
      rcases List.mem_append.mp hb with hb | hb
      · exact nD b hb
      · rw [List.mem_singleton.mp hb]; exact ncD
    · intro b hb
      rcases List.mem_append.mp hb with hb | hb
      · exact nI b hb
      · rw [List.mem_singleton.mp hb]; exact ncI
  · rintro D C cs σ' s' N en hD hGD S Hpat2
    refine and6 Hpat2 fun b hD' hI' T nD nI => ?_
    have r' := b.get hl2 ⟨ne_new hl2 hD, lI, trivial⟩
    refine r_endList S hh hI' (hidden_sto (h := s3.heap) GI I2) r' (by rw [List.length_map]; exact Nat.le_refl _) ?_
    intro s S
    rw [List.take_of_length_le (Nat.le_refl _)] at T
    refine ⟨rfl, cs, _, S, b.trans (But.rem (l := I) (by simp)), ?_, T.rem nI, nD⟩
    rw [rem_ne (Ne.symm (ne_new I2 hD))]
    exact hD'
  · intro D cs σ' s' hD hGD S ⟨b, hD', T, nD⟩
    unfold CompEnd
    dsimp only
    repeat wtm_at "m"
    exact h D cs _ σ' (((b.drop Grow.refl hD).drop g2 hI).grow) hD' T (St.vars (by assumption) ⟨rfl, rfl, rfl, trivial⟩)
noncomputable def colK (xs : List Str) (k : Int) : List Int := colsOf (xs.getD k.toNat "")
noncomputable def filtS (xs : List Str) (i : Int) (seen : List Int) : List Int := seen.filter fun k => !belowB (colK xs i) (colK xs k)
theorem ColsAt.get {σ : Sto} {cs : List Addr} {xs : List Str} (h : ColsAt σ cs xs) {k : Int} (h0 : 0 ≤ k) (hk : k < xs.length) : ∃ c, cs[k.toNat]? = some c ∧ σ c = some (.list ((colK xs k).map .int)) := by
  have e : xs[k.toNat]? = some (xs.getD k.toNat "") := by rw [List.getD_eq_getElem?_getD, List.getElem?_eq_getElem (by omega)]; rfl
  refine ex1 (All2.get h e) fun c z3x0r => ?_
  refine and2 z3x0r fun hc e => ?_
  exact ⟨c, hc, e⟩
theorem due_seen {L rl ll cl sl : Addr} {xs : List Str} {cs : List Addr} {seen : List Int} {i : Int} {εr : Vars} {Q : Flow → Shared → Prop} (W : Wd (kk w.params) mg mb z.heap) (hh : A.handled = none) (hdp : A.depth + 20 < recursionLimit) (hu : A.units + 80 < cLine)
   (S0 : St z G (callEnvC (fd350 w.params) L 350) (("columns", .ref cl) :: ("here", .int i) :: ("seen", .ref sl) :: εr) σ s) (hc : σ cl = some (.list (cs.map .ref))) (T : ColsAt σ cs xs) (hz : xs.length ≤ 1000)
   (hs : σ sl = some (.list (seen.map .int))) (hk : ∀ k ∈ seen, 0 ≤ k ∧ k < xs.length) (hi0 : 0 ≤ i) (hi1 : i < xs.length) (hsz : seen.length ≤ 1000)
   (C₁ : ∀ (x : Str) (c : Addr), List.lookup x (callEnvC (fd350 w.params) L 350).cells = some c → G c = none)
   (h : ∀ l s' σ', σ l = none → G l = none → Grow σ σ' → σ' l = some (.list ((filtS xs i seen).map .int)) → St z G (callEnvC (fd350 w.params) L 350) (put (("columns", .ref cl) :: ("here", .int i) :: ("seen", .ref sl) :: εr) "seen" (.ref l)) σ' s' → Q .next s') :
   wpAny (model PySem.Challenge.pw_pe0273_01 w) A (exec (lb350 w.params 1) (callEnvC (fd350 w.params) L 350)) Q E s := by
  show wpAny _ _ (exec (.Assign [.Name _ _] (.ListComp _ [⟨.Name _ _, _, _, 0⟩] _ _) _) _) _ _ _
  ((with_reducible refine' r_AssignListComp ?au129 ?bu129 ?cu129 ?du129 ?eu129 ?_); (case au129 => exact rfl); (case bu129 => with_unfolding_all rfl); (case cu129 => exact rfl); (case du129 => decide); (case eu129 => intro _; exact rfl))
  repeat wtm_at "m"
  refine r_iterList ‹St _ _ _ _ _ _› hs ?_
  intro I s3 σ2 hI GI g2 I2 S3
  have hs2 := g2.get hs
  have hc2 := g2.get hc
  have T2 := T.grow g2
  have sI : sl ≠ I := ne_new hs hI
  have cI : cl ≠ I := ne_new hc hI
  let f : Int → Bool := fun k => !belowB (colK xs i) (colK xs k)
  refine r_compK (Dt := Unit) (ε' := [("columns", .ref cl), ("here", .int i)]) seen.length
    (fun j D _ σ' => But [D, I] σ2 σ' ∧ σ' D = some (.list (((seen.take j).filter f).map .int)) ∧ σ' I = some (litO sl j))
    (fun D _ σ' => But [D, I] σ2 σ' ∧ σ' D = some (.list ((seen.filter f).map .int)))
    () S3 (by decide) (by exact rfl) (by exact ⟨⟨rfl, rfl⟩, ⟨rfl, rfl⟩, trivial⟩) (by exact rfl) (by exact ⟨rfl, rfl, trivial⟩) (by intro C; exact ⟨rfl, rfl, trivial⟩) I2 self_lit ?_ ?_ ?_ ?_
  · intro D hD
    refine ⟨But.upd (by simp), upd_self, ?_⟩
    rw [upd_ne (ne_new I2 hD)]; exact I2
  · intro D C j _ σ' s' N en hj hD hGD hGC S ⟨b, hD', hI'⟩
    have GI' := hidden_sto (h := s3.heap) GI I2
    have DI : D ≠ I := Ne.symm (ne_new I2 hD)
    have s' := b.get hs2 ⟨ne_new hs2 hD, sI, trivial⟩
    refine r_nextList S hI' GI' s' (av := .int seen[j]) (by rw [List.getElem?_map]; simp [hj]) ?_
    intro s S
    refine Vals.int fun t => ?_
    refine ⟨_, rfl, ?_⟩
    have hD'' := upd_off (ao := litO sl (j + 1)) hD' DI
    have I'' := upd_self (σ := σ') (a := I) (o := litO sl (j + 1))
    have b'' := b.trans (But.upd (l := I) (ao := litO sl (j + 1)) (by simp : I ∈ [D, I]))
    generalize upd σ' I (litO sl (j + 1)) = σ4 at *
    have c4 := b''.get hc2 ⟨ne_new hc2 hD, cI, trivial⟩
    refine ex1 (T2.get hi0 hi1) fun ci z4x0r => ?_
    refine and2 z4x0r fun hci ei => ?_
    have hkj := hk _ (List.getElem_mem hj)
    refine ex1 (T2.get hkj.1 hkj.2) fun ck z5x0r => ?_
    refine and2 z5x0r fun hck ek => ?_
    refine ex1 (T.get hi0 hi1) fun _ z6x0r => ?_
    refine and2 z6x0r fun _ ei0 => ?_
    have hci' : cs[i.toNat]? = some ci := hci
    have eiI : ci ≠ I := by
      refine ex1 (T.get hi0 hi1) fun c' z7x0r => ?_
      refine and2 z7x0r fun hc' e' => ?_
      rw [hci] at hc'; cases hc'
      exact ne_new e' hI
    have ekI : ck ≠ I := by
      refine ex1 (T.get hkj.1 hkj.2) fun c' z8x0r => ?_
      refine and2 z8x0r fun hc' e' => ?_
      rw [hck] at hc'; cases hc'
      exact ne_new e' hI
    have ei4 := b''.get ei ⟨ne_new ei hD, eiI, trivial⟩
    have ek4 := b''.get ek ⟨ne_new ek hD, ekI, trivial⟩
    repeat wtm_at "m"
    refine r_tests1 ?_
    with_reducible refine' wpAny_isTrue_Not ?_
    repeat wtm_at "m"
    refine r_itemAny ‹St _ _ _ _ _ _› c4 hi0 (by omega) (av := .ref ci) (by rw [List.getElem?_map, hci]; rfl) (Vals.ref ?_) (hs := by with_unfolding_all rfl)
    repeat wtm_at "m"
    refine r_itemAny ‹St _ _ _ _ _ _› c4 hkj.1 (by omega) (av := .ref ck) (by rw [List.getElem?_map, hck]; rfl) (Vals.ref ?_) (hs := by with_unfolding_all rfl)
    repeat wtm_at "m"
    have hl7 : ∀ k, (colK xs k).length = 7 := fun k => by simp [colK, colsOf]
    refine below W ‹St _ _ _ _ _ _› hh (by first | exact room hdp rfl | omega) (by first | exact room hu rfl | omega) ei4 ek4 (hl7 _) (hl7 _) ?_
    intro s σ5 g5 S5
    have D5 := g5.get hD''
    have I5 := g5.get I''
    have htk : seen.take (j + 1) = seen.take j ++ [seen[j]] := by rw [List.take_add_one]; simp [hj]
    have hz3 : ((seen.take j).filter f).length ≤ 1000 := Nat.le_trans (List.length_filter_le _ _) (by rw [List.length_take]; omega)
    repeat wtm_at "m"
    refine r_ite (fun hs1 => ?_) fun hs1 => ?_
    · have e1 : [seen[j]].filter f = [seen[j]] := by rw [List.filter_cons, if_pos hs1]; rfl
      repeat wtm_at "m"
      refine ⟨(), _, St.vars (by assumption) ⟨rfl, rfl, trivial⟩, (b''.trans g5.but).trans (But.upd (by simp)), ?_, upd_off I5 (Ne.symm DI)⟩
      rw [upd_self, htk, List.filter_append, e1, List.map_append]; rfl
    · have e1 : [seen[j]].filter f = [] := by rw [List.filter_cons, if_neg (by rw [show f seen[j] = false from hs1]; decide)]; rfl
      repeat wtm_at "m"
      refine ⟨(), _, St.vars (by assumption) ⟨rfl, rfl, trivial⟩, b''.trans g5.but, ?_, I5⟩
      rw [htk, List.filter_append, e1, List.append_nil]; exact D5
  · rintro D C _ σ' s' N en hD hGD S Hpat9
    refine and3 Hpat9 fun b hD' hI' => ?_
    have s' := b.get hs2 ⟨ne_new hs2 hD, sI, trivial⟩
    refine r_endList S hh hI' (hidden_sto (h := s3.heap) GI I2) s' (by rw [List.length_map]; exact Nat.le_refl _) ?_
    intro s S
    refine ⟨rfl, (), _, S, b.trans (But.rem (l := I) (by simp)), ?_⟩
    rw [rem_ne (Ne.symm (ne_new I2 hD))]
    rw [List.take_of_length_le (Nat.le_refl _)] at hD'
    exact hD'
  · intro D _ σ' s' hD hGD S ⟨b, hD'⟩
    refine r_compStore S (by exact rfl) ?_
    intro s S
    have gg := (((b.drop Grow.refl hD).drop g2 hI).grow)
    refine h D _ σ' ?_ hGD gg hD' S
    cases e : σ D with
    | none => rfl
    | some o => have := g2.get e; rw [hD] at this; cases this
noncomputable def alikeF (rs : List Rw) (laid : List Bool) (sight : List Int) (kind : Int) : List Int := (standF rs laid sight).filter fun k => (rs.getD (k - 1).toNat rw0).kind == kind
theorem standF_mem {rs : List Rw} {laid : List Bool} : ∀ {sight : List Int} {k : Int}, k ∈ standF rs laid sight → k ∈ sight
  | [], _, h => h
  | a :: r, k, h => by
    unfold standF at h
    split at h
    · rcases List.mem_cons.mp h with rfl | h
      · simp
      · exact List.mem_cons_of_mem _ (standF_mem h)
    · exact List.mem_cons_of_mem _ (standF_mem h)
theorem standF_len {rs : List Rw} {laid : List Bool} : ∀ {sight : List Int}, (standF rs laid sight).length ≤ sight.length
  | [] => Nat.le_refl _
  | a :: r => by
    unfold standF
    have := standF_len (rs := rs) (laid := laid) (sight := r)
    split <;> simp only [List.length_cons] <;> omega
theorem due_alike {L rl ll sl : Addr} {rs : List Rw} {ps : List Addr} {seen : List Int} {laid : List Bool} {kind : Int} {εr : Vars} {Q : Flow → Shared → Prop} (W : Wd (kk w.params) mg mb z.heap) (hh : A.handled = none) (hdp : A.depth + 60 < recursionLimit) (hu : A.units + 280 < cLine)
   (S0 : St z G (callEnvC (fd350 w.params) L 350) (("rows", .ref rl) :: ("laid", .ref ll) :: ("kind", .int kind) :: ("seen", .ref sl) :: εr) σ s)
   (hr : σ rl = some (.list (ps.map .ref))) (R : RwsAt σ ps rs) (hl : σ ll = some (.list (laid.map .bool))) (hs : σ sl = some (.list (seen.map .int)))
   (hz : rs.length ≤ 1000) (hsz : seen.length ≤ 1000) (hlz : laid.length ≤ 1000) (hk : ∀ k ∈ seen.drop 1, 1 ≤ k ∧ k ≤ rs.length ∧ k < laid.length) (hne : 1 ≤ seen.length)
   (C₁ : ∀ (x : Str) (c : Addr), List.lookup x (callEnvC (fd350 w.params) L 350).cells = some c → G c = none)
   (h : ∀ l s' σ', σ l = none → G l = none → Grow σ σ' → σ' l = some (.list ((alikeF rs laid (seen.drop 1) kind).map .int)) → St z G (callEnvC (fd350 w.params) L 350) (put (("rows", .ref rl) :: ("laid", .ref ll) :: ("kind", .int kind) :: ("seen", .ref sl) :: εr) "alike" (.ref l)) σ' s' → Q .next s') :
   wpAny (model PySem.Challenge.pw_pe0273_01 w) A (exec (lb350 w.params 3) (callEnvC (fd350 w.params) L 350)) Q E s := by
  show wpAny _ _ (exec (.Assign [.Name _ _] (.ListComp _ [⟨.Name _ _, _, _, 0⟩] _ _) _) _) _ _ _
  ((with_reducible refine' r_AssignListComp ?au131 ?bu131 ?cu131 ?du131 ?eu131 ?_); (case au131 => exact rfl); (case bu131 => with_unfolding_all rfl); (case cu131 => exact rfl); (case du131 => decide); (case eu131 => intro _; exact rfl))
  repeat wtm_at "m"
  refine r_MkS ‹St _ _ _ _ _ _› (.int _ _) .none .none ?_
  intro sc s σ1 hsc Gsc g1 sc1 S1
  refine r_sliced S1 (g1.get hs) sc1 (by simp) (by rw [List.length_map]; omega) ?_
  intro rest s σ2 hrest Grest g2 rest2 S2
  have ep : pickL (seen.map AV.int) (some (1 : Int)) none none = (seen.drop 1).map .int := by
    rw [show (1 : Int) = ((1 : Nat) : Int) by rfl, pickL_from _ _ (by rw [List.length_map]; omega), List.map_drop]
  rw [ep] at rest2
  have g12 := g1.trans g2
  repeat wtm_at "m"
  refine standing W ‹St _ _ _ _ _ _› hh (by first | exact room hdp rfl | omega) (by first | exact room hu rfl | omega) (g12.get hr) (R.keep g12.keep) rest2 (g12.get hl) hz (by rw [List.length_drop]; omega) hk hlz ?_
  intro st s σ3 hst Gst g3 st3 S3
  have hr3 := g3.get (g12.get hr)
  have R3 := R.keep (g12.trans g3).keep
  have smem : ∀ k ∈ standF rs laid (seen.drop 1), 1 ≤ k ∧ k ≤ rs.length := fun k hk' => ⟨(hk k (standF_mem hk')).1, (hk k (standF_mem hk')).2.1⟩
  have slen : (standF rs laid (seen.drop 1)).length ≤ 1000 := Nat.le_trans standF_len (by rw [List.length_drop]; omega)
  refine r_iterList ‹St _ _ _ _ _ _› st3 ?_
  intro I s4 σ4 hI GI g4 I4 S4
  have st4 := g4.get st3
  have hr4 := g4.get hr3
  have R4 := R3.keep g4.keep
  have stI : st ≠ I := ne_new st3 hI
  have rI : rl ≠ I := ne_new hr3 hI
  have ealike : alikeF rs laid (seen.drop 1) kind = (standF rs laid (seen.drop 1)).filter fun k => (rs.getD (k - 1).toNat rw0).kind == kind := rfl
  generalize standF rs laid (seen.drop 1) = sd at *
  let f : Int → Bool := fun k => (rs.getD (k - 1).toNat rw0).kind == kind
  have hps := R.length
  refine r_compK (Dt := Unit) (ε' := [("rows", .ref rl), ("kind", .int kind)]) sd.length
    (fun j D _ σ' => But [D, I] σ4 σ' ∧ σ' D = some (.list (((sd.take j).filter f).map .int)) ∧ σ' I = some (litO st j) ∧ Keep isT σ4 σ')
    (fun D _ σ' => But [D, I] σ4 σ' ∧ σ' D = some (.list ((sd.filter f).map .int)))
    () S4 (by decide) (by exact rfl) (by exact ⟨⟨rfl, rfl⟩, ⟨rfl, rfl⟩, trivial⟩) (by exact rfl) (by exact ⟨rfl, rfl, trivial⟩) (by intro C; exact ⟨rfl, rfl, trivial⟩) I4 self_lit ?_ ?_ ?_ ?_
  · intro D hD
    refine ⟨But.upd (by simp), upd_self, ?_, (Grow.upd hD).keep⟩
    rw [upd_ne (ne_new I4 hD)]; exact I4
  · intro D C j _ σ' s' N en hj hD hGD hGC S ⟨b, hD', hI', kp⟩
    have GI' := hidden_sto (h := s4.heap) GI I4
    have DI : D ≠ I := Ne.symm (ne_new I4 hD)
    have s' := b.get st4 ⟨ne_new st4 hD, stI, trivial⟩
    refine r_nextList S hI' GI' s' (av := .int sd[j]) (by rw [List.getElem?_map]; simp [hj]) ?_
    intro s S
    refine Vals.int fun t => ?_
    refine ⟨_, rfl, ?_⟩
    have k1 : Keep isT σ' (upd σ' I (litO st (j + 1))) := Keep.upd hI' fun q => q
    have hD'' := upd_off (ao := litO st (j + 1)) hD' DI
    have I'' := upd_self (σ := σ') (a := I) (o := litO st (j + 1))
    have b'' := b.trans (But.upd (l := I) (ao := litO st (j + 1)) (by simp : I ∈ [D, I]))
    have kp'' := kp.trans k1
    generalize upd σ' I (litO st (j + 1)) = σ5 at *
    have r5 := b''.get hr4 ⟨ne_new hr4 hD, rI, trivial⟩
    have R5 := R4.keep kp''
    have hm := smem _ (List.getElem_mem hj)
    refine ex1 (R5.get (i := (sd[j] - 1).toNat) (b := rs.getD (sd[j] - 1).toNat rw0) (by rw [List.getD_eq_getElem?_getD, List.getElem?_eq_getElem (by omega)]; rfl)) fun pm z10x0r => ?_
    refine and2 z10x0r fun hpm epm => ?_
    have hf : f sd[j] = ((rs.getD (sd[j] - 1).toNat rw0).kind == kind) := rfl
    generalize rs.getD (sd[j] - 1).toNat rw0 = rm at *
    have htk : sd.take (j + 1) = sd.take j ++ [sd[j]] := by rw [List.take_add_one]; simp [hj]
    have hz3 : ((sd.take j).filter f).length ≤ 1000 := Nat.le_trans (List.length_filter_le _ _) (by rw [List.length_take]; omega)
    repeat wtm_at "m"
    refine r_tests1 ?_
    repeat wtm_at "m"
    refine r_itemAny ‹St _ _ _ _ _ _› r5 (by omega) (by omega) (av := .ref pm) (by rw [List.getElem?_map, hpm]; rfl) (Vals.ref ?_) (hs := by with_unfolding_all rfl)
    repeat wtm_at "m"
    refine r_titem (k := 3) ‹St _ _ _ _ _ _› epm (by decide) rfl (Vals.int fun t => ?_) (hs := by with_unfolding_all rfl)
    repeat wtm_at "m"
    refine r_ite (fun hs1 => ?_) fun hs1 => ?_
    · have hf' : f sd[j] = true := by rw [hf]; simpa using hs1
      have e1 : [sd[j]].filter f = [sd[j]] := by rw [List.filter_cons, if_pos hf']; rfl
      repeat wtm_at "m"
      refine ⟨(), _, St.vars (by assumption) ⟨rfl, rfl, trivial⟩, b''.trans (But.upd (by simp)), ?_, upd_off I'' (Ne.symm DI), kp''.trans (Keep.upd hD'' fun q => q)⟩
      rw [upd_self, htk, List.filter_append, e1, List.map_append]; rfl
    · have hf' : f sd[j] = false := by rw [hf]; simpa using hs1
      have e1 : [sd[j]].filter f = [] := by rw [List.filter_cons, if_neg (by rw [hf']; decide)]; rfl
      repeat wtm_at "m"
      refine ⟨(), _, St.vars (by assumption) ⟨rfl, rfl, trivial⟩, b'', ?_, I'', kp''⟩
      rw [htk, List.filter_append, e1, List.append_nil]; exact hD''
  · rintro D C _ σ' s' N en hD hGD S Hpat11
    refine and4 Hpat11 fun b hD' hI' kp => ?_
    have s' := b.get st4 ⟨ne_new st4 hD, stI, trivial⟩
    refine r_endList S hh hI' (hidden_sto (h := s4.heap) GI I4) s' (by rw [List.length_map]; exact Nat.le_refl _) ?_
    intro s S
    refine ⟨rfl, (), _, S, b.trans (But.rem (l := I) (by simp)), ?_⟩
    rw [rem_ne (Ne.symm (ne_new I4 hD))]
    rw [List.take_of_length_le (Nat.le_refl _)] at hD'
    exact hD'
  · intro D _ σ' s' hD hGD S ⟨b, hD'⟩
    refine r_compStore S (by exact rfl) ?_
    intro s S
    have gg := (g12.trans g3).trans (((b.drop Grow.refl hD).drop g4 hI).grow)
    refine h D _ σ' ?_ hGD gg (by rw [ealike]; exact hD') S
    cases e : σ D with
    | none => rfl
    | some o => have := g4.get (g3.get (g12.get e)); rw [hD] at this; cases this
end
section
section
variable {prog : Program} {w : World} {A : Around} {E : Value → Shared → Prop} {s s' : Shared} {K : Frag} {mg mb : Str → Option Value} {z : Shared} {G : Addr → Option (Obj × Bool)} {env : Env} {ε : Vars} {σ σ' : Sto} {x : Str} {pos : Pos}
noncomputable def setO (prog : Program) (w : World) (P : Int → Bool) (n : Nat) : AO := .raw fun o => ∃ es ep t, o.ExactSet ∧ o.data = .set es ep t ∧ ElemsOf (intKind prog w) es.toList ∧ (∀ k, P k = true ↔ ∃ e ∈ es.toList, (intKind prog w).is k e.2 = true) ∧ es.size < scanBound ∧ t.fits es.size = true ∧ es.size = n
theorem setO_of {h : Heap} {a : Addr} {P : Int → Bool} {n : Nat} (x : h.SetOf (intKind prog w) a P n) : OR h a (setO prog w P n) := by
  obtain ⟨o, es, ep, t, ho, r⟩ := x
  exact ⟨o, ho, es, ep, t, r⟩
theorem of_setO {h : Heap} {a : Addr} {P : Int → Bool} {n : Nat} (x : OR h a (setO prog w P n)) : h.SetOf (intKind prog w) a P n := by
  obtain ⟨o, ho, es, ep, t, r⟩ := x
  exact ⟨o, es, ep, t, ho, r⟩
theorem r_setAdd {D : Addr} {P : Int → Bool} {n : Nat} {k : Int} {t : Tok} {Q : Value → Shared → Prop} (S : St z G env ε σ s) (hD : σ D = some (setO prog w P n)) (hG : G D = none) (hn : n ≤ 1000)
    (h : ∀ s', St z G env ε (upd σ D (setO prog w (fun k' => P k' || decide (k' = k)) (if P k then n else n + 1))) s' → Q .none s') : wpAny (model prog w) A (call (.builtin "set.add") [.ref D, .int k t]) Q E s :=
  call_set_add (knd := intKind prog w) (intKind_is prog w k t) rfl (of_setO (S.obj _ _ hD)) (by unfold scanBound; omega) fun h' hs hS =>
    h _ (S.turn (s' := { s with heap := h', toks := s.toks + 1 }) ⟨rfl, rfl⟩ hD hG (fun b o e1 e2 => (hs.2 b e1).trans e2) (setO_of hS))
theorem r_lenSet {D : Addr} {P : Int → Bool} {n : Nat} {Q : Value → Shared → Prop} (S : St z G env ε σ s) (hD : σ D = some (setO prog w P n)) (hn : n ≤ 1000) (h : ∀ t s', St z G env ε σ s' → Q (.int n t) s') : wpAny (model prog w) A (call (.builtin "len") [.ref D]) Q E s := by
  obtain ⟨o, ho, es, ep, t, hex, hd, _, _, _, hf, rfl⟩ := S.obj _ _ hD
  exact call_len_set ho hex hd hf (by omega) (h _ _ S.tick)

theorem compTurn_set (elt target iter : Expr) (ifs : List Expr) (scope : Scope) (pos : Pos) (it acc : Value) (env : Env) :
    compTurn (.SetComp elt [⟨target, iter, ifs, 0⟩] scope pos) 0 it acc env = (do
      standAt iter.pos
      match ← pyNext it with
      | none => pure (.done .next)
      | some v =>
        letOwnedTupleGo target it v
        assign target env v
        let mut ok := true
        for c in ifs do
          if ok then ok ← isTrue c env (eval c env)
        if ok then
          (do let v ← eval elt env; standAt elt.pos; let _ ← call (.builtin "set.add") [acc, v])
        again (.compLoop (.SetComp elt [⟨target, iter, ifs, 0⟩] scope pos) 0 it acc env)) := by rfl
theorem codeAny_setLoop {elt target iter : Expr} {scope : Scope} {pos : Pos} {it acc : Value} {R : Result → Shared → Prop} (I : Nat → Shared → Prop)
    (turn : ∀ n s, I n s → wpAny (model prog w) A (pyNext it) (fun r s₁ => match r with
      | none => R (.ok .next) s₁
      | some v => wpAny (model prog w) A (assign target env v) (fun _ s₂ => wpAny (model prog w) A (eval elt env) (fun x s₃ =>
          wpAny (model prog w) A (call (.builtin "set.add") [acc, x]) (fun _ s₄ => ∃ m, m < n ∧ I m s₄) (notedBy (model prog w) A env fun e s' => R (.error e) s') s₃)
          (notedBy (model prog w) A env fun e s' => R (.error e) s') s₂) (notedBy (model prog w) A env fun e s' => R (.error e) s') s₁) (notedBy (model prog w) A env fun e s' => R (.error e) s') s)
    (n : Nat) (h : I n s) (ht : ∀ v, letOwnedTupleGo target it v = pure ()) :
    codeAny (model prog w) A (.compLoop (.SetComp elt [⟨target, iter, [], 0⟩] scope pos) 0 it acc env) R s := by
  refine codeAny_loop rfl I (fun n s hI => ?_) n h
  show wpAny _ _ ((compTurn (.SetComp elt [⟨target, iter, [], 0⟩] scope pos) 0 it acc env).onRaise (fun x => do noteFrame x env; theTreesLotGoes x)) _ _ s
  refine wpAny_noted ?_
  rw [compTurn_set]
  refine wpAny_bind (wpAny_standAt (wpAny_bind (wpAny_mono (turn n s hI) (fun r s₁ h₁ => ?_) fun _ _ h' => h')))
  cases r with
  | none => exact wpAny_pure h₁
  | some v =>
    refine wpAny_bind (wpAny_of_eq (ht v) ?_)
    refine wpAny_bind (wpAny_mono h₁ (fun _ s₂ h₂ => wpAny_bind (wpAny_pure ?_)) fun _ _ h' => h')
    exact wpAny_bind (wpAny_bind (wpAny_mono h₂ (fun x s₄ h₄ => wpAny_bind (wpAny_standAt (wpAny_bind (wpAny_mono h₄ (fun _ s₅ h₅ => wpAny_pure (wpAny_pure ⟨rfl, h₅⟩)) fun _ _ h' => h'))) ) fun _ _ h' => h'))
theorem codeAny_setStart {elt target iter ifs rest scope pos it acc env} {R : Result → Shared → Prop}
    (h0 : codeAny (model prog w) A (.compLoop (.SetComp elt (⟨target, iter, ifs, 0⟩ :: rest) scope pos) 0 it acc env) R s)
    (h : wpAny (model prog w) A (pyIter it) (fun it' s' => codeAny (model prog w) A (.compLoop (.SetComp elt (⟨target, iter, ifs, 0⟩ :: rest) scope pos) 0 it' acc env) R s')
      (notedBy (model prog w) A env fun x s' => R (.error x) s') s) :
    codeAny (model prog w) A (.compStart (.SetComp elt (⟨target, iter, ifs, 0⟩ :: rest) scope pos) 0 it acc env) R s := by
  refine codeAny_of_tree ?_
  show wpAny _ _ ((compStart (.SetComp elt (⟨target, iter, ifs, 0⟩ :: rest) scope pos) 0 it acc env).onRaise (fun x => do noteFrame x env; standAt theWindowsPlace)) _ _ s
  refine wpAny_notedAt ?_
  unfold compStart
  show wpAny _ _ (ask >>= _) _ _ s
  refine wpAny_bind (wpAny_askSetting (wpAny_ite ?_))
  split
  · first
      | exact wpAny_bind (wpAny_pure (wpAny_pure (And.intro rfl h0)))
      | exact wpAny_pure (And.intro rfl h0)
  · first
      | (refine wpAny_bind (wpAny_pure ?_); refine wpAny_bind (wpAny_rule ?_); show wpAny _ _ (standAt iter.pos >>= _) _ _ s; exact wpAny_bind (wpAny_standAt (wpAny_bind (wpAny_mono h (fun it' s' h' => wpAny_pure (And.intro rfl h')) fun _ _ x => x))))
      | (refine wpAny_bind (wpAny_rule ?_); show wpAny _ _ (standAt iter.pos >>= _) _ _ s; exact wpAny_bind (wpAny_standAt (wpAny_bind (wpAny_mono h (fun it' s' h' => wpAny_pure (And.intro rfl h')) fun _ _ x => x))))
theorem St.innerO {scope : Scope} {cl : List (Str × Addr)} {ε' : Vars} {s' : Shared} {D C : Addr} {m : Str → Option Value} {ao : AO} (S : St z G env ε σ s) (ad : Adv s s') (hkind : scope.kind = .function) (hcl : ClOk env cl)
    (hfree : ((relabel scope env).names.all fun p => p.2 != .free) = true) (hε : SubV ε ε') (hx : ∀ y av, ε'.lookup y = some av → (compEnvC scope cl C env).kindOf y ≠ some .local)
    (hD : s.heap.objs.size ≤ D) (hC : s.heap.objs.size ≤ C) (hDC : D ≠ C) (k : ∀ b o, s.heap.get? b = some o → s'.heap.get? b = some o) (hn : s'.heap.Ns C m) (hd : OR s'.heap D ao) :
    St z (hidden G σ s.heap) (compEnvC scope cl C env) ε' (upd σ D ao) s' where
  adv := S.adv.trans ad
  keep b o e := let ⟨fl, q⟩ := S.keep b o e; ⟨fl, hidden_G q⟩
  prot b o fl e := k b o (hidden_get S.prot e)
  fn := hkind
  loc := ⟨m, hn, fun y av e kd => absurd kd (hx y av e)⟩
  locG := by
    show hidden G σ s.heap C = none
    cases q : hidden G σ s.heap C with
    | none => rfl
    | some o => exact absurd (Heap.lt_size (hidden_get S.prot q)) (Nat.not_lt.mpr hC)
  locS := by
    show upd σ D ao C = none
    rw [upd_ne (Ne.symm hDC)]; exact S.fresh hC
  cel := by
    intro y c e kd
    obtain ⟨e', kd'⟩ := hcl.get e
    obtain ⟨⟨ov, y1⟩, b, sn, n⟩ := S.cel y c e' kd'
    have hlt := y1.lt
    refine ⟨⟨ov, y1.keeps k⟩, fun av q => ?_, ?_, ?_⟩
    · obtain ⟨v, hv, r⟩ := b av (hε.get q)
      exact ⟨v, hv.keeps k, r⟩
    · rw [upd_ne (Nat.ne_of_lt (Nat.lt_of_lt_of_le hlt hD))]; exact sn
    · exact Nat.ne_of_lt (Nat.lt_of_lt_of_le hlt hC)
  celG := by
    intro y c e kd p q
    obtain ⟨e', kd'⟩ := hcl.get e
    obtain ⟨_, _, sn, _⟩ := S.cel y c e' kd'
    cases r : G c with
    | some p' => rw [hidden_G r] at q; cases q; exact S.celG y c e' kd' _ r
    | none =>
      unfold hidden at q
      rw [r, sn] at q
      obtain ⟨o, _, e⟩ := Option.map_eq_some_iff.mp q
      cases e
  apart := by
    intro a b c e1 e2
    exact S.apart a b c (hcl.get e1).1 (hcl.get e2).1
  fre := by
    intro y c av _ kd
    exfalso
    have : (y, NameKind.free) ∈ (relabel scope env).names := mem_of_lookup kd
    have := List.all_eq_true.mp hfree _ this
    simp at this
  obj a o e := by
    by_cases q : a = D
    · subst q; rw [upd_self] at e; cases e; exact hd
    · rw [upd_ne q] at e; exact OR.mv (S.obj a o e) fun o' => k a o'
  objG a o e := by
    by_cases q : a = D
    · subst q
      refine .inl ?_
      cases q : hidden G σ s.heap a with
      | none => rfl
      | some o => exact absurd (Heap.lt_size (hidden_get S.prot q)) (Nat.not_lt.mpr hD)
    · rw [upd_ne q] at e
      rcases S.objG a o e with h | ⟨p, h⟩
      · exact .inl (hidden_sto h e)
      · exact .inr ⟨p, hidden_G h⟩

noncomputable def SetK (M : Model) (A : Around) (E : Value → Shared → Prop) (elt : Expr) (x : Str) (px : Pos) (iter : Expr) (scope : Scope) (cl : List (Str × Addr)) (pos : Pos) (env : Env) (Q : Value → Shared → Prop) (it : Value) (s₂ : Shared) : Prop :=
  wpAny M A (newSet (.type "set")) (fun acc s₃ => wpAny M A (newFunctionEnv scope env.globals cl [] env.qual none .none (some env)) (fun cenv s₄ =>
    codeAny M A (.compStart (.SetComp elt [⟨.Name x px, iter, [], 0⟩] scope pos) 0 it acc { cenv with scope := relabel scope env }) (compPost M A E none Q acc cenv.locals) s₄) E s₃) E s₂
theorem r_SetComp {M : Model} {elt iter : Expr} {px : Pos} {scope : Scope} {cl : List (Str × Addr)} {Q : Value → Shared → Prop} (hclos : closureFor scope env = pure cl) (hkind : scope.kind = .function)
    (hnames : ∀ y ∈ scope.names, y.2 = .local → scope.names.lookup y.1 = some .local) (hs : ∀ x, foldedSetIterable iter env x = pure x)
    (h : wpAny M A (eval iter env) (fun xv s₁ => wpAny M A (pyIter xv) (fun it s₂ => SetK M A E elt x px iter scope cl pos env Q it s₂) E s₁) E s) :
    wpAny M A (eval (.SetComp elt [⟨.Name x px, iter, [], 0⟩] scope pos) env) Q E s := by
  rw [arm_eval_SetComp]
  exact wpAny_comprehension_free (use := none) rfl hs hclos hkind hnames h
theorem r_setK {elt iter : Expr} {px : Pos} {scope : Scope} {cl : List (Str × Addr)} {Q : Value → Shared → Prop} {I : Addr} {io : AO} {ε' : Vars} {Dt : Type} (n : Nat) (J : Nat → Addr → Dt → Sto → Prop) (J' : Addr → Dt → Sto → Prop) (d₀ : Dt)
    (S : St z G env ε σ s) (hcell : ∀ y ∈ scope.names, y.2 ≠ .cell) (hkind : scope.kind = .function) (hcl : ClOk env cl) (hfree : ((relabel scope env).names.all fun p => p.2 != .free) = true) (hε : SubV ε ε')
    (hx : ∀ C, CelV (compEnvC scope cl C env).kindOf ε') (hI : σ I = some io) (hself : ∀ (s : Shared) (Q : Value → Shared → Prop) (E : Value → Shared → Prop), OR s.heap I io → Q (.ref I) s → wpAny (model prog w) A (pyIter (.ref I)) Q E s)
    (h0 : ∀ D, σ D = none → J 0 D d₀ (upd σ D (setO prog w (fun _ => false) 0)))
    (turn : ∀ D C i d σ' s' (N : Value → Shared → Prop), let en := compEnvC scope cl C env; i < n → σ D = none → hidden G σ s.heap D = none → (∀ o, hidden G σ s.heap C = some o → False) → St z (hidden G σ s.heap) en ε' σ' s' → J i D d σ' →
      wpAny (model prog w) A (pyNext (.ref I)) (fun r s₁ => ∃ y, r = some y ∧ wpAny (model prog w) A (assign (.Name x px) en y) (fun _ s₂ =>
        LetW (model prog w) A (eval elt en) (fun y s₄ => wpAny (model prog w) A (call (.builtin "set.add") [.ref D, y]) (fun _ s₅ => ∃ d' σ'', St z (hidden G σ s.heap) en ε' σ'' s₅ ∧ J (i + 1) D d' σ'') N s₄) N s₂) N s₁) N s')
    (stop : ∀ D C d σ' s' (N : Value → Shared → Prop), let en := compEnvC scope cl C env; σ D = none → hidden G σ s.heap D = none → St z (hidden G σ s.heap) en ε' σ' s' → J n D d σ' →
      wpAny (model prog w) A (pyNext (.ref I)) (fun r s₁ => r = none ∧ ∃ d' σ'', St z (hidden G σ s.heap) en ε' σ'' s₁ ∧ J' D d' σ'') N s')
    (fin : ∀ D d σ' s', σ D = none → G D = none → St z G env ε σ' s' → J' D d σ' → Q (.ref D) s') :
    SetK (model prog w) A E elt x px iter scope cl pos env Q (.ref I) s := by
  unfold SetK
  refine wpAny_newSet_of (knd := intKind prog w) fun led hS0 => (wpAny_newFunctionEnv hcell (by intro y hy; simp at hy) (fun h₁ hns₁ hsb₁ => ?_) hkind)
  dsimp only at hns₁ hsb₁ ⊢
  generalize hH2 : s.heap.push { cls := .type "set", dict := none, data := .set #[] 0 (.fresh 0 0 led) } = H2 at hns₁ hsb₁ hS0 ⊢
  have hC : H2.objs.size = s.heap.objs.size + 1 := by rw [← hH2, Heap.size_push]
  have hDC : s.heap.objs.size ≠ H2.objs.size := by rw [hC]; exact Nat.ne_of_lt (Nat.lt_succ_self _)
  have hCle : s.heap.objs.size ≤ H2.objs.size := by rw [hC]; exact Nat.le_succ _
  have below : ∀ b, b < s.heap.objs.size → b ≠ H2.objs.size := fun b hb => by rw [hC]; exact Nat.ne_of_lt (Nat.lt_succ_of_lt hb)
  have old : ∀ b o, s.heap.get? b = some o → h₁.get? b = some o := fun b o e => hsb₁.extBut b o (below b (Heap.lt_size e)) (Heap.get?_push_of_some _ (hH2 ▸ Heap.get?_push_of_some _ e))
  have hacc : OR h₁ s.heap.objs.size (setO prog w (fun _ => false) 0) := OR.mv (setO_of hS0) fun o ho => hsb₁.extBut _ _ hDC (Heap.get?_push_of_some _ ho)
  have hσD := S.fresh (Nat.le_refl s.heap.objs.size)
  have hGD := S.freshG (Nat.le_refl s.heap.objs.size)
  have hσC := S.fresh hCle
  have hGC := S.freshG hCle
  have hidC : ∀ o, hidden G σ s.heap H2.objs.size = some o → False := fun o q => absurd (Heap.lt_size (hidden_get S.prot q)) (Nat.not_lt.mpr hCle)
  have hidD : hidden G σ s.heap s.heap.objs.size = none := by
    cases q : hidden G σ s.heap s.heap.objs.size with
    | none => rfl
    | some o => exact absurd (Heap.lt_size (hidden_get S.prot q)) (Nat.lt_irrefl _)
  have hLC : env.locals ≠ H2.objs.size := by obtain ⟨m, hm, _⟩ := S.loc; exact below _ hm.lt
  have hcC : ∀ x c, env.cells.lookup x = some c → env.kindOf x = some .cell → c ≠ H2.objs.size := fun x c e kd => by
    obtain ⟨⟨ov, y⟩, _⟩ := S.cel x c e kd
    exact below _ y.lt
  have S₁ : St z (hidden G σ s.heap) (compEnvC scope cl H2.objs.size env) ε' (upd σ s.heap.objs.size (setO prog w (fun _ => false) 0)) { s with heap := h₁, toks := s.toks + ([] : List (Str × Value)).length } :=
    S.innerO ⟨rfl, rfl⟩ hkind hcl hfree hε (fun y av e => (hx _).get e) (Nat.le_refl _) hCle hDC old hns₁ hacc
  have post : ∀ σ' s', St z (hidden G σ s.heap) (compEnvC scope cl H2.objs.size env) ε' σ' s' → (∃ d, J' s.heap.objs.size d σ') →
      compPost (model prog w) A E none Q (.ref s.heap.objs.size) H2.objs.size (.ok .next) s' := by
    rintro σ' s' S' ⟨d, hJ⟩
    have SB := S.back S'
    have hσ' : σ' H2.objs.size = none := S'.locS
    obtain ⟨m, hm, _⟩ := S'.loc
    refine ⟨m, hm, fun h' hs' => ?_⟩
    exact fin _ d σ' { s' with heap := h' } hσD hGD (SB.skip (s' := { s' with heap := h' }) ⟨rfl, rfl⟩ hσ' hGC hLC hcC fun b o n e => (hs'.2 b n).trans e) hJ
  have loop : codeAny (model prog w) A (.compLoop (.SetComp elt [⟨.Name x px, iter, [], 0⟩] scope pos) 0 (.ref I) (.ref s.heap.objs.size) (compEnvC scope cl H2.objs.size env))
      (compPost (model prog w) A E none Q (.ref s.heap.objs.size) H2.objs.size) { s with heap := h₁, toks := s.toks + ([] : List (Str × Value)).length } := by
    refine codeAny_setLoop (fun k s' => ∃ i d σ', k = n - i ∧ i ≤ n ∧ St z (hidden G σ s.heap) (compEnvC scope cl H2.objs.size env) ε' σ' s' ∧ J i s.heap.objs.size d σ') ?_ n ⟨0, d₀, _, rfl, Nat.zero_le _, S₁, h0 _ hσD⟩ (fun _ => rfl)
    rintro k s' ⟨i, d, σ', rfl, hi, S', hJ⟩
    by_cases q : i < n
    · refine wpAny_mono (turn _ _ i d σ' s' _ q hσD hidD hidC S' hJ) (fun r s₁ h₁ => ?_) fun _ _ e => e
      obtain ⟨y, rfl, h₁⟩ := h₁
      refine wpAny_mono h₁ (fun _ _ h₂ => wpAny_mono h₂.run (fun _ s₃ h₃ => wpAny_mono h₃ (fun _ s₅ h₅ => ?_) fun _ _ e => e) fun _ _ e => e) fun _ _ e => e
      obtain ⟨d', σ'', S'', J''⟩ := h₅
      exact ⟨_, Nat.sub_lt_sub_left q (Nat.lt_succ_self i), i + 1, d', σ'', rfl, q, S'', J''⟩
    · have : i = n := by omega
      subst this
      refine wpAny_mono (stop _ _ d σ' s' _ hσD hidD S' hJ) (fun r s₁ h₁ => ?_) fun _ _ e => e
      obtain ⟨rfl, d', σ'', S'', J''⟩ := h₁
      exact post σ'' s₁ S'' ⟨d', J''⟩
  refine codeAny_setStart loop (hself _ _ _ ?_ loop)
  exact OR.mv (S.obj _ _ hI) fun o => old _ o
end
end
section
variable {w : World} {A : Around} {E : Value → Shared → Prop} {s z : Shared} {mg mb : Str → Option Value} {G : Addr → Option (Obj × Bool)} {env : Env} {ε : Vars} {σ : Sto}
noncomputable def pairOf (rs : List Rw) (k : Int) : Str × Str := ((rs.getD (k - 1).toNat rw0).name, (rs.getD (k - 1).toNat rw0).value)
noncomputable def itemsF (rs : List Rw) (laid : List Bool) (sight : List Int) : List (Str × Str) := (standF rs laid sight).map (pairOf rs)
theorem due_items {L rl ll sl : Addr} {rs : List Rw} {ps : List Addr} {seen : List Int} {laid : List Bool} {εr : Vars} {Q : Flow → Shared → Prop} (W : Wd (kk w.params) mg mb z.heap) (hh : A.handled = none) (hdp : A.depth + 60 < recursionLimit) (hu : A.units + 280 < cLine)
   (S0 : St z G (callEnvC (fd350 w.params) L 350) (("rows", .ref rl) :: ("laid", .ref ll) :: ("seen", .ref sl) :: εr) σ s)
   (hr : σ rl = some (.list (ps.map .ref))) (R : RwsAt σ ps rs) (hl : σ ll = some (.list (laid.map .bool))) (hs : σ sl = some (.list (seen.map .int)))
   (hz : rs.length ≤ 1000) (hsz : seen.length ≤ 1000) (hlz : laid.length ≤ 1000) (hk : ∀ k ∈ seen.drop 1, 1 ≤ k ∧ k ≤ rs.length ∧ k < laid.length) (hne : 1 ≤ seen.length)
   (C₁ : ∀ (x : Str) (c : Addr), List.lookup x (callEnvC (fd350 w.params) L 350).cells = some c → G c = none)
   (h : ∀ l qs s' σ', σ l = none → G l = none → Grow σ σ' → σ' l = some (.list (qs.map .ref)) → PairsAt σ' qs (itemsF rs laid (seen.drop 1)) → St z G (callEnvC (fd350 w.params) L 350) (put (("rows", .ref rl) :: ("laid", .ref ll) :: ("seen", .ref sl) :: εr) "items" (.ref l)) σ' s' → Q .next s') :
   wpAny (model PySem.Challenge.pw_pe0273_01 w) A (exec (lb350 w.params 8) (callEnvC (fd350 w.params) L 350)) Q E s := by
  show wpAny _ _ (exec (.Assign [.Name _ _] (.ListComp _ [⟨.Name _ _, _, _, 0⟩] _ _) _) _) _ _ _
  ((with_reducible refine' r_AssignListComp ?au68 ?bu68 ?cu68 ?du68 ?eu68 ?_); (case au68 => exact rfl); (case bu68 => with_unfolding_all rfl); (case cu68 => exact rfl); (case du68 => decide); (case eu68 => intro _; exact rfl))
  repeat wtm_at "m"
  refine r_MkS ‹St _ _ _ _ _ _› (.int _ _) .none .none ?_
  intro sc s σ1 hsc Gsc g1 sc1 S1
  refine r_sliced S1 (g1.get hs) sc1 (by simp) (by rw [List.length_map]; omega) ?_
  intro rest s σ2 hrest Grest g2 rest2 S2
  have ep : pickL (seen.map AV.int) (some (1 : Int)) none none = (seen.drop 1).map .int := by
    rw [show (1 : Int) = ((1 : Nat) : Int) by rfl, pickL_from _ _ (by rw [List.length_map]; omega), List.map_drop]
  rw [ep] at rest2
  have g12 := g1.trans g2
  repeat wtm_at "m"
  refine standing W ‹St _ _ _ _ _ _› hh (by first | exact room hdp rfl | omega) (by first | exact room hu rfl | omega) (g12.get hr) (R.keep g12.keep) rest2 (g12.get hl) hz (by rw [List.length_drop]; omega) hk hlz ?_
  intro st s σ3 hst Gst g3 st3 S3
  have hr3 := g3.get (g12.get hr)
  have R3 := R.keep (g12.trans g3).keep
  have smem : ∀ k ∈ standF rs laid (seen.drop 1), 1 ≤ k ∧ k ≤ rs.length := fun k hk' => ⟨(hk k (standF_mem hk')).1, (hk k (standF_mem hk')).2.1⟩
  have slen : (standF rs laid (seen.drop 1)).length ≤ 1000 := Nat.le_trans standF_len (by rw [List.length_drop]; omega)
  refine r_iterList ‹St _ _ _ _ _ _› st3 ?_
  intro I s4 σ4 hI GI g4 I4 S4
  have st4 := g4.get st3
  have hr4 := g4.get hr3
  have R4 := R3.keep g4.keep
  have stI : st ≠ I := ne_new st3 hI
  have rI : rl ≠ I := ne_new hr3 hI
  have eit : itemsF rs laid (seen.drop 1) = (standF rs laid (seen.drop 1)).map (pairOf rs) := rfl
  generalize standF rs laid (seen.drop 1) = sd at *
  have hps := R.length
  refine r_compK (Dt := List Addr) (ε' := [("rows", .ref rl)]) sd.length
    (fun j D qs σ' => But [D, I] σ4 σ' ∧ σ' D = some (.list (qs.map .ref)) ∧ σ' I = some (litO st j) ∧ Keep isT σ4 σ' ∧ PairsAt σ' qs ((sd.take j).map (pairOf rs)))
    (fun D qs σ' => But [D, I] σ4 σ' ∧ σ' D = some (.list (qs.map .ref)) ∧ PairsAt σ' qs (sd.map (pairOf rs)))
    [] S4 (by decide) (by exact rfl) (by exact ⟨⟨rfl, rfl⟩, trivial⟩) (by exact rfl) (by exact ⟨rfl, trivial⟩) (by intro C; exact ⟨rfl, trivial⟩) I4 self_lit ?_ ?_ ?_ ?_
  · intro D hD
    refine ⟨But.upd (by simp), upd_self, ?_, (Grow.upd hD).keep, trivial⟩
    rw [upd_ne (ne_new I4 hD)]; exact I4
  · intro D C j qs σ' s' N en hj hD hGD hGC S ⟨b, hD', hI', kp, T⟩
    have GI' := hidden_sto (h := s4.heap) GI I4
    have DI : D ≠ I := Ne.symm (ne_new I4 hD)
    have s' := b.get st4 ⟨ne_new st4 hD, stI, trivial⟩
    refine r_nextList S hI' GI' s' (av := .int sd[j]) (by rw [List.getElem?_map]; simp [hj]) ?_
    intro s S
    refine Vals.int fun t => ?_
    refine ⟨_, rfl, ?_⟩
    have k1 : Keep isT σ' (upd σ' I (litO st (j + 1))) := Keep.upd hI' fun q => q
    have hD'' := upd_off (ao := litO st (j + 1)) hD' DI
    have I'' := upd_self (σ := σ') (a := I) (o := litO st (j + 1))
    have b'' := b.trans (But.upd (l := I) (ao := litO st (j + 1)) (by simp : I ∈ [D, I]))
    have kp'' := kp.trans k1
    have T'' := T.keep k1
    generalize upd σ' I (litO st (j + 1)) = σ5 at *
    have r5 := b''.get hr4 ⟨ne_new hr4 hD, rI, trivial⟩
    have R5 := R4.keep kp''
    have hm := smem _ (List.getElem_mem hj)
    refine ex1 (R5.get (i := (sd[j] - 1).toNat) (b := rs.getD (sd[j] - 1).toNat rw0) (by rw [List.getD_eq_getElem?_getD, List.getElem?_eq_getElem (by omega)]; rfl)) fun pm z0x0r => ?_
    refine and2 z0x0r fun hpm epm => ?_
    have hf : pairOf rs sd[j] = ((rs.getD (sd[j] - 1).toNat rw0).name, (rs.getD (sd[j] - 1).toNat rw0).value) := rfl
    generalize rs.getD (sd[j] - 1).toNat rw0 = rm at *
    have htk : sd.take (j + 1) = sd.take j ++ [sd[j]] := by rw [List.take_add_one]; simp [hj]
    have hz3 : qs.length ≤ 1000 := by rw [T.length, List.length_map, List.length_take]; omega
    repeat wtm_at "m"
    refine r_tests0 ?_
    repeat wtm_at "m"
    refine r_itemAny ‹St _ _ _ _ _ _› r5 (by omega) (by omega) (av := .ref pm) (by rw [List.getElem?_map, hpm]; rfl) (Vals.ref ?_) (hs := by with_unfolding_all rfl)
    repeat wtm_at "m"
    refine r_titem (k := 2) ‹St _ _ _ _ _ _› epm (by decide) rfl (Vals.str fun t => ?_) (hs := by with_unfolding_all rfl)
    repeat wtm_at "m"
    refine r_itemAny ‹St _ _ _ _ _ _› r5 (by omega) (by omega) (av := .ref pm) (by rw [List.getElem?_map, hpm]; rfl) (Vals.ref ?_) (hs := by with_unfolding_all rfl)
    repeat wtm_at "m"
    refine r_titem (k := 4) ‹St _ _ _ _ _ _› epm (by decide) rfl (Vals.str fun t => ?_) (hs := by with_unfolding_all rfl)
    repeat wtm_at "m"
    refine r_newTup ‹St _ _ _ _ _ _› (Nat.le_of_ble_eq_true rfl) ?_
    intro tp s σ6 htp Gtp g6 tp6 S6
    have D6 := g6.get hD''
    repeat wtm_at "m"
    refine ⟨qs ++ [tp], _, St.vars (by assumption) ⟨rfl, trivial⟩, (b''.trans g6.but).trans (But.upd (by simp)), ?_, upd_off (g6.get I'') (Ne.symm DI), (kp''.trans g6.keep).trans (Keep.upd D6 fun q => q), ?_⟩
    · rw [upd_self, List.map_append]; rfl
    · rw [htk, List.map_append]
      refine (show PairsAt _ (qs ++ [tp]) (_ ++ [pairOf rs sd[j]]) from All2.append (T''.keep g6.keep) ⟨?_, trivial⟩).keep (Keep.upd D6 fun q => q)
      rw [hf]; exact tp6
  · rintro D C qs σ' s' N en hD hGD S Hpat1
    refine and5 Hpat1 fun b hD' hI' kp T => ?_
    have s' := b.get st4 ⟨ne_new st4 hD, stI, trivial⟩
    refine r_endList S hh hI' (hidden_sto (h := s4.heap) GI I4) s' (by rw [List.length_map]; exact Nat.le_refl _) ?_
    intro s S
    rw [List.take_of_length_le (Nat.le_refl _)] at T
    refine ⟨rfl, qs, _, S, b.trans (But.rem (l := I) (by simp)), ?_, T.keep (Keep.rem hI' fun q => q)⟩
    rw [rem_ne (Ne.symm (ne_new I4 hD))]
    exact hD'
  · intro D qs σ' s' hD hGD S ⟨b, hD', T⟩
    refine r_compStore S (by exact rfl) ?_
    intro s S
    have gg := (g12.trans g3).trans (((b.drop Grow.refl hD).drop g4 hI).grow)
    refine h D qs _ σ' ?_ hGD gg hD' (by rw [eit]; exact T) S
    cases e : σ D with
    | none => rfl
    | some o => have := g4.get (g3.get (g12.get e)); rw [hD] at this; cases this
noncomputable def setStep (p : (Int → Bool) × Nat) (k : Int) : (Int → Bool) × Nat := (fun k' => p.1 k' || decide (k' = k), if p.1 k then p.2 else p.2 + 1)
noncomputable def distinctN (l : List Int) : Nat := (l.foldl setStep (fun _ => false, 0)).2
theorem distinct_le (l : List Int) : ∀ p, (l.foldl setStep p).2 ≤ p.2 + l.length := by
  induction l with
  | nil => intro p; exact Nat.le_refl _
  | cons k l ih =>
    intro p
    rw [List.foldl_cons]
    refine Nat.le_trans (ih _) ?_
    unfold setStep
    dsimp only
    split <;> simp only [List.length_cons] <;> omega
noncomputable def heightF (xs : List Str) (seen : List Int) : Nat := distinctN (seen.map fun k => (colK xs k).getD 0 0)
theorem due_append {L cl sl dl il : Addr} {xs : List Str} {cs : List Addr} {seen : List Int} {ans : Str} {vs : List AV} {εr : Vars} {Q : Flow → Shared → Prop} (W : Wd (kk w.params) mg mb z.heap) (hh : A.handled = none) (hdp : A.depth + 60 < recursionLimit) (hu : A.units + 280 < cLine)
   (S0 : St z G (callEnvC (fd350 w.params) L 350) (("columns", .ref cl) :: ("seen", .ref sl) :: ("answer", .str ans) :: ("items", .ref il) :: ("due", .ref dl) :: εr) σ s)
   (hc : σ cl = some (.list (cs.map .ref))) (T : ColsAt σ cs xs) (hz : xs.length ≤ 1000) (hs : σ sl = some (.list (seen.map .int))) (hk : ∀ k ∈ seen, 0 ≤ k ∧ k < xs.length) (hsz : seen.length ≤ 900)
   (hd' : σ dl = some (.list vs)) (hG : G dl = none) (hvz : vs.length ≤ 1000)
   (C₁ : ∀ (x : Str) (c : Addr), List.lookup x (callEnvC (fd350 w.params) L 350).cells = some c → G c = none)
   (h : ∀ tp s' σ', σ tp = none → But [dl] σ σ' → Keep isT σ σ' → σ' dl = some (.list (vs ++ [.ref tp])) → σ' tp = some (.tup [.int (heightF xs seen), .str ans, .ref il]) → St z G (callEnvC (fd350 w.params) L 350) (("columns", .ref cl) :: ("seen", .ref sl) :: ("answer", .str ans) :: ("items", .ref il) :: ("due", .ref dl) :: εr) σ' s' → Q .next s') :
   wpAny (model PySem.Challenge.pw_pe0273_01 w) A (exec (lb350 w.params 9) (callEnvC (fd350 w.params) L 350)) Q E s := by
  show wpAny _ _ (exec (.Expr _ _) _) _ _ _
  repeat wtm_at "m"
  refine r_SetComp (by with_unfolding_all rfl) (by exact rfl) (by decide) (by intro _; exact rfl) ?_
  repeat wtm_at "m"
  refine r_iterList ‹St _ _ _ _ _ _› hs ?_
  intro I s3 σ2 hI GI g2 I2 S3
  have hs2 := g2.get hs
  have hc2 := g2.get hc
  have T2 := T.grow g2
  have sI : sl ≠ I := ne_new hs hI
  have cI : cl ≠ I := ne_new hc hI
  let f : Int → Int := fun k => (colK xs k).getD 0 0
  let F : Nat → (Int → Bool) × Nat := fun j => ((seen.take j).map f).foldl setStep (fun _ => false, 0)
  have hF : ∀ j, (F j).2 ≤ j := fun j => by
    have := distinct_le ((seen.take j).map f) (fun _ => false, 0)
    rw [List.length_map, List.length_take] at this
    show (((seen.take j).map f).foldl setStep (fun _ => false, 0)).2 ≤ j
    have e0 : ((fun _ => false, 0) : (Int → Bool) × Nat).2 = 0 := rfl
    omega
  refine r_setK (Dt := Unit) (ε' := [("columns", .ref cl)]) seen.length
    (fun j D _ σ' => But [D, I] σ2 σ' ∧ σ' D = some (setO PySem.Challenge.pw_pe0273_01 w (F j).1 (F j).2) ∧ σ' I = some (litO sl j) ∧ Keep isT σ2 σ')
    (fun D _ σ' => But [D, I] σ2 σ' ∧ σ' D = some (setO PySem.Challenge.pw_pe0273_01 w (F seen.length).1 (F seen.length).2) ∧ Keep isT σ2 σ')
    () S3 (by decide) (by exact rfl) (by exact ⟨⟨rfl, rfl⟩, trivial⟩) (by exact rfl) (by exact ⟨rfl, trivial⟩) (by intro C; exact ⟨rfl, trivial⟩) I2 self_lit ?_ ?_ ?_ ?_
  · intro D hD
    refine ⟨But.upd (by simp), upd_self, ?_, (Grow.upd hD).keep⟩
    rw [upd_ne (ne_new I2 hD)]; exact I2
  · intro D C j _ σ' s' N en hj hD hGD hGC S ⟨b, hD', hI', kp⟩
    have GI' := hidden_sto (h := s3.heap) GI I2
    have DI : D ≠ I := Ne.symm (ne_new I2 hD)
    have s' := b.get hs2 ⟨ne_new hs2 hD, sI, trivial⟩
    refine r_nextList S hI' GI' s' (av := .int seen[j]) (by rw [List.getElem?_map]; simp [hj]) ?_
    intro s S
    refine Vals.int fun t => ?_
    refine ⟨_, rfl, ?_⟩
    have k1 : Keep isT σ' (upd σ' I (litO sl (j + 1))) := Keep.upd hI' fun q => q
    have hD'' := upd_off (ao := litO sl (j + 1)) hD' DI
    have I'' := upd_self (σ := σ') (a := I) (o := litO sl (j + 1))
    have b'' := b.trans (But.upd (l := I) (ao := litO sl (j + 1)) (by simp : I ∈ [D, I]))
    have kp'' := kp.trans k1
    generalize upd σ' I (litO sl (j + 1)) = σ4 at *
    have c4 := b''.get hc2 ⟨ne_new hc2 hD, cI, trivial⟩
    have hkj := hk _ (List.getElem_mem hj)
    refine ex1 (T2.get hkj.1 hkj.2) fun ck z2x0r => ?_
    refine and2 z2x0r fun hck ek => ?_
    have ekI : ck ≠ I := by
      refine ex1 (T.get hkj.1 hkj.2) fun c' z3x0r => ?_
      refine and2 z3x0r fun hc' e' => ?_
      rw [hck] at hc'; cases hc'
      exact ne_new e' hI
    have ek4 := b''.get ek ⟨ne_new ek hD, ekI, trivial⟩
    have hl7 : (colK xs seen[j]).length = 7 := by simp [colK, colsOf]
    repeat wtm_at "m"
    refine r_itemAny ‹St _ _ _ _ _ _› c4 hkj.1 (by omega) (av := .ref ck) (by rw [List.getElem?_map, hck]; rfl) (Vals.ref ?_) (hs := by with_unfolding_all rfl)
    repeat wtm_at "m"
    refine r_setAdd ‹St _ _ _ _ _ _› hD'' hGD (by have := hF j; omega) ?_
    intro s S
    have eF : F (j + 1) = setStep (F j) (f seen[j]) := by
      show ((seen.take (j + 1)).map f).foldl setStep _ = _
      rw [show seen.take (j + 1) = seen.take j ++ [seen[j]] by rw [List.take_add_one]; simp [hj], List.map_append, List.foldl_append]; rfl
    refine ⟨(), _, St.vars (by assumption) ⟨rfl, trivial⟩, b''.trans (But.upd (by simp)), ?_, upd_off I'' (Ne.symm DI), kp''.trans (Keep.upd hD'' fun q => q)⟩
    rw [upd_self, eF]; rfl
  · rintro D C _ σ' s' N en hD hGD S Hpat4
    refine and4 Hpat4 fun b hD' hI' kp => ?_
    have s' := b.get hs2 ⟨ne_new hs2 hD, sI, trivial⟩
    refine r_endList S hh hI' (hidden_sto (h := s3.heap) GI I2) s' (by rw [List.length_map]; exact Nat.le_refl _) ?_
    intro s S
    refine ⟨rfl, (), _, S, b.trans (But.rem (l := I) (by simp)), ?_, kp.trans (Keep.rem hI' fun q => q)⟩
    rw [rem_ne (Ne.symm (ne_new I2 hD))]
    exact hD'
  · intro D _ σ' s' hD hGD S ⟨b, hD', kp⟩
    have hFl := hF seen.length
    repeat wtm_at "m"
    refine r_lenSet ‹St _ _ _ _ _ _› hD' (by omega) ?_
    intro t s S
    repeat wtm_at "m"
    refine r_newTup ‹St _ _ _ _ _ _› (Nat.le_of_ble_eq_true rfl) ?_
    intro tp s σ6 htp Gtp g6 tp6 S6
    have gg := (((b.drop Grow.refl hD).drop g2 hI).grow).trans g6
    have d6 := gg.get hd'
    have eN : (F seen.length).2 = heightF xs seen := by
      show (((seen.take seen.length).map f).foldl setStep _).2 = _
      rw [List.take_of_length_le (Nat.le_refl _)]; rfl
    repeat wtm_at "m"
    refine h tp _ _ ?_ (gg.but.trans (But.upd (by simp))) (gg.keep.trans (Keep.upd d6 fun q => q)) upd_self ?_ (by assumption)
    · cases e : σ tp with
      | none => rfl
      | some o => have := (((b.drop Grow.refl hD).drop g2 hI).grow).get e; rw [htp] at this; cases this
    · rw [upd_ne (Ne.symm (ne_new ((((b.drop Grow.refl hD).drop g2 hI).grow).get hd') htp)), ← eN]
      exact tp6
end
section
theorem execs_cut {M : Model} {A : Around} {E : Value → Shared → Prop} {s : Shared} {env : Env} {st : Stmt} {rest : List Stmt} {Q : Flow → Shared → Prop} (h : ∀ rest', rest' = rest → ∀ Q', UpN M A rest' env Q E Q' → wpAny M A (exec st env) Q' E s) :
    wpAny M A (execs (st :: rest) env) Q E s := execs_gen (h rest rfl)
theorem execs_of {M : Model} {A : Around} {E : Value → Shared → Prop} {s : Shared} {env : Env} {rest rest' : List Stmt} {Q : Flow → Shared → Prop} (e : rest' = rest) (h : wpAny M A (execs rest env) Q E s) : wpAny M A (execs rest' env) Q E s := e ▸ h
structure Ent where
  n : Int
  ans : Str
  items : List (Str × Str)
abbrev Err := Int × Str × Str
structure Dst where
  seen : List Int
  laid : List Bool
  es : List Ent
noncomputable def leadsOf (rs : List Rw) : List Str := ("" : Str) :: rs.map (·.lead)
noncomputable def rowAt (rs : List Rw) (i : Nat) : Rw := rs.getD i rw0
noncomputable def dueSeen (rs : List Rw) (i : Nat) (d : Dst) : List Int := filtS (leadsOf rs) ((i : Int) + 1) d.seen
noncomputable def lastI (l : List Int) : Int := l.getLastD 0
noncomputable def dueBad (rs : List Rw) (i : Nat) (d : Dst) : Bool :=
  (colK (leadsOf rs) (lastI (dueSeen rs i d)) != colK (leadsOf rs) ((i : Int) + 1)) && !belowB (colK (leadsOf rs) (i : Int)) (colK (leadsOf rs) ((i : Int) + 1))
noncomputable def dueErr (rs : List Rw) (i : Nat) (d : Dst) : Err :=
  ((i : Int), wordsF ((leadsOf rs).getD (lastI (dueSeen rs i d)).toNat "") (rowAt rs i).lead, (rowAt rs i).lead ++ (rowAt rs i).name)
noncomputable def dueAlike (rs : List Rw) (i : Nat) (d : Dst) : List Int := alikeF rs d.laid ((dueSeen rs i d).drop 1) (rowAt rs i).kind
noncomputable def dueAns (rs : List Rw) (i : Nat) (d : Dst) : Str :=
  if (rowAt rs i).deed = 2 then (match dueAlike rs i d with | [] => (rowAt rs i).value | k :: _ => (rs.getD (k - 1).toNat rw0).value) else ""
noncomputable def dueLaid (rs : List Rw) (i : Nat) (d : Dst) : List Bool := d.laid ++ [decide ((rowAt rs i).deed < 2) || (decide ((rowAt rs i).deed = 2) && (dueAlike rs i d).isEmpty)]
noncomputable def dueStep (rs : List Rw) (i : Nat) (d : Dst) : Dst :=
  let seen' := dueSeen rs i d ++ [(i : Int) + 1]
  ⟨seen', dueLaid rs i d, d.es ++ [⟨heightF (leadsOf rs) seen', dueAns rs i d, itemsF rs (dueLaid rs i d) (seen'.drop 1)⟩]⟩
noncomputable def dueRun (rs : List Rw) : Nat → Dst
  | 0 => ⟨[0], [false], []⟩
  | i + 1 => dueStep rs i (dueRun rs i)
noncomputable def DueOut (rs : List Rw) (out : List Ent × Option Err) : Prop :=
  (∃ i, i < rs.length ∧ (∀ j, j < i → dueBad rs j (dueRun rs j) = false) ∧ dueBad rs i (dueRun rs i) = true ∧ out = ((dueRun rs i).es, some (dueErr rs i (dueRun rs i)))) ∨
  ((∀ j, j < rs.length → dueBad rs j (dueRun rs j) = false) ∧ out = ((dueRun rs rs.length).es, none))
noncomputable def EntAt (av : List Addr) (σ : Sto) (p : Addr) (e : Ent) : Prop := ∃ il qs, σ p = some (.tup [.int e.n, .str e.ans, .ref il]) ∧ σ il = some (.list (qs.map .ref)) ∧ PairsAt σ qs e.items ∧ off il av
noncomputable def EntsAt (av : List Addr) (σ : Sto) (ps : List Addr) (es : List Ent) : Prop := All2 (EntAt av σ) ps es
theorem off_mem {a : Addr} : ∀ {ls : List Addr}, off a ls → ∀ b, b ∈ ls → a ≠ b := fun h b hb => off_of h b hb
theorem EntsAt.step {av ls : List Addr} {σ σ' : Sto} {ps : List Addr} {es : List Ent} (h : EntsAt av σ ps es) (b : But ls σ σ') (k : Keep isT σ σ') (hs : ∀ a ∈ ls, a ∈ av) : EntsAt av σ' ps es :=
  All2.mono (P' := EntAt av σ') (fun p e ⟨il, qs, h1, h2, h3, h4⟩ => ⟨il, qs, k _ _ h1 trivial, b _ _ (off_sub fun c hc => off_mem h4 c (hs c hc)) h2, h3.keep k, h4⟩) h
theorem EntsAt.more {av : List Addr} {σ : Sto} {ps : List Addr} {es : List Ent} {l : Addr} (h : EntsAt av σ ps es) (hl : σ l = none) : EntsAt (l :: av) σ ps es :=
  All2.mono (P' := EntAt (l :: av) σ) (fun p e ⟨il, qs, h1, h2, h3, h4⟩ => ⟨il, qs, h1, h2, h3, ne_new h2 hl, h4⟩) h
noncomputable def OutAt (σ : Sto) (a : Addr) (out : List Ent × Option Err) : Prop := ∃ dl ps, EntsAt [] σ ps out.1 ∧ σ dl = some (.list (ps.map .ref)) ∧ match out.2 with
  | none => σ a = some (.tup [.ref dl, .none])
  | some e => ∃ ep, σ a = some (.tup [.ref dl, .ref ep]) ∧ σ ep = some (.tup [.int e.1, .str e.2.1, .str e.2.2])
theorem dueSeen_ok {rs : List Rw} {i : Nat} {d : Dst} (hi : i < rs.length) (h : ∃ rest, d.seen = 0 :: rest ∧ ∀ k ∈ rest, 1 ≤ k ∧ k ≤ i) : ∃ rest, dueSeen rs i d = 0 :: rest ∧ ∀ k ∈ rest, 1 ≤ k ∧ k ≤ i := by
  refine ex1 h fun rest z0x0r => ?_
  refine and2 z0x0r fun e hr => ?_
  unfold dueSeen filtS
  rw [e, List.filter_cons]
  have h0 : belowB (colK (leadsOf rs) ((i : Int) + 1)) (colK (leadsOf rs) 0) = false := by
    unfold belowB
    rw [List.all_eq_false]
    refine ⟨0, by simp, ?_⟩
    have e1 : colK (leadsOf rs) 0 = colsOf "" := rfl
    have e2 : (colsOf "").getD 0 0 = 0 := by decide +kernel
    rw [e1, e2]
    have : 0 ≤ (colK (leadsOf rs) ((i : Int) + 1)).getD 0 0 := by
      unfold colK colsOf
      simp [List.range, List.range.loop]
      exact (colAt_bound (by decide) (by decide) _).1
    simpa using this
  rw [h0]
  refine ⟨rest.filter _, rfl, fun k hk => hr k (List.mem_filter.mp hk).1⟩
theorem dueRun_ok {rs : List Rw} : ∀ i, i ≤ rs.length → (∃ rest, (dueRun rs i).seen = 0 :: rest ∧ ∀ k ∈ rest, 1 ≤ k ∧ k ≤ i) ∧ (dueRun rs i).laid.length = i + 1 ∧ (dueRun rs i).es.length = i ∧ (dueRun rs i).seen.length ≤ i + 1
  | 0, _ => ⟨⟨[], rfl, by simp⟩, rfl, rfl, Nat.le_refl _⟩
  | i + 1, hi => by
    refine and4 (dueRun_ok (rs := rs) i (by omega)) fun h1 h2 h3 h4 => ?_
    refine ex1 (dueSeen_ok (rs := rs) (i := i) (d := dueRun rs i) (by omega) h1) fun rest z2x0r => ?_
    refine and2 z2x0r fun e hr => ?_
    refine ⟨⟨rest ++ [(i : Int) + 1], ?_, fun k hk => ?_⟩, ?_, ?_, ?_⟩
    · show dueSeen rs i (dueRun rs i) ++ [(i : Int) + 1] = _
      rw [e]; rfl
    · rcases List.mem_append.mp hk with hk | hk
      · have := hr k hk; omega
      · rw [List.mem_singleton.mp hk]; omega
    · show (dueLaid rs i (dueRun rs i)).length = _
      unfold dueLaid; rw [List.length_append, h2]; rfl
    · show ((dueRun rs i).es ++ [_]).length = _
      rw [List.length_append, h3]; rfl
    · show (dueSeen rs i (dueRun rs i) ++ [(i : Int) + 1]).length ≤ _
      have : (dueSeen rs i (dueRun rs i)).length ≤ (dueRun rs i).seen.length := List.length_filter_le _ _
      rw [List.length_append]; simp only [List.length_cons, List.length_nil]; omega

variable {w : World} {A : Around} {E : Value → Shared → Prop} {s z : Shared} {mg mb : Str → Option Value} {G : Addr → Option (Obj × Bool)} {env : Env} {ε : Vars} {σ : Sto}
theorem ColsAt.but {σ σ' : Sto} {ls : List Addr} : ∀ {cs : List Addr} {xs : List Str}, ColsAt σ cs xs → But ls σ σ' → (∀ c ∈ cs, off c ls) → ColsAt σ' cs xs
  | [], [], _, _, _ => trivial
  | c :: cs, x :: xs, h, b, n => ⟨b.get h.1 (n c (by simp)), ColsAt.but h.2 b fun d hd => n d (by simp [hd])⟩
  | [], _ :: _, h, _, _ => h.elim
  | _ :: _, [], h, _, _ => h.elim
theorem last_ok {a : Int} {r : List Int} : lastI (a :: r) ∈ a :: r ∧ ((a :: r).map AV.int)[(-1 + (((a :: r).map AV.int).length : Nat) : Int).toNat]? = some (.int (lastI (a :: r))) := by
  have e : (-1 + (((a :: r).map AV.int).length : Nat) : Int).toNat = r.length := by rw [List.length_map, List.length_cons]; exact tnm _
  have hl : lastI (a :: r) = (a :: r)[r.length]'(by simp) := by
    unfold lastI
    rw [List.getLastD_eq_getLast?, List.getLast?_eq_getElem?]
    simp
  rw [e, List.getElem?_map, hl]
  exact ⟨List.getElem_mem _, by rw [List.getElem?_eq_getElem (by simp)]; rfl⟩
theorem r_cutG {M : Model} {z s : Shared} {G : Addr → Option (Obj × Bool)} {env : Env} {ε : Vars} {σ : Sto} {A : Around} {E : Value → Shared → Prop} {t : Sem Bool} {Q : Bool → Shared → Prop} (B : Bool) (ht : LetW M A t (fun b s' => b = B ∧ ∃ σ', Grow σ σ' ∧ St z G env ε σ' s') E s) (h : ∀ s' σ', Grow σ σ' → St z G env ε σ' s' → Q B s') : wpAny M A t Q E s :=
  wpAny_mono ht.run (fun b s' q => by obtain ⟨rfl, σ', g, S⟩ := q; exact h s' σ' g S) fun _ _ e => e
theorem none_of {a b : Sto} {l : Addr} (g : Grow a b) (h : b l = none) : a l = none := by
  cases e : a l with
  | none => rfl
  | some o => have := g.get e; rw [h] at this; cases this

noncomputable abbrev lbs350 (p : Params) : List Stmt := match st350 p 5 with
  | .For _ _ b _ _ => b
  | _ => []
theorem due_tail {L rl ll cl dl la sl I : Addr} {rs : List Rw} {ps cs qs : List Addr} {i : Nat} {d : Dst} {Q : Flow → Shared → Prop} (W : Wd (kk w.params) mg mb z.heap) (hh : A.handled = none) (hdp : A.depth + 80 < recursionLimit) (hu : A.units + 350 < cLine)
   (S0 : St z G (callEnvC (fd350 w.params) L 350) [("columns", .ref cl), ("here", .int ((i : Int) + 1)), ("seen", .ref sl), ("rows", .ref rl), ("leads", .ref ll), ("laid", .ref la), ("due", .ref dl), ("deed", .int (rowAt rs i).deed), ("kind", .int (rowAt rs i).kind), ("value", .str (rowAt rs i).value)] σ s)
   (C₁ : ∀ (x : Str) (c : Addr), List.lookup x (callEnvC (fd350 w.params) L 350).cells = some c → G c = none)
   (hr : σ rl = some (.list (ps.map .ref))) (R : RwsAt σ ps rs) (hc : σ cl = some (.list (cs.map .ref))) (T : ColsAt σ cs (leadsOf rs)) (hl : σ la = some (.list (d.laid.map .bool))) (hd' : σ dl = some (.list (qs.map .ref))) (hs : σ sl = some (.list ((dueSeen rs i d).map .int)))
   (Gla : G la = none) (Gdl : G dl = none) (hz : rs.length ≤ 100) (hi : i < rs.length) (hql : qs.length ≤ 200) (hll : d.laid.length = i + 1) (lI : la ≠ dl) (hsl : (dueSeen rs i d).length ≤ i + 1)
   (hseen : ∃ rest, dueSeen rs i d = 0 :: rest ∧ ∀ k ∈ rest, 1 ≤ k ∧ k ≤ i) (hI : ∃ o, σ I = some o) (cla : ∀ c ∈ cs, c ≠ la) (rla : rl ≠ la) (cll : cl ≠ la) (sla : sl ≠ la) (Idl : I ≠ dl) (Ila : I ≠ la)
   (h : ∀ sa tp s' σ', But [dl, la] σ σ' → Keep isT σ σ' → σ' dl = some (.list ((qs ++ [tp]).map .ref)) → σ' la = some (.list ((dueStep rs i d).laid.map .bool)) → σ' sa = some (.list ((dueStep rs i d).seen.map .int)) → off sa [dl, la, I] →
      EntAt [dl, la, I] σ' tp ⟨heightF (leadsOf rs) (dueStep rs i d).seen, dueAns rs i d, itemsF rs (dueLaid rs i d) ((dueStep rs i d).seen.drop 1)⟩ →
      St z G (callEnvC (fd350 w.params) L 350) [("rows", .ref rl), ("leads", .ref ll), ("columns", .ref cl), ("seen", .ref sa), ("laid", .ref la), ("due", .ref dl)] σ' s' → Q .next s') :
   wpAny (model PySem.Challenge.pw_pe0273_01 w) A (execs ((lbs350 w.params).drop 3) (callEnvC (fd350 w.params) L 350)) Q E s := by
  show wpAny _ _ (execs (_ :: _ :: _ :: _ :: _ :: _ :: [_]) _) _ _ _
  have hk1 : ∀ k ∈ (dueSeen rs i d).drop 1, 1 ≤ k ∧ k ≤ rs.length ∧ k < d.laid.length := fun k hk => by
    refine ex1 hseen fun rest z3x0r => ?_
    refine and2 z3x0r fun e hr => ?_
    rw [e] at hk
    have := hr k hk; omega
  have hne1 : 1 ≤ (dueSeen rs i d).length := by obtain ⟨rest, e, _⟩ := hseen; rw [e]; simp
  have hxz : (leadsOf rs).length = rs.length + 1 := by simp [leadsOf]
  refine wpAny_execs_cons (due_alike (rs := rs) (ps := ps) (seen := dueSeen rs i d) (laid := d.laid) (kind := (rowAt rs i).kind) (rl := rl) (ll := la) (sl := sl) (εr := [("columns", .ref cl), ("here", .int ((i : Int) + 1)), ("leads", .ref ll), ("due", .ref dl), ("deed", .int (rowAt rs i).deed), ("value", .str (rowAt rs i).value)])
      W hh (by first | exact room hdp rfl | omega) (by first | exact room hu rfl | omega) (S0.vars ⟨rfl, rfl, rfl, rfl, rfl, rfl, rfl, rfl, rfl, rfl, trivial⟩) hr R hl hs (by omega) (by omega) (by omega) hk1 hne1 C₁ ?_)
  intro al s1 σ1 hal Gal g1 al1 S1
  have eal : alikeF rs d.laid ((dueSeen rs i d).drop 1) (rowAt rs i).kind = dueAlike rs i d := rfl
  rw [eal] at al1
  refine execs_cut ?_
  intro rest hrest _ _
  repeat wtm_at "m"
  repeat wtm_at "m leave"
  refine execs_of hrest ?_
  have hr1 := g1.get hr
  have R1 := R.keep g1.keep
  refine execs_cut ?_
  intro rest hrest _ _
  refine wpAny_mono (Q := fun f s' => f = .next ∧ ∃ σ', Grow σ1 σ' ∧ St z G (callEnvC (fd350 w.params) L 350) [("columns", .ref cl), ("here", .int ((i : Int) + 1)), ("seen", .ref sl), ("rows", .ref rl), ("leads", .ref ll), ("laid", .ref la), ("due", .ref dl), ("deed", .int (rowAt rs i).deed), ("alike", .ref al), ("answer", .str (dueAns rs i d))] σ' s') ?_ ?_ (fun _ _ e => e)
  · refine LetW.run ?_
    have hAmem : ∀ k ∈ dueAlike rs i d, 1 ≤ k ∧ k ≤ rs.length := fun k hk => by
      have := hk1 k (standF_mem (List.mem_filter.mp hk).1); exact ⟨this.1, this.2.1⟩
    repeat wtm_at "m"
    refine r_ite (fun hd2 => ?_) fun hd2 => ?_
    · have e2 : (rowAt rs i).deed = 2 := by simpa using hd2
      repeat wtm_at "m"
      with_reducible refine' wpAny_IfExp ?_
      repeat wtm_at "m"
      refine r_newList ‹St _ _ _ _ _ _› (Nat.le_of_ble_eq_true rfl) ?_
      intro nl s σ2 hnl Gnl g2 nl2 S2
      refine r_neNil S2 (by omega) (g2.get al1) nl2 ?_
      have hr2 := g2.get hr1
      have R2 := R1.keep g2.keep
      have al2 := g2.get al1
      repeat wtm_at "m"
      cases hA : dueAlike rs i d with
      | nil =>
        refine r_ite (fun q => by simp at q) fun _ => ?_
        repeat wtm_at "m"
        have ea : dueAns rs i d = (rowAt rs i).value := by unfold dueAns; rw [if_pos e2, hA]
        rw [ea]
        exact ⟨rfl, σ2, g2, St.vars (by assumption) ⟨rfl, rfl, rfl, rfl, rfl, rfl, rfl, rfl, rfl, rfl, trivial⟩⟩
      | cons k r =>
        refine r_ite (fun _ => ?_) fun q => by simp at q
        rw [hA] at al2
        have hb := hAmem k (by rw [hA]; simp)
        refine ex1 (R2.get (i := (k - 1).toNat) (b := rs.getD (k - 1).toNat rw0) (by rw [List.getD_eq_getElem?_getD, List.getElem?_eq_getElem (by omega)]; rfl)) fun pk z4x0r => ?_
        refine and2 z4x0r fun hpk epk => ?_
        repeat wtm_at "m"
        refine r_itemAny ‹St _ _ _ _ _ _› al2 (by decide) (by decide) (av := .int k) rfl (Vals.int fun t => ?_) (hs := by with_unfolding_all rfl)
        repeat wtm_at "m"
        refine r_itemAny ‹St _ _ _ _ _ _› hr2 (by omega) (by omega) (av := .ref pk) (by rw [List.getElem?_map, hpk]; rfl) (Vals.ref ?_) (hs := by with_unfolding_all rfl)
        repeat wtm_at "m"
        refine r_titem (k := 4) ‹St _ _ _ _ _ _› epk (by decide) rfl (Vals.str fun t => ?_) (hs := by with_unfolding_all rfl)
        repeat wtm_at "m"
        have ea : dueAns rs i d = (rs.getD (k - 1).toNat rw0).value := by unfold dueAns; rw [if_pos e2, hA]
        rw [ea]
        exact ⟨rfl, σ2, g2, St.vars (by assumption) ⟨rfl, rfl, rfl, rfl, rfl, rfl, rfl, rfl, rfl, rfl, trivial⟩⟩
    · repeat wtm_at "m"
      have ea : dueAns rs i d = "" := by unfold dueAns; rw [if_neg (by simpa using hd2)]
      rw [ea]
      exact ⟨rfl, σ1, Grow.refl, St.vars (by assumption) ⟨rfl, rfl, rfl, rfl, rfl, rfl, rfl, rfl, rfl, rfl, trivial⟩⟩
  rintro f s2 Hpat5
  refine and2 Hpat5 fun z5x0 z5x0r => ?_
  refine ex1 z5x0r fun σ2 z5x1r => ?_
  refine and2 z5x1r fun g2 S2 => ?_
  subst z5x0
  repeat wtm_at "m leave"
  refine execs_of hrest ?_
  refine execs_cut ?_
  intro rest hrest _ _
  repeat wtm_at "m"
  have gA := g1.trans g2
  have al2 := g2.get al1
  refine wpAny_mono (Q := fun v s' => v = .bool (decide ((rowAt rs i).deed < 2) || (decide ((rowAt rs i).deed = 2) && (dueAlike rs i d).isEmpty)) ∧ ∃ σ', Grow σ2 σ' ∧ St z G (callEnvC (fd350 w.params) L 350) [("columns", .ref cl), ("here", .int ((i : Int) + 1)), ("seen", .ref sl), ("rows", .ref rl), ("leads", .ref ll), ("laid", .ref la), ("due", .ref dl), ("answer", .str (dueAns rs i d))] σ' s') ?_ ?_ (fun _ _ e => e)
  · refine LetW.run ?_
    refine LetW.go ?_
    intro _ _ _
    refine BoolOp_or ?_
    repeat wtm_at "m"
    with_reducible refine' PyProof.Rows.lt_int ?_
    repeat wtm_at "m"
    refine r_ite (fun h1 => ?_) fun h1 => ?_
    · repeat wtm_at "m leave"
      exact ⟨by rw [h1]; rfl, σ2, Grow.refl, St.vars (by assumption) ⟨rfl, rfl, rfl, rfl, rfl, rfl, rfl, rfl, trivial⟩⟩
    · refine BoolOp_one ?_
      refine BoolOp_and ?_
      repeat wtm_at "m"
      refine r_ite (fun h2 => ?_) fun h2 => ?_
      · refine BoolOp_one ?_
        repeat wtm_at "m"
        refine r_newList ‹St _ _ _ _ _ _› (Nat.le_of_ble_eq_true rfl) ?_
        intro nl s σ3 hnl Gnl g3 nl3 S3
        refine r_eqNil S3 (by omega) (g3.get al2) nl3 ?_
        repeat wtm_at "m leave"
        refine ⟨?_, σ3, g3, St.vars (by assumption) ⟨rfl, rfl, rfl, rfl, rfl, rfl, rfl, rfl, trivial⟩⟩
        rw [h1, show decide ((rowAt rs i).deed = 2) = true by simpa using h2]
        simp
      · repeat wtm_at "m leave"
        refine ⟨?_, σ2, Grow.refl, St.vars (by assumption) ⟨rfl, rfl, rfl, rfl, rfl, rfl, rfl, rfl, trivial⟩⟩
        rw [h1, h2, show decide ((rowAt rs i).deed = 2) = false by simpa using h2]
        rfl
  rintro v s3 Hpat6
  refine and2 Hpat6 fun z6x0 z6x0r => ?_
  refine ex1 z6x0r fun σ3 z6x1r => ?_
  refine and2 z6x1r fun g3 S3 => ?_
  subst z6x0
  have gB := gA.trans g3
  have la3 := gB.get hl
  have dl3 := gB.get hd'
  have hr3 := gB.get hr
  have R3 := R.keep gB.keep
  have hc3 := gB.get hc
  have T3 := T.grow gB
  have sl3 := gB.get hs
  have eld : dueLaid rs i d = d.laid ++ [decide ((rowAt rs i).deed < 2) || (decide ((rowAt rs i).deed = 2) && (dueAlike rs i d).isEmpty)] := rfl
  have hzl : d.laid.length ≤ 1000 := by omega
  repeat wtm_at "m"
  repeat wtm_at "m leave"
  refine execs_of hrest ?_
  have la4 : upd σ3 la (.list (d.laid.map .bool ++ [absv (.bool (decide ((rowAt rs i).deed < 2) || (decide ((rowAt rs i).deed = 2) && (dueAlike rs i d).isEmpty)))])) la = some (.list ((dueLaid rs i d).map .bool)) := by
    rw [upd_self, eld, List.map_append]; rfl
  have b4 : But [dl, la] σ3 (upd σ3 la (.list (d.laid.map .bool ++ [absv (.bool (decide ((rowAt rs i).deed < 2) || (decide ((rowAt rs i).deed = 2) && (dueAlike rs i d).isEmpty)))]))) := But.upd (by simp)
  have k4 : Keep isT σ3 (upd σ3 la (.list (d.laid.map .bool ++ [absv (.bool (decide ((rowAt rs i).deed < 2) || (decide ((rowAt rs i).deed = 2) && (dueAlike rs i d).isEmpty)))]))) := Keep.upd la3 fun q => q
  have dl4 := upd_off (ao := .list (d.laid.map .bool ++ [absv (.bool (decide ((rowAt rs i).deed < 2) || (decide ((rowAt rs i).deed = 2) && (dueAlike rs i d).isEmpty)))])) dl3 (Ne.symm lI)
  have hr4 := upd_off (ao := .list (d.laid.map .bool ++ [absv (.bool (decide ((rowAt rs i).deed < 2) || (decide ((rowAt rs i).deed = 2) && (dueAlike rs i d).isEmpty)))])) hr3 rla
  have hc4 := upd_off (ao := .list (d.laid.map .bool ++ [absv (.bool (decide ((rowAt rs i).deed < 2) || (decide ((rowAt rs i).deed = 2) && (dueAlike rs i d).isEmpty)))])) hc3 cll
  have sl4 := upd_off (ao := .list (d.laid.map .bool ++ [absv (.bool (decide ((rowAt rs i).deed < 2) || (decide ((rowAt rs i).deed = 2) && (dueAlike rs i d).isEmpty)))])) sl3 sla
  have T4 := T3.upd (a := la) (o := .list (d.laid.map .bool ++ [absv (.bool (decide ((rowAt rs i).deed < 2) || (decide ((rowAt rs i).deed = 2) && (dueAlike rs i d).isEmpty)))])) cla
  generalize upd σ3 la (.list (d.laid.map .bool ++ [absv (.bool (decide ((rowAt rs i).deed < 2) || (decide ((rowAt rs i).deed = 2) && (dueAlike rs i d).isEmpty)))])) = σ4 at *
  have R4 := R3.keep k4
  refine execs_cut ?_
  intro rest hrest _ _
  repeat wtm_at "m"
  refine r_newList ‹St _ _ _ _ _ _› (Nat.le_of_ble_eq_true rfl) ?_
  intro nl s σ5 hnl Gnl g5 nl5 S5
  refine r_cat ‹St _ _ _ _ _ _› (g5.get sl4) nl5 (by rw [List.length_map]; simp; omega) ?_
  intro sa s σ6 hsa Gsa g6 sa6 S6
  repeat wtm_at "m"
  repeat wtm_at "m leave"
  refine execs_of hrest ?_
  have g46 := g5.trans g6
  have eseen : (dueStep rs i d).seen = dueSeen rs i d ++ [(i : Int) + 1] := rfl
  have sa6' : σ6 sa = some (.list ((dueStep rs i d).seen.map .int)) := by rw [eseen, List.map_append]; exact sa6
  have hk2 : ∀ k ∈ (dueStep rs i d).seen.drop 1, 1 ≤ k ∧ k ≤ rs.length ∧ k < (dueLaid rs i d).length := fun k hk => by
    refine ex1 hseen fun rest z7x0r => ?_
    refine and2 z7x0r fun e hr => ?_
    rw [eseen, e] at hk
    have hL : (dueLaid rs i d).length = i + 2 := by rw [eld, List.length_append, hll]; rfl
    rcases List.mem_append.mp (show k ∈ rest ++ [(i : Int) + 1] from hk) with hk | hk
    · have := hr k hk; omega
    · rw [List.mem_singleton.mp hk]; omega
  have hk3 : ∀ k ∈ (dueStep rs i d).seen, 0 ≤ k ∧ k < (leadsOf rs).length := fun k hk => by
    refine ex1 hseen fun rest z8x0r => ?_
    refine and2 z8x0r fun e hr => ?_
    rw [eseen, e] at hk
    rcases List.mem_append.mp hk with hk | hk
    · rcases List.mem_cons.mp hk with rfl | hk
      · exact ⟨by decide, by omega⟩
      · have := hr k hk; omega
    · rw [List.mem_singleton.mp hk]; omega
  have hlen : (dueStep rs i d).seen.length ≤ i + 2 := by rw [eseen, List.length_append]; simp; omega
  have hlen1 : 1 ≤ (dueStep rs i d).seen.length := by rw [eseen, List.length_append]; simp
  have hL : (dueLaid rs i d).length = i + 2 := by rw [eld, List.length_append, hll]; rfl
  refine wpAny_execs_cons (due_items (rs := rs) (ps := ps) (seen := (dueStep rs i d).seen) (laid := dueLaid rs i d) (rl := rl) (ll := la) (sl := sa) (εr := [("columns", .ref cl), ("here", .int ((i : Int) + 1)), ("leads", .ref ll), ("due", .ref dl), ("answer", .str (dueAns rs i d))])
      W hh (by first | exact room hdp rfl | omega) (by first | exact room hu rfl | omega) (St.vars (by assumption) ⟨rfl, rfl, rfl, rfl, rfl, rfl, rfl, rfl, trivial⟩) (g46.get hr4) (R4.keep g46.keep) (g46.get la4) sa6' (by omega) (by omega) (by omega) hk2 hlen1 C₁ ?_)
  intro il qs' s7 σ7 hil Gil g7 il7 P7 S7
  have g47 := g46.trans g7
  have Gdl' : G dl = none := Gdl
  refine wpAny_execs_cons (due_append (xs := leadsOf rs) (cs := cs) (seen := (dueStep rs i d).seen) (ans := dueAns rs i d) (vs := qs.map .ref) (cl := cl) (sl := sa) (dl := dl) (il := il) (εr := [("rows", .ref rl), ("leads", .ref ll), ("laid", .ref la)])
      W hh (by first | exact room hdp rfl | omega) (by first | exact room hu rfl | omega) (S7.vars ⟨rfl, rfl, rfl, rfl, rfl, rfl, rfl, rfl, trivial⟩) (g47.get hc4) (T4.grow g47) (by omega) (g7.get sa6') hk3 (by omega) (g47.get dl4) Gdl (by rw [List.length_map]; omega) C₁ ?_)
  intro tp s8 σ8 htp b8 k8 dl8 tp8 S8
  refine wpAny_execs_nil ?_
  have sadl : sa ≠ dl := Ne.symm (ne_new (g5.get dl4) hsa)
  have sala : sa ≠ la := Ne.symm (ne_new (g5.get la4) hsa)
  have ildl : il ≠ dl := Ne.symm (ne_new (g46.get dl4) hil)
  have illa : il ≠ la := Ne.symm (ne_new (g46.get la4) hil)
  refine ex1 hI fun oI hoI => ?_
  have hI4 := b4.get (gB.get hoI) ⟨Idl, Ila, trivial⟩
  refine h sa tp s8 σ8 (((gB.but.trans b4).trans g47.but).trans (b8.mono (by simp))) (((gB.keep.trans k4).trans g47.keep).trans k8) (by rw [dl8, List.map_append]; rfl) (b8.get (g47.get la4) ⟨lI, trivial⟩) (b8.get (g7.get sa6') ⟨sadl, trivial⟩) ⟨sadl, sala, ?_, trivial⟩ ⟨il, qs', tp8, b8.get il7 ⟨ildl, trivial⟩, P7.keep k8, ildl, illa, ?_, trivial⟩ (S8.vars ⟨rfl, rfl, rfl, rfl, rfl, rfl, trivial⟩)
  · exact Ne.symm (ne_new (g5.get hI4) hsa)
  · exact Ne.symm (ne_new (g46.get hI4) hil)
end
section
variable {w : World} {A : Around} {E : Value → Shared → Prop} {s z : Shared} {mg mb : Str → Option Value} {G : Addr → Option (Obj × Bool)} {env : Env} {ε : Vars} {σ : Sto}
noncomputable def TextsOk (rs : List Rw) : Prop := (∀ r ∈ rs, r.lead.length ≤ 50 ∧ r.name.length ≤ 50) ∧ ∀ x ∈ leadsOf rs, Txt.contains x (Txt.mul " " 0) = true
theorem lead_100 {rs : List Rw} (ht : TextsOk rs) : ∀ x ∈ leadsOf rs, x.cps.size ≤ 100 := fun x hx => by
  rcases List.mem_cons.mp hx with rfl | hx
  · decide
  · obtain ⟨r, hr, rfl⟩ := List.mem_map.mp hx
    exact Nat.le_trans (ht.1 r hr).1 (by decide)
theorem ColsAt.some {cs : List Addr} {xs : List Str} {σ : Sto} (T : ColsAt σ cs xs) : ∀ c ∈ cs, ∃ o, σ c = some o := fun c hc => by
  obtain ⟨k, hk, rfl⟩ := List.getElem_of_mem hc
  have hkx : k < xs.length := by rw [← T.length]; exact hk
  obtain ⟨c', hc', e'⟩ := All2.get T (i := k) (b := xs[k]) (by simp [hkx])
  have : c' = cs[k] := by rw [List.getElem?_eq_getElem hk] at hc'; exact (Option.some.inj hc').symm
  rw [← this]; exact ⟨_, e'⟩
theorem colK7 (xs : List Str) (k : Int) : (colK xs k).length = 7 := by simp [colK, colsOf]
theorem ents_nil {av : List Addr} {σ : Sto} {qs : List Addr} {es : List Ent} (h : EntsAt av σ qs es) : EntsAt [] σ qs es :=
  All2.mono (P' := EntAt [] σ) (fun p e ⟨il, qs, h1, h2, h3, h4⟩ => ⟨il, qs, h1, h2, h3, trivial⟩) h
theorem seen_k0 {n i : Nat} {l : List Int} (h : ∃ rest, l = 0 :: rest ∧ ∀ k ∈ rest, 1 ≤ k ∧ k ≤ (i : Int)) (hi : i < n) : ∀ k ∈ l, 0 ≤ k ∧ k < ((n + 1 : Nat) : Int) := fun k hk => by
  obtain ⟨rest, e, hr⟩ := h
  rw [e] at hk
  rcases List.mem_cons.mp hk with rfl | hk
  · exact ⟨by decide, by omega⟩
  · have := hr k hk; omega
theorem seen_k1 {n i m : Nat} {l : List Int} (h : ∃ rest, l = 0 :: rest ∧ ∀ k ∈ rest, 1 ≤ k ∧ k ≤ (i : Int)) (hi : i < n) (hm : m = i + 1) : ∀ k ∈ l.drop 1, 1 ≤ k ∧ k ≤ (n : Int) ∧ k < (m : Int) := fun k hk => by
  obtain ⟨rest, e, hr⟩ := h
  rw [e] at hk
  have := hr k hk; omega
theorem seen_last {P : List Int → Prop} {l : List Int} (h : ∃ rest, l = 0 :: rest ∧ P rest) : lastI l ∈ l ∧ (l.map AV.int)[(-1 + (l.map AV.int).length : Int).toNat]? = some (.int (lastI l)) := by
  obtain ⟨rest, e, _⟩ := h
  rw [e]
  exact last_ok
theorem seen_one {P : List Int → Prop} {l : List Int} (h : ∃ rest, l = 0 :: rest ∧ P rest) : 1 ≤ l.length := by obtain ⟨rest, e, _⟩ := h; rw [e]; simp
theorem due {rl : Addr} {ps : List Addr} {rs : List Rw} {Q : Value → Shared → Prop} (W : Wd (kk w.params) mg mb z.heap) (S0 : St z G env ε σ s) (hh : A.handled = none) (hdp : A.depth + 100 < recursionLimit) (hu : A.units + 400 < cLine)
   (hr : σ rl = some (.list (ps.map .ref))) (R : RwsAt σ ps rs) (hz : rs.length ≤ 100) (ht : TextsOk rs)
   (h : ∀ a out s' σ', Grow σ σ' → DueOut rs out → OutAt σ' a out → St z G env ε σ' s' → Q (.ref a) s') :
   wpAny (model PySem.Challenge.pw_pe0273_01 w) A (call (.ref 350) [.ref rl]) Q E s := by
  have hh' : ∀ e, (A.deeper e).handled = none := fun e => hh
  refine enterC (binds := [("rows", .ref rl)]) W S0 (by first | exact room0 hdp | omega) (by exact rfl) (by k_is) rfl rfl rfl rfl (fun L => by exact rfl) (by exact rfl) (by exact rfl) ?_
  let G' := hidden G σ s.heap
  intro L s₁ env' C₁ S₁
  have hh := hh' env'
  have hxz : (leadsOf rs).length = rs.length + 1 := by simp [leadsOf]
  have hx100 := lead_100 ht
  refine LetW.go ?_
  intro _ _ _
  refine wpAny_execs_cons (due_leads (rs := rs) W hh S₁ hr R (by omega) C₁ ?_)
  intro ll s σ1 g1 l1 S1
  refine wpAny_execs_cons (due_columns (xs := leadsOf rs) W hh (by first | exact dpt hdp rfl | (simp only [depth_deeper]; omega)) S1 l1 (by omega) hx100 C₁ ?_)
  intro cl cs s σ2 g2 c2 T2 S2
  replace S2 : St z (hidden G σ _) env' _ _ _ := S2
  have hr2 := (g1.trans g2).get hr
  have R2 := R.keep (g1.trans g2).keep
  have l2 := g2.get l1
  repeat wtm_at "m"
  refine r_newList ‹St _ _ _ _ _ _› (Nat.le_of_ble_eq_true rfl) ?_
  intro sa s σ3 hsa Gsa g3 sa3 S3
  repeat wtm_at "m"
  refine r_newList ‹St _ _ _ _ _ _› (Nat.le_of_ble_eq_true rfl) ?_
  intro la s σ4 hla Gla g4 la4 S4
  repeat wtm_at "m"
  refine r_newList ‹St _ _ _ _ _ _› (Nat.le_of_ble_eq_true rfl) ?_
  intro dl s σ5 hdl Gdl g5 dl5 S5
  have l5 := g5.get (g4.get (g3.get l2))
  repeat wtm_at "m"
  rw [List.length_map, show (("" : Str) :: rs.map (·.lead)).length = rs.length + 1 from hxz]
  refine r_range2 ‹St _ _ _ _ _ _› ?_
  intro rg s σ6 hrg Grg g6 rg6 S6
  refine r_iterRange S6 rg6 (by omega) (by omega) (by omega) (by omega) ?_
  intro I s σ7 hI GI g7 I7 S7
  have G17 := ((((g3.trans g4).trans g5).trans g6).trans g7)
  have hr7 := G17.get hr2
  have R7 := R2.keep G17.keep
  have l7 := g7.get (g6.get l5)
  have c7 := G17.get c2
  have T7 := T2.grow G17
  have sa7 := g7.get (g6.get (g5.get (g4.get sa3)))
  have la7 := g7.get (g6.get (g5.get la4))
  have dl7 := g7.get (g6.get dl5)
  have n_dl : ∀ {b : Addr} {o : AO}, σ4 b = some o → b ≠ dl := fun e => ne_new e hdl
  have n_la : ∀ {b : Addr} {o : AO}, σ3 b = some o → b ≠ la := fun e => ne_new e hla
  have n_I : ∀ {b : Addr} {o : AO}, σ6 b = some o → b ≠ I := fun e => ne_new e hI
  have r4 := g4.get (g3.get hr2)
  have dlI : dl ≠ I := n_I (g6.get dl5)
  have laI : la ≠ I := n_I (g6.get (g5.get la4))
  have ladl : la ≠ dl := n_dl la4
  have rl3 : off rl [dl, la, I] := ⟨n_dl (g4.get (g3.get hr2)), n_la (g3.get hr2), n_I (g6.get (g5.get (g4.get (g3.get hr2)))), trivial⟩
  have ll3 : off ll [dl, la, I] := ⟨n_dl (g4.get (g3.get l2)), n_la (g3.get l2), n_I (g6.get (g5.get (g4.get (g3.get l2)))), trivial⟩
  have cl3 : off cl [dl, la, I] := ⟨n_dl (g4.get (g3.get c2)), n_la (g3.get c2), n_I (g6.get (g5.get (g4.get (g3.get c2)))), trivial⟩
  have cs3 : ∀ c ∈ cs, off c [dl, la, I] := fun c hc => (T2.some c hc).elim fun o e' => ⟨n_dl (g4.get (g3.get e')), n_la (g3.get e'), n_I (g6.get (g5.get (g4.get (g3.get e')))), trivial⟩
  have sa0 : off sa [dl, la, I] := ⟨n_dl (g4.get sa3), n_la sa3, n_I (g6.get (g5.get (g4.get sa3))), trivial⟩
  have en : (if (1 : Int) < ((rs.length + 1 : Nat) : Int) then ((rs.length + 1 : Nat) : Int) - 1 else 0) = (rs.length : Int) := by split <;> omega
  rw [en] at I7
  clear en
  refine r_loop (D := Addr × List Addr) rs.length (fun i d => [("rows", .ref rl), ("leads", .ref ll), ("columns", .ref cl), ("seen", .ref d.1), ("laid", .ref la), ("due", .ref dl)])
    (fun i d σ' => But [dl, la, I] σ7 σ' ∧ Keep isT σ7 σ' ∧ σ' I = some (rngO (1 + i) ((rs.length : Int) - i)) ∧ σ' dl = some (.list (d.2.map .ref)) ∧ σ' la = some (.list ((dueRun rs i).laid.map .bool)) ∧
      σ' d.1 = some (.list ((dueRun rs i).seen.map .int)) ∧ off d.1 [dl, la, I] ∧ EntsAt [dl, la, I] σ' d.2 (dueRun rs i).es ∧ ∀ j, j < i → dueBad rs j (dueRun rs j) = false)
    (sa, []) (S7.vars ⟨rfl, rfl, rfl, rfl, rfl, rfl, trivial⟩) ⟨But.refl, fun _ _ e _ => e, ?_, dl7, la7, sa7, sa0, trivial, fun j hj => absurd hj (Nat.not_lt_zero _)⟩ ?_ ?_
  · rw [I7]; congr 1
  · rintro i ⟨sa, qs⟩ σ' s hi S H
    refine and9 H fun b kp I' dl' la' sa' nsa TE hok => ?_
    dsimp only at S dl' sa' nsa TE ⊢
    refine and4 (dueRun_ok (rs := rs) i (Nat.le_of_lt hi)) fun hseen hlaid hes hsl => ?_
    refine r_nextRange S I' GI (by omega) ?_
    intro t s S
    refine ⟨_, rfl, wpAny_pure ?_⟩
    have er : rngO (1 + ((i + 1 : Nat) : Int)) ((rs.length : Int) - ((i + 1 : Nat) : Int)) = rngO (1 + i + 1) ((rs.length : Int) - i - 1) := by rw [show (1 + ((i + 1 : Nat) : Int)) = 1 + i + 1 by omega, show ((rs.length : Int) - ((i + 1 : Nat) : Int)) = rs.length - i - 1 by omega]
    have bI : But [dl, la, I] σ' (upd σ' I (rngO (1 + (i : Int) + 1) ((rs.length : Int) - i - 1))) := But.upd m2
    have kI : Keep isT σ' (upd σ' I (rngO (1 + (i : Int) + 1) ((rs.length : Int) - i - 1))) := Keep.upd I' fun q => q
    have dl'' := upd_off (ao := rngO (1 + (i : Int) + 1) ((rs.length : Int) - i - 1)) dl' dlI
    have la'' := upd_off (ao := rngO (1 + (i : Int) + 1) ((rs.length : Int) - i - 1)) la' laI
    have sa'' := bI.get sa' nsa
    have I'' := upd_self (σ := σ') (a := I) (o := rngO (1 + (i : Int) + 1) ((rs.length : Int) - i - 1))
    have TE'' := TE.step bI kI (fun a ha => ha)
    have b2 := b.trans bI
    have kp2 := kp.trans kI
    generalize upd σ' I (rngO (1 + (i : Int) + 1) ((rs.length : Int) - i - 1)) = σ8 at *
    have rl8 := b2.get hr7 rl3
    have R8 := R7.keep kp2
    have ll8 := b2.get l7 ll3
    have cl8 := b2.get c7 cl3
    have T8 : ColsAt σ8 cs (leadsOf rs) := T7.but b2 cs3
    refine ex11 (R8.get (i := i) (b := rs[i]) (List.getElem?_eq_getElem hi)) fun pr hpr epr => ?_
    have erow : rowAt rs i = rs[i] := by unfold rowAt; rw [List.getD_eq_getElem?_getD, List.getElem?_eq_getElem hi]; rfl
    have epr' : σ8 pr = some (.tup [.str (rowAt rs i).lead, .int (rowAt rs i).deed, .str (rowAt rs i).name, .int (rowAt rs i).kind, .str (rowAt rs i).value]) := by rw [erow]; exact epr
    have hmem : rowAt rs i ∈ rs := by rw [erow]; exact List.getElem_mem hi
    wtm_at "m"
    wtm_at "m"
    refine LetW.go ?_
    intro _ _ _
    refine execs_cut ?_
    intro rest hrest _ _
    have e1i : ((1 : Int) + (i : Int)) = (i : Int) + 1 := by omega
    ((with_reducible refine' Assign_Tuple (hs := ?mu109) (hw := ?nu109) ?_); (case mu109 => exact rfl); (case nu109 => exact rfl))
    repeat wtm_at "m"
    refine r_itemAny ‹St _ _ _ _ _ _› rl8 (by omega) (by omega) (av := .ref pr) (by rw [List.getElem?_map, tn1 i, hpr]; rfl) (Vals.ref ?_) (hs := by with_unfolding_all rfl)
    repeat wtm_at "m"
    repeat wtm_at "m leave"
    refine execs_of hrest ?_
    have hseen1 := dueSeen_ok (rs := rs) (i := i) (d := dueRun rs i) hi hseen
    have hsl1 : (dueSeen rs i (dueRun rs i)).length ≤ i + 1 := Nat.le_trans (List.length_filter_le _ _) hsl
    have hk0 : ∀ k ∈ (dueRun rs i).seen, 0 ≤ k ∧ k < (leadsOf rs).length := by rw [hxz]; exact seen_k0 hseen hi
    refine wpAny_execs_cons (due_seen (rl := rl) (ll := ll) (xs := leadsOf rs) (cs := cs) (seen := (dueRun rs i).seen) (i := (i : Int) + 1) (sl := sa) (cl := cl) (εr := [("rows", .ref rl), ("leads", .ref ll), ("laid", .ref la), ("due", .ref dl), ("lead", .str (rowAt rs i).lead), ("deed", .int (rowAt rs i).deed), ("name", .str (rowAt rs i).name), ("kind", .int (rowAt rs i).kind), ("value", .str (rowAt rs i).value)])
      W hh (by first | exact dpt hdp rfl | (simp only [depth_deeper]; omega)) (by first | exact upt hu rfl | (simp only [units_deeper]; omega)) (St.vars (by assumption) ?_) cl8 T8 (by omega) sa'' hk0 (by omega) (by omega) (by omega) C₁ ?_)
    · rw [← e1i]
      exact ⟨rfl, rfl, rfl, rfl, rfl, rfl, rfl, rfl, rfl, rfl, rfl, rfl, trivial⟩
    intro s1 s σ9 hs1 Gs1 g9 s19 S9
    replace S9 : St z (hidden G σ _) env' _ _ _ := S9
    have eD : filtS (leadsOf rs) ((i : Int) + 1) (dueRun rs i).seen = dueSeen rs i (dueRun rs i) := rfl
    rw [eD] at s19
    have cl9 := g9.get cl8
    have T9 := T8.grow g9
    have dl9 := g9.get dl''
    have la9 := g9.get la''
    have I9 := g9.get I''
    have b9 := b2.trans g9.but
    have kp9 := kp2.trans g9.keep
    have TE9 := TE''.step g9.but (ls := []) g9.keep alln
    have ll9 := g9.get ll8
    have rl9 := g9.get rl8
    have R9 := R8.keep g9.keep
    have ns1 : off s1 [dl, la, I] := ⟨Ne.symm (ne_new dl'' hs1), Ne.symm (ne_new la'' hs1), Ne.symm (ne_new I'' hs1), trivial⟩
    have hbad0 : dueBad rs i (dueRun rs i) = ((colK (leadsOf rs) (lastI (dueSeen rs i (dueRun rs i))) != colK (leadsOf rs) ((i : Int) + 1)) && !belowB (colK (leadsOf rs) (i : Int)) (colK (leadsOf rs) ((i : Int) + 1))) := rfl
    have herr : dueErr rs i (dueRun rs i) = ((i : Int), wordsF ((leadsOf rs).getD (lastI (dueSeen rs i (dueRun rs i))).toNat "") (rowAt rs i).lead, (rowAt rs i).lead ++ (rowAt rs i).name) := rfl
    have hlast : lastI (dueSeen rs i (dueRun rs i)) ∈ dueSeen rs i (dueRun rs i) ∧ ((dueSeen rs i (dueRun rs i)).map AV.int)[(-1 + ((dueSeen rs i (dueRun rs i)).map AV.int).length : Int).toNat]? = some (.int (lastI (dueSeen rs i (dueRun rs i)))) := seen_last hseen1
    have hlast0 : 0 ≤ lastI (dueSeen rs i (dueRun rs i)) ∧ lastI (dueSeen rs i (dueRun rs i)) < (leadsOf rs).length := by
      have := hlast.1
      exact hk0 _ (List.mem_filter.mp this).1
    have hne1 : 1 ≤ (dueSeen rs i (dueRun rs i)).length := seen_one hseen1
    refine execs_cut ?_
    intro rest hrest _ _
    refine wpAny_If ?_
    refine r_cutG (z := z) (G := G') (env := env') (ε := put (("columns", .ref cl) :: ("here", .int ((i : Int) + 1)) :: ("seen", .ref sa) :: [("rows", .ref rl), ("leads", .ref ll), ("laid", .ref la), ("due", .ref dl), ("lead", .str (rowAt rs i).lead), ("deed", .int (rowAt rs i).deed), ("name", .str (rowAt rs i).name), ("kind", .int (rowAt rs i).kind), ("value", .str (rowAt rs i).value)]) "seen" (.ref s1)) (σ := σ9) (dueBad rs i (dueRun rs i)) ?_ ?_
    · refine LetW.go ?_
      intro _ _ _
      (with_reducible refine' wpAny_isTrue_BoolOp ?_)
      repeat wtm_at "m"
      refine r_last ‹St _ _ _ _ _ _› s19 hlast.2 (Vals.int fun t => ?_) (hs := by with_unfolding_all rfl)
      refine ex11 (T9.get hlast0.1 hlast0.2) fun ca hca eca => ?_
      refine ex11 (T9.get (k := (i : Int) + 1) (by omega) (by omega)) fun cb hcb ecb => ?_
      refine ex11 (T9.get (k := (i : Int)) (by omega) (by omega)) fun cc hcc ecc => ?_
      have hl7 := colK7 (leadsOf rs)
      repeat wtm_at "m"
      refine r_itemAny ‹St _ _ _ _ _ _› cl9 hlast0.1 (by omega) (av := .ref ca) (by rw [List.getElem?_map, hca]; rfl) (Vals.ref ?_) (hs := by with_unfolding_all rfl)
      repeat wtm_at "m"
      refine r_itemAny ‹St _ _ _ _ _ _› cl9 (by omega) (by omega) (av := .ref cb) (by rw [List.getElem?_map, hcb]; rfl) (Vals.ref ?_) (hs := by with_unfolding_all rfl)
      repeat wtm_at "m"
      refine r_neInts ‹St _ _ _ _ _ _› (by first | exact upt hu rfl | (simp only [units_deeper]; omega)) eca ecb ?_
      repeat wtm_at "m"
      refine r_ite (fun hs1 => ?_) fun hs1 => ?_
      · repeat wtm_at "m"
        with_reducible refine' wpAny_isTrue_Not ?_
        repeat wtm_at "m"
        refine r_itemAny ‹St _ _ _ _ _ _› cl9 (by omega) (by omega) (av := .ref cc) (by rw [List.getElem?_map, tn2 i]; exact congrArg (Option.map AV.ref) hcc) (Vals.ref ?_) (hs := by with_unfolding_all rfl)
        repeat wtm_at "m"
        refine r_itemAny ‹St _ _ _ _ _ _› cl9 (by omega) (by omega) (av := .ref cb) (by rw [List.getElem?_map, hcb]; rfl) (Vals.ref ?_) (hs := by with_unfolding_all rfl)
        repeat wtm_at "m"
        refine below W ‹St _ _ _ _ _ _› hh (by first | exact dpt hdp rfl | (simp only [depth_deeper]; omega)) (by first | exact upt hu rfl | (simp only [units_deeper]; omega)) ecc ecb (hl7 _) (hl7 _) ?_
        intro s σ10 g10 S10
        repeat wtm_at "m"
        refine r_ite (fun hs2 => ?_) fun hs2 => ?_
        · (with_reducible refine' wpAny_allTrue_And_nil ?_)
          repeat wtm_at "m"
          exact ⟨by rw [hbad0, hs1, hs2]; rfl, σ10, g10, by assumption⟩
        · repeat wtm_at "m"
          exact ⟨by rw [hbad0, hs1, hs2]; rfl, σ10, g10, by assumption⟩
      · repeat wtm_at "m"
        exact ⟨by rw [hbad0, hs1]; rfl, σ9, Grow.refl, by assumption⟩
    · intro s σ10 g10 S10
      have cl10 := g10.get cl9
      have T10 := T9.grow g10
      have dl10 := g10.get dl9
      have la10 := g10.get la9
      have I10 := g10.get I9
      have b10 := b9.trans g10.but
      have kp10 := kp9.trans g10.keep
      have TE10 := TE9.step g10.but (ls := []) g10.keep alln
      have ll10 := g10.get ll9
      have rl10 := g10.get rl9
      have R10 := R9.keep g10.keep
      have s110 := g10.get s19
      have nd : σ dl = none := none_of ((((g1.trans g2).trans g3).trans g4)) hdl
      have nl : σ la = none := none_of (((g1.trans g2).trans g3)) hla
      have nI : σ I = none := none_of ((((((g1.trans g2).trans g3).trans g4).trans g5).trans g6)) hI
      have gA : Grow σ σ7 := (g1.trans g2).trans G17
      refine r_ite (fun hb => ?_) fun hb => ?_
      · have h1 : ((leadsOf rs).getD (lastI (dueSeen rs i (dueRun rs i))).toNat "").cps.size ≤ 100 ∧ Txt.contains ((leadsOf rs).getD (lastI (dueSeen rs i (dueRun rs i))).toNat "") (Txt.mul " " 0) = true := by
          have : (leadsOf rs).getD (lastI (dueSeen rs i (dueRun rs i))).toNat "" ∈ leadsOf rs := by
            rw [List.getD_eq_getElem?_getD, List.getElem?_eq_getElem (by omega)]
            exact List.getElem_mem _
          exact ⟨hx100 _ this, ht.2 _ this⟩
        have hxl : (leadsOf rs)[(lastI (dueSeen rs i (dueRun rs i))).toNat]? = some ((leadsOf rs).getD (lastI (dueSeen rs i (dueRun rs i))).toNat "") := by
          rw [List.getD_eq_getElem?_getD, List.getElem?_eq_getElem (by omega)]; rfl
        have hw0 : 0 < ((List.range 7).filter (inB ((leadsOf rs).getD (lastI (dueSeen rs i (dueRun rs i))).toNat "") (rowAt rs i).lead)).length := by
          refine List.length_pos_of_mem (a := 0) (List.mem_filter.mpr ⟨by simp, ?_⟩)
          unfold inB
          rw [show Txt.contains ((leadsOf rs).getD (lastI (dueSeen rs i (dueRun rs i))).toNat "") (Txt.mul " " ((0 : Nat) : Int)) = true from h1.2]; rfl
        have hln := ht.1 _ hmem
        generalize (leadsOf rs).getD (lastI (dueSeen rs i (dueRun rs i))).toNat "" = one at *
        repeat wtm_at "m"
        refine r_last ‹St _ _ _ _ _ _› s110 hlast.2 (Vals.int fun t => ?_) (hs := by with_unfolding_all rfl)
        repeat wtm_at "m"
        refine r_itemAny ‹St _ _ _ _ _ _› ll10 hlast0.1 (by omega) (av := .str one) (by rw [show ((("" : Str) :: rs.map (·.lead)).map AV.str)[(lastI (dueSeen rs i (dueRun rs i))).toNat]? = ((leadsOf rs)[(lastI (dueSeen rs i (dueRun rs i))).toNat]?).map AV.str from List.getElem?_map .., hxl]; rfl) (Vals.str fun t => ?_) (hs := by with_unfolding_all rfl)
        repeat wtm_at "m"
        refine words W ‹St _ _ _ _ _ _› hh (by first | exact dpt hdp rfl | (simp only [depth_deeper]; omega)) (by first | exact upt hu rfl | (simp only [units_deeper]; omega)) h1.1 (Nat.le_trans hln.1 (by decide)) hw0 ?_
        intro t s σ11 g11 S11
        repeat wtm_at "m"
        refine r_addStr ‹St _ _ _ _ _ _› (by omega) ?_
        intro t s S
        repeat wtm_at "m"
        refine r_newTup ‹St _ _ _ _ _ _› (Nat.le_of_ble_eq_true rfl) ?_
        intro ep s σ12 hep Gep g12 ep12 S12
        repeat wtm_at "m"
        refine r_newTup ‹St _ _ _ _ _ _› (Nat.le_of_ble_eq_true rfl) ?_
        intro op s σ13 hop Gop g13 op13 S13
        repeat wtm_at "m"
        have b13 := b10.trans ((g11.trans g12).trans g13).but
        refine h op _ _ σ13 ((((b13.drop gA nd).drop Grow.refl nl).drop Grow.refl nI).grow) (.inl ⟨i, hi, hok, hb, rfl⟩) ⟨dl, qs, ?_, ((g11.trans g12).trans g13).get dl10, ep, op13, ?_⟩ (S0.back (by assumption))
        · exact ents_nil (TE10.step ((g11.trans g12).trans g13).but (ls := []) ((g11.trans g12).trans g13).keep alln)
        · rw [herr, show (i : Int) = (i : Int) + 1 - 1 by omega]
          exact g13.get ep12
      · refine wpAny_execs_nil ?_
        repeat wtm_at "m leave"
        refine execs_of hrest ?_
        have la_I : la ≠ I := laI
        refine due_tail (rs := rs) (ps := ps) (cs := cs) (qs := qs) (i := i) (d := dueRun rs i) (rl := rl) (ll := ll) (cl := cl) (dl := dl) (la := la) (sl := s1) (I := I) W hh (by first | exact dpt hdp rfl | (simp only [depth_deeper]; omega)) (by first | exact upt hu rfl | (simp only [units_deeper]; omega))
          (St.vars (by assumption) ⟨rfl, rfl, rfl, rfl, rfl, rfl, rfl, rfl, rfl, rfl, trivial⟩) C₁ rl10 R10 cl10 T10 la10 dl10 s110 Gla Gdl hz hi (by rw [TE.length, hes]; omega) hlaid ladl hsl1 hseen1 ⟨_, I10⟩ (fun c hc => (cs3 c hc).2.1) rl3.2.1 cl3.2.1 ns1.2.1 (Ne.symm dlI) (Ne.symm laI) ?_
        intro sa' tp s' σ11 b11 k11 dl11 la11 sa11 nsa11 te11 S11
        refine LetQ.up ‹LetQ _ _ _ _› _ _ ?_
        refine ⟨(sa', qs ++ [tp]), σ11, S11, b10.trans (b11.mono (allc m0 (alls m1))), kp10.trans k11, ?_, dl11, la11, sa11, nsa11, ?_, ?_⟩
        · rw [er]; exact b11.get I10 ⟨Ne.symm dlI, Ne.symm laI, trivial⟩
        · exact All2.append (TE10.step b11 k11 (allc m0 (alls m1))) ⟨te11, trivial⟩
        · intro j hj
          exact (Nat.lt_succ_iff_lt_or_eq.mp hj).elim (hok j) fun q => of_eq (P := fun j => dueBad rs j (dueRun rs j) = false) q hb
  · rintro ⟨sa, qs⟩ σ' s S H
    refine and9 H fun b kp I' dl' la' sa' nsa TE hok => ?_
    dsimp only at S dl' sa' nsa TE
    refine r_endRange S hh I' GI (by omega) ?_
    intro s S
    refine ⟨rfl, ?_⟩
    have nd : σ dl = none := none_of ((((g1.trans g2).trans g3).trans g4)) hdl
    have nl : σ la = none := none_of (((g1.trans g2).trans g3)) hla
    have nI : σ I = none := none_of ((((((g1.trans g2).trans g3).trans g4).trans g5).trans g6)) hI
    have gA : Grow σ σ7 := (g1.trans g2).trans G17
    have bI : But [I] σ' (rem σ' I) := But.rem m0
    have kI : Keep isT σ' (rem σ' I) := Keep.rem I' fun q => q
    have b9 := b.trans (bI.mono (alls m2))
    have dl9 := bI.get dl' ⟨dlI, trivial⟩
    have TE9 := TE.step bI kI (alls m2)
    generalize rem σ' I = σ9 at *
    repeat wtm_at "m"
    refine r_newTup ‹St _ _ _ _ _ _› (Nat.le_of_ble_eq_true rfl) ?_
    intro op s σ10 hop Gop g10 op10 S10
    repeat wtm_at "m"
    refine h op _ _ σ10 ((((b9.drop gA nd).drop Grow.refl nl).drop Grow.refl nI).grow.trans g10) (.inr ⟨hok, rfl⟩) ⟨dl, qs, ?_, g10.get dl9, op10⟩ (S0.back (by assumption))
    exact ents_nil (TE9.step g10.but (ls := []) g10.keep alln)
end
section
section
variable {prog : Program} {w : World} {A : Around} {E : Value → Shared → Prop} {s s' : Shared} {K : Frag} {mg mb : Str → Option Value} {z : Shared} {G : Addr → Option (Obj × Bool)} {env : Env} {ε : Vars} {σ σ' : Sto} {x y : Str} {pos : Pos} {t u : Tok}
theorem vrs_strValues : ∀ (l : List (Str × Tok)), VRs ((l.map (·.1)).map .str) (strValues l)
  | [] => rfl
  | (x, t) :: r => ⟨.str x t, _, rfl, ⟨t, rfl⟩, vrs_strValues r⟩
theorem r_splitM {M : Model} {pl : Sem Bool} {Q : Value × List Value → Shared → Prop} (h : Q (.builtin "str.split", [.str x t]) s) : wpAny M A (getMethod (.str x t) "split" pl) Q E s := PySem.GM.split h
theorem r_split {Q : Value → Shared → Prop} (S : St z G env ε σ s) (hy : (y.length == 0) = false) (hx : x.length ≤ 1000)
    (h : ∀ a s' σ', σ a = none → G a = none → Grow σ σ' → σ' a = some (.list ((Txt.split x y).map .str)) → St z G env ε σ' s' → Q (.ref a) s') : wpAny (model prog w) A (call (.builtin "str.split") [.str x t, .str y u]) Q E s := by
  refine ex1 S.fr fun m z0x0r => ?_
  refine and3 z0x0r fun F N back => ?_
  refine splitN1A F N hy (fun l h' k e _ _ _ F' N' => ?_) (by rw [sizeLine_eq]; omega)
  have S' := back { s with heap := h', toks := k } ⟨rfl, rfl⟩ F' (fun p hp => N' p (.tail _ hp))
  refine h _ _ _ (S.fresh (Nat.le_refl _)) (S.freshG (Nat.le_refl _)) (Grow.upd (S.fresh (Nat.le_refl _))) upd_self (S.add S' (Nat.le_refl _) ⟨strValues l, _, (N' _ (.head _)).1, ?_⟩)
  rw [← e]; exact vrs_strValues l
end
end
section
noncomputable def deeperL : List Str := [" ", "\t", "  ", " \t"]
noncomputable def crookedL : List Str := [" \t", "\t ", "  \t", "    "]
noncomputable def namesL : List Str := ["Via", "vIA", "Age", "aGE", "Te"]
noncomputable def lastS (l : List Str) : Str := l.getLastD ""
noncomputable def chainOf (js : List Nat) : List Str := js.foldl (fun op j => op ++ [lastS op ++ deeperL.getD j ""]) [""]
noncomputable def JsOk (js : List Nat) : Prop := js.length ≤ 3 ∧ ∀ j ∈ js, j < 4
noncomputable def leadOf (js : List Nat) : Str := lastS (chainOf js)
noncomputable def turned (x : Str) : Str := Txt.join "\t" (pickL (pickL (Txt.split x "\t") none (some (-1)) none) none none (some (-1)) ++ pickL (Txt.split x "\t") (some (-1)) none none)
noncomputable def nth (rest : Int) : Int × Int × Int × Int := (rest.fmod 5, (rest.fdiv 5).fmod 4, (rest.fdiv 20).fmod 4, rest.fdiv 80)
noncomputable def jsStep (js : List Nat) (move which : Int) : List Nat :=
  let js1 := if move = 3 then js.take (which.toNat % (js.length + 1)) else js
  if (move = 1 ∨ move = 2) ∧ js1.length < 3 then js1 ++ [which.toNat] else js1
noncomputable def leadStep (js : List Nat) (move which : Int) : Str := if move = 4 then crookedL.getD which.toNat "" else if move = 0 then turned (leadOf js) else leadOf js
noncomputable def rowStep (js : List Nat) (place : Nat) (number : Int) : List Nat × Rw :=
  let (move, which, deed, word) := nth (number.fmod 400)
  let js' := jsStep js move which
  (js', ⟨leadStep js' move which, deed, namesL.getD word.toNat "", word.fdiv 2, txt place⟩)
noncomputable def rowsGo : List Int → Nat → List Nat → List Rw
  | [], _, _ => []
  | n :: r, place, js => (rowStep js place n).2 :: rowsGo r (place + 1) (rowStep js place n).1
noncomputable def numsOf (ns : List Int) : List Int := ns.take 6 ++ [0, 106, 216, 288, 123]
noncomputable def rowsF (ns : List Int) : List Rw := rowsGo (numsOf ns) 0 []
theorem chain_len (js : List Nat) : (chainOf js).length = js.length + 1 := by
  have : ∀ (js : List Nat) (op : List Str), (js.foldl (fun op j => op ++ [lastS op ++ deeperL.getD j ""]) op).length = op.length + js.length := by
    intro js
    induction js with
    | nil => intro op; rfl
    | cons j js ih => intro op; rw [List.foldl_cons, ih, List.length_append]; simp only [List.length_cons, List.length_nil]; omega
  unfold chainOf; rw [this]; simp; omega
theorem chain_snoc (js : List Nat) (j : Nat) : chainOf (js ++ [j]) = chainOf js ++ [lastS (chainOf js) ++ deeperL.getD j ""] := by unfold chainOf; rw [List.foldl_append]; rfl
theorem chain_take (js : List Nat) (m : Nat) (hm : m ≤ js.length) : (chainOf js).take (m + 1) = chainOf (js.take m) := by
  have : ∀ (n : Nat) (js : List Nat), js.length = n → m ≤ n → (chainOf js).take (m + 1) = chainOf (js.take m) := by
    intro n
    induction n with
    | zero => intro js e hm; have := List.eq_nil_of_length_eq_zero e; subst this; have : m = 0 := by omega
              subst this; rfl
    | succ n ih =>
      intro js e hm
      by_cases q : m = n + 1
      · rw [List.take_of_length_le (by rw [chain_len]; omega), List.take_of_length_le (by omega)]
      · have hne : js ≠ [] := by intro q; subst q; simp at e
        obtain ⟨pre, j, rfl⟩ : ∃ pre j, js = pre ++ [j] := ⟨js.dropLast, js.getLast hne, (List.dropLast_concat_getLast hne).symm⟩
        have hp : pre.length = n := by simpa using e
        rw [chain_snoc, List.take_append_of_le_length (by rw [chain_len]; omega), ih pre hp (by omega), List.take_append_of_le_length (by omega)]
  exact this js.length js rfl hm
noncomputable def allJs : List (List Nat) := [[]] ++ (List.range 4).map (fun a => [a]) ++ (List.range 4).flatMap (fun a => (List.range 4).map fun b => [a, b]) ++ (List.range 4).flatMap (fun a => (List.range 4).flatMap fun b => (List.range 4).map fun c => [a, b, c])
theorem mem_allJs {js : List Nat} (h : JsOk js) : js ∈ allJs := by
  refine and2 h fun h1 h2 => ?_
  unfold allJs
  match js, h1, h2 with
  | [], _, _ => simp
  | [a], _, h2 => have := h2 a (by simp); simp [this]
  | [a, b], _, h2 => have := h2 a (by simp); have := h2 b (by simp); simp [*]
  | [a, b, c], _, h2 => have := h2 a (by simp); have := h2 b (by simp); have := h2 c (by simp); simp; exact ⟨a, by assumption, b, by assumption, c, by assumption, rfl, rfl, rfl⟩
  | _ :: _ :: _ :: _ :: _, h1, _ => simp at h1
theorem leads_short : ∀ js ∈ allJs, ((chainOf js).all fun x => decide (x.length ≤ 6)) = true ∧ (turned (leadOf js)).length ≤ 6 ∧ (Txt.split (leadOf js) "\t").length ≤ 8 := by decide +kernel
theorem pickL_upto {α : Type} (xs : List α) (b : Nat) : pickL xs none (some (b : Int)) none = xs.take b := by
  have e : sliceBounds none (some (b : Int)) none xs.length = (((0 : Nat) : Int), ((min b xs.length : Nat) : Int), 1) := by
    simp only [sliceBounds, Option.getD_none]
    have h2 : ¬ ((b : Int) < 0) := by omega
    simp only [h2, if_false, show (1 : Int) > 0 by decide, if_true]
    congr 1
    congr 1; omega
  unfold pickL
  rw [e]
  have := pick_run xs.toArray 0 (min b xs.length)
  simp only [List.getElem?_toArray] at this
  simp only [sliceRange_one, Nat.sub_zero, this]
  rw [List.drop_zero]
  by_cases q : b ≤ xs.length
  · rw [Nat.min_eq_left q]
  · rw [Nat.min_eq_right (by omega), List.take_of_length_le (Nat.le_refl _), List.take_of_length_le (by omega)]
variable {w : World} {A : Around} {E : Value → Shared → Prop} {s z : Shared} {mg mb : Str → Option Value} {G : Addr → Option (Obj × Bool)} {env : Env} {ε : Vars} {σ : Sto}
noncomputable def fdk309 (p : Params) : { x : Value × Option Addr × FuncData × Array (Option Value) // (kk p).lookup 309 = some ⟨x.1, x.2.1, .func x.2.2.1, x.2.2.2⟩ } := ⟨(_, _, _, _), rfl⟩
noncomputable abbrev fd309 (p : Params) : FuncData := (fdk309 p).1.2.2.1
noncomputable def bodyOf' : FuncBody → List Stmt
  | .stmts b => b
  | _ => []
noncomputable abbrev lbs309 (p : Params) : List Stmt := match (bodyOf' (fd309 p).body).getD 5 (.Pass ⟨0, 0, 0, 0⟩) with
  | .For _ _ b _ _ => b
  | _ => []
theorem execs_cut' {M : Model} {A : Around} {E : Value → Shared → Prop} {s : Shared} {env : Env} {st : Stmt} {rest : List Stmt} {Q : Flow → Shared → Prop} (h : ∀ rest', rest' = rest → ∀ Q', UpN M A rest' env Q E Q' → wpAny M A (exec st env) Q' E s) :
    wpAny M A (execs (st :: rest) env) Q E s := execs_gen (h rest rfl)
theorem execs_of' {M : Model} {A : Around} {E : Value → Shared → Prop} {s : Shared} {env : Env} {rest rest' : List Stmt} {Q : Flow → Shared → Prop} (e : rest' = rest) (h : wpAny M A (execs rest env) Q E s) : wpAny M A (execs rest' env) Q E s := e ▸ h
theorem fmod_nat (k n : Nat) : (k : Int).fmod (n : Int) = ((k % n : Nat) : Int) := by
  rw [Int.fmod_eq_emod_of_nonneg _ (Int.natCast_nonneg n)]; rfl
theorem none_of' {a b : Sto} {l : Addr} (g : Grow a b) (h : b l = none) : a l = none := by
  cases e : a l with
  | none => rfl
  | some o => have := g.get e; rw [h] at this; cases this
theorem pickL_len {α : Type} (xs : List α) {lo hi st : Option Int} : (pickL xs lo hi st).length ≤ xs.length := by
  have h := slicePick_size_le (xs.map fun _ => Value.none).toArray lo hi st
  rw [pickL_val, pickL_map] at h
  simpa using h
theorem pickL_mem {α : Type} {xs : List α} {lo hi st : Option Int} {x : α} (h : x ∈ pickL xs lo hi st) : x ∈ xs := by
  unfold pickL at h
  refine ex1 (List.mem_filterMap.mp h) fun k z1x0r => ?_
  refine and2 z1x0r fun _ e => ?_
  exact List.mem_of_getElem? e
theorem sum_le {l : List Str} {n : Nat} (h : ∀ x ∈ l, x.length ≤ n) : (l.map (·.length)).sum ≤ n * l.length := by
  induction l with
  | nil => simp
  | cons a r ih =>
    have h1 := h a (by simp)
    have h2 := ih fun x hx => h x (List.mem_cons_of_mem _ hx)
    simp only [List.map_cons, List.sum_cons, List.length_cons, Nat.mul_add, Nat.mul_one]
    omega
theorem r_slicedO {value slice : Expr} {l sl : Addr} {vs : List AV} {lo hi st : Option Int} {ops : List Value} {Q : Value → Shared → Prop} (S : St z G env ε σ s) (hl : σ l = some (.list vs)) (hs : σ sl = some (slcO lo hi st)) (h0 : st ≠ some 0) (hz : vs.length ≤ 100000)
    (hsub : subscripted slice false (.ref l) (.ref sl) = operate ops (getItem (.ref l) (.ref sl)))
    (h : ∀ a s' σ', σ a = none → G a = none → Grow σ σ' → σ' a = some (.list (pickL vs lo hi st)) → St z G env ε σ' s' → Q (.ref a) s') : wpAny (model PySem.Challenge.pw_pe0273_01 w) A (subscriptTail value slice (.ref l) (.ref sl)) Q E s := by
  refine ex2 (S.obj _ _ hl) fun items n z2x0r => ?_
  refine and2 z2x0r fun ho r => ?_
  refine ex1 (S.obj _ _ hs) fun os z3x0r => ?_
  refine and2 z3x0r fun hos z3x1r => ?_
  refine ex3 z3x1r fun vl vu vk z3x2r => ?_
  refine and4 z3x2r fun z3x5 pl pu pk => ?_
  subst z3x5
  have hlen := r.length
  refine tail_any (isList_of ho).typeIs list_getitem_lookup (wpAny_getItem_list_slice (isList_of ho) ⟨_, hos, rfl, rfl⟩ pl pu pk h0 ?_ (by rw [sizeLine_eq, List.size_toArray]; omega)) hsub
  rw [pickL_val]
  exact h _ _ _ (S.fresh (Nat.le_refl _)) (S.freshG (Nat.le_refl _)) (Grow.upd (S.fresh (Nat.le_refl _))) upd_self (S.new ⟨rfl, rfl⟩ (Nat.le_refl _) (fun _ _ e => Heap.get?_push_of_some _ e) ⟨_, _, Heap.get?_push_size _ rfl, r.pick _ _ _⟩)
theorem lastS_ok {l : List Str} (hl : 0 < l.length) : (l.map AV.str)[(-1 + ((l.map AV.str).length : Nat) : Int).toNat]? = some (.str (lastS l)) := by
  have e : (-1 + ((l.map AV.str).length : Nat) : Int).toNat = l.length - 1 := by rw [List.length_map]; exact tnl hl
  rw [e, List.getElem?_map]
  unfold lastS
  rw [List.getLastD_eq_getLast?, List.getLast?_eq_getElem?]
  rw [List.getElem?_eq_getElem (by omega)]; rfl
theorem refs_ne_chain {ps : List Addr} {js : List Nat} (h : ps.map AV.ref = (chainOf js).map AV.str) : False := by
  have h1 := chain_len js
  cases e : chainOf js with
  | nil => rw [e] at h1; simp at h1
  | cons x r =>
    rw [e] at h
    cases ps with
    | nil => cases h
    | cons p ps => cases h
theorem rows_tail {L de cr na oa out : Addr} {js : List Nat} {ps : List Addr} {i : Nat} {move which deed word : Int} {Q : Flow → Shared → Prop} (hh : A.handled = none) (hdp : A.depth + 80 < recursionLimit) (hu : A.units + 350 < cLine) (W : Wd (kk w.params) mg mb z.heap)
   (S0 : St z G (callEnvC (fd309 w.params) L 309) [("deeper", .ref de), ("crooked", .ref cr), ("names", .ref na), ("opened", .ref oa), ("rows", .ref out), ("place", .int i), ("move", .int move), ("which", .int which), ("deed", .int deed), ("word", .int word)] σ s)
   (hde : σ de = some (.list (deeperL.map .str))) (hcr : σ cr = some (.list (crookedL.map .str))) (hna : σ na = some (.list (namesL.map .str))) (hoa : σ oa = some (.list ((chainOf js).map .str))) (hout : σ out = some (.list (ps.map .ref))) (Gout : G out = none)
   (hm : 0 ≤ move ∧ move ≤ 4) (hw : 0 ≤ which ∧ which ≤ 3) (hwd : 0 ≤ word ∧ word ≤ 4) (hjs : JsOk js) (hi : i ≤ 100) (hps : ps.length ≤ 100)
   (h : ∀ oa' tp s' σ', But [out] σ σ' → Keep isT σ σ' → σ' out = some (.list ((ps ++ [tp]).map .ref)) → σ' tp = some (rwT ⟨leadStep (jsStep js move which) move which, deed, namesL.getD word.toNat "", word.fdiv 2, txt i⟩) → σ' oa' = some (.list ((chainOf (jsStep js move which)).map .str)) → (oa' = oa ∨ σ oa' = none) →
      St z G (callEnvC (fd309 w.params) L 309) [("deeper", .ref de), ("crooked", .ref cr), ("names", .ref na), ("opened", .ref oa'), ("rows", .ref out)] σ' s' → Q .next s') :
   wpAny (model PySem.Challenge.pw_pe0273_01 w) A (execs ((lbs309 w.params).drop 2) (callEnvC (fd309 w.params) L 309)) Q E s := by
  show wpAny _ _ (execs (_ :: _ :: _ :: _ :: _ :: [_]) _) _ _ _
  refine execs_cut' ?_
  intro rest hrest _ _
  let js1 : List Nat := if move = 3 then js.take (which.toNat % (js.length + 1)) else js
  have hjs1 : JsOk js1 := by
    show JsOk (if move = 3 then js.take (which.toNat % (js.length + 1)) else js)
    split
    · exact ⟨Nat.le_trans (List.length_take_le' _ _) hjs.1, fun j hj => hjs.2 j (List.mem_of_mem_take hj)⟩
    · exact hjs
  have hcl := chain_len js
  have hj3 : js.length ≤ 3 := hjs.1
  have hj31 : js1.length ≤ 3 := hjs1.1
  refine wpAny_mono (Q := fun f s' => f = .next ∧ ∃ oa1 σ', (oa1 = oa ∨ σ oa1 = none) ∧ Grow σ σ' ∧ σ' oa1 = some (.list ((chainOf js1).map .str)) ∧ St z G (callEnvC (fd309 w.params) L 309) [("deeper", .ref de), ("crooked", .ref cr), ("names", .ref na), ("opened", .ref oa1), ("rows", .ref out), ("place", .int i), ("move", .int move), ("which", .int which), ("deed", .int deed), ("word", .int word)] σ' s') ?_ ?_ (fun _ _ e => e)
  · refine LetW.run ?_
    repeat wtm_at "m"
    refine r_ite (fun h3 => ?_) fun h3 => ?_
    · have e3 : move = 3 := by simpa using h3
      repeat wtm_at "m"
      rw [List.length_map, hcl]
      refine r_mod ‹St _ _ _ _ _ _› (by omega) ?_
      intro t s S
      repeat wtm_at "m"
      refine r_MkS ‹St _ _ _ _ _ _› .none (.int _ _) .none ?_
      intro sc s σ1 hsc Gsc g1 sc1 S1
      refine r_sliced S1 (g1.get hoa) sc1 (by simp) (by rw [List.length_map]; omega) ?_
      intro o1 s σ2 ho1 Go1 g2 o12 S2
      have ew : (1 + which.fmod ((js.length + 1 : Nat) : Int)) = ((which.toNat % (js.length + 1) + 1 : Nat) : Int) := by
        obtain ⟨k, rfl⟩ : ∃ k : Nat, which = k := ⟨which.toNat, by omega⟩
        rw [fmod_nat, Int.toNat_natCast]; omega
      have hmlt : which.toNat % (js.length + 1) ≤ js.length := by have := Nat.mod_lt which.toNat (show 0 < js.length + 1 by omega); omega
      rw [ew, pickL_upto, ← List.map_take, chain_take _ _ hmlt] at o12
      repeat wtm_at "m"
      have ej : js1 = js.take (which.toNat % (js.length + 1)) := if_pos e3
      rw [ej]
      refine ⟨rfl, o1, σ2, .inr (none_of' g1 ho1), g1.trans g2, o12, St.vars (by assumption) ⟨rfl, rfl, rfl, rfl, rfl, rfl, rfl, rfl, rfl, rfl, trivial⟩⟩
    · have e3 : ¬ move = 3 := by simpa using h3
      repeat wtm_at "m"
      have ej : js1 = js := if_neg e3
      rw [ej]
      exact ⟨rfl, oa, σ, .inl rfl, Grow.refl, hoa, by assumption⟩
  rintro f s1 Hpat4
  refine and2 Hpat4 fun z4x0 z4x0r => ?_
  refine ex2 z4x0r fun oa1 σ1 z4x1r => ?_
  refine and4 z4x1r fun ho1 g1 oa11 S1 => ?_
  subst z4x0
  repeat wtm_at "m leave"
  refine execs_of' hrest ?_
  refine execs_cut' ?_
  intro rest hrest _ _
  have hcl1 := chain_len js1
  have cfacts := leads_short _ (mem_allJs hjs1)
  have hlast1 : (lastS (chainOf js1)).length ≤ 6 := by
    have h1 : lastS (chainOf js1) ∈ chainOf js1 := by
      unfold lastS; rw [List.getLastD_eq_getLast?]
      cases e : (chainOf js1).getLast? with
      | none => rw [List.getLast?_eq_none_iff] at e; rw [e] at hcl1; simp at hcl1
      | some x => exact List.mem_of_getLast? e
    have := List.all_eq_true.mp cfacts.1 _ h1
    simpa using this
  have hde1 := g1.get hde
  have hjs2 : JsOk (jsStep js move which) := by
    show JsOk (if (move = 1 ∨ move = 2) ∧ js1.length < 3 then js1 ++ [which.toNat] else js1)
    split
    · rename_i hc
      refine ⟨by rw [List.length_append]; simp; omega, fun j hj => ?_⟩
      rcases List.mem_append.mp hj with hj | hj
      · exact hjs1.2 j hj
      · rw [List.mem_singleton.mp hj]; omega
    · exact hjs1
  refine wpAny_mono (Q := fun f s' => f = .next ∧ ∃ oa2 σ', (oa2 = oa ∨ σ oa2 = none) ∧ Grow σ1 σ' ∧ σ' oa2 = some (.list ((chainOf (jsStep js move which)).map .str)) ∧ St z G (callEnvC (fd309 w.params) L 309) [("deeper", .ref de), ("crooked", .ref cr), ("names", .ref na), ("opened", .ref oa2), ("rows", .ref out), ("place", .int i), ("move", .int move), ("which", .int which), ("deed", .int deed), ("word", .int word)] σ' s') ?_ ?_ (fun _ _ e => e)
  · refine LetW.run ?_
    have skip : ¬ ((move = 1 ∨ move = 2) ∧ js1.length < 3) → jsStep js move which = js1 := fun q => if_neg q
    have step : ((move = 1 ∨ move = 2) ∧ js1.length < 3) → jsStep js move which = js1 ++ [which.toNat] := fun q => if_pos q
    repeat wtm_at "m"
    (with_reducible refine' wpAny_isTrue_BoolOp ?_)
    repeat wtm_at "m"
    refine r_newTup ‹St _ _ _ _ _ _› (Nat.le_of_ble_eq_true rfl) ?_
    intro tp s σ2 htp Gtp g2 tp2 S2
    have oa2 := g2.get oa11
    have hde2 := g2.get hde1
    repeat wtm_at "m"
    refine r_inTup (is := [1, 2]) ‹St _ _ _ _ _ _› tp2 ?_
    have eany : ([1, 2] : List Int).any (· == move) = decide (move = 1 ∨ move = 2) := by
      simp only [List.any_cons, List.any_nil, Bool.or_false]
      rw [Bool.eq_iff_iff]; simp only [Bool.or_eq_true, beq_iff_eq, decide_eq_true_eq]; exact or_congr eq_comm eq_comm
    rw [eany]
    repeat wtm_at "m"
    refine r_ite (fun h1 => ?_) fun h1 => ?_
    · have h1' := of_decide_eq_true h1
      repeat wtm_at "m"
      with_reducible refine' PyProof.Rows.lt_int ?_
      repeat wtm_at "m"
      rw [List.length_map, hcl1]
      refine r_ite (fun h2 => ?_) fun h2 => ?_
      · have h2' : js1.length < 3 := by have := of_decide_eq_true h2; omega
        (with_reducible refine' wpAny_allTrue_And_nil ?_)
        repeat wtm_at "m"
        refine r_last ‹St _ _ _ _ _ _› oa2 (lastS_ok (by omega)) (Vals.str fun t => ?_) (hs := by with_unfolding_all rfl)
        repeat wtm_at "m"
        have hwx : deeperL[which.toNat]? = some (deeperL.getD which.toNat "") := by
          have : which.toNat < 4 := tlt hw.2
          rw [List.getD_eq_getElem?_getD, List.getElem?_eq_getElem (show which.toNat < deeperL.length from this)]; rfl
        have hdz : (deeperL.getD which.toNat "").length ≤ 2 := by
          have h4 : which.toNat < 4 := tlt hw.2
          generalize which.toNat = k at h4
          match k, h4 with
          | 0, _ => decide
          | 1, _ => decide
          | 2, _ => decide
          | 3, _ => decide
        refine r_itemAny ‹St _ _ _ _ _ _› hde2 (by omega) (by omega) (av := .str (deeperL.getD which.toNat "")) (by rw [List.getElem?_map, hwx]; rfl) (Vals.str fun t => ?_) (hs := by with_unfolding_all rfl)
        repeat wtm_at "m"
        refine r_addStr ‹St _ _ _ _ _ _› (by omega) ?_
        intro t s S
        repeat wtm_at "m"
        refine r_newList ‹St _ _ _ _ _ _› (Nat.le_of_ble_eq_true rfl) ?_
        intro nl s σ3 hnl Gnl g3 nl3 S3
        refine r_cat ‹St _ _ _ _ _ _› (g3.get oa2) nl3 (by rw [List.length_map]; simp; omega) ?_
        intro o2 s σ4 ho2 Go2 g4 o24 S4
        repeat wtm_at "m"
        rw [step ⟨h1', h2'⟩]
        refine ⟨rfl, o2, σ4, .inr (none_of' ((g1.trans g2).trans g3) ho2), (g2.trans g3).trans g4, ?_, St.vars (by assumption) ⟨rfl, rfl, rfl, rfl, rfl, rfl, rfl, rfl, rfl, rfl, trivial⟩⟩
        rw [chain_snoc, List.map_append]; exact o24
      · with_reducible refine' r_itF ?_
        repeat wtm_at "m"
        rw [skip (fun q => by have := of_decide_eq_false h2; omega)]
        exact ⟨rfl, oa1, σ2, ho1, g2, oa2, by assumption⟩
    · with_reducible refine' r_itF ?_
      repeat wtm_at "m"
      rw [skip (fun q => (of_decide_eq_false h1) q.1)]
      exact ⟨rfl, oa1, σ2, ho1, g2, oa2, by assumption⟩
  rintro f s2 Hpat5
  refine and2 Hpat5 fun z5x0 z5x0r => ?_
  refine ex2 z5x0r fun oa2 σ2 z5x1r => ?_
  refine and4 z5x1r fun ho2 g2 oa22 S2 => ?_
  subst z5x0
  repeat wtm_at "m leave"
  refine execs_of' hrest ?_
  generalize jsStep js move which = js2 at *
  have hcl2 := chain_len js2
  have cf2 := leads_short _ (mem_allJs hjs2)
  have hlast2 : (leadOf js2).length ≤ 6 := by
    have h1 : lastS (chainOf js2) ∈ chainOf js2 := by
      unfold lastS; rw [List.getLastD_eq_getLast?]
      cases e : (chainOf js2).getLast? with
      | none => rw [List.getLast?_eq_none_iff] at e; rw [e] at hcl2; simp at hcl2
      | some x => exact List.mem_of_getLast? e
    have := List.all_eq_true.mp cf2.1 _ h1
    show (lastS (chainOf js2)).length ≤ 6
    simpa using this
  have hcr2 := g2.get (g1.get hcr)
  have hna2 := g2.get (g1.get hna)
  have hout2 := g2.get (g1.get hout)
  refine execs_cut' ?_
  intro rest hrest _ _
  repeat wtm_at "m"
  refine r_last ‹St _ _ _ _ _ _› oa22 (lastS_ok (by omega)) (Vals.str fun t => ?_) (hs := by with_unfolding_all rfl)
  repeat wtm_at "m"
  repeat wtm_at "m leave"
  refine execs_of' hrest ?_
  refine execs_cut' ?_
  intro rest hrest _ _
  refine wpAny_mono (Q := fun f s' => f = .next ∧ ∃ σ', Grow σ2 σ' ∧ St z G (callEnvC (fd309 w.params) L 309) [("deeper", .ref de), ("crooked", .ref cr), ("names", .ref na), ("opened", .ref oa2), ("rows", .ref out), ("place", .int i), ("move", .int move), ("which", .int which), ("deed", .int deed), ("word", .int word), ("lead", .str (if move = 0 then turned (leadOf js2) else leadOf js2))] σ' s') ?_ ?_ (fun _ _ e => e)
  · refine LetW.run ?_
    repeat wtm_at "m"
    refine r_ite (fun h0 => ?_) fun h0 => ?_
    · have e0 : move = 0 := by simpa using h0
      repeat wtm_at "m"
      with_reducible refine' r_splitM ?_
      repeat wtm_at "m"
      refine r_split ‹St _ _ _ _ _ _› (by decide +kernel) (by show (leadOf js2).length ≤ 1000; omega) ?_
      intro ru s σ3 hru Gru g3 ru3 S3
      have eru : lastS (chainOf js2) = leadOf js2 := rfl
      rw [eru] at ru3
      repeat wtm_at "m"
      with_reducible refine' r_joinM ?_
      repeat wtm_at "m"
      refine r_MkS ‹St _ _ _ _ _ _› .none (.int _ _) .none ?_
      intro sc s σ4 hsc Gsc g4 sc4 S4
      refine r_sliced S4 (g4.get ru3) sc4 (by simp) (by rw [List.length_map]; omega) ?_
      intro r1 s σ5 hr1 Gr1 g5 r15 S5
      repeat wtm_at "m"
      refine r_MkS ‹St _ _ _ _ _ _› .none .none (.int _ _) ?_
      intro sc s σ6 hsc Gsc g6 sc6 S6
      rw [pickL_map] at r15
      refine r_slicedO S6 (g6.get r15) sc6 (by decide) (by rw [List.length_map]; exact Nat.le_trans (pickL_len _) (by omega)) (by with_unfolding_all rfl) ?_
      intro r2 s σ7 hr2 Gr2 g7 r27 S7
      rw [pickL_map] at r27
      have ru7 := g7.get (g6.get (g5.get (g4.get ru3)))
      repeat wtm_at "m"
      refine r_MkS ‹St _ _ _ _ _ _› (.int _ _) .none .none ?_
      intro sc s σ8 hsc Gsc g8 sc8 S8
      refine r_sliced S8 (g8.get ru7) sc8 (by simp) (by rw [List.length_map]; omega) ?_
      intro r3 s σ9 hr3 Gr3 g9 r39 S9
      rw [pickL_map] at r39
      refine r_cat ‹St _ _ _ _ _ _› (g9.get (g8.get r27)) r39 (by rw [List.length_map, List.length_map]; have := pickL_len (pickL (Txt.split (leadOf js2) "\t") none (some (-1)) none) (lo := none) (hi := none) (st := some (-1)); have := pickL_len (Txt.split (leadOf js2) "\t") (lo := none) (hi := some (-1)) (st := none); have := pickL_len (Txt.split (leadOf js2) "\t") (lo := some (-1)) (hi := none) (st := none); omega) ?_
      intro r4 s σ10 hr4 Gr4 g10 r410 S10
      rw [← List.map_append] at r410
      repeat wtm_at "m"
      refine r_join (ts := pickL (pickL (Txt.split (leadOf js2) "\t") none (some (-1)) none) none none (some (-1)) ++ pickL (Txt.split (leadOf js2) "\t") (some (-1)) none none) ‹St _ _ _ _ _ _› r410 ?_ ?_
      · have hs := sum_le (l := pickL (pickL (Txt.split (leadOf js2) "\t") none (some (-1)) none) none none (some (-1)) ++ pickL (Txt.split (leadOf js2) "\t") (some (-1)) none none) (n := 6) fun x hx => by
          have : x ∈ Txt.split (leadOf js2) "\t" := by
            rcases List.mem_append.mp hx with hx | hx
            · exact pickL_mem (pickL_mem hx)
            · exact pickL_mem hx
          exact Nat.le_trans (part_short this) hlast2
        have h1 := pickL_len (pickL (Txt.split (leadOf js2) "\t") none (some (-1)) none) (lo := none) (hi := none) (st := some (-1))
        have h2 := pickL_len (Txt.split (leadOf js2) "\t") (lo := none) (hi := some (-1)) (st := none)
        have h3 := pickL_len (Txt.split (leadOf js2) "\t") (lo := some (-1)) (hi := none) (st := none)
        have h4 : ("\t" : Str).length = 1 := by rfl
        rw [h4]
        rw [List.length_append] at hs ⊢
        omega
      intro t s S
      repeat wtm_at "m"
      rw [if_pos e0]
      exact ⟨rfl, σ10, ((((((g3.trans g4).trans g5).trans g6).trans g7).trans g8).trans g9).trans g10, St.vars (by assumption) ⟨rfl, rfl, rfl, rfl, rfl, rfl, rfl, rfl, rfl, rfl, rfl, trivial⟩⟩
    · have e0 : ¬ move = 0 := by simpa using h0
      repeat wtm_at "m"
      rw [if_neg e0]
      exact ⟨rfl, σ2, Grow.refl, St.vars (by assumption) ⟨rfl, rfl, rfl, rfl, rfl, rfl, rfl, rfl, rfl, rfl, rfl, trivial⟩⟩
  rintro f s3 Hpat6
  refine and2 Hpat6 fun z6x0 z6x0r => ?_
  refine ex1 z6x0r fun σ3 z6x1r => ?_
  refine and2 z6x1r fun g3 S3 => ?_
  subst z6x0
  repeat wtm_at "m leave"
  refine execs_of' hrest ?_
  refine execs_cut' ?_
  intro rest hrest _ _
  refine wpAny_mono (Q := fun f s' => f = .next ∧ St z G (callEnvC (fd309 w.params) L 309) [("deeper", .ref de), ("crooked", .ref cr), ("names", .ref na), ("opened", .ref oa2), ("rows", .ref out), ("place", .int i), ("deed", .int deed), ("word", .int word), ("lead", .str (leadStep js2 move which))] σ3 s') ?_ ?_ (fun _ _ e => e)
  · refine LetW.run ?_
    have hcr3 := g3.get hcr2
    repeat wtm_at "m"
    refine r_ite (fun h4 => ?_) fun h4 => ?_
    · have e4 : move = 4 := by simpa using h4
      have hwx : crookedL[which.toNat]? = some (crookedL.getD which.toNat "") := by
        have : which.toNat < 4 := tlt hw.2
        rw [List.getD_eq_getElem?_getD, List.getElem?_eq_getElem (show which.toNat < crookedL.length from this)]; rfl
      repeat wtm_at "m"
      refine r_itemAny ‹St _ _ _ _ _ _› hcr3 (by omega) (by omega) (av := .str (crookedL.getD which.toNat "")) (by rw [List.getElem?_map, hwx]; rfl) (Vals.str fun t => ?_) (hs := by with_unfolding_all rfl)
      repeat wtm_at "m"
      have ee : leadStep js2 move which = crookedL.getD which.toNat "" := if_pos e4
      rw [ee]
      exact ⟨rfl, St.vars (by assumption) ⟨rfl, rfl, rfl, rfl, rfl, rfl, rfl, rfl, rfl, trivial⟩⟩
    · have e4 : ¬ move = 4 := by simpa using h4
      repeat wtm_at "m"
      have ee : leadStep js2 move which = if move = 0 then turned (leadOf js2) else leadOf js2 := if_neg e4
      rw [ee]
      exact ⟨rfl, St.vars (by assumption) ⟨rfl, rfl, rfl, rfl, rfl, rfl, rfl, rfl, rfl, trivial⟩⟩
  rintro f s4 Hpat7
  refine and2 Hpat7 fun z7x0 S4 => ?_
  subst z7x0
  repeat wtm_at "m leave"
  refine execs_of' hrest ?_
  have hna3 := g3.get hna2
  have hout3 := g3.get hout2
  have hnx : namesL[word.toNat]? = some (namesL.getD word.toNat "") := by
    have : word.toNat < 5 := tlt hwd.2
    rw [List.getD_eq_getElem?_getD, List.getElem?_eq_getElem (show word.toNat < namesL.length from this)]; rfl
  repeat wtm_at "m"
  refine r_itemAny ‹St _ _ _ _ _ _› hna3 (by omega) (by omega) (av := .str (namesL.getD word.toNat "")) (by rw [List.getElem?_map, hnx]; rfl) (Vals.str fun t => ?_) (hs := by with_unfolding_all rfl)
  repeat wtm_at "m"
  ((with_reducible refine' r_fdiv ‹St _ _ _ _ _ _› ?lu18 ?mu18 ?nu18 ?_); (case lu18 => omega); (case mu18 => omega); (case nu18 => omega); intro _ _ _)
  repeat wtm_at "m"
  refine r_strInt ‹St _ _ _ _ _ _› (by omega) (by omega) ?_
  intro t s S
  repeat wtm_at "m"
  refine r_newTup ‹St _ _ _ _ _ _› (Nat.le_of_ble_eq_true rfl) ?_
  intro tp s σ5 htp Gtp g5 tp5 S5
  have hout5 := g5.get hout3
  repeat wtm_at "m"
  have gF := (g1.trans g2).trans (g3.trans g5)
  have oa5 := g5.get (g3.get oa22)
  have noo : oa2 ≠ out := fun q => by
    rw [q, hout5] at oa5
    exact refs_ne_chain (AO.list.inj (Option.some.inj oa5))
  have ntp : tp ≠ out := Ne.symm (ne_new hout3 htp)
  refine h oa2 tp _ _ (gF.but.trans (But.upd (by simp))) (gF.keep.trans (Keep.upd hout5 fun q => q)) ?_ (upd_off tp5 ntp) (upd_off oa5 noo) ho2 (St.vars (by assumption) ⟨rfl, rfl, rfl, rfl, rfl, trivial⟩)
  rw [upd_self, List.map_append]; rfl
end
section
variable {w : World} {A : Around} {E : Value → Shared → Prop} {s z : Shared} {mg mb : Str → Option Value} {G : Addr → Option (Obj × Bool)} {env : Env} {ε : Vars} {σ : Sto}
theorem jsStep_ok {js : List Nat} {move which : Int} (h : JsOk js) (hm : 0 ≤ move ∧ move ≤ 4) (hw : 0 ≤ which ∧ which ≤ 3) : JsOk (jsStep js move which) := by
  have h1 : JsOk (if move = 3 then js.take (which.toNat % (js.length + 1)) else js) := by
    split
    · exact ⟨Nat.le_trans (List.length_take_le' _ _) h.1, fun j hj => h.2 j (List.mem_of_mem_take hj)⟩
    · exact h
  show JsOk (if (move = 1 ∨ move = 2) ∧ (if move = 3 then js.take (which.toNat % (js.length + 1)) else js).length < 3 then (if move = 3 then js.take (which.toNat % (js.length + 1)) else js) ++ [which.toNat] else (if move = 3 then js.take (which.toNat % (js.length + 1)) else js))
  generalize (if move = 3 then js.take (which.toNat % (js.length + 1)) else js) = j1 at *
  split
  · rename_i hc
    refine ⟨by rw [List.length_append]; simp; omega, fun j hj => ?_⟩
    rcases List.mem_append.mp hj with hj | hj
    · exact h1.2 j hj
    · rw [List.mem_singleton.mp hj]; omega
  · exact h1
theorem rows {cl : Addr} {ns : List Int} {Q : Value → Shared → Prop} (W : Wd (kk w.params) mg mb z.heap) (S0 : St z G env ε σ s) (hh : A.handled = none) (hdp : A.depth + 100 < recursionLimit) (hu : A.units + 400 < cLine)
   (hr : σ cl = some (.list (ns.map .int))) (hz : ns.length ≤ 100)
   (h : ∀ a ps s' σ', Grow σ σ' → σ' a = some (.list (ps.map .ref)) → RwsAt σ' ps (rowsF ns) → St z G env ε σ' s' → Q (.ref a) s') :
   wpAny (model PySem.Challenge.pw_pe0273_01 w) A (call (.ref 309) [.ref cl]) Q E s := by
  have hh' : ∀ e, (A.deeper e).handled = none := fun e => hh
  refine enterC (binds := [("script", .ref cl)]) W S0 (by first | exact room0 hdp | omega) (by exact rfl) (by k_is) rfl rfl rfl rfl (fun L => by exact rfl) (by exact rfl) (by exact rfl) ?_
  intro L s₁ env' C₁ S₁
  have hh := hh' env'
  repeat wtm_at "m"
  refine r_newList ‹St _ _ _ _ _ _› (Nat.le_of_ble_eq_true rfl) ?_
  intro deeper s σ1 hde Gde g1 de1 S1
  repeat wtm_at "m"
  refine r_newList ‹St _ _ _ _ _ _› (Nat.le_of_ble_eq_true rfl) ?_
  intro crooked s σ2 hcr Gcr g2 cr2 S2
  repeat wtm_at "m"
  refine r_newList ‹St _ _ _ _ _ _› (Nat.le_of_ble_eq_true rfl) ?_
  intro names s σ3 hna Gna g3 na3 S3
  repeat wtm_at "m"
  refine r_newList ‹St _ _ _ _ _ _› (Nat.le_of_ble_eq_true rfl) ?_
  intro op0 s σ4 hop Gop g4 op4 S4
  repeat wtm_at "m"
  refine r_newList ‹St _ _ _ _ _ _› (Nat.le_of_ble_eq_true rfl) ?_
  intro out s σ5 hout Gout g5 out5 S5
  repeat wtm_at "m"
  refine r_MkS ‹St _ _ _ _ _ _› .none (.int _ _) .none ?_
  intro sc s σ6 hsc Gsc g6 sc6 S6
  refine r_sliced S6 (g6.get (g5.get (g4.get (g3.get (g2.get (g1.get hr)))))) sc6 (by simp) (by rw [List.length_map]; omega) ?_
  intro hd6 s σ7 hhd Ghd g7 hd7 S7
  repeat wtm_at "m"
  refine r_newList ‹St _ _ _ _ _ _› (Nat.le_of_ble_eq_true rfl) ?_
  intro five s σ8 hfi Gfi g8 fi8 S8
  have G08 := ((((((g1.trans g2).trans g3).trans g4).trans g5).trans g6).trans g7).trans g8
  have epk : pickL (ns.map AV.int) none (some (6 : Int)) none = (ns.take 6).map .int := by
    rw [pickL_map]; congr 1
    exact pickL_upto ns 6
  rw [epk] at hd7
  refine r_cat ‹St _ _ _ _ _ _› (g8.get hd7) fi8 (by simp; omega) ?_
  intro nl s σ9 hnl Gnl g9 nl9 S9
  replace nl9 : σ9 nl = some (.list ((numsOf ns).map .int)) := by unfold numsOf; rw [List.map_append]; exact nl9
  have hnz : (numsOf ns).length ≤ 11 := by unfold numsOf; rw [List.length_append, List.length_take]; simp; omega
  repeat wtm_at "m"
  refine r_enumerate ‹St _ _ _ _ _ _› nl9 ?_
  intro e it s σ10 he hit eit Ge Gi g10 e10 it10 S10
  repeat wtm_at "m"
  refine r_iterEnum ‹St _ _ _ _ _ _› e10 ?_
  have GA := (G08.trans g9).trans g10
  have de10 := g10.get (g9.get (g8.get (g7.get (g6.get (g5.get (g4.get (g3.get (g2.get de1))))))))
  have cr10 := g10.get (g9.get (g8.get (g7.get (g6.get (g5.get (g4.get (g3.get cr2)))))))
  have na10 := g10.get (g9.get (g8.get (g7.get (g6.get (g5.get (g4.get na3))))))
  have op10 := g10.get (g9.get (g8.get (g7.get (g6.get (g5.get op4)))))
  have out9 := g9.get (g8.get (g7.get (g6.get out5)))
  have out10 := g10.get out9
  have nl10 := g10.get nl9
  have oe : out ≠ e := ne_new out9 he
  have oi : out ≠ it := ne_new out9 hit
  have off_old : ∀ {b : Addr} {o : AO}, σ4 b = some o → off b [out, e, it] := fun x => ⟨ne_new x hout, ne_new (g9.get (g8.get (g7.get (g6.get (g5.get x))))) he, ne_new (g9.get (g8.get (g7.get (g6.get (g5.get x))))) hit, trivial⟩
  have de_o := off_old (g4.get (g3.get (g2.get de1)))
  have cr_o := off_old (g4.get (g3.get cr2))
  have na_o := off_old (g4.get na3)
  have op_o := off_old op4
  have nl_o : off nl [out, e, it] := ⟨Ne.symm (ne_new (g8.get (g7.get (g6.get out5))) hnl), ne_new nl9 he, ne_new nl9 hit, trivial⟩
  have Ge' := Ge
  refine r_loop (D := Addr × List Nat × List Addr × List Rw) (numsOf ns).length (fun i d => [("deeper", .ref deeper), ("crooked", .ref crooked), ("names", .ref names), ("opened", .ref d.1), ("rows", .ref out)])
    (fun i d σ' => But [out, e, it] σ10 σ' ∧ Keep isT σ10 σ' ∧ σ' e = some (enmO it i) ∧ σ' it = some (litO nl i) ∧ σ' out = some (.list (d.2.2.1.map .ref)) ∧ RwsAt σ' d.2.2.1 d.2.2.2 ∧ σ' d.1 = some (.list ((chainOf d.2.1).map .str)) ∧ off d.1 [out, e, it] ∧ JsOk d.2.1 ∧
      d.2.2.2 ++ rowsGo ((numsOf ns).drop i) i d.2.1 = rowsF ns ∧ d.2.2.2.length = i)
    (op0, [], [], []) (S10.vars ⟨rfl, rfl, rfl, rfl, rfl, trivial⟩) ⟨But.refl, fun _ _ e _ => e, e10, it10, out10, trivial, op10, op_o, ⟨Nat.zero_le _, fun j h => nomatch h⟩, rfl, rfl⟩ ?_ ?_
  · rintro i ⟨oa, js, ps, done⟩ σ' s hi S Hpat0
    refine and9 Hpat0 fun b kp e' it' out' RT oa' noa z0x0r => ?_
    refine and3 z0x0r fun hjs hgo hdl => ?_
    dsimp only at S out' RT oa' noa hjs hgo hdl ⊢
    refine r_nextEnum S e' it' Ge Gi (b.get nl10 nl_o) (av := .int (numsOf ns)[i]) (by rw [List.getElem?_map]; simp [hi]) ?_
    intro t s σ11 ht Gt b11 e11 it11 t11 kp11 S11
    refine ⟨_, rfl, ?_⟩
    refine r_letEnum S11 e11 Ge ?_
    intro s S12
    have te : t ≠ e := ne_kind t11 e11 (by intro q; cases q)
    have t12 := upd_off (ao := enmO it ((i : Int) + 1)) t11 te
    have it12 := upd_off (ao := enmO it ((i : Int) + 1)) it11 (Ne.symm eit)
    have e12 := upd_self (σ := σ11) (a := e) (o := enmO it ((i : Int) + 1))
    have kS : Keep isT σ' (upd σ11 e (enmO it ((i : Int) + 1))) := kp11.trans (Keep.upd e11 fun q => q)
    have bS : But [e, it] σ' (upd σ11 e (enmO it ((i : Int) + 1))) := b11.trans (But.upd (by simp))
    generalize upd σ11 e (enmO it ((i : Int) + 1)) = σ12 at *
    have b12 := b.trans (bS.mono (by simp))
    have kp12 := kp.trans kS
    have RT12 := RT.keep kS
    have out12 := bS.get out' ⟨oe, oi, trivial⟩
    have oa12 := bS.get oa' ⟨noa.2.1, noa.2.2.1, trivial⟩
    have de12 := b12.get de10 de_o
    have cr12 := b12.get cr10 cr_o
    have na12 := b12.get na10 na_o
    have hdrop : (numsOf ns).drop i = (numsOf ns)[i] :: (numsOf ns).drop (i + 1) := List.drop_eq_getElem_cons hi
    rw [hdrop] at hgo
    unfold rowsGo at hgo
    generalize (numsOf ns)[i] = number at *
    have f400 : number.fmod 400 = number % 400 := Int.fmod_eq_emod_of_nonneg _ (by decide)
    have hrow : rowStep js i number = (jsStep js ((number.fmod 400).fmod 5) (((number.fmod 400).fdiv 5).fmod 4), ⟨leadStep (jsStep js ((number.fmod 400).fmod 5) (((number.fmod 400).fdiv 5).fmod 4)) ((number.fmod 400).fmod 5) (((number.fmod 400).fdiv 5).fmod 4), ((number.fmod 400).fdiv 20).fmod 4, namesL.getD ((number.fmod 400).fdiv 80).toNat "", ((number.fmod 400).fdiv 80).fdiv 2, txt i⟩) := rfl
    rw [hrow] at hgo
    have hrest : 0 ≤ number.fmod 400 ∧ number.fmod 400 < 400 := fm400 number
    repeat (fail_if_success (with_reducible show wpAny _ _ (execs _ _) _ _ _)); wtm_at "m"
    refine execs_cut' ?_
    intro rst hrst _ _
    repeat wtm_at "m"
    ((with_reducible refine' r_mod ‹St _ _ _ _ _ _› ?bu21 ?_); (case bu21 => omega); intro _ _ _)
    repeat wtm_at "m"
    subst hrst
    repeat wtm_at "m leave"
    refine execs_cut' ?_
    intro rst hrst _ _
    ((with_reducible refine' Assign_Tuple (hs := ?mu22) (hw := ?nu22) ?_); (case mu22 => exact rfl); (case nu22 => exact rfl))
    repeat wtm_at "m"
    ((with_reducible refine' r_mod ‹St _ _ _ _ _ _› ?bu23 ?_); (case bu23 => omega); intro _ _ _)
    repeat wtm_at "m"
    ((with_reducible refine' r_fdiv ‹St _ _ _ _ _ _› ?lu24 ?mu24 ?nu24 ?_); (case lu24 => omega); (case mu24 => omega); (case nu24 => omega); intro _ _ _)
    repeat wtm_at "m"
    ((with_reducible refine' r_mod ‹St _ _ _ _ _ _› ?bu25 ?_); (case bu25 => omega); intro _ _ _)
    repeat wtm_at "m"
    ((with_reducible refine' r_fdiv ‹St _ _ _ _ _ _› ?lu26 ?mu26 ?nu26 ?_); (case lu26 => omega); (case mu26 => omega); (case nu26 => omega); intro _ _ _)
    repeat wtm_at "m"
    ((with_reducible refine' r_mod ‹St _ _ _ _ _ _› ?bu27 ?_); (case bu27 => omega); intro _ _ _)
    repeat wtm_at "m"
    ((with_reducible refine' r_fdiv ‹St _ _ _ _ _ _› ?lu28 ?mu28 ?nu28 ?_); (case lu28 => omega); (case mu28 => omega); (case nu28 => omega); intro _ _ _)
    repeat wtm_at "m"
    generalize number.fmod 400 = rest at *
    have hmv : 0 ≤ rest.fmod 5 ∧ rest.fmod 5 ≤ 4 := fm5 _
    have hwh : 0 ≤ (rest.fdiv 5).fmod 4 ∧ (rest.fdiv 5).fmod 4 ≤ 3 := fm4 _
    have hwd : 0 ≤ rest.fdiv 80 ∧ rest.fdiv 80 ≤ 4 := fd80 hrest
    generalize rest.fmod 5 = move at *
    generalize (rest.fdiv 5).fmod 4 = which at *
    generalize (rest.fdiv 20).fmod 4 = deed at *
    generalize rest.fdiv 80 = word at *
    refine r_newTup ‹St _ _ _ _ _ _› (Nat.le_of_ble_eq_true rfl) ?_
    intro tq s σ13 htq Gtq g13 tq13 S13
    repeat wtm_at "m"
    subst hrst
    repeat wtm_at "m leave"
    have hlen := RT.length
    refine rows_tail (de := deeper) (cr := crooked) (na := names) (oa := oa) (out := out) (js := js) (ps := ps) (i := i) (move := move) (which := which) (deed := deed) (word := word) hh (by first | exact dpt hdp rfl | (simp only [depth_deeper]; omega)) (by first | exact upt hu rfl | (simp only [units_deeper]; omega)) W
      (St.vars (by assumption) ⟨rfl, rfl, rfl, rfl, rfl, rfl, rfl, rfl, rfl, rfl, trivial⟩) (g13.get de12) (g13.get cr12) (g13.get na12) (g13.get oa12) (g13.get out12) Gout hmv hwh hwd hjs (by omega) (by omega) ?_
    intro oa2 tp s14 σ14 b14 k14 out14 tp14 oa14 hoa2 S14
    have noa2 : off oa2 [out, e, it] := by
      rcases hoa2 with h0 | h0
      · rw [h0]; exact noa
      · exact ⟨Ne.symm (ne_new (g13.get out12) h0), Ne.symm (ne_new (g13.get e12) h0), Ne.symm (ne_new (g13.get it12) h0), trivial⟩
    have b24 := (b12.trans g13.but).trans (b14.mono (by simp : ∀ x ∈ [out], x ∈ [out, e, it]))
    refine LetQ.up ‹LetQ _ _ _ _› _ _ ?_
    refine ⟨(oa2, jsStep js move which, ps ++ [tp], done ++ [_]), σ14, S14, b24, (kp12.trans g13.keep).trans k14, b14.get (g13.get e12) ⟨Ne.symm oe, trivial⟩, b14.get (g13.get it12) ⟨Ne.symm oi, trivial⟩, out14, All2.append (RT12.keep (g13.keep.trans k14)) ⟨tp14, trivial⟩, oa14, noa2, jsStep_ok hjs hmv hwh, ?_, ?_⟩
    · rw [← hgo, List.append_assoc]; rfl
    · rw [List.length_append, hdl]; rfl
  · rintro ⟨oa, js, ps, done⟩ σ' s S Hpat1
    refine and9 Hpat1 fun b kp e' it' out' RT oa' noa z1x0r => ?_
    refine and3 z1x0r fun hjs hgo hdl => ?_
    dsimp only at S out' RT oa' noa hjs hgo hdl
    refine r_endEnum S hh e' it' Gi (b.get nl10 nl_o) (by rw [List.length_map]; exact Nat.le_refl _) ?_
    intro s S
    refine ⟨rfl, ?_⟩
    repeat wtm_at "m"
    rw [List.drop_of_length_le (Nat.le_refl _)] at hgo
    have edone : done = rowsF ns := by rw [← hgo]; simp [rowsGo]
    have gf : Grow σ (rem σ' it) := ((((b.trans (But.rem (by simp : it ∈ [out, e, it]))).mono (by simp : ∀ b ∈ [out, e, it], b ∈ [it, e, out])).drop GA (none_of' (G08.trans g9) hit)).drop Grow.refl (none_of' (G08.trans g9) he)).drop Grow.refl (none_of' ((((g1.trans g2).trans g3).trans g4)) hout) |>.grow
    refine h out ps _ (rem σ' it) gf (rem_off out' oi) ?_ (S0.back (by assumption))
    rw [← edone]
    exact RT.keep (Keep.rem it' fun q => q)
end
section
noncomputable def tabP (o : Obj) : Prop := ∃ ps : Array Value, o = { cls := .none, data := .fields ps } ∧ TriplesOk ps.toList
noncomputable def CodeC (h : Heap) (c P : Addr) : Prop := ∃ (o : Obj) (vs : Array Value) (file : Str) (tf : Tok) (flags : Int) (tg : Tok) (inF : Bool) (text : Int) (tt : Tok), h.get? c = some o ∧ o.data = .fields vs ∧ vs.getD 11 .none = .ref P ∧ vs.getD 18 .none = .str file tf ∧
  vs.getD 7 .none = .int flags tg ∧ vs.getD 9 .none = .bool inF ∧ vs.getD 10 .none = .int text tt ∧ c ≠ P ∧ o.cls = .type "code" ∧ vs[11]? = some (.ref P)
theorem CodeC.code {h h' : Heap} {c P : Addr} (x : CodeC h c P) (k : ∀ b o, h.get? b = some o → h'.get? b = some o) {ps : Array Value} (hp : h'.get? P = some { cls := .none, data := .fields ps }) (t : TriplesOk ps.toList) : h'.IsCode c P ps ∧ h'.TableAt c P ps := by
  obtain ⟨o, vs, file, tf, flags, tg, inF, text, tt, e, r1, r2, r3, r4, r5, r6, ne, r7, r8⟩ := x
  exact ⟨⟨o, vs, file, tf, flags, tg, inF, text, tt, _, k _ _ e, r1, r2, r3, r4, r5, r6, hp, rfl, t, ne⟩, ⟨o, vs, k _ _ e, r7, r1, r8⟩, hp⟩
theorem r_genCode {M : Model} {A : Around} {E : Value → Shared → Prop} {s : Shared} {env : Env} {c P : Addr} {h₀ : Heap} {op : Obj} {pos : Pos} {qualname : Str} {scope : Scope} {Q : Value → Shared → Prop} (hc : env.code = .ref c) (cc : CodeC h₀ c P) (k : ∀ b o, h₀.get? b = some o → s.heap.get? b = some o) (hop : s.heap.get? P = some op) (tp : tabP op)
   (h : ∀ code h' tk op', Heap.ExtBut P s.heap h' → h'.get? P = some op' → tabP op' → Q code { s with heap := h', toks := tk }) : wpAny M A (genexprCode env pos qualname scope) Q E s := by
  refine ex1 tp fun ps z1x0r => ?_
  refine and2 z1x0r fun z1x1 tr => ?_
  subst z1x1
  refine and2 (cc.code k hop tr) fun ic ta => ?_
  cases hf : codeAmong pos ps.toList with
  | some c' => exact wpAny_genexprCode_hit hc ic hf (h c' s.heap s.toks _ (Heap.ExtBut.refl _ _) hop ⟨ps, rfl, tr⟩)
  | none =>
    refine wpAny_genexprCodeX hc ic ta hf fun c' h' tk hx _ _ ic' _ ta' _ => ?_
    obtain ⟨_, _, _, _, _, _, _, _, _, op', _, _, _, _, _, _, _, hop', hpd', htr', _⟩ := ic'
    exact h (.ref c') h' tk _ hx ta'.2 ⟨_, rfl, htr'⟩
abbrev eltS (x : Str) (p1 p2 p3 p4 p5 : Pos) : Expr := .Call (.Name "str" p1) [.Subscript (.Name x p2) (.Constant (.int 0) 0 p3) p4] [] p5
variable {prog : Program} {w : World} {A : Around} {E : Value → Shared → Prop} {s z : Shared} {mg mb : Str → Option Value} {G : Addr → Option (Obj × Bool)} {env : Env} {ε : Vars} {σ : Sto} {K : Frag}
theorem Keeps.tick {s : Shared} {tk : Nat} : Keeps s { s with toks := tk } := ⟨s.heap, tk, rfl, fun _ _ e => e⟩
theorem elt_str {cenv : Env} {x : Str} {p1 p2 p3 p4 p5 : Pos} {m : Str → Option Value} {t : Addr} {items : Array Value} {a : Int} {u : Tok} (hh : A.handled = none) (fn : cenv.scope.kind = .function) (kx : cenv.kindOf x = some .local) (kstr : cenv.kindOf "str" = some .globalImplicit) (hg : cenv.globals = mainGlobals) (hb : cenv.builtins = builtinsNs)
  (n1 : s.heap.Ns mainGlobals mg) (e1 : mg "str" = none) (n2 : s.heap.Ns builtinsNs mb) (e2 : mb "str" = some (.type "str")) (hn : s.heap.Ns cenv.locals m) (hm : m x = some (.ref t)) (hx : (x == ("__debug__" : Str)) = false) (ht : IsTup s.heap t items) (hi : items[0]? = some (.int a u)) (hs : 0 < items.size) (hz : items.size ≤ 100000) (h0 : -1000000 ≤ a) (h1 : a ≤ 1000000) :
  wpAny (model prog w) A (eval (eltS x p1 p2 p3 p4 p5) cenv) (fun y s₃ => (∃ t, y = .str (txt a) t) ∧ Keeps s s₃) E s := by
  refine PyProof.Rows.Call_ (he := rfl) ?_
  refine Name_function_global fn kstr (loadGlobal_builtin (env := cenv) (show s.heap.Ns cenv.globals mg from hg ▸ n1) e1 (show s.heap.Ns cenv.builtins mb from hb ▸ n2) e2 ?_) rfl
  refine PyProof.Rows.callWith_type1 (he := rfl) (hplain := rfl) ?_
  refine wpAny_items_cons (he := rfl) ?_
  refine PyProof.Rows.Subscript_ ?_
  refine wpAny_Name (wpAny_loadName_local fn kx hn hm ?_) hx
  refine wpAny_Constant_int ?_
  refine tail_any ht.typeIs slot_tuple_getitem.lookup (getItem_tuple (x := .int a u) (j := 0) ht (by omega) (by omega) ?_ (by simpa using hi) ?_) (by with_unfolding_all rfl)
  · unfold seqIndex?
    simp [hs]
  · refine wpAny_items_nil ?_
    have hl : a.natAbs.log2 < 1920 := log2_small (by omega)
    exact PySem.P.str_of_int hl ⟨⟨_, rfl⟩, Keeps.tick⟩
structure GenRd (prog : Program) (w : World) (A : Around) (a C : Addr) (fp wr : List Addr) (g n : Nat) (F : Nat → Value → Prop) (s : Shared) : Prop where
  at' : GenAt prog w A.in4 a g C fp wr (fun _ => true) n F 0 s
  walks : WalksS prog w A.in4 a (a :: C :: fp) (C :: wr) (GenOnlyQ g) n F (GenAt prog w A.in4 a g C fp wr (fun _ => true) n F)
theorem passing_true_all (n : Nat) : passing (fun _ => true) n 0 = List.range n := by simp [passing]
theorem St.regen (S : St z G env ε σ s) {g : Array GenState} : St { z with gens := g } G env ε σ { s with gens := g } := { S with adv := ⟨S.adv.1, by show (s.os, g) = (z.os, g); rw [(Prod.mk.inj S.adv.2).1]⟩ }
theorem St.less {σ' : Sto} (S : St z G env ε σ' s) (g : Grow σ σ') : St z G env ε σ s :=
  { S with
    locS := by
      cases q : σ env.locals with
      | none => rfl
      | some o => have := g.get q; rw [S.locS] at this; cases this
    cel := fun x c e kd => let ⟨a, b, sn, n⟩ := S.cel x c e kd; ⟨a, b, (by
      cases q : σ c with
      | none => rfl
      | some o => have := g.get q; rw [sn] at this; cases this), n⟩
    obj := fun a o e => S.obj a o (g.get e)
    objG := fun a o e => S.objG a o (g.get e) }
noncomputable def frz (L : List Addr) (G : Addr → Option (Obj × Bool)) (σ : Sto) (h : Heap) : Addr → Option (Obj × Bool) := fun b => match G b with
  | some p => some p
  | none => if b ∈ L then (h.get? b).map fun o => (o, (σ b).isSome) else none
theorem frz_G {L : List Addr} {h : Heap} {b : Addr} {p : Obj × Bool} (e : G b = some p) : frz L G σ h b = some p := by unfold frz; rw [e]
theorem frz_L {L : List Addr} {h : Heap} {b : Addr} {o : Obj} (e : G b = none) (m : b ∈ L) (ho : h.get? b = some o) : frz L G σ h b = some (o, (σ b).isSome) := by unfold frz; rw [e]; simp [m, ho]
theorem frz_off {L : List Addr} {h : Heap} {b : Addr} (e : G b = none) (m : b ∉ L) : frz L G σ h b = none := by unfold frz; rw [e]; simp [m]
theorem frz_case {L : List Addr} {h : Heap} {b : Addr} {p : Obj × Bool} (e : frz L G σ h b = some p) : G b = some p ∨ (G b = none ∧ b ∈ L ∧ h.get? b = some p.1 ∧ p.2 = (σ b).isSome) := by
  unfold frz at e
  cases q : G b with
  | some p' => rw [q] at e; exact .inl e
  | none =>
    rw [q] at e
    by_cases m : b ∈ L
    · simp only [m, if_true] at e
      refine ex1 (Option.map_eq_some_iff.mp e) fun o z4x0r => ?_
      refine and2 z4x0r fun ho z4x2 => ?_
      subst z4x2
      exact .inr ⟨rfl, m, ho, rfl⟩
    · simp [m] at e
theorem St.freeze {L : List Addr} (S : St z G env ε σ s) (hL : env.locals ∉ L) : St z (frz L G σ s.heap) env ε σ s :=
  { S with
    keep := fun b o e => let ⟨fl, q⟩ := S.keep b o e; ⟨fl, frz_G q⟩
    prot := fun b o fl e => (frz_case e).elim (fun q => S.prot b o fl q) fun q => q.2.2.1
    locG := frz_off S.locG hL
    celG := fun x c e kd p q => (frz_case q).elim (fun q => S.celG x c e kd p q) fun q => by
      have := q.2.2.2; rw [(S.cel x c e kd).2.2.1] at this; cases this
    fre := fun x c av e kd q => let ⟨o, v, fl, e', r⟩ := S.fre x c av e kd q; ⟨o, v, fl, frz_G e', r⟩
    objG := fun a o e => by
      rcases S.objG a o e with q | ⟨p, q⟩
      · by_cases m : a ∈ L
        · refine ex1 (OR.there (S.obj a o e)) fun ob ho => ?_
          exact .inr ⟨ob, by rw [frz_L q m ho, e]; rfl⟩
        · exact .inl (frz_off q m)
      · exact .inr ⟨p, frz_G q⟩ }
theorem St.thaw {L wr : List Addr} {σ' : Sto} {ε' : Vars} {h : Heap} {s' : Shared} {g g' : Array GenState} (S : St z G env ε σ s) (S' : St { z with gens := g } (frz L G σ h) env ε' σ' s') {s₂ : Shared} (hos : s₂.os = s'.os) (hdr : s₂.drawn = s'.drawn) (hg : s₂.gens = g')
   (hcl : env.cells = []) (hw : ∀ b ∈ wr, G b = none ∧ σ' b = none ∧ env.locals ≠ b) (k : ∀ b o, b ∉ wr → s'.heap.get? b = some o → s₂.heap.get? b = some o) :
   St { z with gens := g' } G env ε' σ' s₂ where
  adv := ⟨hdr.trans S'.adv.1, by show (s₂.os, s₂.gens) = (z.os, g'); rw [hg, hos, (Prod.mk.inj S'.adv.2).1]⟩
  keep := S.keep
  prot := fun b o fl e => k b o (fun m => by rw [(hw b m).1] at e; cases e) (S'.prot b o fl (frz_G e))
  fn := S.fn
  loc := by
    refine ex1 S'.loc fun m z6x0r => ?_
    refine and2 z6x0r fun z6x1 q => ?_
    obtain ⟨o, es, ep, ho, z⟩ := z6x1
    exact ⟨m, ⟨o, es, ep, k _ _ (fun m => (hw _ m).2.2 rfl) ho, z⟩, q⟩
  locG := S.locG
  locS := S'.locS
  cel := fun x c e => by rw [hcl] at e; cases e
  celG := fun x c e => by rw [hcl] at e; cases e
  apart := fun x y c e => by rw [hcl] at e; cases e
  fre := fun x c av e => by rw [hcl] at e; cases e
  obj := fun a o e => OR.mv (S'.obj a o e) fun o' => k a o' fun m => by rw [(hw a m).2.1] at e; cases e
  objG := fun a o e => by
    cases q : G a with
    | none => exact .inl rfl
    | some p =>
      rcases S'.objG a o e with r | ⟨p', r⟩
      · rw [frz_G q] at r; cases r
      · rw [frz_G q] at r; cases r; exact .inr ⟨p', rfl⟩
noncomputable def GenHeld (prog : Program) (w : World) (A : Around) (z : Shared) (G : Addr → Option (Obj × Bool)) (env : Env) (σ : Sto) (a : Addr) (ts : List Int) (L : List Addr) (s : Shared) : Prop :=
  ∃ C I fp g, GenRd prog w A a C fp [I] g ts.length (fun i y => ∃ t tok, ts[i]? = some t ∧ y = .str (txt t) tok) s ∧ (∀ b ∈ a :: C :: fp, (∃ o, s.heap.get? b = some o) ∧ (b ∈ L ∨ ∃ o, z.heap.get? b = some o)) ∧ (∀ b o fl, G b = some (o, fl) → s.heap.get? b = some o) ∧ G C = none ∧ G I = none ∧ C ∈ L ∧ I ∈ L ∧ σ C = none ∧ σ I = none ∧ env.locals ≠ C ∧ env.locals ≠ I
theorem tups_items {ps : List Addr} {ts : List Int} (T : TupsAt σ ps ts) {i : Nat} {v : Value} {items : List Value} (r : VRs (ps.map .ref) items) (hv : items.toArray[i]? = some v) :
    ∃ p t u x, ps[i]? = some p ∧ ts[i]? = some t ∧ v = .ref p ∧ σ p = some (.tup [.int t, .int u, .int x]) := by
  have hv' : items[i]? = some v := by simpa using hv
  have hlen := r.length
  have hi : i < ps.length := by have := (List.getElem?_eq_some_iff.mp hv').1; rw [List.length_map] at hlen; omega
  refine ex1 (r.get (i := i) (a := .ref ps[i]) (by simp [hi])) fun v' z7x0r => ?_
  refine and2 z7x0r fun e1 e2 => ?_
  rw [hv'] at e1; cases e1; cases e2
  have hT := T.length
  refine ex1 (T.get (i := i) (b := ts[i]'(by omega)) (by simp [hT ▸ hi])) fun p z8x0r => ?_
  refine and2 z8x0r fun hp z8x1r => ?_
  refine ex2 z8x1r fun u x e => ?_
  rw [List.getElem?_eq_getElem hi] at hp
  cases hp
  exact ⟨_, _, u, x, by simp [hi], by simp [hT ▸ hi], rfl, e⟩
theorem upd_less {σ : Sto} {P : Addr} {o : AO} (hP : σ P = some o) : ∀ a x, σ a = some x → upd σ P o a = some x := fun a x e => by
  by_cases q : a = P
  · subst q; rw [hP] at e; cases e; exact upd_self
  · rw [upd_ne q]; exact e
theorem TupsAt.some {σ : Sto} {ps : List Addr} {ts : List Int} (T : TupsAt σ ps ts) : ∀ p ∈ ps, ∃ o, σ p = some o := by
  intro p hp
  obtain ⟨i, hi, rfl⟩ := List.getElem_of_mem hp
  have hT := T.length
  obtain ⟨p', hp', u, x', e⟩ := T.get (i := i) (b := ts[i]'(by omega)) (by simp [hT ▸ hi])
  rw [List.getElem?_eq_getElem hi] at hp'
  cases hp'
  exact ⟨_, e⟩
theorem r_gen {c P l bm : Addr} {ob : Obj} {ps : List Addr} {ts : List Int} {x : Str} {px p1 p2 p3 p4 p5 pos : Pos} {iter : Expr} {scope : Scope} {Q : Value → Shared → Prop}
   (W : Wd K mg mb z.heap) (B : BMod z.heap mainGlobals mg bm ob) (S : St z G env ε σ s) (hh : A.handled = none) (hroom : A.depth < recursionLimit) (hgl : env.globals = mainGlobals)
   (hc : env.code = .ref c) (cc : CodeC z.heap c P) (hP : σ P = some (.raw tabP)) (GP : G P = none)
   (hl : σ l = some (.list (ps.map .ref))) (T : TupsAt σ ps ts) (hb : ∀ t ∈ ts, -1000000 ≤ t ∧ t ≤ 1000000)
   (hco : scope.isCoroutine = false) (hclos : closureFor scope env = pure []) (hcell : ∀ y ∈ scope.names, y.2 ≠ .cell) (h0 : scope.names.lookup (".0" : Str) = some NameKind.local) (hkind : scope.kind = .function)
   (hx : scope.names.lookup x = some .local) (hxd : (x == ("__debug__" : Str)) = false) (hstr : scope.names.lookup ("str" : Str) = some .globalImplicit)
   (e1 : mg "str" = none) (e2 : mb "str" = some (.type "str"))
   (hs : ∀ y, genFold iter env y = pure y) (hiter : ∀ Q : Value → Shared → Prop, Q (.ref l) s → wpAny (model prog w) A (eval iter env) Q E s)
   (h : ∀ (a : Addr) (L : List Addr) (s' : Shared), env.locals ∉ L → St { z with gens := s'.gens } (frz L G σ s'.heap) env ε σ s' → GenHeld prog w A z G env σ a ts L s' → (AllBare s.gens → AllBare s'.gens) → Q (.ref a) s') :
   wpAny (model prog w) A (eval (.GeneratorExp (eltS x p1 p2 p3 p4 p5) [⟨.Name x px, iter, [], 0⟩] scope pos) env) Q E s := by
  refine wpAny_GeneratorExp_make hco hclos hcell h0 hkind hroom (hiter _ ?_) hs
  obtain ⟨items, n, hol, vr⟩ := S.obj _ _ hl
  have hll := isList_of hol
  have hPl : P ≠ l := ne_kind hP hl (by intro q; cases q)
  refine wpAny_pyIter_list hll ?_
  generalize hI1 : s.heap.push { cls := .type "list_iterator", data := .fields #[.ref l, .int 0 0] } = H1
  have I0 : σ s.heap.objs.size = none := S.fresh (Nat.le_refl _)
  have GI : G s.heap.objs.size = none := S.freshG (Nat.le_refl _)
  have hloc : @LT.lt Nat instLTNat env.locals s.heap.objs.size := by obtain ⟨m, ⟨o, _, _, ho, _⟩, _⟩ := S.loc; exact Heap.lt_size ho
  have kI : ∀ b o, s.heap.get? b = some o → H1.get? b = some o := fun b o e => hI1 ▸ Heap.get?_push_of_some _ e
  have S1 : St z G env ε σ { s with heap := H1 } := S.grow ⟨rfl, rfl⟩ kI
  have hIt1 : H1.IsListIter s.heap.objs.size l 0 := hI1 ▸ ⟨_, Heap.get?_push_size _ rfl, rfl, rfl⟩
  have hll1 := hll.at (h' := H1) (kI _)
  refine ⟨W.nolimit.keeps S1.base, ?_⟩
  obtain ⟨op, hop, tp⟩ := S1.obj _ _ hP
  refine r_genCode hc cc S1.base hop tp ?_
  intro code H2 tk op' hx' hop' tp'
  have PI : s.heap.objs.size ≠ P := fun e => by rw [e, hP] at I0; cases I0
  have S2 : St z G env ε (upd σ P (.raw tabP)) { s with heap := H2, toks := tk } := S1.turn (s' := { s with heap := H2, toks := tk }) ⟨rfl, rfl⟩ hP GP hx' ⟨op', hop', tp'⟩
  replace S2 : St z G env ε σ { s with heap := H2, toks := tk } := S2.less (upd_less hP)
  have hIt2 : H2.IsListIter s.heap.objs.size l 0 := hIt1.at fun o e => hx' _ o PI e
  have hll2 : H2.IsList l items.toArray := hll1.at fun o e => hx' _ o (Ne.symm hPl) e
  have hI2 : @LT.lt Nat instLTNat s.heap.objs.size H2.objs.size := by obtain ⟨_, e, _⟩ := hIt2; exact Heap.lt_size e
  refine wpAny_builtinsFor (s := { s with heap := H2, toks := tk }) (hgl ▸ W.g.keeps S2.base) B.name B.ne (S2.base _ _ B.obj) B.cls B.dict B.data ?_
  intro H3 hn3 hs3
  have k3 : ∀ b o, H2.get? b = some o → H3.get? b = some o := fun b o e => hs3.extBut b o (Nat.ne_of_lt (Heap.lt_size e)) (Heap.get?_push_of_some _ e)
  have hsz3 : H3.objs.size = H2.objs.size + 1 := by rw [hs3.1, Heap.size_push]
  have S3 : St z G env ε σ { s with heap := H3, toks := tk + 1 + 1 + 1 } := S2.grow ⟨rfl, rfl⟩ k3
  have hCn : σ H2.objs.size = none := S2.fresh (Nat.le_refl _)
  have hCG : G H2.objs.size = none := S2.freshG (Nat.le_refl _)
  generalize hgo : ({ cls := .type "generator", data := .fields #[.int s.gens.size 0, .str "<genexpr>" (tk + 1), .str (env.qual ++ "<genexpr>") (tk + 1 + 1)] } : Obj) = GO
  have k5 : ∀ b o, H3.get? b = some o → (H3.push GO).get? b = some o := fun b o e => Heap.get?_push_of_some _ e
  have hsz5 : (H3.push GO).objs.size = H3.objs.size + 1 := Heap.size_push ..
  have S5' : St z G env ε σ { s with heap := H3.push GO, toks := tk + 1 + 1 + 1 } := S3.grow ⟨rfl, rfl⟩ k5
  have S5 := S5'.regen (g := s.gens.push (.fresh (.compStart (.GeneratorExp (eltS x p1 p2 p3 p4 p5) [⟨.Name x px, iter, [], 0⟩] scope pos) 0 (.ref s.heap.objs.size) .none (genEnv scope [] H2.objs.size code builtinsNs env))))
  have hps := T.some
  have hlt2 : ∀ b o, σ b = some o → b < H2.objs.size := fun b o e => OR.lt (S2.obj b o e)
  let L : List Addr := H3.objs.size :: H2.objs.size :: s.heap.objs.size :: l :: ps
  let fp : List Addr := (s.heap.objs.size :: l :: ps) ++ (List.range (H3.push GO).objs.size).filter fun b => (z.heap.get? b).isSome
  have hfp' : ∀ b ∈ fp, (∃ o, H2.get? b = some o) ∧ (b ∈ L ∨ ∃ o, z.heap.get? b = some o) :=
    alla (allc ⟨hIt2.elim fun _ e => ⟨_, e.1⟩, .inl m2⟩ (allc ⟨OR.there (S2.obj _ _ hl), .inl m3⟩ fun b hb => ⟨(hps b hb).elim fun o e => OR.there (S2.obj _ _ e), .inl (.tail _ (.tail _ (.tail _ (.tail _ hb))))⟩))
      fun b hb => (Option.isSome_iff_exists.mp (List.mem_filter.mp hb).2).elim fun o ho => ⟨⟨_, S2.base b o ho⟩, .inr ⟨o, ho⟩⟩
  have hfp : ∀ b ∈ fp, @LT.lt Nat instLTNat b H2.objs.size := fun b hb => let ⟨o, e⟩ := (hfp' b hb).1; Heap.lt_size e
  have hz5 : ∀ b o, z.heap.get? b = some o → b ∈ fp := fun b o e => List.mem_append.mpr (.inr (List.mem_filter.mpr ⟨List.mem_range.mpr (Heap.lt_size (S5'.base b o e)), by rw [e]; rfl⟩))
  have hLn : env.locals ∉ L := fun hm => allc (P := fun b => env.locals ≠ b) (Nat.ne_of_lt (by omega)) (allc (Nat.ne_of_lt (by omega)) (allc (Nat.ne_of_lt hloc) (allc (fun e => by rw [← e, S.locS] at hl; cases hl)
    fun b hb e => (hps b hb).elim fun o ho => by rw [← e, S.locS] at ho; cases ho))) _ hm rfl
  refine h _ L _ hLn (S5.freeze hLn) ?_ ?_
  · have hlocC : env.locals ≠ H2.objs.size := fun e => by rw [e] at hloc; omega
    have hlocI : env.locals ≠ s.heap.objs.size := fun e => by rw [e] at hloc; omega
    have hns : items.toArray.size = ts.length := by rw [List.size_toArray, vr.length, List.length_map]; exact T.length
    have hne : l ≠ s.heap.objs.size := fun e => by rw [e, I0] at hl; cases hl
    have haf : H3.objs.size ∉ fp := fun hm => by have := hfp _ hm; omega
    have hCf : H2.objs.size ∉ fp := fun hm => by have := hfp _ hm; omega
    have W0 : ∀ A' : Around, A'.handled = none → Walks prog w A' s.heap.objs.size fp [s.heap.objs.size] items.toArray.size (fun i v => items.toArray[i]? = some v) (fun i h => h.IsListIter s.heap.objs.size l i ∧ h.IsList l items.toArray) :=
      fun A' hA => (Walks.list hA _ _ hne items.toArray).mono_fp (allc (List.mem_append_left _ m0) (alls (List.mem_append_left _ m1)))
    obtain ⟨mc, hcn, hcr⟩ := id W.nolimit
    have hcz : ∃ o, z.heap.get? cStatics = some o := let ⟨o, _, _, ho, _⟩ := hcn; ⟨o, ho⟩
    have hcs : cStatics ∈ fp := let ⟨o, ho⟩ := hcz; hz5 _ o ho
    have hcI : cStatics ∉ [s.heap.objs.size] := fun hm => by
      rw [List.mem_singleton] at hm
      obtain ⟨o, ho⟩ := hcz
      have := Heap.lt_size (S.base _ _ ho)
      rw [hm] at this; exact Nat.lt_irrefl _ this
    have hcC : cStatics ≠ H2.objs.size := fun e => hCf (e ▸ hcs)
    have haC : H3.objs.size ≠ H2.objs.size := by omega
    have hga : (H3.push GO).IsGen H3.objs.size s.gens.size := by rw [← hgo]; exact ⟨_, _, _, Heap.get?_push_size _ rfl, rfl, rfl, rfl⟩
    have wk := WalksS.genexpQ (prog := prog) (w := w) (A := A.in4) hh H3.objs.size s.gens.size H2.objs.size fp [s.heap.objs.size] (fun _ => true) items.toArray.size
      (fun i y => ∃ t tok, ts[i]? = some t ∧ y = .str (txt t) tok) haC haf (alls (List.mem_append_left _ m0)) hroom hcs hcC hcI
    have hq : QuietGenD prog w (genEnv scope [] H2.objs.size code builtinsNs env) x [] (eltS x p1 p2 p3 p4 p5) fp [s.heap.objs.size] (fun i v => items.toArray[i]? = some v) (fun _ => true) (fun i y => ∃ t tok, ts[i]? = some t ∧ y = .str (txt t) tok) (H3.push GO) (A.in4.depth + 1) (A.in4.units + 4) := by
      refine ⟨fun A' E' i v s₂ m₂ hA _ _ hP hn hm hk => ?_, fun A' E' i v s₂ m₂ hA _ _ hP _ hn hm hk => ?_⟩
      · exact wpAny_pure ⟨rfl, ⟨_, _, rfl, fun _ _ e => e⟩⟩
      · obtain ⟨p, t, u, y, hp, ht, rfl, hσ⟩ := tups_items T vr hP
        obtain ⟨tit, n', hto, tvr⟩ := S5'.obj _ _ hσ
        have hpm : p ∈ ps := List.mem_of_getElem? hp
        have hpI : p ≠ s.heap.objs.size := fun e => by rw [e, I0] at hσ; cases hσ
        have up : ∀ b o, z.heap.get? b = some o → s₂.heap.get? b = some o := fun b o e => hk b (hz5 b o e) (fun hm => by
          rw [List.mem_singleton] at hm; subst hm
          exact absurd (Heap.lt_size (S.base _ _ e)) (Nat.lt_irrefl _)) o (S5'.base b o e)
        obtain ⟨v1, hv1, r1⟩ := tvr.get (i := 0) (a := .int t) rfl
        obtain ⟨tk1, rfl⟩ := r1
        have htl := tvr.length
        refine wpAny_mono (elt_str (items := tit.toArray) (a := t) (u := tk1) hA hkind hx hstr (by exact hgl) rfl (W.g.keeps up) e1 (W.b.keeps up) e2 hn hm hxd (isTup_of (hk p (List.mem_append.mpr (.inl (by simp [hpm]))) (by simpa using hpI) _ hto)) (by simpa using hv1) (by rw [List.size_toArray, htl]; exact Nat.zero_lt_succ _) (by rw [List.size_toArray, htl]; show 3 ≤ 100000; decide) (hb t (List.mem_of_getElem? ht)).1 (hb t (List.mem_of_getElem? ht)).2) (fun y s₃ h => ⟨?_, h.2⟩) fun _ _ e => e
        obtain ⟨tk, e⟩ := h.1; exact ⟨t, tk, ht, e⟩
    have ga : GenAt prog w A.in4 H3.objs.size s.gens.size H2.objs.size fp [s.heap.objs.size] (fun _ => true) items.toArray.size (fun i y => ∃ t tok, ts[i]? = some t ∧ y = .str (txt t) tok) 0
        { s with heap := H3.push GO, toks := tk + 1 + 1 + 1, gens := s.gens.push (.fresh (.compStart (.GeneratorExp (eltS x p1 p2 p3 p4 p5) [⟨.Name x px, iter, [], 0⟩] scope pos) 0 (.ref s.heap.objs.size) .none (genEnv scope [] H2.objs.size code builtinsNs env))) } := by
      refine GenAt.freshD (A := A.in4) (cenv := genEnv scope [] H2.objs.size code builtinsNs env) (m := fun y => if y = ".0" then some (.ref s.heap.objs.size) else none) hh W0 (fun _ => true) _ hx (by simp [genEnv, hkind]) hco hCf hq hga (Array.getElem?_push_size ..) ⟨hIt2.at fun o e => k5 _ _ (k3 _ _ e), hll2.at fun o e => k5 _ _ (k3 _ _ e)⟩ (hn3.push _) (W.nolimit.keeps S5'.base)
    rw [hns] at wk ga
    refine ⟨H2.objs.size, s.heap.objs.size, fp, s.gens.size, ⟨ga, ?_⟩, ?_, S5.prot, hCG, GI, by simp [L], by simp [L], hCn, I0, hlocC, hlocI⟩
    · rw [passing_true_all, List.length_range] at wk
      refine wk.imp fun j y ⟨i, hi, hF⟩ => ?_
      have hj : i = j := by
        have := List.getElem?_eq_some_iff.mp hi
        obtain ⟨_, e⟩ := this
        simpa using e.symm
      subst hj; exact hF
    · intro b hb
      rcases List.mem_cons.mp hb with rfl | hb
      · exact ⟨⟨_, Heap.get?_push_size _ (by subst hgo; rfl)⟩, .inl (by simp [L])⟩
      · rcases List.mem_cons.mp hb with rfl | hb
        · exact ⟨let ⟨o, _, _, ho, _⟩ := hn3; ⟨o, k5 _ _ ho⟩, .inl (by simp [L])⟩
        · exact ⟨let ⟨o, e⟩ := (hfp' b hb).1; ⟨o, k5 _ _ (k3 _ _ e)⟩, (hfp' b hb).2⟩
  · intro B
    exact B.push rfl
theorem genAt_move {a C : Addr} {g n j : Nat} {fp wr : List Addr} {pz : Nat → Bool} {F : Nat → Value → Prop} {s s' : Shared} (x : GenAt prog w A a g C fp wr pz n F j s) (hg : s'.gens = s.gens) (hl : s'.heap.NoLimit)
   (hk : ∀ b ∈ a :: C :: fp, ∀ o, s.heap.get? b = some o → s'.heap.get? b = some o) : GenAt prog w A a g C fp wr pz n F j s' := by
  refine and3 x fun z25x0 _ z25x0r => ?_
  refine ex1 z25x0r fun gs z25x2r => ?_
  refine and2 z25x2r fun e k => ?_
  obtain ⟨o, nm, qn, ho, r⟩ := z25x0
  exact ⟨⟨o, nm, qn, hk a (List.mem_cons_self ..) o ho, r⟩, hl, gs, by rw [hg]; exact e, fun s'' hal => k s'' fun b hb o' e' => hal b hb o' (hk b (List.mem_cons_of_mem _ hb) o' e')⟩
theorem r_joinGen {a : Addr} {ts : List Int} {L : List Addr} {ε' : Vars} {σ' : Sto} {s₅ s₆ : Shared} {sep : Str} {t : Tok} {Q : Value → Shared → Prop} (W : Wd K mg mb z.heap) (S : St z G env ε σ s)
   (H : GenHeld prog w A z G env σ a ts L s₅) (S' : St { z with gens := s₅.gens } (frz L G σ s₅.heap) env ε' σ' s₆) (hcl : env.cells = []) (hj : JoinOk sep (ts.map txt) = true) (hz : ts.length ≤ 1000)
   (h : ∀ t' s', St { z with gens := s'.gens } G env ε' σ' s' → (AllBare s₅.gens → AllBare s'.gens) → Q (.str (Txt.join sep (ts.map txt)) t') s') :
   wpAny (model prog w) A (call (.builtin "str.join") [.str sep t, .ref a]) Q E s₆ := by
  obtain ⟨C, I, fp, g, ⟨ga, wk⟩, hfp, hG, GC, GI, CL, IL, sC, sI, lC, lI⟩ := H
  have hgens : s₆.gens = s₅.gens := (Prod.mk.inj S'.adv.2).2
  have hk : ∀ b ∈ a :: C :: fp, ∀ o, s₅.heap.get? b = some o → s₆.heap.get? b = some o := by
    intro b hb o e
    cases q : G b with
    | some p =>
      have := hG b p.1 p.2 q
      rw [this] at e; cases e
      exact S'.prot b _ p.2 (frz_G q)
    | none =>
      rcases (hfp b hb).2 with m | ⟨o', ho'⟩
      · exact S'.prot b o _ (frz_L q m e)
      · refine ex1 (S.keep b o' ho') fun fl q' => ?_
        rw [q] at q'; cases q'
  have ga' := genAt_move ga hgens (W.nolimit.keeps S'.base) hk
  have off : ∀ b, b ∈ C :: [I] → b ∈ L → G b = none → σ b = none → σ' b = none := by
    intro b hm m q n
    cases e : σ' b with
    | none => rfl
    | some ao =>
      have ⟨ob, ho⟩ : ∃ o, frz L G σ s₅.heap b = some (o, false) := by
        refine ex1 ((hfp b (wk.sub b hm)).1) fun o ho => ?_
        exact ⟨o, by rw [frz_L q m ho, n]; rfl⟩
      rcases S'.objG b ao e with r | ⟨p, r⟩
      · rw [ho] at r; cases r
      · rw [ho] at r; cases r
  refine SC.joinGen wk.in4_2 (fun i s x => x.1.typeIs) ga' (fun b hb => let ⟨o, e⟩ := (hfp b hb).1; Heap.lt_size (hk b hb o e)) (List.mem_cons_self ..) (fun i v ⟨_, tok, _, e⟩ => ⟨_, tok, e⟩) (fun s' l hm hacc => ?_) (by rw [sizeLine_eq]; omega)
  have hl : l.map (·.1) = ts.map txt := by
    have hsz : l.length = ts.length := by simpa [strValues] using hacc.1
    apply List.ext_getElem?
    intro j
    by_cases hj : j < ts.length
    · have hj' : j < l.length := hsz ▸ hj
      refine ex2 (hacc.2 j (.str l[j].1 l[j].2) (by simp [strValues, List.getElem?_eq_getElem hj'])) fun t tok z29x0r => ?_
      refine and2 z29x0r fun ht hv => ?_
      injection hv with h1 _
      simp [List.getElem?_eq_getElem hj', ht, h1]
    · rw [List.getElem?_eq_none (by simpa [hsz] using Nat.le_of_not_lt hj), List.getElem?_eq_none (by simpa using Nat.le_of_not_lt hj)]
  rw [hl]
  refine ⟨hj, fun t' k => h t' _ (St.thaw (wr := [C, I]) S S' (s₂ := { s' with toks := k }) hm.os hm.drawn rfl hcl ?_ fun b o nb e => hm.heap b o nb e) fun b => AllBare.movedS (s' := s') (show AllBare s₆.gens from hgens ▸ b) hm⟩
  intro b hb
  rcases List.mem_cons.mp hb with rfl | hb
  · exact ⟨GC, off _ (by simp) CL GC sC, lC⟩
  · rw [List.mem_singleton] at hb
    subst hb
    exact ⟨GI, off _ (by simp) IL GI sI, lI⟩
end
section
structure Ms where
  x : Str
  n : Int
  nt : Int
  count : List Int
  trail : Int
  cols : List Int
  run : Nat
noncomputable def Ms.ws (m : Ms) : Ws := ⟨m.x, m.n, m.nt, m.count, m.trail⟩
noncomputable def tabL : List Ms := [
  ⟨⟨#[]⟩, 0, 0, [], 0, [0, 0, 0, 0, 0, 0, 0], 0⟩,
  ⟨⟨#[9]⟩, 1, 1, [1], 0, [1, 2, 3, 4, 5, 6, 7], 0⟩,
  ⟨⟨#[32]⟩, 1, 0, [], 1, [1, 1, 1, 1, 1, 1, 1], 1⟩,
  ⟨⟨#[9, 9]⟩, 2, 2, [2], 0, [2, 4, 6, 8, 10, 12, 14], 0⟩,
  ⟨⟨#[9, 32]⟩, 2, 1, [1], 1, [2, 3, 4, 5, 6, 7, 8], 1⟩,
  ⟨⟨#[32, 9]⟩, 2, 1, [0, 1], 0, [2, 2, 3, 4, 5, 6, 7], 1⟩,
  ⟨⟨#[32, 32]⟩, 2, 0, [], 2, [2, 2, 2, 2, 2, 2, 2], 2⟩,
  ⟨⟨#[9, 9, 9]⟩, 3, 3, [3], 0, [3, 6, 9, 12, 15, 18, 21], 0⟩,
  ⟨⟨#[9, 9, 32]⟩, 3, 2, [2], 1, [3, 5, 7, 9, 11, 13, 15], 1⟩,
  ⟨⟨#[9, 32, 9]⟩, 3, 2, [1, 1], 0, [3, 4, 6, 8, 10, 12, 14], 1⟩,
  ⟨⟨#[9, 32, 32]⟩, 3, 1, [1], 2, [3, 4, 5, 6, 7, 8, 9], 2⟩,
  ⟨⟨#[32, 9, 9]⟩, 3, 2, [1, 1], 0, [3, 4, 6, 8, 10, 12, 14], 1⟩,
  ⟨⟨#[32, 9, 32]⟩, 3, 1, [0, 1], 1, [3, 3, 4, 5, 6, 7, 8], 1⟩,
  ⟨⟨#[32, 32, 9]⟩, 3, 1, [0, 0, 1], 0, [3, 4, 3, 4, 5, 6, 7], 2⟩,
  ⟨⟨#[32, 32, 32]⟩, 3, 0, [], 3, [3, 3, 3, 3, 3, 3, 3], 3⟩,
  ⟨⟨#[9, 9, 32, 9]⟩, 4, 3, [2, 1], 0, [4, 6, 9, 12, 15, 18, 21], 1⟩,
  ⟨⟨#[9, 9, 32, 32]⟩, 4, 2, [2], 2, [4, 6, 8, 10, 12, 14, 16], 2⟩,
  ⟨⟨#[9, 32, 9, 9]⟩, 4, 3, [2, 1], 0, [4, 6, 9, 12, 15, 18, 21], 1⟩,
  ⟨⟨#[9, 32, 9, 32]⟩, 4, 2, [1, 1], 1, [4, 5, 7, 9, 11, 13, 15], 1⟩,
  ⟨⟨#[9, 32, 32, 9]⟩, 4, 2, [1, 0, 1], 0, [4, 6, 6, 8, 10, 12, 14], 2⟩,
  ⟨⟨#[9, 32, 32, 32]⟩, 4, 1, [1], 3, [4, 5, 6, 7, 8, 9, 10], 3⟩,
  ⟨⟨#[32, 9, 9, 9]⟩, 4, 3, [2, 1], 0, [4, 6, 9, 12, 15, 18, 21], 1⟩,
  ⟨⟨#[32, 9, 9, 32]⟩, 4, 2, [1, 1], 1, [4, 5, 7, 9, 11, 13, 15], 1⟩,
  ⟨⟨#[32, 9, 32, 9]⟩, 4, 2, [0, 2], 0, [4, 4, 6, 8, 10, 12, 14], 1⟩,
  ⟨⟨#[32, 9, 32, 32]⟩, 4, 1, [0, 1], 2, [4, 4, 5, 6, 7, 8, 9], 2⟩,
  ⟨⟨#[32, 32, 9, 9]⟩, 4, 2, [1, 0, 1], 0, [4, 6, 6, 8, 10, 12, 14], 2⟩,
  ⟨⟨#[32, 32, 9, 32]⟩, 4, 1, [0, 0, 1], 1, [4, 5, 4, 5, 6, 7, 8], 2⟩,
  ⟨⟨#[32, 32, 32, 9]⟩, 4, 1, [0, 0, 0, 1], 0, [4, 4, 6, 4, 5, 6, 7], 3⟩,
  ⟨⟨#[32, 32, 32, 32]⟩, 4, 0, [], 4, [4, 4, 4, 4, 4, 4, 4], 4⟩,
  ⟨⟨#[9, 32, 9, 32, 9]⟩, 5, 3, [1, 2], 0, [5, 6, 9, 12, 15, 18, 21], 1⟩,
  ⟨⟨#[9, 32, 9, 32, 32]⟩, 5, 2, [1, 1], 2, [5, 6, 8, 10, 12, 14, 16], 2⟩,
  ⟨⟨#[9, 32, 32, 32, 9]⟩, 5, 2, [1, 0, 0, 1], 0, [5, 6, 9, 8, 10, 12, 14], 3⟩,
  ⟨⟨#[9, 32, 32, 32, 32]⟩, 5, 1, [1], 4, [5, 6, 7, 8, 9, 10, 11], 4⟩,
  ⟨⟨#[32, 9, 9, 32, 9]⟩, 5, 3, [1, 2], 0, [5, 6, 9, 12, 15, 18, 21], 1⟩,
  ⟨⟨#[32, 9, 9, 32, 32]⟩, 5, 2, [1, 1], 2, [5, 6, 8, 10, 12, 14, 16], 2⟩,
  ⟨⟨#[32, 9, 32, 9, 9]⟩, 5, 3, [1, 2], 0, [5, 6, 9, 12, 15, 18, 21], 1⟩,
  ⟨⟨#[32, 9, 32, 9, 32]⟩, 5, 2, [0, 2], 1, [5, 5, 7, 9, 11, 13, 15], 1⟩,
  ⟨⟨#[32, 9, 32, 32, 9]⟩, 5, 2, [0, 1, 1], 0, [5, 6, 6, 8, 10, 12, 14], 2⟩,
  ⟨⟨#[32, 9, 32, 32, 32]⟩, 5, 1, [0, 1], 3, [5, 5, 6, 7, 8, 9, 10], 3⟩,
  ⟨⟨#[32, 32, 9, 32, 9]⟩, 5, 2, [0, 1, 1], 0, [5, 6, 6, 8, 10, 12, 14], 2⟩,
  ⟨⟨#[32, 32, 9, 32, 32]⟩, 5, 1, [0, 0, 1], 2, [5, 6, 5, 6, 7, 8, 9], 2⟩,
  ⟨⟨#[32, 32, 32, 9, 9]⟩, 5, 2, [1, 0, 0, 1], 0, [5, 6, 9, 8, 10, 12, 14], 3⟩,
  ⟨⟨#[32, 32, 32, 9, 32]⟩, 5, 1, [0, 0, 0, 1], 1, [5, 5, 7, 5, 6, 7, 8], 3⟩,
  ⟨⟨#[32, 32, 32, 32, 9]⟩, 5, 1, [0, 0, 0, 0, 1], 0, [5, 6, 6, 8, 5, 6, 7], 4⟩,
  ⟨⟨#[32, 32, 32, 32, 32]⟩, 5, 0, [], 5, [5, 5, 5, 5, 5, 5, 5], 5⟩,
  ⟨⟨#[32, 9, 32, 9, 32, 9]⟩, 6, 3, [0, 3], 0, [6, 6, 9, 12, 15, 18, 21], 1⟩,
  ⟨⟨#[32, 9, 32, 9, 32, 32]⟩, 6, 2, [0, 2], 2, [6, 6, 8, 10, 12, 14, 16], 2⟩,
  ⟨⟨#[32, 9, 32, 32, 32, 9]⟩, 6, 2, [0, 1, 0, 1], 0, [6, 6, 9, 8, 10, 12, 14], 3⟩,
  ⟨⟨#[32, 9, 32, 32, 32, 32]⟩, 6, 1, [0, 1], 4, [6, 6, 7, 8, 9, 10, 11], 4⟩,
  ⟨⟨#[32, 32, 32, 9, 32, 9]⟩, 6, 2, [0, 1, 0, 1], 0, [6, 6, 9, 8, 10, 12, 14], 3⟩,
  ⟨⟨#[32, 32, 32, 9, 32, 32]⟩, 6, 1, [0, 0, 0, 1], 2, [6, 6, 8, 6, 7, 8, 9], 3⟩,
  ⟨⟨#[32, 32, 32, 32, 32, 9]⟩, 6, 1, [0, 0, 0, 0, 0, 1], 0, [6, 6, 6, 8, 10, 6, 7], 5⟩,
  ⟨⟨#[32, 32, 32, 32, 32, 32]⟩, 6, 0, [], 6, [6, 6, 6, 6, 6, 6, 6], 6⟩]
noncomputable def LSL : List Str := tabL.map (·.x)
noncomputable def fmtW (sizes : List Int) : Str := "at tab size" ++ (if 1 < sizes.length then "s" else "" : Str) ++ " " ++ Txt.join ", " (sizes.map txt)
theorem lsl_mem : (allJs.all fun js => LSL.contains (leadOf js) && LSL.contains (turned (leadOf js))) = true := by decide +kernel
theorem lsl_crooked : (crookedL.all fun x => LSL.contains x) = true := by decide +kernel
noncomputable def msOk (m : Ms) : Bool :=
  let w := wsOf m.x
  w.n == m.n && w.nt == m.nt && w.count == m.count && w.trail == m.trail && colsOf m.x == m.cols && (List.range 7).all (fun k => Txt.contains m.x (Txt.mul " " k) == decide (k ≤ m.run)) && m.x.cps.toList.all (fun c => c == 32 || c == 9) && decide (m.run ≤ 6) && decide (m.x.length ≤ 50)
noncomputable def sizesN (a b : Ms) : List Int := ((List.range (max a.run b.run + 1)).filter fun k => a.cols.getD k 0 != b.cols.getD k 0).map fun k : Nat => (k : Int) + 1
noncomputable def pairL (a b : Ms) : Bool :=
  (lessB a.ws b.ws == belowB a.cols b.cols) && (eqB a.ws b.ws == (a.cols == b.cols)) &&
    (if a.cols == b.cols then a.n == b.n && a.nt == b.nt && a.run == b.run else witSizes a.ws b.ws == sizesN a b)
theorem tab_ok : (tabL.all msOk) = true := by decide +kernel
theorem pairs_ok : (tabL.all fun x => tabL.all fun y => pairL x y) = true := by decide +kernel
end
section
variable {w : World} {A : Around} {E : Value → Shared → Prop} {s z : Shared} {mg mb : Str → Option Value} {G : Addr → Option (Obj × Bool)} {env : Env} {ε : Vars} {σ : Sto}
theorem St.backG {env' : Env} {ε' : Vars} {σ' : Sto} {s' : Shared} {g : Array GenState} (S : St z G env ε σ s) (S' : St { z with gens := g } (hidden G σ s.heap) env' ε' σ' s') : St { z with gens := g } G env ε σ' s' := by
  have h := (S.back (S'.regen (g := z.gens))).regen (g := g)
  have e : s'.gens = g := (Prod.mk.inj S'.adv.2).2
  subst e
  exact h
noncomputable def ck151 (p : Params) : { x : Value × Option Addr × Array Value × Array (Option Value) // (kk p).lookup 151 = some ⟨x.1, x.2.1, .fields x.2.2.1, x.2.2.2⟩ } := ⟨(_, _, _, _), rfl⟩
theorem code152 (W : Wd (kk w.params) mg mb z.heap) : CodeC z.heap 151 147 := 
  ⟨_, _, _, _, _, _, _, _, _, W.X _ _ (ck151 w.params).2, rfl, rfl, rfl, rfl, rfl, rfl, by decide, rfl, rfl⟩
theorem format_w {l bm : Addr} {ob : Obj} {ps : List Addr} {ts : List Int} {Q : Value → Shared → Prop} (W : Wd (kk w.params) mg mb z.heap) (B : BMod z.heap mainGlobals mg bm ob) (S0 : St z G env ε σ s) (hh : A.handled = none) (hdp : A.depth + 20 < recursionLimit) (hu : A.units + 100 < cLine)
   (hP : σ 147 = some (.raw tabP)) (GP : G 147 = none) (hl : σ l = some (.list (ps.map .ref))) (T : TupsAt σ ps ts) (hb : ∀ t ∈ ts, 1 ≤ t ∧ t ≤ 7) (hz : ts.length ≤ 7)
   (h : ∀ t s' g, St { z with gens := g } G env ε σ s' → (AllBare z.gens → AllBare g) → Q (.str (fmtW ts) t) s') :
   wpAny (model PySem.Challenge.pw_pe0273_01 w) A (call (.ref 152) [.ref l]) Q E s := by
  have hh' : ∀ e, (A.deeper e).handled = none := fun e => hh
  refine enterC (binds := [("w", .ref l)]) W S0 (by first | exact room0 hdp | omega) (by exact rfl) (by k_is) rfl rfl rfl rfl (fun L => by exact rfl) (by exact rfl) (by exact rfl) ?_
  intro L s₁ env' C₁ S₁
  have hh := hh' env'
  have eg : s₁.gens = z.gens := (Prod.mk.inj S₁.adv.2).2
  refine LetW.go ?_
  intro _ _ _
  refine wpAny_execs_cons ?_
  refine wpAny_Assign_Name (hs := rfl) ?_
  refine r_gen (c := 151) (P := 147) (l := l) (ps := ps) (ts := ts) W B S₁ hh (by show A.depth + 1 < _; omega) rfl rfl (code152 W) hP (hidden_sto GP hP) hl T (fun t ht => ⟨by have := hb t ht; omega, by have := hb t ht; omega⟩) rfl (by with_unfolding_all rfl) (by decide) rfl rfl rfl rfl rfl ?_ ?_ (fun _ => rfl) ?_ ?_
  · exact mg_none_of W.X W.g (by k_is)
  · exact (W.builtins "str" (by decide)).trans (by first | reg3_boot | boot_fact)
  · intro Q hQ
    wtm_at "m"
    exact hQ
  intro a L1 s5 hLn S5 H bare
  have W5 : Wd (kk w.params) mg mb ({ z with gens := s5.gens } : Shared).heap := W
  have hpl : ps.length ≤ 7 := by rw [T.length]; exact hz
  have hone : ∀ x ∈ ts.map txt, x.length ≤ 1 := by
    intro x hx
    obtain ⟨t, ht, rfl⟩ := List.mem_map.mp hx
    have h1 := hb t ht
    have e : t = ((t.toNat - 1 : Nat) : Int) + 1 := by omega
    rw [e]
    exact Nat.le_of_eq (txt_one _ (by omega))
  have hsum := sum_ones hone
  have hjl : (ts.map txt).length ≤ 7 := by rw [List.length_map]; exact hz
  have hjo : JoinOk ", " (ts.map txt) = true := joinOk_of (by rw [len_comma]; omega)
  repeat wtm_at "m"
  with_reducible refine' PyProof.Rows.gt_int ?_
  repeat wtm_at "m"
  rw [List.length_map, T.length]
  refine r_ite (fun hs => ?_) fun hs => ?_
  · repeat wtm_at "m"
    refine r_addStr ‹St _ _ _ _ _ _› (Nat.le_of_ble_eq_true rfl) ?_
    intro t s S
    repeat wtm_at "m"
    refine r_addStr ‹St _ _ _ _ _ _› (Nat.le_of_ble_eq_true rfl) ?_
    intro t s S
    repeat wtm_at "m"
    with_reducible refine' r_joinM ?_
    repeat wtm_at "m"
    refine r_joinGen W S₁ H ‹St _ _ _ _ _ _› rfl hjo (by omega) ?_
    intro t s S b2
    repeat wtm_at "m"
    refine r_addStr ‹St _ _ _ _ _ _› (join_bound (by exact rfl) hsum hjl) ?_
    intro t s S
    repeat wtm_at "m"
    have ew : fmtW ts = "at tab size" ++ "s" ++ " " ++ Txt.join ", " (ts.map txt) := by
      unfold fmtW; rw [if_pos (by have := of_decide_eq_true hs; omega)]
    have := h t s _ (S0.backG (by assumption)) fun b => b2 (bare (eg ▸ b))
    rw [ew] at this; exact this
  · repeat wtm_at "m"
    refine r_addStr ‹St _ _ _ _ _ _› (Nat.le_of_ble_eq_true rfl) ?_
    intro t s S
    repeat wtm_at "m"
    with_reducible refine' r_joinM ?_
    repeat wtm_at "m"
    refine r_joinGen W S₁ H ‹St _ _ _ _ _ _› rfl hjo (by omega) ?_
    intro t s S b2
    repeat wtm_at "m"
    refine r_addStr ‹St _ _ _ _ _ _› (join_bound (by exact rfl) hsum hjl) ?_
    intro t s S
    repeat wtm_at "m"
    have ew : fmtW ts = "at tab size" ++ " " ++ Txt.join ", " (ts.map txt) := by
      unfold fmtW; rw [if_neg (by have := of_decide_eq_false hs; omega)]; rfl
    have := h t s _ (S0.backG (by assumption)) fun b => b2 (bare (eg ▸ b))
    rw [ew] at this; exact this
end
section
abbrev Frame := Ws × List (Str × Str)
structure Tst where
  pile : List Frame
  es : List Ent
noncomputable def hereOf (rs : List Rw) (i : Nat) : Ws := wsOf ((rowAt rs i).lead ++ (rowAt rs i).name)
noncomputable def popW (h : Ws) : List Frame → List Frame
  | [] => []
  | p :: r => if lessB h p.1 then popW h r else p :: r
noncomputable def tPush (h : Ws) : List Frame → List Frame
  | [] => []
  | p :: r => if lessB p.1 h then (h, p.2) :: p :: r else p :: r
noncomputable def tPile (rs : List Rw) (i : Nat) (t : Tst) : List Frame := popW (hereOf rs i) (tPush (hereOf rs i) t.pile)
noncomputable def topF (l : List Frame) : Frame := l.headD (wsOf "", [])
noncomputable def tBad (rs : List Rw) (i : Nat) (t : Tst) : Bool := !eqB (topF (tPile rs i t)).1 (hereOf rs i)
noncomputable def tErr (rs : List Rw) (i : Nat) (t : Tst) : Err := ((i : Int), fmtW (witSizes (topF (tPile rs i t)).1 (hereOf rs i)), (rowAt rs i).lead ++ (rowAt rs i).name)
noncomputable def deedTb (r : Rw) (tb : List (Str × Str)) : List (Str × Str) :=
  if r.deed = 0 then tb ++ [(r.name, r.value)]
  else if r.deed = 1 then (tb.filter fun p => low p.1 != low r.name) ++ [(r.name, r.value)]
  else if r.deed = 2 then defTb tb r.name r.value
  else if r.deed = 3 then tb.filter fun p => low p.1 != low r.name
  else tb
noncomputable def deedAns (r : Rw) (tb : List (Str × Str)) : Str := if r.deed = 2 then ansOf tb r.name r.value else ""
noncomputable def tStep (rs : List Rw) (i : Nat) (t : Tst) : Tst :=
  let p := tPile rs i t
  let tb := deedTb (rowAt rs i) (topF p).2
  ⟨((topF p).1, tb) :: p.tail, t.es ++ [⟨(p.length : Int), deedAns (rowAt rs i) (topF p).2, tb⟩]⟩
noncomputable def tRun (rs : List Rw) : Nat → Tst
  | 0 => ⟨[(wsOf "", [])], []⟩
  | i + 1 => tStep rs i (tRun rs i)
noncomputable def ToldOut (rs : List Rw) (out : List Ent × Option Err) : Prop :=
  (∃ i, i < rs.length ∧ (∀ j, j < i → tBad rs j (tRun rs j) = false) ∧ tBad rs i (tRun rs i) = true ∧ out = ((tRun rs i).es, some (tErr rs i (tRun rs i)))) ∨
  ((∀ j, j < rs.length → tBad rs j (tRun rs j) = false) ∧ out = ((tRun rs rs.length).es, none))
noncomputable def Like (w : Ws) (m : Ms) : Prop := m ∈ tabL ∧ w.n = m.n ∧ w.nt = m.nt ∧ w.count = m.count ∧ w.trail = m.trail
theorem Like.eq {w : Ws} {a : Ms} (h : Like w a) : ∃ x, w = ⟨x, a.n, a.nt, a.count, a.trail⟩ := by
  cases w
  obtain ⟨_, rfl, rfl, rfl, rfl⟩ := h
  exact ⟨_, rfl⟩
theorem like_less {w v : Ws} {a b : Ms} (h : Like w a) (k : Like v b) : lessB w v = belowB a.cols b.cols ∧ eqB w v = (a.cols == b.cols) := by
  have p := List.all_eq_true.mp (List.all_eq_true.mp pairs_ok a h.1) b k.1
  obtain ⟨x, rfl⟩ := h.eq
  obtain ⟨y, rfl⟩ := k.eq
  unfold pairL at p
  simp only [Bool.and_eq_true] at p
  exact ⟨(eq_of_beq p.1.1 : lessB a.ws b.ws = _), (eq_of_beq p.1.2 : eqB a.ws b.ws = _)⟩
theorem like_wit {w v : Ws} {a b : Ms} (h : Like w a) (k : Like v b) (hne : (a.cols == b.cols) = false) : witSizes w v = sizesN a b := by
  have p := List.all_eq_true.mp (List.all_eq_true.mp pairs_ok a h.1) b k.1
  obtain ⟨x, rfl⟩ := h.eq
  obtain ⟨y, rfl⟩ := k.eq
  unfold pairL at p
  rw [hne] at p
  simp only [Bool.and_eq_true] at p
  exact (eq_of_beq p.2 : witSizes a.ws b.ws = _)
theorem like_run {a b : Ms} (h : a ∈ tabL) (k : b ∈ tabL) (he : a.cols = b.cols) : a.run = b.run := by
  have p := List.all_eq_true.mp (List.all_eq_true.mp pairs_ok a h) b k
  unfold pairL at p
  rw [show (a.cols == b.cols) = true by simpa using he] at p
  simp only [Bool.and_eq_true, if_true] at p
  simpa using p.2.2
theorem tab_at {m : Ms} (h : m ∈ tabL) : (wsOf m.x).n = m.n ∧ (wsOf m.x).nt = m.nt ∧ (wsOf m.x).count = m.count ∧ (wsOf m.x).trail = m.trail ∧ colsOf m.x = m.cols ∧ (∀ k, k < 7 → Txt.contains m.x (Txt.mul " " (k : Nat)) = decide (k ≤ m.run)) ∧ (∀ c ∈ m.x.cps.toList, c = 32 ∨ c = 9) ∧ m.run ≤ 6 := by
  have p := List.all_eq_true.mp tab_ok m h
  unfold msOk at p
  simp only [Bool.and_eq_true, List.all_eq_true, beq_iff_eq, Bool.or_eq_true, decide_eq_true_eq, List.mem_range] at p
  refine and2 p fun z6x0 p9 => ?_
  obtain ⟨⟨⟨⟨⟨⟨⟨p1, p2⟩, p3⟩, p4⟩, p5⟩, p6⟩, p7⟩, p8⟩ := z6x0
  exact ⟨p1, p2, p3, p4, p5, p6, p7, p8⟩
theorem scan_stop {c0 : Nat} {ys : List Nat} (h32 : c0 ≠ 32) (h9 : c0 ≠ 9) : ∀ (xs : List Nat) (r : Sc), (∀ c ∈ xs, c = 32 ∨ c = 9) → scan (xs ++ c0 :: ys) r = scan xs r
  | [], r, _ => by
    show scan (c0 :: ys) r = r
    conv => lhs; rw [scan]
    rw [if_neg h32, if_neg h9]
  | c :: xs, r, h => by
    rw [List.cons_append, scan, scan]
    rcases h c (by simp) with rfl | rfl
    · rw [if_pos rfl, if_pos rfl]; exact scan_stop h32 h9 xs _ fun d hd => h d (by simp [hd])
    · rw [if_neg (by decide), if_pos rfl, if_neg (by decide), if_pos rfl]; exact scan_stop h32 h9 xs _ fun d hd => h d (by simp [hd])
structure RowOk (r : Rw) : Prop where
  lead : ∃ m ∈ tabL, m.x = r.lead
  word : ∃ k, k < 5 ∧ r.name = namesL.getD k "" ∧ r.kind = ((k / 2 : Nat) : Int)
  deed : 0 ≤ r.deed ∧ r.deed ≤ 3
theorem names_ok : ∀ k, k < 5 → ∃ c ys, (namesL.getD k "").cps.toList = c :: ys ∧ c ≠ 32 ∧ c ≠ 9 := by
  intro k h
  match k, h with
  | 0, _ => exact ⟨_, _, rfl, by decide, by decide⟩
  | 1, _ => exact ⟨_, _, rfl, by decide, by decide⟩
  | 2, _ => exact ⟨_, _, rfl, by decide, by decide⟩
  | 3, _ => exact ⟨_, _, rfl, by decide, by decide⟩
  | 4, _ => exact ⟨_, _, rfl, by decide, by decide⟩
theorem here_like {r : Rw} (h : RowOk r) {m : Ms} (hm : m ∈ tabL) (e : m.x = r.lead) : Like (wsOf (r.lead ++ r.name)) m := by
  refine ex1 h.word fun k z7x0r => ?_
  refine and3 z7x0r fun hk hn _ => ?_
  have t := tab_at hm
  have hc := names_ok k hk
  have es : scan (r.lead ++ r.name).cps.toList ⟨[], 0, 0, 0⟩ = scan m.x.cps.toList ⟨[], 0, 0, 0⟩ := by
    have : (r.lead ++ r.name).cps.toList = r.lead.cps.toList ++ r.name.cps.toList := by
      show (r.lead.cps ++ r.name.cps).toList = _
      simp
    refine ex2 hc fun c ys z8x0r => ?_
    refine and3 z8x0r fun q c32 c9 => ?_
    rw [this, hn, ← e, q]
    exact scan_stop c32 c9 _ _ t.2.2.2.2.2.2.1
  refine and5 t fun t1 t2 t3 t4 _ => ?_
  refine ⟨hm, ?_, ?_, ?_, ?_⟩
  · rw [← t1]; show ((scan _ _).n : Int) = (scan _ _).n; rw [es]
  · rw [← t2]; show ((scan _ _).nt : Int) = (scan _ _).nt; rw [es]
  · rw [← t3]; show (scan _ _).count = (scan _ _).count; rw [es]
  · rw [← t4]; show ((scan _ _).b : Int) = (scan _ _).b; rw [es]
end
section
theorem below_iff {x y : List Int} : belowB x y = true ↔ ∀ k, k < 7 → x.getD k 0 < y.getD k 0 := by
  unfold belowB
  rw [List.all_eq_true]
  constructor
  · intro h k hk
    have := h k (List.mem_range.mpr hk)
    simp only [Bool.not_eq_true', decide_eq_false_iff_not] at this
    omega
  · intro h k hk
    have := h k (List.mem_range.mp hk)
    simp only [Bool.not_eq_true', decide_eq_false_iff_not]
    omega
theorem below_trans {x y v : List Int} (h : belowB x y = true) (k : belowB y v = true) : belowB x v = true := by
  rw [below_iff] at *
  intro j hj
  have := h j hj; have := k j hj; omega
theorem below_irrefl (x : List Int) : belowB x x = false := by
  cases e : belowB x x with
  | false => rfl
  | true => have := below_iff.mp e 0 (by decide); omega
theorem below_asymm {x y : List Int} (h : belowB x y = true) : belowB y x = false := by
  cases e : belowB y x with
  | false => rfl
  | true => have := below_irrefl x; rw [below_trans h e] at this; cases this
theorem stand_snoc {rs : List Rw} {laid : List Bool} {k : Int} : ∀ s : List Int, standF rs laid (s ++ [k]) = (standF rs laid s).filter (fun j => !overB rs j k) ++ (if laid.getD k.toNat false then [k] else [])
  | [] => by
    rw [List.nil_append]
    simp [standF]
  | j :: s => by
    rw [List.cons_append, standF, standF, stand_snoc s]
    have ea : (s ++ [k]).any (overB rs j) = (s.any (overB rs j) || overB rs j k) := by simp [List.any_append]
    rw [ea]
    generalize laid.getD j.toNat false = b
    generalize s.any (overB rs j) = c
    cases h3 : overB rs j k <;> cases b <;> cases c <;> simp [List.filter_cons, h3]
theorem stand_laid {rs : List Rw} {laid more : List Bool} : ∀ {s : List Int}, (∀ k ∈ s, k.toNat < laid.length) → standF rs (laid ++ more) s = standF rs laid s
  | [], _ => rfl
  | j :: s, h => by
    rw [standF, standF, stand_laid fun k hk => h k (by simp [hk])]
    have : (laid ++ more).getD j.toNat false = laid.getD j.toNat false := by
      simp only [List.getD_eq_getElem?_getD]
      rw [List.getElem?_append_left (h j (by simp))]
    rw [this]
noncomputable def FR (rs : List Rw) (laid : List Bool) : List Frame → List Int → Prop
  | [], seen => seen = []
  | p :: r, seen => ∃ pre S m, seen = pre ++ S ∧ S ≠ [] ∧ Like p.1 m ∧ (∀ k ∈ S, colK (leadsOf rs) k = m.cols) ∧ p.2 = itemsF rs laid (seen.drop 1) ∧ (∀ k ∈ pre, belowB (colK (leadsOf rs) k) m.cols = true) ∧ FR rs laid r pre
theorem fr_pop {rs : List Rw} {laid : List Bool} {h : Ws} {mh : Ms} (hl : Like h mh) : ∀ {fs : List Frame} {seen : List Int}, FR rs laid fs seen → FR rs laid (popW h fs) (seen.filter fun k => !belowB mh.cols (colK (leadsOf rs) k))
  | [], seen, e => by rw [show seen = [] from e]; rfl
  | p :: r, seen, ⟨pre, S, m, e, hS, lp, hc, ht, hb, hr⟩ => by
    have hless := (like_less hl lp).1
    rw [popW]
    by_cases q : belowB mh.cols m.cols = true
    · rw [hless, if_pos q, e, List.filter_append]
      have : S.filter (fun k => !belowB mh.cols (colK (leadsOf rs) k)) = [] := by
        rw [List.filter_eq_nil_iff]
        intro k hk
        rw [hc k hk, q]; simp
      rw [this, List.append_nil]
      exact fr_pop hl hr
    · have q : belowB mh.cols m.cols = false := by simpa using q
      rw [hless, q, if_neg (by decide)]
      have : seen.filter (fun k => !belowB mh.cols (colK (leadsOf rs) k)) = seen := by
        rw [List.filter_eq_self]
        intro k hk
        rw [e] at hk
        rcases List.mem_append.mp hk with hk | hk
        · cases z : belowB mh.cols (colK (leadsOf rs) k) with
          | false => rfl
          | true => rw [below_trans z (hb k hk)] at q; cases q
        · rw [hc k hk, q]; rfl
      rw [this]
      exact ⟨pre, S, m, e, hS, lp, hc, ht, hb, hr⟩
theorem fr_laid {rs : List Rw} {laid more : List Bool} : ∀ {fs : List Frame} {seen : List Int}, (∀ k ∈ seen, k.toNat < laid.length) → FR rs laid fs seen → FR rs (laid ++ more) fs seen
  | [], _, _, e => e
  | p :: r, seen, hk, ⟨pre, S, m, e, hS, lp, hc, ht, hb, hr⟩ => by
    refine ⟨pre, S, m, e, hS, lp, hc, ?_, hb, fr_laid (fun k h => hk k (by rw [e]; simp [h])) hr⟩
    rw [ht]
    unfold itemsF
    rw [stand_laid fun k h => hk k (List.mem_of_mem_drop h)]
theorem setFold {P : Int → Bool} : ∀ (l : List Int) (n : Nat) (k : Int), ((l.foldl setStep (P, n)).1 k = true ↔ P k = true ∨ k ∈ l) := by
  intro l
  induction l generalizing P with
  | nil => intro n k; simp
  | cons a l ih =>
    intro n k
    rw [List.foldl_cons]
    rw [show setStep (P, n) a = ((fun k' => P k' || decide (k' = a)), if P a then n else n + 1) from rfl]
    rw [ih]
    simp only [Bool.or_eq_true, decide_eq_true_eq, List.mem_cons]
    constructor
    · rintro ((h | h) | h)
      · exact .inl h
      · exact .inr (.inl h)
      · exact .inr (.inr h)
    · rintro (h | h | h)
      · exact .inl (.inl h)
      · exact .inl (.inr h)
      · exact .inr h
theorem setSame {a : Int} : ∀ (S : List Int) (P : Int → Bool) (n : Nat), (∀ v ∈ S, v = a) → P a = true → (S.foldl setStep (P, n)).2 = n
  | [], _, _, _, _ => rfl
  | v :: S, P, n, h, hp => by
    have e := h v (by simp)
    subst e
    rw [List.foldl_cons, show setStep (P, n) v = ((fun k' => P k' || decide (k' = v)), if P v then n else n + 1) from rfl, hp, if_pos rfl]
    exact setSame S _ n (fun u hu => h u (by simp [hu])) (by simp [hp])
theorem fr_height {rs : List Rw} {laid : List Bool} : ∀ {fs : List Frame} {seen : List Int}, FR rs laid fs seen → heightF (leadsOf rs) seen = fs.length
  | [], seen, e => by rw [show seen = [] from e]; rfl
  | p :: r, seen, ⟨pre, S, m, e, hS, lp, hc, ht, hb, hr⟩ => by
    have ih := fr_height hr
    unfold heightF distinctN at ih ⊢
    rw [e, List.map_append, List.foldl_append]
    have hP := setFold (P := fun _ => false) (pre.map fun k => (colK (leadsOf rs) k).getD 0 0) 0
    generalize hF : (pre.map fun k => (colK (leadsOf rs) k).getD 0 0).foldl setStep (fun _ => false, 0) = F at *
    have ha : F.1 (m.cols.getD 0 0) = false := by
      cases z : F.1 (m.cols.getD 0 0) with
      | false => rfl
      | true =>
        rcases (hP _).mp z with h | h
        · cases h
        · obtain ⟨k, hk, e⟩ := List.mem_map.mp h
          have := below_iff.mp (hb k hk) 0 (by decide)
          omega
    cases S with
    | nil => exact absurd rfl hS
    | cons v S =>
      have hv : ∀ u ∈ (v :: S).map (fun k => (colK (leadsOf rs) k).getD 0 0), u = m.cols.getD 0 0 := fun u hu => by
        obtain ⟨k, hk, rfl⟩ := List.mem_map.mp hu
        rw [hc k hk]
      rw [List.map_cons, List.foldl_cons]
      have e1 := hv ((colK (leadsOf rs) v).getD 0 0) (by simp)
      rw [e1, show setStep F (m.cols.getD 0 0) = ((fun k' => F.1 k' || decide (k' = m.cols.getD 0 0)), if F.1 (m.cols.getD 0 0) then F.2 else F.2 + 1) from rfl, ha, if_neg (by decide)]
      rw [setSame _ _ _ (fun u hu => hv u (by simp at hu ⊢; exact .inr hu)) (by simp)]
      rw [ih]; rfl
end
section
theorem kinds_ok : ((List.range 5).all fun a => (List.range 5).all fun b => (low (namesL.getD a "") == low (namesL.getD b "")) == (a / 2 == b / 2)) = true := by decide +kernel
theorem kind_eq {r r' : Rw} (h : RowOk r) (h' : RowOk r') : (low r.name == low r'.name) = (r.kind == r'.kind) := by
  refine ex1 h.word fun a z0x0r => ?_
  refine and3 z0x0r fun ha e1 e2 => ?_
  refine ex1 h'.word fun b z1x0r => ?_
  refine and3 z1x0r fun hb e3 e4 => ?_
  have p := List.all_eq_true.mp (List.all_eq_true.mp kinds_ok a (List.mem_range.mpr ha)) b (List.mem_range.mpr hb)
  rw [e1, e2, e3, e4]
  have p' : (low (namesL.getD a "") == low (namesL.getD b "")) = (a / 2 == b / 2) := by simpa using p
  rw [p', Bool.eq_iff_iff]
  simp only [beq_iff_eq]
  omega
noncomputable def RowsOk (rs : List Rw) : Prop := ∀ r ∈ rs, RowOk r
theorem rowAt_ok {rs : List Rw} (h : RowsOk rs) {i : Nat} (hi : i < rs.length) : RowOk (rowAt rs i) := by
  unfold rowAt
  rw [List.getD_eq_getElem?_getD, List.getElem?_eq_getElem hi]
  exact h _ (List.getElem_mem hi)
theorem getRow {rs : List Rw} (k : Int) : rs.getD (k - 1).toNat rw0 = rowAt rs (k - 1).toNat := rfl
theorem filter_map_congr {α β : Type} {f : α → Bool} {f' : β → Bool} {g : α → β} : ∀ {l : List α}, (∀ k ∈ l, f k = f' (g k)) → (l.filter f).map g = (l.map g).filter f'
  | [], _ => rfl
  | a :: l, h => by
    have ih := filter_map_congr (f := f) (f' := f') (g := g) (l := l) fun k hk => h k (by simp [hk])
    rw [List.map_cons, List.filter_cons, List.filter_cons, h a (by simp)]
    split
    · rw [List.map_cons, ih]
    · exact ih
theorem find_map_congr {α β : Type} {f : α → Bool} {f' : β → Bool} {g : α → β} : ∀ {l : List α}, (∀ k ∈ l, f k = f' (g k)) → (l.map g).find? f' = (l.filter f).head?.map g
  | [], _ => rfl
  | a :: l, h => by
    have ih := find_map_congr (f := f) (f' := f') (g := g) (l := l) fun k hk => h k (by simp [hk])
    rw [List.map_cons, List.find?_cons, List.filter_cons, h a (by simp)]
    cases f' (g a) with
    | true => simp
    | false => simpa using ih
theorem filt_true {α : Type} (l : List α) : l.filter (fun _ => true) = l := List.filter_eq_self.mpr fun _ _ => rfl
theorem deed_step {rs : List Rw} (ok : RowsOk rs) {i : Nat} (hi : i < rs.length) {laid : List Bool} {sight : List Int} (hs : ∀ k ∈ sight, 1 ≤ k ∧ k ≤ i) (hl : laid.length = i + 1) :
    itemsF rs (laid ++ [decide ((rowAt rs i).deed < 2) || (decide ((rowAt rs i).deed = 2) && (alikeF rs laid sight (rowAt rs i).kind).isEmpty)]) (sight ++ [(i : Int) + 1]) = deedTb (rowAt rs i) (itemsF rs laid sight) ∧
    (if (rowAt rs i).deed = 2 then (match alikeF rs laid sight (rowAt rs i).kind with | [] => (rowAt rs i).value | k :: _ => (rs.getD (k - 1).toNat rw0).value) else ("" : Str)) = deedAns (rowAt rs i) (itemsF rs laid sight) := by
  have hrow := rowAt_ok ok hi
  have hst : ∀ k ∈ standF rs laid sight, 1 ≤ k ∧ k ≤ i := fun k hk => hs k (standF_mem hk)
  have hkr : ∀ k ∈ standF rs laid sight, RowOk (rs.getD (k - 1).toNat rw0) := fun k hk => by
    have := hst k hk
    rw [getRow]; exact rowAt_ok ok (by omega)
  have hrw : rs.getD ((i : Int) + 1 - 1).toNat rw0 = rowAt rs i := by
    rw [show ((i : Int) + 1 - 1).toNat = i by omega]; rfl
  have hpair : pairOf rs ((i : Int) + 1) = ((rowAt rs i).name, (rowAt rs i).value) := by unfold pairOf; rw [hrw]
  have hlow : ∀ k ∈ standF rs laid sight, (low (pairOf rs k).1 == low (rowAt rs i).name) = ((rs.getD (k - 1).toNat rw0).kind == (rowAt rs i).kind) := fun k hk => kind_eq (hkr k hk) hrow
  have hfind : ((standF rs laid sight).map (pairOf rs)).find? (fun p => low p.1 == low (rowAt rs i).name) = (alikeF rs laid sight (rowAt rs i).kind).head?.map (pairOf rs) :=
    find_map_congr fun k hk => (hlow k hk).symm
  have hfilt : ((standF rs laid sight).filter fun j => !((rs.getD (j - 1).toNat rw0).kind == (rowAt rs i).kind)).map (pairOf rs) = ((standF rs laid sight).map (pairOf rs)).filter fun p => low p.1 != low (rowAt rs i).name :=
    filter_map_congr fun k hk => by rw [← hlow k hk]; rfl
  have hover : ∀ j, overB rs j ((i : Int) + 1) = (((rowAt rs i).deed == 1 || (rowAt rs i).deed == 3) && (rowAt rs i).kind == (rs.getD (j - 1).toNat rw0).kind) := fun j => by unfold overB; rw [hrw]
  obtain ⟨kf, hkf⟩ : ∃ kf : Int → Int, ∀ j, (rs.getD (j - 1).toNat rw0).kind = kf j := ⟨_, fun _ => rfl⟩
  simp only [hkf] at hover hfilt hlow
  constructor
  · unfold itemsF
    rw [stand_snoc, stand_laid (fun k hk => by have := hs k hk; omega)]
    have hget : ∀ b, (laid ++ [b]).getD ((i : Int) + 1).toNat false = b := fun b => by
      rw [List.getD_eq_getElem?_getD, show ((i : Int) + 1).toNat = laid.length by omega]; simp
    rw [hget, List.map_append]
    simp only [hover]
    unfold deedTb
    have hsym : ∀ j : Int, ((rowAt rs i).kind == kf j) = (kf j == (rowAt rs i).kind) := fun j => Bool.beq_comm ..
    have hd := hrow.deed
    have h4 : (rowAt rs i).deed = 0 ∨ (rowAt rs i).deed = 1 ∨ (rowAt rs i).deed = 2 ∨ (rowAt rs i).deed = 3 := four hd
    rcases h4 with e | e | e | e
    · rw [e]
      simp [hpair]
      rw [filt_true]
    · rw [e]
      simp only [hsym]
      simp [hpair]
      exact hfilt
    · rw [e]
      unfold defTb
      simp only [hsym]
      rw [hfind]
      cases ha : alikeF rs laid sight (rowAt rs i).kind with
      | nil => simp [hpair]; rw [filt_true]
      | cons k r => simp; rw [filt_true]
    · rw [e]
      simp only [hsym]
      simp
      exact hfilt
  · unfold deedAns ansOf itemsF
    by_cases e : (rowAt rs i).deed = 2
    · rw [if_pos e, if_pos e, hfind]
      cases ha : alikeF rs laid sight (rowAt rs i).kind with
      | nil => rfl
      | cons k r => rfl
    · rw [if_neg e, if_neg e]
end
section
theorem filter_le (M : Nat) (hM : M ≤ 6) : (List.range 7).filter (fun k => decide (k ≤ M)) = List.range (M + 1) := by
  match M, hM with
  | 0, _ => decide
  | 1, _ => decide
  | 2, _ => decide
  | 3, _ => decide
  | 4, _ => decide
  | 5, _ => decide
  | 6, _ => decide
theorem words_eq {a b : Ms} (ha : a ∈ tabL) (hb : b ∈ tabL) : wordsF a.x b.x = fmtW (sizesN a b) := by
  have ta := tab_at ha
  have tb := tab_at hb
  have hin : (List.range 7).filter (inB a.x b.x) = List.range (max a.run b.run + 1) := by
    rw [← filter_le (max a.run b.run) (by have := ta.2.2.2.2.2.2.2; have := tb.2.2.2.2.2.2.2; omega)]
    refine List.filter_congr fun k hk => ?_
    have hk7 := List.mem_range.mp hk
    unfold inB
    rw [ta.2.2.2.2.2.1 k hk7, tb.2.2.2.2.2.1 k hk7, ← Bool.decide_or, decide_eq_decide]
    exact lmax
  have hlong : longW a.x b.x = ((max a.run b.run : Nat) : Int) := by
    unfold longW
    rw [hin]
    refine (maxL_of ?_ ?_).symm
    · exact List.mem_map.mpr ⟨max a.run b.run, List.mem_range.mpr (by omega), rfl⟩
    · intro x hx
      refine ex1 (List.mem_map.mp hx) fun k z0x0r => ?_
      refine and2 z0x0r fun hk z0x2 => ?_
      subst z0x2
      have := List.mem_range.mp hk; omega
  have hs : sizesB a.x b.x = (sizesN a b).map txt := by
    unfold sizesB sizesN
    rw [hlong, ta.2.2.2.2.1, tb.2.2.2.2.1, List.map_map, show (((max a.run b.run : Nat) : Int) + 1).toNat = max a.run b.run + 1 from rfl]
    rfl
  unfold wordsF fmtW
  rw [hs, List.length_map]
  by_cases q : 1 < (sizesN a b).length
  · rw [if_pos q, if_pos q]
    congr 1
  · rw [if_neg q, if_neg q]
    congr 1
theorem lead_ms {rs : List Rw} (ok : RowsOk rs) {k : Int} (h0 : 0 ≤ k) (hk : k ≤ rs.length) : ∃ m ∈ tabL, m.x = (leadsOf rs).getD k.toNat "" ∧ m.cols = colK (leadsOf rs) k := by
  have : ∃ m ∈ tabL, m.x = (leadsOf rs).getD k.toNat "" := by
    cases q : k.toNat with
    | zero => exact ⟨_, List.Mem.head _, rfl⟩
    | succ n =>
      have hn : n < rs.length := by omega
      refine ex1 ((ok _ (List.getElem_mem hn)).lead) fun m z1x0r => ?_
      refine and2 z1x0r fun hm e => ?_
      refine ⟨m, hm, ?_⟩
      rw [e]
      unfold leadsOf
      simp [List.getD_eq_getElem?_getD, hn]
  refine ex1 this fun m z2x0r => ?_
  refine and2 z2x0r fun hm e => ?_
  refine ⟨m, hm, e, ?_⟩
  unfold colK
  rw [← e, (tab_at hm).2.2.2.2.1]
theorem last_mem {pre S : List Int} (h : S ≠ []) : lastI (pre ++ S) ∈ S := by
  unfold lastI
  rw [List.getLastD_eq_getLast?, List.getLast?_append]
  cases e : S.getLast? with
  | none => exact absurd (List.getLast?_eq_none_iff.mp e) h
  | some x => exact List.mem_of_getLast? e
structure Sim (rs : List Rw) (i : Nat) (d : Dst) (t : Tst) : Prop where
  fr : FR rs d.laid t.pile d.seen
  es : t.es = d.es
  last : lastI d.seen = (i : Int)
  seen : ∃ rest, d.seen = 0 :: rest ∧ ∀ k ∈ rest, 1 ≤ k ∧ k ≤ i
  laid : d.laid.length = i + 1
theorem sim_step {rs : List Rw} (ok : RowsOk rs) {i : Nat} (hi : i < rs.length) {d : Dst} {t : Tst} (s : Sim rs i d t) :
    dueBad rs i d = tBad rs i t ∧ (dueBad rs i d = true → dueErr rs i d = tErr rs i t) ∧ (dueBad rs i d = false → Sim rs (i + 1) (dueStep rs i d) (tStep rs i t)) := by
  have hrow := rowAt_ok ok hi
  refine ex1 hrow.lead fun mh z3x0r => ?_
  refine and2 z3x0r fun hmh emh => ?_
  have lh : Like (hereOf rs i) mh := here_like hrow hmh emh
  have ch : colK (leadsOf rs) ((i : Int) + 1) = mh.cols := by
    rw [← (tab_at hmh).2.2.2.2.1, emh]
    unfold colK leadsOf rowAt
    congr 1
    rw [tn3]
    simp [List.getD_eq_getElem?_getD, hi]
  have hkn : ∀ k ∈ d.seen, 0 ≤ k ∧ k ≤ i := fun k hk => by
    refine ex1 s.seen fun rest z4x0r => ?_
    refine and2 z4x0r fun e hr => ?_
    rw [e] at hk
    rcases List.mem_cons.mp hk with rfl | hk
    · omega
    · have := hr k hk; omega
  have hseen1 := dueSeen_ok (rs := rs) (i := i) (d := d) hi s.seen
  have eds : dueSeen rs i d = d.seen.filter fun k => !belowB mh.cols (colK (leadsOf rs) k) := by unfold dueSeen filtS; rw [ch]
  have hsub : ∀ k ∈ dueSeen rs i d, k ∈ d.seen := fun k hk => by rw [eds] at hk; exact (List.mem_filter.mp hk).1
  have hlt : ∀ k ∈ dueSeen rs i d, k.toNat < d.laid.length := fun k hk => by
    rw [s.laid]; have := hkn k (by rw [eds] at hk; exact (List.mem_filter.mp hk).1); omega
  -- the common end
  have next : ∀ (p : Frame) (r : List Frame) (pre S : List Int) (m : Ms), tPile rs i t = p :: r → dueSeen rs i d ++ [(i : Int) + 1] = pre ++ S → S ≠ [] → Like p.1 m → (∀ k ∈ S, colK (leadsOf rs) k = m.cols) → p.2 = itemsF rs d.laid ((dueSeen rs i d).drop 1) →
      (∀ k ∈ pre, belowB (colK (leadsOf rs) k) m.cols = true) → FR rs d.laid r pre → (∀ k ∈ pre, k.toNat < d.laid.length) → Sim rs (i + 1) (dueStep rs i d) (tStep rs i t) := by
    intro p r pre S m hp hS hne lp hc ht hb hr hpl
    refine ex1 hseen1 fun rest z5x0r => ?_
    refine and2 z5x0r fun er hrr => ?_
    have hsight : ∀ k ∈ (dueSeen rs i d).drop 1, 1 ≤ k ∧ k ≤ i := fun k hk => by rw [er] at hk; exact hrr k hk
    refine and2 (deed_step ok hi hsight s.laid) fun D1 D2 => ?_
    have hdrop : ((dueStep rs i d).seen).drop 1 = (dueSeen rs i d).drop 1 ++ [(i : Int) + 1] := by
      show (dueSeen rs i d ++ [(i : Int) + 1]).drop 1 = _
      rw [er]; rfl
    have etb : deedTb (rowAt rs i) p.2 = itemsF rs (dueLaid rs i d) (((dueStep rs i d).seen).drop 1) := by
      rw [ht, hdrop, ← D1]; rfl
    have FRn : FR rs (dueStep rs i d).laid (tStep rs i t).pile (dueStep rs i d).seen := by
      have : (tStep rs i t).pile = (p.1, deedTb (rowAt rs i) p.2) :: r := by
        unfold tStep; rw [hp]; rfl
      rw [this]
      exact ⟨pre, S, m, hS, hne, lp, hc, etb, hb, fr_laid hpl hr⟩
    refine ⟨FRn, ?_, ?_, ?_, ?_⟩
    · show t.es ++ [_] = d.es ++ [_]
      rw [s.es]
      congr 2
      have hh := fr_height FRn
      have hl : ((tStep rs i t).pile).length = (tPile rs i t).length := by unfold tStep; rw [hp]; rfl
      have hle : (tPile rs i t).length = heightF (leadsOf rs) (dueSeen rs i d ++ [(i : Int) + 1]) := by rw [← hl, ← hh]; rfl
      have htop : topF (tPile rs i t) = p := by rw [hp]; rfl
      rw [htop, hle]
      congr 1
      · rw [ht]; exact D2.symm
    · show lastI (dueSeen rs i d ++ [(i : Int) + 1]) = _
      have := last_mem (pre := dueSeen rs i d) (S := [(i : Int) + 1]) (by simp)
      rw [List.mem_singleton.mp this]; omega
    · refine ⟨rest ++ [(i : Int) + 1], ?_, fun k hk => ?_⟩
      · show dueSeen rs i d ++ [(i : Int) + 1] = _
        rw [er]; rfl
      · rcases List.mem_append.mp hk with hk | hk
        · have := hrr k hk; omega
        · rw [List.mem_singleton.mp hk]; omega
    · show (dueLaid rs i d).length = _
      unfold dueLaid; rw [List.length_append, s.laid]; rfl
  cases hpile : t.pile with
  | nil =>
    have := s.fr
    rw [hpile] at this
    refine ex1 s.seen fun rest z7x0r => ?_
    refine and2 z7x0r fun e _ => ?_
    rw [show d.seen = [] from this] at e; cases e
  | cons p r =>
    have FRt := s.fr
    rw [hpile] at FRt
    refine ex3 FRt fun pre S m z8x0r => ?_
    refine and7 z8x0r fun e hS lp hc ht hb hr => ?_
    have hlast : colK (leadsOf rs) (i : Int) = m.cols := by
      rw [← s.last, e]; exact hc _ (last_mem hS)
    have hless := (like_less lp lh).1
    by_cases q : belowB m.cols mh.cols = true
    · have ePush : tPush (hereOf rs i) t.pile = (hereOf rs i, p.2) :: p :: r := by rw [hpile]; show (if lessB p.1 (hereOf rs i) = true then _ else _) = _; rw [hless, if_pos q]
      have ePile : tPile rs i t = (hereOf rs i, p.2) :: p :: r := by
        unfold tPile; rw [ePush, popW, (like_less lh lh).1, below_irrefl, if_neg (by decide)]
      have eSeen : dueSeen rs i d = d.seen := by
        rw [eds, List.filter_eq_self]
        intro k hk
        have hkm : belowB (colK (leadsOf rs) k) mh.cols = true := by
          rw [e] at hk
          rcases List.mem_append.mp hk with hk | hk
          · exact below_trans (hb k hk) q
          · rw [hc k hk]; exact q
        rw [below_asymm hkm]; rfl
      have hbad : dueBad rs i d = false := by unfold dueBad; rw [hlast, ch, q]; simp
      have tbad : tBad rs i t = false := by
        unfold tBad topF; rw [ePile]
        show (!eqB (hereOf rs i) (hereOf rs i)) = false
        rw [(like_less lh lh).2]; simp
      refine ⟨by rw [hbad, tbad], (fun h => by rw [hbad] at h; cases h), fun _ => ?_⟩
      refine next (hereOf rs i, p.2) (p :: r) d.seen [(i : Int) + 1] mh ePile (by rw [eSeen]) (by simp) lh (fun k hk => by rw [List.mem_singleton.mp hk]; exact ch) (by rw [eSeen]; exact ht) ?_ ⟨pre, S, m, e, hS, lp, hc, ht, hb, hr⟩ (fun k hk => hlt k (by rw [eSeen]; exact hk))
      intro k hk
      rw [e] at hk
      rcases List.mem_append.mp hk with hk | hk
      · exact below_trans (hb k hk) q
      · rw [hc k hk]; exact q
    · have q : belowB m.cols mh.cols = false := by simpa using q
      have ePush : tPush (hereOf rs i) t.pile = t.pile := by rw [hpile]; show (if lessB p.1 (hereOf rs i) = true then _ else _) = _; rw [hless, q, if_neg (by decide)]
      have FR1 : FR rs d.laid (tPile rs i t) (dueSeen rs i d) := by
        unfold tPile; rw [ePush, eds]; exact fr_pop lh s.fr
      cases hp1 : tPile rs i t with
      | nil =>
        rw [hp1] at FR1
        refine ex1 hseen1 fun rest z9x0r => ?_
        refine and2 z9x0r fun e _ => ?_
        rw [show dueSeen rs i d = [] from FR1] at e; cases e
      | cons p1 r1 =>
        rw [hp1] at FR1
        refine ex3 FR1 fun pre1 S1 m1 z10x0r => ?_
        refine and7 z10x0r fun e1 hS1 lp1 hc1 ht1 hb1 hr1 => ?_
        have hl1 : colK (leadsOf rs) (lastI (dueSeen rs i d)) = m1.cols := by rw [e1]; exact hc1 _ (last_mem hS1)
        have hbad : dueBad rs i d = (m1.cols != mh.cols) := by unfold dueBad; rw [hl1, ch, hlast, q]; simp
        have tbad : tBad rs i t = (m1.cols != mh.cols) := by
          unfold tBad topF; rw [hp1]
          show (!eqB p1.1 (hereOf rs i)) = _
          rw [(like_less lp1 lh).2]; rfl
        refine ⟨by rw [hbad, tbad], fun h => ?_, fun h => ?_⟩
        · have hne : (m1.cols == mh.cols) = false := by rw [hbad] at h; simpa using h
          have hlm : lastI (dueSeen rs i d) ∈ dueSeen rs i d := by rw [e1]; exact List.mem_append_right _ (last_mem hS1)
          have hb0 := hkn _ (hsub _ hlm)
          refine ex1 (lead_ms ok hb0.1 (by omega)) fun m2 z11x0r => ?_
          refine and3 z11x0r fun hm2 ex2 ec2 => ?_
          have ec : m2.cols = m1.cols := by rw [ec2, hl1]
          have hw : wordsF ((leadsOf rs).getD (lastI (dueSeen rs i d)).toNat "") (rowAt rs i).lead = fmtW (witSizes (topF (tPile rs i t)).1 (hereOf rs i)) := by
            rw [← ex2, ← emh, words_eq hm2 hmh, hp1]
            show _ = fmtW (witSizes p1.1 (hereOf rs i))
            rw [like_wit lp1 lh hne]
            unfold sizesN
            rw [ec, like_run hm2 lp1.1 ec]
          unfold dueErr tErr
          rw [hw]
        · have heq : m1.cols = mh.cols := by rw [hbad] at h; simpa using h
          refine next p1 r1 pre1 (S1 ++ [(i : Int) + 1]) m1 hp1 (by rw [e1, List.append_assoc]) (by simp) lp1 ?_ ht1 hb1 hr1 (fun k hk => hlt k (by rw [e1]; simp [hk]))
          intro k hk
          rcases List.mem_append.mp hk with hk | hk
          · exact hc1 k hk
          · rw [List.mem_singleton.mp hk, ch, heq]
theorem sim0 (rs : List Rw) : Sim rs 0 (dueRun rs 0) (tRun rs 0) := by
  refine ⟨⟨[], [0], _, rfl, by simp, ⟨List.Mem.head _, rfl, rfl, rfl, rfl⟩, ?_, rfl, by simp, rfl⟩, rfl, rfl, ⟨[], rfl, by simp⟩, rfl⟩
  intro k hk
  rw [List.mem_singleton.mp hk]
  show colsOf "" = _
  decide +kernel
theorem sim_run {rs : List Rw} (ok : RowsOk rs) : ∀ i, i ≤ rs.length → (∀ j, j < i → dueBad rs j (dueRun rs j) = false) → Sim rs i (dueRun rs i) (tRun rs i) ∧ ∀ j, j < i → tBad rs j (tRun rs j) = false
  | 0, _, _ => ⟨sim0 rs, fun j h => absurd h (Nat.not_lt_zero _)⟩
  | i + 1, hi, h => by
    refine and2 (sim_run ok i (by omega) fun j hj => h j (by omega)) fun s ht => ?_
    refine and3 (sim_step ok (by omega) s) fun h1 _ h3 => ?_
    have hb := h i (by omega)
    refine ⟨h3 hb, fun j hj => ?_⟩
    by_cases q : j < i
    · exact ht j q
    · have : j = i := by omega
      subst this; rw [← h1]; exact hb
theorem told_due {rs : List Rw} (ok : RowsOk rs) {o1 o2 : List Ent × Option Err} (h1 : DueOut rs o1) (h2 : ToldOut rs o2) : o1 = o2 := by
  rcases h1 with ⟨i, hi, hpre, hbad, rfl⟩ | ⟨hall, rfl⟩
  · refine and2 (sim_run ok i (by omega) hpre) fun s ht => ?_
    refine and3 (sim_step ok hi s) fun e1 e2 _ => ?_
    rcases h2 with ⟨j, hj, tpre, tbad, rfl⟩ | ⟨tall, rfl⟩
    · have : i = j := by
        rcases Nat.lt_trichotomy i j with h | h | h
        · have := tpre i h; rw [← e1, hbad] at this; cases this
        · exact h
        · have := ht j h; rw [tbad] at this; cases this
      subst this
      rw [s.es, e2 hbad]
    · have := tall i hi; rw [← e1, hbad] at this; cases this
  · refine and2 (sim_run ok rs.length (Nat.le_refl _) hall) fun s ht => ?_
    rcases h2 with ⟨j, hj, tpre, tbad, rfl⟩ | ⟨tall, rfl⟩
    · have := ht j hj; rw [tbad] at this; cases this
    · rw [s.es]
end
section
theorem lsl_of {x : Str} (h : LSL.contains x = true) : ∃ m ∈ tabL, m.x = x := by
  have : x ∈ LSL := by simpa using h
  obtain ⟨m, hm, e⟩ := List.mem_map.mp this
  exact ⟨m, hm, e⟩
theorem leadStep_ok {js : List Nat} {move which : Int} (h : JsOk js) (hw : 0 ≤ which ∧ which ≤ 3) : ∃ m ∈ tabL, m.x = leadStep js move which := by
  have p := List.all_eq_true.mp lsl_mem js (mem_allJs h)
  simp only [Bool.and_eq_true] at p
  unfold leadStep
  split
  · refine lsl_of (List.all_eq_true.mp lsl_crooked _ ?_)
    have : which.toNat < 4 := tlt hw.2
    rw [List.getD_eq_getElem?_getD, List.getElem?_eq_getElem (show which.toNat < crookedL.length from this)]
    exact List.getElem_mem _
  · split
    · exact lsl_of p.2
    · exact lsl_of p.1
theorem rowsGo_ok : ∀ (ns : List Int) (place : Nat) (js : List Nat), JsOk js → ∀ r ∈ rowsGo ns place js, RowOk r ∧ ∃ p, p < place + ns.length ∧ r.value = txt p
  | [], _, _, _, r, hr => by unfold rowsGo at hr; cases hr
  | n :: ns, place, js, hjs, r, hr => by
    unfold rowsGo at hr
    have f400 : n.fmod 400 = n % 400 := Int.fmod_eq_emod_of_nonneg _ (by decide)
    have hrest : 0 ≤ n.fmod 400 ∧ n.fmod 400 < 400 := fm400 n
    have hrow : rowStep js place n = (jsStep js ((n.fmod 400).fmod 5) (((n.fmod 400).fdiv 5).fmod 4), ⟨leadStep (jsStep js ((n.fmod 400).fmod 5) (((n.fmod 400).fdiv 5).fmod 4)) ((n.fmod 400).fmod 5) (((n.fmod 400).fdiv 5).fmod 4), ((n.fmod 400).fdiv 20).fmod 4, namesL.getD ((n.fmod 400).fdiv 80).toNat "", ((n.fmod 400).fdiv 80).fdiv 2, txt place⟩) := rfl
    rw [hrow] at hr
    generalize n.fmod 400 = rest at *
    have hmv : 0 ≤ rest.fmod 5 ∧ rest.fmod 5 ≤ 4 := fm5 _
    have hwh : 0 ≤ (rest.fdiv 5).fmod 4 ∧ (rest.fdiv 5).fmod 4 ≤ 3 := fm4 _
    have hdd : 0 ≤ (rest.fdiv 20).fmod 4 ∧ (rest.fdiv 20).fmod 4 ≤ 3 := fm4 _
    have hwd : 0 ≤ rest.fdiv 80 ∧ rest.fdiv 80 ≤ 4 := fd80 hrest
    generalize rest.fmod 5 = move at *
    generalize (rest.fdiv 5).fmod 4 = which at *
    generalize (rest.fdiv 20).fmod 4 = deed at *
    generalize rest.fdiv 80 = word at *
    have hjs2 := jsStep_ok hjs hmv hwh
    rcases List.mem_cons.mp hr with rfl | hr
    · refine ⟨⟨leadStep_ok hjs2 hwh, ⟨word.toNat, tlt hwd.2, rfl, ?_⟩, hdd⟩, place, by simp, rfl⟩
      show word.fdiv 2 = _
      rw [Int.fdiv_eq_ediv_of_nonneg _ (by decide)]
      exact half_nat hwd.1
    · obtain ⟨h1, p, hp, e⟩ := rowsGo_ok ns (place + 1) _ hjs2 r hr
      exact ⟨h1, p, by simp only [List.length_cons]; omega, e⟩
theorem rowsGo_len : ∀ (ns : List Int) (place : Nat) (js : List Nat), (rowsGo ns place js).length = ns.length
  | [], _, _ => rfl
  | n :: ns, place, js => by unfold rowsGo; simp [rowsGo_len ns]
theorem nums_len (ns : List Int) : (numsOf ns).length ≤ 11 := by unfold numsOf; rw [List.length_append, List.length_take]; simp; omega
theorem rowsF_len (ns : List Int) : (rowsF ns).length ≤ 11 := by unfold rowsF; rw [rowsGo_len]; exact nums_len ns
theorem js0 : JsOk [] := ⟨Nat.zero_le _, fun j h => absurd h (by simp)⟩
theorem rowsF_ok (ns : List Int) : RowsOk (rowsF ns) := fun r hr => (rowsGo_ok _ _ _ js0 r hr).1
theorem rowsF_value (ns : List Int) {r : Rw} (hr : r ∈ rowsF ns) : ∃ p, p < 11 ∧ r.value = txt p := by
  obtain ⟨p, hp, e⟩ := (rowsGo_ok _ _ _ js0 r hr).2
  have := nums_len ns
  exact ⟨p, by omega, e⟩
theorem names_short : ∀ k, k < 5 → (namesL.getD k "").length ≤ 50 := by decide +kernel
theorem texts_ok {rs : List Rw} (h : RowsOk rs) : TextsOk rs := by
  have lead : ∀ {x : Str}, (∃ m ∈ tabL, m.x = x) → x.length ≤ 50 ∧ Txt.contains x (Txt.mul " " 0) = true := by
    rintro x ⟨m, hm, rfl⟩
    have t := tab_at hm
    have p := List.all_eq_true.mp tab_ok m hm
    unfold msOk at p
    simp only [Bool.and_eq_true, decide_eq_true_eq] at p
    refine ⟨p.2, ?_⟩
    have := t.2.2.2.2.2.1 0 (by decide)
    rw [show decide (0 ≤ m.run) = true by simp] at this
    exact this
  refine ⟨fun r hr => ?_, fun x hx => ?_⟩
  · obtain ⟨k, hk, e, _⟩ := (h r hr).word
    exact ⟨(lead (h r hr).lead).1, by rw [e]; exact names_short k hk⟩
  · rcases List.mem_cons.mp hx with rfl | hx
    · exact (lead ⟨_, List.Mem.head _, rfl⟩).2
    · obtain ⟨r, hr, rfl⟩ := List.mem_map.mp hx
      exact (lead (h r hr).lead).2
end
section
open PySem.Builtin PySem.Builtin.ObjectAttr
theorem refuse_exc (self : Value) (c : Addr) : refuseLoop self "__setattr__" [.ref c, .type "Exception", .type "BaseException", .type "object"] = pure () := by
  rw [refuseLoop_ref]
  kernel_rfl
noncomputable def excOver (K : Frag) (C : Addr) : Prop := ∃ cd c, clsIn K C = some cd ∧ cd.mro = [.ref c, .type "Exception", .type "BaseException", .type "object"]
section
variable {prog : Program} {w : World} {A : Around} {E : Value → Shared → Prop} {s : Shared} {K : Frag} {x C : Addr} {R : Result → Shared → Prop}
theorem osa_exc {ox : Obj} {od : Option Obj} {name : Str} {tk : Tok} {v : Value} {r : Option Value} (X : K.In s.heap) (I : InstAt s.heap x ox C od) (hp : excOver K C) (ht : takerIn K C name = some r)
    (h : ∀ b, wpAny (model prog w) A.in1 (match r with | some a => setByDescriptor a (.ref x) v | none => storeInOwnDict (.ref x) (.ref C) (.str name tk) name v b)
      (fun fin s' => match fin with | PySem.Fin.done f => R (.ok f) s' | PySem.Fin.again c' => c'.quiet = true ∧ codeAny (model prog w) A c' R s') (fun e s' => R (.error e) s') s) :
    codeAny (model prog w) A (.call (.builtin "object.__setattr__") ⟨[.ref x, .str name tk, v], []⟩) R s := by
  have SF := PySem.F.store_object
  refine ex2 (id hp) fun cd c z0x0r => ?_
  refine and2 z0x0r fun hc em => ?_
  have ne : cd.mro.isEmpty = false := by rw [em]; rfl
  have sub : Looks (model prog w) s.heap (isInstance (.ref x) (.type "object")) true := I.type.andThen (looks_mroIn X (by unfold mroIn; rw [hc, Option.bind_some, if_neg (by rw [ne]; decide), em]; rfl))
  refine codeAny_call_builtin SF.slot.plain SF.entry (@check_slot (model prog w) _ _ s "object.__setattr__" "object" "__setattr__" (.ref x) [.str name tk, v] [] _ SF.kind SF.split sub (SF.args (.ref x) (.str name tk) v) ?_)
  refine ex1 (Option.bind_eq_some_iff.mp ht) fun attr z1x0r => ?_
  refine and2 z1x0r fun ha hr => ?_
  have hm : Looks (model prog w) s.heap (mroOf (.ref C)) cd.mro := (looks_clsIn X hc).andThen .now
  have L3 : Looks (model prog w) s.heap (storeTaker? attr) r := by
    cases attr with
    | none => cases hr; exact .now
    | some a =>
      refine ex1 (Option.map_eq_some_iff.mp hr) fun b z2x0r => ?_
      refine and2 z2x0r fun hb z2x2 => ?_
      subst z2x2
      refine (looks_takesIn X hb).andThen ?_
      cases b <;> exact .now
  rw [osa_eq, refuse_eq]
  refine wpAny_bind (wpAny_bind (I.type.here (wpAny_bind (hm.here ?_))))
  rw [em, refuse_exc]
  refine wpAny_pure (wpAny_bind (I.type.here (wpAny_bind ((looks_findIn X ha).here (wpAny_bind (L3.here ?_))))))
  exact h _
variable {z : Shared} {G : Addr → Option (Obj × Bool)} {env : Env} {ε : Vars} {σ : Sto} {mg mb : Str → Option Value}
noncomputable def excO (C t : Addr) (d : Option Addr) : Obj := { cls := .ref C, dict := d, data := .fields #[.ref t, .none, .none, .none, .bool false, .none], slots := #[] }
theorem r_excSet0 {a C t : Addr} {name : Str} {v : Value} {Q : Unit → Shared → Prop} (W : Wd K mg mb z.heap) (S : St z G env ε σ s) (hi : σ a = some (.raw (· = excO C t none))) (hG : G a = none)
    (hs : findIn K (.ref C) "__setattr__" = some (some (.builtin "object.__setattr__"))) (hp : excOver K C) (ht : takerIn K C name = some none) (hc : hasDictIn K C = true)
    (h : ∀ d s', σ d = none → G d = none → St z G env ε (upd (upd σ a (.raw (· = excO C t (some d)))) d (.ns 1 (put [] name (absv v)))) s' → Q () s') : wpAny (model prog w) A (setAttr (.ref a) name v) Q E s := by
  refine ex1 (S.obj _ _ hi) fun ox z3x0r => ?_
  refine and2 z3x0r fun hx z3x2 => ?_
  subst z3x2
  have X := W.X.keeps S.base
  have I : InstAt s.heap a (excO C t none) C none := ⟨hx, rfl, rfl, trivial⟩
  refine set_plain X I hs ?_
  unfold hasDictIn at hc
  refine ex1 (any_some hc) fun cd z4x0r => ?_
  refine and2 z4x0r fun hcd hd' => ?_
  obtain ⟨hh, g, dr, tk, os⟩ := s
  refine osa_exc (s := ⟨hh, g, dr, tk + 1, os⟩) X I hp ht fun b => ?_
  refine wpAny_bind (wpAny_pure (wpAny_bind (wpAny_bind (wpAny_loadPart hx (wpAny_bind ((looks_clsIn X hcd).at ?_))))))
  rw [hd']
  show wpAny _ _ (alloc { cls := .type "dict", data := .dict #[] } >>= fun d => update a (fun o => { o with dict := some d }) >>= fun _ => dictMade (.ref C) a d) _ _ _
  refine wpAny_bind (wpAny_alloc ?_)
  have hx1 := Heap.get?_push_of_some (h := hh) { cls := .type "dict", data := .dict #[] } hx
  refine wpAny_bind (wpAny_update hx1 (wpAny_pure ?_))
  refine wpAny_bind (wpAny_pure (wpAny_bind ?_))
  have had : a ≠ hh.objs.size := fun e => by have := Heap.lt_size hx; rw [e] at this; exact Nat.lt_irrefl _ this
  have hd0 : ((hh.push { cls := .type "dict", data := .dict #[] }).update a fun o => { o with dict := some hh.objs.size }).get? hh.objs.size = some { cls := .type "dict", data := .dict #[] } := by
    rw [Heap.get?_update_other _ _ had]; exact Heap.get?_push_size _ rfl
  have ha0 : ((hh.push { cls := .type "dict", data := .dict #[] }).update a fun o => { o with dict := some hh.objs.size }).get? a = some (excO C t (some hh.objs.size)) := by
    rw [Heap.get?_update_self _ hx1 rfl]; rfl
  refine r_nsSet (a := hh.objs.size) (n := 0) (m := fun _ => none) ?_ ?_
  · exact ⟨⟨_, _, _, hd0, rfl, (fun _ hk => by simp at hk), fun _ => rfl⟩, _, _, _, hd0, rfl, Nat.le_refl _⟩
  intro h' hn' hs'
  have d0 : σ hh.objs.size = none := S.fresh (Nat.le_refl _)
  have dG : G hh.objs.size = none := S.freshG (Nat.le_refl _)
  have S1 : St z G env ε (upd σ hh.objs.size (.ns 0 [])) ⟨hh.push { cls := .type "dict", data := .dict #[] }, g, dr, tk, os⟩ := S.new (s' := ⟨hh.push { cls := .type "dict", data := .dict #[] }, g, dr, tk, os⟩) ⟨rfl, rfl⟩ (Nat.le_refl _) (fun _ _ e => Heap.get?_push_of_some _ e)
    ⟨fun _ => none, ⟨⟨_, _, _, Heap.get?_push_size _ rfl, rfl, (fun _ hk => by simp at hk), fun _ => rfl⟩, _, _, _, Heap.get?_push_size _ rfl, rfl, Nat.le_refl _⟩, fun _ => rfl⟩
  have S2 := S1.turn (s' := ⟨(hh.push { cls := .type "dict", data := .dict #[] }).update a fun o => { o with dict := some hh.objs.size }, g, dr, tk, os⟩) (a := a) (ao := .raw (· = excO C t (some hh.objs.size))) ⟨rfl, rfl⟩ (by rw [upd_ne had]; exact hi) hG
    (fun b o e1 e2 => (Heap.get?_update_other _ _ (Ne.symm e1)).trans e2) ⟨_, ha0, rfl⟩
  have S3 := S2.turn (s' := ⟨h', g, dr, tk + 1 + 1, os⟩) (a := hh.objs.size) (old := .ns 0 []) (ao := .ns 1 (put [] name (absv v))) ⟨rfl, rfl⟩ (by rw [upd_ne (Ne.symm had)]; exact upd_self) dG (fun b o e1 e2 => (hs'.2 b e1).trans e2)
    ⟨_, hn', nsr_put (fun _ => rfl)⟩
  have e : upd (upd (upd σ hh.objs.size (.ns 0 [])) a (.raw (· = excO C t (some hh.objs.size)))) hh.objs.size (.ns 1 (put [] name (absv v))) = upd (upd σ a (.raw (· = excO C t (some hh.objs.size)))) hh.objs.size (.ns 1 (put [] name (absv v))) := by
    funext b
    unfold upd
    by_cases q : b = hh.objs.size
    · rw [if_pos q, if_pos q]
    · rw [if_neg q, if_neg q, if_neg q]
  rw [e] at S3
  refine and2 hn' fun hn1 z6x0r => ?_
  refine ex3 z6x0r fun o es ep z6x1r => ?_
  refine and3 z6x1r fun ho hda hz' => ?_
  refine wpAny_bind (wpAny_lookBehind ho (by rw [hda]; exact pastItsLine_dict (by rw [sizeLine_eq]; omega)) ?_)
  exact wpAny_pure (h _ _ d0 dG S3)
theorem r_excSet {a C t d : Addr} {n : Nat} {fs : List (Str × AV)} {name : Str} {v : Value} {Q : Unit → Shared → Prop} (W : Wd K mg mb z.heap) (S : St z G env ε σ s) (hi : σ a = some (.raw (· = excO C t (some d)))) (hd : σ d = some (.ns n fs)) (hG : G d = none)
    (hs : findIn K (.ref C) "__setattr__" = some (some (.builtin "object.__setattr__"))) (hp : excOver K C) (ht : takerIn K C name = some none) (hc : hasDictIn K C = true) (hz : n ≤ 1000)
    (h : ∀ s', St z G env ε (upd σ d (.ns (n + 1) (put fs name (absv v)))) s' → Q () s') : wpAny (model prog w) A (setAttr (.ref a) name v) Q E s := by
  refine ex1 (S.obj _ _ hi) fun ox z7x0r => ?_
  refine and2 z7x0r fun hx z7x2 => ?_
  subst z7x2
  refine ex1 (S.obj _ _ hd) fun m z8x0r => ?_
  refine and2 z8x0r fun hm r => ?_
  have X := W.X.keeps S.base
  obtain ⟨od, hod⟩ : ∃ o, s.heap.get? d = some o := let ⟨⟨o, _, _, ho, _⟩, _⟩ := hm; ⟨o, ho⟩
  have I : InstAt s.heap a (excO C t (some d)) C (some od) := ⟨hx, rfl, rfl, hod⟩
  refine set_plain X I hs ?_
  unfold hasDictIn at hc
  refine ex1 (any_some hc) fun cd z9x0r => ?_
  refine and2 z9x0r fun hcd hd' => ?_
  obtain ⟨hh, g, dr, tk, os⟩ := s
  refine osa_exc (s := ⟨hh, g, dr, tk + 1, os⟩) X I hp ht fun b => ?_
  refine wpAny_bind (wpAny_pure (wpAny_bind (wpAny_bind (wpAny_loadPart hx (wpAny_bind ((looks_clsIn X hcd).at ?_))))))
  rw [hd']
  refine wpAny_pure (a := some d) (wpAny_bind (wpAny_pure (wpAny_bind ?_)))
  refine r_nsSet hm fun h' hn' hs' => ?_
  have S' := S.turn (s' := ⟨h', g, dr, tk + 1 + 1, os⟩) ⟨rfl, rfl⟩ hd hG (fun b o e1 e2 => (hs'.2 b e1).trans e2) (show OR h' d (.ns (n + 1) (put fs name (absv v))) from ⟨_, hn', nsr_put r⟩)
  refine and2 hn' fun hn1 z11x0r => ?_
  refine ex3 z11x0r fun o es ep z11x1r => ?_
  refine and3 z11x1r fun ho hda hz' => ?_
  refine wpAny_bind (wpAny_lookBehind ho (by rw [hda]; exact pastItsLine_dict (by rw [sizeLine_eq]; omega)) ?_)
  exact wpAny_pure (h _ S')
theorem r_assignAttr {M : Model} {o : Expr} {attr : Str} {pos : Pos} {v : Value} {Q : Unit → Shared → Prop} (h : wpAny M A (eval o env) (fun ov s₁ => wpAny M A (setAttr ov attr v) Q E s₁) E s) :
    wpAny M A (assign (.Attribute o attr pos) env v) Q E s := by
  rw [arm_assign_Attribute]
  refine wpAny_bind (wpAny_holding (wpAny_mono h (fun ov s₁ q => ?_) fun _ _ e => e))
  exact wpAny_bind (wpAny_standAt (wpAny_bind (wpAny_holding (wpAny_mono q (fun _ _ q => wpAny_release q) fun _ _ e => e))))
end
end
section
open PySem.Builtin PySem.Builtin.ObjectAttr
noncomputable def excP (C d : Addr) : Obj → Prop := fun o => o.cls = .ref C ∧ o.dict = some d ∧ ∃ vs, o.data = .fields vs
theorem canon_bexc_ga : (Manifest.canonical "BaseException.__getattribute__" != "object.__getattribute__") = false := by decide +kernel
section
variable {prog : Program} {w : World} {A : Around} {E : Value → Shared → Prop} {s : Shared} {K : Frag} {C : Addr}
variable {z : Shared} {G : Addr → Option (Obj × Bool)} {env : Env} {ε : Vars} {σ : Sto} {mg mb : Str → Option Value}
theorem exc_at {a d : Addr} {n : Nat} {fs : List (Str × AV)} (S : St z G env ε σ s) (hi : σ a = some (.raw (excP C d))) (hd : σ d = some (.ns n fs)) :
    ∃ ox od m, InstAt s.heap a ox C (some od) ∧ ox.dict = some d ∧ NsN s.heap d n m ∧ NsR m fs ∧ ∀ x, lookIn x od = some (m x) := by
  refine ex1 (S.obj a _ hi) fun o z0x0r => ?_
  refine and4 z0x0r fun ho hc hdx z0x1r => ?_
  refine ex1 z0x1r fun vs hv => ?_
  refine ex1 (S.obj d _ hd) fun m z1x0r => ?_
  refine and2 z1x0r fun hm r => ?_
  refine ex1 (ns_look hm.1) fun o' z2x0r => ?_
  refine and2 z2x0r fun hod hl => ?_
  refine ⟨_, o', m, ⟨ho, hc, ?_, ?_⟩, hdx, hm, r, hl⟩
  · unfold notCls; rw [hv]
  · rw [hdx]; exact hod
theorem r_excGet {a d : Addr} {n : Nat} {fs : List (Str × AV)} {name : Str} {av : AV} {expr : Bool} {Q : Value → Shared → Prop} (W : Wd K mg mb z.heap) (S : St z G env ε σ s) (hi : σ a = some (.raw (excP C d))) (hd : σ d = some (.ns n fs)) (hx : fs.lookup name = some av)
    (hav : plainAV av = true) (hp : excOver K C)
    (hga : findIn K (.ref C) "__getattribute__" = some (some (.builtin "BaseException.__getattribute__"))) (hk : findIn K (.ref C) "__getattr__" = some none) (hf : findIn K (.ref C) name = some none) (hc : hasDictIn K C = true)
    (h : ∀ s', St z G env ε σ s' → ValsQ av Q s') : wpAny (model prog w) A (getAttr (.ref a) name expr) Q E s := by
  refine ex3 (exc_at S hi hd) fun ox od m z3x0r => ?_
  refine and5 z3x0r fun I _ _ r hl => ?_
  have q := r name
  rw [hx] at q
  refine ex1 q fun v z4x0r => ?_
  refine and2 z4x0r fun hv vr => ?_
  have hh := handed_of vr hav
  have X := W.X.keeps S.base
  have hfo : findObj K C (some od) name = some (.value v) := by
    unfold hasDictIn at hc
    cases cc : clsIn K C with
    | none => rw [cc] at hc; cases hc
    | some cd =>
      rw [cc] at hc
      have hc : cd.hasDict = true := hc
      unfold findObj
      rw [cc, hf]
      simp only [Option.bind_some]
      unfold PySem.W.ownOf
      rw [if_pos hc]
      simp only [hl, hv, Option.bind_some]
  have SF := PySem.F.attr_Exception.ga
  obtain ⟨hh', g, dr, t, os⟩ := s
  have hq := (h _ (S.grow (s' := ⟨hh', g, dr, t + 1, os⟩) ⟨rfl, rfl⟩ fun _ _ e => e)).at vr
  have L0 := I.type (M := model prog w)
  have L1 := looks_findIn (M := model prog w) X hga
  have L2 := looks_findIn (M := model prog w) X hk
  have L3 := looks_find (M := model prog w) X I hfo
  refine ex2 (id hp) fun cd c z6x0r => ?_
  refine and2 z6x0r fun hcd em => ?_
  have ne : cd.mro.isEmpty = false := by rw [em]; rfl
  have sub : Looks (model prog w) hh' (isInstance (.ref a) (.type "BaseException")) true := I.type.andThen (looks_mroIn X (by unfold mroIn; rw [hcd, Option.bind_some, if_neg (by rw [ne]; decide), em]; rfl))
  unfold getAttr getAttrBy
  refine wpAny_bind (wpAny_mkText (wpAny_holding (wpAny_bind (L0.at (wpAny_bind (L1.at ?_))))))
  have e1 : (onTheHeap (Value.ref C) && Value.builtin "BaseException.__getattribute__" == Value.builtin "object.__getattribute__") = false := by
    have : (Value.builtin "BaseException.__getattribute__" == Value.builtin "object.__getattribute__") = false := by decide +kernel
    rw [this, Bool.and_false]
  dsimp only
  rw [if_neg (by rw [e1]; decide)]
  unfold getAttrByItsOwn hookBefore
  rw [if_pos (show onTheHeap (Value.ref C) = true from rfl)]
  refine wpAny_bind (L2.at ?_)
  have e2 : callGetattribute (.ref a) (.str name t) (.builtin "BaseException.__getattribute__") expr = boundAndCalled (.builtin "BaseException.__getattribute__") (.ref a) (.str name t) := by
    unfold callGetattribute; rw [if_neg]; intro q; cases expr <;> cases q
  rw [e2]
  refine wpAny_bind (wpAny_attempt (wpAny_holding ?_))
  unfold boundAndCalled
  rw [SF.bind (.ref a)]
  refine wpAny_bind (wpAny_pure ?_)
  refine wpAny_call (codeAny_call_builtin SF.plain F.entry_bexc_ga (@check_slot (model prog w) _ _ _ "BaseException.__getattribute__" "BaseException" "__getattribute__" (.ref a) [.str name t] [] _ (by decide +kernel) (by decide +kernel) sub (F.args_bexc_ga _ _) ?_))
  unfold Builtin.«object.__getattribute__»
  refine wpAny_bind (wpAny_pure (wpAny_bind (wpAny_pure (wpAny_bind (L0.at (wpAny_bind (L3.at ?_)))))))
  refine wpAny_pure ?_
  dsimp only
  rw [handedOut_of hh]
  exact wpAny_pure hq
theorem r_excMethod {a d f : Addr} {n : Nat} {fs : List (Str × AV)} {name : Str} {pl : Sem Bool} {Q : Value × List Value → Shared → Prop} (W : Wd K mg mb z.heap) (S : St z G env ε σ s) (hi : σ a = some (.raw (excP C d))) (hd : σ d = some (.ns n fs)) (hx : fs.lookup name = none)
    (hga : findIn K (.ref C) "__getattribute__" = some (some (.builtin "BaseException.__getattribute__"))) (hk : findIn K (.ref C) "__getattr__" = some none)
    (hf : findIn K (.ref C) name = some (some (.ref f))) (ht : typeIn K (.ref f) = some (.type "function")) (h : Q (.ref f, [.ref a]) s) : wpAny (model prog w) A (getMethod (.ref a) name pl) Q E s := by
  refine ex3 (exc_at S hi hd) fun ox od m z7x0r => ?_
  refine and5 z7x0r fun I hdx hm r hl => ?_
  have q := r name
  rw [hx] at q
  have X := W.X.keeps S.base
  unfold getMethod specialOf
  refine wpAny_bind (wpAny_bind (I.type.here ((looks_findIn X hga).here ?_)))
  dsimp only
  rw [canon_bexc_ga, if_neg (by decide)]
  refine wpAny_bind (wpAny_bind (I.type.here ((looks_findIn X hk).here ?_)))
  refine wpAny_bind (wpAny_bind (I.type.here ((looks_findIn X hf).here (wpAny_bind ((looks_typeIn X ht).here ?_)))))
  rw [if_neg (by decide +kernel)]
  refine wpAny_bind (wpAny_loadPart I.at_ ?_)
  have hd' := I.dict
  rw [hdx] at hd' ⊢
  refine wpAny_bind (wpAny_bind (wpAny_loadPart hd' ?_))
  rw [nsLook_of (hl name)]
  refine wpAny_pure ?_
  rw [q]
  exact wpAny_bind (wpAny_rule (wpAny_pure h))
end
end
section
variable {w : World} {A : Around} {E : Value → Shared → Prop} {s z : Shared} {mg mb : Str → Option Value} {G : Addr → Option (Obj × Bool)} {env : Env} {ε : Vars} {σ : Sto}
theorem exc76 : excOver (kk w.params) 76 := ⟨_, _, rfl, rfl⟩
theorem nag_init {e t : Addr} {i : Int} {u : Tok} {x y : Str} {tx ty : Tok} {Q : Value → Shared → Prop} (W : Wd (kk w.params) mg mb z.heap) (S0 : St z G env ε σ s) (hh : A.handled = none) (hdp : A.depth + 20 < recursionLimit) (hu : A.units + 100 < cLine)
   (he : σ e = some (.raw (· = excO 76 t none))) (hG : G e = none)
   (h : ∀ d s' σ', But [e] σ σ' → σ' e = some (.raw (· = excO 76 t (some d))) → σ' d = some (.ns 3 [("line", .str y), ("msg", .str x), ("lineno", .int i)]) → St z G env ε σ' s' → Q .none s') :
   wpAny (model PySem.Challenge.pw_pe0273_01 w) A (call (.ref 52) [.ref e, .int i u, .str x tx, .str y ty]) Q E s := by
  have hh' : ∀ e, (A.deeper e).handled = none := fun e => hh
  refine enterC (binds := [("self", .ref e), ("lineno", .int i u), ("msg", .str x tx), ("line", .str y ty)]) W S0 (by first | exact room0 hdp | omega) (by exact rfl) (by k_is) rfl rfl rfl rfl (fun L => by exact rfl) (by exact rfl) (by exact rfl) ?_
  intro L s₁ env' C₁ S₁
  have hh := hh' env'
  repeat wtm_at "m"
  ((with_reducible refine' Assign_Tuple (hs := ?mu1) (hw := ?nu1) ?_); (case mu1 => exact rfl); (case nu1 => exact rfl))
  repeat wtm_at "m"
  refine r_newTup ‹St _ _ _ _ _ _› (Nat.le_of_ble_eq_true rfl) ?_
  intro tp s1 σ1 htp Gtp g1 tp1 S1
  have he1 := g1.get he
  repeat wtm_at "m"
  refine r_assignAttr ?_
  repeat wtm_at "m"
  refine r_excSet0 W ‹St _ _ _ _ _ _› he1 (hidden_sto hG he) (by k_is) exc76 (by k_is) (by k_is) ?_
  intro d s2 hd1 hdG S2
  have de : d ≠ e := fun q => by rw [q, he1] at hd1; cases hd1
  have e2 : (upd (upd σ1 e (AO.raw (· = excO 76 t (some d)))) d (AO.ns 1 (put [] ("lineno" : Str) (absv (Value.int i (by assumption)))))) e = some (.raw (· = excO 76 t (some d))) := by rw [upd_ne (Ne.symm de)]; exact upd_self
  repeat wtm_at "m"
  refine r_assignAttr ?_
  repeat wtm_at "m"
  refine r_excSet W ‹St _ _ _ _ _ _› e2 upd_self hdG (by k_is) exc76 (by k_is) (by k_is) (by decide) ?_
  intro s3 S3
  repeat wtm_at "m"
  refine r_assignAttr ?_
  repeat wtm_at "m"
  refine r_excSet W ‹St _ _ _ _ _ _› ((upd_ne (Ne.symm de)).trans e2) upd_self hdG (by k_is) exc76 (by k_is) (by k_is) (by decide) ?_
  intro s4 S4
  repeat wtm_at "m"
  have hd0 : σ d = none := by
    cases q : σ d with
    | none => rfl
    | some o => have := g1.get q; rw [hd1] at this; cases this
  refine h d s4 _ ?_ ?_ ?_ (S0.back S4)
  · intro b o hb q
    have bd : b ≠ d := fun q' => by rw [q', hd0] at q; cases q
    have be : b ≠ e := hb.1
    rw [upd_ne bd, upd_ne bd, upd_ne bd, upd_ne be]
    exact g1.get q
  · exact (upd_ne (Ne.symm de)).trans ((upd_ne (Ne.symm de)).trans e2)
  · exact upd_self.trans (by with_unfolding_all rfl)
end
section
noncomputable def nagFs (i : Int) (x y : Str) : List (Str × AV) := [("line", .str y), ("msg", .str x), ("lineno", .int i)]
variable {w : World} {A : Around} {E : Value → Shared → Prop} {s z : Shared} {mg mb : Str → Option Value} {G : Addr → Option (Obj × Bool)} {env : Env} {ε : Vars} {σ : Sto}
theorem ns75 {h : Heap} (X : (kk w.params).In h) : ∃ mN, h.Ns 75 mN ∧ mN "__init__" = some (.ref 52) := by
  have e := X 75 _ rfl
  refine ⟨_, ⟨_, _, _, e, rfl, ?_, fun _ => rfl⟩, by rfl⟩
  intro en he
  simp only [List.mem_toArray, List.mem_cons, List.not_mem_nil, or_false] at he
  rcases he with rfl | rfl | rfl | rfl | rfl | rfl | rfl | rfl | rfl <;> exact ⟨_, _, rfl⟩
theorem new_nag {i : Int} {u : Tok} {x y : Str} {tx ty : Tok} {Q : Value → Shared → Prop} (W : Wd (kk w.params) mg mb z.heap) (S0 : St z G env ε σ s) (hh : A.handled = none) (hdp : A.depth + 30 < recursionLimit) (hu : A.units + 120 < cLine)
   (h : ∀ e d t s' σ', σ e = none → G e = none → Grow σ σ' → σ' e = some (.raw (· = excO 76 t (some d))) → σ' d = some (.ns 3 (nagFs i x y)) → St z G env ε σ' s' → Q (.ref e) s') :
   wpAny (model PySem.Challenge.pw_pe0273_01 w) A (call (.ref 76) [.int i u, .str x tx, .str y ty]) Q E s := by
  have X := W.X.keeps S0.base
  refine ex1 (ns75 X) fun mN z0x0r => ?_
  refine and2 z0x0r fun hn hi => ?_
  obtain ⟨hp, g, dr, t, os⟩ := s
  refine wpAny_call_exc_init (B := "Exception") (C := 76) (N := 75) F.excBase_Exception (X 76 _ (by exact rfl)) hn hi (X 52 _ (by exact rfl)) rfl ?_
  intro h' e hm
  refine ex1 hm.there fun t' z2x0r => ?_
  refine and3 z2x0r fun he ht0 ht' => ?_
  have hne : hp.get? e = none := hm.new
  have hse : σ e = none := by
    cases q : σ e with
    | none => rfl
    | some o => obtain ⟨ob, hob⟩ := OR.there (S0.obj e o q); rw [hne] at hob; cases hob
  have hGe : G e = none := by
    cases q : G e with
    | none => rfl
    | some p => have := S0.prot e p.1 p.2 q; rw [hne] at this; cases this
  have hL : env.locals ≠ e := by
    refine ex1 S0.loc fun m z3x0r => ?_
    refine and2 z3x0r fun z3x1 _ => ?_
    obtain ⟨o, _, _, ho, _⟩ := z3x1
    intro q
    rw [q, hne] at ho; cases ho
  have S1 : St z G env ε σ ⟨h', g, dr, t, os⟩ := S0.grow (s' := ⟨h', g, dr, t, os⟩) ⟨rfl, rfl⟩ hm.keeps
  have S2 : St z G env ε (upd σ e (.raw (· = excO 76 t' none))) ⟨h', g, dr, t, os⟩ := by
    refine { S1 with locS := by rw [upd_ne hL]; exact S1.locS, cel := ?_, obj := ?_, objG := ?_ }
    · intro x c ec kd
      refine and4 (S1.cel x c ec kd) fun z4x0 b sn n => ?_
      obtain ⟨ov, yy⟩ := z4x0
      refine and2 (S0.cel x c ec kd) fun z5x0 _ => ?_
      obtain ⟨ov₀, o₀, y₀, _⟩ := z5x0
      exact ⟨⟨ov, yy⟩, b, by rw [upd_ne (fun q => by rw [q, hne] at y₀; cases y₀)]; exact sn, n⟩
    · intro b o eb
      by_cases q : b = e
      · subst q; rw [upd_self] at eb; cases eb; exact ⟨_, he, rfl⟩
      · rw [upd_ne q] at eb; exact S1.obj b o eb
    · intro b o eb
      by_cases q : b = e
      · subst q; exact .inl hGe
      · rw [upd_ne q] at eb; exact S1.objG b o eb
  refine nag_init W S2 (by rw [handled_make]; exact hh) (by rw [depth_make]; omega) (by have := @units_make A 76 [.int i u, .str x tx, .str y ty]; omega) upd_self hGe ?_
  intro d s' σ' b e1 d1 S'
  exact ⟨rfl, h e d t' s' σ' hse hGe (b.drop (Grow.upd hse) hse).grow e1 d1 S'⟩
theorem get_lineno {e d : Addr} {i : Int} {x y : Str} {Q : Value → Shared → Prop} (W : Wd (kk w.params) mg mb z.heap) (S0 : St z G env ε σ s) (hdp : A.depth + 20 < recursionLimit)
   (he : σ e = some (.raw (excP 76 d))) (hd0 : σ d = some (.ns 3 (nagFs i x y))) (h : ∀ t s', St z G env ε σ s' → Q (.int i t) s') :
   wpAny (model PySem.Challenge.pw_pe0273_01 w) A (call (.ref 59) [.ref e]) Q E s := by
  refine enterC (binds := [("self", .ref e)]) W S0 (by first | exact room0 hdp | omega) (by exact rfl) (by k_is) rfl rfl rfl rfl (fun L => by exact rfl) (by exact rfl) (by exact rfl) ?_
  intro L s₁ env' C₁ S₁
  repeat wtm_at "m"
  refine r_excGet W ‹St _ _ _ _ _ _› he hd0 (by exact rfl) rfl exc76 (by k_is) (by k_is) (by k_is) (by k_is) ?_
  intro s2 S2
  refine Vals.int ?_
  intro t
  repeat wtm_at "m"
  exact h t _ (S0.back S2)
theorem get_msg {e d : Addr} {i : Int} {x y : Str} {Q : Value → Shared → Prop} (W : Wd (kk w.params) mg mb z.heap) (S0 : St z G env ε σ s) (hdp : A.depth + 20 < recursionLimit)
   (he : σ e = some (.raw (excP 76 d))) (hd0 : σ d = some (.ns 3 (nagFs i x y))) (h : ∀ t s', St z G env ε σ s' → Q (.str x t) s') :
   wpAny (model PySem.Challenge.pw_pe0273_01 w) A (call (.ref 66) [.ref e]) Q E s := by
  refine enterC (binds := [("self", .ref e)]) W S0 (by first | exact room0 hdp | omega) (by exact rfl) (by k_is) rfl rfl rfl rfl (fun L => by exact rfl) (by exact rfl) (by exact rfl) ?_
  intro L s₁ env' C₁ S₁
  repeat wtm_at "m"
  refine r_excGet W ‹St _ _ _ _ _ _› he hd0 (by exact rfl) rfl exc76 (by k_is) (by k_is) (by k_is) (by k_is) ?_
  intro s2 S2
  refine Vals.str ?_
  intro t
  repeat wtm_at "m"
  exact h t _ (S0.back S2)
theorem get_line {e d : Addr} {i : Int} {x y : Str} {Q : Value → Shared → Prop} (W : Wd (kk w.params) mg mb z.heap) (S0 : St z G env ε σ s) (hdp : A.depth + 20 < recursionLimit)
   (he : σ e = some (.raw (excP 76 d))) (hd0 : σ d = some (.ns 3 (nagFs i x y))) (h : ∀ t s', St z G env ε σ s' → Q (.str y t) s') :
   wpAny (model PySem.Challenge.pw_pe0273_01 w) A (call (.ref 73) [.ref e]) Q E s := by
  refine enterC (binds := [("self", .ref e)]) W S0 (by first | exact room0 hdp | omega) (by exact rfl) (by k_is) rfl rfl rfl rfl (fun L => by exact rfl) (by exact rfl) (by exact rfl) ?_
  intro L s₁ env' C₁ S₁
  repeat wtm_at "m"
  refine r_excGet W ‹St _ _ _ _ _ _› he hd0 (by exact rfl) rfl exc76 (by k_is) (by k_is) (by k_is) (by k_is) ?_
  intro s2 S2
  refine Vals.str ?_
  intro t
  repeat wtm_at "m"
  exact h t _ (S0.back S2)
end
section
open PySem.Builtin PySem.Builtin.ObjectAttr
noncomputable def noH : Heap := {}
theorem noH_get {b : Addr} : noH.get? b = none := by simp [noH, Heap.get?]
noncomputable def frL (l : List Env) : List Addr := l.filterMap (·.frame)
theorem setF_get {h : Heap} {a : Addr} {c : Value} {dx : Option Addr} {vs : Array Value} {sl : Array (Option Value)} {f : Array Value → Array Value} (e : h.get? a = some ⟨c, dx, .fields vs, sl⟩) : (h.update a (Obj.mapFields f)).get? a = some ⟨c, dx, .fields (f vs), sl⟩ := by
  rw [Heap.get?_update_self (Obj.mapFields f) e (by rfl)]; rfl
structure Fly (h₀ : Heap) (X : List Addr) (l : List Env) (C e d : Addr) (fl : Value) (h : Heap) : Prop where
  sub : ∀ b ∈ frL l, b ∈ X
  size : h₀.objs.size ≤ h.objs.size
  stays : ∀ b o, h₀.get? b = some o → b ≠ e → b ∉ X → h.get? b = some o
  slots : ∀ b o, h₀.get? b = some o → b ≠ e → b ∈ X → ∃ sl, h.get? b = some { o with slots := sl }
  frames : h.FunFrames noH l
  exc : ∃ vs sl T Tc Td ts Tsl, h.get? e = some ⟨.ref C, some d, .fields vs, sl⟩ ∧ vs[1]? = some (.ref T) ∧ T ≠ e ∧ h₀.objs.size ≤ T ∧ h.get? T = some ⟨Tc, Td, .fields ts, Tsl⟩ ∧ ts[3]? = some fl
section
variable {M : Model} {A A' : Around} {E : Value → Shared → Prop} {s : Shared} {env : Env} {outer l : List Env} {L C e d : Addr} {X : List Addr} {h₀ : Heap} {fl : Value}
theorem Fly.none (F : Fly h₀ X l C e d fl s.heap) : True := trivial
theorem r_entry {vs : Array Value} {sl : Array (Option Value)} {head : Value} {hadNext : Bool} {Q : Unit → Shared → Prop} (hfr : A.frames = some (env :: outer)) (hl : s.heap.FunFrames noH (env :: outer)) (hf : env.frame = some L)
    (he : s.heap.get? e = some ⟨.ref C, some d, .fields vs, sl⟩) (hsz : 1 < vs.size) (hz : h₀.objs.size ≤ s.heap.objs.size) (hX : ∀ b ∈ frL (env :: outer), b ∈ X)
    (h1 : ∀ b o, h₀.get? b = some o → b ≠ e → b ∉ X → s.heap.get? b = some o) (h2 : ∀ b o, h₀.get? b = some o → b ≠ e → b ∈ X → ∃ sl, s.heap.get? b = some { o with slots := sl })
    (h : ∀ h', Fly h₀ X (env :: outer) C e d (rawInt L) h' → Q () { s with heap := h' }) :
    wpAny M A (do let a ← frameOf env; let pl ← entryPlaceOf L hadNext; let b ← EntryCells.newEntry head a .none (rawInt L) .none pl; setField (.ref e) 1 b) Q E s := by
  have hen : e ∉ (env :: outer).filterMap (·.frame) := fun hm => by
    refine and2 (hl.mem hm) fun _ z0x0r => ?_
    refine ex1 z0x0r fun o z0x1r => ?_
    refine and2 z0x1r fun ho hnf => ?_
    rw [he] at ho; cases ho; exact hnf vs rfl
  obtain ⟨hh, g, dr, tk, os⟩ := s
  refine wpAny_bind (wpAny_frameOf_fun hfr hl hf fun h₁ hs₁ => ?_)
  refine wpAny_bind (wpAny_entryPlaceOf fun pl hpl => ?_)
  unfold EntryCells.newEntry newFields
  refine wpAny_bind (wpAny_newObj_type ?_ (hpl.sizeOk5 _ _ _ _ _))
  have he1 : h₁.get? e = some ⟨.ref C, some d, .fields vs, sl⟩ := (hs₁.2.1 e hen).trans he
  have eT : e ≠ h₁.objs.size := Nat.ne_of_lt (Heap.lt_size he1)
  refine wpAny_setField (Heap.get?_push_of_some _ he1) rfl hsz (h _ ?_)
  have stay : ∀ b o, b ≠ e → h₁.get? b = some o → ∀ x, ((h₁.push x).update e (Obj.mapFields (·.setIfInBounds 1 (Value.ref h₁.objs.size)))).get? b = some o := fun b o hb q x => by
    rw [Heap.get?_update_other _ _ (Ne.symm hb)]; exact Heap.get?_push_of_some _ q
  refine ⟨hX, ?_, ?_, ?_, ?_, ?_⟩
  · rw [Heap.size_after_update, Heap.size_push]
    have := hs₁.1
    dsimp only at hz this ⊢
    omega
  · intro b o q n x
    exact stay b o n ((hs₁.2.1 b fun m => x (hX b m)).trans (h1 b o q n x)) _
  · intro b o q n x
    refine ex1 (h2 b o q n x) fun sl1 q1 => ?_
    refine ex1 (hs₁.2.2 b _ q1) fun sl2 q2 => ?_
    exact ⟨sl2, stay b _ n q2 _⟩
  · refine hl.of_keeps fun b o q nf => ?_
    refine ex1 (hs₁.2.2 b _ q) fun sl2 q2 => ?_
    exact ⟨_, stay b _ (fun z => by subst z; rw [he] at q; cases q; exact nf vs rfl) q2 _, rfl⟩
  · have q := setF_get (f := (·.setIfInBounds 1 (Value.ref h₁.objs.size))) (Heap.get?_push_of_some { cls := .type "traceback", dict := none, data := .fields ([head, .ref L, .none, rawInt L, .none] ++ (if pl.isEmpty then List.replicate 6 Value.none else pl)).toArray } he1)
    refine ⟨_, _, h₁.objs.size, .type "traceback", none, _, #[], q, ?_, Ne.symm eT, ?_, (Heap.get?_update_other _ _ eT).trans (Heap.get?_push_size _ rfl), ?_⟩
    · simp [hsz]
    · have := hs₁.1; dsimp only at hz this; omega
    · rfl
theorem Fly.set (F : Fly h₀ X l C e d fl s.heap) {f : Option Addr} {Q : Unit → Shared → Prop} (h : ∀ h', Fly h₀ X l C e d (f.elim .none fun f => rawInt f) h' → Q () { s with heap := h' }) : wpAny M A (setFlight (.ref e) f) Q E s := by
  obtain ⟨f0, f1, f2, f3, f4, vs, sl, T, Tc, Td, ts, Tsl, f5, f6, f7, f8, f9, f10⟩ := F
  have hsz : 3 < ts.size := (Array.getElem?_eq_some_iff.mp f10).1
  unfold setFlight
  refine wpAny_bind (wpAny_field f5 rfl f6 ?_)
  rw [if_pos (show (Value.ref T != Value.none) = true from by simp)]
  refine wpAny_setField f9 rfl hsz (h _ ?_)
  have nT : ∀ b o, h₀.get? b = some o → b ≠ T := fun b o q z => by
    have := Heap.lt_size q; rw [z] at this; exact absurd this (Nat.not_lt.mpr f8)
  refine ⟨f0, by rw [Heap.size_after_update]; exact f1, fun b o q n x => ?_, fun b o q n x => ?_, ?_, ?_⟩
  · exact (Heap.get?_update_other _ _ (Ne.symm (nT b o q))).trans (f2 b o q n x)
  · refine ex1 (f3 b o q n x) fun sl q' => ?_
    exact ⟨sl, (Heap.get?_update_other _ _ (Ne.symm (nT b o q))).trans q'⟩
  · refine f4.of_keeps fun b o q nf => ⟨o, (Heap.get?_update_other _ _ (fun z => ?_)).trans q, rfl⟩
    subst z; rw [f9] at q; cases q; exact nf ts rfl
  · exact ⟨vs, sl, T, Tc, Td, _, Tsl, (Heap.get?_update_other _ _ f7).trans f5, f6, f7, f8, setF_get f9, by simp [hsz]⟩
theorem Fly.again (F : Fly h₀ X l C e d (rawInt L) s.heap) (hf : env.frame = some L) {Q : Unit → Shared → Prop} (h : Q () s) : wpAny M A (noteFrame (.ref e) env) Q E s := by
  obtain ⟨f0, f1, f2, f3, f4, vs, sl, T, Tc, Td, ts, Tsl, f5, f6, f7, f8, f9, f10⟩ := F
  unfold noteFrame
  rw [hf]
  refine wpAny_bind (wpAny_field f5 rfl f6 ?_)
  rw [if_pos (show (Value.ref T != Value.none) = true from by simp)]
  refine wpAny_bind (wpAny_field f9 rfl f10 ?_)
  rw [if_pos (show (rawInt L == rawInt L) = true from by simp)]
  exact wpAny_pure h
theorem Fly.next (F : Fly h₀ X (env :: outer) C e d .none s.heap) (hfr : A.frames = some (env :: outer)) (hf : env.frame = some L) {Q : Unit → Shared → Prop}
    (h : ∀ h', Fly h₀ X (env :: outer) C e d (rawInt L) h' → Q () { s with heap := h' }) : wpAny M A (noteFrame (.ref e) env) Q E s := by
  obtain ⟨f0, f1, f2, f3, f4, vs, sl, T, Tc, Td, ts, Tsl, f5, f6, f7, f8, f9, f10⟩ := F
  unfold noteFrame
  rw [hf]
  refine wpAny_bind (wpAny_field f5 rfl f6 ?_)
  rw [if_pos (show (Value.ref T != Value.none) = true from by simp)]
  refine wpAny_bind (wpAny_field f9 rfl f10 ?_)
  rw [if_neg (show ¬ ((Value.none == rawInt L) = true) from by simp [rawInt])]
  refine wpAny_bind (wpAny_setField f9 rfl (Array.getElem?_eq_some_iff.mp f10).1 ?_)
  have nT : ∀ b o, h₀.get? b = some o → b ≠ T := fun b o q z => by
    have := Heap.lt_size q; rw [z] at this; exact absurd this (Nat.not_lt.mpr f8)
  refine r_entry hfr ?_ hf ((Heap.get?_update_other _ _ f7).trans f5) (Array.getElem?_eq_some_iff.mp f6).1 (by dsimp only; rw [Heap.size_after_update]; exact f1) f0 (fun b o q n x => ?_) (fun b o q n x => ?_) h
  · refine f4.of_keeps fun b o q nf => ⟨o, (Heap.get?_update_other _ _ (fun z => ?_)).trans q, rfl⟩
    subst z; rw [f9] at q; cases q; exact nf ts rfl
  · exact (Heap.get?_update_other _ _ (Ne.symm (nT b o q))).trans (f2 b o q n x)
  · refine ex1 (f3 b o q n x) fun sl q' => ?_
    exact ⟨sl, (Heap.get?_update_other _ _ (Ne.symm (nT b o q))).trans q'⟩
theorem fly_first {t : Addr} (hfr : A.frames = some (env :: outer)) (hl : s.heap.FunFrames noH (env :: outer)) (hf : env.frame = some L) (he : s.heap.get? e = some (excO C t (some d))) {Q : Unit → Shared → Prop}
    (h : ∀ h', Fly s.heap (frL (env :: outer)) (env :: outer) C e d (rawInt L) h' → Q () { s with heap := h' }) : wpAny M A (noteFrame (.ref e) env) Q E s := by
  unfold noteFrame
  rw [hf]
  refine wpAny_bind (wpAny_field he rfl (x := .none) rfl ?_)
  rw [if_neg (by decide)]
  exact r_entry hfr hl hf he (Nat.le_of_ble_eq_true rfl) (Nat.le_refl _) (fun _ q => q) (fun b o q _ _ => q) (fun b o q _ _ => ⟨o.slots, q⟩) h
theorem Fly.came (F : Fly h₀ X l C e d fl s.heap) (h : ∀ h', Fly h₀ X l C e d (env.frame.elim .none fun f => rawInt f) h' → E (.ref e) { s with heap := h' }) : cameBackBy M A env E (.ref e) s := by
  obtain ⟨f0, f1, f2, f3, f4, vs, sl, T, Tc, Td, ts, Tsl, f5, f6, f7, f8, f9, f10⟩ := id F
  unfold cameBackBy
  refine wpAny_bind (wpAny_field f5 rfl f6 ?_)
  rw [if_neg (show ¬ ((Value.ref T == Value.none) = true) from by simp)]
  exact F.set h
theorem Fly.tail {h : Heap} (F : Fly h₀ X (env :: l) C e d fl h) : Fly h₀ X l C e d fl h := by
  obtain ⟨f0, f1, f2, f3, f4, r⟩ := F
  refine ⟨fun b hb => f0 b ?_, f1, f2, f3, f4.2.2, r⟩
  unfold frL at hb ⊢
  rw [List.filterMap_cons]
  cases env.frame with
  | none => exact hb
  | some _ => exact .tail _ hb
theorem fly_out {t : Addr} (hfr : A.frames = some (env :: outer)) (hl : s.heap.FunFrames noH (env :: outer)) (hf : env.frame = some L) (he : s.heap.get? e = some (excO C t (some d)))
    (h : ∀ h', Fly s.heap (frL (env :: outer)) outer C e d .none h' → E (.ref e) { s with heap := h' }) : notedBy M A env (cameBackBy M A env (Leave M A env E)) (.ref e) s := by
  unfold notedBy
  refine fly_first hfr hl hf he fun h1 F1 => ?_
  refine F1.came fun h2 F2 => ?_
  unfold Leave leaving
  rw [hf] at F2
  refine wpAny_bind (F2.again (env := env) hf ?_)
  exact F2.set fun h3 F3 => h h3 F3.tail
end
section
variable {prog : Program} {w : World} {A : Around} {E : Value → Shared → Prop} {s : Shared} {K : Frag} {C : Addr}
variable {z : Shared} {G : Addr → Option (Obj × Bool)} {env : Env} {ε : Vars} {σ : Sto} {mg mb : Str → Option Value} {X : List Addr} {l : List Env} {e d : Addr} {fl : Value} {h' : Heap}
noncomputable def relab (G : Addr → Option (Obj × Bool)) (h' : Heap) : Addr → Option (Obj × Bool) := fun b => (G b).bind fun p => (h'.get? b).map fun o => (o, p.2)
theorem relab_none {b : Addr} (h : G b = none) : relab G h' b = none := by unfold relab; rw [h]; rfl
theorem relab_some {b : Addr} {o o' : Obj} {f : Bool} (h : G b = some (o, f)) (q : h'.get? b = some o') : relab G h' b = some (o', f) := by unfold relab; rw [h]; simp [q]
theorem relab_get {b : Addr} {o : Obj} {f : Bool} (h : relab G h' b = some (o, f)) : h'.get? b = some o ∧ ∃ o', G b = some (o', f) := by
  unfold relab at h
  cases q : G b with
  | none => rw [q] at h; cases h
  | some p =>
    rw [q] at h
    simp only [Option.bind_some, Option.map_eq_some_iff] at h
    refine ex1 h fun o' z12x0r => ?_
    refine and2 z12x0r fun ho hq => ?_
    cases hq
    exact ⟨ho, p.1, rfl⟩
theorem St.flown {ao : AO} (S : St z G env ε σ s) (F : Fly s.heap X l C e d fl h') (hz : ∀ b ∈ X, z.heap.get? b = none) (hX : ∀ b ∈ X, σ b = none) (σe : σ e = some ao) (Ge : G e = none) (hc : env.cells = []) :
    St z (relab G h') env ε (upd σ e (.raw (excP C d))) { s with heap := h' } := by
  have eL : env.locals ≠ e := fun q => by have := S.locS; rw [q, σe] at this; cases this
  have eX : e ∉ X := fun q => by rw [hX e q] at σe; cases σe
  refine ⟨S.adv.trans ⟨rfl, rfl⟩, ?_, ?_, S.fn, ?_, relab_none S.locG, by rw [upd_ne eL]; exact S.locS, ?_, ?_, ?_, ?_, ?_, ?_⟩
  · intro b o q
    refine ex1 (S.keep b o q) fun f g => ?_
    have n : b ≠ e := fun z => by rw [z, Ge] at g; cases g
    have x : b ∉ X := fun m => by rw [hz b m] at q; cases q
    exact ⟨f, relab_some g (F.stays b o (S.prot b o f g) n x)⟩
  · intro b o f q; exact (relab_get q).1
  · refine ex1 S.loc fun m z14x0r => ?_
    refine and2 z14x0r fun z14x1 q => ?_
    obtain ⟨o, es, ep, ho, hd, r⟩ := z14x1
    by_cases x : env.locals ∈ X
    · refine ex1 (F.slots _ o ho eL x) fun sl h2 => ?_
      exact ⟨m, ⟨_, es, ep, h2, hd, r⟩, q⟩
    · exact ⟨m, ⟨o, es, ep, F.stays _ o ho eL x, hd, r⟩, q⟩
  · intro x c q; rw [hc] at q; cases q
  · intro x c q; rw [hc] at q; cases q
  · intro x y c q; rw [hc] at q; cases q
  · intro x c av q; rw [hc] at q; cases q
  · intro a o q
    by_cases n : a = e
    · subst n
      rw [upd_self] at q; cases q
      refine ex4 F.exc fun vs sl T Tc z16x0r => ?_
      refine ex3 z16x0r fun Td ts Tsl z16x4r => ?_
      refine and2 z16x4r fun f5 _ => ?_
      exact ⟨_, f5, rfl, rfl, vs, rfl⟩
    · rw [upd_ne n] at q
      have x : a ∉ X := fun m => by rw [hX a m] at q; cases q
      exact OR.mv (S.obj a o q) fun o' ho => F.stays a o' ho n x
  · intro a o q
    by_cases n : a = e
    · subst n; exact .inl (relab_none Ge)
    · rw [upd_ne n] at q
      have x : a ∉ X := fun m => by rw [hX a m] at q; cases q
      rcases S.objG a o q with g | ⟨p, g⟩
      · exact .inl (relab_none g)
      · exact .inr ⟨p, relab_some g (F.stays a p (S.prot a p true g) n x)⟩
theorem St.backS {G' : Addr → Option (Obj × Bool)} {env' : Env} {ε' : Vars} {σ' : Sto} {s' z' : Shared} {o : Obj} {sl : Array (Option Value)} (S : St z G env ε σ s) (S' : St z' G' env' ε' σ' s') (hzz : z'.heap = z.heap) (hGz : ∀ b p, G b = some p → z.heap.get? b = some p.1)
    (hG : ∀ b o f, G b = some (o, f) → ∃ o', G' b = some (o', f)) (hL : s.heap.get? env.locals = some o) (hL' : G' env.locals = some ({ o with slots := sl }, false)) (hc : env.cells = []) : St z' G env ε σ' s' := by
  refine ⟨S'.adv, ?_, ?_, S.fn, ?_, S.locG, ?_, ?_, ?_, ?_, ?_, S'.obj, ?_⟩
  · intro b o q; rw [hzz] at q; exact S.keep b o q
  · intro b o f q
    exact S'.base b o (by rw [hzz]; exact hGz b _ q)
  · refine ex1 S.loc fun m z17x0r => ?_
    refine and2 z17x0r fun z17x1 q => ?_
    obtain ⟨o', es, ep, ho, hd, r⟩ := z17x1
    rw [hL] at ho; cases ho
    exact ⟨m, ⟨_, es, ep, S'.prot _ _ _ hL', hd, r⟩, q⟩
  · cases q : σ' env.locals with
    | none => rfl
    | some ao =>
      rcases S'.objG _ _ q with g | ⟨p, g⟩ <;> (rw [hL'] at g; cases g)
  · intro x c q; rw [hc] at q; cases q
  · intro x c q; rw [hc] at q; cases q
  · intro x y c q; rw [hc] at q; cases q
  · intro x c av q; rw [hc] at q; cases q
  · intro a ao q
    cases g : G a with
    | none => exact .inl rfl
    | some p =>
      refine ex1 (hG a p.1 p.2 g) fun o' g' => ?_
      rcases S'.objG a ao q with k | ⟨p', k⟩
      · rw [g'] at k; cases k
      · rw [g'] at k
        have := (Prod.mk.inj (Option.some.inj k)).2
        exact .inr ⟨p.1, by rw [← this]⟩
end
end
section
noncomputable def isH : AO → Prop
  | .inst _ _ => True
  | .ns _ _ => True
  | .tup _ => True
  | .list _ => False
  | .raw _ => False
theorem Keep.toT {σ σ' : Sto} (k : Keep isH σ σ') : Keep isT σ σ' := fun a o e q => k a o e (by cases o <;> first | trivial | exact q.elim | exact absurd q id)
theorem Keep.ofBut {ls : List Addr} {σ σ' : Sto} (b : But ls σ σ') (h : ∀ a ∈ ls, ∀ o, σ a = some o → ¬ isH o) : Keep isH σ σ' := fun a o e q => b a o (off_sub fun c hc z => h c hc o (z ▸ e) q) e
theorem Keep.refl {p : AO → Prop} {σ : Sto} : Keep p σ σ := fun _ _ e _ => e
theorem WsAt.keepH {σ σ' : Sto} {a : Addr} {r : Ws} (h : WsAt σ a r) (k : Keep isH σ σ') : WsAt σ' a r :=
  let ⟨d, n, tN, tC, h1, h2, h3, h4⟩ := h; ⟨d, n, tN, tC, k _ _ h1 trivial, k _ _ h2 trivial, k _ _ h3 trivial, k _ _ h4 trivial⟩
theorem HdAt.keepH {ls : List Addr} {σ σ' : Sto} {a d l : Addr} {tb : List (Str × Str)} (h : HdAt σ a d l tb) (k : Keep isH σ σ') (b : But ls σ σ') (n : off l ls) : HdAt σ' a d l tb :=
  let ⟨ps, h1, h2, h3, h4⟩ := h; ⟨ps, k _ _ h1 trivial, k _ _ h2 trivial, b _ _ n h3, h4.keep k.toT⟩
theorem HdAt.grow {σ σ' : Sto} {a d l : Addr} {tb : List (Str × Str)} (h : HdAt σ a d l tb) (g : Grow σ σ') : HdAt σ' a d l tb := h.keepH g.keep g.but (ls := []) trivial
abbrev Fa := Addr × Addr × Addr × Addr
noncomputable def FrAt (σ : Sto) (p : Fa) (f : Frame) : Prop := WsAt σ p.1 f.1 ∧ HdAt σ p.2.1 p.2.2.1 p.2.2.2 f.2
structure Pl (G : Addr → Option (Obj × Bool)) (av : List Addr) (PL TL : Addr) (σ : Sto) (fr : List Fa) (P : List Frame) : Prop where
  pl : σ PL = some (.list ((fr.map fun p => AV.ref p.1).reverse))
  tl : σ TL = some (.list ((fr.map fun p => AV.ref p.2.1).reverse))
  at_ : All2 (FrAt σ) fr P
  nod : (fr.map fun p => p.2.2.2).Nodup
  off : ∀ p ∈ fr, Mine.off p.2.2.2 av
  gn : ∀ p ∈ fr, G p.2.2.2 = none
theorem frs_step {av ls : List Addr} {σ σ' : Sto} (k : Keep isH σ σ') (b : But ls σ σ') (hs : ∀ a ∈ ls, a ∈ av) : ∀ {fr : List Fa} {P : List Frame}, (∀ p ∈ fr, off p.2.2.2 av) → All2 (FrAt σ) fr P → All2 (FrAt σ') fr P := by
  intro fr
  induction fr with
  | nil => intro P _ h; cases P with
    | nil => trivial
    | cons _ _ => exact h.elim
  | cons p fr ih => intro P hn h; cases P with
    | nil => exact h.elim
    | cons f P => exact ⟨⟨h.1.1.keepH k, h.1.2.keepH k b (off_sub fun c hc => off_mem (hn p (by simp)) c (hs c hc))⟩, ih (fun q hq => hn q (by simp [hq])) h.2⟩
theorem frs_list {σ : Sto} : ∀ {fr : List Fa} {P : List Frame}, All2 (FrAt σ) fr P → ∀ p ∈ fr, ∃ vs, σ p.2.2.2 = some (.list vs) := by
  intro fr
  induction fr with
  | nil => intro P _ p hp; simp at hp
  | cons p fr ih => intro P h q hq; cases P with
    | nil => exact h.elim
    | cons f P =>
      rcases List.mem_cons.mp hq with rfl | hq
      · refine ex1 h.1.2 fun ps z0x0r => ?_
        refine and4 z0x0r fun _ _ h3 _ => ?_
        exact ⟨_, h3⟩
      · exact ih h.2 q hq
theorem Pl.step {G : Addr → Option (Obj × Bool)} {av ls : List Addr} {PL TL : Addr} {σ σ' : Sto} {fr : List Fa} {P : List Frame} (h : Pl G av PL TL σ fr P) (k : Keep isH σ σ') (b : But ls σ σ') (hs : ∀ a ∈ ls, a ∈ av)
    (hp : σ' PL = some (.list ((fr.map fun p => AV.ref p.1).reverse))) (ht : σ' TL = some (.list ((fr.map fun p => AV.ref p.2.1).reverse))) : Pl G av PL TL σ' fr P :=
  ⟨hp, ht, frs_step k b hs h.off h.at_, h.nod, h.off, h.gn⟩
theorem Pl.grow {G : Addr → Option (Obj × Bool)} {av : List Addr} {PL TL : Addr} {σ σ' : Sto} {fr : List Fa} {P : List Frame} (h : Pl G av PL TL σ fr P) (g : Grow σ σ') : Pl G av PL TL σ' fr P :=
  h.step g.keep g.but (ls := []) (by simp) (g.get h.pl) (g.get h.tl)
noncomputable def Nm (w : World) (q : Str × Str) : Prop := Named w q.1 ∧ Clean w false q.2
structure POk (w : World) (n : Nat) (P : List Frame) : Prop where
  ok : ∀ f ∈ P, f.1.Ok
  nm : ∀ f ∈ P, ∀ q ∈ f.2, Nm w q
  len : ∀ f ∈ P, f.2.length ≤ n
  hi : P.length ≤ n + 1
  bot : ∃ Q tb, P = Q ++ [(wsOf "", tb)]
theorem wsOf_empty : (wsOf "").n = 0 ∧ (wsOf "").Ok := by
  refine ⟨by decide +kernel, ?_⟩
  have e : (wsOf "").count = [] := by decide +kernel
  have e2 : (wsOf "").trail = 0 := by decide +kernel
  have e3 : (wsOf "").nt = 0 := by decide +kernel
  refine ⟨by rw [e]; decide, fun j => by rw [e]; simp, ?_, ?_, ?_, ?_⟩ <;> first | (rw [e2]; decide) | (rw [e3]; decide)
theorem wsOf_n {x : Str} : 0 ≤ (wsOf x).n := Int.natCast_nonneg _
theorem less_bot {h : Ws} (hn : 0 ≤ h.n) : lessB h (wsOf "") = false := by
  unfold lessB
  rw [if_pos (by rw [wsOf_empty.1]; exact hn)]
theorem POk.pop {w : World} {n : Nat} {h : Ws} (hn : 0 ≤ h.n) : ∀ {P : List Frame}, POk w n P → POk w n (popW h P)
  | [], o => o
  | f :: r, o => by
    unfold popW
    split
    · rename_i hl
      refine POk.pop hn ⟨fun g hg => o.ok g (by simp [hg]), fun g hg => o.nm g (by simp [hg]), fun g hg => o.len g (by simp [hg]), by have := o.hi; simp only [List.length_cons] at this; omega, ?_⟩
      refine ex2 o.bot fun Q tb e => ?_
      cases Q with
      | nil =>
        simp only [List.nil_append, List.cons.injEq] at e
        rw [e.1] at hl
        rw [less_bot hn] at hl; cases hl
      | cons q Q => simp only [List.cons_append, List.cons.injEq] at e; exact ⟨Q, tb, e.2⟩
    · exact o
theorem POk.push {w : World} {n : Nat} {h : Ws} (hk : h.Ok) {P : List Frame} (o : POk w n P) (hn : P.length ≤ n) : POk w n (tPush h P) := by
  cases P with
  | nil => exact o
  | cons f r =>
    show POk w n (if lessB f.1 h then (h, f.2) :: f :: r else f :: r)
    split
    · refine ⟨fun g hg => ?_, fun g hg => ?_, fun g hg => ?_, by simp only [List.length_cons] at hn ⊢; omega, ?_⟩
      · rcases List.mem_cons.mp hg with rfl | hg
        · exact hk
        · exact o.ok g hg
      · rcases List.mem_cons.mp hg with rfl | hg
        · exact o.nm f (by simp)
        · exact o.nm g hg
      · rcases List.mem_cons.mp hg with rfl | hg
        · exact o.len f (by simp)
        · exact o.len g hg
      · refine ex2 o.bot fun Q tb e => ?_
        exact ⟨(h, f.2) :: Q, tb, by rw [e]; rfl⟩
    · exact o
theorem POk.up {w : World} {n m : Nat} {P : List Frame} (o : POk w n P) (h : n ≤ m) : POk w m P := ⟨o.ok, o.nm, fun f hf => Nat.le_trans (o.len f hf) h, Nat.le_trans o.hi (by omega), o.bot⟩
theorem POk.ne {w : World} {n : Nat} {P : List Frame} (o : POk w n P) : ∃ f r, P = f :: r := by
  refine ex2 o.bot fun Q tb e => ?_
  cases Q with
  | nil => exact ⟨_, _, e⟩
  | cons q Q => exact ⟨q, _, e⟩
theorem deedTb_ok {w : World} {r : Rw} {tb : List (Str × Str)} (hr : Nm w (r.name, r.value)) (ht : ∀ q ∈ tb, Nm w q) : (∀ q ∈ deedTb r tb, Nm w q) ∧ (deedTb r tb).length ≤ tb.length + 1 := by
  have hf : ∀ (g : Str × Str → Bool), (∀ q ∈ tb.filter g, Nm w q) ∧ (tb.filter g).length ≤ tb.length := fun g => ⟨fun q hq => ht q (List.mem_filter.mp hq).1, List.length_filter_le _ _⟩
  have ha : ∀ (tb' : List (Str × Str)), (∀ q ∈ tb', Nm w q) → ∀ q ∈ tb' ++ [(r.name, r.value)], Nm w q := fun tb' h q hq => by
    rcases List.mem_append.mp hq with hq | hq
    · exact h q hq
    · rw [List.mem_singleton.mp hq]; exact hr
  unfold deedTb
  split
  · exact ⟨ha _ ht, by rw [List.length_append]; exact Nat.le_refl _⟩
  · split
    · exact ⟨ha _ (hf _).1, by rw [List.length_append]; exact Nat.add_le_add_right (hf _).2 _⟩
    · split
      · unfold defTb
        split
        · exact ⟨ht, Nat.le_succ _⟩
        · exact ⟨ha _ ht, by rw [List.length_append]; exact Nat.le_refl _⟩
      · split
        · exact ⟨(hf _).1, Nat.le_succ_of_le (hf _).2⟩
        · exact ⟨ht, Nat.le_succ _⟩
theorem POk.deed {w : World} {n : Nat} {r : Rw} {f : Frame} {P : List Frame} (o : POk w n (f :: P)) (hr : Nm w (r.name, r.value)) : POk w (n + 1) ((f.1, deedTb r f.2) :: P) := by
  have t := deedTb_ok hr (o.nm f (by simp))
  refine ⟨fun g hg => ?_, fun g hg => ?_, fun g hg => ?_, by have := o.hi; simp only [List.length_cons] at this ⊢; omega, ?_⟩
  · rcases List.mem_cons.mp hg with rfl | hg
    · exact o.ok f (by simp)
    · exact o.ok g (by simp [hg])
  · rcases List.mem_cons.mp hg with rfl | hg
    · exact t.1
    · exact o.nm g (by simp [hg])
  · rcases List.mem_cons.mp hg with rfl | hg
    · exact Nat.le_trans t.2 (Nat.succ_le_succ (o.len f (by simp)))
    · exact Nat.le_succ_of_le (o.len g (by simp [hg]))
  · refine ex2 o.bot fun Q tb e => ?_
    cases Q with
    | nil =>
      simp only [List.nil_append, List.cons.injEq] at e
      refine and2 e fun z5x0 z5x1 => ?_
      subst z5x0
      subst z5x1
      exact ⟨[], _, rfl⟩
    | cons q Q =>
      simp only [List.cons_append, List.cons.injEq] at e
      refine and2 e fun z6x0 z6x1 => ?_
      subst z6x0
      subst z6x1
      exact ⟨_ :: Q, tb, rfl⟩
theorem like_ok {v : Ws} {m : Ms} (h : Like v m) : v.Ok := by
  refine and5 h fun h0 h1 h2 h3 h4 => ?_
  have p : (tabL.all fun m => decide (m.count.length ≤ 500) && m.count.all (fun c => decide (0 ≤ c ∧ c ≤ 1000)) && decide (0 ≤ m.trail ∧ m.trail ≤ 500 ∧ 0 ≤ m.nt ∧ m.nt ≤ 1000)) = true := by decide +kernel
  have q := List.all_eq_true.mp p m h0
  simp only [Bool.and_eq_true, decide_eq_true_eq, List.all_eq_true] at q
  refine and2 q fun z8x0 q3 => ?_
  obtain ⟨q1, q2⟩ := z8x0
  refine ⟨by rw [h3]; exact q1, fun j => ?_, by rw [h4]; exact q3.1, by rw [h4]; exact q3.2.1, by rw [h2]; exact q3.2.2.1, by rw [h2]; exact q3.2.2.2⟩
  rw [h3, List.getD_eq_getElem?_getD]
  cases e : m.count[j]? with
  | none => decide
  | some c => exact q2 c (List.mem_of_getElem? e)
section
variable {prog : Program} {w : World} {A : Around} {E : Value → Shared → Prop} {s : Shared} {z : Shared} {G : Addr → Option (Obj × Bool)} {env : Env} {ε : Vars} {σ : Sto} {pos : Pos}
theorem r_pop {l : Addr} {vs : List AV} {av : AV} {Q : Value → Shared → Prop} (S : St z G env ε σ s) (hl : σ l = some (.list (vs ++ [av]))) (hG : G l = none) (hz : vs.length ≤ 50000)
    (h : ∀ s', St z G env ε (upd σ l (.list vs)) s' → ValsQ av Q s') : wpAny (model prog w) A (callWith pos (.builtin "list.pop") [.ref l] [] []) Q E s := by
  refine ex2 (S.obj _ _ hl) fun items n z9x0r => ?_
  refine and2 z9x0r fun ho r => ?_
  have hlen := r.length
  rw [List.length_append, List.length_singleton] at hlen
  refine ex1 (r.get (i := vs.length) (a := av) (by simp)) fun v z10x0r => ?_
  refine and2 z10x0r fun hv vr => ?_
  have e1 : items.toArray.size - 1 = vs.length := by rw [List.size_toArray]; omega
  refine P.pop_list (y := v) ho (by rw [e1]; simpa using hv) ?_ (by rw [List.size_toArray, sizeLine_eq]; omega)
  rw [e1]
  have hm : ∃ n', (s.heap.update l (Obj.mapSeq fun xs => xs.eraseIdxIfInBounds vs.length)).get? l = some { cls := .type "list", dict := none, data := .seq (items.toArray.eraseIdxIfInBounds vs.length) n', slots := #[] } := by
    refine ⟨_, Heap.get?_update_self _ ho ?_⟩
    · rfl
  refine ex1 hm fun n' hm => ?_
  have e2 : items.toArray.eraseIdxIfInBounds vs.length = (items.take vs.length).toArray := by
    have : items.eraseIdx vs.length = items.take vs.length := by
      rw [List.eraseIdx_eq_take_drop_succ, List.drop_eq_nil_of_le (by omega), List.append_nil]
    simp [this]
  refine (h _ (S.turn (s' := { s with heap := s.heap.update l (Obj.mapSeq fun xs => xs.eraseIdxIfInBounds vs.length) }) ⟨rfl, rfl⟩ hl hG (fun b o e1 e2 => (Heap.get?_update_other _ _ (Ne.symm e1)).trans e2) ⟨items.take vs.length, n', by rw [hm, e2], ?_⟩)).at vr
  have := VRs.take vs.length r
  rwa [List.take_append_of_le_length (Nat.le_refl _), List.take_of_length_le (Nat.le_refl _)] at this
end
end
section
noncomputable def ExcCls (h : Heap) (C : Addr) (bm : List Value) : Prop := ∃ nm q N bs hdct sn sub ab col dd k0 k1 k2 k3 k5 newId, h.get? C = some (excClassObj nm q C N bs bm hdct sn sub ab col dd k0 k1 k2 k3 k5 newId)
section
variable {M : Model} {A : Around} {E : Value → Shared → Prop} {s : Shared} {env : Env} {C : Addr} {bm : List Value}
theorem r_raised {x : Sem Value} {Q : Flow → Shared → Prop} (hbase : bm.contains (.type "BaseException") = true) (hh : A.handled = none)
    (h : wpAny M A x (fun v s₁ => ∃ e d t, v = .ref e ∧ ExcCls s₁.heap C bm ∧ s₁.heap.get? e = some (excO C t (some d)) ∧ E (.ref e) s₁) E s) : wpAny M A (raiseStmt env (some x) none) Q E s := by
  have hcB : (Value.ref C :: bm).contains (.type "BaseException") = true := by rw [List.contains_cons, hbase, Bool.or_true]
  unfold raiseStmt
  refine wpAny_bind (wpAny_mono h (fun v s₁ h₁ => ?_) fun _ _ x => x)
  refine ex3 h₁ fun e d t z0x0r => ?_
  refine and4 z0x0r fun z0x3 hC he hE => ?_
  subst z0x3
  unfold excO at he
  obtain ⟨nm, q, N, bs, hdct, sn, sub, ab, col, dd, k0, k1, k2, k3, k5, newId, hC⟩ := hC
  obtain ⟨hp, g, dr, tk, os⟩ := s₁
  repeat (first | with_reducible refine wpAny_loadPart_at he ?_ | with_reducible refine wpAny_loadPart_at hC ?_ | (with_reducible refine wpAny_isSubtype_exc hC ?_; rw [hcB]) | wp_step)
  exact wpAny_raiseNew_none hh hE
theorem r_Raise {x : Expr} {pos : Pos} {Q : Flow → Shared → Prop} (hbase : bm.contains (.type "BaseException") = true) (hh : A.handled = none)
    (h : wpAny M A (eval x env) (fun v s₁ => ∃ e d t, v = .ref e ∧ ExcCls s₁.heap C bm ∧ s₁.heap.get? e = some (excO C t (some d)) ∧ E (.ref e) s₁) E s) : wpAny M A (exec (.Raise (some x) none pos) env) Q E s := by
  rw [arm_exec_Raise]
  refine wpAny_bind (wpAny_standAt (r_raised (C := C) (bm := bm) hbase hh ?_))
  exact wpAny_bind (wpAny_mono h (fun v s₁ h₁ => wpAny_bind (wpAny_standAt (wpAny_pure h₁))) fun _ _ x => x)
theorem r_matches {e d : Addr} {o : Obj} {Q : Bool → Shared → Prop} (hbase : bm.contains (.type "BaseException") = true) (hC : ExcCls s.heap C bm) (he : s.heap.get? e = some o) (hc : o.cls = .ref C) (h : Q true s) : wpAny M A (excMatches (.ref e) (.ref C)) Q E s := by
  obtain ⟨nm, q, N, bs, hdct, sn, sub, ab, col, dd, k0, k1, k2, k3, k5, newId, hC⟩ := hC
  obtain ⟨hp, g, dr, tk, os⟩ := s
  exact wpAny_excMatches_sub_self hC he hc hbase h
end
theorem exc_cls {w : World} {h : Heap} (X : (kk w.params).In h) : ExcCls h 76 [.type "Exception", .type "BaseException", .type "object"] :=
  ⟨_, _, _, _, _, _, _, _, _, _, _, _, _, _, _, _, X 76 _ (by exact rfl)⟩
theorem like_long {v : Ws} {m : Ms} (h : Like v m) : longest v ≤ 6 := by
  refine and5 h fun h0 h1 h2 h3 h4 => ?_
  have p : (tabL.all fun m => decide (longest m.ws ≤ 6)) = true := by decide +kernel
  have q := List.all_eq_true.mp p m h0
  have e : longest v = longest m.ws := by unfold longest; rw [h3, h4]; rfl
  rw [e]; simpa using q
theorem wit_bound {x y : Ws} (hx : longest x ≤ 6) (hy : longest y ≤ 6) : (∀ t ∈ witSizes x y, 1 ≤ t ∧ t ≤ 7) ∧ (witSizes x y).length ≤ 7 := by
  have hm : (imax (longest x) (longest y) + 1).toNat ≤ 7 := by unfold imax; split <;> omega
  unfold witSizes sizesW
  refine ⟨fun t ht => ?_, ?_⟩
  · refine ex1 (List.mem_map.mp (List.mem_filter.mp ht).1) fun i z6x0r => ?_
    refine and2 z6x0r fun hi z6x2 => ?_
    subst z6x2
    have := List.mem_range.mp hi
    omega
  · refine Nat.le_trans (List.length_filter_le _ _) ?_
    rw [List.length_map, List.length_range]; exact hm
end
section
noncomputable def FG (z : Shared) (G : Addr → Option (Obj × Bool)) (l : List Env) : Prop := ∀ env ∈ l, env.scope.kind ≠ .module ∧ ∃ L o, env.frame = some L ∧ z.heap.get? L = none ∧ G L = some (o, false) ∧ ∀ vs, o.data ≠ .fields vs
theorem FG.nil {z : Shared} {G : Addr → Option (Obj × Bool)} : FG z G [] := fun _ h => by simp at h
section
variable {z s : Shared} {G : Addr → Option (Obj × Bool)} {env : Env} {ε : Vars} {σ : Sto} {outer : List Env}
theorem St.newL (S : St z G env ε σ s) : z.heap.get? env.locals = none := by
  cases q : z.heap.get? env.locals with
  | none => rfl
  | some o => obtain ⟨f, g⟩ := S.keep _ o q; rw [S.locG] at g; cases g
theorem St.locObj (S : St z G env ε σ s) : ∃ o, s.heap.get? env.locals = some o ∧ ∀ vs, o.data ≠ .fields vs := by
  refine ex1 S.loc fun m z0x0r => ?_
  refine and2 z0x0r fun z0x1 _ => ?_
  obtain ⟨o, es, ep, ho, hd, _⟩ := z0x1
  exact ⟨o, ho, fun vs q => by rw [hd] at q; cases q⟩
theorem FG.into (F : FG z G outer) (S : St z G env ε σ s) (hf : env.frame = some env.locals) : FG z (hidden G σ s.heap) (env :: outer) := by
  intro e he
  rcases List.mem_cons.mp he with rfl | he
  · refine ex1 S.locObj fun o z1x0r => ?_
    refine and2 z1x0r fun ho hd => ?_
    exact ⟨by rw [S.fn]; decide, _, o, hf, S.newL, hidden_off S.locG S.locS ho, hd⟩
  · refine and2 (F e he) fun k z2x0r => ?_
    refine ex2 z2x0r fun L o z2x1r => ?_
    refine and4 z2x1r fun h1 h2 h3 h4 => ?_
    exact ⟨k, L, o, h1, h2, hidden_G h3, h4⟩
theorem FG.mem (F : FG z G outer) : ∀ b ∈ frL outer, ∃ o, z.heap.get? b = none ∧ G b = some (o, false) ∧ ∀ vs, o.data ≠ .fields vs := by
  intro b hb
  refine ex1 (List.mem_filterMap.mp hb) fun e z3x0r => ?_
  refine and2 z3x0r fun he hf => ?_
  refine and2 (F e he) fun k z4x0r => ?_
  refine ex2 z4x0r fun L o z4x1r => ?_
  refine and4 z4x1r fun h1 h2 h3 h4 => ?_
  rw [hf] at h1; cases h1
  exact ⟨o, h2, h3, h4⟩
theorem FG.fun (F : FG z G outer) (S : St z G env ε σ s) : s.heap.FunFrames noH outer := by
  induction outer with
  | nil => trivial
  | cons e l ih =>
    refine and2 (F e (by simp)) fun k z5x0r => ?_
    refine ex2 z5x0r fun L o z5x1r => ?_
    refine and4 z5x1r fun h1 h2 h3 h4 => ?_
    exact ⟨k, ⟨L, o, h1, noH_get, S.prot _ _ _ h3, h4⟩, ih fun x hx => F x (by simp [hx])⟩
theorem FG.frames (F : FG z G outer) (S : St z G env ε σ s) (hf : env.frame = some env.locals) : s.heap.FunFrames noH (env :: outer) ∧ ∀ b ∈ frL (env :: outer), z.heap.get? b = none ∧ σ b = none := by
  refine ex1 S.locObj fun o z6x0r => ?_
  refine and2 z6x0r fun ho hd => ?_
  refine ⟨⟨by rw [S.fn]; decide, ⟨_, o, hf, noH_get, ho, hd⟩, F.fun S⟩, fun b hb => ?_⟩
  unfold frL at hb
  rw [List.filterMap_cons, hf] at hb
  rcases List.mem_cons.mp hb with rfl | hb
  · exact ⟨S.newL, S.locS⟩
  · refine ex1 (F.mem b hb) fun o z7x0r => ?_
    refine and3 z7x0r fun h1 h2 h3 => ?_
    refine ⟨h1, ?_⟩
    cases q : σ b with
    | none => rfl
    | some ao => rcases S.objG _ _ q with g | ⟨p, g⟩ <;> (rw [h2] at g; cases g)
theorem But.fresh {ls ks : List Addr} {a b c : Sto} (x : But ls a b) (y : But ks b c) (h : ∀ l ∈ ks, l ∈ ls ∨ a l = none) : But ls a c := fun d o n e => y d o (off_sub fun l hl q => (h l hl).elim (fun m => off_mem n l m q) fun m => (by rw [q, m] at e; cases e)) (x d o n e)
end
end
section
noncomputable def fdk316 (p : Params) : { x : Value × Option Addr × FuncData × Array (Option Value) // (kk p).lookup 316 = some ⟨x.1, x.2.1, .func x.2.2.1, x.2.2.2⟩ } := ⟨(_, _, _, _), rfl⟩
noncomputable abbrev fd316 (p : Params) : FuncData := (fdk316 p).1.2.2.1
noncomputable abbrev st316 (p : Params) (i : Nat) : Stmt := (bodyOf (fd316 p).body).getD i (.Pass ⟨0, 0, 0, 0⟩)
noncomputable abbrev lb316 (p : Params) (i : Nat) : Stmt := match st316 p 2 with
  | .For _ _ b _ _ => b.getD i (.Pass ⟨0, 0, 0, 0⟩)
  | s => s
variable {w : World} {A : Around} {E : Value → Shared → Prop} {s z : Shared} {mg mb : Str → Option Value} {G : Addr → Option (Obj × Bool)} {env : Env} {ε : Vars} {σ : Sto}
theorem rd_here {L : Addr} {ld nm : Str} {εr : Vars} {Q : Flow → Shared → Prop} (W : Wd (kk w.params) mg mb z.heap) (hh : A.handled = none) (hdp : A.depth + 100 < recursionLimit) (hu : A.units + 400 < cLine)
   (S0 : St z G (callEnvC (fd316 w.params) L 316) (("lead", .str ld) :: ("name", .str nm) :: εr) σ s) (hx : ld.length ≤ 50 ∧ nm.length ≤ 50)
   (h : ∀ a s' σ', Grow σ σ' → WsAt σ' a (wsOf (ld ++ nm)) → St z G (callEnvC (fd316 w.params) L 316) (put (("lead", .str ld) :: ("name", .str nm) :: εr) "here" (.ref a)) σ' s' → Q .next s') :
   wpAny (model PySem.Challenge.pw_pe0273_01 w) A (exec (lb316 w.params 0) (callEnvC (fd316 w.params) L 316)) Q E s := by
  show wpAny _ _ (exec (.Assign [.Name _ _] _ _) _) _ _ _
  repeat wtm_at "m"
  refine r_addStr ‹St _ _ _ _ _ _› (by omega) ?_
  intro t s S
  repeat wtm_at "m"
  refine new_ws W ‹St _ _ _ _ _ _› hh (by first | exact room hdp rfl | omega) (by first | exact room hu rfl | omega) ?_ ?_
  · show (ld.cps ++ nm.cps).size ≤ 100
    have h1 : ld.cps.size ≤ 50 := hx.1
    have h2 : nm.cps.size ≤ 50 := hx.2
    rw [Array.size_append]; omega
  intro a s σ1 g1 a1 S1
  repeat wtm_at "m"
  exact h a _ _ g1 a1 (by assumption)
theorem WsAt.inst {a : Addr} {r : Ws} (h : WsAt σ a r) : ∃ d n tN, σ a = some (.inst 141 d) ∧ σ d = some (.ns n (wsFs r tN)) := let ⟨d, n, tN, _, h1, h2, _⟩ := h; ⟨d, n, tN, h1, h2⟩
theorem HdAt.inst {a d l : Addr} {tb : List (Str × Str)} (h : HdAt σ a d l tb) : σ a = some (.inst 298 d) ∧ σ d = some (.ns 1 [("_headers", .ref l)]) := let ⟨_, h1, h2, _⟩ := h; ⟨h1, h2⟩
theorem rd_push {L PL TL a : Addr} {hw : Ws} {n : Nat} {av : List Addr} {fr : List Fa} {P : List Frame} {εr : Vars} {Q : Flow → Shared → Prop} (W : Wd (kk w.params) mg mb z.heap) (hh : A.handled = none) (hdp : A.depth + 100 < recursionLimit) (hu : A.units + 500 < cLine)
   (S0 : St z G (callEnvC (fd316 w.params) L 316) (("here", .ref a) :: ("pile", .ref PL) :: ("tables", .ref TL) :: εr) σ s) (ha : WsAt σ a hw) (hk : hw.Ok)
   (p : Pl G av PL TL σ fr P) (o : POk w n P) (hn : P.length ≤ 100) (hn2 : n ≤ 100) (GP : G PL = none) (GT : G TL = none) (PT : PL ≠ TL) (hav : ∀ b ∈ av, ∃ ao, σ b = some ao) (pav : PL ∈ av) (tav : TL ∈ av)
   (h : ∀ fr' s' σ', Keep isH σ σ' → But [PL, TL] σ σ' → Pl G av PL TL σ' fr' (tPush hw P) → (∀ q ∈ fr', q ∈ fr ∨ σ q.2.2.2 = none) → St z G (callEnvC (fd316 w.params) L 316) (("here", .ref a) :: ("pile", .ref PL) :: ("tables", .ref TL) :: εr) σ' s' → Q .next s') :
   wpAny (model PySem.Challenge.pw_pe0273_01 w) A (exec (lb316 w.params 1) (callEnvC (fd316 w.params) L 316)) Q E s := by
  show wpAny _ _ (exec (.If _ _ _ _) _) _ _ _
  refine ex2 o.ne fun f r z0x2 => ?_
  subst z0x2
  cases fr with
  | nil => exact p.at_.elim
  | cons q fr =>
  have pPL := p.pl
  have pTL := p.tl
  have plen : fr.length = r.length := p.at_.2.length
  rw [List.map_cons, List.reverse_cons] at pPL pTL
  refine ex3 p.at_.1.1.inst fun d1 n1 t1 z1x0r => ?_
  refine and2 z1x0r fun i1 j1 => ?_
  refine ex3 ha.inst fun d2 n2 t2 z2x0r => ?_
  refine and2 z2x0r fun i2 j2 => ?_
  have h1 := p.at_.1.2
  have k1 : (((fr.map fun p => AV.ref p.1).reverse ++ [AV.ref q.1]).length : Int) = (fr.length : Int) + 1 := by simp
  have k2 : (((fr.map fun p => AV.ref p.2.1).reverse ++ [AV.ref q.2.1]).length : Int) = (fr.length : Int) + 1 := by simp
  have e1 : ((fr.map fun p => AV.ref p.1).reverse ++ [AV.ref q.1])[(-1 + (((fr.map fun p => AV.ref p.1).reverse ++ [AV.ref q.1]).length : Int)).toNat]? = some (.ref q.1) := by
    rw [k1, tnm _]; simp
  repeat wtm_at "m"
  refine r_last ‹St _ _ _ _ _ _› pPL e1 (Vals.ref ?_) (hs := by with_unfolding_all rfl)
  repeat wtm_at "m"
  refine less W ‹St _ _ _ _ _ _› hh (by first | exact room hdp rfl | omega) (by first | exact room hu rfl | omega) p.at_.1.1 ha (o.ok f (by simp)) hk ?_
  intro s σ1 g1 S1
  repeat wtm_at "m"
  have p1 := p.grow g1
  refine r_ite (fun hb => ?_) fun hb => ?_
  · have et : tPush hw (f :: r) = (hw, f.2) :: f :: r := by
      show (if lessB f.1 hw then (hw, f.2) :: f :: r else f :: r) = _
      rw [if_pos hb]
    have P1 := g1.get pPL
    have T1 := g1.get pTL
    have hz1 : ((fr.map fun p => AV.ref p.1).reverse ++ [AV.ref q.1]).length ≤ 100000 := by have := o.hi; simp only [List.length_cons] at this hn; omega
    repeat wtm_at "m"
    have b2 : But [PL] σ1 (upd σ1 PL (AO.list ((fr.map fun p => AV.ref p.1).reverse ++ [AV.ref q.1] ++ [absv (Value.ref a)]))) := But.upd (by simp)
    have kp2 : Keep isH σ1 (upd σ1 PL (AO.list ((fr.map fun p => AV.ref p.1).reverse ++ [AV.ref q.1] ++ [absv (Value.ref a)]))) := Keep.upd P1 fun q => q
    have P2 := upd_self (σ := σ1) (a := PL) (o := AO.list ((fr.map fun p => AV.ref p.1).reverse ++ [AV.ref q.1] ++ [absv (Value.ref a)]))
    have T2 := upd_off (ao := AO.list ((fr.map fun p => AV.ref p.1).reverse ++ [AV.ref q.1] ++ [absv (Value.ref a)])) T1 (Ne.symm PT)
    generalize upd σ1 PL (AO.list ((fr.map fun p => AV.ref p.1).reverse ++ [AV.ref q.1] ++ [absv (Value.ref a)])) = σ2 at *
    have hqo := p1.off q (by simp)
    have h2 : HdAt σ2 q.2.1 q.2.2.1 q.2.2.2 f.2 := p1.at_.1.2.keepH kp2 b2 ⟨off_mem hqo PL pav, trivial⟩
    refine and2 h2.inst fun i3 j3 => ?_
    have e2 : ((fr.map fun p => AV.ref p.2.1).reverse ++ [AV.ref q.2.1])[(-1 + (((fr.map fun p => AV.ref p.2.1).reverse ++ [AV.ref q.2.1]).length : Int)).toNat]? = some (.ref q.2.1) := by
      rw [k2, tnm _]; simp
    refine r_last ‹St _ _ _ _ _ _› T2 e2 (Vals.ref ?_) (hs := by with_unfolding_all rfl)
    repeat wtm_at "m"
    refine hd_items W ‹St _ _ _ _ _ _› hh (by first | exact room hdp rfl | omega) (by first | exact room hu rfl | omega) h2 (by have := o.len f (by simp); omega) ?_
    intro c ps s σ3 hc Gc g3 c3 q3 S3
    repeat wtm_at "m"
    refine new_hd1 W ‹St _ _ _ _ _ _› hh (by first | exact room hdp rfl | omega) (by first | exact room hu rfl | omega) c3 q3 (by have := o.len f (by simp); omega) (fun x hx => ⟨(o.nm f (by simp) x hx).1.2.2, (o.nm f (by simp) x hx).2⟩) ?_
    intro tb d s σ4 g4 h4 S4
    have T4 := g4.get (g3.get T2)
    have P4 := g4.get (g3.get P2)
    have hz2 : ((fr.map fun p => AV.ref p.2.1).reverse ++ [AV.ref q.2.1]).length ≤ 100000 := by have := o.hi; simp only [List.length_cons] at this hn; omega
    repeat wtm_at "m"
    have b5 : But [TL] σ4 (upd σ4 TL (AO.list ((fr.map fun p => AV.ref p.2.1).reverse ++ [AV.ref q.2.1] ++ [absv (Value.ref tb)]))) := But.upd (by simp)
    have kp5 : Keep isH σ4 (upd σ4 TL (AO.list ((fr.map fun p => AV.ref p.2.1).reverse ++ [AV.ref q.2.1] ++ [absv (Value.ref tb)]))) := Keep.upd T4 fun q => q
    have T5 := upd_self (σ := σ4) (a := TL) (o := AO.list ((fr.map fun p => AV.ref p.2.1).reverse ++ [AV.ref q.2.1] ++ [absv (Value.ref tb)]))
    have P5 := upd_off (ao := AO.list ((fr.map fun p => AV.ref p.2.1).reverse ++ [AV.ref q.2.1] ++ [absv (Value.ref tb)])) P4 PT
    generalize upd σ4 TL (AO.list ((fr.map fun p => AV.ref p.2.1).reverse ++ [AV.ref q.2.1] ++ [absv (Value.ref tb)])) = σ5 at *
    have g24 := g3.trans g4
    have av2 : ∀ b ∈ av, ∃ ao, σ2 b = some ao := fun b hb => by
      by_cases e : b = PL
      · exact ⟨_, e ▸ P2⟩
      · refine ex1 (hav b hb) fun ao hao => ?_
        exact ⟨ao, b2.get (g1.get hao) ⟨e, trivial⟩⟩
    have coff : ∀ b ∈ av, c ≠ b := fun b hb e => by
      refine ex1 (av2 b hb) fun ao hao => ?_
      rw [← e, hc] at hao; cases hao
    have fr2 : All2 (FrAt σ2) (q :: fr) (f :: r) := frs_step (av := av) kp2 b2 (by simpa using pav) p1.off p1.at_
    have cl : ∀ x ∈ q :: fr, c ≠ x.2.2.2 := fun x hx e => by
      refine ex1 (frs_list fr2 x hx) fun vs hvs => ?_
      rw [← e, hc] at hvs; cases hvs
    have kA : Keep isH σ1 σ5 := (kp2.trans g24.keep).trans kp5
    have bA : But [PL, TL] σ1 σ5 := (b2.mono (by simp)).trans (g24.but.trans (b5.mono (by simp)))
    refine h ((a, tb, d, c) :: q :: fr) _ _ (g1.keep.trans kA) (g1.but.trans bA) ?_ ?_ (by assumption)
    · rw [et]
      refine ⟨?_, ?_, ⟨⟨?_, h4.keepH kp5 b5 ⟨coff TL tav, trivial⟩⟩, ?_⟩, ?_, ?_, ?_⟩
      · rw [P5]; simp only [List.map_cons, List.reverse_cons]; rfl
      · rw [T5]; simp only [List.map_cons, List.reverse_cons]; rfl
      · exact (ha.grow g1).keepH kA
      · exact frs_step (av := av) kA bA (by simpa using ⟨pav, tav⟩) p1.off p1.at_
      · rw [List.map_cons, List.nodup_cons]
        refine ⟨fun hm => ?_, p1.nod⟩
        refine ex1 (List.mem_map.mp hm) fun x z7x0r => ?_
        refine and2 z7x0r fun hx e => ?_
        exact cl x hx e.symm
      · intro x hx
        rcases List.mem_cons.mp hx with rfl | hx
        · exact off_sub coff
        · exact p1.off x hx
      · intro x hx
        rcases List.mem_cons.mp hx with rfl | hx
        · exact Gc
        · exact p1.gn x hx
    · intro x hx
      rcases List.mem_cons.mp hx with rfl | hx
      · right
        cases e : σ c with
        | none => rfl
        | some ao =>
          exfalso
          have e1 := g1.get e
          by_cases x : c = PL
          · exact coff PL pav x
          · have := b2.get e1 ⟨x, trivial⟩
            rw [hc] at this; cases this
      · exact .inl hx
  · have et : tPush hw (f :: r) = f :: r := by
      show (if lessB f.1 hw then (hw, f.2) :: f :: r else f :: r) = _
      rw [if_neg (by rw [hb]; decide)]
    repeat wtm_at "m"
    exact h _ _ _ g1.keep g1.but (by rw [et]; exact p1) (fun q hq => .inl hq) (by assumption)
end
section
section
variable {prog : Program} {w : World} {A : Around} {E : Value → Shared → Prop} {s z : Shared} {G : Addr → Option (Obj × Bool)} {env : Env} {σ : Sto}
theorem r_while {test : Expr} {body : List Stmt} {pos : Pos} {Q : Flow → Shared → Prop} {D : Type} (mz : D → Nat) (v : D → Vars) (J : D → Sto → Prop) (d₀ : D) (S : St z G env (v d₀) σ s) (h0 : J d₀ σ)
    (turn : ∀ d σ s, St z G env (v d) σ s → J d σ → wpAny (model prog w) A (isTrue test env (eval test env)) (fun b s₂ => if b = true then
        LetW (model prog w) A (execs body env) (fun f s₃ => f = .next ∧ ∃ d' σ', mz d' < mz d ∧ St z G env (v d') σ' s₃ ∧ J d' σ') (notedBy (model prog w) A env (cameBackBy (model prog w) A env E)) s₂
        else Q .next s₂) (notedBy (model prog w) A env (cameBackBy (model prog w) A env E)) s) :
    wpAny (model prog w) A (exec (.While test body [] pos) env) Q E s := by
  refine wpAny_While (codeAny_whileLoop (fun n s => ∃ d σ, mz d = n ∧ St z G env (v d) σ s ∧ J d σ) ?_ (mz d₀) ⟨d₀, σ, rfl, S, h0⟩)
  rintro n s Hpat0
  refine ex2 Hpat0 fun d σ z0x0r => ?_
  refine and3 z0x0r fun z0x2 S hJ => ?_
  subst z0x2
  refine wpAny_mono (turn d σ s S hJ) (fun b s₂ h₂ => ?_) fun _ _ e => e
  cases b with
  | false => exact wpAny_execs_nil h₂
  | true =>
    refine wpAny_mono (LetW.run h₂) (fun f s₃ h₃ => ?_) fun _ _ e => e
    refine and2 h₃ fun z1x0 z1x0r => ?_
    refine ex2 z1x0r fun d' σ' z1x1r => ?_
    refine and3 z1x1r fun hm S' J' => ?_
    subst z1x0
    exact ⟨_, hm, d', σ', rfl, S', J'⟩
end
variable {w : World} {A : Around} {E : Value → Shared → Prop} {s z : Shared} {mg mb : Str → Option Value} {G : Addr → Option (Obj × Bool)} {env : Env} {ε : Vars} {σ : Sto}
theorem rd_pop {L PL TL a : Addr} {hw : Ws} {n : Nat} {av : List Addr} {fr : List Fa} {P : List Frame} {εr : Vars} {Q : Flow → Shared → Prop} (W : Wd (kk w.params) mg mb z.heap) (hh : A.handled = none) (hdp : A.depth + 100 < recursionLimit) (hu : A.units + 500 < cLine)
   (S0 : St z G (callEnvC (fd316 w.params) L 316) (("here", .ref a) :: ("pile", .ref PL) :: ("tables", .ref TL) :: εr) σ s) (ha : WsAt σ a hw) (hk : hw.Ok) (hn0 : 0 ≤ hw.n)
   (p : Pl G av PL TL σ fr P) (o : POk w n P) (hn2 : n ≤ 100) (GP : G PL = none) (GT : G TL = none) (PT : PL ≠ TL) (pav : PL ∈ av) (tav : TL ∈ av)
   (h : ∀ fr' s' σ', Keep isH σ σ' → But [PL, TL] σ σ' → Pl G av PL TL σ' fr' (popW hw P) → POk w n (popW hw P) → (∀ q ∈ fr', q ∈ fr) → St z G (callEnvC (fd316 w.params) L 316) (("here", .ref a) :: ("pile", .ref PL) :: ("tables", .ref TL) :: εr) σ' s' → Q .next s') :
   wpAny (model PySem.Challenge.pw_pe0273_01 w) A (exec (lb316 w.params 2) (callEnvC (fd316 w.params) L 316)) Q E s := by
  show wpAny _ _ (exec (.While _ _ _ _) _) _ _ _
  refine r_while (D := List Fa × List Frame) (fun d => d.2.length) (fun _ => ("here", .ref a) :: ("pile", .ref PL) :: ("tables", .ref TL) :: εr)
    (fun d σ' => Keep isH σ σ' ∧ But [PL, TL] σ σ' ∧ Pl G av PL TL σ' d.1 d.2 ∧ POk w n d.2 ∧ popW hw d.2 = popW hw P ∧ ∀ q ∈ d.1, q ∈ fr) (fr, P) S0 ⟨Keep.refl, But.refl, p, o, rfl, fun _ h => h⟩ ?_
  rintro ⟨fr', P'⟩ σ1 s S Hpat2
  refine and6 Hpat2 fun kp b p' o' ep hf => ?_
  dsimp only at p' o' ep hf ⊢
  refine ex2 o'.ne fun f r z3x2 => ?_
  subst z3x2
  cases fr' with
  | nil => exact p'.at_.elim
  | cons q fr' =>
  have pPL := p'.pl
  have pTL := p'.tl
  have plen : fr'.length = r.length := p'.at_.2.length
  have ohi := o'.hi
  simp only [List.length_cons] at ohi
  rw [List.map_cons, List.reverse_cons] at pPL pTL
  have ha1 := ha.keepH kp
  refine ex3 p'.at_.1.1.inst fun d1 n1 t1 z4x0r => ?_
  refine and2 z4x0r fun i1 j1 => ?_
  refine ex3 ha1.inst fun d2 n2 t2 z5x0r => ?_
  refine and2 z5x0r fun i2 j2 => ?_
  have k1 : (((fr'.map fun p => AV.ref p.1).reverse ++ [AV.ref q.1]).length : Int) = (fr'.length : Int) + 1 := by simp
  have e1 : ((fr'.map fun p => AV.ref p.1).reverse ++ [AV.ref q.1])[(-1 + (((fr'.map fun p => AV.ref p.1).reverse ++ [AV.ref q.1]).length : Int)).toNat]? = some (.ref q.1) := by
    rw [k1, tnm _]; simp
  have z1 : (fr'.map fun p => AV.ref p.1).reverse.length ≤ 50000 := by simp; omega
  have z2 : (fr'.map fun p => AV.ref p.2.1).reverse.length ≤ 50000 := by simp; omega
  repeat wtm_at "m"
  refine r_last ‹St _ _ _ _ _ _› pPL e1 (Vals.ref ?_) (hs := by with_unfolding_all rfl)
  repeat wtm_at "m"
  refine less W ‹St _ _ _ _ _ _› hh (by first | exact room hdp rfl | omega) (by first | exact room hu rfl | omega) ha1 p'.at_.1.1 hk (o'.ok f (by simp)) ?_
  intro s σ2 g2 S2
  have p2 := p'.grow g2
  have P2 := g2.get pPL
  have T2 := g2.get pTL
  repeat wtm_at "m"
  refine r_ite (fun hb => ?_) fun hb => ?_
  · have et : popW hw (f :: r) = popW hw r := by
      show (if lessB hw f.1 then popW hw r else f :: r) = _
      rw [if_pos hb]
    repeat wtm_at "m"
    refine r_listMethod ‹St _ _ _ _ _ _› P2 F.slot_list_pop F.type_list_pop ?_
    refine r_pop ‹St _ _ _ _ _ _› P2 GP z1 ?_
    intro s S
    refine Vals.ref ?_
    have b3 : But [PL] σ2 (upd σ2 PL (.list (fr'.map fun p => AV.ref p.1).reverse)) := But.upd (by simp)
    have kp3 : Keep isH σ2 (upd σ2 PL (.list (fr'.map fun p => AV.ref p.1).reverse)) := Keep.upd P2 fun q => q
    have P3 := upd_self (σ := σ2) (a := PL) (o := .list (fr'.map fun p => AV.ref p.1).reverse)
    have T3 := upd_off (ao := .list (fr'.map fun p => AV.ref p.1).reverse) T2 (Ne.symm PT)
    generalize upd σ2 PL (.list (fr'.map fun p => AV.ref p.1).reverse) = σ3 at *
    repeat wtm_at "m"
    refine r_listMethod ‹St _ _ _ _ _ _› T3 F.slot_list_pop F.type_list_pop ?_
    refine r_pop ‹St _ _ _ _ _ _› T3 GT z2 ?_
    intro s S
    refine Vals.ref ?_
    have b4 : But [TL] σ3 (upd σ3 TL (.list (fr'.map fun p => AV.ref p.2.1).reverse)) := But.upd (by simp)
    have kp4 : Keep isH σ3 (upd σ3 TL (.list (fr'.map fun p => AV.ref p.2.1).reverse)) := Keep.upd T3 fun q => q
    have T4 := upd_self (σ := σ3) (a := TL) (o := .list (fr'.map fun p => AV.ref p.2.1).reverse)
    have P4 := upd_off (ao := .list (fr'.map fun p => AV.ref p.2.1).reverse) P3 PT
    generalize upd σ3 TL (.list (fr'.map fun p => AV.ref p.2.1).reverse) = σ4 at *
    repeat wtm_at "m"
    have kA : Keep isH σ2 σ4 := kp3.trans kp4
    have bA : But [PL, TL] σ2 σ4 := (b3.mono (by simp)).trans (b4.mono (by simp))
    refine ⟨rfl, (fr', r), σ4, Nat.lt_succ_self _, (by assumption), (kp.trans g2.keep).trans kA, (b.trans g2.but).trans bA, ⟨P4, T4, frs_step (av := av) kA bA (by simpa using ⟨pav, tav⟩) (fun x hx => p2.off x (by simp [hx])) p2.at_.2, (List.nodup_cons.mp p2.nod).2, fun x hx => p2.off x (by simp [hx]), fun x hx => p2.gn x (by simp [hx])⟩, ?_, et.symm.trans ep, fun x hx => hf x (by simp [hx])⟩
    refine ⟨fun g hg => o'.ok g (by simp [hg]), fun g hg => o'.nm g (by simp [hg]), fun g hg => o'.len g (by simp [hg]), (by show r.length ≤ n + 1; omega), ?_⟩
    refine ex2 o'.bot fun Q tb e => ?_
    cases Q with
    | nil =>
      simp only [List.nil_append, List.cons.injEq] at e
      rw [e.1, less_bot hn0] at hb; cases hb
    | cons q Q => simp only [List.cons_append, List.cons.injEq] at e; exact ⟨Q, tb, e.2⟩
  · have et : popW hw (f :: r) = f :: r := by
      show (if lessB hw f.1 then popW hw r else f :: r) = _
      rw [if_neg (by rw [hb]; decide)]
    have e' : popW hw P = f :: r := ep.symm.trans et
    exact h _ _ _ (kp.trans g2.keep) (b.trans g2.but) (by rw [e']; exact p2) (by rw [e']; exact o') hf (by assumption)
end
section
variable {w : World} {A : Around} {E : Value → Shared → Prop} {s z : Shared} {mg mb : Str → Option Value} {G : Addr → Option (Obj × Bool)} {env : Env} {ε : Vars} {σ : Sto}
theorem rd_nag {L PL TL a bm : Addr} {ob : Obj} {hw : Ws} {f : Frame} {r : List Frame} {av : List Addr} {fr : List Fa} {i : Int} {ld nm : Str} {εr : Vars} {Q : Flow → Shared → Prop} (W : Wd (kk w.params) mg mb z.heap) (B : BMod z.heap mainGlobals mg bm ob) (hh : A.handled = none) (hdp : A.depth + 100 < recursionLimit) (hu : A.units + 500 < cLine)
   (S0 : St z G (callEnvC (fd316 w.params) L 316) (("here", .ref a) :: ("pile", .ref PL) :: ("place", .int i) :: ("lead", .str ld) :: ("name", .str nm) :: εr) σ s) (ha : WsAt σ a hw) (hk : hw.Ok) (hl : longest hw ≤ 6)
   (p : Pl G av PL TL σ fr (f :: r)) (fk : f.1.Ok) (fl : longest f.1 ≤ 6) (hn : r.length ≤ 100) (hx : ld.length ≤ 50 ∧ nm.length ≤ 50) (hP : σ 147 = some (.raw tabP)) (GP : G 147 = none)
   (h0 : eqB f.1 hw = true → ∀ s', St z G (callEnvC (fd316 w.params) L 316) (("here", .ref a) :: ("pile", .ref PL) :: ("place", .int i) :: ("lead", .str ld) :: ("name", .str nm) :: εr) σ s' → Q .next s')
   (h1 : eqB f.1 hw = false → ∀ e d t g s' σ' ε', (AllBare z.gens → AllBare g) → σ e = none → G e = none → Grow σ σ' → σ' e = some (.raw (· = excO 76 t (some d))) → σ' d = some (.ns 3 (nagFs i (fmtW (witSizes f.1 hw)) (ld ++ nm))) →
     St { z with gens := g } G (callEnvC (fd316 w.params) L 316) ε' σ' s' → E (.ref e) s') :
   wpAny (model PySem.Challenge.pw_pe0273_01 w) A (exec (lb316 w.params 3) (callEnvC (fd316 w.params) L 316)) Q E s := by
  show wpAny _ _ (exec (.If _ _ _ _) _) _ _ _
  cases fr with
  | nil => exact p.at_.elim
  | cons q fr =>
  have pPL := p.pl
  have plen : fr.length = r.length := p.at_.2.length
  rw [List.map_cons, List.reverse_cons] at pPL
  refine ex3 p.at_.1.1.inst fun d1 n1 t1 z0x0r => ?_
  refine and2 z0x0r fun i1 j1 => ?_
  refine ex3 ha.inst fun d2 n2 t2 z1x0r => ?_
  refine and2 z1x0r fun i2 j2 => ?_
  have k1 : (((fr.map fun p => AV.ref p.1).reverse ++ [AV.ref q.1]).length : Int) = (fr.length : Int) + 1 := by simp
  have e1 : ((fr.map fun p => AV.ref p.1).reverse ++ [AV.ref q.1])[(-1 + (((fr.map fun p => AV.ref p.1).reverse ++ [AV.ref q.1]).length : Int)).toNat]? = some (.ref q.1) := by
    rw [k1, tnm _]; simp
  repeat wtm_at "m"
  with_reducible refine' wpAny_isTrue_Not ?_
  repeat wtm_at "m"
  refine r_last ‹St _ _ _ _ _ _› pPL e1 (Vals.ref ?_) (hs := by with_unfolding_all rfl)
  repeat wtm_at "m"
  refine equal W ‹St _ _ _ _ _ _› (by omega) (by omega) p.at_.1.1 ha ?_
  intro s1 S1
  repeat wtm_at "m"
  refine r_ite (fun hb => ?_) fun hb => ?_
  · have hb' : eqB f.1 hw = false := by simpa using hb
    repeat wtm_at "m"
    refine r_last ‹St _ _ _ _ _ _› pPL e1 (Vals.ref ?_) (hs := by with_unfolding_all rfl)
    repeat wtm_at "m"
    refine witness W ‹St _ _ _ _ _ _› hh (by first | exact room hdp rfl | omega) (by first | exact room hu rfl | omega) p.at_.1.1 ha fk hk ?_
    intro l ps s2 σ2 g2 Gl l2 T2 S2
    have wb := wit_bound fl hl
    repeat wtm_at "m"
    refine format_w W B ‹St _ _ _ _ _ _› hh (by first | exact room hdp rfl | omega) (by first | exact room hu rfl | omega) (g2.get hP) GP l2 T2 wb.1 wb.2 ?_
    intro t s3 g S3 bare
    have W' : Wd (kk w.params) mg mb ({ z with gens := g } : Shared).heap := W
    have h1' := fun e d t => h1 hb' e d t g
    clear h1 h0
    generalize ({ z with gens := g } : Shared) = z' at *
    repeat wtm_at "m"
    refine r_Raise (C := 76) (bm := [.type "Exception", .type "BaseException", .type "object"]) (by decide +kernel) hh ?_
    repeat wtm_at "m"
    refine r_addStr ‹St _ _ _ _ _ _› (by omega) ?_
    intro t s4 S4
    repeat wtm_at "m"
    refine new_nag W' ‹St _ _ _ _ _ _› hh (by first | exact room hdp rfl | omega) (by first | exact room hu rfl | omega) ?_
    intro e d t5 s5 σ5 he Ge g5 e5 d5 S5
    refine ex1 (S5.obj _ _ e5) fun oe z2x0r => ?_
    refine and2 z2x0r fun hoe z2x2 => ?_
    subst z2x2
    exact ⟨e, d, t5, rfl, exc_cls (W'.X.keeps S5.base), hoe, h1' e d t5 _ σ5 _ bare (none_of g2 he) Ge (g2.trans g5) e5 d5 S5⟩
  · have hb' : eqB f.1 hw = true := by simpa using hb
    repeat wtm_at "m"
    exact h0 hb' _ (by assumption)
end
section
theorem UpN.mono {M : Model} {A : Around} {rest : List Stmt} {st : Stmt} {env : Env} {Q Q' : Flow → Shared → Prop} {E : Value → Shared → Prop} {s : Shared} (u : UpN M A rest env Q E Q')
    (h : wpAny M A (exec st env) (fun f s' => match f with | .next => wpAny M A (execs rest env) Q E s' | f => Q f s') E s) : wpAny M A (exec st env) Q' E s :=
  wpAny_mono h (fun f s' x => match f with | .next => u.nx s' x | .brk => u.bk s' x | .cont => u.ct s' x | .ret v => u.rt v s' x) fun _ _ e => e
theorem Pl.deed {G : Addr → Option (Obj × Bool)} {av : List Addr} {PL TL : Addr} {σ σ' : Sto} {q : Fa} {fr : List Fa} {f : Frame} {r : List Frame} {tb : List (Str × Str)} (h : Pl G av PL TL σ (q :: fr) (f :: r)) (b : But [q.2.2.2] σ σ') (pav : PL ∈ av) (tav : TL ∈ av)
    (H : HdAt σ' q.2.1 q.2.2.1 q.2.2.2 tb) : Keep isH σ σ' ∧ Pl G av PL TL σ' (q :: fr) ((f.1, tb) :: r) := by
  obtain ⟨vs, hl⟩ := frs_list h.at_ q (by simp)
  have kp : Keep isH σ σ' := Keep.ofBut b fun a ha o e => by
    rw [List.mem_singleton.mp ha, hl] at e; cases e; exact id
  have hq := h.off q (by simp)
  refine ⟨kp, b.get h.pl ⟨Ne.symm (off_mem hq PL pav), trivial⟩, b.get h.tl ⟨Ne.symm (off_mem hq TL tav), trivial⟩, ⟨⟨h.at_.1.1.keepH kp, H⟩, ?_⟩, h.nod, h.off, h.gn⟩
  refine frs_step (av := [q.2.2.2]) kp b (fun a ha => ha) (fun p hp => ⟨fun e => ?_, trivial⟩) h.at_.2
  have := (List.nodup_cons.mp h.nod).1
  exact this (List.mem_map.mpr ⟨p, hp, e⟩)
variable {w : World} {A : Around} {E : Value → Shared → Prop} {s z : Shared} {mg mb : Str → Option Value} {G : Addr → Option (Obj × Bool)} {env : Env} {ε : Vars} {σ : Sto}
theorem rd_tell {L PL TL tl : Addr} {f : Frame} {r : List Frame} {av : List Addr} {q : Fa} {fr : List Fa} {ans : Str} {tb : List (Str × Str)} {qs : List Addr} {εr : Vars} {Q : Flow → Shared → Prop} (W : Wd (kk w.params) mg mb z.heap) (hh : A.handled = none) (hdp : A.depth + 100 < recursionLimit) (hu : A.units + 500 < cLine)
   (S0 : St z G (callEnvC (fd316 w.params) L 316) (("pile", .ref PL) :: ("tables", .ref TL) :: ("told", .ref tl) :: ("table", .ref q.2.1) :: ("answer", .str ans) :: εr) σ s)
   (p : Pl G av PL TL σ (q :: fr) (f :: r)) (hz : f.2.length ≤ 1000) (hr : r.length ≤ 200) (lav : tl ∈ av) (ltP : tl ≠ PL) (ltT : tl ≠ TL)
   (ht : σ tl = some (.list (qs.map .ref))) (Gt : G tl = none) (hq : qs.length ≤ 100)
   (h : ∀ tp s' σ', Keep isH σ σ' → But [tl] σ σ' → Pl G av PL TL σ' (q :: fr) (f :: r) → σ' tl = some (.list ((qs ++ [tp]).map .ref)) → (∀ ls : List Addr, (∀ b ∈ ls, ∃ ao, σ b = some ao) → EntAt ls σ' tp ⟨((f :: r).length : Int), ans, f.2⟩) →
     St z G (callEnvC (fd316 w.params) L 316) (("pile", .ref PL) :: ("tables", .ref TL) :: ("told", .ref tl) :: ("table", .ref q.2.1) :: ("answer", .str ans) :: εr) σ' s' → Q .next s') :
   wpAny (model PySem.Challenge.pw_pe0273_01 w) A (exec (lb316 w.params 10) (callEnvC (fd316 w.params) L 316)) Q E s := by
  show wpAny _ _ (exec (.Expr _ _) _) _ _ _
  have H := p.at_.1.2
  obtain ⟨i1, j1⟩ := H.inst
  have pPL := p.pl
  have plen : (q :: fr).length = (f :: r).length := p.at_.length
  have klen : ((((q :: fr).map fun p => AV.ref p.1).reverse.length : Nat) : Int) = ((f :: r).length : Int) := by rw [List.length_reverse, List.length_map, plen]
  repeat wtm_at "m"
  refine r_len ‹St _ _ _ _ _ _› pPL (by rw [List.length_reverse, List.length_map, plen]; simp only [List.length_cons]; omega) ?_
  intro t s S
  rw [klen]
  repeat wtm_at "m"
  refine hd_items W ‹St _ _ _ _ _ _› hh (by first | exact room hdp rfl | omega) (by first | exact room hu rfl | omega) H hz ?_
  intro c ps s σ1 hc Gc g1 c1 q1 S1
  repeat wtm_at "m"
  refine r_newTup ‹St _ _ _ _ _ _› (Nat.le_of_ble_eq_true rfl) ?_
  intro tp s σ2 htp Gtp g2 tp2 S2
  have t2 := g2.get (g1.get ht)
  have hq2 : (qs.map AV.ref).length ≤ 100000 := by rw [List.length_map]; omega
  repeat wtm_at "m"
  have c2 := g2.get c1
  have b3 : But [tl] σ2 (upd σ2 tl (.list (qs.map AV.ref ++ [absv (.ref tp)]))) := But.upd (by simp)
  have kp3 : Keep isH σ2 (upd σ2 tl (.list (qs.map AV.ref ++ [absv (.ref tp)]))) := Keep.upd t2 fun q => q
  have t3 := upd_self (σ := σ2) (a := tl) (o := .list (qs.map AV.ref ++ [absv (.ref tp)]))
  generalize upd σ2 tl (.list (qs.map AV.ref ++ [absv (.ref tp)])) = σ3 at *
  have g12 := g1.trans g2
  have ctl : c ≠ tl := Ne.symm (ne_new ht hc)
  refine h tp _ σ3 (g12.keep.trans kp3) (g12.but.trans b3) ((p.grow g12).step kp3 b3 (by simpa using lav) (b3.get (g12.get p.pl) ⟨Ne.symm ltP, trivial⟩) (b3.get (g12.get p.tl) ⟨Ne.symm ltT, trivial⟩)) ?_ ?_ (by assumption)
  · rw [t3, List.map_append]; rfl
  · intro ls hls
    refine ⟨c, ps, kp3 _ _ tp2 trivial, b3.get c2 ⟨ctl, trivial⟩, q1.keep ((g2.keep.trans kp3).toT), off_sub fun b hb e => ?_⟩
    obtain ⟨ao, hao⟩ := hls b hb
    rw [← e, hc] at hao; cases hao
theorem rd_tail {L PL TL tl : Addr} {n : Nat} {f : Frame} {r : List Frame} {av : List Addr} {q : Fa} {fr : List Fa} {row : Rw} {qs : List Addr} {εr : Vars} {Q : Flow → Shared → Prop} (W : Wd (kk w.params) mg mb z.heap) (hh : A.handled = none) (hdp : A.depth + 100 < recursionLimit) (hu : A.units + 500 < cLine)
   (S0 : St z G (callEnvC (fd316 w.params) L 316) (("pile", .ref PL) :: ("tables", .ref TL) :: ("told", .ref tl) :: ("deed", .int row.deed) :: ("name", .str row.name) :: ("value", .str row.value) :: εr) σ s)
   (p : Pl G av PL TL σ (q :: fr) (f :: r)) (o : POk w n (f :: r)) (hn : n ≤ 100) (hd0 : 0 ≤ row.deed ∧ row.deed ≤ 3) (hnm : Nm w (row.name, row.value)) (hv : row.value.length ≤ 1000) (pav : PL ∈ av) (tav : TL ∈ av) (lav : tl ∈ av) (ltP : tl ≠ PL) (ltT : tl ≠ TL)
   (ht : σ tl = some (.list (qs.map .ref))) (Gt : G tl = none) (hq : qs.length ≤ 100)
   (h : ∀ tp s' σ', Keep isH σ σ' → But [q.2.2.2, tl] σ σ' → Pl G av PL TL σ' (q :: fr) ((f.1, deedTb row f.2) :: r) → σ' tl = some (.list ((qs ++ [tp]).map .ref)) → (∀ ls : List Addr, (∀ b ∈ ls, ∃ ao, σ b = some ao) → EntAt ls σ' tp ⟨((f :: r).length : Int), deedAns row f.2, deedTb row f.2⟩) →
     St z G (callEnvC (fd316 w.params) L 316) (("pile", .ref PL) :: ("tables", .ref TL) :: ("told", .ref tl) :: []) σ' s' → Q .next s') :
   wpAny (model PySem.Challenge.pw_pe0273_01 w) A (execs [lb316 w.params 4, lb316 w.params 5, lb316 w.params 6, lb316 w.params 7, lb316 w.params 8, lb316 w.params 9, lb316 w.params 10] (callEnvC (fd316 w.params) L 316)) Q E s := by
  obtain ⟨ld, dd, nm, kd, val⟩ := row
  dsimp only at S0 hd0 hnm hv
  show wpAny _ _ (execs [.Assign [.Name _ _] _ _, .Assign [.Name _ _] _ _, .If _ _ _ _, .If _ _ _ _, .If _ _ _ _, .If _ _ _ _, .Expr _ _] _) _ _ _
  have pTL := p.tl
  have plen : fr.length = r.length := p.at_.2.length
  have ohi := o.hi
  simp only [List.length_cons] at ohi
  rw [List.map_cons, List.reverse_cons] at pTL
  have H := p.at_.1.2
  have k2 : (((fr.map fun p => AV.ref p.2.1).reverse ++ [AV.ref q.2.1]).length : Int) = (fr.length : Int) + 1 := by simp
  have e2 : ((fr.map fun p => AV.ref p.2.1).reverse ++ [AV.ref q.2.1])[(-1 + (((fr.map fun p => AV.ref p.2.1).reverse ++ [AV.ref q.2.1]).length : Int)).toNat]? = some (.ref q.2.1) := by
    rw [k2, tnm _]; simp
  obtain ⟨i1, j1⟩ := H.inst
  have hfl := o.len f (by simp)
  have hfn := o.nm f (by simp)
  have Gq := p.gn q (by simp)
  have qoff := p.off q (by simp)
  have qtl : tl ≠ q.2.2.2 := Ne.symm (off_mem qoff tl lav)
  have td := deedTb_ok (r := ⟨ld, dd, nm, kd, val⟩) (w := w) hnm hfn
  have fin : ∀ {εx : Vars} {ans : Str} {σ' : Sto} {s' : Shared}, ans = deedAns ⟨ld, dd, nm, kd, val⟩ f.2 → But [q.2.2.2] σ σ' → HdAt σ' q.2.1 q.2.2.1 q.2.2.2 (deedTb ⟨ld, dd, nm, kd, val⟩ f.2) →
      St z G (callEnvC (fd316 w.params) L 316) (("pile", .ref PL) :: ("tables", .ref TL) :: ("told", .ref tl) :: ("table", .ref q.2.1) :: ("answer", .str ans) :: εx) σ' s' → wpAny (model PySem.Challenge.pw_pe0273_01 w) A (exec (lb316 w.params 10) (callEnvC (fd316 w.params) L 316)) (fun f s' => match f with | .next => wpAny (model PySem.Challenge.pw_pe0273_01 w) A (execs [] (callEnvC (fd316 w.params) L 316)) Q E s' | f => Q f s') E s' := by
    intro εx ans σ' s' ha b' H' S'
    subst ha
    obtain ⟨kp, p'⟩ := p.deed b' pav tav H'
    refine rd_tell (tb := []) W hh hdp hu S' p' (by dsimp only; omega) (by omega) lav ltP ltT (b'.get ht ⟨qtl, trivial⟩) Gt hq ?_
    intro tp s2 σ2 k2 b2 p2 t2 en S2
    have q' := h tp s2 σ2 (kp.trans k2) ((b'.mono (by simp)).trans (b2.mono (by simp))) p2 t2 (fun ls hls => en ls fun b hb => ?_) (S2.vars ⟨rfl, rfl, rfl, trivial⟩)
    · exact wpAny_execs_nil q'
    · by_cases e : b = q.2.2.2
      · obtain ⟨vs, hvs⟩ := frs_list p'.at_ q (by simp)
        exact ⟨_, e ▸ hvs⟩
      · obtain ⟨ao, hao⟩ := hls b hb
        exact ⟨ao, b'.get hao ⟨e, trivial⟩⟩
  have hd4 : dd = 0 ∨ dd = 1 ∨ dd = 2 ∨ dd = 3 := four (by assumption)
  repeat wtm_at "m"
  refine r_last ‹St _ _ _ _ _ _› pTL e2 (Vals.ref ?_) (hs := by with_unfolding_all rfl)
  repeat wtm_at "m"
  rcases hd4 with rfl | rfl | rfl | rfl
  · refine r_ite (fun hb => ?_) fun hb => absurd hb (by decide)
    repeat wtm_at "m"
    refine hd_add W ‹St _ _ _ _ _ _› hh (by first | exact room hdp rfl | omega) (by first | exact room hu rfl | omega) H Gq hnm.1 hnm.2 hv (by omega) ?_
    intro s1 σ1 b1 H1 S1
    repeat wtm_at "m"
    refine r_ite (fun hb => absurd hb (by decide)) fun hb => ?_
    repeat wtm_at "m"
    refine r_ite (fun hb => absurd hb (by decide)) fun hb => ?_
    repeat wtm_at "m"
    refine r_ite (fun hb => absurd hb (by decide)) fun hb => ?_
    repeat (fail_if_success (with_reducible show wpAny _ _ (exec (.Expr _ _) _) _ _ _)); wtm_at "m"
    have ea : deedAns ⟨ld, 0, nm, kd, val⟩ f.2 = "" := by unfold deedAns; rw [if_neg (show ¬ ((0 : Int) = 2) by decide)]
    have et : deedTb ⟨ld, 0, nm, kd, val⟩ f.2 = f.2 ++ [(nm, val)] := by unfold deedTb; rw [if_pos rfl]
    exact UpN.mono ‹_› (fin (εx := []) (ans := "") ea.symm b1 (by rw [et]; exact H1) (St.vars (by assumption) ⟨rfl, rfl, rfl, rfl, rfl, trivial⟩))
  · refine r_ite (fun hb => absurd hb (by decide)) fun hb => ?_
    repeat wtm_at "m"
    refine r_ite (fun hb => ?_) fun hb => absurd hb (by decide)
    repeat wtm_at "m"
    ((with_reducible refine' wpAny_Assign_Subscript (hs := ?mu105) ?_); (case mu105 => exact rfl))
    repeat wtm_at "m"
    refine r_setItemOwn (f := 211) W ‹St _ _ _ _ _ _› i1 j1 (by k_is) (by k_is) (by k_is) ?_
    refine hd_set W ‹St _ _ _ _ _ _› hh (by first | exact room hdp rfl | omega) (by first | exact room hu rfl | omega) H Gq hnm.1 hnm.2 (fun x hx => (hfn x hx).1) (by omega) ?_
    intro s1 σ1 b1 H1 S1
    repeat wtm_at "m"
    refine r_ite (fun hb => absurd hb (by decide)) fun hb => ?_
    repeat wtm_at "m"
    refine r_ite (fun hb => absurd hb (by decide)) fun hb => ?_
    repeat (fail_if_success (with_reducible show wpAny _ _ (exec (.Expr _ _) _) _ _ _)); wtm_at "m"
    have ea : deedAns ⟨ld, 1, nm, kd, val⟩ f.2 = "" := by unfold deedAns; rw [if_neg (show ¬ ((1 : Int) = 2) by decide)]
    have et : deedTb ⟨ld, 1, nm, kd, val⟩ f.2 = (f.2.filter fun p => low p.1 != low nm) ++ [(nm, val)] := by unfold deedTb; rw [if_neg (show ¬ ((1 : Int) = 0) by decide), if_pos rfl]
    exact UpN.mono ‹_› (fin (εx := []) (ans := "") ea.symm b1 (by rw [et]; exact H1) (St.vars (by assumption) ⟨rfl, rfl, rfl, rfl, rfl, trivial⟩))
  · refine r_ite (fun hb => absurd hb (by decide)) fun hb => ?_
    repeat wtm_at "m"
    refine r_ite (fun hb => absurd hb (by decide)) fun hb => ?_
    repeat wtm_at "m"
    refine r_ite (fun hb => ?_) fun hb => absurd hb (by decide)
    repeat wtm_at "m"
    refine hd_default W ‹St _ _ _ _ _ _› hh (by first | exact room hdp rfl | omega) (by first | exact room hu rfl | omega) H Gq hnm.1 hnm.2 (fun x hx => (hfn x hx).1) (by omega) ?_
    intro t s1 σ1 b1 H1 S1
    repeat wtm_at "m"
    refine r_ite (fun hb => absurd hb (by decide)) fun hb => ?_
    repeat (fail_if_success (with_reducible show wpAny _ _ (exec (.Expr _ _) _) _ _ _)); wtm_at "m"
    have ea : deedAns ⟨ld, 2, nm, kd, val⟩ f.2 = ansOf f.2 nm val := by unfold deedAns; rw [if_pos rfl]
    have et : deedTb ⟨ld, 2, nm, kd, val⟩ f.2 = defTb f.2 nm val := by unfold deedTb; rw [if_neg (show ¬ ((2 : Int) = 0) by decide), if_neg (show ¬ ((2 : Int) = 1) by decide), if_pos rfl]
    exact UpN.mono ‹_› (fin (εx := []) (ans := ansOf f.2 nm val) ea.symm b1 (by rw [et]; exact H1) (St.vars (by assumption) ⟨rfl, rfl, rfl, rfl, rfl, trivial⟩))
  · refine r_ite (fun hb => absurd hb (by decide)) fun hb => ?_
    repeat wtm_at "m"
    refine r_ite (fun hb => absurd hb (by decide)) fun hb => ?_
    repeat wtm_at "m"
    refine r_ite (fun hb => absurd hb (by decide)) fun hb => ?_
    repeat wtm_at "m"
    refine r_ite (fun hb => ?_) fun hb => absurd hb (by decide)
    repeat wtm_at "m"
    with_reducible refine' wpAny_Delete ?_
    with_reducible refine' wpAny_deleteEach_cons ?_
    with_reducible refine' wpAny_delete_Subscript ?_
    repeat wtm_at "m"
    refine r_delItemOwn (f := 216) W ‹St _ _ _ _ _ _› i1 j1 (by k_is) (by k_is) (by k_is) ?_
    refine hd_del W ‹St _ _ _ _ _ _› hh (by first | exact room hdp rfl | omega) (by first | exact room hu rfl | omega) H Gq hnm.1 (fun x hx => (hfn x hx).1) (by omega) ?_
    intro s1 σ1 b1 H1 S1
    repeat (fail_if_success (with_reducible show wpAny _ _ (exec (.Expr _ _) _) _ _ _)); wtm_at "m"
    have ea : deedAns ⟨ld, 3, nm, kd, val⟩ f.2 = "" := by unfold deedAns; rw [if_neg (show ¬ ((3 : Int) = 2) by decide)]
    have et : deedTb ⟨ld, 3, nm, kd, val⟩ f.2 = f.2.filter fun p => low p.1 != low nm := by unfold deedTb; rw [if_neg (show ¬ ((3 : Int) = 0) by decide), if_neg (show ¬ ((3 : Int) = 1) by decide), if_neg (show ¬ ((3 : Int) = 2) by decide), if_pos rfl]
    exact UpN.mono ‹_› (fin (εx := []) (ans := "") ea.symm b1 (by rw [et]; exact H1) (St.vars (by assumption) ⟨rfl, rfl, rfl, rfl, rfl, trivial⟩))
end
section
variable {w : World} {A : Around} {E : Value → Shared → Prop} {s z : Shared} {mg mb : Str → Option Value} {G : Addr → Option (Obj × Bool)} {env : Env} {ε : Vars} {σ : Sto}
noncomputable def RowNm (w : World) (r : Rw) : Prop := Nm w (r.name, r.value) ∧ r.value.length ≤ 1000 ∧ r.lead.length ≤ 50 ∧ r.name.length ≤ 50
theorem rowAt_mem {rs : List Rw} {i : Nat} (h : i < rs.length) : rowAt rs i ∈ rs := by
  unfold rowAt
  rw [List.getD_eq_getElem?_getD, List.getElem?_eq_getElem h]
  exact List.getElem_mem h
theorem here_ok {rs : List Rw} (ok : ∀ r ∈ rs, RowOk r) {i : Nat} (h : i < rs.length) : (hereOf rs i).Ok ∧ longest (hereOf rs i) ≤ 6 := by
  have r := ok _ (rowAt_mem h)
  refine ex1 r.lead fun m z0x0r => ?_
  refine and2 z0x0r fun hm e => ?_
  have l := here_like r hm e
  exact ⟨like_ok l, like_long l⟩
theorem popW_sub {h : Ws} : ∀ {P : List Frame}, ∀ f ∈ popW h P, f ∈ P
  | [], f, hf => hf
  | p :: r, f, hf => by
    unfold popW at hf
    split at hf
    · exact List.mem_cons_of_mem _ (popW_sub f hf)
    · exact hf
theorem tPush_sub {h : Ws} {P : List Frame} {f : Frame} (hf : f ∈ tPush h P) : f ∈ P ∨ f.1 = h := by
  cases P with
  | nil => exact .inl hf
  | cons p r =>
    have hf : f ∈ (if lessB p.1 h then (h, p.2) :: p :: r else p :: r) := hf
    split at hf
    · rcases List.mem_cons.mp hf with rfl | hf
      · exact .inr rfl
      · exact .inl hf
    · exact .inl hf
theorem tPile_ok {w : World} {rs : List Rw} (ok : ∀ r ∈ rs, RowOk r) {i : Nat} (hi : i < rs.length) {P : List Frame} (o : POk w (2 * i) P) (l : ∀ f ∈ P, longest f.1 ≤ 6) :
    POk w (2 * i + 1) (tPush (hereOf rs i) P) ∧ POk w (2 * i + 1) (popW (hereOf rs i) (tPush (hereOf rs i) P)) ∧ ∀ f ∈ popW (hereOf rs i) (tPush (hereOf rs i) P), longest f.1 ≤ 6 := by
  refine and2 (here_ok ok hi) fun hk hl => ?_
  have o1 := (o.up (Nat.le_succ _)).push hk o.hi
  refine ⟨o1, o1.pop wsOf_n, fun f hf => ?_⟩
  rcases tPush_sub (popW_sub f hf) with h | h
  · exact l f h
  · rw [h]; exact hl
theorem tRun_ok {w : World} {rs : List Rw} (ok : ∀ r ∈ rs, RowOk r) (nm : ∀ r ∈ rs, RowNm w r) : ∀ i, i ≤ rs.length → POk w (2 * i) (tRun rs i).pile ∧ (∀ f ∈ (tRun rs i).pile, longest f.1 ≤ 6) ∧ (tRun rs i).es.length = i
  | 0, _ => by
    refine ⟨⟨?_, ?_, ?_, Nat.le_refl _, ⟨[], [], rfl⟩⟩, ?_, rfl⟩
    · intro f hf; rw [List.mem_singleton.mp hf]; exact wsOf_empty.2
    · intro f hf; rw [List.mem_singleton.mp hf]; intro q hq; simp at hq
    · intro f hf; rw [List.mem_singleton.mp hf]; exact Nat.le_refl _
    · intro f hf; rw [List.mem_singleton.mp hf]; decide +kernel
  | i + 1, hi => by
    refine and3 (tRun_ok ok nm i (by omega)) fun o l e => ?_
    refine and3 (tPile_ok ok (by omega) o l) fun _ o2 l2 => ?_
    have ep : (tRun rs (i + 1)).pile = ((topF (tPile rs i (tRun rs i))).1, deedTb (rowAt rs i) (topF (tPile rs i (tRun rs i))).2) :: (tPile rs i (tRun rs i)).tail := rfl
    have o3 : POk w (2 * i + 1) (tPile rs i (tRun rs i)) := o2
    have l3 : ∀ f ∈ tPile rs i (tRun rs i), longest f.1 ≤ 6 := l2
    refine ex2 o3.ne fun f r er => ?_
    rw [er] at o3 l3 ep
    refine ⟨?_, ?_, ?_⟩
    · rw [ep]; exact o3.deed (nm _ (rowAt_mem (by omega))).1
    · rw [ep]
      intro g hg
      rcases List.mem_cons.mp hg with rfl | hg
      · exact l3 f (by simp)
      · exact l3 g (by simp only [List.tail_cons] at hg; simp [hg])
    · show ((tRun rs i).es ++ [_]).length = _
      rw [List.length_append, e]; rfl
theorem EntsAt.re {av av' : List Addr} {σ : Sto} {qs : List Addr} {es : List Ent} (h : EntsAt av σ qs es) (k : ∀ a ∈ av', a ∈ av ∨ σ a = none) : EntsAt av' σ qs es :=
  All2.mono (P' := EntAt av' σ) (fun p e ⟨il, qs, h1, h2, h3, h4⟩ => ⟨il, qs, h1, h2, h3, off_sub fun c hc => (k c hc).elim (fun m => off_mem h4 c m) fun m => ne_new h2 m⟩) h
theorem frs_some {σ : Sto} {fr : List Fa} {P : List Frame} (h : All2 (FrAt σ) fr P) : ∀ x, x ∈ (fr.map fun p => p.2.2.2) → ∃ ao, σ x = some ao := fun x hx => by
  refine ex1 (List.mem_map.mp hx) fun q z5x0r => ?_
  refine and2 z5x0r fun hq z5x2 => ?_
  subst z5x2
  exact (frs_list h q hq).elim fun vs h => ⟨_, h⟩
theorem nodup1 {a : Addr} : [a].Nodup := List.nodup_cons.mpr ⟨by simp, List.nodup_nil⟩
theorem read {rl tl bm : Addr} {ob : Obj} {ps : List Addr} {rs : List Rw} {outer : List Env} {Q : Value → Shared → Prop} (W : Wd (kk w.params) mg mb z.heap) (B : BMod z.heap mainGlobals mg bm ob) (S0 : St z G env ε σ s) (hh : A.handled = none) (hdp : A.depth + 200 < recursionLimit) (hu : A.units + 1000 < cLine)
   (hfr : A.frames = some (env :: outer)) (hef : env.frame = some env.locals) (FO : FG z G outer)
   (hr : σ rl = some (.list (ps.map .ref))) (R : RwsAt σ ps rs) (hz : rs.length ≤ 50) (ok : ∀ r ∈ rs, RowOk r) (nm : ∀ r ∈ rs, RowNm w r) (hP : σ 147 = some (.raw tabP)) (GP : G 147 = none)
   (ht : σ tl = some (.list [])) (Gt : G tl = none) (hrt : rl ≠ tl)
   (h0 : ∀ qs s' σ', (∀ j, j < rs.length → tBad rs j (tRun rs j) = false) → But [tl] σ σ' → σ' tl = some (.list (qs.map .ref)) → EntsAt [] σ' qs (tRun rs rs.length).es → St z G env ε σ' s' → Q .none s')
   (h1 : ∀ i qs e d t g s₁ h' σ' X, i < rs.length → (∀ j, j < i → tBad rs j (tRun rs j) = false) → tBad rs i (tRun rs i) = true → But [tl] σ σ' → σ' tl = some (.list (qs.map .ref)) → EntsAt [] σ' qs (tRun rs i).es →
     σ e = none → G e = none → σ' e = some (.raw (· = excO 76 t (some d))) → σ' d = some (.ns 3 (nagFs (tErr rs i (tRun rs i)).1 (tErr rs i (tRun rs i)).2.1 (tErr rs i (tRun rs i)).2.2)) →
     (AllBare z.gens → AllBare g) → St { z with gens := g } G env ε σ' s₁ → (∀ b ∈ X, z.heap.get? b = none ∧ σ' b = none) → Fly s₁.heap X (env :: outer) 76 e d .none h' → E (.ref e) { s₁ with heap := h' }) :
   wpAny (model PySem.Challenge.pw_pe0273_01 w) A (call (.ref 316) [.ref rl, .ref tl]) Q E s := by
  have hh' : ∀ e, (A.deeper e).handled = none := fun e => hh
  refine enterC (binds := [("rows", .ref rl), ("told", .ref tl)]) W S0 (by first | exact room0 hdp | omega) (by exact rfl) (by k_is) rfl rfl rfl rfl (fun L => by exact rfl) (by exact rfl) (by exact rfl) ?_
  intro L s₁ env' C₁ S₁
  have hh := hh' env'
  have F1 := FO.into S0 hef
  let G' := hidden G σ s.heap
  have GP' : G' 147 = none := hidden_sto GP hP
  have Gt' : G' tl = none := hidden_sto Gt ht
  refine LetW.of ?_
  repeat wtm_at "m"
  refine new_ws W ‹St _ _ _ _ _ _› hh (by first | exact dpt hdp rfl | (simp only [depth_deeper]; omega)) (by first | exact upt hu rfl | (simp only [units_deeper]; omega)) (by decide) ?_
  intro a0 s2 σ1 g1 w1 S2
  repeat wtm_at "m"
  refine r_newList ‹St _ _ _ _ _ _› (Nat.le_of_ble_eq_true rfl) ?_
  intro PL s3 σ2 hPL GPL g2 PL2 S3
  repeat wtm_at "m"
  refine new_hd0 W ‹St _ _ _ _ _ _› hh (by first | exact dpt hdp rfl | (simp only [depth_deeper]; omega)) (by first | exact upt hu rfl | (simp only [units_deeper]; omega)) ?_
  intro b0 d0 l0 s4 σ3 hl0 Gl0 g3 H3 S4
  repeat wtm_at "m"
  refine r_newList ‹St _ _ _ _ _ _› (Nat.le_of_ble_eq_true rfl) ?_
  intro TL s5 σ4 hTL GTL g4 TL4 S5
  repeat wtm_at "m"
  have g12 := g1.trans g2
  have g14 := (g12.trans g3).trans g4
  refine r_enumerate ‹St _ _ _ _ _ _› (g14.get hr) ?_
  intro e it s6 σ5 he hit eit Ge Gi g5 e5 it5 S6
  repeat wtm_at "m"
  refine r_iterEnum ‹St _ _ _ _ _ _› e5 ?_
  have ht5 : σ5 tl = some (.list (([] : List Addr).map .ref)) := g5.get (g14.get ht)
  have PL5 : σ5 PL = some (.list [.ref a0]) := g5.get (g4.get (g3.get PL2))
  have TL5 : σ5 TL = some (.list [.ref b0]) := g5.get TL4
  have hr5 := g5.get (g14.get hr)
  have R5 := R.keep (g14.trans g5).keep
  have w5 := w1.grow (((g2.trans g3).trans g4).trans g5)
  have H5 := H3.grow (g4.trans g5)
  obtain ⟨l0s, l05⟩ : ∃ vs, σ3 l0 = some (.list vs) := by obtain ⟨ps, _, _, h3, _⟩ := H3; exact ⟨_, h3⟩
  have tl_PL : tl ≠ PL := ne_new (g1.get ht) hPL
  have tl_TL : tl ≠ TL := ne_new ((g12.trans g3).get ht) hTL
  have tl_e : tl ≠ e := ne_new (g14.get ht) he
  have tl_it : tl ≠ it := ne_new (g14.get ht) hit
  have PL_TL : PL ≠ TL := ne_new (g3.get PL2) hTL
  have PL_e : PL ≠ e := ne_new (g4.get (g3.get PL2)) he
  have PL_it : PL ≠ it := ne_new (g4.get (g3.get PL2)) hit
  have TL_e : TL ≠ e := ne_new TL4 he
  have TL_it : TL ≠ it := ne_new TL4 hit
  have l0_off : off l0 [tl, PL, TL, e, it] := ⟨Ne.symm (ne_new (g12.get ht) hl0), Ne.symm (ne_new PL2 hl0), ne_new l05 hTL, ne_new (g4.get l05) he, ne_new (g4.get l05) hit, trivial⟩
  have rl_off : off rl [tl, PL, TL, e, it, l0] := ⟨hrt, ne_new (g1.get hr) hPL, ne_new ((g12.trans g3).get hr) hTL, ne_new (g14.get hr) he, ne_new (g14.get hr) hit, ne_new (g12.get hr) hl0, trivial⟩
  have GPL' : G' PL = none := GPL
  have GTL' : G' TL = none := GTL
  let av := [tl, PL, TL, e, it]
  have hlen := R.length
  have l0n : σ l0 = none := none_of g12 hl0
  have bAll : But [tl] σ σ5 := (g14.trans g5).but
  have hnew : ∀ l ∈ [tl, PL, TL, e, it, l0], l ∈ [tl] ∨ σ l = none := allc (.inl m0) (allc (.inr (none_of g1 hPL)) (allc (.inr (none_of (g12.trans g3) hTL)) (allc (.inr (none_of g14 he)) (allc (.inr (none_of g14 hit)) (alls (.inr l0n))))))
  refine r_loop (D := List Fa × List Addr) rs.length (fun _ _ => [("pile", .ref PL), ("tables", .ref TL), ("told", .ref tl)])
    (fun i d σ' => But [tl, PL, TL, e, it, l0] σ5 σ' ∧ Keep isH σ5 σ' ∧ σ' e = some (enmO it i) ∧ σ' it = some (litO rl i) ∧ σ' tl = some (.list (d.2.map .ref)) ∧ Pl G' av PL TL σ' d.1 (tRun rs i).pile ∧
      EntsAt (av ++ d.1.map fun p => p.2.2.2) σ' d.2 (tRun rs i).es ∧ (∀ p ∈ d.1, p.2.2.2 = l0 ∨ σ5 p.2.2.2 = none) ∧ ∀ j, j < i → tBad rs j (tRun rs j) = false)
    ([(a0, b0, d0, l0)], []) (S6.vars ⟨rfl, rfl, rfl, trivial⟩) ⟨But.refl, Keep.refl, e5, it5, ht5, ⟨PL5, TL5, ⟨⟨w5, H5⟩, trivial⟩, nodup1, alls l0_off, alls Gl0⟩, trivial, alls (.inl rfl), fun j hj => absurd hj (Nat.not_lt_zero _)⟩ ?_ ?_
  · rintro i ⟨fr, qs⟩ σ' s hi S H
    refine and9 H fun b kp e' it' tl' p' en' fl' hok => ?_
    dsimp only at S tl' p' en' fl' ⊢
    refine and3 (tRun_ok (w := w) ok nm i (Nat.le_of_lt hi)) fun o' lo' esl => ?_
    refine and3 (tPile_ok ok hi o' lo') fun o1 o2 lo2 => ?_
    have hk := (here_ok ok hi).1
    have hl := (here_ok ok hi).2
    have erow : rowAt rs i = rs[i] := by unfold rowAt; rw [List.getD_eq_getElem?_getD, List.getElem?_eq_getElem hi]; rfl
    have hrow := nm _ (rowAt_mem hi)
    have hrok := ok _ (rowAt_mem hi)
    refine ex11 ((R5.keep kp.toT).get (i := i) (b := rs[i]) (List.getElem?_eq_getElem hi)) fun pr hpr epr => ?_
    rw [← erow] at epr
    refine r_nextEnum S e' it' Ge Gi (b.get hr5 rl_off) (av := .ref pr) (by rw [List.getElem?_map, hpr]; rfl) ?_
    intro t s σ6 htn Gtn b6 e6 it6 t6 kp6 S7
    refine ⟨_, rfl, ?_⟩
    refine r_letEnum S7 e6 Ge ?_
    intro s S8
    have te : t ≠ e := ne_kind t6 e6 (by intro q; cases q)
    have k6 : Keep isH σ' σ6 := Keep.ofBut b6 (allc (fun _ => some_p (P := fun o => ¬ isH o) e' id) (alls fun _ => some_p (P := fun o => ¬ isH o) it' id))
    have t8 := upd_off (ao := enmO it ((i : Int) + 1)) t6 te
    have it8 := upd_off (ao := enmO it ((i : Int) + 1)) it6 (Ne.symm eit)
    have e8 := upd_self (σ := σ6) (a := e) (o := enmO it ((i : Int) + 1))
    have kS : Keep isH σ' (upd σ6 e (enmO it ((i : Int) + 1))) := k6.trans (Keep.upd e6 fun q => q)
    have bS : But [e, it] σ' (upd σ6 e (enmO it ((i : Int) + 1))) := b6.trans (But.upd m0)
    generalize upd σ6 e (enmO it ((i : Int) + 1)) = σ8 at *
    have b8 := b.trans (bS.mono (allc m3 (alls m4)))
    have kp8 := kp.trans kS
    have epr8 := kS _ _ epr trivial
    have tl8 := bS.get tl' ⟨tl_e, tl_it, trivial⟩
    have p8 := p'.step kS bS (allc m3 (alls m4)) (bS.get p'.pl ⟨PL_e, PL_it, trivial⟩) (bS.get p'.tl ⟨TL_e, TL_it, trivial⟩)
    have en8 := en'.step bS kS.toT (allc m3 (alls m4))
    have avs8 : ∀ b ∈ av, ∃ ao, σ8 b = some ao := allc ⟨_, tl8⟩ (allc ⟨_, p8.pl⟩ (allc ⟨_, p8.tl⟩ (allc ⟨_, e8⟩ (alls ⟨_, it8⟩))))
    have epr9 : σ8 pr = some (.tup [.str (rowAt rs i).lead, .int (rowAt rs i).deed, .str (rowAt rs i).name, .int (rowAt rs i).kind, .str (rowAt rs i).value]) := epr8
    repeat (fail_if_success (with_reducible show wpAny _ _ (execs _ _) _ _ _)); wtm_at "m"
    refine wpAny_execs_cons (rd_here (ld := (rowAt rs i).lead) (nm := (rowAt rs i).name) (εr := [("pile", .ref PL), ("tables", .ref TL), ("told", .ref tl), ("place", .int i), ("deed", .int (rowAt rs i).deed), ("value", .str (rowAt rs i).value)]) W hh (by first | exact dpt hdp rfl | (simp only [depth_deeper]; omega)) (by first | exact upt hu rfl | (simp only [units_deeper]; omega))
      (St.vars (by assumption) ⟨rfl, rfl, rfl, rfl, rfl, rfl, rfl, rfl, trivial⟩) ⟨hrow.2.2.1, hrow.2.2.2⟩ ?_)
    intro a s9 σ9 g9 a9 S9
    have ehere : wsOf ((rowAt rs i).lead ++ (rowAt rs i).name) = hereOf rs i := rfl
    rw [ehere] at a9
    have p9 := p8.grow g9
    have avs9 : ∀ b ∈ av, ∃ ao, σ9 b = some ao := fun b hb => let ⟨ao, h⟩ := avs8 b hb; ⟨ao, g9.get h⟩
    refine wpAny_execs_cons (rd_push (av := av) (n := 2 * i) (a := a) (PL := PL) (TL := TL) (P := (tRun rs i).pile) (εr := [("told", .ref tl), ("place", .int i), ("lead", .str (rowAt rs i).lead), ("deed", .int (rowAt rs i).deed), ("name", .str (rowAt rs i).name), ("value", .str (rowAt rs i).value)]) W hh (by first | exact dpt hdp rfl | (simp only [depth_deeper]; omega)) (by first | exact upt hu rfl | (simp only [units_deeper]; omega))
      (St.vars S9 ⟨rfl, rfl, rfl, rfl, rfl, rfl, rfl, rfl, rfl, trivial⟩) a9 hk p9 o' (by have := o'.hi; omega) (by omega) GPL' GTL' PL_TL avs9 m1 m2 ?_)
    intro fr1 s10 σ10 k10 b10 p10 f10 S10
    refine wpAny_execs_cons (rd_pop (av := av) (n := 2 * i + 1) (a := a) (PL := PL) (TL := TL) (εr := [("told", .ref tl), ("place", .int i), ("lead", .str (rowAt rs i).lead), ("deed", .int (rowAt rs i).deed), ("name", .str (rowAt rs i).name), ("value", .str (rowAt rs i).value)]) W hh (by first | exact dpt hdp rfl | (simp only [depth_deeper]; omega)) (by first | exact upt hu rfl | (simp only [units_deeper]; omega))
      S10 (a9.keepH k10) hk wsOf_n p10 o1 (by omega) GPL' GTL' PL_TL m1 m2 ?_)
    intro fr2 s11 σ11 k11 b11 p11 o11 f11 S11
    have ka : Keep isH σ9 σ11 := k10.trans k11
    have ba : But [PL, TL] σ9 σ11 := b10.trans b11
    have kb : Keep isH σ8 σ11 := g9.keep.trans ka
    have bb : But [PL, TL] σ8 σ11 := g9.but.trans ba
    have fr2ok : ∀ q ∈ fr2, q ∈ fr ∨ σ9 q.2.2.2 = none := fun q hq => f10 q (f11 q hq)
    have en9 : EntsAt (av ++ fr2.map fun p => p.2.2.2) σ9 qs (tRun rs i).es := (en8.step g9.but (ls := []) g9.keep alln).re fun x hx => by
      rcases List.mem_append.mp hx with hx | hx
      · exact .inl (List.mem_append_left _ hx)
      · refine ex1 (List.mem_map.mp hx) fun q z6x0r => ?_
        refine and2 z6x0r fun hq z6x2 => ?_
        subst z6x2
        rcases fr2ok q hq with h | h
        · exact .inl (List.mem_append_right _ (List.mem_map.mpr ⟨q, h, rfl⟩))
        · exact .inr h
    have en11 := en9.step ba ka.toT (allc m1 (alls m2))
    have fl11 : ∀ q ∈ fr2, q.2.2.2 = l0 ∨ σ5 q.2.2.2 = none := fun q hq => by
      rcases fr2ok q hq with h | h
      · exact fl' q h
      · by_cases e0 : q.2.2.2 = l0
        · exact .inl e0
        · right
          have qo := p11.off q hq
          cases e5 : σ5 q.2.2.2 with
          | none => rfl
          | some ao =>
            exact absurd (h.symm.trans (g9.get (b8.get e5 ⟨qo.1, qo.2.1, qo.2.2.1, qo.2.2.2.1, qo.2.2.2.2.1, e0, trivial⟩))) (by simp)
    have b11' := b8.trans (bb.mono (allc m1 (alls m2)))
    have kp11 := kp8.trans kb
    have tl11 := bb.get tl8 ⟨tl_PL, tl_TL, trivial⟩
    have e11 := bb.get e8 ⟨Ne.symm PL_e, Ne.symm TL_e, trivial⟩
    have it11 := bb.get it8 ⟨Ne.symm PL_it, Ne.symm TL_it, trivial⟩
    have P147 : σ11 147 = some (.raw tabP) := by
      exact b11'.get ((g14.trans g5).get hP) ⟨ne_kind hP ht (by intro q; cases q), ne_new (g1.get hP) hPL, ne_new ((g12.trans g3).get hP) hTL, ne_new (g14.get hP) he, ne_new (g14.get hP) hit, ne_new (g12.get hP) hl0, trivial⟩
    have ep : tPile rs i (tRun rs i) = popW (hereOf rs i) (tPush (hereOf rs i) (tRun rs i).pile) := rfl
    rw [← ep] at p11 o11 lo2
    refine ex2 o11.ne fun f r er => ?_
    have etop : topF (tPile rs i (tRun rs i)) = f := by rw [er]; rfl
    have ebad : tBad rs i (tRun rs i) = !eqB f.1 (hereOf rs i) := by unfold tBad; rw [etop]
    have eerr : tErr rs i (tRun rs i) = ((i : Int), fmtW (witSizes f.1 (hereOf rs i)), (rowAt rs i).lead ++ (rowAt rs i).name) := by unfold tErr; rw [etop]
    rw [er] at p11 o11 lo2
    refine wpAny_execs_cons (rd_nag (av := av) (a := a) (PL := PL) (TL := TL) (i := (i : Int)) (ld := (rowAt rs i).lead) (nm := (rowAt rs i).name) (εr := [("tables", .ref TL), ("told", .ref tl), ("deed", .int (rowAt rs i).deed), ("value", .str (rowAt rs i).value)]) W B hh (by first | exact dpt hdp rfl | (simp only [depth_deeper]; omega)) (by first | exact upt hu rfl | (simp only [units_deeper]; omega))
      (St.vars S11 ⟨rfl, rfl, rfl, rfl, rfl, rfl, rfl, rfl, rfl, trivial⟩) (a9.keepH ka) hk hl p11 (o11.ok f m0) (lo2 f m0) (by have := o11.hi; simp only [List.length_cons] at this; omega) ⟨hrow.2.2.1, hrow.2.2.2⟩ P147 GP' ?_ ?_)
    · intro hb s12 S12
      have hbad : tBad rs i (tRun rs i) = false := by rw [ebad, hb]; rfl
      cases fr2 with
      | nil => exact p11.at_.elim
      | cons q fr2 =>
      refine rd_tail (av := av) (n := 2 * i + 1) (PL := PL) (TL := TL) (row := rowAt rs i) (εr := []) W hh (by first | exact dpt hdp rfl | (simp only [depth_deeper]; omega)) (by first | exact upt hu rfl | (simp only [units_deeper]; omega))
        (St.vars S12 ⟨rfl, rfl, rfl, rfl, rfl, rfl, trivial⟩) p11 o11 (by omega) hrok.deed hrow.1 hrow.2.1 m1 m2 m0 tl_PL tl_TL tl11 Gt' (by have := en'.length; omega) ?_
      intro tp s13 σ13 k13 b13 p13 tl13 en13 S13
      have qo := p11.off q m0
      have epile : (tRun rs (i + 1)).pile = (f.1, deedTb (rowAt rs i) f.2) :: r := by
        show ((topF (tPile rs i (tRun rs i))).1, deedTb (rowAt rs i) (topF (tPile rs i (tRun rs i))).2) :: (tPile rs i (tRun rs i)).tail = _
        rw [er]; rfl
      have ees : (tRun rs (i + 1)).es = (tRun rs i).es ++ [⟨((f :: r).length : Int), deedAns (rowAt rs i) f.2, deedTb (rowAt rs i) f.2⟩] := by
        show (tRun rs i).es ++ [⟨((tPile rs i (tRun rs i)).length : Int), deedAns (rowAt rs i) (topF (tPile rs i (tRun rs i))).2, deedTb (rowAt rs i) (topF (tPile rs i (tRun rs i))).2⟩] = _
        rw [er]; rfl
      have ei : (((i + 1 : Nat)) : Int) = (i : Int) + 1 := by omega
      refine LetQ.up ‹LetQ _ _ _ _› _ _ ?_
      refine ⟨(q :: fr2, qs ++ [tp]), σ13, S13, b11'.fresh b13 ?_, kp11.trans k13, ?_, ?_, tl13, ?_, ?_, fl11, ?_⟩
      · exact allc ((fl11 q m0).imp (fun h => by rw [h]; exact m5) id) (alls (.inl m0))
      · rw [ei]; exact b13.get e11 ⟨Ne.symm qo.2.2.2.1, Ne.symm tl_e, trivial⟩
      · exact b13.get it11 ⟨Ne.symm qo.2.2.2.2.1, Ne.symm tl_it, trivial⟩
      · rw [epile]; exact p13
      · rw [ees]
        refine All2.append (en11.step b13 k13.toT ?_) ⟨en13 _ ?_, trivial⟩
        · exact allc (List.mem_append_right _ m0) (alls (List.mem_append_left _ m0))
        · exact alla (allc ⟨_, tl11⟩ (allc ⟨_, p11.pl⟩ (allc ⟨_, p11.tl⟩ (allc ⟨_, e11⟩ (alls ⟨_, it11⟩))))) (frs_some p11.at_)
      · intro j hj
        exact (Nat.lt_succ_iff_lt_or_eq.mp hj).elim (hok j) fun q => of_eq (P := fun j => tBad rs j (tRun rs j) = false) q hbad
    · intro hb x d t g s12 σ12 ε' bare hx Gx g12' x12 d12 S12
      have hbad : tBad rs i (tRun rs i) = true := by rw [ebad, hb]; rfl
      refine ex11 (S12.obj _ _ x12) fun ox hox eox => ?_
      subst eox
      have FR := FG.frames (z := { z with gens := g }) F1 S12 rfl
      refine LetQ.er ‹LetQ _ _ _ _› _ _ ?_
      refine fly_out (outer := env :: outer) (Around.frames_deeper hfr) FR.1 rfl hox fun h' Fl => ?_
      have S13 : St { z with gens := g } G env ε σ12 s12 := S0.backG S12
      refine h1 i qs x d t g s12 h' σ12 (frL (env' :: env :: outer)) hi hok hbad (bAll.fresh (b11'.trans g12'.but) hnew) (g12'.get tl11) ((en11.step g12'.but (ls := []) g12'.keep alln).re alln) ?_ (G_of_hidden Gx) x12 (by rw [eerr]; exact d12) bare S13 FR.2 Fl
      cases ex : σ x with
      | none => rfl
      | some ao =>
        exfalso
        have e5' := (g14.trans g5).get ex
        have no : ∀ {b : Addr} {ao : AO}, σ11 b = some ao → x ≠ b := fun h => Ne.symm (ne_new h hx)
        have := b11'.get e5' ⟨no tl11, no p11.pl, no p11.tl, no e11, no it11, ne_new ex l0n, trivial⟩
        rw [hx] at this; cases this
  · rintro ⟨fr, qs⟩ σ' s S H
    refine and9 H fun b kp e' it' tl' p' en' fl' hok => ?_
    dsimp only at S tl' p' en' fl' ⊢
    refine r_endEnum S hh e' it' Gi (b.get hr5 rl_off) (by rw [List.length_map, hlen]; exact Nat.le_refl _) ?_
    intro s S
    refine ⟨rfl, ?_⟩
    repeat wtm_at "m"
    have bR : But [it] σ' (rem σ' it) := But.rem m0
    have kR : Keep isT σ' (rem σ' it) := Keep.rem it' fun q => q
    exact h0 qs _ (rem σ' it) hok (bAll.fresh (b.trans (bR.mono (alls m4))) hnew) (rem_off tl' tl_it) ((en'.step bR kR (alls m4)).re alln) (S0.back (by assumption))
end
section
section
variable {M : Model} {A : Around} {E : Value → Shared → Prop} {s z : Shared} {G : Addr → Option (Obj × Bool)} {env : Env} {ε : Vars} {σ : Sto}
theorem St.forget {h' : Heap} {t : Nat} {m : Str → Option Value} (S : St z G env ε σ s) (hn : h'.Ns env.locals m) (hs : Heap.SameBut env.locals s.heap h') : St z G env [] σ { s with heap := h', toks := t } := by
  have k : ∀ b o, b ≠ env.locals → s.heap.get? b = some o → h'.get? b = some o := fun b o n e => (hs.2 b n).trans e
  refine { S with adv := S.adv.trans ⟨rfl, rfl⟩, prot := ?_, loc := ⟨m, hn, fun x av e => by cases e⟩, cel := ?_, fre := ?_, obj := ?_ }
  · intro b o fl e
    exact k b o (fun q => by have := S.locG; rw [← q, e] at this; cases this) (S.prot b o fl e)
  · intro y c e kd
    refine and4 (S.cel y c e kd) fun z0x0 b s n => ?_
    obtain ⟨ov, o, ho, hd⟩ := z0x0
    exact ⟨⟨ov, o, k _ _ n ho, hd⟩, fun av' q => (by cases q), s, n⟩
  · intro y c av' e kd q; cases q
  · intro a o e
    have : a ≠ env.locals := fun q => by have := S.locS; rw [← q, e] at this; cases this
    exact OR.mv (S.obj a o e) fun o' => k a o' this
theorem r_nameGoes {n : Str} {pos : Pos} {Q : Unit → Shared → Prop} (S : St z G env ε σ s) (hl : env.kindOf n = some .local) (h : ∀ s', St z G env [] σ s' → Q () s') : wpAny M A (do bindName env n .none; unbindBehindTheSuite env n pos) Q E s := by
  refine ex1 S.loc fun m z1x0r => ?_
  refine and2 z1x0r fun hm _ => ?_
  refine wpAny_nameGoes hl hm ?_ fun h' m' hn hs => h _ (S.forget hn hs)
  show (env.scope.kind == .class || (env.scope.kind == .module && env.locals != env.globals)) = false
  rw [S.fn]; rfl
end
variable {w : World} {A : Around} {E : Value → Shared → Prop} {s z : Shared} {mg mb : Str → Option Value} {G : Addr → Option (Obj × Bool)} {env : Env} {ε : Vars} {σ : Sto}
theorem told {rl bm : Addr} {ob : Obj} {ps : List Addr} {rs : List Rw} {Q : Value → Shared → Prop} (W : Wd (kk w.params) mg mb z.heap) (B : BMod z.heap mainGlobals mg bm ob) (S0 : St z G env ε σ s) (hh : A.handled = none) (hdp : A.depth + 300 < recursionLimit) (hu : A.units + 1200 < cLine)
   (hfr : A.frames = some [env]) (hef : env.frame = some env.locals) (hGz : ∀ b p, G b = some p → z.heap.get? b = some p.1) (hc : env.cells = [])
   (hr : σ rl = some (.list (ps.map .ref))) (R : RwsAt σ ps rs) (hz : rs.length ≤ 50) (ok : ∀ r ∈ rs, RowOk r) (nm : ∀ r ∈ rs, RowNm w r) (hP : σ 147 = some (.raw tabP)) (GP : G 147 = none)
   (h : ∀ a out g s' σ', Grow σ σ' → ToldOut rs out → OutAt σ' a out → (AllBare z.gens → AllBare g) → St { z with gens := g } G env ε σ' s' → Q (.ref a) s') :
   wpAny (model PySem.Challenge.pw_pe0273_01 w) A (call (.ref 323) [.ref rl]) Q E s := by
  have hh' : ∀ e, (A.deeper e).handled = none := fun e => hh
  refine enterC (binds := [("rows", .ref rl)]) W S0 (by first | exact room0 hdp | omega) (by exact rfl) (by k_is) rfl rfl rfl rfl (fun L => by exact rfl) (by exact rfl) (by exact rfl) ?_
  intro L s₁ env' C₁ S₁
  have hh := hh' env'
  have F1 := (FG.nil (z := z) (G := G)).into S0 hef
  let G' := hidden G σ s.heap
  have GP' : G' 147 = none := hidden_sto GP hP
  repeat wtm_at "m"
  refine r_newList ‹St _ _ _ _ _ _› (Nat.le_of_ble_eq_true rfl) ?_
  intro tl s3 σ1 htl Gtl g1 tl1 S3
  repeat wtm_at "m"
  refine wpAny_Try_except ?_
  repeat wtm_at "m"
  refine read (outer := [env]) W B ‹St _ _ _ _ _ _› hh (by first | exact dpt hdp rfl | (simp only [depth_deeper]; omega)) (by first | exact upt hu rfl | (simp only [units_deeper]; omega)) (Around.frames_deeper hfr) rfl F1 (g1.get hr) (R.keep g1.keep) hz ok nm (g1.get hP) GP' tl1 Gtl (ne_new hr htl) ?_ ?_
  · intro qs s4 σ4 hok b4 tl4 en4 S4
    repeat wtm_at "m"
    refine r_newTup ‹St _ _ _ _ _ _› (Nat.le_of_ble_eq_true rfl) ?_
    intro a s5 σ5 ha Ga g5 a5 S5
    repeat wtm_at "m leave"
    exact h a ((tRun rs rs.length).es, none) z.gens _ σ5 (((b4.drop g1 htl).grow).trans g5) (.inr ⟨hok, rfl⟩) ⟨tl, qs, en4.step g5.but (ls := []) g5.keep (by simp), g5.get tl4, a5⟩ id (S0.back S5)
  · intro i qs e d t g s4 h4 σ4 X hi hok hbad b4 tl4 en4 he Ge e4 d4 bare S4 hX Fl
    have W' : Wd (kk w.params) mg mb ({ z with gens := g } : Shared).heap := W
    have hbk : ∀ {ε' : Vars} {σ' : Sto} {s' : Shared} {h5 : Heap}, Fly s4.heap X [env', env] 76 e d .none h5 → St { z with gens := g } (relab G' h5) env' ε' σ' s' → St { z with gens := g } G env ε σ' s' := by
      intro ε' σ' s' h5 F5 S'
      refine ex1 S0.loc fun m z2x0r => ?_
      refine and2 z2x0r fun z2x1 _ => ?_
      obtain ⟨o, es, ep, ho, hd', r⟩ := z2x1
      have Ge' : G' e = none := Ge
      have Gl : G' env.locals = some (o, false) := hidden_off S0.locG S0.locS ho
      have lX : env.locals ∈ X := F5.sub _ (by simp [frL, hef])
      have le : env.locals ≠ e := fun q => by rw [q, Ge'] at Gl; cases Gl
      refine ex1 (F5.slots _ _ (S4.prot _ _ _ Gl) le lX) fun sl hl => ?_
      refine S0.backS S' rfl hGz (fun b o f q => ?_) ho (relab_some Gl hl) hc
      have q' : G' b = some (o, f) := hidden_G q
      have zb := hGz b _ q
      exact ⟨o, relab_some q' (F5.stays b o (S4.prot _ _ _ q') (fun z => by rw [z, Ge'] at q'; cases q') (fun m => by rw [(hX b m).1] at zb; cases zb))⟩
    have hz' : ∀ b ∈ X, ({ z with gens := g } : Shared).heap.get? b = none := fun b hb => (hX b hb).1
    have hX' : ∀ b ∈ X, σ4 b = none := fun b hb => (hX b hb).2
    have h' := fun a out s' σ' => h a out g s' σ'
    clear h
    generalize ({ z with gens := g } : Shared) = z' at *
    refine Fl.next (s := { s4 with heap := h4 }) (Around.frames_deeper hfr) rfl fun h5 F5 => ?_
    refine F5.set (s := { s4 with heap := h5 }) fun h6 F6 => ?_
    have S6 := S4.flown F6 hz' hX' e4 Ge rfl
    refine wpAny_handleBy_cons (codeAny_handlers_test ?_) (by intro q; cases q)
    wtm_at "m"
    refine r_matches (d := d) (bm := [.type "Exception", .type "BaseException", .type "object"]) (by decide +kernel) (exc_cls (W'.X.keeps S6.base)) (S6.obj _ _ upd_self).choose_spec.1 (S6.obj _ _ upd_self).choose_spec.2.1 ?_
    refine codeAny_handlers_suite_as ?_
    refine F6.set (s := { s4 with heap := h6 }) fun h7 F7 => ?_
    have S7 := S4.flown F7 hz' hX' e4 Ge rfl
    have hb7 : ∀ {ε' : Vars} {σ' : Sto} {s' : Shared}, St z' (relab (hidden G σ s.heap) h7) env' ε' σ' s' → St z' G env ε σ' s' := hbk F7
    have he0 : σ e = none := none_of g1 he
    clear hbk F5 F6 S6
    generalize relab (hidden G σ s.heap) h7 = G7 at *
    show wpAny _ _ _ _ _ ({ s4 with heap := h7 } : Shared)
    clear F7
    generalize ({ s4 with heap := h7 } : Shared) = s7 at *
    have e7 : (upd σ4 e (.raw (excP 76 d))) e = some (.raw (excP 76 d)) := upd_self
    have de : d ≠ e := ne_kind d4 e4 (by intro q; cases q)
    have d7 := upd_off (ao := .raw (excP 76 d)) d4 de
    have tle : tl ≠ e := ne_new tl1 he
    have tl7 := upd_off (ao := .raw (excP 76 d)) tl4 tle
    have en7 : EntsAt [] (upd σ4 e (.raw (excP 76 d))) qs (tRun rs i).es := All2.mono (P' := EntAt [] (upd σ4 e (.raw (excP 76 d)))) (fun p en ⟨il, qs, h1, h2, h3, h4⟩ => ⟨il, qs, upd_off h1 (ne_kind h1 e4 (by intro q; cases q)), upd_off h2 (ne_kind h2 e4 (by intro q; cases q)), h3.keep (Keep.upd e4 fun q => q), h4⟩) en4
    have g7 : Grow σ (upd σ4 e (.raw (excP 76 d))) := fun a o q => by rw [upd_ne (ne_new q he0)]; exact (b4.drop g1 htl).grow a o q
    generalize upd σ4 e (.raw (excP 76 d)) = σ7 at *
    repeat wtm_at "m"
    have hdm : ((A.deeper env').mark (some (Value.ref e))).depth + 20 < recursionLimit := by show A.depth + 1 + 20 < recursionLimit; omega
    refine r_excMethod W' ‹St _ _ _ _ _ _› e7 d7 (by exact rfl) (by k_is) (by k_is) (by k_is) (by k_is) ?_
    repeat wtm_at "m"
    refine get_lineno W' ‹St _ _ _ _ _ _› hdm e7 d7 ?_
    intro t1 s S
    repeat wtm_at "m"
    refine r_excMethod W' ‹St _ _ _ _ _ _› e7 d7 (by exact rfl) (by k_is) (by k_is) (by k_is) (by k_is) ?_
    repeat wtm_at "m"
    refine get_msg W' ‹St _ _ _ _ _ _› hdm e7 d7 ?_
    intro t2 s S
    repeat wtm_at "m"
    refine r_excMethod W' ‹St _ _ _ _ _ _› e7 d7 (by exact rfl) (by k_is) (by k_is) (by k_is) (by k_is) ?_
    repeat wtm_at "m"
    refine get_line W' ‹St _ _ _ _ _ _› hdm e7 d7 ?_
    intro t3 s S
    repeat wtm_at "m"
    refine r_newTup ‹St _ _ _ _ _ _› (Nat.le_of_ble_eq_true rfl) ?_
    intro ep s8 σ8 hep Gep g8 ep8 S8
    repeat wtm_at "m"
    refine r_newTup ‹St _ _ _ _ _ _› (Nat.le_of_ble_eq_true rfl) ?_
    intro a s9 σ9 ha Ga g9 a9 S9
    repeat wtm_at "m"
    refine r_nameGoes S9 (by exact rfl) ?_
    intro s10 S10
    repeat wtm_at "m leave"
    refine h' a ((tRun rs i).es, some (tErr rs i (tRun rs i))) _ σ9 ((g7.trans g8).trans g9) (.inl ⟨i, hi, hok, hbad, rfl⟩) ⟨tl, qs, ?_, (g9.get (g8.get tl7)), ep, a9, g9.get ep8⟩ bare (hb7 S10)
    exact en7.step (g8.trans g9).but (ls := []) (g8.trans g9).keep (by simp)
end
section
section
variable {prog : Program} {w : World} {A : Around} {E : Value → Shared → Prop} {s z : Shared} {G : Addr → Option (Obj × Bool)} {env : Env} {ε : Vars} {σ : Sto}
noncomputable def EqV (A : Around) (s : Shared) (v w : AV) : Prop := ∀ x y, VR v x → VR w y → EqAt A s x y true
theorem EqV.int {i : Int} : EqV A s (.int i) (.int i) := fun x y h k => by
  obtain ⟨t, rfl⟩ := h
  obtain ⟨u, rfl⟩ := k
  have := EqAt.int_int (A := A) (s := s) i t i u
  rwa [show (i == i) = true by simp] at this
theorem EqV.str {i : Str} : EqV A s (.str i) (.str i) := fun x y h k => by
  obtain ⟨t, rfl⟩ := h
  obtain ⟨u, rfl⟩ := k
  have := EqAt.str_str (A := A) (s := s) i t i u
  rwa [show (i == i) = true by simp] at this
theorem EqV.none : EqV A s .none .none := fun x y h k => by cases h; cases k; exact EqAt.same _
theorem EqV.ref {a b : Addr} (h : EqAt A s (.ref a) (.ref b) true) : EqV A s (.ref a) (.ref b) := fun x y p q => by cases p; cases q; exact h
theorem eqv_items : ∀ {vs ws : List AV} {xs ys : List Value}, VRs vs xs → VRs ws ys → All2 (EqV A s) vs ws → xs.length = ys.length ∧ ∀ j (h1 : j < xs.length) (h2 : j < ys.length), EqAt A s xs[j] ys[j] true
  | [], [], _, _, h, k, _ => by cases h; cases k; exact ⟨rfl, fun j h => absurd h (Nat.not_lt_zero _)⟩
  | v :: vs, w :: ws, _, _, h, k, e => by
    obtain ⟨x, xs, rfl, hx, h⟩ := h
    obtain ⟨y, ys, rfl, hy, k⟩ := k
    obtain ⟨l, r⟩ := eqv_items h k e.2
    refine ⟨by simp [l], fun j h1 h2 => ?_⟩
    cases j with
    | zero => exact e.1 x y hx hy
    | succ j => exact r j (by simpa using h1) (by simpa using h2)
  | [], _ :: _, _, _, _, _, e => e.elim
  | _ :: _, [], _, _, _, _, e => e.elim
theorem rcTup {a b : Addr} {vs ws : List AV} (S : St z G env ε σ s) (hu : A.units < cLine) (ha : σ a = some (.tup vs)) (hb : σ b = some (.tup ws)) (e : All2 (EqV A.in1 s) vs ws) : RcAt A s (.ref a) (.ref b) true := by
  obtain ⟨xs, n, ho, r⟩ := S.obj _ _ ha
  obtain ⟨ys, m, hp, q⟩ := S.obj _ _ hb
  obtain ⟨l, g⟩ := eqv_items r q e
  have h := RcAt.tuples (A := A) (s := s) (l := a) (b := b) (items := xs.toArray) (items2 := ys.toArray) (e := fun _ => true) ⟨_, ho, rfl, n, rfl⟩ ⟨_, hp, rfl, m, rfl⟩ hu (fun j h1 h2 => by
    have := g j (by simpa using h1) (by simpa using h2)
    simpa using this)
  rwa [show ((List.range (min xs.toArray.size ys.toArray.size)).all (fun _ => true) && xs.toArray.size == ys.toArray.size) = true by simp [l]] at h
theorem rcLst {a b : Addr} {vs ws : List AV} (S : St z G env ε σ s) (hu : A.units < cLine) (ha : σ a = some (.list vs)) (hb : σ b = some (.list ws)) (e : All2 (EqV A.in1 s) vs ws) : RcAt A s (.ref a) (.ref b) true := by
  obtain ⟨xs, n, ho, r⟩ := S.obj _ _ ha
  obtain ⟨ys, m, hp, q⟩ := S.obj _ _ hb
  obtain ⟨l, g⟩ := eqv_items r q e
  have h := RcAt.lists (A := A) (s := s) (l := a) (b := b) (items := xs.toArray) (items2 := ys.toArray) (e := fun _ => true) (isList_of ho) (isList_of hp) (by simp [l]) hu (fun j h1 h2 => by
    have := g j (by simpa using h1) (by simpa using h2)
    simpa using this)
  rwa [show ((List.range xs.toArray.size).all (fun _ => true)) = true by simp] at h
theorem eqOf {a b : Addr} (h : RcAt A s (.ref a) (.ref b) true) : EqAt A s (.ref a) (.ref b) true := by
  by_cases e : a = b
  · subst e; exact EqAt.same _
  · exact EqAt.of_refs e h
theorem all2_refs {α : Type} {P Q : Addr → α → Prop} {R : AV → AV → Prop} (k : ∀ a b x, P a x → Q b x → R (.ref a) (.ref b)) : ∀ {as bs : List Addr} {xs : List α}, All2 P as xs → All2 Q bs xs → All2 R (as.map .ref) (bs.map .ref)
  | [], [], [], _, _ => trivial
  | a :: as, b :: bs, x :: xs, h, q => ⟨k a b x h.1 q.1, all2_refs k h.2 q.2⟩
  | [], _ :: _, [], _, q => q.elim
  | [], _, _ :: _, h, _ => h.elim
  | _ :: _, _, [], h, _ => h.elim
  | _ :: _, [], _ :: _, _, q => q.elim
theorem eqPairs {a b : Addr} {ps qs : List Addr} {tb : List (Str × Str)} (S : St z G env ε σ s) (hu : A.units + 2 < cLine) (ha : σ a = some (.list (ps.map .ref))) (hb : σ b = some (.list (qs.map .ref))) (p : PairsAt σ ps tb) (q : PairsAt σ qs tb) : EqAt A s (.ref a) (.ref b) true :=
  eqOf (rcLst S (by omega) ha hb (all2_refs (R := EqV A.in1 s) (fun c d (x : Str × Str) (hc : σ c = some (.tup [.str x.1, .str x.2])) (hd : σ d = some (.tup [.str x.1, .str x.2])) => EqV.ref (eqOf (rcTup S (by show A.units + 1 < cLine; omega) hc hd ⟨EqV.str, EqV.str, trivial⟩))) p q))
theorem eqEnts {a b : Addr} {ps qs : List Addr} {es : List Ent} (S : St z G env ε σ s) (hu : A.units + 5 < cLine) (ha : σ a = some (.list (ps.map .ref))) (hb : σ b = some (.list (qs.map .ref))) (p : EntsAt [] σ ps es) (q : EntsAt [] σ qs es) : EqAt A s (.ref a) (.ref b) true :=
  eqOf (rcLst S (by omega) ha hb (all2_refs (R := EqV A.in1 s) (fun c d x ⟨il, is, c1, c2, c3, _⟩ ⟨jl, js, d1, d2, d3, _⟩ => EqV.ref (eqOf (rcTup S (by show A.units + 1 < cLine; omega) c1 d1 ⟨EqV.int, EqV.str, EqV.ref (eqPairs S (by show A.units + 1 + 1 + 2 < cLine; omega) c2 d2 c3 d3), trivial⟩))) p q))
theorem r_eqOut {a b : Addr} {out : List Ent × Option Err} {Q : Value → Shared → Prop} (S : St z G env ε σ s) (hu : A.units + 10 < cLine) (ha : OutAt σ a out) (hb : OutAt σ b out) (h : Q (.bool true) s) : wpAny (model prog w) A (compareOp .Eq (.ref a) (.ref b)) Q E s := by
  obtain ⟨dl, ps, p, d1, a1⟩ := ha
  obtain ⟨el, qs, q, e1, b1⟩ := hb
  obtain ⟨es, er⟩ := out
  refine of_rc (k := true) ?_ h
  have el := eqEnts (A := A.in1) S (by show A.units + 1 + 5 < cLine; omega) d1 e1 p q
  cases er with
  | none => exact rcTup S (by omega) a1 b1 ⟨EqV.ref el, EqV.none, trivial⟩
  | some e =>
    obtain ⟨ep, a2, a3⟩ := a1
    obtain ⟨fp, b2, b3⟩ := b1
    exact rcTup S (by omega) a2 b2 ⟨EqV.ref el, EqV.ref (eqOf (rcTup S (by show A.units + 1 < cLine; omega) a3 b3 ⟨EqV.int, EqV.str, EqV.str, trivial⟩)), trivial⟩
end
end
section
theorem cl1 {w : World} : Clean w true "Via" := fun t => by kernel_rfl
theorem cl2 {w : World} : Clean w true "vIA" := fun t => by kernel_rfl
theorem cl3 {w : World} : Clean w true "Age" := fun t => by kernel_rfl
theorem cl4 {w : World} : Clean w true "aGE" := fun t => by kernel_rfl
theorem cl5 {w : World} : Clean w true "Te" := fun t => by kernel_rfl
theorem cl6 {w : World} : Clean w true "via" := fun t => by kernel_rfl
theorem cl7 {w : World} : Clean w true "age" := fun t => by kernel_rfl
theorem cl8 {w : World} : Clean w true "te" := fun t => by kernel_rfl
theorem lows : low "Via" = "via" ∧ low "vIA" = "via" ∧ low "Age" = "age" ∧ low "aGE" = "age" ∧ low "Te" = "te" := by decide +kernel
theorem txts : txt 0 = "0" ∧ txt 1 = "1" ∧ txt 2 = "2" ∧ txt 3 = "3" ∧ txt 4 = "4" ∧ txt 5 = "5" ∧ txt 6 = "6" ∧ txt 7 = "7" ∧ txt 8 = "8" ∧ txt 9 = "9" ∧ txt 10 = "10" := by decide +kernel
theorem cv0 {w : World} : Clean w false "0" := fun t => by kernel_rfl
theorem cv1 {w : World} : Clean w false "1" := fun t => by kernel_rfl
theorem cv2 {w : World} : Clean w false "2" := fun t => by kernel_rfl
theorem cv3 {w : World} : Clean w false "3" := fun t => by kernel_rfl
theorem cv4 {w : World} : Clean w false "4" := fun t => by kernel_rfl
theorem cv5 {w : World} : Clean w false "5" := fun t => by kernel_rfl
theorem cv6 {w : World} : Clean w false "6" := fun t => by kernel_rfl
theorem cv7 {w : World} : Clean w false "7" := fun t => by kernel_rfl
theorem cv8 {w : World} : Clean w false "8" := fun t => by kernel_rfl
theorem cv9 {w : World} : Clean w false "9" := fun t => by kernel_rfl
theorem cv10 {w : World} : Clean w false "10" := fun t => by kernel_rfl
theorem named_all {w : World} : ∀ k, k < 5 → Named w (namesL.getD k "") := by
  obtain ⟨l1, l2, l3, l4, l5⟩ := lows
  intro k h
  match k, h with
  | 0, _ => exact ⟨by show (low "Via").length ≤ 1000; rw [l1]; decide, by show Clean w true (low "Via"); rw [l1]; exact cl6, cl1⟩
  | 1, _ => exact ⟨by show (low "vIA").length ≤ 1000; rw [l2]; decide, by show Clean w true (low "vIA"); rw [l2]; exact cl6, cl2⟩
  | 2, _ => exact ⟨by show (low "Age").length ≤ 1000; rw [l3]; decide, by show Clean w true (low "Age"); rw [l3]; exact cl7, cl3⟩
  | 3, _ => exact ⟨by show (low "aGE").length ≤ 1000; rw [l4]; decide, by show Clean w true (low "aGE"); rw [l4]; exact cl7, cl4⟩
  | 4, _ => exact ⟨by show (low "Te").length ≤ 1000; rw [l5]; decide, by show Clean w true (low "Te"); rw [l5]; exact cl8, cl5⟩
theorem value_all {w : World} : ∀ p : Nat, p < 11 → Clean w false (txt p) ∧ (txt p).length ≤ 1000 := by
  obtain ⟨t0, t1, t2, t3, t4, t5, t6, t7, t8, t9, t10⟩ := txts
  intro p h
  match p, h with
  | 0, _ => exact ⟨by show Clean w false (txt 0); rw [t0]; exact cv0, by show (txt 0).length ≤ 1000; rw [t0]; decide⟩
  | 1, _ => exact ⟨by show Clean w false (txt 1); rw [t1]; exact cv1, by show (txt 1).length ≤ 1000; rw [t1]; decide⟩
  | 2, _ => exact ⟨by show Clean w false (txt 2); rw [t2]; exact cv2, by show (txt 2).length ≤ 1000; rw [t2]; decide⟩
  | 3, _ => exact ⟨by show Clean w false (txt 3); rw [t3]; exact cv3, by show (txt 3).length ≤ 1000; rw [t3]; decide⟩
  | 4, _ => exact ⟨by show Clean w false (txt 4); rw [t4]; exact cv4, by show (txt 4).length ≤ 1000; rw [t4]; decide⟩
  | 5, _ => exact ⟨by show Clean w false (txt 5); rw [t5]; exact cv5, by show (txt 5).length ≤ 1000; rw [t5]; decide⟩
  | 6, _ => exact ⟨by show Clean w false (txt 6); rw [t6]; exact cv6, by show (txt 6).length ≤ 1000; rw [t6]; decide⟩
  | 7, _ => exact ⟨by show Clean w false (txt 7); rw [t7]; exact cv7, by show (txt 7).length ≤ 1000; rw [t7]; decide⟩
  | 8, _ => exact ⟨by show Clean w false (txt 8); rw [t8]; exact cv8, by show (txt 8).length ≤ 1000; rw [t8]; decide⟩
  | 9, _ => exact ⟨by show Clean w false (txt 9); rw [t9]; exact cv9, by show (txt 9).length ≤ 1000; rw [t9]; decide⟩
  | 10, _ => exact ⟨by show Clean w false (txt 10); rw [t10]; exact cv10, by show (txt 10).length ≤ 1000; rw [t10]; decide⟩
end
section
theorem OutAt.grow {σ σ' : Sto} {a : Addr} {out : List Ent × Option Err} (h : OutAt σ a out) (g : Grow σ σ') : OutAt σ' a out := by
  refine ex2 h fun dl ps z0x0r => ?_
  refine and3 z0x0r fun p d1 a1 => ?_
  refine ⟨dl, ps, p.step g.but (ls := []) g.keep (by simp), g.get d1, ?_⟩
  cases e : out.2 with
  | none => rw [e] at a1; exact g.get a1
  | some x => rw [e] at a1; obtain ⟨ep, a2, a3⟩ := a1; exact ⟨ep, g.get a2, g.get a3⟩
theorem rowsGo_val : ∀ (ns : List Int) (place : Nat) (js : List Nat), ∀ r ∈ rowsGo ns place js, ∃ p : Nat, p < place + ns.length ∧ r.value = txt (p : Int)
  | [], _, _, r, hr => by unfold rowsGo at hr; cases hr
  | n :: ns, place, js, r, hr => by
    unfold rowsGo at hr
    rcases List.mem_cons.mp hr with rfl | hr
    · exact ⟨place, by simp, rfl⟩
    · refine ex1 (rowsGo_val ns (place + 1) _ r hr) fun p z1x0r => ?_
      refine and2 z1x0r fun hp e => ?_
      exact ⟨p, by simp only [List.length_cons]; omega, e⟩
theorem rowsF_nm {w : World} (ns : List Int) : ∀ r ∈ rowsF ns, RowNm w r := by
  intro r hr
  have ok := rowsF_ok ns r hr
  refine ex1 (rowsGo_val _ _ _ r hr) fun p z2x0r => ?_
  refine and2 z2x0r fun hp e => ?_
  replace hp : p < 11 := by have := nums_len ns; omega
  refine ex1 ok.word fun k z3x0r => ?_
  refine and3 z3x0r fun hk en _ => ?_
  have tx := (texts_ok (rowsF_ok ns)).1 r hr
  have v := value_all (w := w) p hp
  exact ⟨⟨by show Named w r.name; rw [en]; exact named_all k hk, by show Clean w false r.value; rw [e]; exact v.1⟩, by rw [e]; exact v.2, tx.1, tx.2⟩
noncomputable def fdk357 (p : Params) : { x : Value × Option Addr × FuncData × Array (Option Value) // (kk p).lookup 357 = some ⟨x.1, x.2.1, .func x.2.2.1, x.2.2.2⟩ } := ⟨(_, _, _, _), rfl⟩
noncomputable abbrev fd357 (p : Params) : FuncData := (fdk357 p).1.2.2.1
variable {w : World} {A : Around} {E : Value → Shared → Prop} {s z : Shared} {mg mb : Str → Option Value} {G : Addr → Option (Obj × Bool)} {ε : Vars} {σ : Sto}
theorem law_body {L fa nl bm : Addr} {nmq : Str} {cd : Value} {ob : Obj} {ns : List Int} {Q : Flow → Shared → Prop} (W : Wd (kk w.params) mg mb z.heap) (B : BMod z.heap mainGlobals mg bm ob)
   (S0 : St z G (envOf nmq (fd357 w.params).scope L fa cd) [("script", .ref nl)] σ s) (hh : A.handled = none) (hdp : A.depth + 400 < recursionLimit) (hu : A.units + 2000 < cLine)
   (hfr : A.frames = some [envOf nmq (fd357 w.params).scope L fa cd]) (hGz : ∀ b p, G b = some p → z.heap.get? b = some p.1)
   (hl : σ nl = some (.list (ns.map .int))) (hz : ns.length ≤ 100) (hP : σ 147 = some (.raw tabP)) (GP : G 147 = none)
   (h : ∀ g σ' s' ε', Grow σ σ' → (AllBare z.gens → AllBare g) → St { z with gens := g } G (envOf nmq (fd357 w.params).scope L fa cd) ε' σ' s' → Q (.ret (.bool true)) s') :
   wpAny (model PySem.Challenge.pw_pe0273_01 w) A (execs (bodyOf (fd357 w.params).body) (envOf nmq (fd357 w.params).scope L fa cd)) Q E s := by
  show wpAny _ _ (execs [.Assign [.Name _ _] _ _, .Return _ _] _) _ _ _
  repeat wtm_at "m"
  refine rows W ‹St _ _ _ _ _ _› hh (by first | exact room hdp rfl | omega) (by first | exact room hu rfl | omega) hl hz ?_
  intro rl ps s1 σ1 g1 r1 R1 S1
  repeat wtm_at "m"
  have hlen := rowsF_len ns
  refine told W B ‹St _ _ _ _ _ _› hh (by first | exact room hdp rfl | omega) (by first | exact room hu rfl | omega) hfr rfl hGz rfl r1 R1 (by omega) (rowsF_ok ns) (rowsF_nm ns) (g1.get hP) GP ?_
  intro a o1 g s2 σ2 g2 to1 at1 bare S2
  have W' : Wd (kk w.params) mg mb ({ z with gens := g } : Shared).heap := W
  have h' := fun σ' s' ε' => h g σ' s' ε'
  clear h
  generalize ({ z with gens := g } : Shared) = z' at *
  repeat wtm_at "m"
  refine due W' ‹St _ _ _ _ _ _› hh (by first | exact room hdp rfl | omega) (by first | exact room hu rfl | omega) (g2.get r1) (R1.keep g2.keep) (by omega) (texts_ok (rowsF_ok ns)) ?_
  intro b o2 s3 σ3 g3 do2 at2 S3
  have eo := told_due (rowsF_ok ns) do2 to1
  subst eo
  repeat wtm_at "m"
  refine r_eqOut ‹St _ _ _ _ _ _› (by omega) (at1.grow g3) at2 ?_
  repeat wtm_at "m leave"
  exact h' σ3 _ _ ((g1.trans g2).trans g3) bare (by assumption)
end
section
theorem rec152 : ∃ d ∈ recsOf vw, d.name = ("format_witnesses" : Str) := by
  cases e : (recsOf vw).find? (fun d => d.name == ("format_witnesses" : Str)) with
  | none =>
    exfalso
    have : ((recsOf vw).find? (fun d => d.name == ("format_witnesses" : Str))).isSome = true := by decide +kernel
    rw [e] at this; cases this
  | some d => exact ⟨d, List.mem_of_find?_eq_some e, by simpa using List.find?_some e⟩
noncomputable def fdk152 (p : Params) : { x : Value × Option Addr × FuncData × Array (Option Value) // (kk p).lookup 152 = some ⟨x.1, x.2.1, .func x.2.2.1, x.2.2.2⟩ ∧ x.2.2.1.code = .ref 151 } := ⟨(_, _, _, _), rfl, rfl⟩
theorem ns_hide {h : Heap} {a P : Addr} {m : Str → Option Value} (n : h.Ns a m) (ne : a ≠ P) : (hideAll h [P]).Ns a m :=
  let ⟨o, es, ep, ho, r⟩ := n; ⟨o, es, ep, hideAll_get _ ho (by simpa using ne), r⟩
variable {w : World} {s₁ : Shared} {mg mb : Str → Option Value} {loose : List Str} {mean : ExcName → Option Value}
theorem tab147 (KX : (kk w.params).In s₁.heap) (T : Top vw loose mean mg mb s₁.heap) : s₁.heap.get? 147 = some { cls := .none, data := .fields #[] } ∧ isCodeTable s₁.heap 147 := by
  obtain ⟨d, hd', hn⟩ := rec152
  obtain ⟨a, o, fd, c, P, h1, h2, h3, h4, h5, h6⟩ := T.tab d hd'
  rw [hn] at h1
  have e1 : mg "format_witnesses" = some (.ref 152) := mg_of KX T.g (by k_is)
  rw [e1] at h1; cases h1
  have e2 := KX 152 _ (fdk152 w.params).2.1
  rw [h2] at e2
  cases e2
  cases h3
  rw [(fdk152 w.params).2.2] at h4
  cases h4
  obtain ⟨⟨oc, vs, q1, q2, q3, q4⟩, q5⟩ := id h6
  have e3 := KX 151 _ (ck151 w.params).2
  rw [q1] at e3
  cases e3
  cases q3
  have e4 : (ck151 w.params).1.2.2.1[11]? = some (.ref 147) := by exact rfl
  rw [e4] at q4
  cases q4
  exact ⟨q5, h6.isCodeTable⟩
theorem vrs_ints : ∀ {vals : List Value} {ns : List Int}, IntsAre vals ns → VRs (ns.map .int) vals
  | _, _, .nil => rfl
  | _, _, .cons _ _ r => ⟨_, _, rfl, ⟨_, rfl⟩, vrs_ints r⟩
theorem law_glue {bm fa nl : Addr} {ob : Obj} {nmq : Str} {cd : Value} {ns : List Int} {vals : List Value} {h₁ : Heap} {tk : Nat} {Q : Flow → Shared → Prop} {E : Value → Shared → Prop} (KX : (kk w.params).In s₁.heap) (T : Top vw loose mean mg mb s₁.heap) (M : BMod s₁.heap mainGlobals mg bm ob) (hg : s₁.gens = #[])
   (hL : s₁.heap.IsList nl vals.toArray) (w1 : Well w.params s₁.heap (.ref nl) (ofPy (PyData.list (ns.map PyData.int)))) (hI : IntsAre vals ns) (hz : ns.length ≤ 100) (F : Fr s₁.heap s₁.heap.objs.size h₁ (fun x => List.lookup x [(("script" : Str), Value.ref nl)]))
   (h : ∀ s', OldK s₁.heap s'.heap → s'.os = s₁.os → AllBare s'.gens → Q (.ret (.bool true)) s') :
   wpAny (model PySem.Challenge.pw_pe0273_01 w) (callerA.deeper (envOf nmq (fd357 w.params).scope s₁.heap.objs.size fa cd)) (execs (bodyOf (fd357 w.params).body) (envOf nmq (fd357 w.params).scope s₁.heap.objs.size fa cd)) Q E { s₁ with heap := h₁, toks := tk } := by
  obtain ⟨t147, ct⟩ := tab147 KX T
  have ln : s₁.heap.get? nl = some { cls := .type "list", dict := none, data := .seq vals.toArray, slots := #[] } := by
    cases w1 with
    | list e _ =>
      obtain ⟨o, ho, hc, n, hd⟩ := hL
      rw [e] at ho; cases ho
      simp only at hd
      injection hd with hd1 hd2
      rw [e, hd1]
  have nl147 : nl ≠ 147 := fun q => by rw [q, t147] at ln; cases ln
  have hH : ∀ b o, (hideAll s₁.heap [147]).get? b = some o → s₁.heap.get? b = some o := fun b o e => of_hideAll _ e
  have hB : ∀ b o, b ≠ 147 → s₁.heap.get? b = some o → (hideAll s₁.heap [147]).get? b = some o := fun b o n e => hideAll_get _ e (by simpa using n)
  let z : Shared := { s₁ with heap := hideAll s₁.heap [147] }
  let G : Addr → Option (Obj × Bool) := fun b => (z.heap.get? b).map fun o => (o, decide (b = nl))
  let σ : Sto := fun b => if b = nl then some (.list (ns.map .int)) else if b = 147 then some (.raw tabP) else none
  have Gs : ∀ {b o}, z.heap.get? b = some o → G b = some (o, decide (b = nl)) := fun e => by show Option.map _ _ = _; rw [e]; rfl
  have Gg : ∀ {b p}, G b = some p → z.heap.get? b = some p.1 ∧ p.2 = decide (b = nl) := fun {b p} e => by
    obtain ⟨o, ho, rfl⟩ := Option.map_eq_some_iff.mp (show Option.map (fun o => (o, decide (b = nl))) (z.heap.get? b) = some p from e)
    exact ⟨ho, rfl⟩
  have z147 : z.heap.get? 147 = none := hideAll_none _ (by simp)
  have zL : z.heap.get? s₁.heap.objs.size = none := by
    cases e : z.heap.get? s₁.heap.objs.size with
    | none => rfl
    | some o => exact absurd (Heap.lt_size (hH _ _ e)) (Nat.lt_irrefl _)
  have nlL : s₁.heap.objs.size ≠ nl := fun q => by have := Heap.lt_size ln; rw [← q] at this; exact Nat.lt_irrefl _ this
  have tL : s₁.heap.objs.size ≠ 147 := fun q => by have := Heap.lt_size t147; rw [q] at this; exact Nat.lt_irrefl _ this
  have W : Wd (kk w.params) mg mb z.heap := by
    refine ⟨fun a o e => hB a o (fun q => ?_) (KX a o e), ns_hide T.g (by decide), ns_hide T.b (by decide), ?_, T.builtins⟩
    · subst q
      have : (kk w.params).lookup 147 = none := by exact rfl
      rw [this] at e; cases e
    · obtain ⟨mc, n, e⟩ := T.nolimit
      exact ⟨mc, ns_hide n (by decide), e⟩
  have B : BMod z.heap mainGlobals mg bm ob := ⟨ns_hide M.ns (by decide), M.name, M.ne, hB _ _ (fun q => by
    have := M.obj; rw [q, t147] at this; cases this
    have := M.cls; cases this) M.obj, M.cls, M.dict, M.data⟩
  have s147 : σ 147 = some (.raw tabP) := by show (if 147 = nl then _ else _) = _; rw [if_neg (Ne.symm nl147), if_pos rfl]
  have snl : σ nl = some (.list (ns.map .int)) := if_pos rfl
  have sO : ∀ {a o}, σ a = some o → (a = nl ∧ o = .list (ns.map .int)) ∨ (a = 147 ∧ o = .raw tabP) := fun {a o} e => by
    by_cases q : a = nl
    · left; exact ⟨q, by rw [q, snl] at e; exact (Option.some.inj e).symm⟩
    · by_cases q2 : a = 147
      · right; exact ⟨q2, by rw [q2, s147] at e; exact (Option.some.inj e).symm⟩
      · have : σ a = none := by show (if a = nl then _ else _) = _; rw [if_neg q, if_neg q2]
        rw [this] at e; cases e
  have sL : σ s₁.heap.objs.size = none := by
    cases e : σ s₁.heap.objs.size with
    | none => rfl
    | some o => rcases sO e with ⟨q, _⟩ | ⟨q, _⟩ <;> first | exact absurd q nlL | exact absurd q tL
  have S : St z G (envOf nmq (fd357 w.params).scope s₁.heap.objs.size fa cd) [("script", .ref nl)] σ { s₁ with heap := h₁, toks := tk } := by
    refine ⟨⟨rfl, rfl⟩, fun b o e => ⟨_, Gs e⟩, fun b o fl e => F.keep b o (hH b o (Gg e).1), by exact rfl, ⟨_, F.ns, fun x av e _ => ?_⟩, ?_, sL, fun x c e => (by cases e), fun x c e => (by cases e), fun x y c e => (by cases e), fun x c av e => (by cases e), fun a o e => ?_, fun a o e => ?_⟩
    · rw [lookup_cons'] at e
      by_cases q : x = "script"
      · rw [if_pos q] at e; cases e
        exact ⟨.ref nl, by rw [q]; rfl, rfl⟩
      · rw [if_neg q] at e; cases e
    · show G s₁.heap.objs.size = none
      show Option.map _ (z.heap.get? s₁.heap.objs.size) = none
      rw [zL]; rfl
    · rcases sO e with ⟨rfl, rfl⟩ | ⟨rfl, rfl⟩
      · exact ⟨vals, 0, F.keep _ _ ln, vrs_ints hI⟩
      · exact ⟨_, F.keep _ _ t147, #[], rfl, by first | exact trivial | (unfold TriplesOk; simp) | constructor⟩
    · rcases sO e with ⟨rfl, rfl⟩ | ⟨rfl, rfl⟩
      · exact .inr ⟨{ cls := .type "list", dict := none, data := .seq vals.toArray, slots := #[] }, (Gs (hB _ _ nl147 ln)).trans (by simp)⟩
      · left
        show Option.map _ (z.heap.get? 147) = none
        rw [z147]; rfl
  refine law_body (z := z) (σ := σ) (G := G) (ns := ns) W B S rfl (by show 302 + 400 < recursionLimit; decide) (by rw [units_deeper]; decide) rfl (fun b p e => (Gg e).1) snl hz s147 (by show Option.map _ (z.heap.get? 147) = none; rw [z147]; rfl) ?_
  intro g σ' s' ε' gr bare S'
  have eg : s'.gens = g := (Prod.mk.inj S'.adv.2).2
  have eo : s'.os = s₁.os := (Prod.mk.inj S'.adv.2).1
  refine h s' ?_ eo (eg ▸ bare (by show AllBare s₁.gens; rw [hg]; exact AllBare.empty))
  obtain ⟨o', ho', ps, rfl, tr⟩ := S'.obj _ _ (gr.get s147)
  have kb : ∀ b o, b ≠ 147 → s₁.heap.get? b = some o → s'.heap.get? b = some o := fun b o n e => S'.base b o (hB b o n e)
  refine ⟨fun b o e => ?_, fun b o e => ?_⟩
  · by_cases q : b = 147
    · subst q
      rw [t147] at e; cases e
      exact .inr (.inl ⟨ct, rfl, #[], ps, rfl, by rw [ho']; simp⟩)
    · exact .inl (kb b o q e)
  · by_cases q : b = 147
    · subst q; exact ⟨_, ho'⟩
    · exact ⟨o, kb b o q e⟩
end
end Mine
open PySem PySem.W PyProof.Rows PySem.Spec PySem.Calls
theorem PySem.Challenge.cw_pe0273_01_holds : PySem.Challenge.rw_pe0273_01.Holds := by
  refine Mine.hd ?_
  k_fill
  intro w s₀ s₁ mg mb G Y fa o pm cd doc dV kV ho hd' hcd hD hmg hg args vals as hpre hlay hrd hwl hlo
  have KX := kIn_of Y
  refine Ground.open G ?_
  intro T B D TE TW
  obtain ⟨bm, ob, M⟩ := bmod_of_top T
  wrow_args hpre hlay hrd hwl hlo
  all_goals (
    refine enter_call ?_
    w_top on
    w_call any ho hd' hcd hD T F)
  refine Mine.law_glue KX T M hg (by assumption) (by assumption) (by assumption) (by omega) F ?_
  intro s' O eo bare
  exact ⟨.inl ⟨_, _, [], rfl, fun cls => rfl, ReadsW.bool true, (by kernel_rfl), fun _ => ⟨List.nodup_nil, fun _ hm => (nomatch hm)⟩⟩, O, eo, bare⟩
