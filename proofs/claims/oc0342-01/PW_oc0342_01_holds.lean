import PyProof.Rows.All
import Wide.All
import OpenK.AllK
import Wide.FinOn
import PySem.Challenge.RW_oc0342_01

noncomputable section
open PySem PySem.W PyProof.Rows
set_option Elab.async false
set_option maxRecDepth 100000
namespace Mine
noncomputable abbrev row0 : OpenRow := PySem.Challenge.rw_oc0342_01.row
noncomputable abbrev pr0 : Program := RowW.prog (OpenRow.toRowW row0)
noncomputable abbrev S (x : String) : Str := Str.ofString x
noncomputable def topSt (i : Nat) : Stmt := pr0.main.body.getD i (.Pass ⟨0, 0, 0, 0⟩)
noncomputable def clsSt (i j : Nat) : Stmt := match topSt i with
  | .ClassDef _ _ _ body _ _ _ _ _ _ _ => body.getD j (.Pass ⟨0, 0, 0, 0⟩)
  | _ => .Pass ⟨0, 0, 0, 0⟩
noncomputable def fP : Stmt → Arguments
  | .FunctionDef _ a _ _ _ _ _ _ _ _ => a
  | _ => ⟨[], [], none, [], [], none, []⟩
noncomputable def fB : Stmt → List Stmt
  | .FunctionDef _ _ b _ _ _ _ _ _ _ => b
  | _ => []
noncomputable def fS : Stmt → Scope
  | .FunctionDef _ _ _ _ _ _ s _ _ _ => s
  | _ => { kind := .function, names := [], isGenerator := false, isCoroutine := false, more := [] }
noncomputable abbrev fd (st : Stmt) (name qual : Str) (gl : Addr) (cl : List (Str × Addr)) (dv kv doc pm : Value) (an : Option Addr) (cd ct : Value) (bl : Addr) : FuncData := ⟨name, qual, fP st, .stmts (fB st), fS st, gl, cl, dv, kv, doc, pm, an, cd, ct, bl⟩
noncomputable def kk (P : Params) : Frag :=
  (nat_lit 2, (@Obj.mk .none none (@Data.dict #[(@DictEntry.mk (@PyData.keyHash P (S "\x69mport.loaded._sre")) (.str (S "\x69mport.loaded._sre") 183) (.bool true)), (@DictEntry.mk (@PyData.keyHash P (S "class._frozen_importlib.BuiltinImporter")) (.str (S "class._frozen_importlib.BuiltinImporter") 185) (.ref 14)), (@DictEntry.mk (@PyData.keyHash P (S "watched.\x69mport")) (.str (S "watched.\x69mport") 206) (.ref 18)), (@DictEntry.mk (@PyData.keyHash P (S "class._frozen_importlib.ModuleSpec")) (.str (S "class._frozen_importlib.ModuleSpec") 216) (.ref 22)), (@DictEntry.mk (@PyData.keyHash P (S "sys.modules.booked-epoch")) (.str (S "sys.modules.booked-epoch") 245) (.int (3 : @Int) 0)), (@DictEntry.mk (@PyData.keyHash P (S "\x69mport.later-laid._sre")) (.str (S "\x69mport.later-laid._sre") 270) (.bool true)), (@DictEntry.mk (@PyData.keyHash P (S "watched.library")) (.str (S "watched.library") 272) (.ref 27)), (@DictEntry.mk (@PyData.keyHash P (S "watched.library-objects")) (.str (S "watched.library-objects") 0) (.str (S "\x0c") 0)), (@DictEntry.mk (@PyData.keyHash P (S "watched.library-deep._sre")) (.str (S "watched.library-deep._sre") 273) (.str (S "\x04\x00\x00\x0b\x04\x00\x00\x0b\x04\x00\x00\x03\x04\x00\x00\x0b\x08\x04dict\x02") 0))] 9) #[])) ::
  (nat_lit 3, (@Obj.mk (.type "dict") none (@Data.dict #[(@DictEntry.mk (@PyData.keyHash P (S "__name__")) (.str (S "__name__") 165) (.str (S "law_oc0342_01") 711)), (@DictEntry.mk (@PyData.keyHash P (S "__doc__")) (.str (S "__doc__") 166) .none), (@DictEntry.mk (@PyData.keyHash P (S "__package__")) (.str (S "__package__") 167) .none), (@DictEntry.mk (@PyData.keyHash P (S "__loader__")) (.str (S "__loader__") 168) (.builtin "__main__.__loader__#opaque")), (@DictEntry.mk (@PyData.keyHash P (S "__spec__")) (.str (S "__spec__") 169) .none), (@DictEntry.mk (@PyData.keyHash P (S "__annotations__")) (.str (S "__annotations__") 170) (.ref 6)), (@DictEntry.mk (@PyData.keyHash P (S "__builtins__")) (.str (S "__builtins__") 171) (.ref 4)), (@DictEntry.mk (@PyData.keyHash P (S "__file__")) (.str (S "__file__") 173) (.str (S "/claim/cut.py") 172)), (@DictEntry.mk (@PyData.keyHash P (S "__cached__")) (.str (S "__cached__") 174) .none), (@DictEntry.mk (@PyData.keyHash P (S "_sre")) (.str (S "_sre") 275) (.ref 12)), (@DictEntry.mk (@PyData.keyHash P (S "_wall")) (.str (S "_wall") 288) (.ref 38)), (@DictEntry.mk (@PyData.keyHash P (S "_name_disallowed_re")) (.str (S "_name_disallowed_re") 316) (.ref 43)), (@DictEntry.mk (@PyData.keyHash P (S "_value_disallowed_re")) (.str (S "_value_disallowed_re") 350) (.ref 48)), (@DictEntry.mk (@PyData.keyHash P (S "Headers")) (.str (S "Headers") 507) (.ref 171)), (@DictEntry.mk (@PyData.keyHash P (S "_initial_missing")) (.str (S "_initial_missing") 510) (.ref 176)), (@DictEntry.mk (@PyData.keyHash P (S "reduce")) (.str (S "reduce") 522) (.ref 184)), (@DictEntry.mk (@PyData.keyHash P (S "_c3_merge")) (.str (S "_c3_merge") 528) (.ref 189)), (@DictEntry.mk (@PyData.keyHash P (S "_NODE_OUT")) (.str (S "_NODE_OUT") 533) (.int (@Neg.neg @Int @Int.instNegInt (1 : @Int)) 532)), (@DictEntry.mk (@PyData.keyHash P (S "_NODE_DONE")) (.str (S "_NODE_DONE") 536) (.int (@Neg.neg @Int @Int.instNegInt (2 : @Int)) 535)), (@DictEntry.mk (@PyData.keyHash P (S "_NodeInfo")) (.str (S "_NodeInfo") 573) (.ref 208)), (@DictEntry.mk (@PyData.keyHash P (S "CycleError")) (.str (S "CycleError") 591) (.ref 223)), (@DictEntry.mk (@PyData.keyHash P (S "TopologicalSorter")) (.str (S "TopologicalSorter") 710) (.ref 305)), (@DictEntry.mk (@PyData.keyHash P (S "_law_bases")) (.str (S "_law_bases") 718) (.ref 314)), (@DictEntry.mk (@PyData.keyHash P (S "_law_owns")) (.str (S "_law_owns") 724) (.ref 319)), (@DictEntry.mk (@PyData.keyHash P (S "_law_run")) (.str (S "_law_run") 736) (.ref 326)), (@DictEntry.mk (@PyData.keyHash P (S "_law_lines")) (.str (S "_law_lines") 742) (.ref 331)), (@DictEntry.mk (@PyData.keyHash P (S "_law_plain_lines")) (.str (S "_law_plain_lines") 748) (.ref 336)), (@DictEntry.mk (@PyData.keyHash P (S "_law_tables")) (.str (S "_law_tables") 754) (.ref 341)), (@DictEntry.mk (@PyData.keyHash P (S "_law_first")) (.str (S "_law_first") 760) (.ref 346)), (@DictEntry.mk (@PyData.keyHash P (S "_law_inherited")) (.str (S "_law_inherited") 766) (.ref 351)), (@DictEntry.mk (@PyData.keyHash P (S "law")) (.str (S "law") 772) (.ref 356))] 31) #[])) ::
  (nat_lit 42, (@Obj.mk (.type "tuple") none (@Data.seq #[(.int (14 : @Int) 0), (.int (10 : @Int) 0), (.int (4 : @Int) 0), (.int (1 : @Int) 0), (.int (1 : @Int) 0), (.int (22 : @Int) 0), (.int (0 : @Int) 0), (.int (31 : @Int) 0), (.int (16 : @Int) 0), (.int (127 : @Int) 0), (.int (0 : @Int) 0), (.int (13 : @Int) 0), (.int (7 : @Int) 0), (.int (22 : @Int) 0), (.int (0 : @Int) 0), (.int (31 : @Int) 0), (.int (16 : @Int) 0), (.int (127 : @Int) 0), (.int (0 : @Int) 0), (.int (1 : @Int) 0)] 0) #[])) ::
  (nat_lit 43, (@Obj.mk (.type "re.Pattern") none (@Data.fields #[(.str (S "[\\x00-\\x1F\\x7F]") 292), (.int (32 : @Int) 315), (.int (0 : @Int) 0), .none, .none, (.ref 42), (.int (0 : @Int) 0)]) #[])) ::
  (nat_lit 47, (@Obj.mk (.type "tuple") none (@Data.seq #[(.int (14 : @Int) 0), (.int (14 : @Int) 0), (.int (4 : @Int) 0), (.int (1 : @Int) 0), (.int (1 : @Int) 0), (.int (9 : @Int) 0), (.int (4294966783 : @Int) 0), (.int (0 : @Int) 0), (.int (0 : @Int) 0), (.int (2147483648 : @Int) 0), (.int (0 : @Int) 0), (.int (0 : @Int) 0), (.int (0 : @Int) 0), (.int (0 : @Int) 0), (.int (0 : @Int) 0), (.int (13 : @Int) 0), (.int (11 : @Int) 0), (.int (9 : @Int) 0), (.int (4294966783 : @Int) 0), (.int (0 : @Int) 0), (.int (0 : @Int) 0), (.int (2147483648 : @Int) 0), (.int (0 : @Int) 0), (.int (0 : @Int) 0), (.int (0 : @Int) 0), (.int (0 : @Int) 0), (.int (0 : @Int) 0), (.int (1 : @Int) 0)] 0) #[])) ::
  (nat_lit 48, (@Obj.mk (.type "re.Pattern") none (@Data.fields #[(.str (S "[\\x00-\\x08\\x0A-\\x1F\\x7F]") 318), (.int (32 : @Int) 349), (.int (0 : @Int) 0), .none, .none, (.ref 47), (.int (0 : @Int) 0)]) #[])) ::
  (nat_lit 56, (@Obj.mk (.type "tuple") none (@Data.seq #[.none] 0) #[])) ::
  (nat_lit 62, (@Obj.mk (.type "code") none (@Data.fields #[(.str (S "__init__") 363), (.str (S "Headers.__init__") 364), (.str (S "/claim/cut.py") 365), (.int (10 : @Int) 0), (.int (2 : @Int) 0), (.int (0 : @Int) 0), (.int (0 : @Int) 0), (.int (3 : @Int) 0), (.ref 57), (.bool true), (.int (276 : @Int) 0), (.ref 58), .none, (.ref 59), (.ref 60), (.ref 61), (.int (370 : @Int) 0), (.int (10 : @Int) 0), (.str (S "/claim/cut.py") 371)]) #[])) ::
  (nat_lit 63, (@Obj.mk (.type "function") none (@Data.func (fd (clsSt 5 0) (S "__init__") (S "Headers.__init__") 3 [] (.ref 56) .none .none (.str (S "cpy313.wsgiref.headers") 289) none (.ref 62) .none 0)) #[])) ::
  (nat_lit 69, (@Obj.mk (.type "code") none (@Data.fields #[(.str (S "_convert_string_type") 373), (.str (S "Headers._convert_string_type") 374), (.str (S "/claim/cut.py") 375), (.int (20 : @Int) 0), (.int (2 : @Int) 0), (.int (0 : @Int) 0), (.int (1 : @Int) 0), (.int (3 : @Int) 0), (.ref 64), (.bool true), (.int (276 : @Int) 0), (.ref 65), .none, (.ref 66), (.ref 67), (.ref 68), (.int (380 : @Int) 0), (.int (20 : @Int) 0), (.str (S "/claim/cut.py") 381)]) #[])) ::
  (nat_lit 70, (@Obj.mk (.type "function") none (@Data.func (fd (clsSt 5 1) (S "_convert_string_type") (S "Headers._convert_string_type") 3 [] .none .none .none (.str (S "cpy313.wsgiref.headers") 289) none (.ref 69) .none 0)) #[])) ::
  (nat_lit 111, (@Obj.mk (.type "tuple") none (@Data.seq #[.none] 0) #[])) ::
  (nat_lit 117, (@Obj.mk (.type "code") none (@Data.fields #[(.str (S "get") 429), (.str (S "Headers.get") 430), (.str (S "/claim/cut.py") 431), (.int (48 : @Int) 0), (.int (3 : @Int) 0), (.int (0 : @Int) 0), (.int (0 : @Int) 0), (.int (3 : @Int) 0), (.ref 112), (.bool true), (.int (276 : @Int) 0), (.ref 113), .none, (.ref 114), (.ref 115), (.ref 116), (.int (437 : @Int) 0), (.int (48 : @Int) 0), (.str (S "/claim/cut.py") 438)]) #[])) ::
  (nat_lit 118, (@Obj.mk (.type "function") none (@Data.func (fd (clsSt 5 8) (S "get") (S "Headers.get") 3 [] (.ref 111) .none .none (.str (S "cpy313.wsgiref.headers") 289) none (.ref 117) .none 0)) #[])) ::
  (nat_lit 134, (@Obj.mk (.type "code") none (@Data.fields #[(.str (S "items") 452), (.str (S "Headers.items") 453), (.str (S "/claim/cut.py") 454), (.int (61 : @Int) 0), (.int (1 : @Int) 0), (.int (0 : @Int) 0), (.int (0 : @Int) 0), (.int (3 : @Int) 0), (.ref 129), (.bool true), (.int (276 : @Int) 0), (.ref 130), .none, (.ref 131), (.ref 132), (.ref 133), (.int (456 : @Int) 0), (.int (61 : @Int) 0), (.str (S "/claim/cut.py") 457)]) #[])) ::
  (nat_lit 135, (@Obj.mk (.type "function") none (@Data.func (fd (clsSt 5 11) (S "items") (S "Headers.items") 3 [] .none .none .none (.str (S "cpy313.wsgiref.headers") 289) none (.ref 134) .none 0)) #[])) ::
  (nat_lit 160, (@Obj.mk (.type "code") none (@Data.fields #[(.str (S "setdefault") 479), (.str (S "Headers.setdefault") 480), (.str (S "/claim/cut.py") 481), (.int (73 : @Int) 0), (.int (3 : @Int) 0), (.int (0 : @Int) 0), (.int (0 : @Int) 0), (.int (3 : @Int) 0), (.ref 155), (.bool true), (.int (276 : @Int) 0), (.ref 156), .none, (.ref 157), (.ref 158), (.ref 159), (.int (486 : @Int) 0), (.int (73 : @Int) 0), (.str (S "/claim/cut.py") 487)]) #[])) ::
  (nat_lit 161, (@Obj.mk (.type "function") none (@Data.func (fd (clsSt 5 15) (S "setdefault") (S "Headers.setdefault") 3 [] .none .none .none (.str (S "cpy313.wsgiref.headers") 289) none (.ref 160) .none 0)) #[])) ::
  (nat_lit 170, (@Obj.mk (.type "dict") none (@Data.dict #[(@DictEntry.mk (@PyData.keyHash P (S "__module__")) (.str (S "__module__") 358) (.str (S "cpy313.wsgiref.headers") 289)), (@DictEntry.mk (@PyData.keyHash P (S "__firstlineno__")) (.str (S "__firstlineno__") 362) (.int (8 : @Int) 361)), (@DictEntry.mk (@PyData.keyHash P (S "__init__")) (.str (S "__init__") 372) (.ref 63)), (@DictEntry.mk (@PyData.keyHash P (S "_convert_string_type")) (.str (S "_convert_string_type") 382) (.ref 70)), (@DictEntry.mk (@PyData.keyHash P (S "__len__")) (.str (S "__len__") 389) (.ref 77)), (@DictEntry.mk (@PyData.keyHash P (S "__setitem__")) (.str (S "__setitem__") 398) (.ref 84)), (@DictEntry.mk (@PyData.keyHash P (S "__delitem__")) (.str (S "__delitem__") 404) (.ref 89)), (@DictEntry.mk (@PyData.keyHash P (S "__getitem__")) (.str (S "__getitem__") 412) (.ref 96)), (@DictEntry.mk (@PyData.keyHash P (S "__contains__")) (.str (S "__contains__") 420) (.ref 103)), (@DictEntry.mk (@PyData.keyHash P (S "get_all")) (.str (S "get_all") 428) (.ref 110)), (@DictEntry.mk (@PyData.keyHash P (S "get")) (.str (S "get") 439) (.ref 118)), (@DictEntry.mk (@PyData.keyHash P (S "keys")) (.str (S "keys") 445) (.ref 123)), (@DictEntry.mk (@PyData.keyHash P (S "values")) (.str (S "values") 451) (.ref 128)), (@DictEntry.mk (@PyData.keyHash P (S "items")) (.str (S "items") 458) (.ref 135)), (@DictEntry.mk (@PyData.keyHash P (S "__repr__")) (.str (S "__repr__") 465) (.ref 142)), (@DictEntry.mk (@PyData.keyHash P (S "__str__")) (.str (S "__str__") 471) (.ref 147)), (@DictEntry.mk (@PyData.keyHash P (S "__bytes__")) (.str (S "__bytes__") 478) (.ref 154)), (@DictEntry.mk (@PyData.keyHash P (S "setdefault")) (.str (S "setdefault") 488) (.ref 161)), (@DictEntry.mk (@PyData.keyHash P (S "add_header")) (.str (S "add_header") 498) (.ref 168)), (@DictEntry.mk (@PyData.keyHash P (S "__static_attributes__")) (.str (S "__static_attributes__") 500) (.ref 169)), (@DictEntry.mk (@PyData.keyHash P (S "__dict__")) (.str (S "__dict__") 502) (.ref 172)), (@DictEntry.mk (@PyData.keyHash P (S "__weakref__")) (.str (S "__weakref__") 504) (.ref 173)), (@DictEntry.mk (@PyData.keyHash P (S "__doc__")) (.str (S "__doc__") 505) .none)] 4) #[])) ::
  (nat_lit 171, (@Obj.mk (.type "type") none (@Data.cls (@ClassData.mk (S "Headers") [(.type "object")] [(.ref 171), (.type "object")] 170 (S "Headers") true [] [] false none false)) #[none, none, (some (.str (S "Headers") 351)), (some (.str (S "Headers") 359)), (some (.builtin "object.__new__")), (some (.bool true))])) ::
  (nat_lit 172, (@Obj.mk (.type "getset_descriptor") none (@Data.fields #[(.str (S "__dict__") 501), (.ref 171), (.builtin "function.__dict__"), (.builtin "function.__dict__#set")]) #[])) ::
  (nat_lit 173, (@Obj.mk (.type "getset_descriptor") none (@Data.fields #[(.str (S "__weakref__") 503), (.ref 171), (.builtin "ExceptionGroup.__weakref__"), .none]) #[])) ::
  (nat_lit 176, (@Obj.mk (.type "object") none @Data.plain #[])) ::
  (nat_lit 177, (@Obj.mk (.type "tuple") none (@Data.seq #[(.ref 176)] 0) #[])) ::
  (nat_lit 183, (@Obj.mk (.type "code") none (@Data.fields #[(.str (S "reduce") 511), (.str (S "reduce") 512), (.str (S "/claim/cut.py") 513), (.int (85 : @Int) 0), (.int (3 : @Int) 0), (.int (0 : @Int) 0), (.int (0 : @Int) 0), (.int (3 : @Int) 0), (.ref 178), (.bool true), (.int (276 : @Int) 0), (.ref 179), .none, (.ref 180), (.ref 181), (.ref 182), (.int (520 : @Int) 0), (.int (85 : @Int) 0), (.str (S "/claim/cut.py") 521)]) #[])) ::
  (nat_lit 184, (@Obj.mk (.type "function") none (@Data.func (fd (topSt 8) (S "reduce") (S "reduce") 3 [] (.ref 177) .none .none (.str (S "cpy313.functools") 508) none (.ref 183) .none 0)) #[])) ::
  (nat_lit 188, (@Obj.mk (.type "code") none (@Data.fields #[(.str (S "_c3_merge") 523), (.str (S "_c3_merge") 524), (.str (S "/claim/cut.py") 525), (.int (97 : @Int) 0), (.int (1 : @Int) 0), (.int (0 : @Int) 0), (.int (0 : @Int) 0), (.int (3 : @Int) 0), (.ref 185), (.bool true), (.int (276 : @Int) 0), (.ref 186), .none, .none, .none, (.ref 187), (.int (526 : @Int) 0), (.int (97 : @Int) 0), (.str (S "/claim/cut.py") 527)]) #[])) ::
  (nat_lit 189, (@Obj.mk (.type "function") none (@Data.func (fd (topSt 9) (S "_c3_merge") (S "_c3_merge") 3 [] .none .none .none (.str (S "cpy313.functools") 508) none (.ref 188) .none 0)) #[])) ::
  (nat_lit 203, (@Obj.mk (.type "code") none (@Data.fields #[(.str (S "__init__") 553), (.str (S "_NodeInfo.__init__") 554), (.str (S "/claim/cut.py") 555), (.int (123 : @Int) 0), (.int (2 : @Int) 0), (.int (0 : @Int) 0), (.int (0 : @Int) 0), (.int (3 : @Int) 0), (.ref 198), (.bool true), (.int (276 : @Int) 0), (.ref 199), .none, (.ref 200), (.ref 201), (.ref 202), (.int (558 : @Int) 0), (.int (123 : @Int) 0), (.str (S "/claim/cut.py") 559)]) #[])) ::
  (nat_lit 204, (@Obj.mk (.type "function") none (@Data.func (fd (clsSt 13 1) (S "__init__") (S "_NodeInfo.__init__") 3 [] .none .none .none (.str (S "cpy313.graphlib") 529) none (.ref 203) .none 0)) #[])) ::
  (nat_lit 207, (@Obj.mk (.type "dict") none (@Data.dict #[(@DictEntry.mk (@PyData.keyHash P (S "__module__")) (.str (S "__module__") 544) (.str (S "cpy313.graphlib") 529)), (@DictEntry.mk (@PyData.keyHash P (S "__firstlineno__")) (.str (S "__firstlineno__") 548) (.int (120 : @Int) 547)), (@DictEntry.mk (@PyData.keyHash P (S "__slots__")) (.str (S "__slots__") 552) (.ref 197)), (@DictEntry.mk (@PyData.keyHash P (S "__init__")) (.str (S "__init__") 560) (.ref 204)), (@DictEntry.mk (@PyData.keyHash P (S "__static_attributes__")) (.str (S "__static_attributes__") 564) (.ref 205)), (@DictEntry.mk (@PyData.keyHash P (S "node")) (.str (S "node") 566) (.ref 209)), (@DictEntry.mk (@PyData.keyHash P (S "npredecessors")) (.str (S "npredecessors") 568) (.ref 210)), (@DictEntry.mk (@PyData.keyHash P (S "successors")) (.str (S "successors") 570) (.ref 211)), (@DictEntry.mk (@PyData.keyHash P (S "__doc__")) (.str (S "__doc__") 571) .none)] 5) #[])) ::
  (nat_lit 208, (@Obj.mk (.type "type") none (@Data.cls (@ClassData.mk (S "_NodeInfo") [(.type "object")] [(.ref 208), (.type "object")] 207 (S "_NodeInfo") false [(S "node"), (S "npredecessors"), (S "successors")] [] false none false)) #[none, none, (some (.str (S "_NodeInfo") 537)), (some (.str (S "_NodeInfo") 545)), (some (.builtin "object.__new__")), (some (.bool false))])) ::
  (nat_lit 209, (@Obj.mk (.type "member_descriptor") none (@Data.fields #[(.str (S "node") 565), (.ref 208), (.builtin "proto.slot"), (.builtin "proto.slot#set"), (.int (2 : @Int) 0)]) #[])) ::
  (nat_lit 210, (@Obj.mk (.type "member_descriptor") none (@Data.fields #[(.str (S "npredecessors") 567), (.ref 208), (.builtin "proto.slot"), (.builtin "proto.slot#set"), (.int (1 : @Int) 0)]) #[])) ::
  (nat_lit 211, (@Obj.mk (.type "member_descriptor") none (@Data.fields #[(.str (S "successors") 569), (.ref 208), (.builtin "proto.slot"), (.builtin "proto.slot#set"), (.int (0 : @Int) 0)]) #[])) ::
  (nat_lit 222, (@Obj.mk (.type "dict") none (@Data.dict #[(@DictEntry.mk (@PyData.keyHash P (S "__module__")) (.str (S "__module__") 581) (.str (S "cpy313.graphlib") 529)), (@DictEntry.mk (@PyData.keyHash P (S "__firstlineno__")) (.str (S "__firstlineno__") 585) (.int (127 : @Int) 584)), (@DictEntry.mk (@PyData.keyHash P (S "__static_attributes__")) (.str (S "__static_attributes__") 586) (.ref 221)), (@DictEntry.mk (@PyData.keyHash P (S "__weakref__")) (.str (S "__weakref__") 588) (.ref 224)), (@DictEntry.mk (@PyData.keyHash P (S "__doc__")) (.str (S "__doc__") 589) .none)] 3) #[])) ::
  (nat_lit 223, (@Obj.mk (.type "type") none (@Data.cls (@ClassData.mk (S "CycleError") [(.type "ValueError")] [(.ref 223), (.type "ValueError"), (.type "Exception"), (.type "BaseException"), (.type "object")] 222 (S "CycleError") true [] [] false none false)) #[(some (.ref 214)), none, (some (.str (S "CycleError") 574)), (some (.str (S "CycleError") 582)), (some (.builtin "ValueError.__new__")), (some (.bool true))])) ::
  (nat_lit 224, (@Obj.mk (.type "getset_descriptor") none (@Data.fields #[(.str (S "__weakref__") 587), (.ref 223), (.builtin "ExceptionGroup.__weakref__"), .none]) #[])) ::
  (nat_lit 234, (@Obj.mk (.type "tuple") none (@Data.seq #[.none] 0) #[])) ::
  (nat_lit 240, (@Obj.mk (.type "code") none (@Data.fields #[(.str (S "__init__") 604), (.str (S "TopologicalSorter.__init__") 605), (.str (S "/claim/cut.py") 606), (.int (131 : @Int) 0), (.int (2 : @Int) 0), (.int (0 : @Int) 0), (.int (0 : @Int) 0), (.int (3 : @Int) 0), (.ref 235), (.bool true), (.int (276 : @Int) 0), (.ref 236), .none, (.ref 237), (.ref 238), (.ref 239), (.int (611 : @Int) 0), (.int (131 : @Int) 0), (.str (S "/claim/cut.py") 612)]) #[])) ::
  (nat_lit 241, (@Obj.mk (.type "function") none (@Data.func (fd (clsSt 15 0) (S "__init__") (S "TopologicalSorter.__init__") 3 [] (.ref 234) .none .none (.str (S "cpy313.graphlib") 529) none (.ref 240) .none 0)) #[])) ::
  (nat_lit 247, (@Obj.mk (.type "code") none (@Data.fields #[(.str (S "_get_nodeinfo") 614), (.str (S "TopologicalSorter._get_nodeinfo") 615), (.str (S "/claim/cut.py") 616), (.int (140 : @Int) 0), (.int (2 : @Int) 0), (.int (0 : @Int) 0), (.int (0 : @Int) 0), (.int (3 : @Int) 0), (.ref 242), (.bool true), (.int (276 : @Int) 0), (.ref 243), .none, (.ref 244), (.ref 245), (.ref 246), (.int (620 : @Int) 0), (.int (140 : @Int) 0), (.str (S "/claim/cut.py") 621)]) #[])) ::
  (nat_lit 248, (@Obj.mk (.type "function") none (@Data.func (fd (clsSt 15 1) (S "_get_nodeinfo") (S "TopologicalSorter._get_nodeinfo") 3 [] .none .none .none (.str (S "cpy313.graphlib") 529) none (.ref 247) .none 0)) #[])) ::
  (nat_lit 254, (@Obj.mk (.type "code") none (@Data.fields #[(.str (S "add") 623), (.str (S "TopologicalSorter.add") 624), (.str (S "/claim/cut.py") 625), (.int (145 : @Int) 0), (.int (2 : @Int) 0), (.int (0 : @Int) 0), (.int (0 : @Int) 0), (.int (7 : @Int) 0), (.ref 249), (.bool true), (.int (276 : @Int) 0), (.ref 250), .none, (.ref 251), (.ref 252), (.ref 253), (.int (632 : @Int) 0), (.int (145 : @Int) 0), (.str (S "/claim/cut.py") 633)]) #[])) ::
  (nat_lit 255, (@Obj.mk (.type "function") none (@Data.func (fd (clsSt 15 2) (S "add") (S "TopologicalSorter.add") 3 [] .none .none .none (.str (S "cpy313.graphlib") 529) none (.ref 254) .none 0)) #[])) ::
  (nat_lit 259, (@Obj.mk (.type "code") none (@Data.fields #[(.str (S "prepare") 635), (.str (S "TopologicalSorter.prepare") 636), (.str (S "/claim/cut.py") 637), (.int (154 : @Int) 0), (.int (1 : @Int) 0), (.int (0 : @Int) 0), (.int (0 : @Int) 0), (.int (3 : @Int) 0), (.ref 256), (.bool true), (.int (276 : @Int) 0), (.ref 257), .none, .none, .none, (.ref 258), (.int (638 : @Int) 0), (.int (154 : @Int) 0), (.str (S "/claim/cut.py") 639)]) #[])) ::
  (nat_lit 260, (@Obj.mk (.type "function") none (@Data.func (fd (clsSt 15 3) (S "prepare") (S "TopologicalSorter.prepare") 3 [] .none .none .none (.str (S "cpy313.graphlib") 529) none (.ref 259) .none 0)) #[])) ::
  (nat_lit 266, (@Obj.mk (.type "code") none (@Data.fields #[(.str (S "get_ready") 641), (.str (S "TopologicalSorter.get_ready") 642), (.str (S "/claim/cut.py") 643), (.int (162 : @Int) 0), (.int (1 : @Int) 0), (.int (0 : @Int) 0), (.int (0 : @Int) 0), (.int (3 : @Int) 0), (.ref 261), (.bool true), (.int (276 : @Int) 0), (.ref 262), .none, (.ref 263), (.ref 264), (.ref 265), (.int (648 : @Int) 0), (.int (162 : @Int) 0), (.str (S "/claim/cut.py") 649)]) #[])) ::
  (nat_lit 267, (@Obj.mk (.type "function") none (@Data.func (fd (clsSt 15 4) (S "get_ready") (S "TopologicalSorter.get_ready") 3 [] .none .none .none (.str (S "cpy313.graphlib") 529) none (.ref 266) .none 0)) #[])) ::
  (nat_lit 273, (@Obj.mk (.type "code") none (@Data.fields #[(.str (S "is_active") 651), (.str (S "TopologicalSorter.is_active") 652), (.str (S "/claim/cut.py") 653), (.int (173 : @Int) 0), (.int (1 : @Int) 0), (.int (0 : @Int) 0), (.int (0 : @Int) 0), (.int (3 : @Int) 0), (.ref 268), (.bool true), (.int (276 : @Int) 0), (.ref 269), .none, (.ref 270), (.ref 271), (.ref 272), (.int (655 : @Int) 0), (.int (173 : @Int) 0), (.str (S "/claim/cut.py") 656)]) #[])) ::
  (nat_lit 274, (@Obj.mk (.type "function") none (@Data.func (fd (clsSt 15 5) (S "is_active") (S "TopologicalSorter.is_active") 3 [] .none .none .none (.str (S "cpy313.graphlib") 529) none (.ref 273) .none 0)) #[])) ::
  (nat_lit 280, (@Obj.mk (.type "code") none (@Data.fields #[(.str (S "__bool__") 658), (.str (S "TopologicalSorter.__bool__") 659), (.str (S "/claim/cut.py") 660), (.int (178 : @Int) 0), (.int (1 : @Int) 0), (.int (0 : @Int) 0), (.int (0 : @Int) 0), (.int (3 : @Int) 0), (.ref 275), (.bool true), (.int (276 : @Int) 0), (.ref 276), .none, (.ref 277), (.ref 278), (.ref 279), (.int (662 : @Int) 0), (.int (178 : @Int) 0), (.str (S "/claim/cut.py") 663)]) #[])) ::
  (nat_lit 281, (@Obj.mk (.type "function") none (@Data.func (fd (clsSt 15 6) (S "__bool__") (S "TopologicalSorter.__bool__") 3 [] .none .none .none (.str (S "cpy313.graphlib") 529) none (.ref 280) .none 0)) #[])) ::
  (nat_lit 287, (@Obj.mk (.type "code") none (@Data.fields #[(.str (S "done") 665), (.str (S "TopologicalSorter.done") 666), (.str (S "/claim/cut.py") 667), (.int (181 : @Int) 0), (.int (1 : @Int) 0), (.int (0 : @Int) 0), (.int (0 : @Int) 0), (.int (7 : @Int) 0), (.ref 282), (.bool true), (.int (276 : @Int) 0), (.ref 283), .none, (.ref 284), (.ref 285), (.ref 286), (.int (676 : @Int) 0), (.int (181 : @Int) 0), (.str (S "/claim/cut.py") 677)]) #[])) ::
  (nat_lit 288, (@Obj.mk (.type "function") none (@Data.func (fd (clsSt 15 7) (S "done") (S "TopologicalSorter.done") 3 [] .none .none .none (.str (S "cpy313.graphlib") 529) none (.ref 287) .none 0)) #[])) ::
  (nat_lit 294, (@Obj.mk (.type "code") none (@Data.fields #[(.str (S "_find_cycle") 679), (.str (S "TopologicalSorter._find_cycle") 680), (.str (S "/claim/cut.py") 681), (.int (204 : @Int) 0), (.int (1 : @Int) 0), (.int (0 : @Int) 0), (.int (0 : @Int) 0), (.int (3 : @Int) 0), (.ref 289), (.bool true), (.int (276 : @Int) 0), (.ref 290), .none, (.ref 291), (.ref 292), (.ref 293), (.int (689 : @Int) 0), (.int (204 : @Int) 0), (.str (S "/claim/cut.py") 690)]) #[])) ::
  (nat_lit 295, (@Obj.mk (.type "function") none (@Data.func (fd (clsSt 15 8) (S "_find_cycle") (S "TopologicalSorter._find_cycle") 3 [] .none .none .none (.str (S "cpy313.graphlib") 529) none (.ref 294) .none 0)) #[])) ::
  (nat_lit 304, (@Obj.mk (.type "dict") none (@Data.dict #[(@DictEntry.mk (@PyData.keyHash P (S "__module__")) (.str (S "__module__") 599) (.str (S "cpy313.graphlib") 529)), (@DictEntry.mk (@PyData.keyHash P (S "__firstlineno__")) (.str (S "__firstlineno__") 603) (.int (129 : @Int) 602)), (@DictEntry.mk (@PyData.keyHash P (S "__init__")) (.str (S "__init__") 613) (.ref 241)), (@DictEntry.mk (@PyData.keyHash P (S "_get_nodeinfo")) (.str (S "_get_nodeinfo") 622) (.ref 248)), (@DictEntry.mk (@PyData.keyHash P (S "add")) (.str (S "add") 634) (.ref 255)), (@DictEntry.mk (@PyData.keyHash P (S "prepare")) (.str (S "prepare") 640) (.ref 260)), (@DictEntry.mk (@PyData.keyHash P (S "get_ready")) (.str (S "get_ready") 650) (.ref 267)), (@DictEntry.mk (@PyData.keyHash P (S "is_active")) (.str (S "is_active") 657) (.ref 274)), (@DictEntry.mk (@PyData.keyHash P (S "__bool__")) (.str (S "__bool__") 664) (.ref 281)), (@DictEntry.mk (@PyData.keyHash P (S "done")) (.str (S "done") 678) (.ref 288)), (@DictEntry.mk (@PyData.keyHash P (S "_find_cycle")) (.str (S "_find_cycle") 691) (.ref 295)), (@DictEntry.mk (@PyData.keyHash P (S "static_order")) (.str (S "static_order") 698) (.ref 302)), (@DictEntry.mk (@PyData.keyHash P (S "__static_attributes__")) (.str (S "__static_attributes__") 703) (.ref 303)), (@DictEntry.mk (@PyData.keyHash P (S "__dict__")) (.str (S "__dict__") 705) (.ref 306)), (@DictEntry.mk (@PyData.keyHash P (S "__weakref__")) (.str (S "__weakref__") 707) (.ref 307)), (@DictEntry.mk (@PyData.keyHash P (S "__doc__")) (.str (S "__doc__") 708) .none)] 4) #[])) ::
  (nat_lit 305, (@Obj.mk (.type "type") none (@Data.cls (@ClassData.mk (S "TopologicalSorter") [(.type "object")] [(.ref 305), (.type "object")] 304 (S "TopologicalSorter") true [] [] false none false)) #[none, none, (some (.str (S "TopologicalSorter") 592)), (some (.str (S "TopologicalSorter") 600)), (some (.builtin "object.__new__")), (some (.bool true))])) ::
  (nat_lit 306, (@Obj.mk (.type "getset_descriptor") none (@Data.fields #[(.str (S "__dict__") 704), (.ref 305), (.builtin "function.__dict__"), (.builtin "function.__dict__#set")]) #[])) ::
  (nat_lit 307, (@Obj.mk (.type "getset_descriptor") none (@Data.fields #[(.str (S "__weakref__") 706), (.ref 305), (.builtin "ExceptionGroup.__weakref__"), .none]) #[])) ::
  (nat_lit 313, (@Obj.mk (.type "code") none (@Data.fields #[(.str (S "_law_bases") 713), (.str (S "_law_bases") 714), (.str (S "/claim/cut.py") 715), (.int (236 : @Int) 0), (.int (1 : @Int) 0), (.int (0 : @Int) 0), (.int (0 : @Int) 0), (.int (3 : @Int) 0), (.ref 310), (.bool true), (.int (276 : @Int) 0), (.ref 311), .none, .none, .none, (.ref 312), (.int (716 : @Int) 0), (.int (236 : @Int) 0), (.str (S "/claim/cut.py") 717)]) #[])) ::
  (nat_lit 314, (@Obj.mk (.type "function") none (@Data.func (fd (topSt 17) (S "_law_bases") (S "_law_bases") 3 [] .none .none .none (.str (S "law_oc0342_01") 711) none (.ref 313) .none 0)) #[])) ::
  (nat_lit 318, (@Obj.mk (.type "code") none (@Data.fields #[(.str (S "_law_owns") 719), (.str (S "_law_owns") 720), (.str (S "/claim/cut.py") 721), (.int (244 : @Int) 0), (.int (1 : @Int) 0), (.int (0 : @Int) 0), (.int (0 : @Int) 0), (.int (3 : @Int) 0), (.ref 315), (.bool true), (.int (276 : @Int) 0), (.ref 316), .none, .none, .none, (.ref 317), (.int (722 : @Int) 0), (.int (244 : @Int) 0), (.str (S "/claim/cut.py") 723)]) #[])) ::
  (nat_lit 319, (@Obj.mk (.type "function") none (@Data.func (fd (topSt 18) (S "_law_owns") (S "_law_owns") 3 [] .none .none .none (.str (S "law_oc0342_01") 711) none (.ref 318) .none 0)) #[])) ::
  (nat_lit 325, (@Obj.mk (.type "code") none (@Data.fields #[(.str (S "_law_run") 725), (.str (S "_law_run") 726), (.str (S "/claim/cut.py") 727), (.int (253 : @Int) 0), (.int (2 : @Int) 0), (.int (0 : @Int) 0), (.int (0 : @Int) 0), (.int (3 : @Int) 0), (.ref 320), (.bool true), (.int (276 : @Int) 0), (.ref 321), .none, (.ref 322), (.ref 323), (.ref 324), (.int (734 : @Int) 0), (.int (253 : @Int) 0), (.str (S "/claim/cut.py") 735)]) #[])) ::
  (nat_lit 326, (@Obj.mk (.type "function") none (@Data.func (fd (topSt 19) (S "_law_run") (S "_law_run") 3 [] .none .none .none (.str (S "law_oc0342_01") 711) none (.ref 325) .none 0)) #[])) ::
  (nat_lit 330, (@Obj.mk (.type "code") none (@Data.fields #[(.str (S "_law_lines") 737), (.str (S "_law_lines") 738), (.str (S "/claim/cut.py") 739), (.int (266 : @Int) 0), (.int (2 : @Int) 0), (.int (0 : @Int) 0), (.int (0 : @Int) 0), (.int (3 : @Int) 0), (.ref 327), (.bool true), (.int (276 : @Int) 0), (.ref 328), .none, .none, .none, (.ref 329), (.int (740 : @Int) 0), (.int (266 : @Int) 0), (.str (S "/claim/cut.py") 741)]) #[])) ::
  (nat_lit 331, (@Obj.mk (.type "function") none (@Data.func (fd (topSt 20) (S "_law_lines") (S "_law_lines") 3 [] .none .none .none (.str (S "law_oc0342_01") 711) none (.ref 330) .none 0)) #[])) ::
  (nat_lit 335, (@Obj.mk (.type "code") none (@Data.fields #[(.str (S "_law_plain_lines") 743), (.str (S "_law_plain_lines") 744), (.str (S "/claim/cut.py") 745), (.int (278 : @Int) 0), (.int (1 : @Int) 0), (.int (0 : @Int) 0), (.int (0 : @Int) 0), (.int (3 : @Int) 0), (.ref 332), (.bool true), (.int (276 : @Int) 0), (.ref 333), .none, .none, .none, (.ref 334), (.int (746 : @Int) 0), (.int (278 : @Int) 0), (.str (S "/claim/cut.py") 747)]) #[])) ::
  (nat_lit 336, (@Obj.mk (.type "function") none (@Data.func (fd (topSt 21) (S "_law_plain_lines") (S "_law_plain_lines") 3 [] .none .none .none (.str (S "law_oc0342_01") 711) none (.ref 335) .none 0)) #[])) ::
  (nat_lit 340, (@Obj.mk (.type "code") none (@Data.fields #[(.str (S "_law_tables") 749), (.str (S "_law_tables") 750), (.str (S "/claim/cut.py") 751), (.int (295 : @Int) 0), (.int (2 : @Int) 0), (.int (0 : @Int) 0), (.int (0 : @Int) 0), (.int (3 : @Int) 0), (.ref 337), (.bool true), (.int (276 : @Int) 0), (.ref 338), .none, .none, .none, (.ref 339), (.int (752 : @Int) 0), (.int (295 : @Int) 0), (.str (S "/claim/cut.py") 753)]) #[])) ::
  (nat_lit 341, (@Obj.mk (.type "function") none (@Data.func (fd (topSt 22) (S "_law_tables") (S "_law_tables") 3 [] .none .none .none (.str (S "law_oc0342_01") 711) none (.ref 340) .none 0)) #[])) ::
  (nat_lit 345, (@Obj.mk (.type "code") none (@Data.fields #[(.str (S "_law_first") 755), (.str (S "_law_first") 756), (.str (S "/claim/cut.py") 757), (.int (303 : @Int) 0), (.int (2 : @Int) 0), (.int (0 : @Int) 0), (.int (0 : @Int) 0), (.int (3 : @Int) 0), (.ref 342), (.bool true), (.int (276 : @Int) 0), (.ref 343), .none, .none, .none, (.ref 344), (.int (758 : @Int) 0), (.int (303 : @Int) 0), (.str (S "/claim/cut.py") 759)]) #[])) ::
  (nat_lit 346, (@Obj.mk (.type "function") none (@Data.func (fd (topSt 23) (S "_law_first") (S "_law_first") 3 [] .none .none .none (.str (S "law_oc0342_01") 711) none (.ref 345) .none 0)) #[])) ::
  (nat_lit 350, (@Obj.mk (.type "code") none (@Data.fields #[(.str (S "_law_inherited") 761), (.str (S "_law_inherited") 762), (.str (S "/claim/cut.py") 763), (.int (310 : @Int) 0), (.int (3 : @Int) 0), (.int (0 : @Int) 0), (.int (0 : @Int) 0), (.int (3 : @Int) 0), (.ref 347), (.bool true), (.int (276 : @Int) 0), (.ref 348), .none, .none, .none, (.ref 349), (.int (764 : @Int) 0), (.int (310 : @Int) 0), (.str (S "/claim/cut.py") 765)]) #[])) ::
  (nat_lit 351, (@Obj.mk (.type "function") none (@Data.func (fd (topSt 24) (S "_law_inherited") (S "_law_inherited") 3 [] .none .none .none (.str (S "law_oc0342_01") 711) none (.ref 350) .none 0)) #[])) ::
  (nat_lit 355, (@Obj.mk (.type "code") none (@Data.fields #[(.str (S "law") 767), (.str (S "law") 768), (.str (S "/claim/cut.py") 769), (.int (318 : @Int) 0), (.int (1 : @Int) 0), (.int (0 : @Int) 0), (.int (0 : @Int) 0), (.int (3 : @Int) 0), (.ref 352), (.bool true), (.int (276 : @Int) 0), (.ref 353), .none, .none, .none, (.ref 354), (.int (770 : @Int) 0), (.int (318 : @Int) 0), (.str (S "/claim/cut.py") 771)]) #[])) ::
  (nat_lit 356, (@Obj.mk (.type "function") none (@Data.func (fd (topSt 25) (S "law") (S "law") 3 [] .none .none .none (.str (S "law_oc0342_01") 711) none (.ref 355) .none 0)) #[])) ::
  []
noncomputable def as1 : List Addr := nat_lit 2 :: nat_lit 3 :: nat_lit 42 :: nat_lit 43 :: nat_lit 47 :: nat_lit 48 :: nat_lit 56 :: nat_lit 62 :: nat_lit 63 :: nat_lit 69 :: nat_lit 70 :: nat_lit 111 :: nat_lit 117 :: nat_lit 118 :: nat_lit 134 :: nat_lit 135 :: nat_lit 160 :: nat_lit 161 :: nat_lit 170 :: nat_lit 171 :: nat_lit 172 :: nat_lit 173 :: nat_lit 176 :: nat_lit 177 :: nat_lit 183 :: nat_lit 184 :: nat_lit 188 :: nat_lit 189 :: nat_lit 203 :: nat_lit 204 :: nat_lit 207 :: nat_lit 208 :: nat_lit 209 :: nat_lit 210 :: nat_lit 211 :: nat_lit 222 :: nat_lit 223 :: nat_lit 224 :: nat_lit 234 :: nat_lit 240 :: nat_lit 241 :: nat_lit 247 :: nat_lit 248 :: nat_lit 254 :: nat_lit 255 :: nat_lit 259 :: nat_lit 260 :: nat_lit 266 :: nat_lit 267 :: nat_lit 273 :: nat_lit 274 :: nat_lit 280 :: nat_lit 281 :: nat_lit 287 :: nat_lit 288 :: nat_lit 294 :: nat_lit 295 :: nat_lit 304 :: nat_lit 305 :: nat_lit 306 :: nat_lit 307 :: nat_lit 313 :: nat_lit 314 :: nat_lit 318 :: nat_lit 319 :: nat_lit 325 :: nat_lit 326 :: nat_lit 330 :: nat_lit 331 :: nat_lit 335 :: nat_lit 336 :: nat_lit 340 :: nat_lit 341 :: nat_lit 345 :: nat_lit 346 :: nat_lit 350 :: nat_lit 351 :: nat_lit 355 :: nat_lit 356 :: []
end Mine
end

noncomputable section
open PySem PySem.W PyProof.Rows
set_option Elab.async false
set_option maxRecDepth 1000000
set_option maxHeartbeats 0
namespace Mine
noncomputable section
noncomputable def q0 : Program := { pr0 with main := { pr0.main with body := pr0.main.body.drop 25 } }
noncomputable def loose0 : List Str := ["_sre", "_wall", "_name_disallowed_re", "_value_disallowed_re", "Headers", "_initial_missing", "reduce", "_c3_merge", "_NODE_OUT", "_NODE_DONE", "_NodeInfo", "CycleError", "TopologicalSorter", "_law_bases", "_law_owns", "_law_run", "_law_lines", "_law_plain_lines", "_law_tables", "_law_first", "_law_inherited"]
noncomputable abbrev hk1 : Hook := kmHook kk as1 (fun _ => by kernel_rfl) [nat_lit 338]
noncomputable abbrev xt0 (s : Shared) : Bool := xlAt q0 [] s && recOk (RowW.records (OpenRow.toRowW row0)) s
/-- the run of the top, over a tree of objects -/
noncomputable def runT (stp : SharedT → Thread → Option (SharedT × Thread)) (ok : Thread → Bool) : Nat → SharedT → Thread → Option SharedT
  | 0, _, _ => none
  | n + 1, s, t => match through t with
    | true => some s
    | false => match ok t with
      | false => none
      | true => match stp s t with
        | some (s', t') => runT stp ok n s' t'
        | none => none
theorem runT_of {tb : String → Option Builtin} {p : Program} {w : World} {m : Nat} {ann : Option Value} {n : Nat} : ∀ {s s' : SharedT} {t : Thread}, runT (stepT (denote tb) p w) (stepOk m ann) n s t = some s' → topRun tb p w m ann n s.abs t = some s'.abs := by
  induction n with
  | zero => intro s s' t h; cases h
  | succ n ih =>
    intro s s' t h
    unfold runT at h
    unfold topRun
    cases e1 : through t with
    | true => rw [e1] at h; cases h; rfl
    | false =>
      rw [e1] at h
      dsimp only at h ⊢
      cases e2 : stepOk m ann t with
      | false => rw [e2] at h; cases h
      | true =>
        rw [e2] at h
        dsimp only at h ⊢
        cases e3 : stepT (denote tb) p w s t with
        | none => rw [e3] at h; cases h
        | some r =>
          obtain ⟨s₂, t₂⟩ := r
          rw [e3] at h
          rw [stepT_spec e3]
          exact ih h
noncomputable def impT (stp : SharedT → Thread → Option (SharedT × Thread)) : Nat → SharedT → Thread → Option SharedT
  | 0, _, _ => none
  | n + 1, s, t => match t.atExitBegin with
    | some [] => some s
    | some (_ :: _) => none
    | none => match stp s t with
      | some (s', t') => impT stp n s' t'
      | none => none
theorem impT_of {tb : String → Option Builtin} {p : Program} {w : World} {n : Nat} : ∀ {s s' : SharedT} {t : Thread}, impT (stepT (denote tb) p w) n s t = some s' → importEnds tb p w n s.abs t = some s'.abs := by
  induction n with
  | zero => intro s s' t h; cases h
  | succ n ih =>
    intro s s' t h
    unfold impT at h
    unfold importEnds
    cases e1 : t.atExitBegin with
    | some l =>
      rw [e1] at h
      cases l with
      | nil => cases h; rfl
      | cons a b => cases h
    | none =>
      rw [e1] at h
      dsimp only at h ⊢
      cases e3 : stepT (denote tb) p w s t with
      | none => rw [e3] at h; cases h
      | some r =>
        obtain ⟨s₂, t₂⟩ := r
        rw [e3] at h
        rw [stepT_spec e3]
        exact ih h
noncomputable def insL : List Obj → Nat → BT → BT
  | [], _, t => t
  | o :: os, i, t => insL os (i + 1) (t.ins i o)
noncomputable def okIns : List Obj → Nat → BT → Bool
  | [], _, _ => true
  | o :: os, i, t => ((t.ins i o).get i).isSome && okIns os (i + 1) (t.ins i o)
theorem insL_abs {life : Life} : ∀ {l : List Obj} {i : Nat} {t : BT}, okIns l i t = true → absHeap (insL l i t) (i + l.length) life = ⟨(absHeap t i life).objs ++ l.toArray, life⟩
  | [], i, t, _ => by simp [insL, absHeap]
  | o :: l, i, t, h => by
    obtain ⟨h1, h2⟩ := Bool.and_eq_true_iff.mp h
    have e := insL_abs (life := life) h2
    rw [insL, List.length_cons, show i + (l.length + 1) = i + 1 + l.length by omega, e, absHeap_ins h1]
    show Heap.mk ((absHeap t i life).objs.push o ++ l.toArray) life = _
    congr 1
    apply Array.toList_inj.mp
    simp
noncomputable def toT (s : Shared) : SharedT := ⟨insL s.heap.objs.toList 0 .nil, s.heap.objs.size, s.heap.life, s.gens, s.drawn, s.toks, s.os⟩
theorem toT_abs {s : Shared} (h : okIns s.heap.objs.toList 0 .nil = true) : (toT s).abs = s := by
  have e := insL_abs (life := s.heap.life) h
  obtain ⟨⟨⟨l⟩, life⟩, gs, d, k, os⟩ := s
  unfold toT SharedT.abs
  dsimp only at e ⊢
  rw [Nat.zero_add] at e
  show Shared.mk (absHeap (insL l 0 .nil) l.length life) _ _ _ _ = _
  rw [e]
  have z : (absHeap BT.nil 0 life).objs ++ l.toArray = ⟨l⟩ := by simp [absHeap, BT.list]
  rw [z]
noncomputable def st0 : SharedT := ⟨.nil, 0, (start (opening pr0)).1.heap.life, (start (opening pr0)).1.gens, (start (opening pr0)).1.drawn, (start (opening pr0)).1.toks, (start (opening pr0)).1.os⟩
theorem st0_abs : st0.abs = (start (opening pr0)).1 := by rfl
noncomputable abbrev looksAt (h₀ : Heap) (s : Shared) : Bool := staticsOk (importedModules pr0.main.body) h₀ s.heap && namesBound pr0 s.heap && gensDone s && laidKept h₀ s.heap
noncomputable abbrev Good (s2 : Shared) (s : Shared) : Bool := (s2.heap.isNs mainGlobals && s2.gens.size == 0) && (okIns s2.heap.objs.toList 0 .nil && looksAt s2.heap s)
theorem open_T {α : Type} {f : Shared → α} {v : α} {w : World}
    (h : ((impT (stepT (denote treeTable) (opening pr0) w) 4674 st0 (start (opening pr0)).2).bind fun s1 => (fenceModules? pr0 s1.abs).bind fun s2 =>
      (runT (stepT (denote treeTable) pr0 w) (stepOk s2.heap.objs.size (s2.heap.nsMap mainGlobals "__annotations__")) 4674 (toT s2) (topStub pr0)).map fun s => (Good s2 s.abs, f s.abs)) = some (true, v)) : (openEnds treeTable pr0 w 4674).map f = some v := by
  obtain ⟨s1, h1, h⟩ := Option.bind_eq_some_iff.mp h
  obtain ⟨s2, h2, h⟩ := Option.bind_eq_some_iff.mp h
  obtain ⟨s, h3, h⟩ := Option.map_eq_some_iff.mp h
  obtain ⟨hg, hf⟩ := Prod.mk.inj h
  obtain ⟨g1, g2⟩ := Bool.and_eq_true_iff.mp hg
  obtain ⟨g2, g3⟩ := Bool.and_eq_true_iff.mp g2
  have r1 := impT_of h1
  rw [st0_abs] at r1
  have r3 := runT_of h3
  rw [toT_abs g2] at r3
  have t : topFrom treeTable pr0 w 4674 s2 = some s.abs := by
    unfold topFrom
    rw [g1, r3]
    dsimp only [Option.bind]
    have l' : (staticsOk (importedModules pr0.main.body) s2.heap s.abs.heap && namesBound pr0 s.abs.heap && gensDone s.abs && laidKept s2.heap s.abs.heap) = true := g3
    rw [l']
  have t0 : fencedOpening treeTable pr0 w 4674 = some s2 := by
    unfold fencedOpening
    rw [r1]
    exact h2
  unfold openEnds
  rw [t0]
  show (topFrom _ _ _ _ _).map f = _
  rw [t, ← hf]
  rfl
theorem left1 : LeftO pr0 q0 loose0 xt0 (Hook.obs hk1) (Hook.val hk1) 4674 := fun w => by
  refine open_T ?_
  unfold Good looksAt
  rw [Fast.te10156331382660048174, Fast.te11892475500146522536, Fast.te6613529449190102663, Fast.te5923862056798008813, Fast.te1435165496053646825, Fast.te14289696077712309145, Fast.te8920871248978507458, Fast.te4187177175401517315]
  kernel_rfl
end
end Mine
end

noncomputable section
open PySem PySem.W PyProof.Rows PySem.Calls
set_option Elab.async false
set_option linter.unusedVariables false
set_option tactic.hygienic false
namespace Mine

noncomputable abbrev prg : Program := PySem.Challenge.rw_oc0342_01.row.prog

/-- what a value tells, apart from tokens and addresses of what is never changed again -/
inductive T where
  | none
  | bool (b : Bool)
  | int (i : Int)
  | str (x : Str)
  | list (ts : List T)
  | tup (ts : List T)
  | dict (ds : List (Str × T))
  | obj (C : Addr) (ds : List (Str × T))
  | cel (a : Addr)
  | raw (v : Value)
  | at (o : Obj)

structure Gx where
  w : World
  p : Program
  loose : List Str
  mean : ExcName → Option Value
  mg : Str → Option Value
  mb : Str → Option Value
  fns : List (Addr × Obj)
  cls : List (Addr × T)
noncomputable abbrev Gx.M (g : Gx) : Model := model prg g.w
noncomputable abbrev Gx.P (g : Gx) : Params := g.w.params
noncomputable abbrev tupOf (its : Array Value) (n : Nat) : Obj := { cls := .type "tuple", data := .seq its n }

mutual
inductive VR (P : Params) (fz : List (Addr × Obj)) : T → Value → Prop where
  | none : VR P fz .none .none
  | bool (b : Bool) : VR P fz (.bool b) (.bool b)
  | int (i : Int) (t : Tok) : VR P fz (.int i) (.int i t)
  | str (x : Str) (t : Tok) : VR P fz (.str x) (.str x t)
  | list {a : Addr} {vs : List Value} {n : Nat} {ts : List T} : (a, listOf vs.toArray n) ∈ fz → VRs P fz ts vs → VR P fz (.list ts) (.ref a)
  | tup {a : Addr} {vs : List Value} {n : Nat} {ts : List T} : (a, tupOf vs.toArray n) ∈ fz → VRs P fz ts vs → VR P fz (.tup ts) (.ref a)
  | dict {a : Addr} {es : List DictEntry} {n : Nat} {ds : List (Str × T)} : (a == sysModules) = false → (a, dictOf es n) ∈ fz → VRd P fz ds es → VR P fz (.dict ds) (.ref a)
  | obj {a d C : Addr} {es : List DictEntry} {n : Nat} {ds : List (Str × T)} : (a, instObj C d) ∈ fz → (d, dictOf es n) ∈ fz → VRd P fz ds es → VR P fz (.obj C ds) (.ref a)
  | cel (a : Addr) : VR P fz (.cel a) (.ref a)
  | raw (v : Value) : VR P fz (.raw v) v
  | at {a : Addr} {o : Obj} : (a, o) ∈ fz → VR P fz (.at o) (.ref a)
inductive VRs (P : Params) (fz : List (Addr × Obj)) : List T → List Value → Prop where
  | nil : VRs P fz [] []
  | cons {t : T} {v : Value} {ts : List T} {vs : List Value} : VR P fz t v → VRs P fz ts vs → VRs P fz (t :: ts) (v :: vs)
inductive VRd (P : Params) (fz : List (Addr × Obj)) : List (Str × T) → List DictEntry → Prop where
  | nil : VRd P fz [] []
  | cons {x : Str} {tk : Tok} {t : T} {v : Value} {ds : List (Str × T)} {es : List DictEntry} : VR P fz t v → VRd P fz ds es →
      VRd P fz ((x, t) :: ds) (⟨PyData.keyHash P x, .str x tk, v⟩ :: es)
end

mutual
theorem VR.mono {P : Params} {fz fz' : List (Addr × Obj)} {t : T} {v : Value} (k : ∀ p ∈ fz, p ∈ fz') : VR P fz t v → VR P fz' t v
  | .none => .none
  | .bool b => .bool b
  | .int i t => .int i t
  | .str x t => .str x t
  | .list h r => .list (k _ h) (r.mono k)
  | .tup h r => .tup (k _ h) (r.mono k)
  | .dict q h r => .dict q (k _ h) (r.mono k)
  | .obj h h' r => .obj (k _ h) (k _ h') (r.mono k)
  | .cel a => .cel a
  | .raw v => .raw v
  | .at h => .at (k _ h)
theorem VRs.mono {P : Params} {fz fz' : List (Addr × Obj)} {ts : List T} {vs : List Value} (k : ∀ p ∈ fz, p ∈ fz') : VRs P fz ts vs → VRs P fz' ts vs
  | .nil => .nil
  | .cons h r => .cons (h.mono k) (r.mono k)
theorem VRd.mono {P : Params} {fz fz' : List (Addr × Obj)} {ds : List (Str × T)} {es : List DictEntry} (k : ∀ p ∈ fz, p ∈ fz') : VRd P fz ds es → VRd P fz' ds es
  | .nil => .nil
  | .cons h r => .cons (h.mono k) (r.mono k)
end

/-- what a thing that may still change holds -/
inductive C where
  | list (ts : List T)
  | dict (ds : List (Str × T))
  | inst (cls d : Addr)
  | node (cls : Addr) (ts : List (Option T))
  | set (S : Str → Bool) (n : Nat)
  | iter (src : Option T) (i : Nat)
  | raw (o : Obj)
inductive VRo (P : Params) (fz : List (Addr × Obj)) : List (Option T) → List (Option Value) → Prop where
  | nil : VRo P fz [] []
  | none {ts : List (Option T)} {vs : List (Option Value)} : VRo P fz ts vs → VRo P fz (none :: ts) (none :: vs)
  | some {t : T} {v : Value} {ts : List (Option T)} {vs : List (Option Value)} : VR P fz t v → VRo P fz ts vs → VRo P fz (some t :: ts) (some v :: vs)
theorem VRo.mono {P : Params} {fz fz' : List (Addr × Obj)} {ts : List (Option T)} {vs : List (Option Value)} (k : ∀ p ∈ fz, p ∈ fz') : VRo P fz ts vs → VRo P fz' ts vs
  | .nil => .nil
  | .none r => .none (r.mono k)
  | .some h r => .some (h.mono k) (r.mono k)
noncomputable abbrev Cs := List (Addr × C)
inductive CR (P : Params) (fz : List (Addr × Obj)) (a : Addr) : C → Obj → Prop where
  | list {ts : List T} {vs : List Value} (n : Nat) : VRs P fz ts vs → CR P fz a (.list ts) (listOf vs.toArray n)
  | dict {ds : List (Str × T)} {es : List DictEntry} (n : Nat) : (a == sysModules) = false → VRd P fz ds es → CR P fz a (.dict ds) (dictOf es n)
  | inst (cls d : Addr) : CR P fz a (.inst cls d) (instObj cls d)
  | node {cls d : Addr} {es : List DictEntry} {n : Nat} {ts : List (Option T)} {vs : List (Option Value)} : VRo P fz ts vs → (d, dictOf es n) ∈ fz → CR P fz a (.node cls ts) { cls := .ref cls, dict := Option.some d, data := .plain, slots := vs.toArray }
  | set {S : Str → Bool} {n : Nat} {o : Obj} : (∀ v, o.data ≠ .cell v) → (∀ (w : World) (h : Heap), w.params = P → h.get? a = Option.some o → h.SetOf (strKind prg w) a S n) → CR P fz a (.set S n) o
  | iter {t : T} {b : Addr} (i : Nat) : VR P fz t (.ref b) → CR P fz a (.iter (some t) i) { cls := .type "list_iterator", data := .fields #[.ref b, .int i 0] }
  | ended (i : Nat) : CR P fz a (.iter Option.none i) { cls := .type "list_iterator", data := .fields #[.none, .int i 0] }
  | raw (o : Obj) : CR P fz a (.raw o) o
theorem CR.mono {P : Params} {fz fz' : List (Addr × Obj)} {a : Addr} {c : C} {o : Obj} (k : ∀ p ∈ fz, p ∈ fz') : CR P fz a c o → CR P fz' a c o
  | .list n h => .list n (h.mono k)
  | .dict n q h => .dict n q (h.mono k)
  | .inst a d => .inst a d
  | .node h d => .node (h.mono k) (k _ d)
  | .set hc h => .set hc h
  | .iter i h => .iter i (h.mono k)
  | .ended i => .ended i
  | .raw o => .raw o

structure Ctx where
  h₀ : Heap
  L : Addr
  mF : Str → Option Value
  fz : List (Addr × Obj)
  pc : List (Addr × Obj)
  frs : List (Addr × Obj)
noncomputable abbrev Ctx.with (c : Ctx) (fz : List (Addr × Obj)) : Ctx := { c with fz := fz }

/-- the outer frames, and what the callers closed over -/
structure Fx (g : Gx) (c : Ctx) (cs : Cs) (h : Heap) : Prop where
  fr : ∀ p ∈ c.frs, ∃ sl, News c.h₀ c.L h [(p.1, { p.2 with slots := sl })]
  exF : ∀ p ∈ g.fns, p ∈ c.fz
  exC : ∀ p ∈ g.cls, ∃ o v, c.h₀.get? p.1 = some o ∧ o.data = .cell (some v) ∧ VR g.P c.fz p.2 v
  ap3 : ∀ p ∈ cs, ∀ q ∈ c.frs, p.1 ≠ q.1
  ap4 : ∀ p ∈ c.fz ++ c.pc, ∀ q ∈ c.frs, p.1 ≠ q.1
theorem Fx.gen {g : Gx} {c c' : Ctx} {cs cs' : Cs} {h h' : Heap} (X : Fx g c cs h) (k : ∀ b ob, (∃ q ∈ c.frs, q.1 = b) → h.get? b = some ob → h'.get? b = some ob) (n3 : ∀ p ∈ cs', ∀ q ∈ c.frs, p.1 ≠ q.1)
    (n4 : ∀ p ∈ c'.fz ++ c'.pc, ∀ q ∈ c.frs, p.1 ≠ q.1) (m : ∀ p ∈ c.fz, p ∈ c'.fz) (e0 : c'.h₀ = c.h₀ := by rfl) (eL : c'.L = c.L := by rfl) (ef : c'.frs = c.frs := by rfl) : Fx g c' cs' h' := by
  refine ⟨fun p hp => ?_, fun p hp => ?_, fun p hp => ?_, fun p hp q hq => n3 p hp q (ef ▸ hq), fun p hp q hq => n4 p hp q (ef ▸ hq)⟩
  · rw [ef] at hp
    obtain ⟨sl, n⟩ := X.fr p hp
    refine ⟨sl, fun q hq => ?_⟩
    have z := n q hq
    rw [List.mem_singleton.mp hq] at z ⊢
    rw [e0, eL]
    exact ⟨k _ _ ⟨p, hp, rfl⟩ z.1, z.2⟩
  · exact m p (X.exF p hp)
  · obtain ⟨o, v, a, b, r⟩ := X.exC p hp
    rw [e0]
    exact ⟨o, v, a, b, r.mono m⟩
theorem Fx.get {g : Gx} {c : Ctx} {cs : Cs} {h : Heap} (X : Fx g c cs h) {q : Addr × Obj} (hq : q ∈ c.frs) : ∃ sl, h.get? q.1 = some { q.2 with slots := sl } ∧ q.1 ≠ c.L ∧ c.h₀.get? q.1 = none := by
  obtain ⟨sl, n⟩ := X.fr q hq
  exact ⟨sl, n _ (.head _)⟩
theorem Fx.lt {g : Gx} {c : Ctx} {cs : Cs} {h : Heap} (X : Fx g c cs h) {q : Addr × Obj} (hq : q ∈ c.frs) : q.1 < h.objs.size := by
  obtain ⟨sl, n, _⟩ := X.get hq
  exact Heap.lt_size n

structure RF (g : Gx) (A : Around) (c : Ctx) (cs : Cs) (h : Heap) : Prop where
  below : ∃ fenv outer, A.frames = some (fenv :: outer) ∧ fenv.frame = some c.L ∧ fenv.scope.kind = .function ∧ TI.Frs outer c.frs
  F : Fr c.h₀ c.L h c.mF
  X : (kk g.w.params).In c.h₀
  top : Top g.p g.loose g.mean g.mg g.mb c.h₀
  N : News c.h₀ c.L h (c.fz ++ c.pc)
  co : ∀ p ∈ cs, ∃ o, CR g.P c.fz p.1 p.2 o ∧ News c.h₀ c.L h [(p.1, o)]
  nd : (cs.map (·.1)).Nodup
  ap : ∀ p ∈ cs, ∀ q ∈ c.fz ++ c.pc, p.1 ≠ q.1
  ap2 : ∀ p ∈ c.pc, ∀ q ∈ c.fz, p.1 ≠ q.1
  fx : Fx g c cs h

noncomputable abbrev Vars := List (Str × T)
noncomputable def VarAt (env : Env) (c : Ctx) (x : Str) (v : Value) : Prop :=
  (env.kindOf x = some .local ∧ env.locals = c.L ∧ c.mF x = some v) ∨
  (env.kindOf x = some .local ∧ ∃ o m₂, (env.locals, o) ∈ c.pc ∧ LCg.NsObj o m₂ ∧ m₂ x = some v) ∨
  ((env.kindOf x = some .cell ∨ env.kindOf x = some .free) ∧ ∃ a o, env.cells.lookup x = some a ∧ ((a, o) ∈ c.pc ∨ c.h₀.get? a = some o) ∧ o.data = .cell (some v))
noncomputable def VarsOK (g : Gx) (env : Env) (c : Ctx) (vars : Vars) : Prop := ∀ x t, vars.lookup x = some t → ∃ v, VR g.P c.fz t v ∧ VarAt env c x v
theorem VarsOK.mono {g : Gx} {env : Env} {c : Ctx} {vars : Vars} {fz : List (Addr × Obj)} (V : VarsOK g env c vars) (k : ∀ p ∈ c.fz, p ∈ fz) : VarsOK g env (c.with fz) vars := by
  intro x t h
  obtain ⟨v, a, b⟩ := V x t h
  exact ⟨v, a.mono k, b⟩

noncomputable def Room (A : Around) (n : Nat) : Prop := A.handled = none ∧ A.depth + n < recursionLimit ∧ A.units + 8 * n + 8 < cLine

/-- an expression's tree: what it gives, and the state behind it -/
noncomputable def Tr (g : Gx) (A : Around) (tree : Ctx → Sem Value → Prop) (cs : Cs) (P : T → Cs → Prop) : Prop :=
  ∀ (c : Ctx) (s : Shared) (Q E : Value → Shared → Prop) (t : Sem Value), tree c t → RF g A c cs s.heap →
    (∀ fz' r v cs' h' tk', (∀ p ∈ c.fz, p ∈ fz') → P r cs' → VR g.P fz' r v → RF g A (c.with fz') cs' h' → Q v { s with heap := h', toks := tk' }) →
    wpAny g.M A t Q E s
noncomputable def Ev (g : Gx) (A : Around) (env : Env) (vars : Vars) (e : Expr) (cs : Cs) (P : T → Cs → Prop) : Prop :=
  Tr g A (fun c t => VarsOK g env c vars ∧ t = eval e env) cs P
noncomputable def Op1 (g : Gx) (A : Around) (f : Value → Sem Value) (t₁ : T) (cs : Cs) (P : T → Cs → Prop) : Prop :=
  Tr g A (fun c t => ∃ v₁, VR g.P c.fz t₁ v₁ ∧ t = f v₁) cs P
noncomputable def Op2 (g : Gx) (A : Around) (f : Value → Value → Sem Value) (t₁ t₂ : T) (cs : Cs) (P : T → Cs → Prop) : Prop :=
  Tr g A (fun c t => ∃ v₁ v₂, VR g.P c.fz t₁ v₁ ∧ VR g.P c.fz t₂ v₂ ∧ t = f v₁ v₂) cs P
noncomputable def OpN (g : Gx) (A : Around) (f : List Value → Sem Value) (ts : List T) (cs : Cs) (P : T → Cs → Prop) : Prop :=
  Tr g A (fun c t => ∃ vs, VRs g.P c.fz ts vs ∧ t = f vs) cs P

section
variable {g : Gx} {A : Around} {env : Env} {vars : Vars} {cs : Cs} {P : T → Cs → Prop}

theorem Ev.use {e : Expr} {c : Ctx} {s : Shared} {Q E : Value → Shared → Prop} (H : Ev g A env vars e cs P) (V : VarsOK g env c vars) (R : RF g A c cs s.heap)
    (k : ∀ fz' r v cs' h' tk', (∀ p ∈ c.fz, p ∈ fz') → P r cs' → VR g.P fz' r v → RF g A (c.with fz') cs' h' → Q v { s with heap := h', toks := tk' }) : wpAny g.M A (eval e env) Q E s :=
  H c s Q E _ ⟨V, rfl⟩ R k
theorem Op2.use {f : Value → Value → Sem Value} {t₁ t₂ : T} {v₁ v₂ : Value} {c : Ctx} {s : Shared} {Q E : Value → Shared → Prop} (H : Op2 g A f t₁ t₂ cs P) (h₁ : VR g.P c.fz t₁ v₁) (h₂ : VR g.P c.fz t₂ v₂) (R : RF g A c cs s.heap)
    (k : ∀ fz' r v cs' h' tk', (∀ p ∈ c.fz, p ∈ fz') → P r cs' → VR g.P fz' r v → RF g A (c.with fz') cs' h' → Q v { s with heap := h', toks := tk' }) : wpAny g.M A (f v₁ v₂) Q E s :=
  H c s Q E _ ⟨v₁, v₂, h₁, h₂, rfl⟩ R k

theorem VarsOK.get {c : Ctx} {x : Str} {t : T} (V : VarsOK g env c vars) (h : vars.lookup x = some t) : ∃ v, VR g.P c.fz t v ∧ VarAt env c x v := V x t h

theorem Ev.name {x : Str} {pos : Pos} {t : T} (hx : vars.lookup x = some t) (h : P t cs) (hk : env.scope.kind = .function := by rfl) (hd : (x == ("__debug__" : Str)) = false := by decide) (hn : (x == ("__classdict__" : Str)) = false := by decide) :
    Ev g A env vars (.Name x pos) cs P := by
  rintro c s Q E _ ⟨V, rfl⟩ R k
  obtain ⟨v, hv, hat⟩ := V x t hx
  have fin : Q v s := k c.fz t v cs s.heap s.toks (fun _ h => h) h hv R
  rcases hat with ⟨hl, hL, hm⟩ | ⟨hl, o, m₂, ho, hns, hm⟩ | ⟨hl, a, o, hc, ho, hdat⟩
  · exact wpAny_Name (wpAny_loadName_local hk hl (hL ▸ R.F.ns) hm fin) hd
  · exact wpAny_Name (wpAny_loadName_local hk hl (hns.ns (R.N _ (List.mem_append_right _ ho)).1) hm fin) hd
  · have hcell : s.heap.get? a = some o := by
      rcases ho with ho | ho
      · exact (R.N _ (List.mem_append_right _ ho)).1
      · exact R.F.keep _ _ ho
    rcases hl with hl | hl
    · exact wpAny_Name (wpAny_loadName_cell hk hl hc ⟨o, hcell, hdat⟩ fin) hd
    · exact wpAny_Name (wpAny_loadName_free hk hl hc ⟨o, hcell, hdat⟩ fin hn) hd

theorem Ev.glob {x : Str} {pos : Pos} {v : Value} (e : nsIn (kk g.w.params) mainGlobals x = some (some v)) (h : P (.raw v) cs) (hg : env.globals = mainGlobals := by rfl) (hk : env.scope.kind = .function := by rfl)
    (hx : env.kindOf x = some .globalImplicit := by rfl) (hd : (x == ("__debug__" : Str)) = false := by decide) : Ev g A env vars (.Name x pos) cs P := by
  rintro c s Q E _ ⟨V, rfl⟩ R k
  exact nameG_K R.F R.X (topRead_of R.top) e (k c.fz _ v cs s.heap s.toks (fun _ h => h) h (.raw v) R) hg hk hx hd

theorem Ev.bltn {x : Str} {pos : Pos} {v : Value} (e : nsIn (kk g.w.params) mainGlobals x = some none) (hv : bootBuiltins x = some v) (h : P (.raw v) cs) (hn : x ≠ "__name__" := by decide) (hg : env.globals = mainGlobals := by rfl) (hb : env.builtins = builtinsNs := by rfl) (hk : env.scope.kind = .function := by rfl)
    (hx : env.kindOf x = some .globalImplicit := by rfl) (hd : (x == ("__debug__" : Str)) = false := by decide) : Ev g A env vars (.Name x pos) cs P := by
  rintro c s Q E _ ⟨V, rfl⟩ R k
  exact Name_function_global hk hx (loadGlobal_builtin (env := env) (by rw [hg]; exact R.top.g.keeps R.F.keep) (mg_none_of R.X R.top.g e) (by rw [hb]; exact R.top.b.keeps R.F.keep) ((R.top.builtins x hn).trans hv) (k c.fz _ v cs s.heap s.toks (fun _ h => h) h (.raw v) R)) hd

theorem Ev.cstr {x : Str} {k : Nat} {pos : Pos} (h : P (.str x) cs) : Ev g A env vars (.Constant (.str x) k pos) cs P := by
  rintro c s Q E _ ⟨V, rfl⟩ R kk
  show wpAny _ _ (mkText x) _ _ _
  exact wpAny_mkText (kk c.fz _ _ cs s.heap _ (fun _ h => h) h (.str x _) R)
theorem Ev.cint {i : Int} {k : Nat} {pos : Pos} (h : P (.int i) cs) : Ev g A env vars (.Constant (.int i) k pos) cs P := by
  rintro c s Q E _ ⟨V, rfl⟩ R kk
  show wpAny _ _ (mkInt i) _ _ _
  exact wpAny_mkInt (kk c.fz _ _ cs s.heap _ (fun _ h => h) h (.int i _) R)
theorem Ev.cnone {k : Nat} {pos : Pos} (h : P .none cs) : Ev g A env vars (.Constant .none k pos) cs P := by
  rintro c s Q E _ ⟨V, rfl⟩ R kk
  exact wpAny_pure (kk c.fz _ _ cs s.heap s.toks (fun _ h => h) h .none R)
theorem Ev.cbool {b : Bool} {k : Nat} {pos : Pos} (h : P (.bool b) cs) : Ev g A env vars (.Constant (.bool b) k pos) cs P := by
  rintro c s Q E _ ⟨V, rfl⟩ R kk
  exact wpAny_pure (kk c.fz _ _ cs s.heap s.toks (fun _ h => h) h (.bool b) R)
end
end Mine
end

noncomputable section
open PySem PySem.W PyProof.Rows PySem.Calls
set_option Elab.async false
set_option linter.unusedVariables false
set_option tactic.hygienic false
namespace Mine

inductive CU (a : Addr) (c c' : C) : Cs → Cs → Prop where
  | head {r : Cs} : CU a c c' ((a, c) :: r) ((a, c') :: r)
  | tail {p : Addr × C} {r r' : Cs} : CU a c c' r r' → CU a c c' (p :: r) (p :: r')
theorem CU.mem {a : Addr} {c c' : C} {cs cs' : Cs} : CU a c c' cs cs' → (a, c) ∈ cs
  | .head => .head _
  | .tail h => .tail _ h.mem
theorem CU.keys {a : Addr} {c c' : C} {cs cs' : Cs} : CU a c c' cs cs' → cs'.map (·.1) = cs.map (·.1)
  | .head => rfl
  | .tail h => by simp [h.keys]
theorem CU.each {a : Addr} {c c' : C} {cs cs' : Cs} : CU a c c' cs cs' → (cs.map (·.1)).Nodup → ∀ p ∈ cs', (p = (a, c')) ∨ (p ∈ cs ∧ p.1 ≠ a)
  | .head, nd, p, hp => by
    rcases List.mem_cons.mp hp with rfl | hp
    · exact .inl rfl
    · refine .inr ⟨.tail _ hp, fun e => ?_⟩
      have := (List.nodup_cons.mp nd).1
      exact this (List.mem_map.mpr ⟨p, hp, e⟩)
  | .tail h, nd, p, hp => by
    rcases List.mem_cons.mp hp with rfl | hp
    · refine .inr ⟨.head _, fun e => ?_⟩
      have := (List.nodup_cons.mp nd).1
      exact this (List.mem_map.mpr ⟨_, h.mem, e.symm⟩)
    · rcases h.each (List.nodup_cons.mp nd).2 p hp with e | ⟨q, n⟩
      · exact .inl e
      · exact .inr ⟨.tail _ q, n⟩

section
variable {g : Gx} {A : Around} {c : Ctx} {cs cs' : Cs} {h h' : Heap}

theorem News.of_push {h₀ h : Heap} {L a : Addr} {o o' : Obj} (N : News h₀ L h [(a, o)]) : News h₀ L (h.push o') [(a, o)] := fun p hp => by
  have := N p hp
  exact ⟨Heap.get?_push_of_some _ this.1, this.2⟩
theorem News.grownL {h₀ h h' : Heap} {L : Addr} {l : List (Addr × Obj)} (N : News h₀ L h l) (k : ∀ b o, h.get? b = some o → h'.get? b = some o) : News h₀ L h' l := fun p hp => ⟨k _ _ (N p hp).1, (N p hp).2⟩
theorem RF.lt (R : RF g A c cs h) : ∀ p ∈ c.fz ++ c.pc, p.1 < h.objs.size := fun p hp => Heap.lt_size (R.N p hp).1
theorem RF.ltC (R : RF g A c cs h) : ∀ p ∈ cs, p.1 < h.objs.size := fun p hp => by
  obtain ⟨o, _, n⟩ := R.co p hp
  exact Heap.lt_size (n _ (.head _)).1
theorem RF.new0 (R : RF g A c cs h) : c.h₀.get? h.objs.size = none := by
  cases q : c.h₀.get? h.objs.size with
  | none => rfl
  | some o => exact absurd (Heap.lt_size (R.F.keep _ _ q)) (Nat.lt_irrefl _)
theorem RF.newL (R : RF g A c cs h) : h.objs.size ≠ c.L := Nat.ne_of_gt R.F.ns.lt

/-- a new thing that is never changed -/
theorem RF.pushFz (R : RF g A c cs h) (o : Obj) (hf : o.isFreed = false := by rfl) : RF g A (c.with ((h.objs.size, o) :: c.fz)) cs (h.push o) where
  below := R.below
  F := R.F.push o
  X := R.X
  top := R.top
  N := by
    intro p hp
    rcases List.mem_cons.mp hp with rfl | hp
    · exact ⟨Heap.get?_push_size _ hf, R.newL, R.new0⟩
    · exact ⟨Heap.get?_push_of_some _ (R.N p hp).1, (R.N p hp).2⟩
  co := fun p hp => by
    obtain ⟨o', cr, n⟩ := R.co p hp
    exact ⟨o', cr.mono (fun _ h => .tail _ h), News.of_push n⟩
  nd := R.nd
  ap := fun p hp q hq => by
    rcases List.mem_cons.mp hq with rfl | hq
    · exact Nat.ne_of_lt (R.ltC p hp)
    · exact R.ap p hp q hq
  ap2 := fun p hp q hq => by
    rcases List.mem_cons.mp hq with rfl | hq
    · exact Nat.ne_of_lt (R.lt p (List.mem_append_right _ hp))
    · exact R.ap2 p hp q hq
  fx := R.fx.gen (fun b ob _ e => Heap.get?_push_of_some _ e) R.fx.ap3 (fun p hp q hq => by
    rcases List.mem_cons.mp hp with rfl | hp
    · exact Nat.ne_of_gt (R.fx.lt hq)
    · exact R.fx.ap4 p hp q hq) fun _ h => .tail _ h
/-- a new thing that may change -/
theorem RF.pushC (R : RF g A c cs h) {k : C} {o : Obj} (hk : CR g.P c.fz h.objs.size k o) (hf : o.isFreed = false := by rfl) : RF g A c ((h.objs.size, k) :: cs) (h.push o) where
  below := R.below
  F := R.F.push o
  X := R.X
  top := R.top
  N := fun p hp => ⟨Heap.get?_push_of_some _ (R.N p hp).1, (R.N p hp).2⟩
  co := fun p hp => by
    rcases List.mem_cons.mp hp with rfl | hp
    · exact ⟨o, hk, fun q hq => by rw [List.mem_singleton.mp hq]; exact ⟨Heap.get?_push_size _ hf, R.newL, R.new0⟩⟩
    · obtain ⟨o', cr, n⟩ := R.co p hp
      exact ⟨o', cr, News.of_push n⟩
  nd := List.nodup_cons.mpr ⟨fun q => by
    obtain ⟨p, hp, e⟩ := List.mem_map.mp q
    exact absurd (R.ltC p hp) (e ▸ Nat.lt_irrefl _), R.nd⟩
  ap := fun p hp q hq => by
    rcases List.mem_cons.mp hp with rfl | hp
    · exact Nat.ne_of_gt (R.lt q hq)
    · exact R.ap p hp q hq
  ap2 := R.ap2
  fx := R.fx.gen (fun b ob _ e => Heap.get?_push_of_some _ e) (fun p hp q hq => by
    rcases List.mem_cons.mp hp with rfl | hp
    · exact Nat.ne_of_gt (R.fx.lt hq)
    · exact R.fx.ap3 p hp q hq) R.fx.ap4 fun _ h => h
/-- a thing changed -/
theorem RF.setC (R : RF g A c cs h) {a : Addr} {k k' : C} {o' : Obj} (U : CU a k k' cs cs') (hs : Heap.SameBut a h h') (ho : h'.get? a = some o') (hk : CR g.P c.fz a k' o') : RF g A c cs' h' := by
  obtain ⟨o, _, n⟩ := R.co _ U.mem
  have na := n _ (.head _)
  have keep : ∀ b ob, b ≠ a → h.get? b = some ob → h'.get? b = some ob := fun b ob hb e => (hs.2 b hb).trans e
  refine ⟨R.below, ⟨R.F.ns.sameBut hs (Ne.symm na.2.1), fun b ob e => keep b ob (fun q => ?_) (R.F.keep b ob e), R.F.above⟩, R.X, R.top, fun p hp => ⟨keep _ _ (Ne.symm (R.ap _ U.mem p hp)) (R.N p hp).1, (R.N p hp).2⟩, fun p hp => ?_, by rw [U.keys]; exact R.nd, fun p hp q hq => ?_, R.ap2, R.fx.gen (fun b ob hq e => keep b ob (fun z => by obtain ⟨q, hq, rfl⟩ := hq; exact R.fx.ap3 _ U.mem q hq z.symm) e) (fun p hp q hq => ?_) R.fx.ap4 fun _ h => h⟩
  · rw [q, na.2.2] at e; cases e
  · rcases U.each R.nd p hp with rfl | ⟨hp, hn⟩
    · exact ⟨o', hk, fun q hq => by rw [List.mem_singleton.mp hq]; exact ⟨ho, na.2⟩⟩
    · obtain ⟨ob, cr, n'⟩ := R.co p hp
      exact ⟨ob, cr, fun q hq => ⟨keep _ _ (by rw [List.mem_singleton.mp hq]; exact hn) (n' q hq).1, (n' q hq).2⟩⟩
  · rcases U.each R.nd p hp with rfl | ⟨hp, _⟩
    · exact R.ap _ U.mem q hq
    · exact R.ap p hp q hq
  · rcases U.each R.nd p hp with rfl | ⟨hp, _⟩
    · exact R.fx.ap3 _ U.mem q hq
    · exact R.fx.ap3 p hp q hq
theorem RF.get (R : RF g A c cs h) {a : Addr} {k : C} (hm : (a, k) ∈ cs) : ∃ o, CR g.P c.fz a k o ∧ h.get? a = some o := by
  obtain ⟨o, cr, n⟩ := R.co _ hm
  exact ⟨o, cr, (n _ (.head _)).1⟩
theorem RF.fzGet (R : RF g A c cs h) {a : Addr} {o : Obj} (hm : (a, o) ∈ c.fz) : h.get? a = some o := (R.N _ (List.mem_append_left _ hm)).1

/-- some things let go -/
theorem RF.drop (R : RF g A c cs h) (k : cs'.Sublist cs) : RF g A c cs' h := ⟨R.below, R.F, R.X, R.top, R.N, fun p hp => R.co p (k.subset hp), R.nd.sublist (k.map _), fun p hp => R.ap p (k.subset hp), R.ap2, R.fx.gen (fun b ob _ e => e) (fun p hp => R.fx.ap3 p (k.subset hp)) R.fx.ap4 fun _ h => h⟩
theorem RF.perm (R : RF g A c cs h) (k : cs'.Perm cs) : RF g A c cs' h := ⟨R.below, R.F, R.X, R.top, R.N, fun p hp => R.co p (k.subset hp), ((k.map _).nodup_iff).mpr R.nd, fun p hp => R.ap p (k.subset hp), R.ap2, R.fx.gen (fun b ob _ e => e) (fun p hp => R.fx.ap3 p (k.subset hp)) R.fx.ap4 fun _ h => h⟩
end

/-- a list, changed or not -/
inductive IsL (cs : Cs) : T → List T → Prop where
  | fz (ts : List T) : IsL cs (.list ts) ts
  | cel {a : Addr} {ts : List T} : (a, C.list ts) ∈ cs → IsL cs (.cel a) ts
inductive IsD (cs : Cs) : T → List (Str × T) → Prop where
  | fz (ds : List (Str × T)) : IsD cs (.dict ds) ds
  | cel {a : Addr} {ds : List (Str × T)} : (a, C.dict ds) ∈ cs → IsD cs (.cel a) ds
theorem RF.isL {g : Gx} {A : Around} {c : Ctx} {cs : Cs} {h : Heap} (R : RF g A c cs h) {t : T} {ts : List T} {v : Value} (H : IsL cs t ts) (V : VR g.P c.fz t v) : ∃ a vs n, v = .ref a ∧ h.get? a = some (listOf vs.toArray n) ∧ VRs g.P c.fz ts vs := by
  cases H with
  | fz => cases V with | list hm r => exact ⟨_, _, _, rfl, R.fzGet hm, r⟩
  | cel hm =>
    cases V
    obtain ⟨o, cr, e⟩ := R.get hm
    cases cr with | list n r => exact ⟨_, _, n, rfl, e, r⟩
theorem RF.isD {g : Gx} {A : Around} {c : Ctx} {cs : Cs} {h : Heap} (R : RF g A c cs h) {t : T} {ds : List (Str × T)} {v : Value} (H : IsD cs t ds) (V : VR g.P c.fz t v) : ∃ a es n, v = .ref a ∧ (a == sysModules) = false ∧ h.get? a = some (dictOf es n) ∧ VRd g.P c.fz ds es := by
  cases H with
  | fz => cases V with | dict q hm r => exact ⟨_, _, _, rfl, q, R.fzGet hm, r⟩
  | cel hm =>
    cases V
    obtain ⟨o, cr, e⟩ := R.get hm
    cases cr with | dict n q r => exact ⟨_, _, n, rfl, q, e, r⟩
theorem VRs.length {P : Params} {fz : List (Addr × Obj)} {ts : List T} {vs : List Value} : VRs P fz ts vs → vs.length = ts.length
  | .nil => rfl
  | .cons _ r => by simp [r.length]
theorem VRs.get {P : Params} {fz : List (Addr × Obj)} {ts : List T} {vs : List Value} : VRs P fz ts vs → ∀ {i : Nat} {t : T}, ts[i]? = some t → ∃ v, vs[i]? = some v ∧ VR P fz t v
  | .nil, i, _, h => by simp at h
  | .cons a r, 0, _, h => by simp at h; subst h; exact ⟨_, rfl, a⟩
  | .cons _ r, i + 1, _, h => by simp at h; obtain ⟨v, e, q⟩ := r.get h; exact ⟨v, by simpa using e, q⟩
theorem VRs.append {P : Params} {fz : List (Addr × Obj)} {ts us : List T} {vs ws : List Value} : VRs P fz ts vs → VRs P fz us ws → VRs P fz (ts ++ us) (vs ++ ws)
  | .nil, h => h
  | .cons a r, h => .cons a (r.append h)
theorem VRs.take {P : Params} {fz : List (Addr × Obj)} {ts : List T} {vs : List Value} : VRs P fz ts vs → ∀ n : Nat, VRs P fz (ts.take n) (vs.take n)
  | .nil, n => by simp; exact .nil
  | .cons a r, 0 => .nil
  | .cons a r, n + 1 => .cons a (r.take n)
theorem VRs.drop {P : Params} {fz : List (Addr × Obj)} {ts : List T} {vs : List Value} : VRs P fz ts vs → ∀ n : Nat, VRs P fz (ts.drop n) (vs.drop n)
  | .nil, n => by simp; exact .nil
  | .cons a r, 0 => .cons a r
  | .cons a r, n + 1 => r.drop n
end Mine
end

noncomputable section
open PySem PySem.W PyProof.Rows PySem.Calls
set_option Elab.async false
set_option linter.unusedVariables false
set_option tactic.hygienic false
namespace Mine

theorem VarsOK.le {g : Gx} {env : Env} {c : Ctx} {vars : Vars} {fz fz' : List (Addr × Obj)} (V : VarsOK g env (c.with fz) vars) (k : ∀ p ∈ fz, p ∈ fz') : VarsOK g env (c.with fz') vars := by
  intro x t h
  obtain ⟨v, a, b⟩ := V x t h
  exact ⟨v, a.mono k, b⟩

noncomputable def Evs (g : Gx) (A : Around) (env : Env) (vars : Vars) (es : List Expr) (cs : Cs) (P : List T → Cs → Prop) : Prop :=
  ∀ (c : Ctx) (s : Shared) (pos : Pos) (Q : List Value → Shared → Prop) (E : Value → Shared → Prop), VarsOK g env c vars → RF g A c cs s.heap →
    (∀ fz' ts vs cs' h' tk', (∀ p ∈ c.fz, p ∈ fz') → P ts cs' → VRs g.P fz' ts vs → RF g A (c.with fz') cs' h' → Q vs { s with heap := h', toks := tk' }) →
    wpAny g.M A (spliced (backTo pos (starEach es env))) Q E s
noncomputable def Ts (g : Gx) (A : Around) (env : Env) (vars : Vars) (e : Expr) (cs : Cs) (P : Bool → Cs → Prop) : Prop :=
  ∀ (c : Ctx) (s : Shared) (Q : Bool → Shared → Prop) (E : Value → Shared → Prop), VarsOK g env c vars → RF g A c cs s.heap →
    (∀ fz' b cs' h' tk', (∀ p ∈ c.fz, p ∈ fz') → P b cs' → RF g A (c.with fz') cs' h' → Q b { s with heap := h', toks := tk' }) →
    wpAny g.M A (isTrue e env (eval e env)) Q E s
noncomputable def Tu (g : Gx) (A : Around) (t : T) (cs : Cs) (b : Bool) : Prop :=
  ∀ (c : Ctx) (s : Shared) (v : Value) (Q : Bool → Shared → Prop) (E : Value → Shared → Prop), VR g.P c.fz t v → RF g A c cs s.heap →
    (∀ tk', Q b { s with toks := tk' }) → wpAny g.M A (truthy v) Q E s

section
variable {g : Gx} {A : Around} {env : Env} {vars : Vars} {cs : Cs}

theorem Ev.mono {e : Expr} {P P' : T → Cs → Prop} (H : Ev g A env vars e cs P) (k : ∀ t cs', P t cs' → P' t cs') : Ev g A env vars e cs P' :=
  fun c s Q E t ht R kk => H c s Q E t ht R fun fz' r v cs' h' tk' a b => kk fz' r v cs' h' tk' a (k _ _ b)

theorem Evs.nil {P : List T → Cs → Prop} (h : P [] cs) : Evs g A env vars [] cs P := fun c s pos Q E V R k =>
  spliced_none (k c.fz [] [] cs s.heap s.toks (fun _ h => h) h .nil R)
theorem Evs.cons {e : Expr} {rest : List Expr} {P : List T → Cs → Prop} (H : Ev g A env vars e cs fun t cs' => Evs g A env vars rest cs' fun ts cs'' => P (t :: ts) cs'')
    (he : starEach (e :: rest) env = (false, eval e env) :: starEach rest env := by rfl) : Evs g A env vars (e :: rest) cs P := fun c s pos Q E V R k =>
  spliced_more (H.use V R fun fz' t v cs' h' tk' m p r R' => p (c.with fz') _ pos _ _ (V.mono m) R' fun fz'' ts vs cs'' h'' tk'' m' p' r' R'' =>
    k fz'' _ _ cs'' h'' tk'' (fun q hq => m' q (m q hq)) p' (.cons (r.mono m') r') R'') he

theorem Ev.bin {l r : Expr} {op : Operator} {pos : Pos} {P : T → Cs → Prop} (H : Ev g A env vars l cs fun t₁ cs₁ => Ev g A env vars r cs₁ fun t₂ cs₂ => Op2 g A (binaryOp op) t₁ t₂ cs₂ P) :
    Ev g A env vars (.BinOp l op r pos) cs P := by
  rintro c s Q E _ ⟨V, rfl⟩ R k
  exact wpAny_BinOp (H.use V R fun fz₁ t₁ v₁ cs₁ h₁ tk₁ m₁ H₁ r₁ R₁ => H₁.use (V.mono m₁) R₁ fun fz₂ t₂ v₂ cs₂ h₂ tk₂ m₂ H₂ r₂ R₂ => H₂.use (r₁.mono m₂) r₂ R₂ fun fz₃ t₃ v₃ cs₃ h₃ tk₃ m₃ p r₃ R₃ =>
    k fz₃ t₃ v₃ cs₃ h₃ tk₃ (fun q hq => m₃ q (m₂ q (m₁ q hq))) p r₃ R₃)
theorem Ev.cmp {l r : Expr} {op : CmpOp} {pos : Pos} {P : T → Cs → Prop} (H : Ev g A env vars l cs fun t₁ cs₁ => Ev g A env vars r cs₁ fun t₂ cs₂ => Op2 g A (compareOp op) t₁ t₂ cs₂ P)
    (hm : behindInMarks op r = false := by with_unfolding_all rfl) : Ev g A env vars (.Compare l [op] [r] pos) cs P := by
  rintro c s Q E _ ⟨V, rfl⟩ R k
  exact wpAny_Compare1 (H.use V R fun fz₁ t₁ v₁ cs₁ h₁ tk₁ m₁ H₁ r₁ R₁ => H₁.use (V.mono m₁) R₁ fun fz₂ t₂ v₂ cs₂ h₂ tk₂ m₂ H₂ r₂ R₂ => H₂.use (r₁.mono m₂) r₂ R₂ fun fz₃ t₃ v₃ cs₃ h₃ tk₃ m₃ p r₃ R₃ =>
    k fz₃ t₃ v₃ cs₃ h₃ tk₃ (fun q hq => m₃ q (m₂ q (m₁ q hq))) p r₃ R₃) hm

/-- a comparison that is asked -/
theorem Ts.cmp {l r : Expr} {op : CmpOp} {pos : Pos} {P : Bool → Cs → Prop} (H : Ev g A env vars l cs fun t₁ cs₁ => Ev g A env vars r cs₁ fun t₂ cs₂ => Op2 g A (compareOp op) t₁ t₂ cs₂ fun t cs₃ => ∃ b, t = .bool b ∧ P b cs₃)
    (hm : behindInMarks op r = false := by with_unfolding_all rfl) : Ts g A env vars (.Compare l [op] [r] pos) cs P := by
  intro c s Q E V R k
  refine wpAny_isTrue_Compare1 (H.use V R fun fz₁ t₁ v₁ cs₁ h₁ tk₁ m₁ H₁ r₁ R₁ => H₁.use (V.mono m₁) R₁ fun fz₂ t₂ v₂ cs₂ h₂ tk₂ m₂ H₂ r₂ R₂ => H₂.use (r₁.mono m₂) r₂ R₂ fun fz₃ t₃ v₃ cs₃ h₃ tk₃ m₃ p r₃ R₃ => ?_) hm
  obtain ⟨b, rfl, p⟩ := p
  cases r₃
  exact wpAny_truthy_bool (k fz₃ b cs₃ h₃ tk₃ (fun q hq => m₃ q (m₂ q (m₁ q hq))) p R₃)
theorem Ts.not {x : Expr} {pos : Pos} {P : Bool → Cs → Prop} (H : Ts g A env vars x cs fun b cs' => P (!b) cs') : Ts g A env vars (.UnaryOp .Not x pos) cs P := fun c s Q E V R k =>
  isTrue_not (H c s _ E V R fun fz' b cs' h' tk' m p R' => k fz' _ cs' h' tk' m p R')
theorem Ts.and {x y : Expr} {pos : Pos} {P : Bool → Cs → Prop} (H : Ts g A env vars x cs fun b cs' => (b = true → Ts g A env vars y cs' P) ∧ (b = false → P false cs')) : Ts g A env vars (.BoolOp .And [x, y] pos) cs P := fun c s Q E V R k =>
  isTrue_and (H c s _ E V R fun fz' b cs' h' tk' m p R' => by
    cases b with
    | false => exact k fz' _ cs' h' tk' m (p.2 rfl) R'
    | true => exact isTrue_and (p.1 rfl (c.with fz') _ _ E (V.mono m) R' fun fz'' b cs'' h'' tk'' m' p' R'' => by
        cases b with
        | false => exact k fz'' _ cs'' h'' tk'' (fun q hq => m' q (m q hq)) p' R''
        | true => exact isTrue_and_nil (k fz'' _ cs'' h'' tk'' (fun q hq => m' q (m q hq)) p' R'')))
theorem Ts.val {e : Expr} {P : Bool → Cs → Prop} (H : Ev g A env vars e cs fun t cs' => ∃ b, Tu g A t cs' b ∧ P b cs')
    (he : ∀ whole, isTrue e env whole = (do let v ← whole; standAt e.pos; holding [v] (truthy v)) := by intro _; rfl) : Ts g A env vars e cs P := fun c s Q E V R k =>
  isTrue_plain (H.use V R fun fz' t v cs' h' tk' m p r R' => by
    obtain ⟨b, tu, p⟩ := p
    exact tu (c.with fz') _ v Q E r R' fun tk'' => k fz' b cs' h' tk'' m p R') (he _)
theorem Ev.ife {test body orelse : Expr} {pos : Pos} {P : T → Cs → Prop} (H : Ts g A env vars test cs fun b cs' => (b = true → Ev g A env vars body cs' P) ∧ (b = false → Ev g A env vars orelse cs' P)) :
    Ev g A env vars (.IfExp test body orelse pos) cs P := by
  rintro c s Q E _ ⟨V, rfl⟩ R k
  refine wpAny_IfExp (H c s _ E V R fun fz' b cs' h' tk' m p R' => ?_)
  cases b with
  | true => exact (p.1 rfl).use (V.mono m) R' fun fz'' t v cs'' h'' tk'' m' p' r' R'' => k fz'' t v cs'' h'' tk'' (fun q hq => m' q (m q hq)) p' r' R''
  | false => exact (p.2 rfl).use (V.mono m) R' fun fz'' t v cs'' h'' tk'' m' p' r' R'' => k fz'' t v cs'' h'' tk'' (fun q hq => m' q (m q hq)) p' r' R''

theorem Tu.bool (b : Bool) : Tu g A (.bool b) cs b := fun c s v Q E r R k => by
  cases r
  exact wpAny_truthy_bool (k s.toks)
theorem Tu.none : Tu g A .none cs false := fun c s v Q E r R k => by
  cases r
  exact truthy_none (k s.toks)

/-- new lists and tuples -/
theorem Ev.list {elts : List Expr} {pos : Pos} {P : T → Cs → Prop} (H : Evs g A env vars elts cs fun ts cs' => ts.length ≤ sizeLine ∧ P (.list ts) cs') : Ev g A env vars (.List elts pos) cs P := by
  rintro c s Q E _ ⟨V, rfl⟩ R k
  refine List_ (H c s pos _ E V R fun fz' ts vs cs' h' tk' m p r R' => ?_)
  exact wpAny_newObj_type (k _ _ _ cs' _ tk' (fun q hq => .tail _ (m q hq)) p.2 (.list (.head _) (r.mono fun q hq => .tail _ hq)) (R'.pushFz _)) (by show vs.toArray.size ≤ sizeLine; rw [List.size_toArray, r.length]; exact p.1)
theorem Ev.listC {elts : List Expr} {pos : Pos} {P : T → Cs → Prop} (H : Evs g A env vars elts cs fun ts cs' => ts.length ≤ sizeLine ∧ ∀ a, P (.cel a) ((a, .list ts) :: cs')) : Ev g A env vars (.List elts pos) cs P := by
  rintro c s Q E _ ⟨V, rfl⟩ R k
  refine List_ (H c s pos _ E V R fun fz' ts vs cs' h' tk' m p r R' => ?_)
  exact wpAny_newObj_type (k _ _ _ _ _ tk' m (p.2 _) (.cel _) (R'.pushC (.list 0 r))) (by show vs.toArray.size ≤ sizeLine; rw [List.size_toArray, r.length]; exact p.1)
theorem Ev.tup {elts : List Expr} {n : Nat} {pos : Pos} {P : T → Cs → Prop} (H : Evs g A env vars elts cs fun ts cs' => ts.length ≤ sizeLine ∧ P (.tup ts) cs') : Ev g A env vars (.Tuple elts n pos) cs P := by
  rintro c s Q E _ ⟨V, rfl⟩ R k
  refine Tuple_ (H c s pos _ E V R fun fz' ts vs cs' h' tk' m p r R' => ?_)
  exact wpAny_newObj_type (k _ _ _ cs' _ tk' (fun q hq => .tail _ (m q hq)) p.2 (.tup (.head _) (r.mono fun q hq => .tail _ hq)) (R'.pushFz _)) (by show vs.toArray.size ≤ sizeLine; rw [List.size_toArray, r.length]; exact p.1)

/-- arithmetic -/
theorem Op2.addII {a b : Int} {P : T → Cs → Prop} (h : P (.int (a + b)) cs) : Op2 g A (binaryOp .Add) (.int a) (.int b) cs P := by
  rintro c s Q E _ ⟨v₁, v₂, h₁, h₂, rfl⟩ R k
  cases h₁; cases h₂
  exact wpAny_add_int (k c.fz _ _ cs s.heap _ (fun _ h => h) h (.int _ _) R)
theorem Op2.addLL {t₁ t₂ : T} {xs ys : List T} {P : T → Cs → Prop} (i₁ : IsL cs t₁ xs) (i₂ : IsL cs t₂ ys) (hsz : xs.length + ys.length ≤ sizeLine) (h : P (.list (xs ++ ys)) cs) : Op2 g A (binaryOp .Add) t₁ t₂ cs P := by
  rintro c s Q E _ ⟨v₁, v₂, h₁, h₂, rfl⟩ R k
  obtain ⟨a, vs, n, rfl, ha, ra⟩ := R.isL i₁ h₁
  obtain ⟨b, ws, n', rfl, hb, rb⟩ := R.isL i₂ h₂
  refine PySem.P.add_list ha hb ?_ (by simp [ra.length, rb.length]; exact hsz)
  rw [List.append_toArray]
  exact k _ _ _ cs _ s.toks (fun q hq => .tail _ hq) h (.list (.head _) ((ra.append rb).mono fun q hq => .tail _ hq)) (R.pushFz _)
theorem Op2.ltII {a b : Int} {P : T → Cs → Prop} (h : P (.bool (decide (a < b))) cs) : Op2 g A (compareOp .Lt) (.int a) (.int b) cs P := by
  rintro c s Q E _ ⟨v₁, v₂, h₁, h₂, rfl⟩ R k
  cases h₁; cases h₂
  exact wpAny_lt_int (k c.fz _ _ cs s.heap s.toks (fun _ h => h) h (.bool _) R)
end
end Mine
end

noncomputable section
open PySem PySem.W PyProof.Rows PySem.Calls
set_option Elab.async false
set_option linter.unusedVariables false
set_option tactic.hygienic false
namespace Mine

mutual
noncomputable def T.py : T → PyData
  | .none => .none
  | .bool b => .bool b
  | .int i => .int i
  | .str x => .str x
  | .list ts => .list (T.pys ts)
  | .tup ts => .tuple (T.pys ts)
  | .dict _ => .none
  | .obj _ _ => .none
  | .cel _ => .none
  | .raw _ => .none
  | .at _ => .none
noncomputable def T.pys : List T → List PyData
  | [] => []
  | t :: ts => T.py t :: T.pys ts
end
/-- plain data: nothing, ints, texts, lists and tuples of these -/
noncomputable def T.ok : Nat → T → Bool
  | _, .none => true
  | _, .int _ => true
  | _, .str x => PyData.strOk x
  | n + 1, .tup ts => ts.all (T.ok n)
  | n + 1, .list ts => ts.all (T.ok n)
  | _, _ => false

inductive OkK : Nat → T → Prop
  | none {n : Nat} : OkK n .none
  | int {n : Nat} (i : Int) : OkK n (.int i)
  | str {n : Nat} (x : Str) : OkK n (.str x)
  | tup {n : Nat} {ts : List T} : (∀ d ∈ ts, d.ok n = true) → OkK (n + 1) (.tup ts)
  | list {n : Nat} {ts : List T} : (∀ d ∈ ts, d.ok n = true) → OkK (n + 1) (.list ts)
theorem T.okK {n : Nat} {d : T} (h : d.ok n = true) : OkK n d := by
  cases d with
  | none => exact .none
  | int i => exact .int i
  | str x => exact .str x
  | tup ts =>
    cases n with
    | zero => cases h
    | succ n => exact .tup (List.all_eq_true.mp h)
  | list ts =>
    cases n with
    | zero => cases h
    | succ n => exact .list (List.all_eq_true.mp h)
  | _ => cases n <;> cases h
section
variable {P : Params} {fz : List (Addr × Obj)} {h : Heap}
theorem VRs.readsA {n : Nat} (ih : ∀ {v : Value} {t : T}, VR P fz t v → t.ok n = true → ∃ as, Reads h v t.py as) {vs : List Value} : ∀ {ts : List T}, VRs P fz ts vs → (∀ d ∈ ts, d.ok n = true) → ∃ as, ReadsAll h vs (T.pys ts) as := by
  induction vs with
  | nil => intro ts r _; cases r; rw [T.pys]; exact ⟨_, ReadsAll.nil⟩
  | cons v vs hi =>
    intro ts r hk
    cases r with
    | cons hd r =>
    obtain ⟨as, q⟩ := ih hd (hk _ (.head _))
    obtain ⟨bs, p⟩ := hi r fun d hm => hk d (.tail _ hm)
    rw [T.pys]
    exact ⟨_, ReadsAll.cons q p⟩
theorem VR.reads (N : ∀ a o, (a, o) ∈ fz → h.get? a = some o) {v : Value} {t : T} (n : Nat) : VR P fz t v → t.ok n = true → ∃ as, Reads h v t.py as := by
  induction n generalizing v t with
  | zero =>
    intro r hk
    cases T.okK hk with
    | none => cases r; rw [T.py]; exact ⟨_, Reads.none⟩
    | int i => cases r; rw [T.py]; exact ⟨_, Reads.int i _⟩
    | str x => cases r; rw [T.py]; exact ⟨_, Reads.str x _⟩
  | succ n ih =>
    intro r hk
    cases T.okK hk with
    | none => cases r; rw [T.py]; exact ⟨_, Reads.none⟩
    | int i => cases r; rw [T.py]; exact ⟨_, Reads.int i _⟩
    | str x => cases r; rw [T.py]; exact ⟨_, Reads.str x _⟩
    | tup h1 =>
      cases r with
      | tup hm r =>
      obtain ⟨as, q⟩ := VRs.readsA ih r (by assumption)
      rw [T.py]
      exact ⟨as, reads_tuple_at (N _ _ hm) rfl rfl (by simpa using q)⟩
    | list h1 =>
      cases r with
      | list hm r =>
      obtain ⟨as, q⟩ := VRs.readsA ih r (by assumption)
      rw [T.py]
      exact ⟨_, reads_list_at (N _ _ hm) rfl rfl (by simpa [W.listOf] using q)⟩
theorem VRs.reads (N : ∀ a o, (a, o) ∈ fz → h.get? a = some o) {vs : List Value} {ts : List T} (n : Nat) (r : VRs P fz ts vs) (hk : ∀ d ∈ ts, d.ok n = true) : ∃ as, ReadsAll h vs (T.pys ts) as := VRs.readsA (VR.reads N n) r hk
end
theorem T.lays (n : Nat) (ih : ∀ d : T, d.ok n = true → d.py.canLay0 = true ∧ d.py.depth ≤ n) (ts : List T) : (∀ d ∈ ts, d.ok n = true) → PyData.canLayAll0 (T.pys ts) = true ∧ PyData.depthAll (T.pys ts) ≤ n := by
  induction ts with
  | nil => intro _; simp [T.pys, PyData.canLayAll0, PyData.depthAll]
  | cons d ds hi =>
    intro h
    have h1 := ih d (h d (.head _))
    have h2 := hi fun e he => h e (.tail _ he)
    simp only [T.pys, PyData.canLayAll0, PyData.depthAll, h1.1, h2.1, Bool.and_self, true_and]
    have a1 := h1.2
    have a2 := h2.2
    omega
theorem T.lay : ∀ (n : Nat) (d : T), d.ok n = true → d.py.canLay0 = true ∧ d.py.depth ≤ n := by
  intro n
  induction n with
  | zero => intro d h; cases d <;> simp_all [T.ok, T.py, PyData.canLay0, PyData.depth]
  | succ n ih =>
    intro d h
    cases d with
    | none => simp [T.py, PyData.canLay0, PyData.depth]
    | int i => simp [T.py, PyData.canLay0, PyData.depth]
    | str x => simp [T.ok] at h; simp [T.py, PyData.canLay0, PyData.depth, h]
    | tup ds =>
      have q := T.lays n ih ds (by simpa [T.ok] using h)
      have q2 := q.2
      simp only [T.py, PyData.canLay0, PyData.depth, q.1, true_and]
      omega
    | list ds =>
      have q := T.lays n ih ds (by simpa [T.ok] using h)
      have q2 := q.2
      simp only [T.py, PyData.canLay0, PyData.depth, q.1, true_and]
      omega
    | _ => simp [T.ok] at h
theorem T.laysL {n : Nat} {ts : List T} (h : ∀ d ∈ ts, d.ok n = true) : PyData.canLayAll0 (T.pys ts) = true ∧ PyData.depthAll (T.pys ts) ≤ n := T.lays n (T.lay n) ts h
theorem T.eqvs (n : Nat) (ih : ∀ (d e : T) (k : Nat), d.ok n = true → e.ok k = true → (PyData.eqv d.py e.py = true ↔ d = e)) : ∀ (k : Nat) (ds es : List T), (∀ d ∈ ds, d.ok n = true) → (∀ d ∈ es, d.ok k = true) →
    (PyData.eqvAll (T.pys ds) (T.pys es) = true ↔ ds = es) := by
  intro k ds
  induction ds with
  | nil => intro es _ _; cases es <;> simp [T.pys, PyData.eqvAll]
  | cons d ds hi =>
    intro es h1 h2
    cases es with
    | nil => simp [T.pys, PyData.eqvAll]
    | cons e es =>
      have q1 := ih d e k (h1 d (.head _)) (h2 e (.head _))
      have q2 := hi es (fun x hx => h1 x (.tail _ hx)) fun x hx => h2 x (.tail _ hx)
      simp only [T.pys, PyData.eqvAll, Bool.and_eq_true, q1, q2, List.cons.injEq]
theorem T.eqv : ∀ (n : Nat) (d e : T) (k : Nat), d.ok n = true → e.ok k = true → (PyData.eqv d.py e.py = true ↔ d = e) := by
  intro n
  induction n with
  | zero =>
    intro d e k h1 h2
    cases T.okK h1 <;> cases T.okK h2 <;> simp [T.py, PyData.eqv]
  | succ n ih =>
    intro d e k h1 h2
    cases T.okK h1 with
    | tup q1 =>
      cases T.okK h2 with
      | tup q2 =>
        simp only [T.py, PyData.eqv, T.tup.injEq]
        exact T.eqvs n ih _ _ _ q1 q2
      | _ => simp [T.py, PyData.eqv]
    | list q1 =>
      cases T.okK h2 with
      | list q2 =>
        simp only [T.py, PyData.eqv, T.list.injEq]
        exact T.eqvs n ih _ _ _ q1 q2
      | _ => simp [T.py, PyData.eqv]
    | _ => cases T.okK h2 <;> simp [T.py, PyData.eqv]

/-- plain data, or a list that may change and holds plain data -/
inductive Pl (cs : Cs) : T → T → Prop where
  | fz {t : T} : t.ok 4 = true → Pl cs t t
  | cel {a : Addr} {ts : List T} : (a, C.list ts) ∈ cs → (T.list ts).ok 4 = true → Pl cs (.cel a) (.list ts)
theorem Pl.ok {cs : Cs} {t u : T} : Pl cs t u → u.ok 4 = true
  | .fz h => h
  | .cel _ h => h

section
variable {g : Gx} {A : Around} {c : Ctx} {cs : Cs} {h : Heap}
theorem RF.fzAll (R : RF g A c cs h) : ∀ a o, (a, o) ∈ c.fz → h.get? a = some o := fun a o hm => R.fzGet hm
theorem RF.reads (R : RF g A c cs h) {t u : T} {v : Value} (p : Pl cs t u) (r : VR g.P c.fz t v) : ∃ as, Reads h v u.py as := by
  cases p with
  | fz hk => exact r.reads R.fzAll 4 hk
  | cel hm hk =>
    cases r
    obtain ⟨o, cr, e⟩ := R.get hm
    cases cr with
    | list n r =>
      obtain ⟨as, q⟩ := r.reads R.fzAll 3 (by simpa [T.ok] using hk)
      rw [T.py]
      exact ⟨_, reads_list_at e rfl rfl (by simpa [W.listOf] using q)⟩
end

section
variable {g : Gx} {A : Around} {env : Env} {vars : Vars} {cs : Cs} {n : Nat}
theorem Room.units (hr : Room A n) : A.units + 8 < cLine := by have := hr.2.2; omega

theorem Op2.eq {t₁ t₂ u₁ u₂ : T} {P : T → Cs → Prop} (hr : Room A n) (p₁ : Pl cs t₁ u₁) (p₂ : Pl cs t₂ u₂) (h : ∀ b, (b = true ↔ u₁ = u₂) → P (.bool b) cs) : Op2 g A (compareOp .Eq) t₁ t₂ cs P := by
  rintro c s Q E _ ⟨v₁, v₂, h₁, h₂, rfl⟩ R k
  obtain ⟨as, ra⟩ := R.reads p₁ h₁
  obtain ⟨bs, rb⟩ := R.reads p₂ h₂
  have := (T.lay 4 _ p₁.ok).2
  have := hr.units
  exact PySem.SeqAt.compareEq_reads ra rb (T.lay 4 _ p₁.ok).1 (T.lay 4 _ p₂.ok).1 (by omega) (k c.fz _ _ cs s.heap s.toks (fun _ h => h) (h _ (T.eqv 4 _ _ 4 p₁.ok p₂.ok)) (.bool _) R)
theorem Op2.ne {t₁ t₂ u₁ u₂ : T} {P : T → Cs → Prop} (hr : Room A n) (p₁ : Pl cs t₁ u₁) (p₂ : Pl cs t₂ u₂) (h : ∀ b, (b = false ↔ u₁ = u₂) → P (.bool b) cs) : Op2 g A (compareOp .NotEq) t₁ t₂ cs P := by
  rintro c s Q E _ ⟨v₁, v₂, h₁, h₂, rfl⟩ R k
  obtain ⟨as, ra⟩ := R.reads p₁ h₁
  obtain ⟨bs, rb⟩ := R.reads p₂ h₂
  have := (T.lay 4 _ p₁.ok).2
  have := hr.units
  refine PySem.SeqAt.compareNe_reads ra rb (T.lay 4 _ p₁.ok).1 (T.lay 4 _ p₂.ok).1 (by omega) (k c.fz _ _ cs s.heap s.toks (fun _ h => h) (h _ ?_) (.bool _) R)
  rw [Bool.not_eq_false', T.eqv 4 _ _ 4 p₁.ok p₂.ok]
theorem pys_any {ts : List T} {u : T} (h : ∀ d ∈ ts, d.ok 4 = true) (hu : u.ok 4 = true) : ((T.pys ts).any (fun y => PyData.eqv y u.py) = true ↔ u ∈ ts) := by
  induction ts with
  | nil => simp [T.pys]
  | cons d ds ih =>
    have q := T.eqv 4 d u 4 (h d (.head _)) hu
    simp only [T.pys, List.any_cons, Bool.or_eq_true, q, ih fun e he => h e (.tail _ he), List.mem_cons]
    exact or_congr_left ⟨Eq.symm, Eq.symm⟩
theorem T.ok_mono : ∀ {n : Nat} {t : T}, t.ok n = true → t.ok (n + 1) = true := by
  intro n
  induction n with
  | zero => intro t h; cases t <;> simp_all [T.ok]
  | succ n ih =>
    intro t h
    cases t <;> simp_all [T.ok]
theorem Op2.in {t₁ t₂ u : T} {ts : List T} {P : T → Cs → Prop} (hr : Room A n) (p₁ : Pl cs t₁ u) (p₂ : Pl cs t₂ (.list ts)) (h : ∀ b, (b = true ↔ u ∈ ts) → P (.bool b) cs) : Op2 g A (compareOp .In) t₁ t₂ cs P := by
  rintro c s Q E _ ⟨v₁, v₂, h₁, h₂, rfl⟩ R k
  obtain ⟨as, ra⟩ := R.reads p₁ h₁
  obtain ⟨bs, rb⟩ := R.reads p₂ h₂
  have ok3 : ∀ d ∈ ts, d.ok 3 = true := by simpa [T.ok] using p₂.ok
  have ok4 : ∀ d ∈ ts, d.ok 4 = true := fun d hd => T.ok_mono (ok3 d hd)
  have := (T.lay 4 _ p₁.ok).2
  have := hr.units
  rw [T.py] at rb
  exact PySem.SeqAt.in_list_reads rb ra (T.laysL ok4).1 (T.lay 4 _ p₁.ok).1 (by omega) (k c.fz _ _ cs s.heap s.toks (fun _ h => h) (h _ (pys_any ok4 p₁.ok)) (.bool _) R)
theorem Op2.notIn {t₁ t₂ u : T} {ts : List T} {P : T → Cs → Prop} (hr : Room A n) (p₁ : Pl cs t₁ u) (p₂ : Pl cs t₂ (.list ts)) (h : ∀ b, (b = false ↔ u ∈ ts) → P (.bool b) cs) : Op2 g A (compareOp .NotIn) t₁ t₂ cs P := by
  rintro c s Q E _ ⟨v₁, v₂, h₁, h₂, rfl⟩ R k
  obtain ⟨as, ra⟩ := R.reads p₁ h₁
  obtain ⟨bs, rb⟩ := R.reads p₂ h₂
  have ok3 : ∀ d ∈ ts, d.ok 3 = true := by simpa [T.ok] using p₂.ok
  have ok4 : ∀ d ∈ ts, d.ok 4 = true := fun d hd => T.ok_mono (ok3 d hd)
  have := (T.lay 4 _ p₁.ok).2
  have := hr.units
  rw [T.py] at rb
  refine PySem.SeqAt.notIn_list_reads rb ra (T.laysL ok4).1 (T.lay 4 _ p₁.ok).1 (by omega) (k c.fz _ _ cs s.heap s.toks (fun _ h => h) (h _ ?_) (.bool _) R)
  rw [Bool.not_eq_false', pys_any ok4 p₁.ok]
end
end Mine
end

noncomputable section
open PySem PySem.W PyProof.Rows PySem.Calls
set_option Elab.async false
set_option linter.unusedVariables false
namespace Mine

noncomputable def pickT (ts : List T) (lo hi st : Option Int) : List T :=
  (sliceRange (sliceBounds lo hi st ts.length).1 (sliceBounds lo hi st ts.length).2.1 (sliceBounds lo hi st ts.length).2.2).filterMap (ts[·]?)
theorem VRs.places {P : Params} {fz : List (Addr × Obj)} {ts : List T} {vs : List Value} (h : VRs P fz ts vs) : ∀ js : List Nat, VRs P fz (js.filterMap (ts[·]?)) (js.filterMap (vs[·]?))
  | [] => .nil
  | j :: js => by
    have ih := h.places js
    cases hn : ts[j]? with
    | some t =>
      obtain ⟨v, hv, r⟩ := h.get hn
      simp only [List.filterMap_cons, hn, hv]
      exact .cons r ih
    | none =>
      have hv : vs[j]? = none := by
        rw [List.getElem?_eq_none_iff] at hn ⊢
        rw [h.length]; exact hn
      simp only [List.filterMap_cons, hn, hv]
      exact ih
theorem VRs.pick {P : Params} {fz : List (Addr × Obj)} {ts : List T} {vs : List Value} (h : VRs P fz ts vs) (lo hi st : Option Int) : VRs P fz (pickT ts lo hi st) (slicePick vs.toArray lo hi st).toList := by
  have e : (slicePick vs.toArray lo hi st).toList = (sliceRange (sliceBounds lo hi st ts.length).1 (sliceBounds lo hi st ts.length).2.1 (sliceBounds lo hi st ts.length).2.2).filterMap (vs[·]?) := by
    simp [slicePick, h.length]
  rw [e]
  exact h.places _

theorem VRd.find {P : Params} {fz : List (Addr × Obj)} {ds : List (Str × T)} {es : List DictEntry} (h : VRd P fz ds es) (x : Str) :
    (∃ t v, ds.lookup x = some t ∧ findBy Value.isStrOf es.toArray x = some v ∧ VR P fz t v) ∨ (ds.lookup x = none ∧ findBy Value.isStrOf es.toArray x = none) := by
  unfold findBy
  simp only [List.find?_toArray]
  match h with
  | .nil => exact .inr ⟨rfl, rfl⟩
  | .cons (x := y) (tk := tk) (t := t) (v := v) (ds := ds) (es := es) r rs =>
    by_cases e : x = y
    · subst e
      exact .inl ⟨t, v, by simp [List.lookup], by simp [Value.isStrOf], r⟩
    · have e1 : (x == y) = false := by simpa using e
      have e2 : Value.isStrOf x (.str y tk) = false := by simp [Value.isStrOf]; exact fun q => e q.symm
      have ih := rs.find x
      unfold findBy at ih
      simp only [List.find?_toArray] at ih
      simp only [List.lookup_cons, e1, List.find?_cons, e2]
      exact ih
theorem VRd.keys {P : Params} {fz : List (Addr × Obj)} {ds : List (Str × T)} {es : List DictEntry} : VRd P fz ds es → ∀ e ∈ es, ∃ x t, e.key = .str x t ∧ e.hash = PyData.keyHash P x := by
  induction es generalizing ds with
  | nil => intro _ e h; cases h
  | cons e es ih =>
    intro r e' h
    cases r with
    | cons _ r =>
    rcases List.mem_cons.mp h with rfl | h
    · exact ⟨_, _, rfl, rfl⟩
    · exact ih r e' h
theorem VRd.map {w : World} {prog : Program} {fz : List (Addr × Obj)} {ds : List (Str × T)} {es : List DictEntry} {h : Heap} {a : Addr} {n : Nat} (r : VRd w.params fz ds es) (ha : h.get? a = some (dictOf es n)) :
    h.MapOf (strKind prog w) a (fun k => findBy Value.isStrOf es.toArray k) :=
  ⟨_, es.toArray, n, ha, ⟨rfl, rfl, rfl⟩, rfl, fun e he => by
    obtain ⟨x, t, e1, e2⟩ := r.keys e (by simpa using he)
    exact ⟨x, by rw [e1]; exact strKind_is prog w x t, e2⟩, fun _ => rfl⟩

section
variable {g : Gx} {A : Around} {env : Env} {vars : Vars} {cs : Cs}

theorem Tu.list {t : T} {ts : List T} (i : IsL cs t ts) (hsz : ts.length ≤ sizeLine) : Tu g A t cs (!ts.isEmpty) := fun c s v Q E r R k => by
  obtain ⟨a, vs, n, rfl, ha, ra⟩ := R.isL i r
  have e : (!vs.toArray.isEmpty) = (!ts.isEmpty) := by cases ra <;> rfl
  refine wpAny_truthy_list ⟨_, ha, rfl, n, rfl⟩ ?_ (by rw [e]; exact k _)
  rw [sizeLine_eq] at hsz
  simp [ra.length]; omega

/-- a thing at a place -/
noncomputable def Sub (g : Gx) (A : Around) (t₁ t₂ : T) (cs : Cs) (P : T → Cs → Prop) : Prop :=
  ∀ (c : Ctx) (s : Shared) (Q E : Value → Shared → Prop) (value slice : Expr) (v₁ v₂ : Value), VR g.P c.fz t₁ v₁ → VR g.P c.fz t₂ v₂ → RF g A c cs s.heap →
    (∀ fz' r v cs' h' tk', (∀ p ∈ c.fz, p ∈ fz') → P r cs' → VR g.P fz' r v → RF g A (c.with fz') cs' h' → Q v { s with heap := h', toks := tk' }) → wpAny g.M A (subscriptTail value slice v₁ v₂) Q E s
theorem subd (slice : Expr) (o i : Value) : ∃ ops, subscripted slice false o i = operate ops (getItem o i) := by
  unfold subscripted
  split
  · exact ⟨_, rfl⟩
  · rename_i h; cases h
  · exact ⟨_, rfl⟩
theorem Ev.sub {value slice : Expr} {pos : Pos} {P : T → Cs → Prop} (H : Ev g A env vars value cs fun t₁ cs₁ => Ev g A env vars slice cs₁ fun t₂ cs₂ => Sub g A t₁ t₂ cs₂ P) : Ev g A env vars (.Subscript value slice pos) cs P := by
  rintro c s Q E _ ⟨V, rfl⟩ R k
  exact Subscript_ (H.use V R fun fz₁ t₁ v₁ cs₁ h₁ tk₁ m₁ H₁ r₁ R₁ => H₁.use (V.mono m₁) R₁ fun fz₂ t₂ v₂ cs₂ h₂ tk₂ m₂ H₂ r₂ R₂ => H₂ (c.with fz₂) _ Q E value slice v₁ v₂ (r₁.mono m₂) r₂ R₂ fun fz₃ t₃ v₃ cs₃ h₃ tk₃ m₃ p r₃ R₃ =>
    k fz₃ t₃ v₃ cs₃ h₃ tk₃ (fun q hq => m₃ q (m₂ q (m₁ q hq))) p r₃ R₃)
theorem Sub.list {t : T} {ts : List T} {i : Int} {u : T} {P : T → Cs → Prop} (il : IsL cs t ts) (h0 : 0 ≤ i) (hi : i < 2 ^ 63) (hx : ts[i.toNat]? = some u) (h : P u cs) : Sub g A t (.int i) cs P := by
  intro c s Q E value slice v₁ v₂ r₁ r₂ R k
  obtain ⟨a, vs, n, rfl, ha, ra⟩ := R.isL il r₁
  cases r₂
  obtain ⟨v, hv, rv⟩ := ra.get hx
  obtain ⟨ops, hs⟩ := subd slice (.ref a) (.int i _)
  have hl : s.heap.IsList a vs.toArray := ⟨_, ha, rfl, n, rfl⟩
  exact tail_any hl.typeIs slot_list_getitem.lookup (wpAny_getItem_list hl h0 hi (by simpa using hv) (k c.fz u v cs s.heap s.toks (fun _ h => h) h rv R)) hs
theorem Sub.listNeg {t : T} {ts : List T} {i : Int} {u : T} {P : T → Cs → Prop} (il : IsL cs t ts) (h0 : i < 0) (h1 : -(ts.length : Int) ≤ i) (hi : -(2 ^ 63) ≤ i) (hx : ts[(i + ts.length).toNat]? = some u) (h : P u cs) : Sub g A t (.int i) cs P := by
  intro c s Q E value slice v₁ v₂ r₁ r₂ R k
  obtain ⟨a, vs, n, rfl, ha, ra⟩ := R.isL il r₁
  cases r₂
  obtain ⟨v, hv, rv⟩ := ra.get hx
  obtain ⟨ops, hs⟩ := subd slice (.ref a) (.int i _)
  have hl : s.heap.IsList a vs.toArray := ⟨_, ha, rfl, n, rfl⟩
  exact tail_any hl.typeIs slot_list_getitem.lookup (wpAny_getItem_list_neg hl h0 (by simpa [ra.length] using h1) hi (by simpa [ra.length] using hv) (k c.fz u v cs s.heap s.toks (fun _ h => h) h rv R)) hs
theorem Sub.tup {ts : List T} {i : Int} {j : Nat} {u : T} {P : T → Cs → Prop} (hlo : -(2 ^ 63) ≤ i) (hi : i < 2 ^ 63) (hj : seqIndex? i ts.length = some j) (hx : ts[j]? = some u) (h : P u cs) : Sub g A (.tup ts) (.int i) cs P := by
  intro c s Q E value slice v₁ v₂ r₁ r₂ R k
  cases r₁ with
  | tup hm ra =>
  cases r₂
  obtain ⟨v, hv, rv⟩ := ra.get hx
  rename_i a vs n tk
  obtain ⟨ops, hs⟩ := subd slice (.ref a) (.int i tk)
  have ht : IsTup s.heap a vs.toArray := ⟨_, R.fzGet hm, rfl, n, rfl⟩
  exact tail_any ht.typeIs slot_tuple_getitem.lookup (getItem_tuple ht hlo hi (by simpa [ra.length] using hj) (by simpa using hv) (k c.fz u v cs s.heap s.toks (fun _ h => h) h rv R)) hs
theorem Sub.dict {t : T} {ds : List (Str × T)} {x : Str} {u : T} {P : T → Cs → Prop} (il : IsD cs t ds) (hx : ds.lookup x = some u) (h : P u cs) : Sub g A t (.str x) cs P := by
  intro c s Q E value slice v₁ v₂ r₁ r₂ R k
  obtain ⟨a, es, n, rfl, _, ha, ra⟩ := R.isD il r₁
  cases r₂
  rename_i tk
  rcases ra.find x with ⟨t, v, e1, e2, rv⟩ | ⟨e1, _⟩
  · rw [hx] at e1
    cases e1
    obtain ⟨ops, hs⟩ := subd slice (.ref a) (.str x tk)
    have hm : s.heap.MapOf (strKind prg g.w) a _ := ra.map ha
    exact tail_any hm.typeIs slot_dict_getitem.lookup (wpAny_getItem_of (strKind_is prg g.w x tk) hm e2 (k c.fz u v cs s.heap _ (fun _ h => h) h rv R)) hs
  · rw [hx] at e1; cases e1
theorem Sub.str {x : Str} {i : Int} {ch : Nat} {P : T → Cs → Prop} (hr : (decide (i < -(2 ^ 63 : Int)) || decide (i ≥ 2 ^ 63)) = false) (hc : (seqIndex? i x.length).bind (x.cps[·]?) = some ch) (h : P (.str ⟨#[ch]⟩) cs) : Sub g A (.str x) (.int i) cs P := by
  intro c s Q E value slice v₁ v₂ r₁ r₂ R k
  cases r₁; cases r₂
  rename_i t u
  obtain ⟨ops, hs⟩ := subd slice (.str x t) (.int i u)
  exact tail_any (typeIs_str s x t) F.slot_str_getitem.lookup (PySem.P.getItem_str hr hc (k c.fz _ _ cs s.heap _ (fun _ h => h) h (.str _ _) R)) hs

noncomputable def EvO (g : Gx) (A : Around) (env : Env) (vars : Vars) : Option Expr → Cs → (T → Cs → Prop) → Prop
  | some e, cs, P => Ev g A env vars e cs P
  | none, cs, P => P .none cs
theorem EvO.none {P : T → Cs → Prop} (h : P .none cs) : EvO g A env vars none cs P := h
theorem EvO.some {e : Expr} {P : T → Cs → Prop} (h : Ev g A env vars e cs P) : EvO g A env vars (some e) cs P := h
theorem EvO.use {e : Option Expr} {P : T → Cs → Prop} {c : Ctx} {s : Shared} {Q E : Value → Shared → Prop} (H : EvO g A env vars e cs P) (V : VarsOK g env c vars) (R : RF g A c cs s.heap)
    (k : ∀ fz' r v cs' h' tk', (∀ p ∈ c.fz, p ∈ fz') → P r cs' → VR g.P fz' r v → RF g A (c.with fz') cs' h' → Q v { s with heap := h', toks := tk' }) : wpAny g.M A (valueOrNone (evalOpt e env)) Q E s := by
  cases e with
  | some e => exact Ev.use H V R k
  | none => exact wpAny_pure (k c.fz _ _ cs s.heap s.toks (fun _ h => h) H .none R)
inductive Part : T → Option Int → Prop where
  | none : Part .none none
  | int (i : Int) : Part (.int i) (some i)
theorem Part.is {t : T} {k : Option Int} {P : Params} {fz : List (Addr × Obj)} {v : Value} (p : Part t k) (r : VR P fz t v) : IsPart v k := by
  cases p <;> cases r <;> constructor
theorem Ev.slice {value : Expr} {lower upper step : Option Expr} {sp pos : Pos} {P : T → Cs → Prop}
    (H : Ev g A env vars value cs fun t cs₁ => EvO g A env vars lower cs₁ fun tl cs₂ => EvO g A env vars upper cs₂ fun tu cs₃ => EvO g A env vars step cs₃ fun tst cs₄ =>
      ∃ ts lo hi st, IsL cs₄ t ts ∧ Part tl lo ∧ Part tu hi ∧ Part tst st ∧ st ≠ some 0 ∧ ts.length ≤ sizeLine ∧ P (.list (pickT ts lo hi st)) cs₄) :
    Ev g A env vars (.Subscript value (.Slice lower upper step sp) pos) cs P := by
  rintro c s Q E _ ⟨V, rfl⟩ R k
  refine Subscript_ (H.use V R fun fz₁ t₁ v₁ cs₁ h₁ tk₁ m₁ H₁ r₁ R₁ => ?_)
  rw [arm_eval_Slice]
  refine wpAny_bind (H₁.use (V.mono m₁) R₁ fun fz₂ t₂ v₂ cs₂ h₂ tk₂ m₂ H₂ r₂ R₂ => ?_)
  refine wpAny_bind (wpAny_holding (H₂.use ((V.mono m₁).le m₂) R₂ fun fz₃ t₃ v₃ cs₃ h₃ tk₃ m₃ H₃ r₃ R₃ => ?_))
  refine wpAny_bind (wpAny_holding (H₃.use (((V.mono m₁).le m₂).le m₃) R₃ fun fz₄ t₄ v₄ cs₄ h₄ tk₄ m₄ H₄ r₄ R₄ => ?_))
  obtain ⟨ts, lo, hi, st, il, p1, p2, p3, h0, hsz, p⟩ := H₄
  obtain ⟨a, vs, n, rfl, ha, ra⟩ := R₄.isL il (((r₁.mono m₂).mono m₃).mono m₄)
  have i1 := p1.is ((r₂.mono m₃).mono m₄)
  have i2 := p2.is (r₃.mono m₄)
  have i3 := p3.is r₄
  have R5 := R₄.pushFz { cls := .type "slice", data := .fields #[v₂, v₃, v₄] }
  show wpAny _ _ (newObj (.type "slice") (.fields #[v₂, v₃, v₄])) _ _ _
  refine wpAny_newObj_type ?_ (by size_fits)
  obtain ⟨ops, hs⟩ := subd (.Slice lower upper step sp) (.ref a) (.ref h₄.objs.size)
  have hl : (h₄.push { cls := .type "slice", data := .fields #[v₂, v₃, v₄] }).IsList a vs.toArray := ⟨_, Heap.get?_push_of_some _ ha, rfl, n, rfl⟩
  refine tail_any (Heap.IsList.typeIs (s := { s with heap := h₄.push { cls := .type "slice", data := .fields #[v₂, v₃, v₄] }, toks := tk₄ }) hl) slot_list_getitem.lookup
    (wpAny_getItem_list_slice hl (Heap.IsSliceOf.new ..) i1 i2 i3 h0 ?_ (by simpa [ra.length] using hsz)) hs
  have R6 := R5.pushFz { cls := .type "list", data := .seq (slicePick vs.toArray lo hi st) }
  refine k _ _ _ cs₄ _ tk₄ (fun q hq => .tail _ (.tail _ (m₄ q (m₃ q (m₂ q (m₁ q hq)))))) p (VR.list (vs := (slicePick vs.toArray lo hi st).toList) (n := 0) ?_ ((ra.pick lo hi st).mono fun q hq => .tail _ (.tail _ hq))) R6
  exact .head _
end
end Mine
end

noncomputable section
open PySem PySem.W PyProof.Rows PySem.Calls
set_option Elab.async false
set_option linter.unusedVariables false
namespace Mine

theorem RF.keeps {g : Gx} {A : Around} {c : Ctx} {cs : Cs} {h h' : Heap} (R : RF g A c cs h) (k : ∀ b o, h.get? b = some o → h'.get? b = some o) : RF g A c cs h' where
  below := R.below
  F := ⟨R.F.ns.at' fun o e => k _ o e, fun b o e => k b o (R.F.keep b o e), R.F.above⟩
  X := R.X
  top := R.top
  N := fun p hp => ⟨k _ _ (R.N p hp).1, (R.N p hp).2⟩
  co := fun p hp => by
    obtain ⟨o, cr, n⟩ := R.co p hp
    exact ⟨o, cr, fun q hq => ⟨k _ _ (n q hq).1, (n q hq).2⟩⟩
  nd := R.nd
  ap := R.ap
  ap2 := R.ap2
  fx := R.fx.gen (fun b ob _ e => k b ob e) R.fx.ap3 R.fx.ap4 fun _ h => h

inductive Fl where
  | next
  | brk
  | cont
  | ret (t : T)
inductive FlR (P : Params) (fz : List (Addr × Obj)) : Fl → Flow → Prop where
  | next : FlR P fz .next .next
  | brk : FlR P fz .brk .brk
  | cont : FlR P fz .cont .cont
  | ret {t : T} {v : Value} : VR P fz t v → FlR P fz (.ret t) (.ret v)
theorem FlR.mono {P : Params} {fz fz' : List (Addr × Obj)} (k : ∀ p ∈ fz, p ∈ fz') {f : Fl} {f' : Flow} : FlR P fz f f' → FlR P fz' f f'
  | .next => .next
  | .brk => .brk
  | .cont => .cont
  | .ret h => .ret (h.mono k)

/-- a frame in which statements run -/
structure SV (g : Gx) (env : Env) (c : Ctx) (vars : Vars) : Prop where
  ok : VarsOK g env c vars
  loc : env.locals = c.L
  kind : env.scope.kind = .function
  cell : ∀ x, env.kindOf x = some .cell → ∃ a o v, env.cells.lookup x = some a ∧ (a, o) ∈ c.pc ∧ o.data = .cell v
  nd : (c.pc.map (·.1)).Nodup
  inj : ∀ x y a, env.cells.lookup x = some a → env.cells.lookup y = some a → x = y

structure Le (c c' : Ctx) : Prop where
  h₀ : c'.h₀ = c.h₀
  L : c'.L = c.L
  frs : c'.frs = c.frs
  fz : ∀ p ∈ c.fz, p ∈ c'.fz
  keys : c'.pc.map (·.1) = c.pc.map (·.1)
  keep : ∀ p ∈ c.pc, (∀ v, p.2.data ≠ .cell v) → p ∈ c'.pc
theorem Le.refl (c : Ctx) : Le c c := ⟨rfl, rfl, rfl, fun _ h => h, rfl, fun _ h _ => h⟩
theorem Le.with {c : Ctx} {fz : List (Addr × Obj)} (k : ∀ p ∈ c.fz, p ∈ fz) : Le c (c.with fz) := ⟨rfl, rfl, rfl, k, rfl, fun _ h _ => h⟩
theorem Le.trans {a b c : Ctx} (h : Le a b) (k : Le b c) : Le a c :=
  ⟨k.h₀.trans h.h₀, k.L.trans h.L, k.frs.trans h.frs, fun p hp => k.fz p (h.fz p hp), k.keys.trans h.keys, fun p hp n => k.keep p (h.keep p hp n) n⟩
theorem SV.mono {g : Gx} {env : Env} {c : Ctx} {vars : Vars} {fz : List (Addr × Obj)} (S : SV g env c vars) (k : ∀ p ∈ c.fz, p ∈ fz) : SV g env (c.with fz) vars := ⟨S.ok.mono k, S.loc, S.kind, S.cell, S.nd, S.inj⟩
theorem SV.weaken {g : Gx} {env : Env} {c : Ctx} {vars vars' : Vars} (S : SV g env c vars) (k : ∀ p ∈ vars', vars.lookup p.1 = some p.2) : SV g env c vars' := by
  refine ⟨fun x t h => S.ok x t ?_, S.loc, S.kind, S.cell, S.nd, S.inj⟩
  have : ∀ (l : Vars), l.lookup x = some t → (x, t) ∈ l := by
    intro l
    induction l with
    | nil => intro h; cases h
    | cons p l ih =>
      intro h
      rw [List.lookup_cons] at h
      split at h
      · rename_i e
        cases h
        have e' : x = p.1 := by simpa using e
        subst e'
        exact .head _
      · exact .tail _ (ih h)
  exact k _ (this vars' h)

noncomputable abbrev XP := Value → Ctx → Cs → Heap → Prop
noncomputable def noX : XP := fun _ _ _ _ => False

noncomputable def StT (g : Gx) (A : Around) (env : Env) (tree : Sem Flow) (vars : Vars) (cs : Cs) (P : Fl → Vars → Cs → Prop) (X : XP) : Prop :=
  ∀ (c : Ctx) (s : Shared) (Q : Flow → Shared → Prop) (E : Value → Shared → Prop), SV g env c vars → RF g A c cs s.heap → PassesOwn g.M A env E →
    (∀ c' fl f vars' cs' h' tk', Le c c' → P fl vars' cs' → FlR g.P c'.fz fl f → SV g env c' vars' → RF g A c' cs' h' → Q f { s with heap := h', toks := tk' }) →
    (∀ e c' cs' h' tk', Le c c' → X e c' cs' h' → E e { s with heap := h', toks := tk' }) →
    wpAny g.M A tree Q E s
noncomputable abbrev Ex (g : Gx) (A : Around) (env : Env) (ss : List Stmt) (vars : Vars) (cs : Cs) (P : Fl → Vars → Cs → Prop) (X : XP) : Prop := StT g A env (execs ss env) vars cs P X
noncomputable abbrev Ex1 (g : Gx) (A : Around) (env : Env) (st : Stmt) (vars : Vars) (cs : Cs) (P : Fl → Vars → Cs → Prop) (X : XP) : Prop := StT g A env (exec st env) vars cs P X
/-- a target gets a value -/
noncomputable def As (g : Gx) (A : Around) (env : Env) (target : Expr) (t : T) (vars : Vars) (cs : Cs) (P : Vars → Cs → Prop) : Prop :=
  ∀ (c : Ctx) (s : Shared) (v : Value) (Q : Unit → Shared → Prop) (E : Value → Shared → Prop), SV g env c vars → RF g A c cs s.heap → VR g.P c.fz t v →
    (∀ c' vars' cs' h' tk', Le c c' → P vars' cs' → SV g env c' vars' → RF g A c' cs' h' → Q () { s with heap := h', toks := tk' }) →
    wpAny g.M A (assign target env v) Q E s

section
variable {g : Gx} {A : Around} {env : Env} {vars : Vars} {cs : Cs} {P : Fl → Vars → Cs → Prop} {X : XP}

theorem StT.mono {tree : Sem Flow} {P' : Fl → Vars → Cs → Prop} (H : StT g A env tree vars cs P X) (k : ∀ f v c, P f v c → P' f v c) : StT g A env tree vars cs P' X :=
  fun c s Q E S R hE q e => H c s Q E S R hE (fun c' fl f vars' cs' h' tk' l p => q c' fl f vars' cs' h' tk' l (k _ _ _ p)) e
theorem StT.weaken {tree : Sem Flow} {vars' : Vars} (k : ∀ p ∈ vars', vars.lookup p.1 = some p.2) (H : StT g A env tree vars' cs P X) : StT g A env tree vars cs P X :=
  fun c s Q E S R hE q e => H c s Q E (S.weaken k) R hE q e
theorem StT.drop {tree : Sem Flow} {cs' : Cs} (k : cs'.Sublist cs) (H : StT g A env tree vars cs' P X) : StT g A env tree vars cs P X :=
  fun c s Q E S R hE q e => H c s Q E S (R.drop k) hE q e
theorem StT.perm {tree : Sem Flow} {cs' : Cs} (k : cs'.Perm cs) (H : StT g A env tree vars cs' P X) : StT g A env tree vars cs P X :=
  fun c s Q E S R hE q e => H c s Q E S (R.perm k) hE q e

noncomputable abbrev Nx (g : Gx) (A : Around) (env : Env) (rest : List Stmt) (P : Fl → Vars → Cs → Prop) (X : XP) (fl : Fl) (v : Vars) (c : Cs) : Prop := match fl with
  | .next => Ex g A env rest v c P X
  | fl => P fl v c
noncomputable abbrev Lp (I : Vars → Cs → Prop) (P : Fl → Vars → Cs → Prop) (fl : Fl) (v : Vars) (c : Cs) : Prop := match fl with
  | .next => I v c
  | .cont => I v c
  | .brk => P .next v c
  | .ret r => P (.ret r) v c
theorem Ex.nil (h : P .next vars cs) : Ex g A env [] vars cs P X := fun c s Q E S R hE q e => wpAny_execs_nil (q c .next .next vars cs s.heap s.toks (.refl _) h .next S R)
theorem Ex.cons {st : Stmt} {rest : List Stmt} (H : Ex1 g A env st vars cs (Nx g A env rest P X) X) : Ex g A env (st :: rest) vars cs P X := by
  intro c s Q E S R hE q e
  refine wpAny_execs_cons (H c s _ E S R hE (fun c' fl f vars' cs' h' tk' l p fr S' R' => ?_) e)
  cases fr with
  | next => exact p c' _ Q E S' R' hE (fun c'' fl f vars'' cs'' h'' tk'' l' => q c'' fl f vars'' cs'' h'' tk'' (l.trans l')) fun e' c'' cs'' h'' tk'' l' => e e' c'' cs'' h'' tk'' (l.trans l')
  | brk => exact q c' _ _ vars' cs' h' tk' l p .brk S' R'
  | cont => exact q c' _ _ vars' cs' h' tk' l p .cont S' R'
  | ret r => exact q c' _ _ vars' cs' h' tk' l p (.ret r) S' R'

theorem Ex1.brk {pos : Pos} (h : P .brk vars cs) : Ex1 g A env (.Break pos) vars cs P X := fun c s Q E S R hE q e => wpAny_Break (q c .brk .brk vars cs s.heap s.toks (.refl _) h .brk S R)
theorem Ex1.cont {pos : Pos} (h : P .cont vars cs) : Ex1 g A env (.Continue pos) vars cs P X := fun c s Q E S R hE q e => wpAny_Continue (q c .cont .cont vars cs s.heap s.toks (.refl _) h .cont S R)
theorem Ex1.ret {e : Expr} {pos : Pos} (H : Ev g A env vars e cs fun t cs' => P (.ret t) vars cs') : Ex1 g A env (.Return (some e) pos) vars cs P X := fun c s Q E S R hE q ee =>
  wpAny_Return_some (H.use S.ok R fun fz' t v cs' h' tk' m p r R' => q (c.with fz') (.ret t) (.ret v) vars cs' h' tk' (.with m) p (.ret r) (S.mono m) R')
theorem Ex1.ifs {test : Expr} {body orelse : List Stmt} {pos : Pos} (H : Ts g A env vars test cs fun b cs' => (b = true → Ex g A env body vars cs' P X) ∧ (b = false → Ex g A env orelse vars cs' P X)) : Ex1 g A env (.If test body orelse pos) vars cs P X := by
  intro c s Q E S R hE q e
  refine wpAny_If (H c s _ E S.ok R fun fz' b cs' h' tk' m p R' => ?_)
  cases b with
  | true => exact p.1 rfl (c.with fz') _ Q E (S.mono m) R' hE (fun c'' fl f vars'' cs'' h'' tk'' l' => q c'' fl f vars'' cs'' h'' tk'' ((Le.with m).trans l')) fun e' c'' cs'' h'' tk'' l' => e e' c'' cs'' h'' tk'' ((Le.with m).trans l')
  | false => exact p.2 rfl (c.with fz') _ Q E (S.mono m) R' hE (fun c'' fl f vars'' cs'' h'' tk'' l' => q c'' fl f vars'' cs'' h'' tk'' ((Le.with m).trans l')) fun e' c'' cs'' h'' tk'' l' => e e' c'' cs'' h'' tk'' ((Le.with m).trans l')

/-- a local name gets a value -/
theorem store_local {c : Ctx} {s : Shared} {x : Str} {t : T} {v : Value} {Q : Unit → Shared → Prop} {E : Value → Shared → Prop} (S : SV g env c vars) (R : RF g A c cs s.heap) (r : VR g.P c.fz t v) (hx : env.kindOf x = some .local)
    (k : ∀ c' h' tk', Le c c' → SV g env c' ((x, t) :: vars) → RF g A c' cs h' → Q () { s with heap := h', toks := tk' }) : wpAny g.M A (storeName env x v) Q E s := by
  refine wpAny_storeName_local hx (S.loc ▸ R.F.ns) (fun h' hn hs => ?_) (by rw [S.kind]; rfl)
  have hs' : Heap.SameBut c.L s.heap h' := S.loc ▸ hs
  have keep : ∀ b ob, b ≠ c.L → s.heap.get? b = some ob → h'.get? b = some ob := fun b ob hb e => (hs'.2 b hb).trans e
  refine k { c with mF := fun y => if y = x then some v else c.mF y } h' _ ⟨rfl, rfl, rfl, fun _ h => h, rfl, fun _ h _ => h⟩ ⟨?_, S.loc, S.kind, S.cell, S.nd, S.inj⟩ ⟨R.below, ?_, R.X, R.top, ?_, ?_, R.nd, R.ap, R.ap2, R.fx.gen (c' := { c with mF := fun y => if y = x then some v else c.mF y }) (fun b ob hq e => keep b ob (fun z => by obtain ⟨q, hq, rfl⟩ := hq; obtain ⟨_, _, n, _⟩ := R.fx.get hq; exact n z) e) R.fx.ap3 R.fx.ap4 fun _ h => h⟩
  · intro y u hy
    rw [List.lookup_cons] at hy
    split at hy
    · rename_i e
      have e' : y = x := by simpa using e
      subst e'
      cases hy
      exact ⟨v, r, .inl ⟨hx, S.loc, by simp⟩⟩
    · rename_i e
      have e' : y ≠ x := by simpa using e
      obtain ⟨v', r', at'⟩ := S.ok y u hy
      refine ⟨v', r', ?_⟩
      rcases at' with ⟨a, b, d⟩ | z | z
      · exact .inl ⟨a, b, by simp [e', d]⟩
      · exact .inr (.inl z)
      · exact .inr (.inr z)
  · have F' := R.F.set (m' := fun y => if y = x then some v else c.mF y) (S.loc ▸ hn) hs'
    exact F'
  · exact fun p hp => ⟨keep _ _ (R.N p hp).2.1 (R.N p hp).1, (R.N p hp).2⟩
  · intro p hp
    obtain ⟨o, cr, n⟩ := R.co p hp
    exact ⟨o, cr, fun q hq => ⟨keep _ _ (n q hq).2.1 (n q hq).1, (n q hq).2⟩⟩

theorem store_cell {c : Ctx} {s : Shared} {x : Str} {t : T} {v : Value} {Q : Unit → Shared → Prop} {E : Value → Shared → Prop} (S : SV g env c vars) (R : RF g A c cs s.heap) (r : VR g.P c.fz t v) (hx : env.kindOf x = some .cell)
    (k : ∀ c' h' tk', Le c c' → SV g env c' ((x, t) :: vars) → RF g A c' cs h' → Q () { s with heap := h', toks := tk' }) : wpAny g.M A (storeName env x v) Q E s := by
  obtain ⟨a, o, v₀, hc, ho, hd⟩ := S.cell x hx
  have na := R.N _ (List.mem_append_right _ ho)
  refine wpAny_storeName_cell S.kind hx hc ⟨o, na.1, hd⟩ fun h' hv hs => ?_
  obtain ⟨o', ho', hd'⟩ := hv
  have keep : ∀ b ob, b ≠ a → s.heap.get? b = some ob → h'.get? b = some ob := fun b ob hb e => (hs.2 b hb).trans e
  let pc' := c.pc.map fun p => if p.1 = a then (a, o') else p
  have keys : pc'.map (·.1) = c.pc.map (·.1) := by
    simp only [pc', List.map_map]
    refine List.map_congr_left fun p hp => ?_
    by_cases e : p.1 = a <;> simp [e]
  have memA : (a, o') ∈ pc' := List.mem_map.mpr ⟨(a, o), ho, by simp⟩
  have memO : ∀ p ∈ c.pc, p.1 ≠ a → p ∈ pc' := fun p hp n => List.mem_map.mpr ⟨p, hp, by simp [n]⟩
  have back : ∀ p ∈ pc', p = (a, o') ∨ (p ∈ c.pc ∧ p.1 ≠ a) := fun p hp => by
    obtain ⟨q, hq, e⟩ := List.mem_map.mp hp
    by_cases z : q.1 = a
    · simp [z] at e; exact .inl e.symm
    · simp [z] at e; subst e; exact .inr ⟨hq, z⟩
  have apA : ∀ q ∈ c.fz, q.1 ≠ a := fun q hq e => R.ap2 _ ho q hq e.symm
  have uniq : ∀ p ∈ c.pc, p.1 = a → p.2 = o := fun p hp e => by
    have h1 := (R.N p (List.mem_append_right _ hp)).1
    rw [e, na.1] at h1
    exact (Option.some.inj h1).symm
  refine k { c with pc := pc' } h' _ ⟨rfl, rfl, rfl, fun _ h => h, keys, fun p hp n => memO p hp fun e => n v₀ (by rw [uniq p hp e]; exact hd)⟩ ⟨?_, S.loc, S.kind, ?_, by rw [keys]; exact S.nd, S.inj⟩ ⟨R.below, ?_, R.X, R.top, ?_, ?_, R.nd, ?_, ?_, R.fx.gen (c' := { c with pc := pc' }) (fun b ob hq e => keep b ob (fun z => by obtain ⟨q, hq, rfl⟩ := hq; exact R.fx.ap4 _ (List.mem_append_right _ ho) q hq z.symm) e) R.fx.ap3 (fun p hp q hq => ?_) fun _ h => h⟩
  · intro y u hy
    rw [List.lookup_cons] at hy
    split at hy
    · rename_i e
      have e' : y = x := by simpa using e
      subst e'
      cases hy
      exact ⟨v, r, .inr (.inr ⟨.inl hx, a, o', hc, .inl memA, hd'⟩)⟩
    · rename_i e
      have e' : y ≠ x := by simpa using e
      obtain ⟨v', r', at'⟩ := S.ok y u hy
      refine ⟨v', r', ?_⟩
      rcases at' with z | ⟨_, o₂, m₂, h2, _⟩ | ⟨hk, a₂, o₂, h2, h3, h4⟩
      · exact .inl z
      · exact absurd S.loc (R.N _ (List.mem_append_right _ h2)).2.1
      · have n2 : a₂ ≠ a := fun z => e' (S.inj y x a (z ▸ h2) hc)
        refine .inr (.inr ⟨hk, a₂, o₂, h2, ?_, h4⟩)
        rcases h3 with h3 | h3
        · exact .inl (memO _ h3 n2)
        · exact .inr h3
  · intro y hy
    obtain ⟨a₂, o₂, v₂, h2, h3, h4⟩ := S.cell y hy
    by_cases n2 : a₂ = a
    · subst n2; exact ⟨_, o', some v, h2, memA, hd'⟩
    · exact ⟨a₂, o₂, v₂, h2, memO _ h3 n2, h4⟩
  · exact ⟨R.F.ns.sameBut hs (Ne.symm na.2.1), fun b ob e => keep b ob (fun q => by rw [q, na.2.2] at e; cases e) (R.F.keep b ob e), R.F.above⟩
  · intro p hp
    rcases List.mem_append.mp hp with hp | hp
    · have := R.N p (List.mem_append_left _ hp)
      exact ⟨keep _ _ (apA p hp) this.1, this.2⟩
    · rcases back p hp with rfl | ⟨hp, n⟩
      · exact ⟨ho', na.2⟩
      · have := R.N p (List.mem_append_right _ hp)
        exact ⟨keep _ _ n this.1, this.2⟩
  · intro p hp
    obtain ⟨ob, cr, n⟩ := R.co p hp
    exact ⟨ob, cr, fun q hq => ⟨keep _ _ (by rw [List.mem_singleton.mp hq]; exact R.ap p hp _ (List.mem_append_right _ ho)) (n q hq).1, (n q hq).2⟩⟩
  · intro p hp q hq
    rcases List.mem_append.mp hq with hq | hq
    · exact R.ap p hp q (List.mem_append_left _ hq)
    · rcases back q hq with rfl | ⟨hq, n⟩
      · exact R.ap p hp (a, o) (List.mem_append_right _ ho)
      · exact R.ap p hp q (List.mem_append_right _ hq)
  · intro p hp q hq
    rcases back p hp with rfl | ⟨hp, n⟩
    · exact fun e => apA q hq e.symm
    · exact R.ap2 p hp q hq
  · rcases List.mem_append.mp hp with hp | hp
    · exact R.fx.ap4 p (List.mem_append_left _ hp) q hq
    · rcases back p hp with rfl | ⟨hp, n⟩
      · exact R.fx.ap4 (a, o) (List.mem_append_right _ ho) q hq
      · exact R.fx.ap4 p (List.mem_append_right _ hp) q hq

theorem As.name {x : Str} {pos : Pos} {t : T} {P : Vars → Cs → Prop} (hx : env.kindOf x = some .local ∨ env.kindOf x = some .cell) (h : P ((x, t) :: vars) cs) : As g A env (.Name x pos) t vars cs P := by
  intro c s v Q E S R r k
  refine wpAny_assign_Name ?_
  rcases hx with hx | hx
  · exact store_local S R r hx fun c' h' tk' l S' R' => k c' _ cs h' tk' l h S' R'
  · exact store_cell S R r hx fun c' h' tk' l S' R' => k c' _ cs h' tk' l h S' R'
theorem As.tup2 {x y : Str} {p q pos : Pos} {n : Nat} {t u : T} {P : Vars → Cs → Prop} (hh : A.handled = none) (hx : env.kindOf x = some .local ∨ env.kindOf x = some .cell) (hy : env.kindOf y = some .local ∨ env.kindOf y = some .cell) (h : P ((y, u) :: (x, t) :: vars) cs) :
    As g A env (.Tuple [.Name x p, .Name y q] n pos) (.tup [t, u]) vars cs P := by
  intro c s v Q E S R r k
  cases r with
  | tup hm rs =>
  rename_i a vs nn
  have ht : IsTup s.heap a vs.toArray := ⟨_, R.fzGet hm, rfl, nn, rfl⟩
  cases rs with
  | cons r1 rs =>
  cases rs with
  | cons r2 rs =>
  cases rs
  refine assign_Tuple_tuple hh ht rfl rfl fun h' hk => ?_
  have R1 : RF g A c cs h' := R.keeps fun b o e => hk b o (Nat.ne_of_lt (Heap.lt_size e)) e
  refine wpAny_assignInOrder_more ((As.name (P := fun v c => v = (x, t) :: vars ∧ c = cs) hx ⟨rfl, rfl⟩) c _ _ _ E S R1 r1 fun c1 v1 cs1 h1 tk1 l1 e1 S1 R1' => ?_)
  obtain ⟨rfl, rfl⟩ := e1
  refine wpAny_assignInOrder_more ((As.name (P := fun v c => v = (y, u) :: (x, t) :: vars ∧ c = cs1) hy ⟨rfl, rfl⟩) c1 _ _ _ E S1 R1' (r2.mono l1.fz) fun c2 v2 cs2 h2 tk2 l2 e2 S2 R2 => ?_)
  obtain ⟨rfl, rfl⟩ := e2
  exact wpAny_assignInOrder_none (k c2 _ _ h2 tk2 (l1.trans l2) h S2 R2)

noncomputable def noComp : Expr → Bool
  | .ListComp .. => false
  | .SetComp .. => false
  | .DictComp .. => false
  | _ => true
theorem swaps_no {value : Expr} {t : Option Expr} {l : Nat} {env : Env} (h : noComp value = true) : swapsWith value t l env = pure false := by
  cases value <;> first | rfl | cases h
theorem Ex1.assignC {x : Str} {p pos : Pos} {value : Expr} (hx : env.kindOf x = some .local ∨ env.kindOf x = some .cell) (H : Ev g A env vars value cs fun t cs' => P .next ((x, t) :: vars) cs') (hs : swapsWith value (some (.Name x p)) pos.line env = pure false := by rfl) :
    Ex1 g A env (.Assign [.Name x p] value pos) vars cs P X := by
  intro c s Q E S R hE q e
  refine wpAny_Assign_Name (H.use S.ok R fun fz' t v cs' h' tk' m pp r R' => ?_) hs
  rcases hx with hx | hx
  · exact store_local (S.mono m) R' r hx fun c' h' tk' l S' R' => q c' .next .next _ _ h' tk' ((Le.with m).trans l) pp .next S' R'
  · exact store_cell (S.mono m) R' r hx fun c' h' tk' l S' R' => q c' .next .next _ _ h' tk' ((Le.with m).trans l) pp .next S' R'
theorem Ex1.assign {x : Str} {p pos : Pos} {value : Expr} (hx : env.kindOf x = some .local ∨ env.kindOf x = some .cell) (H : Ev g A env vars value cs fun t cs' => P .next ((x, t) :: vars) cs') (hs : noComp value = true := by rfl) :
    Ex1 g A env (.Assign [.Name x p] value pos) vars cs P X := Ex1.assignC hx H (swaps_no hs)
theorem Ex1.assignL {x : Str} {p pos : Pos} {value : Expr} (H : Ev g A env vars value cs fun t cs' => P .next ((x, t) :: vars) cs') (hx : env.kindOf x = some .local := by kernel_rfl) (hs : noComp value = true := by rfl) :
    Ex1 g A env (.Assign [.Name x p] value pos) vars cs P X := Ex1.assignC (.inl hx) H (swaps_no hs)
theorem Ex1.assignK {x : Str} {p pos : Pos} {value : Expr} (H : Ev g A env vars value cs fun t cs' => P .next ((x, t) :: vars) cs') (hx : env.kindOf x = some .cell := by kernel_rfl) (hs : noComp value = true := by rfl) :
    Ex1 g A env (.Assign [.Name x p] value pos) vars cs P X := Ex1.assignC (.inr hx) H (swaps_no hs)
theorem As.nameL {x : Str} {pos : Pos} {t : T} {P : Vars → Cs → Prop} (h : P ((x, t) :: vars) cs) (hx : env.kindOf x = some .local := by kernel_rfl) : As g A env (.Name x pos) t vars cs P := As.name (.inl hx) h
theorem As.nameK {x : Str} {pos : Pos} {t : T} {P : Vars → Cs → Prop} (h : P ((x, t) :: vars) cs) (hx : env.kindOf x = some .cell := by kernel_rfl) : As g A env (.Name x pos) t vars cs P := As.name (.inr hx) h
theorem Ex1.expr {e : Expr} {pos : Pos} (H : Ev g A env vars e cs fun t cs' => P .next vars cs') (hi : interactive env = false := by rfl) (hs : noComp e = true := by rfl) : Ex1 g A env (.Expr e pos) vars cs P X := by
  intro c s Q E S R hE q ee
  exact wpAny_Expr_any (H.use S.ok R fun fz' t v cs' h' tk' m pp r R' => q (c.with fz') .next .next vars cs' h' tk' (.with m) pp .next (S.mono m) R') hi (swaps_no hs)
end
end Mine
end

noncomputable section
open PySem PySem.W PyProof.Rows PySem.Calls
set_option Elab.async false
set_option linter.unusedVariables false
namespace Mine

/-- what a for goes over, at one place -/
noncomputable def ItbAt (g : Gx) (A : Around) (target : Expr) (c : Ctx) (s : Shared) (v : Value) (us : List T) (cs' : Cs) : Prop :=
  ∀ (Q E : Value → Shared → Prop),
    (∀ (I : Addr) (o : Obj) (fp : List Addr) (St : Nat → Heap → Prop) (h' : Heap), (∀ v, o.data ≠ .cell v) → I ∉ c.pc.map (·.1) → I ≠ c.L → RF g A { c with pc := (I, o) :: c.pc } cs' h' →
      Walks prg g.w A I fp [I] us.length (fun i u => ∃ t', us[i]? = some t' ∧ VR g.P c.fz t' u) St →
      (∀ i v s' (Q' : Unit → Shared → Prop) E', St i s'.heap → Q' () s' → wpAny g.M A (letOwnedTupleGo target (.ref I) v) Q' E' s') →
      (∀ i h, St i h → ∃ o, h.get? I = some o ∧ ∀ v, o.data ≠ .cell v) →
      (∀ b ∈ fp, b = I ∨ ∃ ob, (b, ob) ∈ c.fz ∨ ((b, ob) ∈ c.pc ∧ ∀ v, ob.data ≠ .cell v)) → St 0 h' → Q (.ref I) { s with heap := h' }) →
    wpAny g.M A (pyIter v) Q E s
/-- what a for goes over -/
noncomputable def Itb (g : Gx) (A : Around) (target : Expr) (t : T) (cs : Cs) (us : List T) (cs' : Cs) : Prop :=
  ∀ (c : Ctx) (s : Shared) (v : Value) (Q E : Value → Shared → Prop), VR g.P c.fz t v → RF g A c cs s.heap →
    (∀ (I : Addr) (o : Obj) (fp : List Addr) (St : Nat → Heap → Prop) (h' : Heap), (∀ v, o.data ≠ .cell v) → I ∉ c.pc.map (·.1) → I ≠ c.L → RF g A { c with pc := (I, o) :: c.pc } cs' h' →
      Walks prg g.w A I fp [I] us.length (fun i u => ∃ t', us[i]? = some t' ∧ VR g.P c.fz t' u) St →
      (∀ i v s' (Q' : Unit → Shared → Prop) E', St i s'.heap → Q' () s' → wpAny g.M A (letOwnedTupleGo target (.ref I) v) Q' E' s') →
      (∀ i h, St i h → ∃ o, h.get? I = some o ∧ ∀ v, o.data ≠ .cell v) →
      (∀ b ∈ fp, b = I ∨ ∃ ob, (b, ob) ∈ c.fz ∨ ((b, ob) ∈ c.pc ∧ ∀ v, ob.data ≠ .cell v)) → St 0 h' → Q (.ref I) { s with heap := h' }) →
    wpAny g.M A (pyIter v) Q E s
theorem walks_of {prog : Program} {w : World} {A : Around} {I : Addr} {fp wr : List Addr} {n m : Nat} {P P' : Nat → Value → Prop} {St : Nat → Heap → Prop} (W : Walks prog w A I fp wr n P St) (e : n = m) (h : ∀ i v, i < n → P i v → P' i v) : Walks prog w A I fp wr m P' St := by
  subst e
  exact ⟨W.sub, W.frame, fun i s Q E hi st hQ => W.item i s Q E hi st fun v h' tk hP => hQ v h' tk (h i v hi hP), W.done, W.self⟩
section
variable {g : Gx} {A : Around} {c : Ctx} {cs : Cs} {h h' : Heap}
theorem RF.pushPc (R : RF g A c cs h) (o : Obj) (hf : o.isFreed = false) : RF g A { c with pc := (h.objs.size, o) :: c.pc } cs (h.push o) where
  below := R.below
  F := R.F.push o
  X := R.X
  top := R.top
  N := by
    intro p hp
    rcases List.mem_append.mp hp with hp | hp
    · have := R.N p (List.mem_append_left _ hp)
      exact ⟨Heap.get?_push_of_some _ this.1, this.2⟩
    · rcases List.mem_cons.mp hp with rfl | hp
      · exact ⟨Heap.get?_push_size _ hf, R.newL, R.new0⟩
      · have := R.N p (List.mem_append_right _ hp)
        exact ⟨Heap.get?_push_of_some _ this.1, this.2⟩
  co := fun p hp => by
    obtain ⟨o', cr, n⟩ := R.co p hp
    exact ⟨o', cr, News.of_push n⟩
  nd := R.nd
  ap := fun p hp q hq => by
    rcases List.mem_append.mp hq with hq | hq
    · exact R.ap p hp q (List.mem_append_left _ hq)
    · rcases List.mem_cons.mp hq with rfl | hq
      · exact Nat.ne_of_lt (R.ltC p hp)
      · exact R.ap p hp q (List.mem_append_right _ hq)
  ap2 := fun p hp q hq => by
    rcases List.mem_cons.mp hp with rfl | hp
    · exact Nat.ne_of_gt (R.lt q (List.mem_append_left _ hq))
    · exact R.ap2 p hp q hq
  fx := R.fx.gen (c' := { c with pc := (h.objs.size, o) :: c.pc }) (fun b ob _ e => Heap.get?_push_of_some _ e) R.fx.ap3 (fun p hp q hq => by
    rcases List.mem_append.mp hp with hp | hp
    · exact R.fx.ap4 p (List.mem_append_left _ hp) q hq
    · rcases List.mem_cons.mp hp with rfl | hp
      · exact Nat.ne_of_gt (R.fx.lt hq)
      · exact R.fx.ap4 p (List.mem_append_right _ hp) q hq) fun _ h => h
/-- the head of what is kept is changed, all else stands -/
theorem RF.setPc {I : Addr} {o o' : Obj} {pc : List (Addr × Obj)} (R : RF g A { c with pc := (I, o) :: pc } cs h) (nd : I ∉ pc.map (·.1)) (k : ∀ b ob, b ≠ I → h.get? b = some ob → h'.get? b = some ob) (ho : h'.get? I = some o') :
    RF g A { c with pc := (I, o') :: pc } cs h' := by
  have nI := R.N (I, o) (List.mem_append_right _ (.head _))
  refine ⟨R.below, ⟨R.F.ns.at' fun ob e => k _ ob (Ne.symm nI.2.1) e, fun b ob e => k b ob (fun q => ?_) (R.F.keep b ob e), R.F.above⟩, R.X, R.top, fun p hp => ?_, fun p hp => ?_, R.nd, fun p hp q hq => ?_, fun p hp q hq => ?_, R.fx.gen (c' := { c with pc := (I, o') :: pc }) (fun b ob hq e => k b ob (fun z => by obtain ⟨q, hq, rfl⟩ := hq; exact R.fx.ap4 (I, o) (List.mem_append_right _ (.head _)) q hq z.symm) e) R.fx.ap3 (fun p hp q hq => ?_) fun _ h => h⟩
  · have := nI.2.2; rw [← q] at this; exact absurd (e.symm.trans this) (by simp)
  · rcases List.mem_append.mp hp with hp | hp
    · have z := R.N p (List.mem_append_left _ hp)
      exact ⟨k _ _ (fun e => R.ap2 (I, o) (.head _) p hp e.symm) z.1, z.2⟩
    · rcases List.mem_cons.mp hp with rfl | hp
      · exact ⟨ho, nI.2⟩
      · have z := R.N p (List.mem_append_right _ (.tail _ hp))
        exact ⟨k _ _ (fun e => nd (e ▸ List.mem_map_of_mem hp)) z.1, z.2⟩
  · obtain ⟨ob, cr, n⟩ := R.co p hp
    exact ⟨ob, cr, fun q hq => ⟨k _ _ (by rw [List.mem_singleton.mp hq]; exact R.ap p hp (I, o) (List.mem_append_right _ (.head _))) (n q hq).1, (n q hq).2⟩⟩
  · rcases List.mem_append.mp hq with hq | hq
    · exact R.ap p hp q (List.mem_append_left _ hq)
    · rcases List.mem_cons.mp hq with rfl | hq
      · exact R.ap p hp (I, o) (List.mem_append_right _ (.head _))
      · exact R.ap p hp q (List.mem_append_right _ (.tail _ hq))
  · rcases List.mem_cons.mp hp with rfl | hp
    · exact R.ap2 (I, o) (.head _) q hq
    · exact R.ap2 p (.tail _ hp) q hq
  · rcases List.mem_append.mp hp with hp | hp
    · exact R.fx.ap4 p (List.mem_append_left _ hp) q hq
    · rcases List.mem_cons.mp hp with rfl | hp
      · exact R.fx.ap4 (I, o) (List.mem_append_right _ (.head _)) q hq
      · exact R.fx.ap4 p (List.mem_append_right _ (.tail _ hp)) q hq
theorem RF.dropPc {p : Addr × Obj} {pc : List (Addr × Obj)} (R : RF g A { c with pc := p :: pc } cs h) : RF g A { c with pc := pc } cs h :=
  ⟨R.below, R.F, R.X, R.top, fun q hq => R.N q ((List.mem_append.mp hq).elim (fun z => List.mem_append_left _ z) fun z => List.mem_append_right _ (.tail _ z)), R.co, R.nd,
    fun q hq r hr => R.ap q hq r ((List.mem_append.mp hr).elim (fun z => List.mem_append_left _ z) fun z => List.mem_append_right _ (.tail _ z)), fun q hq => R.ap2 q (.tail _ hq),
    R.fx.gen (c' := { c with pc := pc }) (fun b ob _ e => e) R.fx.ap3 (fun q hq => R.fx.ap4 q ((List.mem_append.mp hq).elim (fun z => List.mem_append_left _ z) fun z => List.mem_append_right _ (.tail _ z))) fun _ h => h⟩
/-- the kept thing's address stands at no other place -/
theorem RF.but {I : Addr} {o : Obj} {pc : List (Addr × Obj)} (R : RF g A { c with pc := (I, o) :: pc } cs h) (nd : I ∉ pc.map (·.1)) (k : ∀ b ob, b ≠ I → h.get? b = some ob → h'.get? b = some ob) : RF g A { c with pc := pc } cs h' := by
  have nI := R.N (I, o) (List.mem_append_right _ (.head _))
  have R' := R.dropPc
  refine ⟨R.below, ⟨R.F.ns.at' fun ob e => k _ ob (Ne.symm nI.2.1) e, fun b ob e => k b ob (fun q => ?_) (R.F.keep b ob e), R.F.above⟩, R.X, R.top, fun p hp => ?_, fun p hp => ?_, R.nd, R'.ap, R'.ap2, R'.fx.gen (c' := { c with pc := pc }) (fun b ob hq e => k b ob (fun z => by obtain ⟨q, hq, rfl⟩ := hq; exact R.fx.ap4 (I, o) (List.mem_append_right _ (.head _)) q hq z.symm) e) R'.fx.ap3 R'.fx.ap4 fun _ h => h⟩
  · have := nI.2.2; rw [← q] at this; exact absurd (e.symm.trans this) (by simp)
  · rcases List.mem_append.mp hp with hp | hp
    · have z := R.N p (List.mem_append_left _ hp)
      exact ⟨k _ _ (fun e => R.ap2 (I, o) (.head _) p hp e.symm) z.1, z.2⟩
    · have z := R.N p (List.mem_append_right _ (.tail _ hp))
      exact ⟨k _ _ (fun e => nd (e ▸ List.mem_map_of_mem hp)) z.1, z.2⟩
  · obtain ⟨ob, cr, n⟩ := R.co p hp
    exact ⟨ob, cr, fun q hq => ⟨k _ _ (by rw [List.mem_singleton.mp hq]; exact R.ap p hp (I, o) (List.mem_append_right _ (.head _))) (n q hq).1, (n q hq).2⟩⟩
end

section
variable {g : Gx} {A : Around} {cs : Cs}
theorem RF.fresh {c : Ctx} {h : Heap} (R : RF g A c cs h) : h.objs.size ∉ c.pc.map (·.1) := fun z => by
  obtain ⟨p, hp, e⟩ := List.mem_map.mp z
  exact absurd (R.lt p (List.mem_append_right _ hp)) (e ▸ Nat.lt_irrefl _)
theorem itb_list {target : Expr} {us : List T} {c : Ctx} {s : Shared} {a : Addr} {vs : List Value} {n : Nat} (hh : A.handled = none) (R : RF g A c cs s.heap) (hm : (a, listOf vs.toArray n) ∈ c.fz ∨ (a, listOf vs.toArray n) ∈ c.pc) (rs : VRs g.P c.fz us vs) : ItbAt g A target c s (.ref a) us cs := by
  intro Q E k
  have ha : s.heap.get? a = some (listOf vs.toArray n) := hm.elim (fun z => R.fzGet z) fun z => (R.N _ (List.mem_append_right _ z)).1
  have hl : s.heap.IsList a vs.toArray := ⟨_, ha, rfl, n, rfl⟩
  have hlt := Heap.lt_size ha
  refine wpAny_pyIter_list hl (k _ _ _ _ _ (fun v => by simp) R.fresh R.newL (R.pushPc _ rfl) (walks_of (Walks.list hh s.heap.objs.size a (Nat.ne_of_lt hlt) vs.toArray) (by simp [rs.length]) fun i u hlt' e => ?_) (fun i v s' Q' E' st q => letGo_listiter st.1 q) (fun i h st => ?_) (fun b hb => ?_) ⟨⟨_, Heap.get?_push_size _ rfl, rfl, rfl⟩, hl.push _⟩)
  · have e' : vs[i]? = some u := by simpa using e
    have hi : i < us.length := by rw [← rs.length]; exact (List.getElem?_eq_some_iff.mp e').1
    obtain ⟨u', e2, r2⟩ := rs.get (i := i) (t := us[i]) (by simp [hi])
    rw [e'] at e2; cases e2
    exact ⟨_, by simp [hi], r2⟩
  · obtain ⟨o, ho, hc, hd⟩ := st.1
    exact ⟨o, ho, fun v => by rw [hd]; simp⟩
  · rcases List.mem_cons.mp hb with e | hb
    · exact .inl e
    · rw [List.mem_singleton.mp hb]
      exact .inr ⟨_, hm.elim .inl fun z => .inr ⟨z, fun v => by simp⟩⟩
theorem Itb.list {target : Expr} {us : List T} (hh : A.handled = none) : Itb g A target (.list us) cs us cs := by
  intro c s v Q E r R k
  cases r with
  | list hm rs =>
  rename_i a vs n
  have ha := R.fzGet hm
  have hl : s.heap.IsList a vs.toArray := ⟨_, ha, rfl, n, rfl⟩
  have hlt := Heap.lt_size ha
  refine wpAny_pyIter_list hl (k _ _ _ _ _ (fun v => by simp) R.fresh R.newL (R.pushPc _ rfl) (walks_of (Walks.list hh s.heap.objs.size a (Nat.ne_of_lt hlt) vs.toArray) (by simp [rs.length]) fun i u hlt' e => ?_) (fun i v s' Q' E' st q => letGo_listiter st.1 q) (fun i h st => ?_) (fun b hb => ?_) ⟨⟨_, Heap.get?_push_size _ rfl, rfl, rfl⟩, hl.push _⟩)
  · have e' : vs[i]? = some u := by simpa using e
    have hi : i < us.length := by rw [← rs.length]; exact (List.getElem?_eq_some_iff.mp e').1
    obtain ⟨u', e2, r2⟩ := rs.get (i := i) (t := us[i]) (by simp [hi])
    rw [e'] at e2; cases e2
    exact ⟨_, by simp [hi], r2⟩
  · obtain ⟨o, ho, hc, hd⟩ := st.1
    exact ⟨o, ho, fun v => by rw [hd]; simp⟩
  · rcases List.mem_cons.mp hb with e | hb
    · exact .inl e
    · rw [List.mem_singleton.mp hb]; exact .inr ⟨_, .inl hm⟩
theorem Itb.tup {target : Expr} {us : List T} (hh : A.handled = none) : Itb g A target (.tup us) cs us cs := by
  intro c s v Q E r R k
  cases r with
  | tup hm rs =>
  rename_i a vs n
  have ha := R.fzGet hm
  have hl : s.heap.IsTuple a vs.toArray := ⟨_, ha, rfl, n, rfl⟩
  have hlt := Heap.lt_size ha
  refine wpAny_pyIter_tuple hl (k _ _ _ _ _ (fun v => by simp) R.fresh R.newL (R.pushPc _ rfl) (walks_of (Walks.tuple hh s.heap.objs.size a (Nat.ne_of_lt hlt) vs.toArray) (by simp [rs.length]) fun i u hlt' e => ?_) (fun i v s' Q' E' st q => letGo_tupleiter st.1 q) (fun i h st => ?_) (fun b hb => ?_) ⟨⟨_, Heap.get?_push_size _ rfl, rfl, rfl⟩, hl.at fun o e => Heap.get?_push_of_some _ e⟩)
  · have e' : vs[i]? = some u := by simpa using e
    have hi : i < us.length := by rw [← rs.length]; exact (List.getElem?_eq_some_iff.mp e').1
    obtain ⟨u', e2, r2⟩ := rs.get (i := i) (t := us[i]) (by simp [hi])
    rw [e'] at e2; cases e2
    exact ⟨_, by simp [hi], r2⟩
  · obtain ⟨o, ho, hc, hd⟩ := st.1
    exact ⟨o, ho, fun v => by rw [hd]; simp⟩
  · rcases List.mem_cons.mp hb with e | hb
    · exact .inl e
    · rw [List.mem_singleton.mp hb]; exact .inr ⟨_, .inl hm⟩
theorem Itb.str {x : Str} {px : Pos} {y : Str} (hh : A.handled = none) (ha : x.cps.all (· < 128) = true) : Itb g A (.Name y px) (.str x) cs (x.cps.toList.map fun c => T.str ⟨#[c]⟩) cs := by
  intro c s v Q E r R k
  cases r with
  | str _ t =>
  refine wpAny_pyIter_ascii ha (k _ _ _ _ _ (fun v => by simp) R.fresh R.newL (R.pushPc _ rfl) (walks_of (Walks.strAscii hh _ x t) (by simp) fun i u hlt' e => ?_) (fun i v s' Q' E' st q => wpAny_pure q) (fun i h st => ?_) (fun b hb => ?_) ⟨_, Heap.get?_push_size _ rfl, rfl, rfl⟩)
  · obtain ⟨ch, t', e1, rfl⟩ := e
    exact ⟨_, by simp [e1], .str _ _⟩
  · obtain ⟨o, ho, hc, hd⟩ := st
    exact ⟨o, ho, fun v => by rw [hd]; simp⟩
  · exact .inl (List.mem_singleton.mp hb)
/-- range(n) -/
noncomputable abbrev rngO (n : Int) (t u v : Tok) : Obj := { cls := .type "range", data := .fields #[.int 0 t, .int n u, .int 1 v] }
theorem Itb.range {px : Pos} {y : Str} {n : Nat} {t u v : Tok} (hh : A.handled = none) (hs : Builtin.Range.small 0 n 1 = true) (hz : Builtin.Range.rangeSize 0 n 1 = n) : Itb g A (.Name y px) (.at (rngO n t u v)) cs ((List.range n).map fun (i : Nat) => T.int (i : Int)) cs := by
  intro c s v Q E r R k
  cases r with
  | «at» hm =>
  rename_i a
  have ha := R.fzGet hm
  refine wpAny_pyIter_range (hr := ha) hs (k _ _ _ _ _ (fun v => by simp) R.fresh R.newL (R.pushPc _ rfl) (walks_of (Walks.range hh s.heap.objs.size 0 1 n) (by simp) fun i u hlt' e => ?_) (fun i v s' Q' E' st q => wpAny_pure q) (fun i h st => ?_) (fun b hb => ?_) ?_)
  · obtain ⟨t', rfl⟩ := e
    exact ⟨T.int (i : Int), by simp [hlt'], by simpa using VR.int _ _⟩
  · exact ⟨_, st, fun v => by simp⟩
  · exact .inl (List.mem_singleton.mp hb)
  · show Heap.get? _ _ = _
    rw [Heap.get?_push_size _ rfl, hz]
    simp
end

theorem VarAt.pcMono {env : Env} {c : Ctx} {p : Addr × Obj} {x : Str} {v : Value} (h : VarAt env c x v) : VarAt env { c with pc := p :: c.pc } x v := by
  rcases h with z | ⟨a, o, m₂, b, d⟩ | ⟨a, b, o, d, e, f⟩
  · exact .inl z
  · exact .inr (.inl ⟨a, o, m₂, .tail _ b, d⟩)
  · exact .inr (.inr ⟨a, b, o, d, e.imp (fun z => .tail _ z) id, f⟩)
theorem SV.pushPc {g : Gx} {env : Env} {c : Ctx} {vars : Vars} {p : Addr × Obj} (S : SV g env c vars) (n : p.1 ∉ c.pc.map (·.1)) : SV g env { c with pc := p :: c.pc } vars :=
  ⟨fun x t h => let ⟨v, a, b⟩ := S.ok x t h; ⟨v, a, b.pcMono⟩, S.loc, S.kind, fun x hx => let ⟨a, o, v, b, d, e⟩ := S.cell x hx; ⟨a, o, v, b, .tail _ d, e⟩, List.nodup_cons.mpr ⟨n, S.nd⟩, S.inj⟩
/-- a kept thing that is no variable is let go -/
theorem SV.dropPc {g : Gx} {env : Env} {c : Ctx} {vars : Vars} {p : Addr × Obj} {pc : List (Addr × Obj)} (S : SV g env { c with pc := p :: pc } vars) (hp : ∀ v, p.2.data ≠ .cell v) (hL : p.1 ≠ c.L) : SV g env { c with pc := pc } vars := by
  refine ⟨fun x t h => ?_, S.loc, S.kind, fun x hx => ?_, (List.nodup_cons.mp S.nd).2, S.inj⟩
  · obtain ⟨v, a, b⟩ := S.ok x t h
    refine ⟨v, a, ?_⟩
    rcases b with z | ⟨a, o, m₂, b, d⟩ | ⟨a, b, o, d, e, f⟩
    · exact .inl z
    · rcases List.mem_cons.mp b with e | b
      · exact absurd (S.loc : env.locals = c.L) (by rw [show env.locals = p.1 from congrArg Prod.fst e]; exact hL)
      · exact .inr (.inl ⟨a, o, m₂, b, d⟩)
    · refine .inr (.inr ⟨a, b, o, d, ?_, f⟩)
      rcases e with e | e
      · rcases List.mem_cons.mp e with q | e
        · exact absurd f (by rw [show o = p.2 from congrArg Prod.snd q]; exact hp _)
        · exact .inl e
      · exact .inr e
  · obtain ⟨a, o, v, b, d, e⟩ := S.cell x hx
    rcases List.mem_cons.mp d with q | d
    · exact absurd e (by rw [show o = p.2 from congrArg Prod.snd q]; exact hp _)
    · exact ⟨a, o, v, b, d, e⟩
theorem SV.setPc {g : Gx} {env : Env} {c : Ctx} {vars : Vars} {I : Addr} {o o' : Obj} {pc : List (Addr × Obj)} (S : SV g env { c with pc := (I, o) :: pc } vars) (hp : ∀ v, o.data ≠ .cell v) (hL : I ≠ c.L) : SV g env { c with pc := (I, o') :: pc } vars :=
  (S.dropPc hp hL).pushPc (c := { c with pc := pc }) (p := (I, o')) (List.nodup_cons.mp S.nd).1

noncomputable def ForP (g : Gx) (A : Around) (env : Env) (target : Expr) (body orelse : List Stmt) (P : Fl → Vars → Cs → Prop) (X : XP) : List T → Vars → Cs → Prop
  | [], vars, cs => Ex g A env orelse vars cs P X
  | u :: rest, vars, cs => As g A env target u vars cs fun vars' cs' => Ex g A env body vars' cs' (Lp (fun v c => ForP g A env target body orelse P X rest v c) P) noX

section
variable {g : Gx} {A : Around} {env : Env} {vars : Vars} {cs : Cs} {P : Fl → Vars → Cs → Prop} {X : XP}
/-- what is kept, with one more at its head, comes back so -/
theorem Le.split {c c' : Ctx} {I : Addr} {o : Obj} {pc : List (Addr × Obj)} (l : Le { c with pc := (I, o) :: pc } c') (ho : ∀ v, o.data ≠ .cell v) (nd : (c'.pc.map (·.1)).Nodup) : ∃ pc', c'.pc = (I, o) :: pc' ∧ Le { c with pc := pc } { c' with pc := pc' } := by
  have k := l.keys
  obtain ⟨p, pc', e⟩ : ∃ p pc', c'.pc = p :: pc' := by
    cases q : c'.pc with
    | nil => rw [q] at k; simp at k
    | cons p r => exact ⟨p, r, rfl⟩
  rw [e] at k nd
  simp only [List.map_cons, List.cons.injEq] at k
  have hm := l.keep (I, o) (.head _) ho
  rw [e] at hm
  have hp : p = (I, o) := by
    rcases List.mem_cons.mp hm with q | q
    · exact q.symm
    · have := (List.nodup_cons.mp nd).1
      exact absurd (List.mem_map.mpr ⟨_, q, k.1.symm⟩) this
  subst hp
  refine ⟨pc', e, l.h₀, l.L, l.frs, l.fz, k.2, fun q hq hn => ?_⟩
  have := l.keep q (.tail _ hq) hn
  rw [e] at this
  rcases List.mem_cons.mp this with z | z
  · have n1 := (List.nodup_cons.mp nd).1
    have : q.1 ∈ pc.map (·.1) := List.mem_map_of_mem hq
    rw [← k.2] at this
    rw [z] at this
    exact absurd this n1
  · exact z

inductive ForI (g : Gx) (A : Around) (env : Env) (target : Expr) (body orelse : List Stmt) (P : Fl → Vars → Cs → Prop) (X : XP) (us : List T) (c : Ctx) (s : Shared) (I : Addr) (St : Nat → Heap → Prop) (k : Nat) (s' : Shared) : Prop
  | mk (c' : Ctx) (oI : Obj) (vars' : Vars) (cs' : Cs) (h' : Heap) (tk' i : Nat) (e1 : s' = { s with heap := h', toks := tk' }) (l : Le c c') (nI : I ∉ c'.pc.map (·.1)) (hoc : ∀ v, oI.data ≠ .cell v) (st : St i h')
    (S : SV g env { c' with pc := (I, oI) :: c'.pc } vars') (R : RF g A { c' with pc := (I, oI) :: c'.pc } cs' h') (fp : ForP g A env target body orelse P X (us.drop i) vars' cs') (hi : i ≤ us.length) (e2 : k = us.length + 1 - i)
theorem for_lt {i n : Nat} (h : i < n) : n + 1 - (i + 1) < n + 1 - i := by omega
/-- the loop itself -/
theorem for_rest {target : Expr} {body orelse : List Stmt} {c : Ctx} {s : Shared} {Q : Flow → Shared → Prop} {E : Value → Shared → Prop} {v : Value} {us : List T} {cs₁ : Cs} (S₁ : SV g env c vars) (it : ItbAt g A target c s v us cs₁) (fp0 : ForP g A env target body orelse P X us vars cs₁) (hE : PassesOwn g.M A env E)
    (q : ∀ c' fl f vars' cs' h' tk', Le c c' → P fl vars' cs' → FlR g.P c'.fz fl f → SV g env c' vars' → RF g A c' cs' h' → Q f { s with heap := h', toks := tk' })
    (ee : ∀ e c' cs' h' tk', Le c c' → X e c' cs' h' → E e { s with heap := h', toks := tk' }) :
    wpAny g.M A (pyIter v) (fun it s₂ => codeAny g.M A (.forLoop target it body orelse env) (fun r s' => match r with | .ok f => Q f s' | .error e => cameBackBy g.M A env E e s') s₂) E s := by
  refine it _ E fun I o fp St h₁ hnc hI hIL R₂ W hgo hob hfp hst => ?_
  try dsimp only at W hgo hob hfp hst hI hIL ⊢
  have S₂ : SV g env { c with pc := (I, o) :: c.pc } vars := S₁.pushPc (p := (I, o)) hI
  refine codeAny_forLoop_any (ForI g A env target body orelse P X us c s I St)
    ?_ (us.length + 1) ⟨c, o, vars, cs₁, h₁, s.toks, 0, rfl, .refl _, hI, hnc, hst, S₂, R₂, by simpa using fp0, Nat.zero_le _, rfl⟩
  rintro k s' ⟨c', oI, vars', cs', h', tk', i, rfl, l', nI, hoc, st', S', R', fp', hi, rfl⟩
  have hIL' : I ≠ c'.L := by rw [l'.L]; exact hIL
  have tail : ∀ {R : Result → Shared → Prop} {α : Type} {t : Sem α} {Q' : α → Shared → Prop} {s''}, wpAny g.M A t Q' E s'' → wpAny g.M A t Q' (notedBy g.M A env (cameBackBy g.M A env E)) s'' := fun h => wpAny_passesOwn hE h
  by_cases hlt : i < us.length
  · refine W.item i _ _ _ hlt st' fun v h₂ tk₂ hP st₂ hk₂ => ?_
    obtain ⟨u, hu, hv⟩ := hP
    have hd : us.drop i = u :: us.drop (i + 1) := by
      rw [List.drop_eq_getElem_cons hlt]
      rw [List.getElem?_eq_getElem hlt] at hu
      rw [Option.some.inj hu]
    rw [hd] at fp'
    obtain ⟨o₂, ho₂, hc₂⟩ := hob _ _ st₂
    have R₃ : RF g A { c' with pc := (I, o₂) :: c'.pc } cs' h₂ := R'.setPc nI (fun b ob hb e => hk₂ b ob (by simpa using hb) e) ho₂
    have S₃ : SV g env { c' with pc := (I, o₂) :: c'.pc } vars' := S'.setPc hoc hIL'
    refine hgo (i + 1) v _ _ _ st₂ ?_
    refine fp' { c' with pc := (I, o₂) :: c'.pc } _ v _ _ S₃ R₃ (hv.mono l'.fz) fun c₄ vars₄ cs₄ h₄ tk₄ l₄ H₄ S₄ R₄ => ?_
    refine wpAny_passesOwn hE (H₄ c₄ _ _ E S₄ R₄ hE (fun c₅ fl f vars₅ cs₅ h₅ tk₅ l₅ p₅ fr₅ S₅ R₅ => ?_) fun e c₅ cs₅ h₅ tk₅ l₅ x₅ => ?_)
    · obtain ⟨pc₅, e₅, l₆⟩ := (l₄.trans l₅).split hc₂ S₅.nd
      have le : Le c { c₅ with pc := pc₅ } := l'.trans l₆
      have RR : RF g A { c₅ with pc := (I, o₂) :: pc₅ } cs₅ h₅ := by rw [← e₅]; exact R₅
      have SS : SV g env { c₅ with pc := (I, o₂) :: pc₅ } vars₅ := by rw [← e₅]; exact S₅
      have cL : I ≠ c₅.L := by rw [show c₅.L = c'.L from (l₄.trans l₅).L]; exact hIL'
      have go : ForP g A env target body orelse P X (us.drop (i + 1)) vars₅ cs₅ → ∃ m, m < us.length + 1 - i ∧ ForI g A env target body orelse P X us c s I St m ⟨h₅, s.gens, s.drawn, tk₅, s.os⟩ := fun z => by
        refine ⟨us.length + 1 - (i + 1), for_lt hlt, { c₅ with pc := pc₅ }, o₂, vars₅, cs₅, h₅, tk₅, i + 1, rfl, l'.trans l₆, (List.nodup_cons.mp SS.nd).1, hc₂, W.frame _ _ _ st₂ fun b hb ob e => ?_, SS, RR, z, hlt, rfl⟩
        rcases hfp b hb with rfl | ⟨ob', hm | ⟨hm, hcc⟩⟩
        · rw [ho₂] at e; cases e
          exact (RR.N _ (List.mem_append_right _ (.head _))).1
        · have h1 := R₃.fzGet (l'.fz _ hm)
          rw [h1] at e; cases e
          exact RR.fzGet ((l₄.trans l₅).fz _ (l'.fz _ hm))
        · have h0 := l'.keep _ hm hcc
          have h1 := (R₃.N _ (List.mem_append_right _ (.tail _ h0))).1
          rw [h1] at e; cases e
          have h2 := (l₄.trans l₅).keep _ (.tail _ h0) hcc
          exact (R₅.N _ (List.mem_append_right _ h2)).1
      cases fr₅ with
      | next => exact go p₅
      | cont => exact go p₅
      | brk => exact q _ .next .next vars₅ cs₅ h₅ tk₅ le p₅ .next (SS.dropPc hc₂ cL) RR.dropPc
      | ret r₅ => exact q _ (.ret _) (.ret _) vars₅ cs₅ h₅ tk₅ le p₅ (.ret r₅) (SS.dropPc hc₂ cL) RR.dropPc
    · exact x₅.elim
  · have e : i = us.length := Nat.le_antisymm hi (Nat.not_lt.mp hlt)
    subst e
    rw [List.drop_length] at fp'
    refine W.done _ _ _ st' fun h₂ tk₂ hk₂ => ?_
    have R₃ : RF g A { c' with pc := c'.pc } cs' h₂ := R'.but nI fun b ob hb e => hk₂ b ob (by simpa using hb) e
    have S₃ : SV g env { c' with pc := c'.pc } vars' := S'.dropPc hoc hIL'
    refine wpAny_passesOwn hE (fp' c' _ _ E S₃ R₃ hE (fun c₅ fl f vars₅ cs₅ h₅ tk₅ l₅ p₅ fr₅ S₅ R₅ => ?_) fun e c₅ cs₅ h₅ tk₅ l₅ x₅ => ee e c₅ cs₅ h₅ tk₅ (l'.trans l₅) x₅)
    exact q _ fl f vars₅ cs₅ h₅ tk₅ (l'.trans l₅) p₅ fr₅ S₅ R₅


theorem Ex1.for_ {target iter : Expr} {body orelse : List Stmt} {pos : Pos} (H : Ev g A env vars iter cs fun t cs' => ∃ us cs'', Itb g A target t cs' us cs'' ∧ ForP g A env target body orelse P X us vars cs'') (hs : ∀ x, foldedSetIterable iter env x = pure x := by intro _; rfl) :
    Ex1 g A env (.For target iter body orelse pos) vars cs P X := by
  intro c s Q E S R hE q ee
  refine wpAny_For (H.use S.ok R fun fz₁ t v cs₀ h₀ tk₁ m₁ hI r R₁ => ?_) hs
  obtain ⟨us, cs₁, it, fp0⟩ := hI
  exact for_rest (s := { s with heap := h₀, toks := tk₁ }) (S.mono m₁) (fun Q E => it (c.with fz₁) _ v Q E r R₁) fp0 hE (fun c' fl f vars' cs' h' tk' l => q c' fl f vars' cs' h' tk' ((Le.with m₁).trans l)) fun e c' cs' h' tk' l => ee e c' cs' h' tk' ((Le.with m₁).trans l)
theorem As.weaken {target : Expr} {t : T} {vars' : Vars} {P : Vars → Cs → Prop} (k : ∀ p ∈ vars', vars.lookup p.1 = some p.2) (H : As g A env target t vars' cs P) : As g A env target t vars cs P :=
  fun c s v Q E S R r q => H c s v Q E (S.weaken k) R r q
theorem ForP.inv {target : Expr} {body orelse : List Stmt} (I : List T → Vars → Cs → Prop)
    (step : ∀ u rest vars cs, I (u :: rest) vars cs → As g A env target u vars cs fun v c => Ex g A env body v c (Lp (I rest) P) noX)
    (done : ∀ vars cs, I [] vars cs → Ex g A env orelse vars cs P X) : ∀ us vars cs, I us vars cs → ForP g A env target body orelse P X us vars cs
  | [], vars, cs, h => done vars cs h
  | u :: rest, vars, cs, h => fun c s v Q E S R r q => step u rest vars cs h c s v Q E S R r fun c' vars' cs' h' tk' l p => q c' vars' cs' h' tk' l (StT.mono p fun fl v c hp => by
      cases fl with
      | next => exact ForP.inv I step done rest v c hp
      | cont => exact ForP.inv I step done rest v c hp
      | brk => exact hp
      | ret r => exact hp)

/-- a while: what is asked, turn by turn; n turns at most -/
noncomputable def WhP (g : Gx) (A : Around) (env : Env) (test : Expr) (body orelse : List Stmt) (P : Fl → Vars → Cs → Prop) (X : XP) : Nat → Vars → Cs → Prop
  | 0, _, _ => False
  | n + 1, vars, cs => Ts g A env vars test cs fun b cs' => (b = true → Ex g A env body vars cs' (Lp (fun v c => WhP g A env test body orelse P X n v c) P) X) ∧ (b = false → Ex g A env orelse vars cs' P X)
inductive WhI (g : Gx) (A : Around) (env : Env) (test : Expr) (body orelse : List Stmt) (P : Fl → Vars → Cs → Prop) (X : XP) (c : Ctx) (s : Shared) (k : Nat) (s' : Shared) : Prop
  | mk (c' : Ctx) (vars' : Vars) (cs' : Cs) (h' : Heap) (tk' : Nat) (e1 : s' = { s with heap := h', toks := tk' }) (l : Le c c') (S : SV g env c' vars') (R : RF g A c' cs' h') (wp : WhP g A env test body orelse P X k vars' cs')
theorem Ex1.while_ {test : Expr} {body orelse : List Stmt} {pos : Pos} (n : Nat) (H : WhP g A env test body orelse P X n vars cs) : Ex1 g A env (.While test body orelse pos) vars cs P X := by
  intro c s Q E S R hE q ee
  refine wpAny_While (codeAny_whileLoop (WhI g A env test body orelse P X c s)
    ?_ n ⟨c, vars, cs, s.heap, s.toks, rfl, .refl _, S, R, H⟩)
  rintro k s' ⟨c', vars', cs', h', tk', rfl, l', S', R', H'⟩
  cases k with
  | zero => exact H'.elim
  | succ k =>
    refine wpAny_passesOwn hE (H' c' _ _ E S'.ok R' fun fz₂ b cs₂ h₂ tk₂ m₂ p₂ R₂ => ?_)
    have S₂ := S'.mono m₂
    have l₂ : Le c (c'.with fz₂) := l'.trans (.with m₂)
    cases b with
    | true =>
      refine wpAny_passesOwn hE (p₂.1 rfl (c'.with fz₂) _ _ E S₂ R₂ hE (fun c₃ fl f vars₃ cs₃ h₃ tk₃ l₃ p₃ fr₃ S₃ R₃ => ?_) fun e c₃ cs₃ h₃ tk₃ l₃ x₃ => ee e c₃ cs₃ h₃ tk₃ (l₂.trans l₃) x₃)
      cases fr₃ with
      | next => exact ⟨k, Nat.lt_succ_self _, c₃, vars₃, cs₃, h₃, tk₃, rfl, l₂.trans l₃, S₃, R₃, p₃⟩
      | cont => exact ⟨k, Nat.lt_succ_self _, c₃, vars₃, cs₃, h₃, tk₃, rfl, l₂.trans l₃, S₃, R₃, p₃⟩
      | brk => exact q c₃ .next .next vars₃ cs₃ h₃ tk₃ (l₂.trans l₃) p₃ .next S₃ R₃
      | ret r => exact q c₃ (.ret _) (.ret _) vars₃ cs₃ h₃ tk₃ (l₂.trans l₃) p₃ (.ret r) S₃ R₃
    | false =>
      exact wpAny_passesOwn hE (p₂.2 rfl (c'.with fz₂) _ _ E S₂ R₂ hE (fun c₃ fl f vars₃ cs₃ h₃ tk₃ l₃ p₃ fr₃ S₃ R₃ => q c₃ fl f vars₃ cs₃ h₃ tk₃ (l₂.trans l₃) p₃ fr₃ S₃ R₃) fun e c₃ cs₃ h₃ tk₃ l₃ x₃ => ee e c₃ cs₃ h₃ tk₃ (l₂.trans l₃) x₃)
end
end Mine
end

noncomputable section
open PySem PySem.W PyProof.Rows PySem.Calls
set_option Elab.async false
set_option linter.unusedVariables false
set_option tactic.hygienic false
namespace Mine

theorem objs_of {P : Params} {fz : List (Addr × Obj)} {h₀ h : Heap} {L : Addr} : ∀ {cs : Cs}, (∀ p ∈ cs, ∃ o, CR P fz p.1 p.2 o ∧ News h₀ L h [(p.1, o)]) → ∃ co : List (Addr × Obj), co.map (·.1) = cs.map (·.1) ∧ News h₀ L h co ∧ ∀ p ∈ cs, ∃ o, (p.1, o) ∈ co ∧ CR P fz p.1 p.2 o
  | [], _ => ⟨[], rfl, News.nil, fun _ h => nomatch h⟩
  | p :: cs, H => by
    obtain ⟨co, e, N, k⟩ := objs_of (cs := cs) fun q hq => H q (.tail _ hq)
    obtain ⟨o, cr, n⟩ := H p (.head _)
    refine ⟨(p.1, o) :: co, by simp [e], fun q hq => ?_, fun q hq => ?_⟩
    · rcases List.mem_cons.mp hq with rfl | hq
      · exact n _ (.head _)
      · exact N q hq
    · rcases List.mem_cons.mp hq with rfl | hq
      · exact ⟨o, .head _, cr⟩
      · obtain ⟨o', hm, cr'⟩ := k q hq; exact ⟨o', .tail _ hm, cr'⟩

noncomputable def retT : Fl → T
  | .ret t => t
  | _ => .none
/-- how arguments are bound -/
noncomputable def BindP (g : Gx) (A : Around) (fd : FuncData) (ts : List T) (kw : List (Str × T)) (cs : Cs) (bs : List (Str × T)) : Prop :=
  ∀ (c : Ctx) (s : Shared) (Q : List (Str × Value) → Shared → Prop) (E : Value → Shared → Prop) (vs : List Value) (kvs : List Value), RF g A c cs s.heap → VRs g.P c.fz ts vs → VRs g.P c.fz (kw.map (·.2)) kvs →
    (∀ fz' vals h' tk', (∀ p ∈ c.fz, p ∈ fz') → RF g A (c.with fz') cs h' → VRs g.P fz' (bs.map (·.2)) vals → Q ((bs.map (·.1)).zip vals) { s with heap := h', toks := tk' }) →
    wpAny g.M A (bindArgs fd ⟨vs, (kw.map (·.1)).zip kvs⟩) Q E s

theorem bindL_at (kindOf : Str → Option NameKind) (x : Str) (hx : kindOf x = some .local) : ∀ (binds : List (Str × Value)) (m : Str → Option Value), bindL kindOf binds m x = (binds.reverse.lookup x).or (m x) := by
  intro binds
  induction binds with
  | nil => intro m; simp [bindL]
  | cons p r ih =>
    intro m
    obtain ⟨n, v⟩ := p
    rw [bindL, ih, List.reverse_cons, List.lookup_append]
    cases r.reverse.lookup x with
    | some w => rfl
    | none =>
      by_cases e : x = n
      · subst e; simp [hx, List.lookup]
      · have e1 : (x == n) = false := by simpa using e
        by_cases hn : kindOf n = some .local <;> simp [hn, List.lookup, e1, e]
theorem bindC_at (kindOf : Str → Option NameKind) (x : Str) (hx : kindOf x = some .cell) : ∀ (binds : List (Str × Value)) (m : Str → Option Value), bindC kindOf binds m x = (binds.reverse.lookup x).or (m x) := by
  intro binds
  induction binds with
  | nil => intro m; simp [bindC]
  | cons p r ih =>
    intro m
    obtain ⟨n, v⟩ := p
    rw [bindC, ih, List.reverse_cons, List.lookup_append]
    cases r.reverse.lookup x with
    | some w => rfl
    | none =>
      by_cases e : x = n
      · subst e; simp [hx, List.lookup]
      · have e1 : (x == n) = false := by simpa using e
        by_cases hn : kindOf n = some .local <;> simp [hn, List.lookup, e1, e]
theorem zip_lookup {P : Params} {fz : List (Addr × Obj)} {x : Str} {t : T} : ∀ {bs : List (Str × T)} {vals : List Value}, (bs.map (·.1)).Nodup → VRs P fz (bs.map (·.2)) vals → bs.lookup x = some t → ∃ v, ((bs.map (·.1)).zip vals).reverse.lookup x = some v ∧ VR P fz t v
  | [], _, _, _, h => by cases h
  | (y, u) :: bs, _, nd, .cons r rs, h => by
    rename_i v vs
    simp only [List.map_cons, List.zip_cons_cons, List.reverse_cons, List.lookup_append]
    have nd' := List.nodup_cons.mp nd
    rw [List.lookup_cons] at h
    split at h
    · rename_i e
      cases h
      have e' : x = y := by simpa using e
      subst e'
      have hn : ((bs.map (·.1)).zip vs).reverse.lookup x = none := by
        rw [List.lookup_eq_none_iff]
        intro p hp
        have hp' := List.of_mem_zip (List.mem_reverse.mp hp)
        have ne : ¬ x = p.1 := fun e2 => nd'.1 (e2 ▸ hp'.1)
        simpa using ne
      exact ⟨v, by rw [hn]; simp [List.lookup], r⟩
    · obtain ⟨v', e1, r1⟩ := zip_lookup nd'.2 rs h
      exact ⟨v', by rw [e1]; rfl, r1⟩
theorem cellsAre_get {cm : Str → Option Value} : ∀ {cl : List (Str × Addr)} {cells : List (Addr × Obj)}, CellsAre cm cl cells → ∀ {x : Str} {a : Addr}, cl.lookup x = some a → ∃ o, (a, o) ∈ cells ∧ o.data = .cell (cm x)
  | _, _, .nil, _, _, h => by cases h
  | _, _, .cons hd r, x, a, h => by
    rw [List.lookup_cons] at h
    split at h
    · rename_i e
      cases h
      exact ⟨_, .head _, by rw [hd, eq_of_beq e]⟩
    · obtain ⟨o, hm, ho⟩ := cellsAre_get r h
      exact ⟨o, .tail _ hm, ho⟩
theorem cellsAre_keys {cm : Str → Option Value} : ∀ {cl : List (Str × Addr)} {cells : List (Addr × Obj)}, CellsAre cm cl cells → cells.map (·.1) = cl.map (·.2)
  | _, _, .nil => rfl
  | _, _, .cons hd r => by simp [cellsAre_keys r]
theorem lookup_snd {x : Str} {a : Addr} : ∀ {cl : List (Str × Addr)}, cl.lookup x = some a → (x, a) ∈ cl
  | [], h => by cases h
  | p :: cl, h => by
    rw [List.lookup_cons] at h
    split at h
    · rename_i e
      cases h
      have e' : x = p.1 := by simpa using e
      subst e'
      exact .head _
    · exact .tail _ (lookup_snd h)
theorem pair_inj {cl : List (Str × Addr)} (h : cl.Pairwise fun x y => x.2 ≠ y.2) {x y : Str} {a : Addr} (hx : (x, a) ∈ cl) (hy : (y, a) ∈ cl) : x = y := by
  induction cl with
  | nil => cases hx
  | cons p cl ih =>
    have hp := List.pairwise_cons.mp h
    rcases List.mem_cons.mp hx with e1 | e1 <;> rcases List.mem_cons.mp hy with e2 | e2
    · rw [← e1] at e2; exact (Prod.mk.inj e2).1.symm
    · exact absurd (by rw [← e1]) (hp.1 _ e2)
    · exact absurd (by rw [← e2]) (hp.1 _ e1)
    · exact ih hp.2 e1 e2
theorem cells_of_kind {x : Str} : ∀ (names : List (Str × NameKind)) (n : Nat) (acc : List (Str × Addr)), names.lookup x = some .cell → ((cellsFrom n names acc).lookup x).isSome = true := fun names n acc h => cellsFrom_some names n acc (.inl h)

section
variable {g : Gx} {A : Around} {cs : Cs}
theorem Room.deeper {n : Nat} (h : Room A (n + 1)) (env : Env) : Room (A.deeper env) n := ⟨h.1, by have := h.2.1; show A.depth + 1 + n < _; omega, by have := h.2.2; show A.units + 3 + 8 * n + 8 < _; omega⟩
theorem RF.in1 {c : Ctx} {h : Heap} (R : RF g A c cs h) : RF g A.in1 c cs h := ⟨R.below, R.F, R.X, R.top, R.N, R.co, R.nd, R.ap, R.ap2, R.fx⟩
theorem RF.of_in1 {c : Ctx} {h : Heap} (R : RF g A.in1 c cs h) : RF g A c cs h := ⟨R.below, R.F, R.X, R.top, R.N, R.co, R.nd, R.ap, R.ap2, R.fx⟩

/-- the ground of a callee: what the caller may not see changed, the frames apart -/
theorem RF.ground {c : Ctx} {h₁ : Heap} (R : RF g A c cs h₁) : ∃ (G : Heap) (co : List (Addr × Obj)) (oL : Obj) (fenv : Env) (outer : List Env),
    A.frames = some (fenv :: outer) ∧ TI.Frs (fenv :: outer) ((c.L, oL) :: c.frs) ∧ c.h₀.StaysIn G ∧ G.StaysIn h₁ ∧ G.objs.size = h₁.objs.size ∧ h₁.get? c.L = some oL ∧ (∀ (h : Heap) sl, h.get? c.L = some { oL with slots := sl } → h.Ns c.L c.mF) ∧
    G.get? c.L = none ∧ (∀ q ∈ c.frs, G.get? q.1 = none) ∧ (∀ p ∈ c.fz, G.get? p.1 = none) ∧ (∀ p ∈ co, G.get? p.1 = none) ∧ (∀ p ∈ c.pc, G.get? p.1 = some p.2) ∧
    (∀ p ∈ cs, ∃ o, (p.1, o) ∈ co ∧ CR g.P c.fz p.1 p.2 o) ∧ News c.h₀ c.L h₁ co := by
  obtain ⟨co, eco, NO, ko⟩ := objs_of R.co
  obtain ⟨fenv, outer, hA, hf, hke, hFr⟩ := R.below
  obtain ⟨oL, es, ep, hL, hLd, hLr⟩ := R.F.ns
  generalize hks : ((c.fz ++ co ++ c.frs).map (·.1) ++ [c.L] : List Addr) = ks
  have gup : ∀ b o, (hideAll h₁ ks).get? b = some o → h₁.get? b = some o := fun b o e => of_hideAll _ e
  have gsub : ∀ b o, h₁.get? b = some o → b ∉ ks → (hideAll h₁ ks).get? b = some o := fun b o e nb => hideAll_get _ e nb
  have gnone : ∀ b ∈ ks, (hideAll h₁ ks).get? b = none := fun b hb => hideAll_none _ hb
  have inks : ∀ b, b ∈ ks ↔ ((∃ p ∈ c.fz, p.1 = b) ∨ (∃ p ∈ co, p.1 = b) ∨ (∃ p ∈ c.frs, p.1 = b) ∨ b = c.L) := fun b => by
    rw [← hks]
    simp only [List.mem_append, List.mem_map, List.mem_singleton]
    constructor
    · rintro (⟨p, (hp | hp) | hp, rfl⟩ | rfl)
      · exact .inl ⟨p, hp, rfl⟩
      · exact .inr (.inl ⟨p, hp, rfl⟩)
      · exact .inr (.inr (.inl ⟨p, hp, rfl⟩))
      · exact .inr (.inr (.inr rfl))
    · rintro (⟨p, hp, rfl⟩ | ⟨p, hp, rfl⟩ | ⟨p, hp, rfl⟩ | rfl)
      · exact .inl ⟨p, .inl (.inl hp), rfl⟩
      · exact .inl ⟨p, .inl (.inr hp), rfl⟩
      · exact .inl ⟨p, .inr hp, rfl⟩
      · exact .inr rfl
  refine ⟨hideAll h₁ ks, co, oL, fenv, outer, hA, ⟨by rw [hke]; decide, hf, ⟨_, _, hLd⟩, hFr⟩, fun b o e => gsub b o (R.F.keep b o e) fun hb => ?_, gup, hideAll_size _ _, hL, fun h sl e => ⟨_, es, ep, e, hLd, hLr⟩, gnone _ ((inks _).mpr (.inr (.inr (.inr rfl)))),
    fun q hq => gnone _ ((inks _).mpr (.inr (.inr (.inl ⟨q, hq, rfl⟩)))), fun q hq => gnone _ ((inks _).mpr (.inl ⟨q, hq, rfl⟩)), fun q hq => gnone _ ((inks _).mpr (.inr (.inl ⟨q, hq, rfl⟩))), fun p hp => gsub _ _ (R.N p (List.mem_append_right _ hp)).1 fun hb => ?_, ko, NO⟩
  · rcases (inks _).mp hb with ⟨p, hp, rfl⟩ | ⟨p, hp, rfl⟩ | ⟨p, hp, rfl⟩ | rfl
    · have := (R.N p (List.mem_append_left _ hp)).2.2; rw [e] at this; cases this
    · have := (NO p hp).2.2; rw [e] at this; cases this
    · obtain ⟨_, _, _, n⟩ := R.fx.get hp; rw [e] at n; cases n
    · exact absurd (Nat.lt_of_lt_of_le (Heap.lt_size e) R.F.above) (Nat.lt_irrefl _)
  · rcases (inks _).mp hb with ⟨q, hq, e⟩ | ⟨q, hq, e⟩ | ⟨q, hq, e⟩ | e
    · exact R.ap2 p hp q hq e.symm
    · have : q.1 ∈ cs.map (·.1) := by rw [← eco]; exact List.mem_map_of_mem hq
      obtain ⟨r, hr', e2⟩ := List.mem_map.mp this
      exact R.ap r hr' p (List.mem_append_right _ hp) (e2.trans e)
    · exact R.fx.ap4 p (List.mem_append_right _ hp) q hq e.symm
    · exact (R.N p (List.mem_append_right _ hp)).2.1 e

/-- back from a callee -/
theorem RF.back' {g' : Gx} {A' : Around} {c c' : Ctx} {cs cs' : Cs} {h₁ h' G : Heap} {oL : Obj} (R : RF g A c cs h₁) (R₂ : RF g' A' c' cs' h') (ew : g'.w = g.w) (H₂ : c'.h₀ = G) (st : c.h₀.StaysIn G) (hns : ∀ (h : Heap) sl, h.get? c.L = some { oL with slots := sl } → h.Ns c.L c.mF)
    (gL : G.get? c.L = none) (gF : ∀ q ∈ c.frs, G.get? q.1 = none) (pcG : ∀ p ∈ c.pc, G.get? p.1 = some p.2) (efr : c'.frs = (c.L, oL) :: c.frs) (mm : ∀ p ∈ c.fz, p ∈ c'.fz) : RF g A (c.with c'.fz) cs' h' := by
  have gN : ∀ p ∈ c'.fz ++ c'.pc, G.get? p.1 = none := fun p hp => by have := (R₂.N p hp).2.2; rw [H₂] at this; exact this
  have gC : ∀ p ∈ cs', G.get? p.1 = none := fun p hp => by
    obtain ⟨o, _, n⟩ := R₂.co p hp
    have := (n _ (.head _)).2.2; rw [H₂] at this; exact this
  have keepG : ∀ b o, G.get? b = some o → h'.get? b = some o := fun b o e => R₂.F.keep b o (by rw [H₂]; exact e)
  have notIn : ∀ b o, G.get? b = some o → ∀ a, G.get? a = none → a ≠ b := fun b o e a n q => by rw [q, e] at n; cases n
  have st0 : ∀ a, G.get? a = none → c.h₀.get? a = none := fun a n => by
    cases q : c.h₀.get? a with
    | none => rfl
    | some o => have := st _ _ q; rw [n] at this; cases this
  obtain ⟨slL, hL', _, _⟩ := R₂.fx.get (q := (c.L, oL)) (by rw [efr]; exact .head _)
  have neL4 : ∀ p ∈ c'.fz, p.1 ≠ c.L := fun p hp => R₂.fx.ap4 p (List.mem_append_left _ hp) (c.L, oL) (by rw [efr]; exact .head _)
  have neL3 : ∀ p ∈ cs', p.1 ≠ c.L := fun p hp => R₂.fx.ap3 p hp (c.L, oL) (by rw [efr]; exact .head _)
  refine ⟨R.below, ⟨hns _ _ hL', fun b o e => keepG b o (st b o e), R.F.above⟩, R.X, R.top, fun p hp => ?_, fun p hp => ?_, R₂.nd, fun p hp q hq => ?_, fun p hp q hq => ?_, ?_⟩
  · rcases List.mem_append.mp hp with hp | hp
    · exact ⟨(R₂.N p (List.mem_append_left _ hp)).1, neL4 p hp, st0 _ (gN p (List.mem_append_left _ hp))⟩
    · exact ⟨keepG _ _ (pcG p hp), (R.N p (List.mem_append_right _ hp)).2⟩
  · obtain ⟨o, cr, nn⟩ := R₂.co p hp
    refine ⟨o, by rw [Gx.P, ← ew]; exact cr, fun q hq => ?_⟩
    rw [List.mem_singleton.mp hq]
    exact ⟨(nn _ (.head _)).1, neL3 p hp, st0 _ (gC p hp)⟩
  · rcases List.mem_append.mp hq with hq | hq
    · exact R₂.ap p hp q (List.mem_append_left _ hq)
    · exact notIn _ _ (pcG q hq) _ (gC p hp)
  · exact Ne.symm (notIn _ _ (pcG p hp) _ (gN q (List.mem_append_left _ hq)))
  · refine ⟨fun p hp => ?_, fun p hp => mm p (R.fx.exF p hp), fun p hp => ?_, fun p hp q hq => R₂.fx.ap3 p hp q (by rw [efr]; exact .tail _ hq), fun p hp q hq => ?_⟩
    · obtain ⟨sl, hs, _, _⟩ := R₂.fx.get (q := p) (by rw [efr]; exact .tail _ hp)
      obtain ⟨_, _, n1, n2⟩ := R.fx.get hp
      exact ⟨sl, fun q hq => by rw [List.mem_singleton.mp hq]; exact ⟨hs, n1, n2⟩⟩
    · obtain ⟨o, v, a, b, r⟩ := R.fx.exC p hp
      exact ⟨o, v, a, b, r.mono mm⟩
    · rcases List.mem_append.mp hp with hp | hp
      · exact R₂.fx.ap4 p (List.mem_append_left _ hp) q (by rw [efr]; exact .tail _ hq)
      · exact R.fx.ap4 p (List.mem_append_right _ hp) q hq

/-- a def of the top, called -/
theorem code_fn0 {name qual : Str} {params : Arguments} {body : List Stmt} {scope : Scope} {dV kV doc pm cdv ct oc : Value} {an od : Option Addr} {osl : Array (Option Value)} {f : Addr} {ts : List T} {kw bs : List (Str × T)} {n : Nat} {c : Ctx} {s : Shared} {vs kvs : List Value} {R' : Result → Shared → Prop}
    (hr : Room A (n + 1)) (ho : (kk g.w.params).lookup f = some ⟨oc, od, .func (fnOf name qual params body scope dV kV doc pm an cdv ct), osl⟩) (hcd : codeIn (kk g.w.params) cdv qual = true)
    (hb : BindP g A.in1 (fnOf name qual params body scope dV kV doc pm an cdv ct) ts kw cs bs) (hkind : (bs.all fun y => scope.names.lookup y.1 == some .local || scope.names.lookup y.1 == some .cell) = true) (hbn : (bs.map (·.1)).Nodup)
    (hnd : ((cellsFrom 0 scope.names []).map (·.1)).Nodup)
    (hco : scope.isCoroutine = false) (hgen : scope.isGenerator = false) (hk : scope.kind = .function)
    (R : RF g A c cs s.heap) (rv : VRs g.P c.fz ts vs) (rk : VRs g.P c.fz (kw.map (·.2)) kvs)
    (H : ∀ (L : Addr) (E' : Env) (cc : Ctx) (h₂ : Heap) (tk₂ : Nat), E' = envX qual scope L f cdv (cellsFrom (L + 1) scope.names []) → cc.L = L → (∀ p ∈ c.fz, p ∈ cc.fz) → (∀ p ∈ c.pc, cc.h₀.get? p.1 = some p.2) → c.h₀.StaysIn cc.h₀ → SV g E' cc bs → RF g (A.deeper E') cc cs h₂ →
      (∀ (g' : Gx) c' cs' h', g'.w = g.w → Le cc c' → RF g' (A.deeper E') c' cs' h' → RF g A (c.with c'.fz) cs' h' ∧ c'.L ≠ c.L ∧ (∀ p ∈ c.fz ++ c.pc, c'.L ≠ p.1) ∧ c'.frs = cc.frs) → (∃ oL, cc.frs = (c.L, oL) :: c.frs) →
      wpAny g.M (A.deeper E') (execs body E') (fun f s' => R' (.ok (.ret (match f with | .ret v => v | _ => .none))) s') (fun e s' => wpAny g.M (A.deeper E') (leaving E' e) (fun _ s'' => R' (.error e) s'') (fun e' s'' => R' (.error e') s'') s') { s with heap := h₂, toks := tk₂ }) :
    codeAny g.M A (.call (.ref f) ⟨vs, (kw.map (·.1)).zip kvs⟩) R' s := by
  have hX : (kk g.w.params).In s.heap := fun a o e => R.F.keep _ _ (R.X a o e)
  refine codeAny_call_function (by have := hr.2.1; omega) (hX _ _ ho) rfl hco hgen rfl (codeRec_of hX hcd) (hb c s _ _ vs kvs R.in1 rv rk fun fz₁ vals h₁ tk₁ m₁ R₁ rvals => ?_)
  replace R₁ := R₁.of_in1
  refine wpAny_newFunctionEnv_cells hk ?_ fun env' he s' x => ?_
  · intro y hy
    have hy1 := (List.of_mem_zip hy).1
    obtain ⟨b, hb1, e⟩ := List.mem_map.mp hy1
    have := List.all_eq_true.mp hkind b hb1
    rw [e] at this
    rcases Bool.or_eq_true_iff.mp this with q | q
    · exact .inl (by simpa using q)
    · have q' : scope.names.lookup y.1 = some .cell := by simpa using q
      exact .inr ⟨q', cells_of_kind _ _ _ q'⟩
  subst he
  obtain ⟨h₂, tk₂, rfl, _⟩ := x.done
  have hk₁ := x.toInCall.keep
  dsimp only at hk₁
  refine ⟨(R₁.top.nolimit.keeps R₁.F.keep).keeps hk₁, codeAny_func ?_⟩
  obtain ⟨cells, NC, Y⟩ := Cl.news (h₀ := h₁) (Nat.le_refl _) fun nm cc hm => ⟨x.cell nm cc (lookup_of_mem_nodup (cellsFrom_names scope.names 0 (h₁.objs.size + 1) [] [] rfl ▸ hnd) hm), x.above nm cc hm⟩
  obtain ⟨G, co, oL, fenv, outer, hA, hFrs, st, gup, gsz, hoL, hns, gL, gF, gfz, gco, pcG, ko, NO⟩ := R₁.ground
  generalize hEnv : envX qual scope h₁.objs.size f cdv (cellsFrom (h₁.objs.size + 1) scope.names []) = E'
  have ecells : E'.cells = cellsFrom (h₁.objs.size + 1) scope.names [] := by rw [← hEnv]
  have ekind : ∀ y, E'.kindOf y = scope.names.lookup y := fun y => by rw [← hEnv]; rfl
  have eloc : E'.locals = h₁.objs.size := by rw [← hEnv]
  let cc : Ctx := ⟨G, h₁.objs.size, bindL (fun y => scope.names.lookup y) ((bs.map (·.1)).zip vals) fun _ => none, fz₁, cells, (c.L, oL) :: c.frs⟩
  have Fc : Fr G h₁.objs.size h₂ cc.mF := ⟨x.toInCall.ns, fun b o e => hk₁ b o (gup b o e), by rw [gsz]; exact Nat.le_refl _⟩
  have ncell : ∀ p ∈ cells, h₁.objs.size < p.1 := fun p hp => by
    have := cellsAre_keys Y
    have hm : p.1 ∈ cells.map (·.1) := List.mem_map_of_mem hp
    rw [this] at hm
    obtain ⟨q, hq, e⟩ := List.mem_map.mp hm
    have := x.above q.1 q.2 hq
    rw [e] at this
    exact this
  have frlt : ∀ q ∈ (c.L, oL) :: c.frs, q.1 < h₁.objs.size := fun q hq => by
    rcases List.mem_cons.mp hq with rfl | hq
    · exact Heap.lt_size hoL
    · exact R₁.fx.lt hq
  have Rc : RF g (A.deeper E') cc cs h₂ := by
    refine ⟨⟨E', fenv :: outer, by show A.frames.map (E' :: ·) = _; rw [hA]; rfl, by rw [← hEnv], by rw [← hEnv]; exact hk, hFrs⟩, Fc, R₁.X.keeps st, R₁.top.keeps st, fun p hp => ?_, fun p hp => ?_, R₁.nd, fun p hp q hq => ?_, fun p hp q hq => ?_, ?_⟩
    · rcases List.mem_append.mp hp with hp | hp
      · have z := R₁.N p (List.mem_append_left _ hp)
        exact ⟨hk₁ _ _ z.1, Nat.ne_of_lt (Heap.lt_size z.1), gfz p hp⟩
      · have z := NC p hp
        refine ⟨z.1, z.2.1, ?_⟩
        cases q : G.get? p.1 with
        | none => rfl
        | some o => have := gup _ _ q; rw [z.2.2] at this; cases this
    · obtain ⟨o, hm, cr⟩ := ko p hp
      have z := NO _ hm
      exact ⟨o, cr, fun q hq => by rw [List.mem_singleton.mp hq]; exact ⟨hk₁ _ _ z.1, Nat.ne_of_lt (Heap.lt_size z.1), gco _ hm⟩⟩
    · rcases List.mem_append.mp hq with hq | hq
      · exact R₁.ap p hp q (List.mem_append_left _ hq)
      · exact Nat.ne_of_lt (Nat.lt_trans (R₁.ltC p hp) (ncell q hq))
    · exact Nat.ne_of_gt (Nat.lt_trans (R₁.lt q (List.mem_append_left _ hq)) (ncell p hp))
    · refine ⟨fun p hp => ?_, R₁.fx.exF, fun p hp => ?_, fun p hp q hq => ?_, fun p hp q hq => ?_⟩
      · rcases List.mem_cons.mp hp with rfl | hp
        · exact ⟨oL.slots, fun q hq => by rw [List.mem_singleton.mp hq]; exact ⟨hk₁ _ _ hoL, Nat.ne_of_lt (Heap.lt_size hoL), gL⟩⟩
        · obtain ⟨sl, z, _, _⟩ := R₁.fx.get hp
          exact ⟨sl, fun q hq => by rw [List.mem_singleton.mp hq]; exact ⟨hk₁ _ _ z, Nat.ne_of_lt (Heap.lt_size z), gF p hp⟩⟩
      · obtain ⟨o, v, a, b, r⟩ := R₁.fx.exC p hp
        exact ⟨o, v, st _ _ a, b, r⟩
      · rcases List.mem_cons.mp hq with rfl | hq
        · obtain ⟨o, _, n⟩ := R₁.co p hp
          exact (n _ (.head _)).2.1
        · exact R₁.fx.ap3 p hp q hq
      · rcases List.mem_append.mp hp with hp | hp
        · rcases List.mem_cons.mp hq with rfl | hq
          · exact (R₁.N p (List.mem_append_left _ hp)).2.1
          · exact R₁.fx.ap4 p (List.mem_append_left _ hp) q hq
        · exact Nat.ne_of_gt (Nat.lt_trans (frlt q hq) (ncell p hp))
  have Sc : SV g E' cc bs := by
    refine ⟨fun y t hy => ?_, eloc, by rw [← hEnv]; exact hk, fun y hy => ?_, ?_, fun y z a hy hz => ?_⟩
    · obtain ⟨v, e1, r1⟩ := zip_lookup hbn rvals hy
      refine ⟨v, r1, ?_⟩
      have hm : (y, t) ∈ bs := by
        have : ∀ (l : Vars), l.lookup y = some t → (y, t) ∈ l := by
          intro l
          induction l with
          | nil => intro h; cases h
          | cons p l ih =>
            intro h
            rw [List.lookup_cons] at h
            split at h
            · rename_i e; cases h; have e' : y = p.1 := by simpa using e
              subst e'; exact .head _
            · exact .tail _ (ih h)
        exact this bs hy
      have := List.all_eq_true.mp hkind _ hm
      rcases Bool.or_eq_true_iff.mp this with q | q
      · have q' : scope.names.lookup y = some .local := by simpa using q
        refine .inl ⟨by rw [ekind]; exact q', eloc, ?_⟩
        show bindL _ _ _ y = _
        rw [bindL_at _ _ q', e1]; rfl
      · have q' : scope.names.lookup y = some .cell := by simpa using q
        obtain ⟨a, ha⟩ := Option.isSome_iff_exists.mp (cells_of_kind scope.names (h₁.objs.size + 1) [] q')
        obtain ⟨o, hm, hd⟩ := cellsAre_get Y ha
        refine .inr (.inr ⟨.inl (by rw [ekind]; exact q'), a, o, by rw [ecells]; exact ha, .inl hm, ?_⟩)
        rw [hd]
        show Data.cell (bindC (fun y => scope.names.lookup y) _ _ y) = _
        rw [bindC_at _ _ q', e1]; rfl
    · rw [ekind] at hy
      obtain ⟨a, ha⟩ := Option.isSome_iff_exists.mp (cells_of_kind scope.names (h₁.objs.size + 1) [] hy)
      obtain ⟨o, hm, hd⟩ := cellsAre_get Y ha
      exact ⟨a, o, _, by rw [ecells]; exact ha, hm, hd⟩
    · show (cells.map (·.1)).Nodup
      rw [cellsAre_keys Y]
      have := x.apart
      exact List.pairwise_map.mpr this
    · rw [ecells] at hy hz
      exact pair_inj x.apart (lookup_snd hy) (lookup_snd hz)
  have e0 : newEnv (fnOf name qual params body scope dV kV doc pm an cdv ct).scope h₁.objs.size (fnOf name qual params body scope dV kV doc pm an cdv ct).globals (cellsFrom (h₁.objs.size + 1) (fnOf name qual params body scope dV kV doc pm an cdv ct).scope.names []) ((fnOf name qual params body scope dV kV doc pm an cdv ct).qualname ++ ".<locals>.") (some f) (fnOf name qual params body scope dV kV doc pm an cdv ct).code none (fnOf name qual params body scope dV kV doc pm an cdv ct).builtins = E' := by rw [← hEnv]; rfl
  rw [e0]
  refine H h₁.objs.size E' cc h₂ tk₂ hEnv.symm rfl m₁ pcG st Sc Rc (fun g' c' cs' h' ew l R₂ => ?_) ⟨oL, rfl⟩
  have mm : ∀ p ∈ c.fz, p ∈ c'.fz := fun p hp => l.fz p (m₁ p hp)
  have fin : RF g A (c.with c'.fz) cs' h' := RF.back' (c := c.with fz₁) R₁ R₂ ew l.h₀ st hns gL gF pcG l.frs l.fz
  refine ⟨fin, ?_, fun p hp => ?_, l.frs⟩
  · rw [l.L]; exact Nat.ne_of_gt (Heap.lt_size hoL)
  · rw [l.L]
    exact Nat.ne_of_gt (R₁.lt p ((List.mem_append.mp hp).elim (fun z => List.mem_append_left _ (m₁ p z)) fun z => List.mem_append_right _ z))

theorem code_fn {name qual : Str} {params : Arguments} {body : List Stmt} {scope : Scope} {dV kV doc pm cdv ct oc : Value} {an od : Option Addr} {osl : Array (Option Value)} {f : Addr} {ts : List T} {kw bs : List (Str × T)} {P : T → Cs → Prop} {n : Nat} {c : Ctx} {s : Shared} {vs kvs : List Value} {R' : Result → Shared → Prop}
    (hr : Room A (n + 1)) (ho : (kk g.w.params).lookup f = some ⟨oc, od, .func (fnOf name qual params body scope dV kV doc pm an cdv ct), osl⟩) (hcd : codeIn (kk g.w.params) cdv qual = true)
    (hb : BindP g A.in1 (fnOf name qual params body scope dV kV doc pm an cdv ct) ts kw cs bs) (hkind : (bs.all fun y => scope.names.lookup y.1 == some .local || scope.names.lookup y.1 == some .cell) = true) (hbn : (bs.map (·.1)).Nodup)
    (hnd : ((cellsFrom 0 scope.names []).map (·.1)).Nodup)
    (H : ∀ L, Ex g (A.deeper (envX qual scope L f cdv (cellsFrom (L + 1) scope.names []))) (envX qual scope L f cdv (cellsFrom (L + 1) scope.names [])) body bs cs (fun fl _ cs' => P (retT fl) cs') noX)
    (hco : scope.isCoroutine = false) (hgen : scope.isGenerator = false) (hk : scope.kind = .function)
    (R : RF g A c cs s.heap) (rv : VRs g.P c.fz ts vs) (rk : VRs g.P c.fz (kw.map (·.2)) kvs)
    (k : ∀ fz' r v cs' h' tk', (∀ p ∈ c.fz, p ∈ fz') → P r cs' → VR g.P fz' r v → RF g A (c.with fz') cs' h' → R' (.ok (.ret v)) { s with heap := h', toks := tk' }) :
    codeAny g.M A (.call (.ref f) ⟨vs, (kw.map (·.1)).zip kvs⟩) R' s := by
  refine code_fn0 hr ho hcd hb hkind hbn hnd hco hgen hk R rv rk fun L E' cc h₂ tk₂ eE eL mz pcG st Sc Rc back _ => ?_
  subst eE
  have fin : wpAny g.M (A.deeper (envX qual scope L f cdv (cellsFrom (L + 1) scope.names []))) (execs body (envX qual scope L f cdv (cellsFrom (L + 1) scope.names []))) (fun f s' => R' (.ok (.ret (match f with | .ret v => v | _ => .none))) s') (fun _ _ => False) { s with heap := h₂, toks := tk₂ } := by
    refine H L cc _ _ _ Sc Rc PassesOwn.never (fun c' fl fw vars' cs' h' tk' l p fr S' R₂ => ?_) fun e c' cs' h' tk' l xx => xx.elim
    have RR := (back g c' cs' h' rfl l R₂).1
    have mm : ∀ p ∈ c.fz, p ∈ c'.fz := fun p hp => l.fz p (mz p hp)
    cases fr with
    | next => exact k c'.fz _ _ cs' h' tk' mm p .none RR
    | brk => exact k c'.fz _ _ cs' h' tk' mm p .none RR
    | cont => exact k c'.fz _ _ cs' h' tk' mm p .none RR
    | ret r => exact k c'.fz _ _ cs' h' tk' mm p r RR
  exact wpAny_mono fin (fun _ _ z => z) fun _ _ z => z.elim
end
end Mine
end

noncomputable section
open PySem PySem.W PyProof.Rows PySem.Calls
set_option Elab.async false
set_option linter.unusedVariables false
namespace Mine

section
variable {g : Gx} {A : Around} {c : Ctx} {cs : Cs} {h : Heap} {a : Addr} {k : C}
/-- a changing thing put by, as it is -/
theorem RF.putBy (R : RF g A c ((a, k) :: cs) h) : ∃ o, CR g.P c.fz a k o ∧ RF g A { c with pc := (a, o) :: c.pc } cs h := by
  obtain ⟨o, cr, n⟩ := R.co _ (.head _)
  have nd := List.nodup_cons.mp R.nd
  refine ⟨o, cr, R.below, R.F, R.X, R.top, fun p hp => ?_, fun p hp => R.co p (.tail _ hp), nd.2, fun p hp q hq => ?_, fun p hp q hq => ?_, R.fx.gen (c' := { c with pc := (a, o) :: c.pc }) (fun b ob _ e => e) (fun p hp => R.fx.ap3 p (.tail _ hp)) (fun p hp q hq => ?_) fun _ h => h⟩
  · rcases List.mem_append.mp hp with hp | hp
    · exact R.N p (List.mem_append_left _ hp)
    · rcases List.mem_cons.mp hp with rfl | hp
      · exact n _ (.head _)
      · exact R.N p (List.mem_append_right _ hp)
  · rcases List.mem_append.mp hq with hq | hq
    · exact R.ap p (.tail _ hp) q (List.mem_append_left _ hq)
    · rcases List.mem_cons.mp hq with rfl | hq
      · exact fun e => nd.1 (List.mem_map.mpr ⟨p, hp, e⟩)
      · exact R.ap p (.tail _ hp) q (List.mem_append_right _ hq)
  · rcases List.mem_cons.mp hp with rfl | hp
    · exact R.ap _ (.head _) q (List.mem_append_left _ hq)
    · exact R.ap2 p hp q hq
  · rcases List.mem_append.mp hp with hp | hp
    · exact R.fx.ap4 p (List.mem_append_left _ hp) q hq
    · rcases List.mem_cons.mp hp with rfl | hp
      · exact R.fx.ap3 _ (.head _) q hq
      · exact R.fx.ap4 p (List.mem_append_right _ hp) q hq
theorem RF.takeBack {o : Obj} {pc : List (Addr × Obj)} (R : RF g A { c with pc := (a, o) :: pc } cs h) (nd : a ∉ pc.map (·.1)) (cr : CR g.P c.fz a k o) : RF g A { c with pc := pc } ((a, k) :: cs) h := by
  refine ⟨R.below, R.F, R.X, R.top, fun p hp => ?_, fun p hp => ?_, ?_, fun p hp q hq => ?_, fun p hp => R.ap2 p (.tail _ hp), R.fx.gen (c' := { c with pc := pc }) (fun b ob _ e => e) (fun p hp q hq => ?_) (fun p hp => R.fx.ap4 p ((List.mem_append.mp hp).elim (fun z => List.mem_append_left _ z) fun z => List.mem_append_right _ (.tail _ z))) fun _ h => h⟩
  · rcases List.mem_append.mp hp with hp | hp
    · exact R.N p (List.mem_append_left _ hp)
    · exact R.N p (List.mem_append_right _ (.tail _ hp))
  · rcases List.mem_cons.mp hp with rfl | hp
    · exact ⟨o, cr, fun q hq => by rw [List.mem_singleton.mp hq]; exact R.N (a, o) (List.mem_append_right _ (.head _))⟩
    · exact R.co p hp
  · refine List.nodup_cons.mpr ⟨fun z => ?_, R.nd⟩
    obtain ⟨p, hp, e⟩ := List.mem_map.mp z
    exact R.ap p hp (a, o) (List.mem_append_right _ (.head _)) e
  · rcases List.mem_cons.mp hp with rfl | hp
    · rcases List.mem_append.mp hq with hq | hq
      · exact R.ap2 (a, o) (.head _) q hq
      · exact fun e => nd (List.mem_map.mpr ⟨q, hq, e.symm⟩)
    · rcases List.mem_append.mp hq with hq | hq
      · exact R.ap p hp q (List.mem_append_left _ hq)
      · exact R.ap p hp q (List.mem_append_right _ (.tail _ hq))
  · rcases List.mem_cons.mp hp with rfl | hp
    · exact R.fx.ap4 (a, o) (List.mem_append_right _ (.head _)) q hq
    · exact R.fx.ap3 p hp q hq
theorem CR.noCell {P : Params} {fz : List (Addr × Obj)} {o : Obj} : CR P fz a k o → (∀ ob, k ≠ .raw ob) → ∀ v, o.data ≠ .cell v
  | .list n h, _, v => by simp
  | .dict n _ h, _, v => by simp
  | .inst a d, _, v => by simp
  | .node h d, _, v => by simp
  | .set hc h, _, v => hc v
  | .iter i h, _, v => by simp
  | .ended i, _, v => by simp
  | .raw o, hk, v => absurd rfl (hk o)
end

section
variable {g : Gx} {A : Around} {env : Env} {vars : Vars} {cs : Cs} {a : Addr} {k : C}
theorem VarsOK.pushPc {c : Ctx} {p : Addr × Obj} (V : VarsOK g env c vars) : VarsOK g env { c with pc := p :: c.pc } vars := fun x t h => let ⟨v, a, b⟩ := V x t h; ⟨v, a, b.pcMono⟩
/-- a cell that an expression does not touch -/
theorem Ev.frame {e : Expr} {P : T → Cs → Prop} (H : Ev g A env vars e cs fun t cs' => P t ((a, k) :: cs')) : Ev g A env vars e ((a, k) :: cs) P := by
  rintro c s Q E _ ⟨V, rfl⟩ R kk
  have nd : a ∉ c.pc.map (·.1) := fun z => by
    obtain ⟨p, hp, e⟩ := List.mem_map.mp z
    exact R.ap _ (.head _) p (List.mem_append_right _ hp) e.symm
  obtain ⟨o, cr, R'⟩ := R.putBy
  exact H.use V.pushPc R' fun fz' t v cs' h' tk' m p r R'' => kk fz' t v _ h' tk' m p r (RF.takeBack (c := c.with fz') (pc := c.pc) R'' nd (cr.mono m))
theorem StT.frame {tree : Sem Flow} {P : Fl → Vars → Cs → Prop} {X : XP} (hk : ∀ ob, k ≠ .raw ob) (H : StT g A env tree vars cs (fun fl v cs' => P fl v ((a, k) :: cs')) noX) : StT g A env tree vars ((a, k) :: cs) P X := by
  intro c s Q E S R hE q ee
  have nd : a ∉ c.pc.map (·.1) := fun z => by
    obtain ⟨p, hp, e⟩ := List.mem_map.mp z
    exact R.ap _ (.head _) p (List.mem_append_right _ hp) e.symm
  obtain ⟨o, cr, R'⟩ := R.putBy
  have hc := cr.noCell hk
  have hL : a ≠ c.L := (R'.N (a, o) (List.mem_append_right _ (.head _))).2.1
  refine H { c with pc := (a, o) :: c.pc } s Q E (S.pushPc nd) R' hE (fun c' fl f vars' cs' h' tk' l p fr S' R'' => ?_) fun e c' cs' h' tk' l x => x.elim
  obtain ⟨pc', e', l'⟩ := l.split hc S'.nd
  have RR : RF g A { c' with pc := (a, o) :: pc' } cs' h' := by rw [← e']; exact R''
  have SS : SV g env { c' with pc := (a, o) :: pc' } vars' := by rw [← e']; exact S'
  exact q { c' with pc := pc' } fl f vars' _ h' tk' l' p fr (SS.dropPc hc (by rw [show c'.L = c.L from l.L]; exact hL)) (RR.takeBack (List.nodup_cons.mp SS.nd).1 (cr.mono l.fz))
theorem Ts.frame {e : Expr} {P : Bool → Cs → Prop} (H : Ts g A env vars e cs fun t cs' => P t ((a, k) :: cs')) : Ts g A env vars e ((a, k) :: cs) P := by
  intro c s Q E V R kk
  have nd : a ∉ c.pc.map (·.1) := fun z => by
    obtain ⟨p, hp, e⟩ := List.mem_map.mp z
    exact R.ap _ (.head _) p (List.mem_append_right _ hp) e.symm
  obtain ⟨o, cr, R'⟩ := R.putBy
  exact H _ s Q E V.pushPc R' fun fz' b cs' h' tk' m p R'' => kk fz' b _ h' tk' m p (RF.takeBack (c := c.with fz') (pc := c.pc) R'' nd (cr.mono m))
theorem Ev.perm {e : Expr} {cs' : Cs} {P : T → Cs → Prop} (p : cs'.Perm cs) (H : Ev g A env vars e cs' P) : Ev g A env vars e cs P := fun c s Q E t ht R kk => H c s Q E t ht (R.perm p) kk
theorem Ts.perm {e : Expr} {cs' : Cs} {P : Bool → Cs → Prop} (p : cs'.Perm cs) (H : Ts g A env vars e cs' P) : Ts g A env vars e cs P := fun c s Q E V R kk => H c s Q E V (R.perm p) kk
/-- a loop over a list that may change, but does not while it is gone over -/
theorem Ex1.forC {target iter : Expr} {body orelse : List Stmt} {pos : Pos} {P : Fl → Vars → Cs → Prop} {X : XP} (hh : A.handled = none) (H : Ev g A env vars iter cs fun t cs' => ∃ b us cs'', t = .cel b ∧ cs'.Perm ((b, .list us) :: cs'') ∧ ForP g A env target body orelse (fun fl v c => P fl v ((b, .list us) :: c)) noX us vars cs'') (hs : ∀ x, foldedSetIterable iter env x = pure x := by intro _; rfl) :
    Ex1 g A env (.For target iter body orelse pos) vars cs P X := by
  intro c s Q E S R hE q ee
  refine wpAny_For (H.use S.ok R fun fz₁ t v cs₀ h₀ tk₁ m₁ hI r R₀ => ?_) hs
  obtain ⟨b, us, cs₁, rfl, pm, fp⟩ := hI
  cases r
  have R₁ := R₀.perm pm.symm
  have nd : b ∉ c.pc.map (·.1) := fun z => by
    obtain ⟨p, hp, e⟩ := List.mem_map.mp z
    exact R₁.ap _ (.head _) p (List.mem_append_right _ hp) e.symm
  obtain ⟨o, cr, R'⟩ := R₁.putBy
  have hc := cr.noCell (by simp)
  have hL : b ≠ c.L := (R'.N (b, o) (List.mem_append_right _ (.head _))).2.1
  cases cr with
  | list n rs =>
  rename_i vs
  refine for_rest (s := { s with heap := h₀, toks := tk₁ }) (c := { (c.with fz₁) with pc := (b, listOf vs.toArray n) :: c.pc }) (SV.pushPc (c := c.with fz₁) (S.mono m₁) nd) (itb_list hh R' (.inr (.head _)) rs) fp hE (fun c' fl f vars' cs' h' tk' l p fr S' R'' => ?_) fun e c' cs' h' tk' l x => x.elim
  obtain ⟨pc', e', l'⟩ := l.split (c := c.with fz₁) hc S'.nd
  have RR : RF g A { c' with pc := (b, listOf vs.toArray n) :: pc' } cs' h' := by rw [← e']; exact R''
  have SS : SV g env { c' with pc := (b, listOf vs.toArray n) :: pc' } vars' := by rw [← e']; exact S'
  exact q { c' with pc := pc' } fl f vars' _ h' tk' ((Le.with m₁).trans l') p fr (SS.dropPc hc (by rw [show c'.L = c.L from l.L]; exact hL)) (RR.takeBack (List.nodup_cons.mp SS.nd).1 (.list n (rs.mono l.fz)))
/-- a loop over a list of either kind, whose body touches no changing thing -/
theorem Ex1.forL {target iter : Expr} {body orelse : List Stmt} {pos : Pos} {P : Fl → Vars → Cs → Prop} {X : XP} (hh : A.handled = none) (H : Ev g A env vars iter cs fun t cs' => ∃ us, IsL cs' t us ∧ ∀ cs'', ForP g A env target body orelse (fun fl v c => c = cs'' ∧ P fl v cs') noX us vars cs'') (hs : ∀ x, foldedSetIterable iter env x = pure x := by intro _; rfl) :
    Ex1 g A env (.For target iter body orelse pos) vars cs P X := by
  intro c s Q E S R hE q ee
  refine wpAny_For (H.use S.ok R fun fz₁ t v cs₀ h₀ tk₁ m₁ hI r R₀ => ?_) hs
  obtain ⟨us, il, fp⟩ := hI
  cases il with
  | fz =>
    cases r with
    | list hm rs =>
    refine for_rest (s := { s with heap := h₀, toks := tk₁ }) (S.mono m₁) (itb_list hh R₀ (.inl hm) rs) (fp cs₀) hE (fun c' fl f vars' cs' h' tk' l p fr S' R'' => ?_) fun e c' cs' h' tk' l x => x.elim
    obtain ⟨rfl, p⟩ := p
    exact q c' fl f vars' _ h' tk' ((Le.with m₁).trans l) p fr S' R''
  | cel hmem =>
    rename_i b
    cases r
    obtain ⟨l1, l2, rfl⟩ := List.append_of_mem hmem
    have pm : (l1 ++ (b, C.list us) :: l2).Perm ((b, .list us) :: (l1 ++ l2)) := List.perm_middle
    have R₁ := R₀.perm pm.symm
    have nd : b ∉ c.pc.map (·.1) := fun z => by
      obtain ⟨p, hp, e⟩ := List.mem_map.mp z
      exact R₁.ap _ (.head _) p (List.mem_append_right _ hp) e.symm
    obtain ⟨o, cr, R'⟩ := R₁.putBy
    have hc := cr.noCell (by simp)
    have hL : b ≠ c.L := (R'.N (b, o) (List.mem_append_right _ (.head _))).2.1
    cases cr with
    | list n rs =>
    rename_i vs
    refine for_rest (s := { s with heap := h₀, toks := tk₁ }) (c := { (c.with fz₁) with pc := (b, listOf vs.toArray n) :: c.pc }) (SV.pushPc (c := c.with fz₁) (S.mono m₁) nd) (itb_list hh R' (.inr (.head _)) rs) (fp (l1 ++ l2)) hE (fun c' fl f vars' cs' h' tk' l p fr S' R'' => ?_) fun e c' cs' h' tk' l x => x.elim
    obtain ⟨rfl, p⟩ := p
    obtain ⟨pc', e', l'⟩ := l.split (c := c.with fz₁) hc S'.nd
    have RR : RF g A { c' with pc := (b, listOf vs.toArray n) :: pc' } (l1 ++ l2) h' := by rw [← e']; exact R''
    have SS : SV g env { c' with pc := (b, listOf vs.toArray n) :: pc' } vars' := by rw [← e']; exact S'
    exact q { c' with pc := pc' } fl f vars' _ h' tk' ((Le.with m₁).trans l') p fr (SS.dropPc hc (by rw [show c'.L = c.L from l.L]; exact hL)) ((RR.takeBack (List.nodup_cons.mp SS.nd).1 (.list n (rs.mono l.fz))).perm pm)
end
end Mine
end

noncomputable section
open PySem PySem.W PyProof.Rows PySem.Calls
set_option Elab.async false
set_option linter.unusedVariables false
namespace Mine
open LCg LCt

/-- RF apart from the heap -/
structure Bk (g : Gx) (A : Around) (c : Ctx) (cs : Cs) (co : List (Addr × Obj)) : Prop where
  below : ∃ fenv outer, A.frames = some (fenv :: outer) ∧ fenv.frame = some c.L ∧ fenv.scope.kind = .function ∧ TI.Frs outer c.frs
  X : (kk g.w.params).In c.h₀
  top : Top g.p g.loose g.mean g.mg g.mb c.h₀
  keys : co.map (·.1) = cs.map (·.1) ++ c.frs.map (·.1)
  cr : ∀ p ∈ cs, ∃ o, (p.1, o) ∈ co ∧ CR g.P c.fz p.1 p.2 o
  nd : (cs.map (·.1)).Nodup
  ap : ∀ p ∈ cs, ∀ q ∈ c.fz ++ c.pc, p.1 ≠ q.1
  ap2 : ∀ p ∈ c.pc, ∀ q ∈ c.fz, p.1 ≠ q.1
  fr : ∀ p ∈ c.frs, ∃ sl, (p.1, ({ p.2 with slots := sl } : Obj)) ∈ co
  exF : ∀ p ∈ g.fns, p ∈ c.fz
  exC : ∀ p ∈ g.cls, ∃ o v, c.h₀.get? p.1 = some o ∧ o.data = .cell (some v) ∧ VR g.P c.fz p.2 v
  ap3 : ∀ p ∈ cs, ∀ q ∈ c.frs, p.1 ≠ q.1
  ap4 : ∀ p ∈ c.fz ++ c.pc, ∀ q ∈ c.frs, p.1 ≠ q.1
noncomputable abbrev Ctx.all (c : Ctx) (co : List (Addr × Obj)) : List (Addr × Obj) := (c.fz ++ c.pc) ++ co
section
variable {g : Gx} {A : Around} {c : Ctx} {cs : Cs} {co : List (Addr × Obj)} {h : Heap}
theorem RF.book (R : RF g A c cs h) : ∃ co, Bk g A c cs co ∧ News c.h₀ c.L h (c.all co) := by
  obtain ⟨co, e, N, k⟩ := objs_of R.co
  have : ∀ l : List (Addr × Obj), (∀ p ∈ l, ∃ sl, News c.h₀ c.L h [(p.1, { p.2 with slots := sl })]) → ∃ fo : List (Addr × Obj), fo.map (·.1) = l.map (·.1) ∧ News c.h₀ c.L h fo ∧ ∀ p ∈ l, ∃ sl, (p.1, ({ p.2 with slots := sl } : Obj)) ∈ fo := by
    intro l
    induction l with
    | nil => intro _; exact ⟨[], rfl, News.nil, fun _ h => nomatch h⟩
    | cons p l ih =>
      intro H
      obtain ⟨fo, e1, n1, k1⟩ := ih fun q hq => H q (.tail _ hq)
      obtain ⟨sl, n⟩ := H p (.head _)
      refine ⟨(p.1, { p.2 with slots := sl }) :: fo, by simp [e1], fun q hq => ?_, fun q hq => ?_⟩
      · rcases List.mem_cons.mp hq with rfl | hq
        · exact n _ (.head _)
        · exact n1 q hq
      · rcases List.mem_cons.mp hq with rfl | hq
        · exact ⟨sl, .head _⟩
        · obtain ⟨sl', hm⟩ := k1 q hq; exact ⟨sl', .tail _ hm⟩
  obtain ⟨fo, e1, n1, k1⟩ := this c.frs R.fx.fr
  refine ⟨co ++ fo, ⟨R.below, R.X, R.top, by simp [e, e1], fun p hp => ?_, R.nd, R.ap, R.ap2, fun p hp => ?_, R.fx.exF, R.fx.exC, R.fx.ap3, R.fx.ap4⟩, fun p hp => (List.mem_append.mp hp).elim (R.N p) fun z => (List.mem_append.mp z).elim (N p) (n1 p)⟩
  · obtain ⟨o, hm, cr⟩ := k p hp
    exact ⟨o, List.mem_append_left _ hm, cr⟩
  · obtain ⟨sl, hm⟩ := k1 p hp
    exact ⟨sl, List.mem_append_right _ hm⟩
theorem Bk.rf (B : Bk g A c cs co) (F : Fr c.h₀ c.L h c.mF) (N : News c.h₀ c.L h (c.all co)) : RF g A c cs h :=
  ⟨B.below, F, B.X, B.top, fun p hp => N p (List.mem_append_left _ hp), fun p hp => by
    obtain ⟨o, hm, cr⟩ := B.cr p hp
    exact ⟨o, cr, fun q hq => by rw [List.mem_singleton.mp hq]; exact N _ (List.mem_append_right _ hm)⟩, B.nd, B.ap, B.ap2, fun p hp => by
    obtain ⟨sl, hm⟩ := B.fr p hp
    exact ⟨sl, fun q hq => by rw [List.mem_singleton.mp hq]; exact N _ (List.mem_append_right _ hm)⟩, B.exF, B.exC, B.ap3, B.ap4⟩
theorem Bk.push (B : Bk g A c cs co) {p : Addr × Obj} (off : ∀ q ∈ c.all co, q.1 ≠ p.1) : Bk g A { c with pc := p :: c.pc } cs co := by
  refine ⟨B.below, B.X, B.top, B.keys, B.cr, B.nd, fun q hq r hr => ?_, fun q hq r hr => ?_, B.fr, B.exF, B.exC, B.ap3, fun q hq r hr => ?_⟩
  · rcases List.mem_append.mp hr with hr | hr
    · exact B.ap q hq r (List.mem_append_left _ hr)
    · rcases List.mem_cons.mp hr with rfl | hr
      · obtain ⟨o, hm, _⟩ := B.cr q hq
        exact off _ (List.mem_append_right _ hm)
      · exact B.ap q hq r (List.mem_append_right _ hr)
  · rcases List.mem_cons.mp hq with rfl | hq
    · exact fun e => off r (List.mem_append_left _ (List.mem_append_left _ hr)) e.symm
    · exact B.ap2 q hq r hr
  · rcases List.mem_append.mp hq with hq | hq
    · exact B.ap4 q (List.mem_append_left _ hq) r hr
    · rcases List.mem_cons.mp hq with rfl | hq
      · obtain ⟨sl, hm⟩ := B.fr r hr
        exact fun e => off _ (List.mem_append_right _ hm) e.symm
      · exact B.ap4 q (List.mem_append_right _ hq) r hr
theorem Bk.pop {p : Addr × Obj} {pc : List (Addr × Obj)} (B : Bk g A { c with pc := p :: pc } cs co) : Bk g A { c with pc := pc } cs co :=
  ⟨B.below, B.X, B.top, B.keys, B.cr, B.nd, fun q hq r hr => B.ap q hq r ((List.mem_append.mp hr).elim (fun z => List.mem_append_left _ z) fun z => List.mem_append_right _ (.tail _ z)), fun q hq => B.ap2 q (.tail _ hq), B.fr, B.exF, B.exC, B.ap3,
    fun q hq => B.ap4 q ((List.mem_append.mp hq).elim (fun z => List.mem_append_left _ z) fun z => List.mem_append_right _ (.tail _ z))⟩
/-- the kept head is apart from all -/
theorem Bk.off {p : Addr × Obj} {pc : List (Addr × Obj)} (B : Bk g A { c with pc := p :: pc } cs co) (nd : p.1 ∉ pc.map (·.1)) : ∀ q ∈ Ctx.all { c with pc := pc } co, q.1 ≠ p.1 := by
  intro q hq
  rcases List.mem_append.mp hq with hq | hq
  · rcases List.mem_append.mp hq with hq | hq
    · exact fun e => B.ap2 p (.head _) q hq e.symm
    · exact fun e => nd (List.mem_map.mpr ⟨q, hq, e⟩)
  · have : q.1 ∈ cs.map (·.1) ++ c.frs.map (·.1) := by rw [← B.keys]; exact List.mem_map_of_mem hq
    rcases List.mem_append.mp this with this | this
    · obtain ⟨r, hr, e⟩ := List.mem_map.mp this
      exact fun e2 => B.ap r hr p (List.mem_append_right _ (.head _)) (e.trans e2)
    · obtain ⟨r, hr, e⟩ := List.mem_map.mp this
      exact fun e2 => B.ap4 p (List.mem_append_right _ (.head _)) r hr (e.trans e2).symm
end

section
variable (g : Gx) (A : Around) (env : Env) (x : Str) (scope : Scope) (cl : List (Str × Addr)) (caps : Vars) (P : T → Cs → Prop)
/-- a comprehension with a test, item by item -/
noncomputable def CompT (ct elt : Expr) : List T → List T → Cs → Prop
  | [], acc, cs => P (.list acc) cs
  | u :: us, acc, cs => ∀ C, Ts g A (compEnvC scope cl C env) ((x, u) :: caps) ct cs fun b cs' =>
      (b = true → Ev g A (compEnvC scope cl C env) ((x, u) :: caps) elt cs' fun t cs'' => CompT ct elt us (acc ++ [t]) cs'') ∧ (b = false → CompT ct elt us acc cs')
noncomputable def CompU (elt : Expr) : List T → List T → Cs → Prop
  | [], acc, cs => P (.list acc) cs
  | u :: us, acc, cs => ∀ C, Ev g A (compEnvC scope cl C env) ((x, u) :: caps) elt cs fun t cs' => CompU elt us (acc ++ [t]) cs'
end
/-- what a block closes over -/
noncomputable def CapsOK (env : Env) (scope : Scope) (cl : List (Str × Addr)) (vars caps : Vars) : Prop :=
  ∀ p ∈ caps, vars.lookup p.1 = some p.2 ∧ ((relabel scope env).names.lookup p.1 = some .cell ∨ (relabel scope env).names.lookup p.1 = some .free) ∧ (env.kindOf p.1 = some .cell ∨ env.kindOf p.1 = some .free) ∧ cl.lookup p.1 = env.cells.lookup p.1

theorem caps_vars {g : Gx} {env : Env} {c : Ctx} {vars caps : Vars} {x : Str} {scope : Scope} {cl : List (Str × Addr)} {C : Addr} {oC : Obj} {m₂ : Str → Option Value} {u : T} {v : Value} {pc' : List (Addr × Obj)} (V : VarsOK g env c vars) (hc : CapsOK env scope cl vars caps)
    (hx : scope.names.lookup x = some .local) (hC : (C, oC) ∈ pc') (hp : ∀ p ∈ c.pc, p ∈ pc') (hns : NsObj oC m₂) (hm : m₂ x = some v) (r : VR g.P c.fz u v) : VarsOK g (compEnvC scope cl C env) { c with pc := pc' } ((x, u) :: caps) := by
  intro y t hy
  rw [List.lookup_cons] at hy
  split at hy
  · rename_i e
    cases hy
    have e' : y = x := eq_of_beq e
    subst e'
    exact ⟨v, r, .inr (.inl ⟨lookup_relabel_local hx, oC, m₂, hC, hns, hm⟩)⟩
  · have hmem : (y, t) ∈ caps := by
      have : ∀ (l : Vars), l.lookup y = some t → (y, t) ∈ l := by
        intro l
        induction l with
        | nil => intro h; cases h
        | cons p l ih =>
          intro h
          rw [List.lookup_cons] at h
          split at h
          · rename_i e; cases h
            have e' : y = p.1 := eq_of_beq e
            subst e'; exact .head _
          · exact .tail _ (ih h)
      exact this caps hy
    obtain ⟨h1, h2, h3, h4⟩ := hc _ hmem
    obtain ⟨v', r', at'⟩ := V y t h1
    refine ⟨v', r', .inr (.inr ⟨h2, ?_⟩)⟩
    rcases at' with ⟨z, _⟩ | ⟨z, _⟩ | ⟨_, a, o, e1, e2, e3⟩
    · dsimp only at h3; rw [z] at h3; rcases h3 with h3 | h3 <;> cases h3
    · dsimp only at h3; rw [z] at h3; rcases h3 with h3 | h3 <;> cases h3
    · exact ⟨a, o, h4.trans e1, e2.imp (hp _) id, e3⟩

section
variable {g : Gx} {A : Around} {env : Env} {vars caps : Vars} {x : Str} {scope : Scope} {cl : List (Str × Addr)} {P : T → Cs → Prop} {c : Ctx} {s : Shared} {us : List T} {vs : List Value} {ax : Addr} {nx : Nat} {Fin : List Value → List (Addr × Obj) → Prop}
theorem off3_of {I C D : Addr} {news : List (Addr × Obj)} (h : Off3 I C D news) : ∀ q ∈ news, q.1 ≠ I ∧ q.1 ≠ C ∧ q.1 ≠ D := h.mem
/-- the turn's state -/
theorem comp_in {fz : List (Addr × Obj)} {cs : Cs} {co : List (Addr × Obj)} {I C D : Addr} {oI oC oD : Obj} {h : Heap} (B : Bk g A (c.with fz) cs co)
    (F : Fr c.h₀ c.L h c.mF) (N : News c.h₀ c.L h ((I, oI) :: (C, oC) :: (D, oD) :: (c.with fz).all co)) (off : Off3 I C D ((c.with fz).all co)) (ne : I ≠ C ∧ I ≠ D ∧ C ≠ D) :
    RF g A { (c.with fz) with pc := (I, oI) :: (C, oC) :: (D, oD) :: c.pc } cs h := by
  have o := off.mem
  have B1 : Bk g A { (c.with fz) with pc := (D, oD) :: c.pc } cs co := B.push fun q hq => (o q hq).2.2
  have B2 : Bk g A { (c.with fz) with pc := (C, oC) :: (D, oD) :: c.pc } cs co := B1.push (c := { (c.with fz) with pc := (D, oD) :: c.pc }) fun q hq => by
    rcases List.mem_append.mp hq with hq | hq
    · rcases List.mem_append.mp hq with hq | hq
      · exact (o q (List.mem_append_left _ (List.mem_append_left _ hq))).2.1
      · rcases List.mem_cons.mp hq with rfl | hq
        · exact Ne.symm ne.2.2
        · exact (o q (List.mem_append_left _ (List.mem_append_right _ hq))).2.1
    · exact (o q (List.mem_append_right _ hq)).2.1
  have B3 : Bk g A { (c.with fz) with pc := (I, oI) :: (C, oC) :: (D, oD) :: c.pc } cs co := B2.push (c := { (c.with fz) with pc := (C, oC) :: (D, oD) :: c.pc }) fun q hq => by
    rcases List.mem_append.mp hq with hq | hq
    · rcases List.mem_append.mp hq with hq | hq
      · exact (o q (List.mem_append_left _ (List.mem_append_left _ hq))).1
      · rcases List.mem_cons.mp hq with rfl | hq
        · exact Ne.symm ne.1
        · rcases List.mem_cons.mp hq with rfl | hq
          · exact Ne.symm ne.2.1
          · exact (o q (List.mem_append_left _ (List.mem_append_right _ hq))).1
    · exact (o q (List.mem_append_right _ hq)).1
  refine B3.rf F fun p hp => N p ?_
  rcases List.mem_append.mp hp with hp | hp
  · rcases List.mem_append.mp hp with hp | hp
    · exact .tail _ (.tail _ (.tail _ (List.mem_append_left _ (List.mem_append_left _ hp))))
    · rcases List.mem_cons.mp hp with rfl | hp
      · exact .head _
      · rcases List.mem_cons.mp hp with rfl | hp
        · exact .tail _ (.head _)
        · rcases List.mem_cons.mp hp with rfl | hp
          · exact .tail _ (.tail _ (.head _))
          · exact .tail _ (.tail _ (.tail _ (List.mem_append_left _ (List.mem_append_right _ hp))))
  · exact .tail _ (.tail _ (.tail _ (List.mem_append_right _ hp)))
/-- the turn's end -/
theorem comp_out {fz : List (Addr × Obj)} {cs : Cs} {I C D : Addr} {oI oC oD : Obj} {h : Heap} {tk : Nat} {s₁ : Shared} {S : List (Addr × Obj) → Prop} {rest : Value → List (Addr × Obj) → Prop} {y : Value}
    (R : RF g A { (c.with fz) with pc := (I, oI) :: (C, oC) :: (D, oD) :: c.pc } cs h) (nd : I ∉ C :: D :: c.pc.map (·.1) ∧ C ∉ D :: c.pc.map (·.1) ∧ D ∉ c.pc.map (·.1))
    (hS : ∀ co, S ((c.with fz).all co)) (k : ∀ co, Bk g A (c.with fz) cs co → rest y ((c.with fz).all co)) : CompEnd c.h₀ c.L c.mF s₁ I oI C oC D oD S rest y { s₁ with heap := h, toks := tk } := by
  obtain ⟨co, B, N⟩ := R.book
  have o1 := Bk.off (c := c.with fz) (pc := (C, oC) :: (D, oD) :: c.pc) B (by simpa using nd.1)
  have B1 := B.pop
  have o2 := Bk.off (c := c.with fz) (pc := (D, oD) :: c.pc) B1 (by simpa using nd.2.1)
  have B2 := B1.pop
  have o3 := Bk.off (c := c.with fz) (pc := c.pc) B2 nd.2.2
  have B3 := B2.pop
  have up : ∀ q ∈ (c.with fz).all co, q ∈ Ctx.all { (c.with fz) with pc := (D, oD) :: c.pc } co := fun q hq => (List.mem_append.mp hq).elim (fun z => (List.mem_append.mp z).elim (fun z => List.mem_append_left _ (List.mem_append_left _ z)) fun z => List.mem_append_left _ (List.mem_append_right _ (.tail _ z))) fun z => List.mem_append_right _ z
  have up2 : ∀ q ∈ Ctx.all { (c.with fz) with pc := (D, oD) :: c.pc } co, q ∈ Ctx.all { (c.with fz) with pc := (C, oC) :: (D, oD) :: c.pc } co := fun q hq => (List.mem_append.mp hq).elim (fun z => (List.mem_append.mp z).elim (fun z => List.mem_append_left _ (List.mem_append_left _ z)) fun z => List.mem_append_left _ (List.mem_append_right _ (.tail _ z))) fun z => List.mem_append_right _ z
  refine ⟨h, tk, (c.with fz).all co, rfl, R.F, fun p hp => N p ?_, Off3.of fun q hq => ⟨o1 q (up2 q (up q hq)), o2 q (up q hq), o3 q hq⟩, hS co, k co B3⟩
  rcases List.mem_cons.mp hp with rfl | hp
  · exact List.mem_append_left _ (List.mem_append_right _ (.head _))
  · rcases List.mem_cons.mp hp with rfl | hp
    · exact List.mem_append_left _ (List.mem_append_right _ (.tail _ (.head _)))
    · rcases List.mem_cons.mp hp with rfl | hp
      · exact List.mem_append_left _ (List.mem_append_right _ (.tail _ (.tail _ (.head _))))
      · rcases List.mem_append.mp hp with hp | hp
        · rcases List.mem_append.mp hp with hp | hp
          · exact List.mem_append_left _ (List.mem_append_left _ hp)
          · exact List.mem_append_left _ (List.mem_append_right _ (.tail _ (.tail _ (.tail _ hp))))
        · exact List.mem_append_right _ hp

theorem comp_restTG {ct elt : Expr} {Sx : List (Addr × Obj) → Prop} {Pv : Nat → Value → Prop} (V : VarsOK g env c vars) (hc : CapsOK env scope cl vars caps) (hx : scope.names.lookup x = some .local) (src : ∀ fz', (∀ p ∈ c.fz, p ∈ fz') → ∀ co, Sx ((c.with fz').all co)) (hPv : ∀ i v (hi : i < us.length), Pv i v → VR g.P c.fz us[i] v)
    (fin : ∀ fz cs co acc ys, (∀ p ∈ c.fz, p ∈ fz) → Bk g A (c.with fz) cs co → VRs g.P fz acc ys → P (.list acc) cs → Fin ys ((c.with fz).all co)) :
    ∀ (k i : Nat) (ys : List Value) (acc : List T) (fz : List (Addr × Obj)) (cs : Cs) (co : List (Addr × Obj)), (∀ p ∈ c.fz, p ∈ fz) → Bk g A (c.with fz) cs co → VRs g.P fz acc ys → i + k = us.length → CompT g A env x scope cl caps P ct elt (us.drop i) acc cs →
      CompRestT prg g.w A c.h₀ c.L c.mF env ct elt x scope cl s Sx Pv Fin k i ys ((c.with fz).all co)
  | 0, i, ys, acc, fz, cs, co, m, B, ra, hk, H => by
    rw [show us.drop i = [] from List.drop_eq_nil_of_le (by omega)] at H
    exact CompRestT.zero (fin fz cs co acc ys m B ra H)
  | k + 1, i, ys, acc, fz, cs, co, m, B, ra, hk, H => by
    have hi : i < us.length := by omega
    rw [List.drop_eq_getElem_cons hi] at H
    refine CompRestT.succ fun v I oI C oC D m₂ h tk E' hP hns hm F N off ne => ?_
    have rv := hPv i v hi hP
    have R := comp_in B F N off ne
    have nd : I ∉ C :: D :: c.pc.map (·.1) ∧ C ∉ D :: c.pc.map (·.1) ∧ D ∉ c.pc.map (·.1) := by
      have o := off.mem
      refine ⟨fun z => ?_, fun z => ?_, fun z => ?_⟩
      · rcases List.mem_cons.mp z with z | z
        · exact ne.1 z
        · rcases List.mem_cons.mp z with z | z
          · exact ne.2.1 z
          · obtain ⟨q, hq, e⟩ := List.mem_map.mp z
            exact (o q (List.mem_append_left _ (List.mem_append_right _ hq))).1 e
      · rcases List.mem_cons.mp z with z | z
        · exact ne.2.2 z
        · obtain ⟨q, hq, e⟩ := List.mem_map.mp z
          exact (o q (List.mem_append_left _ (List.mem_append_right _ hq))).2.1 e
      · obtain ⟨q, hq, e⟩ := List.mem_map.mp z
        exact (o q (List.mem_append_left _ (List.mem_append_right _ hq))).2.2 e
    have V1 : VarsOK g (compEnvC scope cl C env) { (c.with fz) with pc := (I, oI) :: (C, oC) :: (D, lst ys) :: c.pc } ((x, us[i]) :: caps) := caps_vars (V.mono m) hc hx (.tail _ (.head _)) (fun p hp => .tail _ (.tail _ (.tail _ hp))) hns hm (rv.mono m)
    refine H C _ { s with heap := h, toks := tk } _ E' V1 R fun fz₁ b cs₁ h₁ tk₁ m₁ p₁ R₁ => ?_
    have mm : ∀ p ∈ c.fz, p ∈ fz₁ := fun p hp => m₁ p (m p hp)
    cases b with
    | true =>
      simp only [if_true]
      refine (p₁.1 rfl).use (VarsOK.le (c := { c with pc := (I, oI) :: (C, oC) :: (D, lst ys) :: c.pc }) V1 m₁) R₁ fun fz₂ t w cs₂ h₂ tk₂ m₂' p₂ r₂ R₂ => ?_
      have mm2 : ∀ p ∈ c.fz, p ∈ fz₂ := fun p hp => m₂' p (mm p hp)
      exact comp_out (c := c) (s₁ := { s with heap := h, toks := tk }) (tk := tk₂) R₂ nd (src fz₂ mm2) fun co₂ B₂ => comp_restTG V hc hx src hPv fin k (i + 1) (ys ++ [w]) (acc ++ [t]) fz₂ cs₂ co₂ mm2 B₂ ((ra.mono fun p hp => m₂' p (m₁ p hp)).append (.cons r₂ .nil)) (by omega) p₂
    | false =>
      simp only [Bool.false_eq_true, if_false]
      exact comp_out (c := c) (s₁ := { s with heap := h, toks := tk }) (tk := tk₁) R₁ nd (src fz₁ mm) fun co₁ B₁ => comp_restTG V hc hx src hPv fin k (i + 1) ys acc fz₁ cs₁ co₁ mm B₁ (ra.mono m₁) (by omega) (p₁.2 rfl)
theorem comp_restT {ct elt : Expr} (V : VarsOK g env c vars) (hc : CapsOK env scope cl vars caps) (hx : scope.names.lookup x = some .local) (hax : (ax, listOf vs.toArray nx) ∈ c.fz ++ c.pc) (rs : VRs g.P c.fz us vs)
    (fin : ∀ fz cs co acc ys, (∀ p ∈ c.fz, p ∈ fz) → Bk g A (c.with fz) cs co → VRs g.P fz acc ys → P (.list acc) cs → Fin ys ((c.with fz).all co)) :
    ∀ (k i : Nat) (ys : List Value) (acc : List T) (fz : List (Addr × Obj)) (cs : Cs) (co : List (Addr × Obj)), (∀ p ∈ c.fz, p ∈ fz) → Bk g A (c.with fz) cs co → VRs g.P fz acc ys → i + k = us.length → CompT g A env x scope cl caps P ct elt (us.drop i) acc cs →
      CompRestT prg g.w A c.h₀ c.L c.mF env ct elt x scope cl s (SrcAt c.h₀ ax vs.toArray) (fun i v => vs.toArray[i]? = some v) Fin k i ys ((c.with fz).all co) :=
  comp_restTG V hc hx (fun fz' m' co => .inr ⟨_, List.mem_append_left _ ((List.mem_append.mp hax).elim (fun z => List.mem_append_left _ (m' _ z)) fun z => List.mem_append_right _ z), rfl, _, rfl⟩) (fun i v hi hP => by
    have hv : vs[i]? = some v := by simpa using hP
    obtain ⟨v', e', rv⟩ := rs.get (i := i) (t := us[i]) (by simp [hi])
    rw [hv] at e'; cases e'
    exact rv) fin
theorem comp_restU {elt : Expr} (V : VarsOK g env c vars) (hc : CapsOK env scope cl vars caps) (hx : scope.names.lookup x = some .local) (hax : (ax, listOf vs.toArray nx) ∈ c.fz ++ c.pc) (rs : VRs g.P c.fz us vs)
    (fin : ∀ fz cs co acc ys, (∀ p ∈ c.fz, p ∈ fz) → Bk g A (c.with fz) cs co → VRs g.P fz acc ys → P (.list acc) cs → Fin ys ((c.with fz).all co)) :
    ∀ (k i : Nat) (ys : List Value) (acc : List T) (fz : List (Addr × Obj)) (cs : Cs) (co : List (Addr × Obj)), (∀ p ∈ c.fz, p ∈ fz) → Bk g A (c.with fz) cs co → VRs g.P fz acc ys → i + k = us.length → CompU g A env x scope cl caps P elt (us.drop i) acc cs →
      CompRest prg g.w A c.h₀ c.L c.mF env elt x scope cl s (SrcAt c.h₀ ax vs.toArray) (fun i v => vs.toArray[i]? = some v) Fin k i ys ((c.with fz).all co)
  | 0, i, ys, acc, fz, cs, co, m, B, ra, hk, H => by
    rw [show us.drop i = [] from List.drop_eq_nil_of_le (by omega)] at H
    exact CompRest.zero (fin fz cs co acc ys m B ra H)
  | k + 1, i, ys, acc, fz, cs, co, m, B, ra, hk, H => by
    have hi : i < us.length := by omega
    rw [List.drop_eq_getElem_cons hi] at H
    refine CompRest.succ fun v I oI C oC D m₂ h tk E' hP hns hm F N off ne => ?_
    have hv : vs[i]? = some v := by simpa using hP
    obtain ⟨v', e', rv⟩ := rs.get (i := i) (t := us[i]) (by simp [hi])
    rw [hv] at e'; cases e'
    have R := comp_in B F N off ne
    have nd : I ∉ C :: D :: c.pc.map (·.1) ∧ C ∉ D :: c.pc.map (·.1) ∧ D ∉ c.pc.map (·.1) := by
      have o := off.mem
      refine ⟨fun z => ?_, fun z => ?_, fun z => ?_⟩
      · rcases List.mem_cons.mp z with z | z
        · exact ne.1 z
        · rcases List.mem_cons.mp z with z | z
          · exact ne.2.1 z
          · obtain ⟨q, hq, e⟩ := List.mem_map.mp z
            exact (o q (List.mem_append_left _ (List.mem_append_right _ hq))).1 e
      · rcases List.mem_cons.mp z with z | z
        · exact ne.2.2 z
        · obtain ⟨q, hq, e⟩ := List.mem_map.mp z
          exact (o q (List.mem_append_left _ (List.mem_append_right _ hq))).2.1 e
      · obtain ⟨q, hq, e⟩ := List.mem_map.mp z
        exact (o q (List.mem_append_left _ (List.mem_append_right _ hq))).2.2 e
    have V1 : VarsOK g (compEnvC scope cl C env) { (c.with fz) with pc := (I, oI) :: (C, oC) :: (D, lst ys) :: c.pc } ((x, us[i]) :: caps) := caps_vars (V.mono m) hc hx (.tail _ (.head _)) (fun p hp => .tail _ (.tail _ (.tail _ hp))) hns hm (rv.mono m)
    have src : ∀ fz', (∀ p ∈ c.fz, p ∈ fz') → ∀ co, SrcAt c.h₀ ax vs.toArray ((c.with fz').all co) := fun fz' m' co => .inr ⟨_, List.mem_append_left _ ((List.mem_append.mp hax).elim (fun z => List.mem_append_left _ (m' _ z)) fun z => List.mem_append_right _ z), rfl, _, rfl⟩
    refine (H C).use V1 R fun fz₂ t w cs₂ h₂ tk₂ m₂' p₂ r₂ R₂ => ?_
    have mm2 : ∀ p ∈ c.fz, p ∈ fz₂ := fun p hp => m₂' p (m p hp)
    exact comp_out (c := c) (s₁ := { s with heap := h, toks := tk }) (tk := tk₂) R₂ nd (src fz₂ mm2) fun co₂ B₂ => comp_restU V hc hx hax rs fin k (i + 1) (ys ++ [w]) (acc ++ [t]) fz₂ cs₂ co₂ mm2 B₂ ((ra.mono m₂').append (.cons r₂ .nil)) (by omega) p₂
end

section
variable {g : Gx} {A : Around} {env : Env} {vars caps : Vars} {x y : Str} {scope : Scope} {cl : List (Str × Addr)} {P : T → Cs → Prop} {cs : Cs} {P' : Fl → Vars → Cs → Prop} {X : XP}
/-- the new list stands -/
theorem comp_new {c : Ctx} {fz : List (Addr × Obj)} {cs : Cs} {co : List (Addr × Obj)} {D : Addr} {ys : List Value} {h : Heap} {mF : Str → Option Value} (B : Bk g A (c.with fz) cs co) (F : Fr c.h₀ c.L h mF) (N : News c.h₀ c.L h ((D, lst ys) :: (c.with fz).all co)) (off : Off1 D ((c.with fz).all co)) :
    RF g A { (c.with ((D, lst ys) :: fz)) with mF := mF } cs h := by
  have o : ∀ q ∈ (c.with fz).all co, q.1 ≠ D := by
    have : ∀ l : List (Addr × Obj), Off1 D l → ∀ q ∈ l, q.1 ≠ D := by
      intro l
      induction l with
      | nil => intro _ q hq; cases hq
      | cons p l ih =>
        intro h q hq
        rcases List.mem_cons.mp hq with rfl | hq
        · exact h.1
        · exact ih h.2 q hq
    exact this _ off
  refine ⟨B.below, F, B.X, B.top, fun p hp => N p ?_, fun p hp => ?_, B.nd, fun p hp q hq => ?_, fun p hp q hq => ?_, fun p hp => ?_, fun p hp => .tail _ (B.exF p hp), fun p hp => ?_, B.ap3, fun p hp q hq => ?_⟩
  · rcases List.mem_append.mp hp with hp | hp
    · rcases List.mem_cons.mp hp with rfl | hp
      · exact .head _
      · exact .tail _ (List.mem_append_left _ (List.mem_append_left _ hp))
    · exact .tail _ (List.mem_append_left _ (List.mem_append_right _ hp))
  · obtain ⟨ob, hm, cr⟩ := B.cr p hp
    exact ⟨ob, cr.mono (fun _ h => .tail _ h), fun q hq => by rw [List.mem_singleton.mp hq]; exact N _ (.tail _ (List.mem_append_right _ hm))⟩
  · rcases List.mem_append.mp hq with hq | hq
    · rcases List.mem_cons.mp hq with rfl | hq
      · obtain ⟨ob, hm, _⟩ := B.cr p hp
        exact o _ (List.mem_append_right _ hm)
      · exact B.ap p hp q (List.mem_append_left _ hq)
    · exact B.ap p hp q (List.mem_append_right _ hq)
  · rcases List.mem_cons.mp hq with rfl | hq
    · exact o p (List.mem_append_left _ (List.mem_append_right _ hp))
    · exact B.ap2 p hp q hq
  · obtain ⟨sl, hm⟩ := B.fr p hp
    exact ⟨sl, fun q hq => by rw [List.mem_singleton.mp hq]; exact N _ (.tail _ (List.mem_append_right _ hm))⟩
  · obtain ⟨o', v, a, b, r⟩ := B.exC p hp
    exact ⟨o', v, a, b, r.mono fun _ h => .tail _ h⟩
  · rcases List.mem_append.mp hp with hp | hp
    · rcases List.mem_cons.mp hp with rfl | hp
      · obtain ⟨sl, hm⟩ := B.fr q hq
        exact fun e => o _ (List.mem_append_right _ hm) e.symm
      · exact B.ap4 p (List.mem_append_left _ hp) q hq
    · exact B.ap4 p (List.mem_append_right _ hp) q hq

theorem Ev.compT {ct elt iter : Expr} {px pos : Pos} (hh : A.handled = none) (hc : CapsOK env scope cl vars caps)
    (H : Ev g A env vars iter cs fun t cs' => ∃ us, t = .list us ∧ us.length ≤ sizeLine ∧ CompT g A env x scope cl caps P ct elt us [] cs')
    (hclos : closureFor scope env = pure cl := by rfl) (hcell : ∀ y ∈ scope.names, y.2 ≠ .cell := by decide) (hkind : scope.kind = .function := by rfl)
    (hnames : ∀ y ∈ scope.names, y.2 = .local → scope.names.lookup y.1 = some .local := by decide) (hx : scope.names.lookup x = some .local := by rfl) (hs : ∀ x, foldedSetIterable iter env x = pure x := by intro _; rfl) :
    Ev g A env vars (.ListComp elt [⟨.Name x px, iter, [ct], 0⟩] scope pos) cs P := by
  rintro c s Q E _ ⟨V, rfl⟩ R k
  refine ListComp_T (F₀ := R.F) hclos hcell hkind hnames hx (H.use V R fun fz₁ t v cs₁ h₁ tk₁ m₁ hu r R₁ => ?_) hs
  obtain ⟨us, rfl, hsz, hC⟩ := hu
  cases r with
  | list hm rs =>
  obtain ⟨co, B, N⟩ := R₁.book
  refine CompSrcT.ledger hh R₁.F N (List.mem_append_left _ (List.mem_append_left _ hm)) (by simpa [rs.length] using hsz) fun gh => ?_
  rename_i ax vs nx
  have e : vs.toArray.size = us.length := by simp [rs.length]
  rw [e]
  exact comp_restT (c := c.with fz₁) (V.mono m₁) hc hx (List.mem_append_left _ hm) rs (fun fz cs' co' acc ys m B' ra p D h tk F N' off => k _ _ _ cs' h tk (fun q hq => .tail _ (m q (m₁ q hq))) p (.list (.head _) (ra.mono fun q hq => .tail _ hq)) (comp_new (c := c.with fz₁) B' F N' off)) us.length 0 [] [] fz₁ cs₁ co (fun _ h => h) B .nil (by omega) hC
theorem Ev.compU {elt iter : Expr} {px pos : Pos} (hh : A.handled = none) (hc : CapsOK env scope cl vars caps)
    (H : Ev g A env vars iter cs fun t cs' => ∃ us, t = .list us ∧ us.length ≤ sizeLine ∧ CompU g A env x scope cl caps P elt us [] cs')
    (hclos : closureFor scope env = pure cl := by rfl) (hcell : ∀ y ∈ scope.names, y.2 ≠ .cell := by decide) (hkind : scope.kind = .function := by rfl)
    (hnames : ∀ y ∈ scope.names, y.2 = .local → scope.names.lookup y.1 = some .local := by decide) (hx : scope.names.lookup x = some .local := by rfl) (hs : ∀ x, foldedSetIterable iter env x = pure x := by intro _; rfl) :
    Ev g A env vars (.ListComp elt [⟨.Name x px, iter, [], 0⟩] scope pos) cs P := by
  rintro c s Q E _ ⟨V, rfl⟩ R k
  refine ListComp_U (F₀ := R.F) hclos hcell hkind hnames hx (H.use V R fun fz₁ t v cs₁ h₁ tk₁ m₁ hu r R₁ => ?_) hs
  obtain ⟨us, rfl, hsz, hC⟩ := hu
  cases r with
  | list hm rs =>
  obtain ⟨co, B, N⟩ := R₁.book
  refine CompSrc.ledger hh R₁.F N (List.mem_append_left _ (List.mem_append_left _ hm)) (by simpa [rs.length] using hsz) fun gh => ?_
  rename_i ax vs nx
  have e : vs.toArray.size = us.length := by simp [rs.length]
  rw [e]
  exact comp_restU (c := c.with fz₁) (V.mono m₁) hc hx (List.mem_append_left _ hm) rs (fun fz cs' co' acc ys m B' ra p D h tk F N' off => k _ _ _ cs' h tk (fun q hq => .tail _ (m q (m₁ q hq))) p (.list (.head _) (ra.mono fun q hq => .tail _ hq)) (comp_new (c := c.with fz₁) B' F N' off)) us.length 0 [] [] fz₁ cs₁ co (fun _ h => h) B .nil (by omega) hC

/-- over a list that may change, but not while it is gone over -/
theorem Ev.compTC {ct elt iter : Expr} {px pos : Pos} (hh : A.handled = none) (hc : CapsOK env scope cl vars caps)
    (H : Ev g A env vars iter cs fun t cs' => ∃ a us cs'', t = .cel a ∧ cs' = (a, .list us) :: cs'' ∧ us.length ≤ sizeLine ∧ CompT g A env x scope cl caps (fun t c => P t ((a, .list us) :: c)) ct elt us [] cs'')
    (hclos : closureFor scope env = pure cl := by rfl) (hcell : ∀ y ∈ scope.names, y.2 ≠ .cell := by decide) (hkind : scope.kind = .function := by rfl)
    (hnames : ∀ y ∈ scope.names, y.2 = .local → scope.names.lookup y.1 = some .local := by decide) (hx : scope.names.lookup x = some .local := by rfl) (hs : ∀ x, foldedSetIterable iter env x = pure x := by intro _; rfl) :
    Ev g A env vars (.ListComp elt [⟨.Name x px, iter, [ct], 0⟩] scope pos) cs P := by
  rintro c s Q E _ ⟨V, rfl⟩ R k
  refine ListComp_T (F₀ := R.F) hclos hcell hkind hnames hx (H.use V R fun fz₁ t v cs₁ h₁ tk₁ m₁ hu r R₁ => ?_) hs
  obtain ⟨a, us, cs₂, rfl, rfl, hsz, hC⟩ := hu
  cases r
  have nd : a ∉ c.pc.map (·.1) := fun z => by
    obtain ⟨p, hp, e⟩ := List.mem_map.mp z
    exact R₁.ap _ (.head _) p (List.mem_append_right _ hp) e.symm
  obtain ⟨o, cr, R₂⟩ := R₁.putBy
  cases cr with
  | list nx rs =>
  rename_i vs
  obtain ⟨co, B, N⟩ := R₂.book
  refine CompSrcT.ledger hh R₂.F N (List.mem_append_left _ (List.mem_append_right _ (.head _))) (by simpa [rs.length] using hsz) fun gh => ?_
  have e : vs.toArray.size = us.length := by simp [rs.length]
  rw [e]
  refine comp_restT (c := { (c.with fz₁) with pc := (a, listOf vs.toArray nx) :: c.pc }) ((V.mono m₁).pushPc (c := c.with fz₁)) hc hx (List.mem_append_right _ (.head _)) rs (fun fz cs' co' acc ys m B' ra p D h tk F N' off => ?_) us.length 0 [] [] fz₁ cs₂ co (fun _ h => h) B .nil (by omega) hC
  have RR := comp_new (c := { (c.with fz₁) with pc := (a, listOf vs.toArray nx) :: c.pc }) B' F N' off
  exact k _ _ _ _ h tk (fun q hq => .tail _ (m q (m₁ q hq))) p (.list (.head _) (ra.mono fun q hq => .tail _ hq)) (RF.takeBack (c := { (c.with ((D, lst ys) :: fz)) with mF := _ }) (pc := c.pc) RR nd (.list nx ((rs.mono m).mono fun _ h => .tail _ h)))

theorem sv_local {c : Ctx} {fz : List (Addr × Obj)} {v : Value} {t : T} (S : SV g env (c.with fz) vars) (r : VR g.P fz t v) (hy : env.kindOf y = some .local) : SV g env { (c.with fz) with mF := fun z => if z = y then some v else c.mF z } ((y, t) :: vars) := by
  refine ⟨fun z u hz => ?_, S.loc, S.kind, S.cell, S.nd, S.inj⟩
  rw [List.lookup_cons] at hz
  split at hz
  · rename_i e
    have e' : z = y := eq_of_beq e
    subst e'
    cases hz
    exact ⟨v, r, .inl ⟨hy, S.loc, by simp⟩⟩
  · rename_i e
    have e' : z ≠ y := by simpa using e
    obtain ⟨v', r', at'⟩ := S.ok z u hz
    refine ⟨v', r', ?_⟩
    rcases at' with ⟨a, b, d⟩ | z | z
    · exact .inl ⟨a, b, by simpa [e'] using d⟩
    · exact .inr (.inl z)
    · exact .inr (.inr z)
theorem Ex1.assignT {ct elt iter : Expr} {px pos py spos : Pos} (hh : A.handled = none) (hc : CapsOK env scope cl vars caps) (hy : env.kindOf y = some .local)
    (H : Ev g A env vars iter cs fun t cs' => ∃ us, t = .list us ∧ us.length ≤ sizeLine ∧ CompT g A env x scope cl caps (fun t cs' => P' .next ((y, t) :: vars) cs') ct elt us [] cs')
    (hsw : swapsWith (.ListComp elt [⟨.Name x px, iter, [ct], 0⟩] scope pos) (some (.Name y py)) spos.line env = pure true := by rfl)
    (hclos : closureFor scope env = pure cl := by rfl) (hcell : ∀ y ∈ scope.names, y.2 ≠ .cell := by decide) (hkind : scope.kind = .function := by rfl)
    (hnames : ∀ y ∈ scope.names, y.2 = .local → scope.names.lookup y.1 = some .local := by decide) (hx : scope.names.lookup x = some .local := by rfl) (hs : ∀ x, foldedSetIterable iter env x = pure x := by intro _; rfl) :
    Ex1 g A env (.Assign [.Name y py] (.ListComp elt [⟨.Name x px, iter, [ct], 0⟩] scope pos) spos) vars cs P' X := by
  intro c s Q E S R hE q ee
  refine Assign_ListComp_T (F₀ := R.F) S.loc hsw hclos hcell hkind hnames hx hy (by rw [S.kind]; rfl) (H.use S.ok R fun fz₁ t v cs₁ h₁ tk₁ m₁ hu r R₁ => ?_) hs
  obtain ⟨us, rfl, hsz, hC⟩ := hu
  cases r with
  | list hm rs =>
  obtain ⟨co, B, N⟩ := R₁.book
  refine CompSrcT.ledger hh R₁.F N (List.mem_append_left _ (List.mem_append_left _ hm)) (by simpa [rs.length] using hsz) fun gh => ?_
  rename_i ax vs nx
  have e : vs.toArray.size = us.length := by simp [rs.length]
  rw [e]
  refine comp_restT (c := c.with fz₁) (S.ok.mono m₁) hc hx (List.mem_append_left _ hm) rs (fun fz cs' co' acc ys m B' ra p D h tk F N' off => ?_) us.length 0 [] [] fz₁ cs₁ co (fun _ h => h) B .nil (by omega) hC
  have mm : ∀ p ∈ c.fz, p ∈ (D, lst ys) :: fz := fun q hq => .tail _ (m q (m₁ q hq))
  exact q { (c.with ((D, lst ys) :: fz)) with mF := fun z => if z = y then some (.ref D) else c.mF z } .next .next _ cs' h tk ⟨rfl, rfl, rfl, mm, rfl, fun _ h _ => h⟩ p .next
    (sv_local (c := c) (S.mono mm) (.list (n := ys.length) (.head _) (ra.mono fun q hq => .tail _ hq)) hy) (comp_new (c := c.with fz₁) B' F N' off)
theorem Ex1.assignU {elt iter : Expr} {px pos py spos : Pos} (hh : A.handled = none) (hc : CapsOK env scope cl vars caps) (hy : env.kindOf y = some .local)
    (H : Ev g A env vars iter cs fun t cs' => ∃ us, t = .list us ∧ us.length ≤ sizeLine ∧ CompU g A env x scope cl caps (fun t cs' => P' .next ((y, t) :: vars) cs') elt us [] cs')
    (hsw : swapsWith (.ListComp elt [⟨.Name x px, iter, [], 0⟩] scope pos) (some (.Name y py)) spos.line env = pure true := by rfl)
    (hclos : closureFor scope env = pure cl := by rfl) (hcell : ∀ y ∈ scope.names, y.2 ≠ .cell := by decide) (hkind : scope.kind = .function := by rfl)
    (hnames : ∀ y ∈ scope.names, y.2 = .local → scope.names.lookup y.1 = some .local := by decide) (hx : scope.names.lookup x = some .local := by rfl) (hs : ∀ x, foldedSetIterable iter env x = pure x := by intro _; rfl) :
    Ex1 g A env (.Assign [.Name y py] (.ListComp elt [⟨.Name x px, iter, [], 0⟩] scope pos) spos) vars cs P' X := by
  intro c s Q E S R hE q ee
  refine Assign_ListComp_U (F₀ := R.F) S.loc hsw hclos hcell hkind hnames hx hy (by rw [S.kind]; rfl) (H.use S.ok R fun fz₁ t v cs₁ h₁ tk₁ m₁ hu r R₁ => ?_) hs
  obtain ⟨us, rfl, hsz, hC⟩ := hu
  cases r with
  | list hm rs =>
  obtain ⟨co, B, N⟩ := R₁.book
  refine CompSrc.ledger hh R₁.F N (List.mem_append_left _ (List.mem_append_left _ hm)) (by simpa [rs.length] using hsz) fun gh => ?_
  rename_i ax vs nx
  have e : vs.toArray.size = us.length := by simp [rs.length]
  rw [e]
  refine comp_restU (c := c.with fz₁) (S.ok.mono m₁) hc hx (List.mem_append_left _ hm) rs (fun fz cs' co' acc ys m B' ra p D h tk F N' off => ?_) us.length 0 [] [] fz₁ cs₁ co (fun _ h => h) B .nil (by omega) hC
  have mm : ∀ p ∈ c.fz, p ∈ (D, lst ys) :: fz := fun q hq => .tail _ (m q (m₁ q hq))
  exact q { (c.with ((D, lst ys) :: fz)) with mF := fun z => if z = y then some (.ref D) else c.mF z } .next .next _ cs' h tk ⟨rfl, rfl, rfl, mm, rfl, fun _ h _ => h⟩ p .next
    (sv_local (c := c) (S.mono mm) (.list (n := ys.length) (.head _) (ra.mono fun q hq => .tail _ hq)) hy) (comp_new (c := c.with fz₁) B' F N' off)
end
end Mine
end

noncomputable section
open PySem PySem.W PyProof.Rows PySem.Calls
set_option Elab.async false
set_option linter.unusedVariables false
set_option tactic.hygienic false
namespace Mine

noncomputable def KeepsAt (M : Model) (h : Heap) (f : Value) : Prop := ∃ k, (k = Keeper.frame ∨ k = Keeper.machine ∨ k = Keeper.boundFrame) ∧ Looks M h (keeperOf f) k
/-- a call -/
noncomputable def Cal (g : Gx) (A : Around) (tf : T) (ts : List T) (kw : List (Str × T)) (cs : Cs) (P : T → Cs → Prop) : Prop :=
  ∀ (c : Ctx) (s : Shared) (Q E : Value → Shared → Prop) (f : Value) (vs kvs : List Value), VR g.P c.fz tf f → VRs g.P c.fz ts vs → VRs g.P c.fz (kw.map (·.2)) kvs → RF g A c cs s.heap →
    (∀ fz' r v cs' h' tk', (∀ p ∈ c.fz, p ∈ fz') → P r cs' → VR g.P fz' r v → RF g A (c.with fz') cs' h' → Q v { s with heap := h', toks := tk' }) →
    KeepsAt g.M s.heap f ∧ wpAny g.M A (call f vs ((kw.map (·.1)).zip kvs)) Q E s
/-- what a method's name gives -/
noncomputable def GM (g : Gx) (A : Around) (t : T) (name : Str) (cs : Cs) (f : Value) (ts0 : List T) : Prop :=
  ∀ (c : Ctx) (s : Shared) (v : Value) (pl : Sem Bool) (Q : Value × List Value → Shared → Prop) (E : Value → Shared → Prop), VR g.P c.fz t v → RF g A c cs s.heap →
    (∀ vs0 tk', VRs g.P c.fz ts0 vs0 → Q (f, vs0) { s with toks := tk' }) → wpAny g.M A (getMethod v name pl) Q E s

noncomputable def KwP (g : Gx) (A : Around) (env : Env) (vars : Vars) : List (Str × Expr) → Cs → (List (Str × T) → Cs → Prop) → Prop
  | [], cs, P => P [] cs
  | (x, e) :: r, cs, P => Ev g A env vars e cs fun t cs' => KwP g A env vars r cs' fun kw cs'' => P ((x, t) :: kw) cs''

section
variable {g : Gx} {A : Around} {env : Env} {vars : Vars} {cs : Cs} {P : T → Cs → Prop}
theorem KeepsAt.builtin {M : Model} {h : Heap} {id : String} : KeepsAt M h (.builtin id) := ⟨.machine, .inr (.inl rfl), .now⟩
theorem KeepsAt.type {M : Model} {h : Heap} {id : String} : KeepsAt M h (.type id) := ⟨.machine, .inr (.inl rfl), .now⟩
theorem RF.XIn {c : Ctx} {h : Heap} (R : RF g A c cs h) : (kk g.w.params).In h := R.X.keeps R.F.keep
theorem KeepsAt.K {c : Ctx} {h : Heap} {f : Value} (R : RF g A c cs h) (hk : keepIn (kk g.w.params) f = true) : KeepsAt g.M h f := keeps_K hk h R.XIn

theorem core {s : Shared} {Q E : Value → Shared → Prop} {pos : Pos} {f : Value} {first : List Value} {B : List (Bool × Sem Value)} (h : wpAny g.M A (evalArgs f true B []) (fun a s₁ => KeepsAt g.M s₁.heap f ∧ wpAny g.M A (call f (first ++ a.pos) a.kw) Q E s₁) E s) : wpAny g.M A (callWith pos f first B []) Q E s := by
  cases q : B.any (·.1) with
  | false => exact callWith_of (P := fun h => KeepsAt g.M h f) (by rw [q]; rfl) (fun h z => z) h
  | true => exact ks_call (P := fun h => KeepsAt g.M h f) q (fun h z => z) h
noncomputable def ArgP (g : Gx) (A : Around) (env : Env) (vars : Vars) (args : List Expr) (cs : Cs) (P : List T → Cs → Prop) : Prop := match args with
  | [] => P [] cs
  | e :: rest => Evs g A env vars (e :: rest) cs P ∧ starEach (e :: rest) env = (false, eval e env) :: starEach rest env
theorem ArgP.nil {P : List T → Cs → Prop} (h : P [] cs) : ArgP g A env vars [] cs P := h
theorem ArgP.cons {e : Expr} {rest : List Expr} {P : List T → Cs → Prop} (H : Evs g A env vars (e :: rest) cs P) (he : starEach (e :: rest) env = (false, eval e env) :: starEach rest env := by rfl) : ArgP g A env vars (e :: rest) cs P := ⟨H, he⟩
theorem cw {c : Ctx} {s : Shared} {Q E : Value → Shared → Prop} {pos : Pos} {f : Value} {first : List Value} {args : List Expr} {tf : T} {ts0 : List T} (V : VarsOK g env c vars) (R : RF g A c cs s.heap) (rf : VR g.P c.fz tf f) (r0 : VRs g.P c.fz ts0 first)
    (H : ArgP g A env vars args cs fun ts cs' => Cal g A tf (ts0 ++ ts) [] cs' P)
    (k : ∀ fz' r v cs' h' tk', (∀ p ∈ c.fz, p ∈ fz') → P r cs' → VR g.P fz' r v → RF g A (c.with fz') cs' h' → Q v { s with heap := h', toks := tk' }) :
    wpAny g.M A (callWith pos f first (backTo pos (starEach args env)) []) Q E s := by
  refine core ?_
  have fin : ∀ fz' ts vs cs' h' tk', (∀ p ∈ c.fz, p ∈ fz') → Cal g A tf (ts0 ++ ts) [] cs' P → VRs g.P fz' ts vs → RF g A (c.with fz') cs' h' → KeepsAt g.M h' f ∧ wpAny g.M A (call f (first ++ vs) []) Q E { s with heap := h', toks := tk' } := fun fz' ts vs cs' h' tk' m p r R' =>
    p (c.with fz') { s with heap := h', toks := tk' } Q E f (first ++ vs) [] (rf.mono m) ((r0.mono m).append r) .nil R' fun fz'' r v cs'' h'' tk'' m' => k fz'' r v cs'' h'' tk'' fun q hq => m' q (m q hq)
  cases args with
  | nil => exact evalArgs_nil3 (fin c.fz [] [] cs s.heap s.toks (fun _ h => h) H .nil R)
  | cons e rest =>
    obtain ⟨H, he⟩ := H
    rw [he]
    refine evalArgs_plain ?_
    have := H c s pos (fun vs s' => KeepsAt g.M s'.heap f ∧ wpAny g.M A (call f (first ++ vs) []) Q E s') E V R fin
    rw [he] at this
    exact this
theorem Ev.call {func : Expr} {args : List Expr} {pos : Pos} (H : Ev g A env vars func cs fun tf cs₁ => ArgP g A env vars args cs₁ fun ts cs₂ => Cal g A tf ts [] cs₂ P)
    (he : eval (.Call func args [] pos) env = (do callWith pos (← eval func env) [] (backTo pos (starEach args env)) (backToKw pos (keywordEach [] env))) := by rfl) : Ev g A env vars (.Call func args [] pos) cs P := by
  rintro c s Q E _ ⟨V, rfl⟩ R k
  refine Call_ (H.use V R fun fz₁ tf f cs₁ h₁ tk₁ m₁ H₁ r₁ R₁ => ?_) he
  exact cw (c := c.with fz₁) (s := { s with heap := h₁, toks := tk₁ }) (ts0 := []) (V.mono m₁) R₁ r₁ .nil H₁ fun fz₂ r v cs₂ h₂ tk₂ m₂ => k fz₂ r v cs₂ h₂ tk₂ fun q hq => m₂ q (m₁ q hq)
theorem Ev.meth {o : Expr} {name : Str} {apos pos : Pos} {args : List Expr} {pl : Sem Bool} (H : Ev g A env vars o cs fun t cs₁ => ∃ f ts0, GM g A t name cs₁ f ts0 ∧ ArgP g A env vars args cs₁ fun ts cs₂ => Cal g A (.raw f) (ts0 ++ ts) [] cs₂ P)
    (he : eval (.Call (.Attribute o name apos) args [] pos) env = (do
      let ov ← eval o env
      standAt apos.atName
      let (f, first) ← holding [ov] (getMethod ov name pl)
      callWith pos f first (backTo pos (starEach args env)) []) := by rfl) : Ev g A env vars (.Call (.Attribute o name apos) args [] pos) cs P := by
  rintro c s Q E _ ⟨V, rfl⟩ R k
  refine MethodCall_ (H.use V R fun fz₁ t v cs₁ h₁ tk₁ m₁ H₁ r₁ R₁ => ?_) he
  obtain ⟨f, ts0, gm, H₁⟩ := H₁
  refine gm (c.with fz₁) _ v pl _ _ r₁ R₁ fun vs0 tk' r0 => ?_
  exact cw (c := c.with fz₁) (s := { s with heap := h₁, toks := tk' }) (V.mono m₁) R₁ (.raw f) r0 H₁ fun fz₂ r v cs₂ h₂ tk₂ m₂ => k fz₂ r v cs₂ h₂ tk₂ fun q hq => m₂ q (m₁ q hq)

theorem Evs.star {e : Expr} {p : Pos} {rest : List Expr} {P : List T → Cs → Prop} (H : Ev g A env vars e cs fun t cs' => ∃ us, IsL cs' t us ∧ us.length ≤ sizeLine ∧ Evs g A env vars rest cs' fun ts cs'' => P (us ++ ts) cs'')
    (he : starEach (.Starred e p :: rest) env = (true, eval e env) :: starEach rest env := by rfl) : Evs g A env vars (.Starred e p :: rest) cs P := fun c s pos Q E V R k => by
  refine items_star (H.use V R fun fz' t v cs' h' tk' m pp r R' => ?_) he
  obtain ⟨us, il, hz, pp⟩ := pp
  obtain ⟨a, vs, n, rfl, ha, ra⟩ := R'.isL il r
  have hT' : Shared.TypeIs { s with heap := h', toks := tk' } (.ref a) "list" := ⟨_, ha, rfl⟩
  unfold StarOf notIterableAtAll
  refine wpAny_bind (wpAny_specialOf hT' PySem.F.slot_list_iter.lookup (wpAny_pure ⟨rfl, ?_⟩))
  refine wpAny_collect_seq a (.inl rfl) (s := { s with heap := h', toks := tk' }) ha rfl rfl (fun h₂ hk => ?_) (by simpa [ra.length] using hz)
  refine pp (c.with fz') { s with heap := h₂, toks := tk' } pos _ _ (V.mono m) (R'.keeps hk) fun fz'' ts ws cs'' h'' tk'' m' p' r' R'' => ?_
  exact k fz'' _ _ cs'' h'' tk'' (fun q hq => m' q (m q hq)) p' (by simpa using (ra.mono m').append r') R''

theorem Ev.methKw {o e e₂ : Expr} {name x : Str} {apos pos kp : Pos} {pl : Sem Bool} (H : Ev g A env vars o cs fun t cs₁ => ∃ f ts0, GM g A t name cs₁ f ts0 ∧ keepIn (kk g.w.params) f = true ∧ Ev g A env vars e cs₁ fun t₁ cs₂ => Ev g A env vars e₂ cs₂ fun t₂ cs₃ => Cal g A (.raw f) (ts0 ++ [t₁]) [(x, t₂)] cs₃ P)
    (hs : starEach [e] env = (false, eval e env) :: starEach [] env := by rfl)
    (he : eval (.Call (.Attribute o name apos) [e] [⟨some x, e₂, kp⟩] pos) env = (do
      let ov ← eval o env
      standAt apos.atName
      let (f, first) ← holding [ov] (getMethod ov name pl)
      callWith pos f first (backTo pos (starEach [e] env)) (backToKw pos (keywordEach [⟨some x, e₂, kp⟩] env))) := by rfl) : Ev g A env vars (.Call (.Attribute o name apos) [e] [⟨some x, e₂, kp⟩] pos) cs P := by
  rintro c s Q E _ ⟨V, rfl⟩ R k
  refine methodCall_KW (H.use V R fun fz₁ t v cs₁ h₁ tk₁ m₁ H₁ r₁ R₁ => ?_) he
  obtain ⟨f, ts0, gm, hk, H₁⟩ := H₁
  refine gm (c.with fz₁) _ v pl _ _ r₁ R₁ fun vs0 tk' r0 => ?_
  refine callWith_KW R.X hk rfl (args_cons (H₁.use (V.mono m₁) R₁ fun fz₂ t₁ v₁ cs₂ h₂ tk₂ m₂ H₂ r₂ R₂ => args_nil ?_) hs) (by rw [hs]; rfl) hs
  refine evalAll_cons (wpAny_bind (H₂.use ((V.mono m₁).le m₂) R₂ fun fz₃ t₂ v₂ cs₃ h₃ tk₃ m₃ H₃ r₃ R₃ => wpAny_bind (wpAny_standAt (wpAny_pure (evalAll_nil ?_)))))
  exact ⟨R₃.XIn, (H₃ (c.with fz₃) { s with heap := h₃, toks := tk₃ } Q E f (vs0 ++ [v₁]) [v₂] (.raw f) (((r0.mono m₂).mono m₃).append (.cons (r₂.mono m₃) .nil)) (.cons r₃ .nil) R₃ fun fz' r v cs' h' tk' m => k fz' r v cs' h' tk' fun q hq => m q (m₃ q (m₂ q (m₁ q hq)))).2⟩

/-- a def of the top -/
theorem Cal.fn {name qual : Str} {params : Arguments} {body : List Stmt} {scope : Scope} {dV kV doc pm cdv ct oc : Value} {an od : Option Addr} {osl : Array (Option Value)} {f : Addr} {ts : List T} {kw bs : List (Str × T)} {n : Nat}
    (hr : Room A (n + 1)) (ho : (kk g.w.params).lookup f = some ⟨oc, od, .func (fnOf name qual params body scope dV kV doc pm an cdv ct), osl⟩) (hcd : codeIn (kk g.w.params) cdv qual = true)
    (hb : BindP g A.in1 (fnOf name qual params body scope dV kV doc pm an cdv ct) ts kw cs bs)
    (H : ∀ L A', Room A' n → Ex g A' (envX qual scope L f cdv (cellsFrom (L + 1) scope.names [])) body bs cs (fun fl _ cs' => P (retT fl) cs') noX)
    (hkind : (bs.all fun y => scope.names.lookup y.1 == some .local || scope.names.lookup y.1 == some .cell) = true) (hbn : (bs.map (·.1)).Nodup)
    (hnd : ((cellsFrom 0 scope.names []).map (·.1)).Nodup) 
    (hco : scope.isCoroutine = false := by rfl) (hgen : scope.isGenerator = false := by rfl) (hk : scope.kind = .function := by rfl) : Cal g A (.raw (.ref f)) ts kw cs P := by
  intro c s Q E f' vs kvs rf rv rk R k
  cases rf
  refine ⟨⟨.frame, .inl rfl, ?_⟩, wpAny_call (code_fn hr ho hcd hb hkind hbn hnd (fun L => H L _ (hr.deeper _)) hco hgen hk R rv rk k)⟩
  exact (Looks.ld (part := none) (R.XIn _ _ ho)).andThen .now
end

theorem Room.in1 {A : Around} {n : Nat} (h : Room A (n + 1)) : Room A.in1 n := ⟨h.1, by have := h.2.1; show A.depth + n < _; omega, by have := h.2.2; show A.units + 1 + 8 * n + 8 < _; omega⟩
section
variable {g : Gx} {A : Around} {cs : Cs}
/-- arguments by place alone, no defaults -/
theorem len2 {vs : List Value} (h : vs.length = 2) : ∃ v w, vs = [v, w] := by
  cases vs with
  | nil => cases h
  | cons v vs =>
    obtain ⟨w, rfl⟩ := List.length_eq_one_iff.mp (Nat.succ.inj h)
    exact ⟨v, w, rfl⟩
theorem len3 {vs : List Value} (h : vs.length = 3) : ∃ v w u, vs = [v, w, u] := by
  cases vs with
  | nil => cases h
  | cons v vs =>
    obtain ⟨w, u, rfl⟩ := len2 (Nat.succ.inj h)
    exact ⟨v, w, u, rfl⟩
theorem le2 {vs : List Value} (h : vs.length ≤ 2) : vs = [] ∨ (∃ v, vs = [v]) ∨ ∃ v w, vs = [v, w] := by
  cases vs with
  | nil => exact .inl rfl
  | cons v vs =>
    cases vs with
    | nil => exact .inr (.inl ⟨v, rfl⟩)
    | cons w vs => exact .inr (.inr ⟨v, w, by rw [List.length_eq_zero_iff.mp (Nat.le_zero.mp (Nat.le_of_succ_le_succ (Nat.le_of_succ_le_succ h)))]⟩)
theorem at1 {F : List Value → List Value → Prop} (h : ∀ v, F [v] []) (vs kvs : List Value) (h1 : vs.length = 1) (h2 : kvs.length = 0) : F vs kvs := by
  obtain rfl := List.length_eq_zero_iff.mp h2
  obtain ⟨v, rfl⟩ := List.length_eq_one_iff.mp h1
  exact h v
theorem at2 {F : List Value → List Value → Prop} (h : ∀ v w, F [v, w] []) (vs kvs : List Value) (h1 : vs.length = 2) (h2 : kvs.length = 0) : F vs kvs := by
  obtain rfl := List.length_eq_zero_iff.mp h2
  obtain ⟨v, w, rfl⟩ := len2 h1
  exact h v w
theorem at3 {F : List Value → List Value → Prop} (h : ∀ v w u, F [v, w, u] []) (vs kvs : List Value) (h1 : vs.length = 3) (h2 : kvs.length = 0) : F vs kvs := by
  obtain rfl := List.length_eq_zero_iff.mp h2
  obtain ⟨v, w, u, rfl⟩ := len3 h1
  exact h v w u
theorem at21 {F : List Value → List Value → Prop} (h : ∀ v w u, F [v, w] [u]) (vs kvs : List Value) (h1 : vs.length = 2) (h2 : kvs.length = 1) : F vs kvs := by
  obtain ⟨u, rfl⟩ := List.length_eq_one_iff.mp h2
  obtain ⟨v, w, rfl⟩ := len2 h1
  exact h v w u
theorem BindP.plain {fd : FuncData} {ts : List T} {kw bs : List (Str × T)} (h : ∀ vs kvs : List Value, vs.length = ts.length → kvs.length = kw.length → bindArgs fd ⟨vs, (kw.map (·.1)).zip kvs⟩ = pure ((bs.map (·.1)).zip (vs ++ kvs))) (e : bs.map (·.2) = ts ++ kw.map (·.2)) : BindP g A fd ts kw cs bs := by
  intro c s Q E vs kvs R rv rk k
  rw [h vs kvs rv.length (by simpa using rk.length)]
  exact wpAny_pure (k c.fz (vs ++ kvs) s.heap s.toks (fun _ h => h) R (by rw [e]; exact rv.append rk))
theorem BindP.pl1 {fd : FuncData} {x : Str} {t : T} (h : ∀ v, bindArgs fd ⟨[v], []⟩ = pure [(x, v)]) : BindP g A fd [t] [] cs [(x, t)] :=
  BindP.plain (fun vs kvs h1 h2 => at1 (F := fun vs kvs => bindArgs fd ⟨vs, ([].map (fun p : Str × T => p.1)).zip kvs⟩ = pure (([(x, t)].map (·.1)).zip (vs ++ kvs))) h vs kvs h1 h2) rfl
theorem BindP.pl2 {fd : FuncData} {x y : Str} {t u : T} (h : ∀ v w, bindArgs fd ⟨[v, w], []⟩ = pure [(x, v), (y, w)]) : BindP g A fd [t, u] [] cs [(x, t), (y, u)] :=
  BindP.plain (fun vs kvs h1 h2 => at2 (F := fun vs kvs => bindArgs fd ⟨vs, ([].map (fun p : Str × T => p.1)).zip kvs⟩ = pure (([(x, t), (y, u)].map (·.1)).zip (vs ++ kvs))) h vs kvs h1 h2) rfl
theorem BindP.pl3 {fd : FuncData} {x y z : Str} {t u r : T} (h : ∀ v w q, bindArgs fd ⟨[v, w, q], []⟩ = pure [(x, v), (y, w), (z, q)]) : BindP g A fd [t, u, r] [] cs [(x, t), (y, u), (z, r)] :=
  BindP.plain (fun vs kvs h1 h2 => at3 (F := fun vs kvs => bindArgs fd ⟨vs, ([].map (fun p : Str × T => p.1)).zip kvs⟩ = pure (([(x, t), (y, u), (z, r)].map (·.1)).zip (vs ++ kvs))) h vs kvs h1 h2) rfl
theorem BindP.pl21 {fd : FuncData} {x y z : Str} {t u r : T} (h : ∀ v w q, bindArgs fd ⟨[v, w], [(z, q)]⟩ = pure [(x, v), (y, w), (z, q)]) : BindP g A fd [t, u] [(z, r)] cs [(x, t), (y, u), (z, r)] :=
  BindP.plain (fun vs kvs h1 h2 => at21 (F := fun vs kvs => bindArgs fd ⟨vs, ([(z, r)].map (·.1)).zip kvs⟩ = pure (([(x, t), (y, u), (z, r)].map (·.1)).zip (vs ++ kvs))) h vs kvs h1 h2) rfl
end
end Mine
end

noncomputable section
open PySem PySem.W PyProof.Rows PySem.Calls
set_option Elab.async false
set_option linter.unusedVariables false
namespace Mine

section
variable {g : Gx} {A : Around} {c : Ctx} {cs cs' : Cs} {h h' : Heap} {a : Addr}
theorem RF.out (R : RF g A c cs h) (hn : h.objs.size ≤ a) : a ≠ c.L ∧ c.h₀.get? a = none ∧ (∀ p ∈ c.fz ++ c.pc, p.1 ≠ a) ∧ ∀ p ∈ cs, p.1 ≠ a := by
  have hL := R.F.ns.lt
  refine ⟨fun e => absurd hL (Nat.not_lt.mpr (e ▸ hn)), ?_, fun p hp e => absurd (R.lt p hp) (Nat.not_lt.mpr (e ▸ hn)), fun p hp e => absurd (R.ltC p hp) (Nat.not_lt.mpr (e ▸ hn))⟩
  cases q : c.h₀.get? a with
  | none => rfl
  | some o => exact absurd (Heap.lt_size (R.F.keep _ _ q)) (Nat.not_lt.mpr hn)
theorem RF.born {o : Obj} (R : RF g A c cs h) (k : ∀ b ob, h.get? b = some ob → h'.get? b = some ob) (ho : h'.get? a = some o) (hn : h.objs.size ≤ a) : RF g A (c.with ((a, o) :: c.fz)) cs h' := by
  obtain ⟨n1, n2, n3, n4⟩ := R.out hn
  have R' := R.keeps k
  refine ⟨R'.below, R'.F, R'.X, R'.top, fun p hp => ?_, fun p hp => ?_, R'.nd, fun p hp q hq => ?_, fun p hp q hq => ?_, R'.fx.gen (fun b ob _ e => e) R'.fx.ap3 (fun p hp q hq => ?_) fun _ h => .tail _ h⟩
  · rcases List.mem_cons.mp hp with rfl | hp
    · exact ⟨ho, n1, n2⟩
    · exact R'.N p hp
  · obtain ⟨ob, cr, n⟩ := R'.co p hp
    exact ⟨ob, cr.mono fun _ h => .tail _ h, n⟩
  · rcases List.mem_cons.mp hq with rfl | hq
    · exact n4 p hp
    · exact R'.ap p hp q hq
  · rcases List.mem_cons.mp hq with rfl | hq
    · exact n3 p (List.mem_append_right _ hp)
    · exact R'.ap2 p hp q hq
  · rcases List.mem_cons.mp hp with rfl | hp
    · exact fun e => absurd (R.fx.lt hq) (Nat.not_lt.mpr (e ▸ hn))
    · exact R'.fx.ap4 p hp q hq
theorem RF.bornC {o : Obj} {kk : C} (R : RF g A c cs h) (k : ∀ b ob, h.get? b = some ob → h'.get? b = some ob) (ho : h'.get? a = some o) (hn : h.objs.size ≤ a) (cr : CR g.P c.fz a kk o) : RF g A c ((a, kk) :: cs) h' := by
  obtain ⟨n1, n2, n3, n4⟩ := R.out hn
  have R' := R.keeps k
  refine ⟨R'.below, R'.F, R'.X, R'.top, R'.N, fun p hp => ?_, List.nodup_cons.mpr ⟨fun z => ?_, R'.nd⟩, fun p hp q hq => ?_, R'.ap2, R'.fx.gen (fun b ob _ e => e) (fun p hp q hq => ?_) R'.fx.ap4 fun _ h => h⟩
  · rcases List.mem_cons.mp hp with rfl | hp
    · exact ⟨o, cr, fun q hq => by rw [List.mem_singleton.mp hq]; exact ⟨ho, n1, n2⟩⟩
    · exact R'.co p hp
  · obtain ⟨p, hp, e⟩ := List.mem_map.mp z
    exact n4 p hp e
  · rcases List.mem_cons.mp hp with rfl | hp
    · exact Ne.symm (n3 q hq)
    · exact R'.ap p hp q hq
  · rcases List.mem_cons.mp hp with rfl | hp
    · exact fun e => absurd (R.fx.lt hq) (Nat.not_lt.mpr (e ▸ hn))
    · exact R'.fx.ap3 p hp q hq
/-- a list that is changed in place -/
theorem RF.updL {ts ts' : List T} {vs : List Value} {n : Nat} {f : Array Value → Array Value} (R : RF g A c cs h) (U : CU a (.list ts) (.list ts') cs cs') (ha : h.get? a = some (listOf vs.toArray n)) (r : VRs g.P c.fz ts' (f vs.toArray).toList) : RF g A c cs' (h.update a (Obj.mapSeq f)) := by
  refine R.setC U (Heap.SameBut.update ..) (Heap.get?_update_self _ ha rfl) ?_
  have := CR.list (P := g.P) (fz := c.fz) (a := a) (if (f vs.toArray).size == vs.toArray.size then n else n + 1) r
  simpa [Obj.mapSeq, W.listOf] using this
theorem RF.listC {ts : List T} (R : RF g A c cs h) (hm : (a, C.list ts) ∈ cs) : ∃ vs n, h.get? a = some (listOf vs.toArray n) ∧ VRs g.P c.fz ts vs := by
  obtain ⟨o, cr, e⟩ := R.get hm
  cases cr with | list n r => exact ⟨_, n, e, r⟩
end

section
variable {g : Gx} {A : Around} {env : Env} {vars : Vars} {cs cs' : Cs} {P : T → Cs → Prop} {a : Addr}
noncomputable def CalV (g : Gx) (A : Around) (f : Value) (ts : List T) (cs : Cs) (P : T → Cs → Prop) : Prop :=
  ∀ (c : Ctx) (s : Shared) (Q E : Value → Shared → Prop) (vs : List Value), VRs g.P c.fz ts vs → RF g A c cs s.heap →
    (∀ fz' r v cs' h' tk', (∀ p ∈ c.fz, p ∈ fz') → P r cs' → VR g.P fz' r v → RF g A (c.with fz') cs' h' → Q v { s with heap := h', toks := tk' }) → wpAny g.M A (call f vs) Q E s
theorem Cal.b {id : String} {ts : List T} (h : CalV g A (.builtin id) ts cs P) : Cal g A (.raw (.builtin id)) ts [] cs P := fun c s Q E f vs kvs rf rv rk R k => by
  cases rf; cases rk
  exact ⟨.builtin, h c s Q E vs rv R k⟩
theorem Cal.t {id : String} {ts : List T} (h : CalV g A (.type id) ts cs P) : Cal g A (.raw (.type id)) ts [] cs P := fun c s Q E f vs kvs rf rv rk R k => by
  cases rf; cases rk
  exact ⟨.type, h c s Q E vs rv R k⟩

/-- methods of lists -/
theorem GM.list {t : T} {ts : List T} {name : Str} {id : String} (il : IsL cs t ts) (slot : Slot "list" name id) (hty : typeOf (.builtin id) = pure (.type "method_descriptor")) : GM g A t name cs (.builtin id) [t] := by
  intro c s v pl Q E r R k
  obtain ⟨b, vs, n, rfl, ha, ra⟩ := R.isL il r
  exact getMethod_builtin ⟨_, ha, rfl⟩ PySem.F.plainAttrs_list slot hty (fun a e => by cases e; exact ⟨_, ha, rfl⟩) (k [.ref b] s.toks (.cons r .nil))
theorem GM.append {t : T} {ts : List T} (il : IsL cs t ts) : GM g A t "append" cs (.builtin "list.append") [t] := .list il PySem.F.slot_list_append PySem.F.type_list_append
theorem GM.pop {t : T} {ts : List T} (il : IsL cs t ts) : GM g A t "pop" cs (.builtin "list.pop") [t] := .list il PySem.F.slot_list_pop PySem.F.type_list_pop
theorem GM.index {t : T} {ts : List T} (il : IsL cs t ts) : GM g A t "index" cs (.builtin "list.index") [t] := .list il PySem.F.slot_list_index PySem.F.type_list_index
theorem GM.extend {t : T} {ts : List T} (il : IsL cs t ts) : GM g A t "extend" cs (.builtin "list.extend") [t] := .list il PySem.F.slot_list_extend PySem.F.type_list_extend
theorem GM.clear {t : T} {ts : List T} (il : IsL cs t ts) : GM g A t "clear" cs (.builtin "list.clear") [t] := .list il PySem.F.slot_list_clear PySem.F.type_list_clear

theorem Cal.append {ts : List T} {u : T} (U : CU a (.list ts) (.list (ts ++ [u])) cs cs') (hsz : ts.length ≤ sizeLine) (h : P .none cs') : Cal g A (.raw (.builtin "list.append")) [.cel a, u] [] cs P := .b fun c s Q E vs rv R k => by
  cases rv with
  | cons r1 rv =>
  cases r1
  cases rv with
  | cons r2 rv =>
  cases rv
  obtain ⟨ws, n, ha, ra⟩ := R.listC U.mem
  refine call_meets PySem.F.slot_list_append ⟨_, ha, rfl⟩ PySem.F.entry_list_append (PySem.F.args_list_append_2 _ _) (PySem.list_append a ws.toArray n _ (by simpa [ra.length] using hsz)) ⟨ha, ?_⟩
  exact k c.fz _ _ cs' _ s.toks (fun _ h => h) h .none (R.updL U ha (by simpa using ra.append (.cons r2 .nil)))
theorem erase_list (ws : List Value) (j : Nat) (h : j < ws.length) : (ws.toArray.eraseIdxIfInBounds j).toList = ws.eraseIdx j := by
  simp [Array.eraseIdxIfInBounds, h]
theorem erase_last : ∀ (ws : List Value) (n : Nat), ws.length = n + 1 → ws.eraseIdx n = ws.take n
  | [], _, h => by simp at h
  | [_], 0, _ => rfl
  | v :: w :: ws, 0, h => by simp at h
  | v :: ws, n + 1, h => by simp [erase_last ws n (by simpa using h)]
theorem VRs.erase {P : Params} {fz : List (Addr × Obj)} {ts : List T} {vs : List Value} : VRs P fz ts vs → ∀ n : Nat, VRs P fz (ts.eraseIdx n) (vs.eraseIdx n)
  | .nil, n => by simp; exact .nil
  | .cons a r, 0 => r
  | .cons a r, n + 1 => .cons a (r.erase n)
theorem Cal.pop0 {ts : List T} {u : T} (U : CU a (.list (ts ++ [u])) (.list ts) cs cs') (hsz : ts.length + 1 ≤ sizeLine) (h : P u cs') : Cal g A (.raw (.builtin "list.pop")) [.cel a] [] cs P := .b fun c s Q E vs rv R k => by
  cases rv with
  | cons r1 rv =>
  cases r1
  cases rv
  obtain ⟨ws, n, ha, ra⟩ := R.listC U.mem
  have hl : ws.length = ts.length + 1 := by rw [ra.length]; simp
  obtain ⟨v, hv, rv⟩ := ra.get (i := ts.length) (t := u) (by simp)
  have hy : ws.toArray[ws.toArray.size - 1]? = some v := by simpa [hl] using hv
  refine call_meets PySem.F.slot_list_pop ⟨_, ha, rfl⟩ PySem.F.entry_list_pop (PySem.F.args_list_pop_1 _) (PySem.MeetsSeq.list_pop_last a ws.toArray n v hy (by simpa [hl] using hsz)) ⟨ha, ?_⟩
  refine k c.fz _ _ cs' _ s.toks (fun _ h => h) h rv (R.updL U ha ?_)
  have e : (ws.toArray.eraseIdxIfInBounds (ws.toArray.size - 1)).toList = ws.take ts.length := by
    rw [erase_list _ _ (by simp [hl])]
    simp only [List.size_toArray, hl, Nat.add_sub_cancel]
    exact erase_last ws _ hl
  rw [e]
  simpa using ra.take ts.length
theorem Cal.clear {ts : List T} (U : CU a (.list ts) (.list []) cs cs') (hsz : ts.length ≤ sizeLine) (h : P .none cs') : Cal g A (.raw (.builtin "list.clear")) [.cel a] [] cs P := .b fun c s Q E vs rv R k => by
  cases rv with
  | cons r1 rv =>
  cases r1
  cases rv
  obtain ⟨ws, n, ha, ra⟩ := R.listC U.mem
  refine call_meets PySem.F.slot_list_clear ⟨_, ha, rfl⟩ PySem.F.entry_list_clear (PySem.F.args_list_clear_1 _) (AutoSeq1.list_clear_list_0 a ws.toArray n (by simpa [ra.length] using hsz)) ⟨ha, ?_⟩
  exact k c.fz _ _ cs' _ s.toks (fun _ h => h) h .none (R.updL U ha .nil)
theorem Cal.popAt {ts : List T} {u : T} {i : Int} {j : Nat} (U : CU a (.list ts) (.list (ts.eraseIdx j)) cs cs') (hfit : Builtin.List.listFitsIndex i = true) (hj : seqIndex? i ts.length = some j) (hu : ts[j]? = some u) (hsz : ts.length ≤ sizeLine) (h : P u cs') : Cal g A (.raw (.builtin "list.pop")) [.cel a, .int i] [] cs P := .b fun c s Q E vs rv R k => by
  cases rv with
  | cons r1 rv =>
  cases r1
  cases rv with
  | cons r2 rv =>
  cases r2
  cases rv
  obtain ⟨ws, n, ha, ra⟩ := R.listC U.mem
  obtain ⟨v, hv, rv⟩ := ra.get hu
  refine call_meets PySem.F.slot_list_pop ⟨_, ha, rfl⟩ PySem.F.entry_list_pop (PySem.F.args_list_pop_2 _ _) (PySem.MeetsSeq.list_pop_at a ws.toArray n i _ j v hfit (by simpa [ra.length] using hj) (by simpa using hv) (by simpa [ra.length] using hsz)) ⟨ha, ?_⟩
  refine k c.fz _ _ cs' _ s.toks (fun _ h => h) h rv (R.updL U ha ?_)
  rw [erase_list _ _ (by rw [ra.length]; exact (List.getElem?_eq_some_iff.mp hu).1)]
  exact ra.erase j
theorem Cal.extendT {ts us : List T} (U : CU a (.list ts) (.list (ts ++ us)) cs cs') (hsz : ts.length + us.length ≤ 1000) (h : P .none cs') : Cal g A (.raw (.builtin "list.extend")) [.cel a, .tup us] [] cs P := .b fun c s Q E vs rv R k => by
  cases rv with
  | cons r1 rv =>
  cases r1
  cases rv with
  | cons r2 rv =>
  cases rv
  cases r2 with
  | tup hm r2 =>
  rename_i b vs₂ n₂
  obtain ⟨ws, n, ha, ra⟩ := R.listC U.mem
  have hb := R.fzGet hm
  have z : ws.length + vs₂.length ≤ 1000 := by rw [ra.length, r2.length]; exact hsz
  have hL := sizeLine_eq
  refine call_meets PySem.F.slot_list_extend ⟨_, ha, rfl⟩ PySem.F.entry_list_extend (PySem.F.args_list_extend_2 _ _) (AutoSeq1.list_extend_list_tuple_0 a ws.toArray n b vs₂.toArray n₂ (by simp [Builtin.List.listTooLong]; intro _; omega) (by simp; omega) (by simp; omega)) ⟨ha, hb, ?_⟩
  exact k c.fz _ _ cs' _ s.toks (fun _ h => h) h .none (R.updL U ha (by simpa using ra.append r2))
/-- list(x), new and free to change, or not -/
theorem call_listOf {t : T} {us : List T} {c : Ctx} {s : Shared} {Q E : Value → Shared → Prop} {v : Value} (il : IsL cs t us ∨ t = .tup us) (hsz : us.length ≤ sizeLine) (R : RF g A c cs s.heap) (r : VR g.P c.fz t v)
    (k : ∀ h' vs n, VRs g.P c.fz us vs → (∀ b o, s.heap.get? b = some o → h'.get? b = some o) → h'.get? s.heap.objs.size = some (listOf vs.toArray n) → Q (.ref s.heap.objs.size) { s with heap := h' }) : wpAny g.M A (call (.type "list") [v]) Q E s := by
  rcases il with il | rfl
  · obtain ⟨b, vs, n, rfl, ha, ra⟩ := R.isL il r
    exact call_list_seq b (.inl rfl) ha rfl rfl (fun h' c' hk ho => k h' vs c' ra hk ho) (by simpa [ra.length] using hsz)
  · cases r with
    | tup hm ra =>
    exact call_list_seq _ (.inr rfl) (R.fzGet hm) rfl rfl (fun h' c' hk ho => k h' _ c' ra hk ho) (by simpa [ra.length] using hsz)
theorem Cal.list {t : T} {us : List T} (il : IsL cs t us ∨ t = .tup us) (hsz : us.length ≤ sizeLine) (h : P (.list us) cs) : Cal g A (.raw (.type "list")) [t] [] cs P := .t fun c s Q E vs rv R k => by
  cases rv with
  | cons r1 rv =>
  cases rv
  exact call_listOf il hsz R r1 fun h' vs n ra hk ho => k _ _ _ cs h' s.toks (fun q hq => .tail _ hq) h (.list (.head _) (ra.mono fun q hq => .tail _ hq)) (R.born hk ho (Nat.le_refl _))
theorem Cal.listC {t : T} {us : List T} (il : IsL cs t us ∨ t = .tup us) (hsz : us.length ≤ sizeLine) (h : ∀ a, P (.cel a) ((a, .list us) :: cs)) : Cal g A (.raw (.type "list")) [t] [] cs P := .t fun c s Q E vs rv R k => by
  cases rv with
  | cons r1 rv =>
  cases rv
  exact call_listOf il hsz R r1 fun h' vs n ra hk ho => k c.fz _ _ _ h' s.toks (fun q hq => hq) (h _) (.cel _) (R.bornC hk ho (Nat.le_refl _) (.list n ra))
theorem Cal.tupOf {t : T} {us : List T} (il : IsL cs t us) (hsz : us.length ≤ sizeLine) (h : P (.tup us) cs) : Cal g A (.raw (.type "tuple")) [t] [] cs P := .t fun c s Q E vs rv R k => by
  cases rv with
  | cons r1 rv =>
  cases rv
  obtain ⟨b, vs, n, rfl, ha, ra⟩ := R.isL il r1
  refine call_tuple_list ⟨_, ha, rfl, n, rfl⟩ (fun h' hk => ?_) (by simpa [ra.length] using hsz)
  exact k _ _ _ cs _ s.toks (fun q hq => .tail _ hq) h (VR.tup (n := 0) (.head _) (ra.mono fun q hq => .tail _ hq)) ((R.keeps hk).pushFz _)
theorem Cal.len {t : T} {us : List T} (il : IsL cs t us) (hsz : us.length < 2 ^ 63) (h : P (.int us.length) cs) : Cal g A (.raw (.builtin "len")) [t] [] cs P := .b fun c s Q E vs rv R k => by
  cases rv with
  | cons r1 rv =>
  cases rv
  obtain ⟨b, vs, n, rfl, ha, ra⟩ := R.isL il r1
  refine call_len_list ⟨_, ha, rfl, n, rfl⟩ (by simp [ra.length]; omega) ?_
  have := k c.fz (.int us.length) (.int us.length (s.toks + 1)) cs s.heap (s.toks + 1 + 1) (fun _ h => h) h (.int _ _) R
  simpa [ra.length] using this

/-- ints -/
theorem Op2.modII {x y : Int} (hy : y ≠ 0) (h : P (.int (x.fmod y)) cs) : Op2 g A (binaryOp .Mod) (.int x) (.int y) cs P := by
  rintro c s Q E _ ⟨v₁, v₂, h₁, h₂, rfl⟩ R k
  cases h₁; cases h₂
  exact mod_int hy (k c.fz _ _ cs s.heap _ (fun _ h => h) h (.int _ _) R)
theorem Op2.fdivII {x y : Int} (hy : y ≠ 0) (hp : Builtin.divisionGoesByPylong x y = false) (h : P (.int (x.fdiv y)) cs) : Op2 g A (binaryOp .FloorDiv) (.int x) (.int y) cs P := by
  rintro c s Q E _ ⟨v₁, v₂, h₁, h₂, rfl⟩ R k
  cases h₁; cases h₂
  exact PySem.AutoIntOps.floordiv_1 (by simpa using hy) (by simp [hp]) (k c.fz _ _ cs s.heap _ (fun _ h => h) h (.int _ _) R)
end
end Mine
end

noncomputable section
open PySem PySem.W PyProof.Rows PySem.Calls
set_option Elab.async false
set_option linter.unusedVariables false
set_option tactic.hygienic false
namespace Mine

noncomputable def putT (ds : List (Str × T)) (x : Str) (t : T) : List (Str × T) := if ds.any (fun kv => kv.1 = x) then ds.map (fun kv => if kv.1 = x then (kv.1, t) else kv) else ds ++ [(x, t)]
noncomputable def outT (ds : List (Str × T)) (x : Str) : List (Str × T) := ds.filter fun kv => ¬ kv.1 = x
/-- pairs of a dict, side by side -/
inductive VRk (P : Params) (fz : List (Addr × Obj)) : List (Str × T) → List (Str × Value) → Prop where
  | nil : VRk P fz [] []
  | cons {x : Str} {t : T} {v : Value} {ds : List (Str × T)} {kvs : List (Str × Value)} : VR P fz t v → VRk P fz ds kvs → VRk P fz ((x, t) :: ds) ((x, v) :: kvs)
section
variable {P : Params} {fz : List (Addr × Obj)}
theorem VRk.keys {ds : List (Str × T)} {kvs : List (Str × Value)} : VRk P fz ds kvs → kvs.map (·.1) = ds.map (·.1)
  | .nil => rfl
  | .cons _ r => by simp [r.keys]
theorem VRk.any {ds : List (Str × T)} {kvs : List (Str × Value)} (x : Str) : VRk P fz ds kvs → kvs.any (fun kv => kv.1 = x) = ds.any (fun kv => kv.1 = x)
  | .nil => rfl
  | .cons _ r => by simp [r.any x]
theorem VRk.append {ds ds' : List (Str × T)} {kvs kvs' : List (Str × Value)} : VRk P fz ds kvs → VRk P fz ds' kvs' → VRk P fz (ds ++ ds') (kvs ++ kvs')
  | .nil, h => h
  | .cons a r, h => .cons a (r.append h)
theorem VRk.repl {ds : List (Str × T)} {kvs : List (Str × Value)} {x : Str} {t : T} {v : Value} (hv : VR P fz t v) : VRk P fz ds kvs → VRk P fz (ds.map (fun kv => if kv.1 = x then (kv.1, t) else kv)) (kvs.map (fun kv => if kv.1 = x then (kv.1, v) else kv))
  | .nil => .nil
  | .cons (x := y) a r => by
    simp only [List.map_cons]
    by_cases e : y = x
    · simp only [e, if_true]; exact .cons hv (r.repl hv)
    · simp only [e, if_false]; exact .cons a (r.repl hv)
theorem VRk.put {ds : List (Str × T)} {kvs : List (Str × Value)} {x : Str} {t : T} {v : Value} (h : VRk P fz ds kvs) (hv : VR P fz t v) : VRk P fz (putT ds x t) (stored kvs x v) := by
  unfold putT stored
  rw [h.any x]
  cases ds.any (fun kv => kv.1 = x) with
  | true => simp only [if_true]; exact h.repl hv
  | false => simp only [Bool.false_eq_true, if_false]; exact h.append (.cons hv .nil)
theorem VRk.look {ds : List (Str × T)} {kvs : List (Str × Value)} (x : Str) (h : VRk P fz ds kvs) : (∃ t v, ds.lookup x = some t ∧ valueAt kvs x = some v ∧ VR P fz t v) ∨ (ds.lookup x = none ∧ valueAt kvs x = none) := by
  induction h with
  | nil => exact .inr ⟨rfl, rfl⟩
  | @cons y t v ds kvs a r ih =>
    unfold valueAt at ih ⊢
    by_cases e : y = x
    · subst e; exact .inl ⟨t, v, by simp [List.lookup], by simp, a⟩
    · have e1 : (x == y) = false := by simpa using fun q : x = y => e q.symm
      simp only [List.lookup_cons, e1, List.find?_cons, decide_eq_false e]
      exact ih
theorem VRk.out {ds : List (Str × T)} {kvs : List (Str × Value)} (x : Str) : VRk P fz ds kvs → VRk P fz (outT ds x) (without kvs x)
  | .nil => .nil
  | .cons (x := y) a r => by
    have ih := r.out x
    unfold outT without at ih ⊢
    by_cases e : y = x
    · simpa [List.filter_cons, e] using ih
    · have e' : y ≠ x := e
      simp only [List.filter_cons, decide_eq_true e', decide_eq_true (show ¬ y = x from e), if_true]; exact .cons a ih
theorem VRd.pairs {w : World} {prog : Program} {ds : List (Str × T)} {es : List DictEntry} : VRd w.params fz ds es → ∃ kvs, VRk w.params fz ds kvs ∧ Pairs (strKind prog w) es kvs
  | .nil => ⟨[], .nil, .nil⟩
  | .cons (x := x) (tk := tk) a r => by
    obtain ⟨kvs, h1, h2⟩ := r.pairs (prog := prog)
    exact ⟨_, .cons a h1, .cons (strKind_is prog w x tk) rfl h2⟩
theorem VRd.keysOf {w : World} {prog : Program} {ds : List (Str × T)} {es : List DictEntry} (r : VRd w.params fz ds es) : KeysOf (strKind prog w) es.toArray := fun e he => by
  obtain ⟨x, t, e1, e2⟩ := r.keys e (by simpa using he)
  exact ⟨x, by rw [e1]; exact strKind_is prog w x t, e2⟩
/-- as the kit's dict -/
theorem VRd.dictOf {w : World} {prog : Program} {ds : List (Str × T)} {es : List DictEntry} {h : Heap} {a : Addr} {n : Nat} (r : VRd w.params fz ds es) (hn : (ds.map (·.1)).Nodup) (ha : h.get? a = some (W.dictOf es n)) : ∃ kvs, VRk w.params fz ds kvs ∧ h.DictOf (strKind prog w) a kvs := by
  obtain ⟨kvs, h1, h2⟩ := r.pairs (prog := prog)
  exact ⟨kvs, h1, _, es.toArray, n, ha, ⟨rfl, rfl, rfl⟩, rfl, r.keysOf, by simpa using h2, by rw [h1.keys]; exact hn⟩
theorem pairs_back {w : World} {prog : Program} : ∀ {ds : List (Str × T)} {kvs : List (Str × Value)} {es : List DictEntry}, VRk w.params fz ds kvs → Pairs (strKind prog w) es kvs → (∀ e ∈ es, ∃ k, (strKind prog w).is k e.key = true ∧ e.hash = (strKind prog w).hash k) → VRd w.params fz ds es := by
  intro ds kvs es r
  induction r generalizing es with
  | nil => intro p _; cases p; exact .nil
  | cons a r ih =>
    intro p hk
    cases p with
    | @cons e _ _ _ h1 h2 p =>
    obtain ⟨k, q1, q2⟩ := hk e (.head _)
    have ih := ih p fun e he => hk e (.tail _ he)
    obtain ⟨hash, key, val⟩ := e
    obtain ⟨t, rfl⟩ := Value.isStrOf_shape q1
    simp only at h1 h2 q1 q2
    have e1 := (strKind prog w).inj _ _ _ h1 q1
    subst h2
    subst e1
    rw [q2]
    exact .cons a ih
theorem dictOf_back {w : World} {prog : Program} {ds : List (Str × T)} {kvs : List (Str × Value)} {h : Heap} {a : Addr} (r : VRk w.params fz ds kvs) (hd : h.DictOf (strKind prog w) a kvs) : ∃ es n, h.get? a = some (W.dictOf es n) ∧ VRd w.params fz ds es := by
  obtain ⟨⟨oc, od, odt, osl⟩, es, ep, ho, ⟨e1, e2, e3⟩, e4, hk, hp, _⟩ := hd
  simp only at e1 e2 e3 e4
  subst e1 e2 e3 e4
  exact ⟨es.toList, ep, by simpa [W.dictOf] using ho, pairs_back r hp fun e he => hk e (by simpa using he)⟩
end

section
variable {g : Gx} {A : Around} {c : Ctx} {cs cs' : Cs} {h h' : Heap} {a : Addr}
theorem RF.dictC {ds : List (Str × T)} (R : RF g A c cs h) (hm : (a, C.dict ds) ∈ cs) (hn : (ds.map (·.1)).Nodup) : ∃ kvs, (a == sysModules) = false ∧ VRk g.P c.fz ds kvs ∧ h.DictOf (strKind prg g.w) a kvs := by
  obtain ⟨o, cr, e⟩ := R.get hm
  cases cr with
  | dict n q r =>
    obtain ⟨kvs, r1, r2⟩ := VRd.dictOf (w := g.w) (prog := prg) r hn e
    exact ⟨kvs, q, r1, r2⟩
theorem RF.setD {ds ds' : List (Str × T)} {kvs' : List (Str × Value)} (R : RF g A c cs h) (U : CU a (.dict ds) (.dict ds') cs cs') (hs : Heap.SameBut a h h') (q : (a == sysModules) = false) (r : VRk g.P c.fz ds' kvs') (hd : h'.DictOf (strKind prg g.w) a kvs') : RF g A c cs' h' := by
  obtain ⟨es, n, e, rd⟩ := dictOf_back (w := g.w) r hd
  exact R.setC U hs e (.dict n q rd)
theorem RF.lowNew (R : RF g A c cs h) : (h.objs.size == sysModules) = false := R.F.notModules (modules_low R.top.nolimit)
end
section
variable {g : Gx} {A : Around} {env : Env} {vars : Vars} {cs cs' : Cs} {P : T → Cs → Prop} {a : Addr}
theorem Ev.dict0 {pos : Pos} (h : ∀ a, P (.cel a) ((a, .dict []) :: cs)) : Ev g A env vars (.Dict [] [] pos) cs P := by
  rintro c s Q E _ ⟨V, rfl⟩ R k
  exact wpAny_Dict_empty (k c.fz _ _ _ _ s.toks (fun _ h => h) (h _) (.cel _) (R.pushC (.dict 0 R.lowNew .nil)))
theorem swaps_sub {value o i : Expr} {p : Pos} {l : Nat} : swapsWith value (some (.Subscript o i p)) l env = pure false := by
  cases value <;> rfl
/-- one thing stored under a key -/
theorem Ex1.setItem {o i value : Expr} {pos' pos : Pos} {P : Fl → Vars → Cs → Prop} {X : XP} (H : Ev g A env vars value cs fun t cs₁ => Ev g A env vars o cs₁ fun to cs₂ => Ev g A env vars i cs₂ fun ti cs₃ => ∃ a x ds cs₄, to = .cel a ∧ ti = .str x ∧ CU a (.dict ds) (.dict (putT ds x t)) cs₃ cs₄ ∧ (ds.map (·.1)).Nodup ∧ ds.length ≤ sizeLine ∧ P .next vars cs₄) : Ex1 g A env (.Assign [.Subscript o i pos'] value pos) vars cs P X := by
  intro c s Q E S R hE q ee
  refine wpAny_Assign_Subscript (H.use S.ok R fun fz₁ t v cs₁ h₁ tk₁ m₁ H₁ r₁ R₁ => H₁.use (S.ok.mono m₁) R₁ fun fz₂ to ov cs₂ h₂ tk₂ m₂ H₂ r₂ R₂ => H₂.use ((S.ok.mono m₁).le m₂) R₂ fun fz₃ ti iv cs₃ h₃ tk₃ m₃ H₃ r₃ R₃ => ?_) swaps_sub
  obtain ⟨a, x, ds, cs₄, rfl, rfl, U, hn, hz, p⟩ := H₃
  cases r₂; cases r₃
  obtain ⟨kvs, lo, rk, hd⟩ := R₃.dictC U.mem hn
  have hlen : kvs.length = ds.length := by have := congrArg List.length rk.keys; simpa using this
  refine wpAny_setItem_pairs (strKind_is prg g.w x _) (s := { s with heap := h₃, toks := tk₃ }) hd (fun h' hd' hs' => ?_) (by rw [hlen]; exact hz)
  have m : ∀ p ∈ c.fz, p ∈ fz₃ := fun p hp => m₃ p (m₂ p (m₁ p hp))
  exact q (c.with fz₃) .next .next vars cs₄ h' _ (.with m) p .next (S.mono m) (R₃.setD U hs' lo (rk.put ((r₁.mono m₂).mono m₃)) hd')
theorem Op2.inD {t : T} {x : Str} {ds : List (Str × T)} (il : IsD cs t ds) (h : P (.bool (ds.lookup x).isSome) cs) : Op2 g A (compareOp .In) (.str x) t cs P := by
  rintro c s Q E _ ⟨v₁, v₂, h₁, h₂, rfl⟩ R k
  cases h₁
  obtain ⟨a, es, n, rfl, lo, ha, ra⟩ := R.isD il h₂
  refine wpAny_in_of (strKind_is prg g.w x _) lo (ra.map ha) ?_
  have e : (findBy Value.isStrOf es.toArray x).isSome = (ds.lookup x).isSome := by
    rcases ra.find x with ⟨t, v, e1, e2, _⟩ | ⟨e1, e2⟩ <;> rw [e1, e2] <;> rfl
  rw [e]
  exact k c.fz _ _ cs s.heap _ (fun _ h => h) h (.bool _) R
theorem GM.dictGet {t : T} {ds : List (Str × T)} (il : IsD cs t ds) : GM g A t "get" cs (.builtin "dict.get") [t] := by
  intro c s v pl Q E r R k
  obtain ⟨a, es, n, rfl, lo, ha, ra⟩ := R.isD il r
  exact getMethod_builtin ⟨_, ha, rfl⟩ PySem.F.plainAttrs_dict PySem.F.slot_dict_get PySem.F.type_dict_get (fun a e => by cases e; exact ⟨_, ha, rfl⟩) (k [.ref a] s.toks (.cons r .nil))
theorem GM.dictValues {t : T} {ds : List (Str × T)} (il : IsD cs t ds) : GM g A t "values" cs (.builtin "dict.values") [t] := by
  intro c s v pl Q E r R k
  obtain ⟨a, es, n, rfl, lo, ha, ra⟩ := R.isD il r
  exact getMethod_builtin ⟨_, ha, rfl⟩ PySem.F.plainAttrs_dict PySem.F.slot_dict_values PySem.F.type_dict_values (fun a e => by cases e; exact ⟨_, ha, rfl⟩) (k [.ref a] s.toks (.cons r .nil))
theorem Cal.dictGet {t : T} {x : Str} {ds : List (Str × T)} (il : IsD cs t ds) (h : P ((ds.lookup x).getD .none) cs) : Cal g A (.raw (.builtin "dict.get")) [t, .str x] [] cs P := .b fun c s Q E vs rv R k => by
  cases rv with
  | cons r1 rv =>
  cases rv with
  | cons r2 rv =>
  cases r2
  cases rv
  obtain ⟨a, es, n, rfl, lo, ha, ra⟩ := R.isD il r1
  refine call_meetsIn PySem.F.slot_dict_get ⟨_, ha, rfl⟩ PySem.F.entry_dict_get (PySem.F.args_dict_get_2 _ _) (meets_dict_get (strKind prg g.w) a (strKind_is prg g.w x _) lo) ⟨_, ra.map ha, ?_⟩
  rcases ra.find x with ⟨t, v, e1, e2, r⟩ | ⟨e1, e2⟩
  · rw [e2]
    rw [e1] at h
    exact k c.fz _ _ cs s.heap _ (fun _ h => h) h r R
  · rw [e2]
    rw [e1] at h
    exact k c.fz _ _ cs s.heap _ (fun _ h => h) h .none R
end
end Mine
end

noncomputable section
open PySem PySem.W PyProof.Rows PySem.Calls
set_option Elab.async false
set_option linter.unusedVariables false
set_option maxRecDepth 100000
set_option tactic.hygienic false
namespace Mine

section
variable {g : Gx} {A : Around} {env : Env} {vars : Vars} {cs cs' : Cs} {P : T → Cs → Prop} {a : Addr}
theorem le_line {n : Nat} (h : Nat.ble n 1000 = true) : n ≤ sizeLine := by
  have := Nat.le_of_ble_eq_true h
  rw [sizeLine_eq]; omega
theorem CapsOK.nil {env : Env} {scope : Scope} {cl : List (Str × Addr)} {vars : Vars} : CapsOK env scope cl vars [] := fun p hp => nomatch hp
noncomputable def cellish (k : Option NameKind) : Bool := match k with
  | some .cell => true
  | some .free => true
  | _ => false
theorem cellish_or {k : Option NameKind} (h : cellish k = true) : k = some .cell ∨ k = some .free := by
  unfold cellish at h
  split at h <;> simp_all
theorem CapsOK.cons {env : Env} {scope : Scope} {cl : List (Str × Addr)} {vars caps : Vars} {x : Str} {t : T} (r : CapsOK env scope cl vars caps) (h1 : vars.lookup x = some t := by rfl) (h2 : cellish ((relabel scope env).names.lookup x) = true := by kernel_rfl) (h3 : cellish (env.kindOf x) = true := by kernel_rfl) (h4 : cl.lookup x = env.cells.lookup x := by rfl) : CapsOK env scope cl vars ((x, t) :: caps) := fun p hp => by
  rcases List.mem_cons.mp hp with rfl | hp
  · exact ⟨h1, cellish_or h2, cellish_or h3, h4⟩
  · exact r p hp
noncomputable def Has : Vars → Vars → Prop
  | [], _ => True
  | (x, t) :: r, vars => vars.lookup x = some t ∧ Has r vars
theorem Has.k {vs vars : Vars} (h : Has vs vars) : ∀ p ∈ vs, vars.lookup p.1 = some p.2 := by
  induction vs with
  | nil => intro p hp; cases hp
  | cons q r ih =>
    intro p hp
    rcases List.mem_cons.mp hp with rfl | hp
    · exact h.1
    · exact ih h.2 p hp
theorem Cal.range {n : Int} (h : ∀ t u v, P (.at (rngO n t u v)) cs) : Cal g A (.raw (.type "range")) [.int n] [] cs P := .t fun c s Q E vs rv R k => by
  cases rv with
  | cons r1 rv =>
  cases r1; cases rv
  exact call_range_1 (k _ _ _ cs _ _ (fun q hq => .tail _ hq) (h _ _ _) (.at (.head _)) (R.pushFz _))
theorem VRs.ints {P : Params} {fz : List (Addr × Obj)} : ∀ {ns : List Int} {vs : List Value}, VRs P fz (ns.map T.int) vs → AllInts vs.toArray ∧ numsOf vs = ns
  | [], _, .nil => ⟨fun v h => by simp at h, rfl⟩
  | n :: ns, _, .cons a r => by
    obtain ⟨h1, h2⟩ := VRs.ints r
    cases a
    refine ⟨fun v h => ?_, by simp [numsOf, h2]⟩
    simp at h
    rcases h with rfl | h
    · exact ⟨_, _, rfl⟩
    · exact h1 v (by simpa using h)
theorem Cal.sum {t : T} {ns : List Int} (hh : A.handled = none) (il : IsL cs t (ns.map T.int)) (h : P (.int ns.sum) cs) : Cal g A (.raw (.builtin "sum")) [t] [] cs P := .b fun c s Q E vs rv R k => by
  cases rv with
  | cons r1 rv =>
  cases rv
  obtain ⟨b, vs, n, rfl, ha, ra⟩ := R.isL il r1
  obtain ⟨h1, h2⟩ := ra.ints
  obtain ⟨xs, e⟩ := h1.items
  refine sum_intListG hh (xs := xs) ⟨_, ha, rfl, n, by rw [e]⟩ fun h' tk t' hk => ?_
  have e2 : preSum (numAt xs) xs.size = ns.sum := by
    rw [preSum_eq, List.take_of_length_le (by simp), ← nums_intItems, ← e]
    simp [h2]
  rw [e2]
  exact k c.fz _ _ cs h' tk (fun _ h => h) h (.int _ _) (R.keeps hk)
/-- a thing that is not None -/
noncomputable def T.isNone : T → Bool
  | .none => true
  | .raw .none => true
  | _ => false
theorem VR.notNone {P : Params} {fz : List (Addr × Obj)} {t : T} {v : Value} (r : VR P fz t v) (h : t.isNone = false) : v ≠ .none := by
  cases r <;> first | (intro e; cases e; done) | skip
  · cases h
  · intro e; subst e; cases h
theorem VR.none' {P : Params} {fz : List (Addr × Obj)} {t : T} {v : Value} (r : VR P fz t v) (h : t.isNone = true) : v = .none := by
  cases r <;> first | rfl | (cases h; done) | skip
  cases v <;> first | rfl | cases h
theorem Op2.isNone {t : T} (h : P (.bool t.isNone) cs) : Op2 g A (compareOp .Is) t .none cs P := by
  rintro c s Q E _ ⟨v₁, v₂, h₁, h₂, rfl⟩ R k
  cases h₂
  cases e : t.isNone with
  | true =>
    rw [h₁.none' e]
    rw [e] at h
    exact wpAny_is_self (by rfl) (k c.fz _ _ cs s.heap s.toks (fun _ h => h) h (.bool _) R)
  | false =>
    rw [e] at h
    exact is_none_ne (h₁.notNone e) (k c.fz _ _ cs s.heap s.toks (fun _ h => h) h (.bool _) R)
theorem Op2.isNotNone {t : T} (h : P (.bool (!t.isNone)) cs) : Op2 g A (compareOp .IsNot) t .none cs P := by
  rintro c s Q E _ ⟨v₁, v₂, h₁, h₂, rfl⟩ R k
  cases h₂
  cases e : t.isNone with
  | true =>
    rw [h₁.none' e]
    rw [e] at h
    exact wpAny_isNot_self (by rfl) (k c.fz _ _ cs s.heap s.toks (fun _ h => h) h (.bool _) R)
  | false =>
    rw [e] at h
    exact isnot_none_ne (h₁.notNone e) (k c.fz _ _ cs s.heap s.toks (fun _ h => h) h (.bool _) R)
theorem GM.strM {x : Str} {name : Str} {id : String} (slot : Slot "str" name id) (hty : typeOf (.builtin id) = pure (.type "method_descriptor")) : GM g A (.str x) name cs (.builtin id) [.str x] := by
  intro c s v pl Q E r R k
  cases r
  exact getMethod_builtin (typeIs_str s x _) PySem.F.plainAttrs_str slot hty (fun a e => by cases e) (k [_] s.toks (.cons (.str _ _) .nil))
theorem GM.lower {x : Str} : GM g A (.str x) "lower" cs (.builtin "str.lower") [.str x] := .strM PySem.F.slot_str_lower PySem.F.type_str_lower
theorem GM.upper {x : Str} : GM g A (.str x) "upper" cs (.builtin "str.upper") [.str x] := .strM PySem.F.slot_str_upper PySem.F.type_str_upper
theorem Cal.lower {x y : Str} (hy : Txt.lower x = y) (hz : y.length ≤ 1000) (h : P (.str y) cs) : Cal g A (.raw (.builtin "str.lower")) [.str x] [] cs P := .b fun c s Q E vs rv R k => by
  cases rv with
  | cons r1 rv =>
  cases r1; cases rv
  have hf : Builtin.Str.tooLong (Txt.lower x).length = false := by
    rw [hy]; have := sizeLine_eq; simp [Builtin.Str.tooLong]; omega
  subst hy
  exact call_gives PySem.F.slot_str_lower (typeIs_str s x _) PySem.F.entry_str_lower (PySem.F.args_str_lower_1 _) (gives_str_lower x _ hf) ⟨fit_le hf, k c.fz _ _ cs s.heap _ (fun _ h => h) h (.str _ _) R⟩
theorem Cal.upper {x y : Str} (hy : Txt.upper x = y) (hz : y.length ≤ 1000) (h : P (.str y) cs) : Cal g A (.raw (.builtin "str.upper")) [.str x] [] cs P := .b fun c s Q E vs rv R k => by
  cases rv with
  | cons r1 rv =>
  cases r1; cases rv
  have hf : Builtin.Str.tooLong (Txt.upper x).length = false := by
    rw [hy]; have := sizeLine_eq; simp [Builtin.Str.tooLong]; omega
  subst hy
  exact call_gives PySem.F.slot_str_upper (typeIs_str s x _) PySem.F.entry_str_upper (PySem.F.args_str_upper_1 _) (gives_str_upper x _ hf) ⟨fit_le hf, k c.fz _ _ cs s.heap _ (fun _ h => h) h (.str _ _) R⟩
theorem low_p : Txt.lower "p" = "p" := by decide +kernel
theorem low_P : Txt.lower "P" = "p" := by decide +kernel
theorem low_q : Txt.lower "q" = "q" := by decide +kernel
theorem low_Q : Txt.lower "Q" = "q" := by decide +kernel
theorem up_p : Txt.upper "p" = "P" := by decide +kernel
theorem up_q : Txt.upper "q" = "Q" := by decide +kernel
end
end Mine
end

noncomputable section
open PySem PySem.W PyProof.Rows PySem.Calls
set_option Elab.async false
set_option linter.unusedVariables false
set_option maxRecDepth 100000
set_option tactic.hygienic false
namespace Mine
section
variable {g : Gx} {A : Around} {env : Env} {vars : Vars} {cs : Cs} {P : T → Cs → Prop} {pos : Pos}
structure GB (env : Env) (x : Str) : Prop where
  hg : env.globals = mainGlobals
  hb : env.builtins = builtinsNs
  hk : env.scope.kind = .function
  hx : env.kindOf x = some .globalImplicit
theorem ns_range (P : Params) : nsIn (kk P) mainGlobals "range" = some none := by rfl
theorem Ev.b_range (hy : GB env "range") (h : P (.raw (.type "range")) cs) : Ev g A env vars (.Name "range" pos) cs P := Ev.bltn (ns_range _) PyProof.Rows.Boot.range h (by decide) hy.hg hy.hb hy.hk hy.hx (by decide)
theorem ns_sum (P : Params) : nsIn (kk P) mainGlobals "sum" = some none := by rfl
theorem Ev.b_sum (hy : GB env "sum") (h : P (.raw (.builtin "sum")) cs) : Ev g A env vars (.Name "sum" pos) cs P := Ev.bltn (ns_sum _) PyProof.Rows.Boot.sum h (by decide) hy.hg hy.hb hy.hk hy.hx (by decide)
theorem ns_len (P : Params) : nsIn (kk P) mainGlobals "len" = some none := by rfl
theorem Ev.b_len (hy : GB env "len") (h : P (.raw (.builtin "len")) cs) : Ev g A env vars (.Name "len" pos) cs P := Ev.bltn (ns_len _) PyProof.Rows.Boot.len h (by decide) hy.hg hy.hb hy.hk hy.hx (by decide)
theorem ns_list (P : Params) : nsIn (kk P) mainGlobals "list" = some none := by rfl
theorem Ev.b_list (hy : GB env "list") (h : P (.raw (.type "list")) cs) : Ev g A env vars (.Name "list" pos) cs P := Ev.bltn (ns_list _) PyProof.Rows.Boot.list h (by decide) hy.hg hy.hb hy.hk hy.hx (by decide)
theorem ns_tuple (P : Params) : nsIn (kk P) mainGlobals "tuple" = some none := by rfl
theorem Ev.b_tuple (hy : GB env "tuple") (h : P (.raw (.type "tuple")) cs) : Ev g A env vars (.Name "tuple" pos) cs P := Ev.bltn (ns_tuple _) PyProof.Rows.Boot.tuple h (by decide) hy.hg hy.hb hy.hk hy.hx (by decide)
theorem ns_type (P : Params) : nsIn (kk P) mainGlobals "type" = some none := by rfl
theorem Ev.b_type (hy : GB env "type") (h : P (.raw (.type "type")) cs) : Ev g A env vars (.Name "type" pos) cs P := Ev.bltn (ns_type _) PyProof.Rows.Boot.type h (by decide) hy.hg hy.hb hy.hk hy.hx (by decide)
theorem ns_sorted (P : Params) : nsIn (kk P) mainGlobals "sorted" = some none := by rfl
theorem Ev.b_sorted (hy : GB env "sorted") (h : P (.raw (.builtin "sorted")) cs) : Ev g A env vars (.Name "sorted" pos) cs P := Ev.bltn (ns_sorted _) PyProof.Rows.Boot.sorted h (by decide) hy.hg hy.hb hy.hk hy.hx (by decide)
theorem ns_iter (P : Params) : nsIn (kk P) mainGlobals "iter" = some none := by rfl
theorem Ev.b_iter (hy : GB env "iter") (h : P (.raw (.builtin "iter")) cs) : Ev g A env vars (.Name "iter" pos) cs P := Ev.bltn (ns_iter _) PyProof.Rows.Boot.iter h (by decide) hy.hg hy.hb hy.hk hy.hx (by decide)
theorem ns_set (P : Params) : nsIn (kk P) mainGlobals "set" = some none := by rfl
theorem Ev.b_set (hy : GB env "set") (h : P (.raw (.type "set")) cs) : Ev g A env vars (.Name "set" pos) cs P := Ev.bltn (ns_set _) PyProof.Rows.Boot.set h (by decide) hy.hg hy.hb hy.hk hy.hx (by decide)
theorem ns_str (P : Params) : nsIn (kk P) mainGlobals "str" = some none := by rfl
theorem Ev.b_str (hy : GB env "str") (h : P (.raw (.type "str")) cs) : Ev g A env vars (.Name "str" pos) cs P := Ev.bltn (ns_str _) PyProof.Rows.Boot.str h (by decide) hy.hg hy.hb hy.hk hy.hx (by decide)
theorem ns_next (P : Params) : nsIn (kk P) mainGlobals "next" = some none := by rfl
theorem ns_RuntimeError (P : Params) : nsIn (kk P) mainGlobals "RuntimeError" = some none := by rfl
theorem ns_StopIteration (P : Params) : nsIn (kk P) mainGlobals "StopIteration" = some none := by rfl
theorem ns_ValueError (P : Params) : nsIn (kk P) mainGlobals "ValueError" = some none := by rfl
theorem ns_TypeError (P : Params) : nsIn (kk P) mainGlobals "TypeError" = some none := by rfl
theorem ns__name_disallowed_re (P : Params) : nsIn (kk P) mainGlobals "_name_disallowed_re" = some (some (.ref 43)) := by rfl
theorem Ev.g__name_disallowed_re (hy : GB env "_name_disallowed_re") (h : P (.raw (.ref 43)) cs) : Ev g A env vars (.Name "_name_disallowed_re" pos) cs P := Ev.glob (ns__name_disallowed_re _) h hy.hg hy.hk hy.hx (by decide)
theorem ns__value_disallowed_re (P : Params) : nsIn (kk P) mainGlobals "_value_disallowed_re" = some (some (.ref 48)) := by rfl
theorem Ev.g__value_disallowed_re (hy : GB env "_value_disallowed_re") (h : P (.raw (.ref 48)) cs) : Ev g A env vars (.Name "_value_disallowed_re" pos) cs P := Ev.glob (ns__value_disallowed_re _) h hy.hg hy.hk hy.hx (by decide)
theorem ns_Headers (P : Params) : nsIn (kk P) mainGlobals "Headers" = some (some (.ref 171)) := by rfl
theorem Ev.g_Headers (hy : GB env "Headers") (h : P (.raw (.ref 171)) cs) : Ev g A env vars (.Name "Headers" pos) cs P := Ev.glob (ns_Headers _) h hy.hg hy.hk hy.hx (by decide)
theorem ns__initial_missing (P : Params) : nsIn (kk P) mainGlobals "_initial_missing" = some (some (.ref 176)) := by rfl
theorem Ev.g__initial_missing (hy : GB env "_initial_missing") (h : P (.raw (.ref 176)) cs) : Ev g A env vars (.Name "_initial_missing" pos) cs P := Ev.glob (ns__initial_missing _) h hy.hg hy.hk hy.hx (by decide)
theorem ns_reduce (P : Params) : nsIn (kk P) mainGlobals "reduce" = some (some (.ref 184)) := by rfl
theorem Ev.g_reduce (hy : GB env "reduce") (h : P (.raw (.ref 184)) cs) : Ev g A env vars (.Name "reduce" pos) cs P := Ev.glob (ns_reduce _) h hy.hg hy.hk hy.hx (by decide)
theorem ns__c3_merge (P : Params) : nsIn (kk P) mainGlobals "_c3_merge" = some (some (.ref 189)) := by rfl
theorem Ev.g__c3_merge (hy : GB env "_c3_merge") (h : P (.raw (.ref 189)) cs) : Ev g A env vars (.Name "_c3_merge" pos) cs P := Ev.glob (ns__c3_merge _) h hy.hg hy.hk hy.hx (by decide)
theorem ns__NodeInfo (P : Params) : nsIn (kk P) mainGlobals "_NodeInfo" = some (some (.ref 208)) := by rfl
theorem Ev.g__NodeInfo (hy : GB env "_NodeInfo") (h : P (.raw (.ref 208)) cs) : Ev g A env vars (.Name "_NodeInfo" pos) cs P := Ev.glob (ns__NodeInfo _) h hy.hg hy.hk hy.hx (by decide)
theorem ns_CycleError (P : Params) : nsIn (kk P) mainGlobals "CycleError" = some (some (.ref 223)) := by rfl
theorem ns_TopologicalSorter (P : Params) : nsIn (kk P) mainGlobals "TopologicalSorter" = some (some (.ref 305)) := by rfl
theorem Ev.g_TopologicalSorter (hy : GB env "TopologicalSorter") (h : P (.raw (.ref 305)) cs) : Ev g A env vars (.Name "TopologicalSorter" pos) cs P := Ev.glob (ns_TopologicalSorter _) h hy.hg hy.hk hy.hx (by decide)
theorem ns__law_bases (P : Params) : nsIn (kk P) mainGlobals "_law_bases" = some (some (.ref 314)) := by rfl
theorem Ev.g__law_bases (hy : GB env "_law_bases") (h : P (.raw (.ref 314)) cs) : Ev g A env vars (.Name "_law_bases" pos) cs P := Ev.glob (ns__law_bases _) h hy.hg hy.hk hy.hx (by decide)
theorem ns__law_owns (P : Params) : nsIn (kk P) mainGlobals "_law_owns" = some (some (.ref 319)) := by rfl
theorem Ev.g__law_owns (hy : GB env "_law_owns") (h : P (.raw (.ref 319)) cs) : Ev g A env vars (.Name "_law_owns" pos) cs P := Ev.glob (ns__law_owns _) h hy.hg hy.hk hy.hx (by decide)
theorem ns__law_run (P : Params) : nsIn (kk P) mainGlobals "_law_run" = some (some (.ref 326)) := by rfl
theorem Ev.g__law_run (hy : GB env "_law_run") (h : P (.raw (.ref 326)) cs) : Ev g A env vars (.Name "_law_run" pos) cs P := Ev.glob (ns__law_run _) h hy.hg hy.hk hy.hx (by decide)
theorem ns__law_lines (P : Params) : nsIn (kk P) mainGlobals "_law_lines" = some (some (.ref 331)) := by rfl
theorem Ev.g__law_lines (hy : GB env "_law_lines") (h : P (.raw (.ref 331)) cs) : Ev g A env vars (.Name "_law_lines" pos) cs P := Ev.glob (ns__law_lines _) h hy.hg hy.hk hy.hx (by decide)
theorem ns__law_plain_lines (P : Params) : nsIn (kk P) mainGlobals "_law_plain_lines" = some (some (.ref 336)) := by rfl
theorem Ev.g__law_plain_lines (hy : GB env "_law_plain_lines") (h : P (.raw (.ref 336)) cs) : Ev g A env vars (.Name "_law_plain_lines" pos) cs P := Ev.glob (ns__law_plain_lines _) h hy.hg hy.hk hy.hx (by decide)
theorem ns__law_tables (P : Params) : nsIn (kk P) mainGlobals "_law_tables" = some (some (.ref 341)) := by rfl
theorem Ev.g__law_tables (hy : GB env "_law_tables") (h : P (.raw (.ref 341)) cs) : Ev g A env vars (.Name "_law_tables" pos) cs P := Ev.glob (ns__law_tables _) h hy.hg hy.hk hy.hx (by decide)
theorem ns__law_first (P : Params) : nsIn (kk P) mainGlobals "_law_first" = some (some (.ref 346)) := by rfl
theorem Ev.g__law_first (hy : GB env "_law_first") (h : P (.raw (.ref 346)) cs) : Ev g A env vars (.Name "_law_first" pos) cs P := Ev.glob (ns__law_first _) h hy.hg hy.hk hy.hx (by decide)
theorem ns__law_inherited (P : Params) : nsIn (kk P) mainGlobals "_law_inherited" = some (some (.ref 351)) := by rfl
theorem Ev.g__law_inherited (hy : GB env "_law_inherited") (h : P (.raw (.ref 351)) cs) : Ev g A env vars (.Name "_law_inherited" pos) cs P := Ev.glob (ns__law_inherited _) h hy.hg hy.hk hy.hx (by decide)
theorem ns__NODE_OUT (P : Params) : nsIn (kk P) mainGlobals "_NODE_OUT" = some (some (.int (-1) 532)) := by rfl
theorem Ev.g__NODE_OUT (hy : GB env "_NODE_OUT") (h : P (.int (-1)) cs) : Ev g A env vars (.Name "_NODE_OUT" pos) cs P := by
  rintro c s Q E _ ⟨V, rfl⟩ R k
  exact nameG_K R.F R.X (topRead_of R.top) (ns__NODE_OUT _) (k c.fz _ _ cs s.heap s.toks (fun _ h => h) h (.int _ _) R) hy.hg hy.hk hy.hx (by decide)
theorem ns__NODE_DONE (P : Params) : nsIn (kk P) mainGlobals "_NODE_DONE" = some (some (.int (-2) 535)) := by rfl
theorem Ev.g__NODE_DONE (hy : GB env "_NODE_DONE") (h : P (.int (-2)) cs) : Ev g A env vars (.Name "_NODE_DONE" pos) cs P := by
  rintro c s Q E _ ⟨V, rfl⟩ R k
  exact nameG_K R.F R.X (topRead_of R.top) (ns__NODE_DONE _) (k c.fz _ _ cs s.heap s.toks (fun _ h => h) h (.int _ _) R) hy.hg hy.hk hy.hx (by decide)
end
end Mine
end

local macro_rules | `(tactic| walk_at "ev") => `(tactic| first
  | refine Mine.Ev.name rfl ?_
  | refine Mine.Ev.cint ?_
  | refine Mine.Ev.cstr ?_
  | refine Mine.Ev.cnone ?_
  | refine Mine.Ev.cbool ?_
  | refine Mine.Ev.bin ?_
  | refine Mine.Ev.slice ?_
  | refine Mine.Ev.sub ?_
  | refine Mine.Ev.list ?_
  | refine Mine.Ev.tup ?_
  | refine Mine.Ev.cmp ?_
  | refine Mine.Evs.nil ?_
  | refine Mine.Evs.cons ?_
  | refine Mine.Ev.call ?_
  | refine Mine.ArgP.nil ?_
  | refine Mine.ArgP.cons ?_
  | refine Mine.EvO.none ?_
  | refine Mine.EvO.some ?_)

noncomputable section
open PySem PySem.W PyProof.Rows PySem.Calls
set_option Elab.async false
set_option linter.unusedVariables false
set_option maxRecDepth 100000
set_option pp.deepTerms false
set_option pp.deepTerms.threshold 3
set_option tactic.hygienic false
namespace Mine
section
variable {g : Gx} {A : Around} {c : Ctx} {cs cs' : Cs} {h : Heap} {a : Addr} {k : C} {env : Env} {vars : Vars} {P : T → Cs → Prop}
/-- a thing that changes no more -/
theorem RF.freeze (R : RF g A c ((a, k) :: cs) h) : ∃ o, CR g.P c.fz a k o ∧ RF g A (c.with ((a, o) :: c.fz)) cs h := by
  obtain ⟨o, cr, n⟩ := R.co _ (.head _)
  have nd := List.nodup_cons.mp R.nd
  refine ⟨o, cr, R.below, R.F, R.X, R.top, fun p hp => ?_, fun p hp => ?_, nd.2, fun p hp q hq => ?_, fun p hp q hq => ?_, R.fx.gen (fun b ob _ e => e) (fun p hp => R.fx.ap3 p (.tail _ hp)) (fun p hp q hq => ?_) fun _ h => .tail _ h⟩
  · rcases List.mem_cons.mp hp with rfl | hp
    · exact n _ (.head _)
    · exact R.N p hp
  · obtain ⟨ob, cr', n'⟩ := R.co p (.tail _ hp)
    exact ⟨ob, cr'.mono fun _ h => .tail _ h, n'⟩
  · rcases List.mem_cons.mp hq with rfl | hq
    · exact fun e => nd.1 (List.mem_map.mpr ⟨p, hp, e⟩)
    · exact R.ap p (.tail _ hp) q hq
  · rcases List.mem_cons.mp hq with rfl | hq
    · exact fun e => R.ap _ (.head _) p (List.mem_append_right _ hp) e.symm
    · exact R.ap2 p hp q hq
  · rcases List.mem_cons.mp hp with rfl | hp
    · exact R.fx.ap3 _ (.head _) q hq
    · exact R.fx.ap4 p hp q hq
theorem Ev.freezeD {e : Expr} (H : Ev g A env vars e cs fun t cs' => ∃ a ds cs'', t = .cel a ∧ cs' = (a, .dict ds) :: cs'' ∧ P (.dict ds) cs'') : Ev g A env vars e cs P := by
  rintro c s Q E _ ⟨V, rfl⟩ R k
  refine H.use V R fun fz' t v cs' h' tk' m p r R' => ?_
  obtain ⟨a, ds, cs'', rfl, rfl, p⟩ := p
  cases r
  obtain ⟨o, cr, R''⟩ := R'.freeze
  cases cr with
  | dict n q rd => exact k _ _ _ cs'' h' tk' (fun q hq => .tail _ (m q hq)) p (.dict q (.head _) (rd.mono fun _ h => .tail _ h)) R''
theorem Ev.freezeL {e : Expr} (H : Ev g A env vars e cs fun t cs' => ∃ a ds cs'', t = .cel a ∧ cs' = (a, .list ds) :: cs'' ∧ P (.list ds) cs'') : Ev g A env vars e cs P := by
  rintro c s Q E _ ⟨V, rfl⟩ R k
  refine H.use V R fun fz' t v cs' h' tk' m p r R' => ?_
  obtain ⟨a, ds, cs'', rfl, rfl, p⟩ := p
  cases r
  obtain ⟨o, cr, R''⟩ := R'.freeze
  cases cr with
  | list n rd => exact k _ _ _ cs'' h' tk' (fun q hq => .tail _ (m q hq)) p (.list (.head _) (rd.mono fun _ h => .tail _ h)) R''
end
noncomputable abbrev ltr (n : Nat) : Str := ⟨#[97 + n]⟩
noncomputable abbrev lT (n : Nat) : T := .str (ltr n)
noncomputable abbrev lTs (ns : List Nat) : T := .list (ns.map lT)
theorem abcde_at (u : Int) (h0 : 0 ≤ u) (h5 : u < 5) : (seqIndex? u (Str.length "abcde")).bind ((Str.cps "abcde")[·]?) = some (97 + u.toNat) := by
  have : u = 0 ∨ u = 1 ∨ u = 2 ∨ u = 3 ∨ u = 4 := by omega
  rcases this with rfl | rfl | rfl | rfl | rfl <;> decide +kernel
noncomputable def tabT (f : Nat → T) (j : Nat) : List (Str × T) := (List.range j).map fun i => (ltr i, f i)
theorem ltr_inj {i j : Nat} (h : ltr i = ltr j) : i = j := by
  have := congrArg (fun s : Str => s.cps.toList) h
  simp at this
  exact this
theorem tab_keys (f : Nat → T) (j : Nat) : (tabT f j).map (·.1) = (List.range j).map ltr := by simp [tabT]
theorem tab_nodup (f : Nat → T) (j : Nat) : ((tabT f j).map (·.1)).Nodup := by
  rw [tab_keys]
  exact List.pairwise_map.mpr (List.nodup_range.imp fun h e => h (ltr_inj e))
theorem tab_len (f : Nat → T) (j : Nat) : (tabT f j).length = j := by simp [tabT]
theorem tab_put (f : Nat → T) (j : Nat) : putT (tabT f j) (ltr j) (f j) = tabT f (j + 1) := by
  unfold putT
  have : (tabT f j).any (fun kv => kv.1 = ltr j) = false := by
    rw [List.any_eq_false]
    intro p hp
    obtain ⟨i, hi, rfl⟩ := List.mem_map.mp hp
    simp only [decide_eq_true_eq]
    intro e
    have := ltr_inj e
    have := List.mem_range.mp hi
    omega
  rw [this]
  simp [tabT, List.range_succ]
theorem tab_look (f : Nat → T) (j i : Nat) (h : i < j) : (tabT f j).lookup (ltr i) = some (f i) := by
  induction j with
  | zero => omega
  | succ j ih =>
    have e : tabT f (j + 1) = tabT f j ++ [(ltr j, f j)] := by simp [tabT, List.range_succ]
    rw [e, List.lookup_append]
    by_cases q : i < j
    · rw [ih q]; rfl
    · have e : i = j := by omega
      subst e
      have : (tabT f i).lookup (ltr i) = none := by
        rw [List.lookup_eq_none_iff]
        intro p hp
        obtain ⟨k, hk, rfl⟩ := List.mem_map.mp hp
        have := List.mem_range.mp hk
        have : ¬ ltr i = ltr k := fun z => by have := ltr_inj z; omega
        simpa using this
      rw [this]; simp [List.lookup]
theorem pylong_no (x y : Int) (h0 : 0 < y) (h1 : y < 1000) : Builtin.divisionGoesByPylong x y = false := by
  have h2 : y.natAbs.log2 < 30 := (Nat.log2_lt (by omega)).mpr (by omega)
  have h3 : y.natAbs.log2 / 30 = 0 := Nat.div_eq_of_lt h2
  unfold Builtin.divisionGoesByPylong
  simp only [h3]
  split <;> simp
noncomputable def inInt (ns : List Int) (lo st : Option Int) : List Int := (sliceRange (sliceBounds lo none st ns.length).1 (sliceBounds lo none st ns.length).2.1 (sliceBounds lo none st ns.length).2.2).filterMap (ns[·]?)
theorem pick_ints (ns : List Int) (lo st : Option Int) : pickT (ns.map T.int) lo none st = (inInt ns lo st).map T.int := by
  unfold pickT inInt
  rw [List.map_filterMap, List.length_map]
  congr 1
  funext j
  simp
noncomputable def basAt (ns : List Int) (i : Nat) : List Nat :=
  let pick : Int := ([0, 0, 0, 9, 7] : List Int).getD i 0 + (inInt ns (some i) (some 5)).sum
  let u := pick.fmod (i + 1)
  let v := (pick.fdiv (i + 1)).fmod (i + 1)
  (if u < i then [u.toNat] else []) ++ (if v < i ∧ v ≠ u then [v.toNat] else [])
noncomputable abbrev basesT (ns : List Int) (j : Nat) : List (Str × T) := tabT (fun i => lTs (basAt ns i)) j


theorem small5 : Builtin.Range.small 0 ((5 : Nat) : Int) 1 = true := by decide +kernel
theorem size5 : Builtin.Range.rangeSize 0 ((5 : Nat) : Int) 1 = ((5 : Nat) : Int) := by decide +kernel
inductive BasI (a : Addr) (ns : List Int) (cs : Cs) (us : List T) (vars : Vars) (c : Cs) : Prop
  | mk  (j : Nat) (f1 : j ≤ 5) (f2 : us = (List.range' j (5 - j)).map (fun (i : Nat) => T.int (i : Int))) (f3 : c = (a, .dict (basesT ns j)) :: cs) (f4 : Has [("bases", .cel a), ("draws", .list (ns.map T.int))] vars)
theorem bases_spec {g : Gx} {A : Around} {cs : Cs} {P : T → Cs → Prop} {n : Nat} (hr : Room A (n + 2)) (ns : List Int) (hn : ∀ x ∈ ns, 0 ≤ x ∧ x < 100) (hl : ns.length ≤ 10) (h : P (.dict (basesT ns 5)) cs) : Cal g A (.raw (.ref 314)) [.list (ns.map T.int)] [] cs P := by
  refine Cal.fn (n := n + 1) (bs := [("draws", .list (ns.map T.int))]) hr rfl rfl (BindP.pl1 (fun v => ?_)) (fun L A' hr' => ?_) rfl (by simp) (by decide)
  · rfl
  have hh := hr'.1
  refine Ex.cons ?_
  refine Ex1.assignL (Ev.dict0 fun a => ?_)
  refine Ex.cons ?_
  refine Ex1.for_ ?_
  refine Ev.call (Ev.b_range ⟨rfl, rfl, rfl, rfl⟩ ?_)
  repeat walk_at "ev"
  refine Cal.range fun t u v => ?_
  refine ⟨_, _, Itb.range (n := 5) hh small5 size5, ?_⟩
  refine ForP.inv (BasI a ns cs) ?_ ?_ _ _ _ ⟨0, by omega, rfl, rfl, rfl, rfl, trivial⟩
  · rintro u rest vars c ⟨j, hj, e, rfl, hv⟩
    have hj5 : j < 5 := by
      rcases Nat.lt_or_ge j 5 with q | q
      · exact q
      · rw [show 5 - j = 0 by omega] at e; cases e
    rw [show 5 - j = (5 - (j + 1)) + 1 by omega, List.range'_succ] at e
    simp only [List.map_cons, List.cons.injEq] at e
    obtain ⟨rfl, rfl⟩ := e
    refine As.weaken hv.k (As.nameK ?_)
    refine Ex.cons ?_
    refine Ex1.assignL ?_
    repeat walk_at "ev"
    refine ⟨le_line rfl, ?_⟩
    walk_at "ev"
    refine Sub.list (.fz _) (by omega) (by omega) (u := .int (([0, 0, 0, 9, 7] : List Int).getD j 0)) ?_ ?_
    · have : j = 0 ∨ j = 1 ∨ j = 2 ∨ j = 3 ∨ j = 4 := by omega
      rcases this with rfl | rfl | rfl | rfl | rfl <;> rfl
    refine Ev.call (Ev.b_sum ⟨rfl, rfl, rfl, rfl⟩ ?_)
    repeat walk_at "ev"
    refine ⟨_, some (j : Int), none, some 5, .fz _, .int _, .none, .int _, by decide, le_line ?_, ?_⟩
    · simp; omega
    rw [pick_ints]
    walk_at "ev"
    refine Cal.sum hh (.fz _) ?_
    refine Op2.addII ?_
    generalize hp : ([0, 0, 0, 9, 7] : List Int).getD j 0 + (inInt ns (some (j : Int)) (some 5)).sum = pick
    refine Ex.cons ?_
    refine Ex1.assignK ?_
    repeat walk_at "ev"
    refine Op2.addII ?_
    refine Op2.modII (by omega) ?_
    refine Ex.cons ?_
    refine Ex1.assignL ?_
    repeat walk_at "ev"
    refine Op2.addII ?_
    refine Op2.fdivII (by omega) (pylong_no _ _ (by omega) (by omega)) ?_
    repeat walk_at "ev"
    refine Op2.addII ?_
    refine Op2.modII (by omega) ?_
    refine Ex.cons ?_
    refine Ex1.setItem ?_
    refine Ev.bin ?_
    generalize hu : pick.fmod ((j : Int) + 1) = u
    generalize hv' : (pick.fdiv ((j : Int) + 1)).fmod ((j : Int) + 1) = v
    have hu0 : 0 ≤ u := by rw [← hu]; exact Int.fmod_nonneg_of_pos _ (by omega)
    have hv0 : 0 ≤ v := by rw [← hv']; exact Int.fmod_nonneg_of_pos _ (by omega)
    refine Ev.mono (P := fun t c => t = lTs (if u < j then [u.toNat] else []) ∧ c = (a, .dict (basesT ns j)) :: cs) ?_ ?_
    · refine Ev.compT hh (caps := [("i", .int j)]) ?_ ?_
      · exact .cons .nil
      repeat walk_at "ev"
      refine ⟨le_line rfl, _, rfl, le_line rfl, fun C => ?_⟩
      refine Ts.cmp ?_
      walk_at "ev"
      walk_at "ev"
      refine Op2.ltII ⟨_, rfl, fun hb => ?_, fun hb => ?_⟩
      · have hb' : u < j := by simpa using hb
        walk_at "ev"
        walk_at "ev"
        walk_at "ev"
        refine Sub.str (by simp; omega) (abcde_at u hu0 (by omega)) ?_
        refine ⟨?_, rfl⟩
        simp [hb']
      · have hb' : ¬ u < j := by simpa using hb
        refine ⟨?_, rfl⟩
        simp [hb']
    rintro _ _ ⟨rfl, rfl⟩
    refine Ev.mono (P := fun t c => t = lTs (if v < j ∧ v ≠ u then [v.toNat] else []) ∧ c = (a, .dict (basesT ns j)) :: cs) ?_ ?_
    · refine Ev.compT hh (caps := [("i", .int j), ("u", .int u)]) ?_ ?_
      · exact .cons (.cons .nil)
      repeat walk_at "ev"
      refine ⟨le_line rfl, _, rfl, le_line rfl, fun C => ?_⟩
      refine Ts.and ?_
      refine Ts.cmp ?_
      walk_at "ev"
      walk_at "ev"
      refine Op2.ltII ⟨_, rfl, fun hb => ?_, fun hb => ⟨?_, fun _ => ?_⟩⟩
      · have hb' : v < j := by simpa using hb
        refine Ts.cmp ?_
        walk_at "ev"
        walk_at "ev"
        refine Op2.ne hr' (.fz rfl) (.fz rfl) fun b hbu => ⟨_, rfl, fun hb => ?_, fun hb => ?_⟩
        · have hne : v ≠ u := fun e => by have := hbu.mpr (by rw [e]); rw [hb] at this; cases this
          walk_at "ev"
          walk_at "ev"
          walk_at "ev"
          refine Sub.str (by simp; omega) (abcde_at v hv0 (by omega)) ?_
          refine ⟨?_, rfl⟩
          simp [hb', hne]
        · have he : v = u := by have := hbu.mp hb; injection this
          refine ⟨?_, rfl⟩
          simp [he]
      · intro z; cases z
      · have hb' : ¬ v < j := by simpa using hb
        refine ⟨?_, rfl⟩
        simp [hb']
    rintro _ _ ⟨rfl, rfl⟩
    refine Op2.addLL (.fz _) (.fz _) (le_line (by simp; split <;> split <;> simp)) ?_
    repeat walk_at "ev"
    refine Sub.str (by simp; omega) (abcde_at j (by omega) (by omega)) ?_
    refine ⟨a, _, _, _, rfl, rfl, .head, ?_, ?_, ?_⟩
    · exact tab_nodup _ _
    · rw [tab_len]; exact le_line (by simp; omega)
    refine Ex.nil ?_
    refine ⟨j + 1, by omega, rfl, ?_, rfl, rfl, trivial⟩
    have e : basAt ns j = (if u < j then [u.toNat] else []) ++ (if v < j ∧ v ≠ u then [v.toNat] else []) := by
      subst hv' hu hp
      rfl
    show _ = (a, C.dict (tabT (fun i => lTs (basAt ns i)) (j + 1))) :: cs
    rw [← tab_put, e, ← List.map_append]
    rfl
  · rintro vars c ⟨j, hj, e, rfl, hv⟩
    refine Ex.nil ?_
    refine StT.weaken hv.k ?_
    refine Ex.cons ?_
    refine Ex1.ret ?_
    refine Ev.freezeD ?_
    walk_at "ev"
    refine ⟨a, _, _, rfl, rfl, ?_⟩
    have : j = 5 := by
      have := congrArg List.length e
      simp at this
      omega
    subst this
    exact h
end Mine
end

noncomputable section
open PySem PySem.W PyProof.Rows PySem.Calls
set_option Elab.async false
set_option linter.unusedVariables false
set_option maxRecDepth 100000
set_option pp.deepTerms false
set_option pp.deepTerms.threshold 3
set_option tactic.hygienic false
namespace Mine


section
variable {g : Gx} {A : Around} {env : Env} {vars caps : Vars} {x : Str} {scope : Scope} {cl : List (Str × Addr)} {P : T → Cs → Prop} {cs : Cs} {ct elt : Expr}
theorem CompU.map (f : T → T) {us acc : List T} (H : ∀ u ∈ us, ∀ C, Ev g A (compEnvC scope cl C env) ((x, u) :: caps) elt cs fun t cs' => t = f u ∧ cs' = cs) (h : P (.list (acc ++ us.map f)) cs) : CompU g A env x scope cl caps P elt us acc cs := by
  induction us generalizing acc with
  | nil => simpa [CompU] using h
  | cons u us ih =>
    intro C
    refine (H u (.head _) C).mono fun t cs' e => ?_
    obtain ⟨rfl, rfl⟩ := e
    exact ih (fun u hu => H u (.tail _ hu)) (by simpa using h)
theorem CompT.filter (b : T → Bool) (f : T → T) {us acc : List T} (H1 : ∀ u ∈ us, ∀ C, Ts g A (compEnvC scope cl C env) ((x, u) :: caps) ct cs fun c cs' => c = b u ∧ cs' = cs) (H2 : ∀ u ∈ us, b u = true → ∀ C, Ev g A (compEnvC scope cl C env) ((x, u) :: caps) elt cs fun t cs' => t = f u ∧ cs' = cs)
    (h : P (.list (acc ++ (us.filter b).map f)) cs) : CompT g A env x scope cl caps P ct elt us acc cs := by
  induction us generalizing acc with
  | nil => simpa [CompT] using h
  | cons u us ih =>
    intro C c s Q E V R k
    refine H1 u (.head _) C c s Q E V R fun fz' d cs' h' tk' m e R' => ?_
    obtain ⟨rfl, rfl⟩ := e
    refine k fz' _ cs' h' tk' m ⟨fun hb => ?_, fun hb => ?_⟩ R'
    · refine (H2 u (.head _) hb C).mono fun t cs'' e => ?_
      obtain ⟨rfl, rfl⟩ := e
      exact ih (fun u hu => H1 u (.tail _ hu)) (fun u hu => H2 u (.tail _ hu)) (by simpa [List.filter_cons, hb] using h)
    · exact ih (fun u hu => H1 u (.tail _ hu)) (fun u hu => H2 u (.tail _ hu)) (by simpa [List.filter_cons, hb] using h)
end
noncomputable def markAt (ns : List Int) (i : Nat) : Int := ([3, 1, 2, 0, 0] : List Int).getD i 0 + ((inInt ns (some i) (some 5)).map fun x => x.fdiv 25).sum
noncomputable def namesOf (i : Nat) (p q : Bool) : List Str := if i % 2 = 1 then (if p then [("P" : Str)] else []) ++ (if q then [("Q" : Str)] else []) else (if p then [("p" : Str)] else []) ++ (if q then [("q" : Str)] else [])
theorem sl_len : ∀ n < 11, ∀ j < 5, (sliceRange (sliceBounds (some ((j : Nat) : Int)) none (some 5) n).1 (sliceBounds (some ((j : Nat) : Int)) none (some 5) n).2.1 (sliceBounds (some ((j : Nat) : Int)) none (some 5) n).2.2).length ≤ 1000 := by decide +kernel
theorem inInt_len {ns : List Int} {j : Nat} (h : ns.length ≤ 10) (hj : j < 5) : (inInt ns (some (j : Int)) (some 5)).length ≤ sizeLine := by
  have := sl_len ns.length (by omega) j hj
  have h2 := List.length_filterMap_le (fun i => ns[i]?) (sliceRange (sliceBounds (some ((j : Nat) : Int)) none (some 5) ns.length).1 (sliceBounds (some ((j : Nat) : Int)) none (some 5) ns.length).2.1 (sliceBounds (some ((j : Nat) : Int)) none (some 5) ns.length).2.2)
  unfold inInt
  rw [sizeLine_eq]
  omega
noncomputable def ownAt (ns : List Int) (i : Nat) : List Str := namesOf i (decide ((markAt ns i).fmod 2 = 1)) (decide (((markAt ns i).fdiv 2).fmod 2 = 1))
noncomputable def pairT (i : Nat) (nm : Str) : T := .tup [.str nm, lT i]
noncomputable abbrev ownsT (ns : List Int) (j : Nat) : List (Str × T) := tabT (fun i => .list ((ownAt ns i).map (pairT i))) j
inductive OwnI (a : Addr) (ns : List Int) (cs : Cs) (us : List T) (vars : Vars) (c : Cs) : Prop
  | mk  (j : Nat) (f1 : j ≤ 5) (f2 : us = (List.range' j (5 - j)).map (fun (i : Nat) => T.int (i : Int))) (f3 : c = (a, .dict (ownsT ns j)) :: cs) (f4 : Has [("owns", .cel a), ("draws", .list (ns.map T.int))] vars)
inductive OwnJ (a : Addr) (ns : List Int) (cs : Cs) (j : Nat) (bp bq : Bool) (fl : Fl) (v : Vars) (c : Cs) : Prop
  | mk (f1 : fl = .next) (f2 : c = (a, .dict (ownsT ns j)) :: cs) (f3 : Has [("names", .list ((namesOf j bp bq).map T.str)), ("i", .int j), ("owns", .cel a), ("draws", .list (ns.map T.int))] v)
theorem owns_spec {g : Gx} {A : Around} {cs : Cs} {P : T → Cs → Prop} {n : Nat} (hr : Room A (n + 2)) (ns : List Int) (hl : ns.length ≤ 10) (h : P (.dict (ownsT ns 5)) cs) : Cal g A (.raw (.ref 319)) [.list (ns.map T.int)] [] cs P := by
  refine Cal.fn (n := n + 1) (bs := [("draws", .list (ns.map T.int))]) hr rfl rfl (BindP.pl1 (fun v => ?_)) (fun L A' hr' => ?_) rfl (by simp) (by decide)
  · rfl
  have hh := hr'.1
  refine Ex.cons ?_
  refine Ex1.assignL (Ev.dict0 fun a => ?_)
  refine Ex.cons ?_
  refine Ex1.for_ ?_
  refine Ev.call (Ev.b_range ⟨rfl, rfl, rfl, rfl⟩ ?_)
  repeat walk_at "ev"
  refine Cal.range fun t u v => ?_
  refine ⟨_, _, Itb.range (n := 5) hh small5 size5, ?_⟩
  refine ForP.inv (OwnI a ns cs) ?_ ?_ _ _ _ ⟨0, by omega, rfl, rfl, rfl, rfl, trivial⟩
  · rintro u rest vars c ⟨j, hj, e, rfl, hv⟩
    have hj5 : j < 5 := by
      rcases Nat.lt_or_ge j 5 with q | q
      · exact q
      · rw [show 5 - j = 0 by omega] at e; cases e
    rw [show 5 - j = (5 - (j + 1)) + 1 by omega, List.range'_succ] at e
    simp only [List.map_cons, List.cons.injEq] at e
    obtain ⟨rfl, rfl⟩ := e
    refine As.weaken hv.k (As.nameK ?_)
    refine Ex.cons ?_
    refine Ex1.assignL ?_
    repeat walk_at "ev"
    refine ⟨le_line rfl, ?_⟩
    walk_at "ev"
    refine Sub.list (.fz _) (by omega) (by omega) (u := .int (([3, 1, 2, 0, 0] : List Int).getD j 0)) ?_ ?_
    · have : j = 0 ∨ j = 1 ∨ j = 2 ∨ j = 3 ∨ j = 4 := by omega
      rcases this with rfl | rfl | rfl | rfl | rfl <;> rfl
    refine Ev.call (Ev.b_sum ⟨rfl, rfl, rfl, rfl⟩ ?_)
    refine ArgP.cons ?_
    refine Evs.cons ?_
    refine Ev.compU hh (caps := []) ?_ ?_
    · exact .nil
    repeat walk_at "ev"
    refine ⟨_, some (j : Int), none, some 5, .fz _, .int _, .none, .int _, by decide, le_line ?_, ?_⟩
    · simp; omega
    rw [pick_ints]
    refine ⟨_, rfl, ?_, ?_⟩
    · rw [List.length_map]; exact inInt_len hl hj5
    refine CompU.map (fun t => match t with | .int x => .int (x.fdiv 25) | t => t) ?_ ?_
    · intro u hu C
      obtain ⟨x, _, rfl⟩ := List.mem_map.mp hu
      repeat walk_at "ev"
      exact Op2.fdivII (by omega) (pylong_no _ _ (by omega) (by omega)) ⟨rfl, rfl⟩
    rw [List.nil_append, List.map_map]
    walk_at "ev"
    refine Cal.sum (ns := (inInt ns (some (j : Int)) (some 5)).map fun x => x.fdiv 25) hh ?_ ?_
    · rw [List.map_map]; exact .fz _
    refine Op2.addII ?_
    change Ex _ _ _ _ ((_, T.int (markAt ns j)) :: _) _ _ _
    generalize hp : markAt ns j = mark
    refine Ex.cons ?_
    refine Ex1.assignL ?_
    refine Ev.bin ?_
    refine Ev.mono (P := fun t c => t = .list ((if decide (mark.fmod 2 = 1) then [("p" : Str)] else []).map T.str) ∧ c = (a, .dict (ownsT ns j)) :: cs) ?_ ?_
    · refine Ev.compT hh (caps := []) ?_ ?_
      · exact .nil
      repeat walk_at "ev"
      refine ⟨le_line rfl, _, rfl, le_line rfl, fun C => ?_⟩
      refine Ts.cmp ?_
      repeat walk_at "ev"
      refine Op2.modII (by omega) ?_
      walk_at "ev"
      refine Op2.eq hr' (.fz rfl) (.fz rfl) fun b hbu => ⟨_, rfl, fun hb => ?_, fun hb => ?_⟩
      · have he : mark.fmod 2 = 1 := by have := hbu.mp hb; injection this
        walk_at "ev"
        refine ⟨?_, rfl⟩
        simp [he]
      · have hne : ¬ mark.fmod 2 = 1 := fun e => by have := hbu.mpr (by rw [e]); rw [hb] at this; cases this
        refine ⟨?_, rfl⟩
        simp [hne]
    rintro _ _ ⟨rfl, rfl⟩
    refine Ev.mono (P := fun t c => t = .list ((if decide ((mark.fdiv 2).fmod 2 = 1) then [("q" : Str)] else []).map T.str) ∧ c = (a, .dict (ownsT ns j)) :: cs) ?_ ?_
    · refine Ev.compT hh (caps := []) ?_ ?_
      · exact .nil
      repeat walk_at "ev"
      refine ⟨le_line rfl, _, rfl, le_line rfl, fun C => ?_⟩
      refine Ts.cmp ?_
      repeat walk_at "ev"
      refine Op2.fdivII (by omega) (pylong_no _ _ (by omega) (by omega)) ?_
      walk_at "ev"
      refine Op2.modII (by omega) ?_
      walk_at "ev"
      refine Op2.eq hr' (.fz rfl) (.fz rfl) fun b hbu => ⟨_, rfl, fun hb => ?_, fun hb => ?_⟩
      · have he : (mark.fdiv 2).fmod 2 = 1 := by have := hbu.mp hb; injection this
        walk_at "ev"
        refine ⟨?_, rfl⟩
        simp [he]
      · have hne : ¬ (mark.fdiv 2).fmod 2 = 1 := fun e => by have := hbu.mpr (by rw [e]); rw [hb] at this; cases this
        refine ⟨?_, rfl⟩
        simp [hne]
    rintro _ _ ⟨rfl, rfl⟩
    refine Op2.addLL (.fz _) (.fz _) (le_line (by simp; split <;> split <;> simp)) ?_
    rw [← List.map_append]
    generalize hbp : decide (mark.fmod 2 = 1) = bp
    generalize hbq : decide ((mark.fdiv 2).fmod 2 = 1) = bq
    have own : ownAt ns j = namesOf j bp bq := by unfold ownAt; rw [hp, hbp, hbq]
    refine Ex.cons ?_
    refine StT.mono (P := OwnJ a ns cs j bp bq) ?_ ?_
    · refine Ex1.ifs ?_
      refine Ts.cmp ?_
      repeat walk_at "ev"
      refine Op2.modII (by omega) ?_
      walk_at "ev"
      refine Op2.eq hr' (.fz rfl) (.fz rfl) fun b hbu => ⟨_, rfl, fun hb => ?_, fun hb => ?_⟩
      · have he : (j : Int).fmod 2 = 1 := by have := hbu.mp hb; injection this
        have he' : j % 2 = 1 := by rw [Int.fmod_eq_emod_of_nonneg _ (by omega)] at he; omega
        refine Ex.cons ?_
        refine Ex1.assignU hh (caps := []) ?_ rfl ?_
        · exact .nil
        walk_at "ev"
        refine ⟨_, rfl, le_line (by cases bp <;> cases bq <;> rfl), ?_⟩
        refine CompU.map (fun t => match t with | .str x => .str (Txt.upper x) | t => t) ?_ ?_
        · intro u hu C
          obtain ⟨x, hx, rfl⟩ := List.mem_map.mp hu
          refine Ev.meth ?_
          walk_at "ev"
          refine ⟨_, _, GM.upper, ?_⟩
          refine ArgP.nil ?_
          refine Cal.upper rfl ?_ ⟨rfl, rfl⟩
          have : x = "p" ∨ x = "q" := by
            cases bp <;> cases bq <;> simp at hx <;> simp [hx]
          rcases this with rfl | rfl
          · rw [up_p]; decide
          · rw [up_q]; decide
        refine Ex.nil ⟨rfl, rfl, ?_, rfl, rfl, rfl, trivial⟩
        show some _ = some _
        unfold namesOf
        rw [if_pos he']
        cases bp <;> cases bq <;> simp [up_p, up_q]
      · have hne : ¬ (j : Int).fmod 2 = 1 := fun e => by have := hbu.mpr (by rw [e]); rw [hb] at this; cases this
        have he' : ¬ j % 2 = 1 := by rw [Int.fmod_eq_emod_of_nonneg _ (by omega)] at hne; omega
        refine Ex.nil ⟨rfl, rfl, ?_, rfl, rfl, rfl, trivial⟩
        show some _ = some _
        unfold namesOf
        rw [if_neg he']
    rintro _ vars₂ _ ⟨rfl, rfl, hv₂⟩
    refine StT.weaken hv₂.k ?_
    refine Ex.cons ?_
    refine Ex1.setItem ?_
    refine Ev.compU hh (caps := [("i", .int j)]) ?_ ?_
    · exact .cons .nil
    walk_at "ev"
    refine ⟨_, rfl, ?_, ?_⟩
    · refine le_line ?_
      unfold namesOf
      split <;> cases bp <;> cases bq <;> rfl
    refine CompU.map (fun t => match t with | .str x => pairT j x | t => t) ?_ ?_
    · intro u hu C
      obtain ⟨x, hx, rfl⟩ := List.mem_map.mp hu
      repeat walk_at "ev"
      refine Sub.str (by simp; omega) (abcde_at j (by omega) (by omega)) ?_
      walk_at "ev"
      exact ⟨le_line rfl, rfl, rfl⟩
    rw [List.nil_append, List.map_map]
    repeat walk_at "ev"
    refine Sub.str (by simp; omega) (abcde_at j (by omega) (by omega)) ?_
    refine ⟨a, _, _, _, rfl, rfl, .head, ?_, ?_, ?_⟩
    · exact tab_nodup _ _
    · rw [tab_len]; exact le_line (by simp; omega)
    refine Ex.nil ?_
    refine ⟨j + 1, by omega, rfl, ?_, rfl, rfl, trivial⟩
    show _ = (a, C.dict (tabT (fun i => .list ((ownAt ns i).map (pairT i))) (j + 1))) :: cs
    rw [← tab_put, own]
    rfl
  · rintro vars c ⟨j, hj, e, rfl, hv⟩
    refine Ex.nil ?_
    refine StT.weaken hv.k ?_
    refine Ex.cons ?_
    refine Ex1.ret ?_
    refine Ev.freezeD ?_
    walk_at "ev"
    refine ⟨a, _, _, rfl, rfl, ?_⟩
    have : j = 5 := by
      have := congrArg List.length e
      simp at this
      omega
    subst this
    exact h
end Mine
end

noncomputable section
open PySem PySem.W PyProof.Rows PySem.Calls
set_option Elab.async false
set_option linter.unusedVariables false
set_option maxRecDepth 100000
set_option pp.deepTerms false
set_option pp.deepTerms.threshold 3
set_option tactic.hygienic false
namespace Mine

theorem run_list {α : Type} (ts : List α) (a : Nat) : ∀ k, ((List.range k).map (a + ·)).filterMap (ts[·]?) = (ts.drop a).take k
  | 0 => by simp
  | k + 1 => by
    rw [List.range_succ, List.map_append, List.filterMap_append, run_list ts a k, List.take_add_one]
    congr 1
    simp only [List.map_cons, List.map_nil, List.filterMap_cons, List.filterMap_nil, List.getElem?_drop]
    cases ts[a + k]? <;> rfl
theorem pick_none (ts : List T) (lo hi : Option Int) : pickT ts lo hi none = (ts.drop (kms_lo lo ts.length)).take (kms_hi hi ts.length - kms_lo lo ts.length) := by
  unfold pickT
  rw [kms_bounds]
  simp only
  rw [sliceRange_one, run_list]
theorem pick_take (ts : List T) (k : Nat) : pickT ts none (some (k : Int)) none = ts.take k := by
  rw [pick_none]
  have h1 : kms_lo none ts.length = 0 := rfl
  have h2 : kms_hi (some (k : Int)) ts.length = min k ts.length := by
    unfold kms_hi
    simp only [if_neg (show ¬ (k : Int) < 0 by omega), Int.toNat_natCast]
  rw [h1, h2, List.drop_zero, Nat.sub_zero]
  rcases Nat.le_total k ts.length with q | q
  · rw [Nat.min_eq_left q]
  · rw [Nat.min_eq_right q, List.take_of_length_le (Nat.le_refl _), List.take_of_length_le q]
theorem pick_drop (ts : List T) (k : Nat) : pickT ts (some (k : Int)) none none = ts.drop k := by
  rw [pick_none]
  have h1 : kms_hi none ts.length = ts.length := rfl
  have h2 : kms_lo (some (k : Int)) ts.length = min k ts.length := by
    unfold kms_lo
    simp only [if_neg (show ¬ (k : Int) < 0 by omega), Int.toNat_natCast]
  rw [h1, h2]
  rcases Nat.le_total k ts.length with q | q
  · rw [Nat.min_eq_left q, List.take_of_length_le (by simp)]
  · rw [Nat.min_eq_right q, List.drop_of_length_le (Nat.le_refl _), List.drop_of_length_le q, List.take_nil]
theorem pick_all (ts : List T) : pickT ts none none none = ts := by
  rw [pick_none]
  have h1 : kms_hi none ts.length = ts.length := rfl
  have h2 : kms_lo none ts.length = 0 := rfl
  rw [h1, h2]
  simp
theorem ltr_ok (n : Nat) (h : n < 5) : PyData.strOk (ltr n) = true := by
  have : n = 0 ∨ n = 1 ∨ n = 2 ∨ n = 3 ∨ n = 4 := by omega
  rcases this with rfl | rfl | rfl | rfl | rfl <;> decide +kernel
theorem lT_ok {n k : Nat} (h : n < 5) : (lT n).ok k = true := by
  cases k <;> simp only [T.ok] <;> exact ltr_ok n h
theorem lTs_ok {l : List Nat} {k : Nat} (h : ∀ n ∈ l, n < 5) : (lTs l).ok (k + 1) = true := by
  simp only [T.ok, List.all_eq_true]
  intro t ht
  obtain ⟨n, hn, rfl⟩ := List.mem_map.mp ht
  exact lT_ok (h n hn)
theorem lT_inj {i j : Nat} (h : lT i = lT j) : i = j := by injection h with h; exact ltr_inj h
theorem lT_mem {n : Nat} {l : List Nat} : lT n ∈ l.map lT ↔ n ∈ l := by
  constructor
  · intro h
    obtain ⟨m, hm, e⟩ := List.mem_map.mp h
    rw [← lT_inj e]; exact hm
  · exact fun h => List.mem_map_of_mem h
theorem lTs_inj {l m : List Nat} (h : lTs l = lTs m) : l = m := by
  injection h with h
  exact List.map_inj_right (f := lT) (fun a b e => lT_inj e) |>.mp h
section
variable {g : Gx} {A : Around} {cs : Cs} {P : T → Cs → Prop}
theorem idx_beq (l : List Nat) (x : Nat) : ∀ (m : Nat) (hm : m < l.length), m < l.idxOf x → l[m] ≠ x := fun m hm h e => by
  have := List.not_of_lt_findIdx (p := (· == x)) (xs := l) h
  simp [e] at this
theorem VRs.letters {P : Params} {fz : List (Addr × Obj)} {l : List Nat} {vs : List Value} (r : VRs P fz (l.map lT) vs) : ∀ (i : Nat) (hi : i < vs.length) (hl : i < l.length), ∃ t, vs[i] = .str (ltr l[i]) t := fun i hi hl => by
  obtain ⟨v, e, rv⟩ := r.get (i := i) (t := lT l[i]) (by simp [hl])
  rw [List.getElem?_eq_getElem hi] at e
  have e' : vs[i] = v := Option.some.inj e
  rw [e']
  cases rv with | str _ t => exact ⟨t, rfl⟩
theorem Cal.index {t : T} {l : List Nat} {x : Nat} (il : IsL cs t (l.map lT)) (hx : x ∈ l) (hl : l.length ≤ 1000) (h : P (.int (l.idxOf x)) cs) : Cal g A (.raw (.builtin "list.index")) [t, lT x] [] cs P := .b fun c s Q E vs rv R k => by
  cases rv with
  | cons r1 rv =>
  cases rv with
  | cons r2 rv =>
  cases rv
  obtain ⟨b, vs, n, rfl, ha, ra⟩ := R.isL il r1
  cases r2 with
  | str _ tk =>
  have hlen : vs.length = l.length := by simpa using ra.length
  have hj : l.idxOf x < l.length := List.idxOf_lt_length_iff.mpr hx
  let e : Value → Bool := fun v => match v with | .str y _ => y == ltr x | _ => false
  have he : ∀ (i : Nat) (hi : i < vs.length), e vs[i] = (l[i]'(by omega) == x) := fun i hi => by
    obtain ⟨t, q⟩ := ra.letters i hi (by omega)
    show (match vs[i] with | .str y _ => y == ltr x | _ => false) = _
    rw [q]
    by_cases z : l[i]'(by omega) = x
    · simp [z]
    · have : ¬ ltr (l[i]'(by omega)) = ltr x := fun w => z (ltr_inj w)
      simp only [beq_eq_false_iff_ne.mpr z, beq_eq_false_iff_ne.mpr this]
  refine call_meets PySem.F.slot_list_index ⟨_, ha, rfl⟩ PySem.F.entry_list_index (PySem.F.args_list_index_2 _ _)
    (PySem.SeqAt.list_indexAt b vs.toArray n none #[] (.str (ltr x) tk) e (l.idxOf x) (by simpa [hlen] using hj) (by omega) ?_ ?_) ⟨ha, fun y hy => ?_, ?_⟩
  · show e vs[l.idxOf x] = true
    rw [he]
    simpa using List.getElem_idxOf hj
  · intro m hm hlt
    show e vs[m] = false
    rw [he _ (by simpa using hm)]
    exact beq_eq_false_iff_ne.mpr (idx_beq l x m (by simpa [hlen] using hm) hlt)
  · have hy' : y ∈ vs := by simpa using hy
    obtain ⟨i, hi, rfl⟩ := List.getElem_of_mem hy'
    obtain ⟨t, q⟩ := ra.letters i hi (by omega)
    rw [q]
    exact PySem.SeqAt.EqAt.str_str _ _ _ _
  · exact k c.fz _ _ cs s.heap _ (fun _ h => h) h (.int _ _) R
end
end Mine
end

noncomputable section
open PySem PySem.W PyProof.Rows PySem.Calls
set_option Elab.async false
set_option linter.unusedVariables false
set_option maxRecDepth 100000
set_option pp.deepTerms false
set_option pp.deepTerms.threshold 3
set_option tactic.hygienic false
namespace Mine


noncomputable def optT : Option (List Nat) → T
  | none => .none
  | some l => lTs l
/-- the plain merge -/
noncomputable def plainMerge : List Nat → List Nat → List Nat → List Nat → List Nat
  | [], line, l, r => line ++ l ++ r
  | x :: sh, line, l, r => plainMerge sh (line ++ l.take (l.idxOf x) ++ r.take (r.idxOf x + 1)) (l.drop (l.idxOf x + 1)) (r.drop (r.idxOf x + 1))
noncomputable def plainTwo (i : Nat) (l r : List Nat) : Option (List Nat) :=
  if l.filter (· ∈ r) = r.filter (· ∈ l) ∧ l.take 1 ∉ r.map (fun x => [x]) then some (plainMerge (l.filter (· ∈ r)) [i] l r) else none
noncomputable def padded (rows : List (Option (List Nat))) : Option (List Nat) × Option (List Nat) := match rows with
  | [] => (some [], some [])
  | [a] => (a, some [])
  | a :: b :: _ => (a, b)
noncomputable def plainStep (i : Nat) (rows : List (Option (List Nat))) : Option (List Nat) := match padded rows with
  | (some l, some r) => plainTwo i l r
  | _ => none
theorem put_put (ds : List (Str × T)) (x : Str) (t u : T) : putT (putT ds x t) x u = putT ds x u := by
  unfold putT
  by_cases q : ds.any (fun kv => kv.1 = x) = true
  · have q2 : (ds.map (fun kv => if kv.1 = x then (kv.1, t) else kv)).any (fun kv => kv.1 = x) = true := by
      rw [List.any_eq_true] at q ⊢
      obtain ⟨p, hp, e⟩ := q
      have e' : p.1 = x := by simpa using e
      exact ⟨(p.1, t), List.mem_map.mpr ⟨p, hp, by simp [e']⟩, by simpa using e'⟩
    simp only [q, if_true, q2, List.map_map]
    refine List.map_congr_left fun p hp => ?_
    by_cases e : p.1 = x <;> simp [e]
  · have q' : ds.any (fun kv => kv.1 = x) = false := Bool.eq_false_iff.mpr q
    simp only [q', Bool.false_eq_true, if_false, List.any_append, List.any_cons, List.any_nil, Bool.false_or, decide_true, Bool.or_false, if_true, List.map_append, List.map_cons, List.map_nil]
    congr 1
    rw [List.any_eq_false] at q'
    have : ∀ p ∈ ds, (if p.1 = x then (p.1, u) else p) = p := fun p hp => by
      have := q' p hp
      simp at this
      simp [this]
    rw [List.map_congr_left this]
    simp
theorem put_nodup {ds : List (Str × T)} {x : Str} {t : T} (h : (ds.map (·.1)).Nodup) : ((putT ds x t).map (·.1)).Nodup := by
  unfold putT
  by_cases q : ds.any (fun kv => kv.1 = x) = true
  · rw [if_pos q, List.map_map]
    have : ((fun kv : Str × T => kv.1) ∘ fun kv => if kv.1 = x then (kv.1, t) else kv) = fun kv => kv.1 := by
      funext kv; by_cases e : kv.1 = x <;> simp [e]
    rw [this]; exact h
  · rw [if_neg q, List.map_append, List.nodup_append]
    refine ⟨h, by simp, fun a ha b hb e => q ?_⟩
    obtain ⟨p, hp, rfl⟩ := List.mem_map.mp ha
    simp only [List.map_cons, List.map_nil, List.mem_singleton] at hb
    exact List.any_eq_true.mpr ⟨p, hp, by simpa using e.trans hb⟩
theorem put_len (ds : List (Str × T)) (x : Str) (t : T) : (putT ds x t).length ≤ ds.length + 1 := by
  unfold putT
  split <;> simp
theorem abc_list : ((Str.cps "abcde").toList.map fun c => T.str ⟨#[c]⟩) = (List.range 5).map lT := by
  have : (Str.cps "abcde").toList = [97, 98, 99, 100, 101] := by decide +kernel
  rw [this]; rfl
theorem pad0 (rows : List (Option (List Nat))) : (rows.map optT ++ [lTs [], lTs []])[0]? = some (optT (padded rows).1) := by
  match rows with
  | [] => rfl
  | [a] => rfl
  | a :: b :: r => rfl
theorem pad1 (rows : List (Option (List Nat))) : (rows.map optT ++ [lTs [], lTs []])[1]? = some (optT (padded rows).2) := by
  match rows with
  | [] => rfl
  | [a] => rfl
  | a :: b :: r => rfl
theorem sub_drop {x : Nat} {sh : List Nat} : ∀ {l : List Nat}, (x :: sh).Sublist l → sh.Sublist (l.drop (l.idxOf x + 1))
  | [], h => by cases h
  | y :: l, h => by
    by_cases e : y = x
    · subst e
      rw [List.idxOf_cons_self]
      simp only [Nat.zero_add, List.drop_succ_cons, List.drop_zero]
      cases h with
      | cons _ h => exact (List.sublist_cons_self _ _).trans h
      | cons_cons _ h => exact h
    · have e2 : (y :: l).idxOf x = l.idxOf x + 1 := by
        have q : (y == x) = false := by simpa using e
        simp [List.idxOf_cons, q]
      rw [e2]
      simp only [List.drop_succ_cons]
      cases h with
      | cons _ h => exact sub_drop h
      | cons_cons _ h => exact absurd rfl e
noncomputable def inT (r : List Nat) : T → Bool
  | .str x => (r.map ltr).contains x
  | _ => false
theorem inT_lT (r : List Nat) (n : Nat) : inT r (lT n) = decide (n ∈ r) := by
  unfold inT
  rw [Bool.eq_iff_iff]
  simp only [List.contains_iff_mem, decide_eq_true_eq, List.mem_map]
  constructor
  · rintro ⟨m, hm, e⟩
    rw [← ltr_inj e]; exact hm
  · exact fun h => ⟨n, h, rfl⟩
theorem filt_in (l r : List Nat) : ((l.map lT).filter (inT r)).map id = (l.filter (· ∈ r)).map lT := by
  rw [List.map_id, List.filter_map]
  congr 1
  refine List.filter_congr fun x _ => ?_
  exact inT_lT r x

inductive PlA (a : Addr) (pl : Nat → Option (List Nat)) (bas : Nat → List Nat) (cs : Cs) (us : List T) (vars : Vars) (c : Cs) : Prop
  | mk  (j : Nat) (f1 : j ≤ 5) (f2 : us = (List.range' j (5 - j)).map lT) (f3 : c = (a, .dict (tabT (fun i => optT (pl i)) j)) :: cs) (f4 : Has [("lines", .cel a), ("bases", .dict (tabT (fun i => lTs (bas i)) 5))] vars)
inductive PlB (a : Addr) (pl : Nat → Option (List Nat)) (bas : Nat → List Nat) (cs : Cs) (j : Nat) (fl : Fl) (v : Vars) (c : Cs) : Prop
  | mk (f1 : fl = .next) (f2 : c = (a, .dict (tabT (fun i => optT (pl i)) (j + 1))) :: cs) (f3 : Has [("lines", .cel a), ("bases", .dict (tabT (fun i => lTs (bas i)) 5))] v)
inductive PlC (a : Addr) (pl : Nat → Option (List Nat)) (bas : Nat → List Nat) (cs : Cs) (j : Nat) (l r : List Nat) (us : List T) (vars : Vars) (c : Cs) : Prop
  | mk  (sh line l' r' : List Nat) (f1 : us = sh.map lT) (f2 : c = (a, .dict (putT (tabT (fun i => optT (pl i)) j) (ltr j) .none)) :: cs) (f3 : sh.Sublist l') (f4 : sh.Sublist r') (f5 : line.length + l'.length + r'.length ≤ 41) (f6 : plainMerge sh line l' r' = plainMerge (l.filter (· ∈ r)) [j] l r) (f7 : Has [("line", lTs line), ("left", lTs l'), ("right", lTs r'), ("letter", lT j), ("lines", .cel a), ("bases", .dict (tabT (fun i => lTs (bas i)) 5))] vars)
theorem plain_spec {g : Gx} {A : Around} {cs : Cs} {P : T → Cs → Prop} {n : Nat} (hr : Room A (n + 2)) (bas : Nat → List Nat) (pl : Nat → Option (List Nat)) (hb : ∀ i < 5, (bas i).length ≤ 2 ∧ ∀ b ∈ bas i, b < i) (hp : ∀ i < 5, pl i = plainStep i ((bas i).map pl)) (h5 : ∀ i < 5, ∀ l, pl i = some l → l.length ≤ 20 ∧ ∀ x ∈ l, x < 5)
    (h : P (.dict (tabT (fun i => optT (pl i)) 5)) cs) : Cal g A (.raw (.ref 336)) [.dict (tabT (fun i => lTs (bas i)) 5)] [] cs P := by
  refine Cal.fn (n := n + 1) (bs := [("bases", .dict (tabT (fun i => lTs (bas i)) 5))]) hr rfl rfl (BindP.pl1 (fun v => ?_)) (fun L A' hr' => ?_) rfl (by simp) (by decide)
  · rfl
  have hh := hr'.1
  refine Ex.cons ?_
  refine Ex1.assignK (Ev.dict0 fun a => ?_)
  refine Ex.cons ?_
  refine Ex1.for_ ?_
  walk_at "ev"
  refine ⟨_, _, Itb.str hh (by decide +kernel), ?_⟩
  rw [abc_list]
  refine ForP.inv (PlA a pl bas cs) ?_ ?_ _ _ _ ⟨0, by omega, rfl, rfl, rfl, rfl, trivial⟩
  · rintro u rest vars c ⟨j, hj, e, rfl, hv⟩
    have hj5 : j < 5 := by
      rcases Nat.lt_or_ge j 5 with q | q
      · exact q
      · rw [show 5 - j = 0 by omega] at e; cases e
    rw [show 5 - j = (5 - (j + 1)) + 1 by omega, List.range'_succ] at e
    simp only [List.map_cons, List.cons.injEq] at e
    obtain ⟨rfl, rfl⟩ := e
    refine As.weaken hv.k (As.nameL ?_)
    refine Ex.cons ?_
    refine Ex1.assignL ?_
    refine Ev.bin ?_
    refine Ev.compU hh (caps := [("lines", .cel a)]) ?_ ?_
    · exact .cons .nil
    repeat walk_at "ev"
    refine Sub.dict (.fz _) (tab_look _ 5 j hj5) ?_
    refine ⟨_, rfl, le_line ?_, ?_⟩
    · have := (hb j hj5).1
      simp; omega
    refine CompU.map (fun t => match t with | .str x => optT (pl (x.cps.toList.getD 0 0 - 97)) | t => t) ?_ ?_
    · intro u hu C
      obtain ⟨x, hx, rfl⟩ := List.mem_map.mp hu
      repeat walk_at "ev"
      refine Sub.dict (.cel (.head _)) (tab_look _ j x ((hb j hj5).2 x hx)) ⟨?_, rfl⟩
      simp
    have emap : List.map (fun t => match t with | .str x => optT (pl (x.cps.toList.getD 0 0 - 97)) | t => t) ((bas j).map lT) = ((bas j).map pl).map optT := by
      rw [List.map_map, List.map_map]
      refine List.map_congr_left fun x _ => ?_
      simp
    rw [List.nil_append, emap]
    repeat walk_at "ev"
    refine ⟨le_line rfl, ?_⟩
    repeat walk_at "ev"
    refine ⟨le_line rfl, ?_⟩
    repeat walk_at "ev"
    refine ⟨le_line rfl, ?_⟩
    have hlen2 := (hb j hj5).1
    refine Op2.addLL (.fz _) (.fz _) (le_line (by simp; omega)) ?_
    have e0 := pad0 ((bas j).map pl)
    have e1 := pad1 ((bas j).map pl)
    have ps := hp j hj5
    unfold plainStep at ps
    have ht := tab_put (fun i => optT (pl i)) j
    have hr0 : ∀ l, (padded ((bas j).map pl)).1 = some l → l.length ≤ 20 ∧ ∀ x ∈ l, x < 5 := fun l hl => by
      match hbj : bas j with
      | [] => rw [hbj] at hl; cases hl; exact ⟨by simp, by simp⟩
      | [b] => rw [hbj] at hl; exact h5 b (by have := (hb j hj5).2 b (by rw [hbj]; simp); omega) l hl
      | b :: c :: r => rw [hbj] at hl; exact h5 b (by have := (hb j hj5).2 b (by rw [hbj]; simp); omega) l hl
    have hr1 : ∀ l, (padded ((bas j).map pl)).2 = some l → l.length ≤ 20 ∧ ∀ x ∈ l, x < 5 := fun l hl => by
      match hbj : bas j with
      | [] => rw [hbj] at hl; cases hl; exact ⟨by simp, by simp⟩
      | [b] => rw [hbj] at hl; cases hl; exact ⟨by simp, by simp⟩
      | b :: c :: r => rw [hbj] at hl; exact h5 c (by have := (hb j hj5).2 c (by rw [hbj]; simp); omega) l hl
    generalize padded ((bas j).map pl) = pr at e0 e1 ps hr0 hr1
    obtain ⟨r0, r1⟩ := pr
    dsimp only at e0 e1 ps hr0 hr1
    refine Ex.cons ?_
    refine Ex1.setItem ?_
    repeat walk_at "ev"
    refine ⟨a, _, _, _, rfl, rfl, .head, tab_nodup _ _, by rw [tab_len]; exact le_line (by simp; omega), ?_⟩
    refine Ex.cons ?_
    refine StT.mono (P := PlB a pl bas cs j) ?_ ?_
    · refine Ex1.ifs ?_
      have no : pl j = none → putT (tabT (fun i => optT (pl i)) j) (ltr j) .none = tabT (fun i => optT (pl i)) (j + 1) := fun z => by rw [← ht, z]; rfl
      refine Ts.and ?_
      refine Ts.cmp ?_
      repeat walk_at "ev"
      refine Sub.list (.fz _) (by omega) (by omega) e0 ?_
      walk_at "ev"
      refine Op2.isNotNone ⟨_, rfl, ?_⟩
      cases r0 with
      | none =>
        refine ⟨fun z => (by cases z), fun _ => ⟨fun z => (by cases z), fun _ => ?_⟩⟩
        refine Ex.nil ⟨rfl, ?_, rfl, rfl, trivial⟩
        rw [no ps]
      | some l =>
      refine ⟨fun _ => ?_, fun z => (by cases z)⟩
      refine Ts.cmp ?_
      repeat walk_at "ev"
      refine Sub.list (.fz _) (by omega) (by omega) e1 ?_
      walk_at "ev"
      refine Op2.isNotNone ⟨_, rfl, ?_⟩
      cases r1 with
      | none =>
        refine ⟨fun z => (by cases z), fun _ => ?_⟩
        refine Ex.nil ⟨rfl, ?_, rfl, rfl, trivial⟩
        rw [no ps]
      | some r =>
      refine ⟨fun _ => ?_, fun z => (by cases z)⟩
      obtain ⟨ll, lb⟩ := hr0 l rfl
      obtain ⟨rl, rb⟩ := hr1 r rfl
      refine Ex.cons ?_
      refine Ex1.assignK ?_
      refine Ev.call (Ev.b_list ⟨rfl, rfl, rfl, rfl⟩ ?_)
      repeat walk_at "ev"
      refine Sub.list (.fz _) (by omega) (by omega) e0 ?_
      walk_at "ev"
      refine Cal.list (.inl (.fz _)) (le_line (by simp; omega)) ?_
      refine Ex.cons ?_
      refine Ex1.assignK ?_
      refine Ev.call (Ev.b_list ⟨rfl, rfl, rfl, rfl⟩ ?_)
      repeat walk_at "ev"
      refine Sub.list (.fz _) (by omega) (by omega) e1 ?_
      walk_at "ev"
      refine Cal.list (.inl (.fz _)) (le_line (by simp; omega)) ?_
      refine Ex.cons ?_
      refine Ex1.assignT hh (caps := [("right", lTs r)]) ?_ rfl ?_
      · exact .cons .nil
      walk_at "ev"
      refine ⟨_, rfl, le_line (by simp; omega), ?_⟩
      refine CompT.filter (inT r) id ?_ ?_ ?_
      · intro u hu C
        obtain ⟨x, hx, rfl⟩ := List.mem_map.mp hu
        refine Ts.cmp ?_
        repeat walk_at "ev"
        refine Op2.in hr' (.fz (lT_ok (lb x hx))) (.fz (lTs_ok rb)) fun b hbu => ⟨b, rfl, ?_, rfl⟩
        rw [inT_lT, Bool.eq_iff_iff, hbu, lT_mem, decide_eq_true_eq]
      · intro u hu _ C
        walk_at "ev"
        exact ⟨rfl, rfl⟩
      rw [List.nil_append, filt_in]
      have hsl : ((l.filter (· ∈ r)).length ≤ 20) := Nat.le_trans (List.length_filter_le _ _) ll
      have hsr : ((r.filter (· ∈ l)).length ≤ 20) := Nat.le_trans (List.length_filter_le _ _) rl
      refine Ex.cons ?_
      refine StT.mono (P := PlB a pl bas cs j) ?_ ?_
      · refine Ex1.ifs ?_
        refine Ts.and ?_
        refine Ts.cmp ?_
        walk_at "ev"
        refine Ev.compT hh (caps := [("left", lTs l)]) ?_ ?_
        · exact .cons .nil
        walk_at "ev"
        refine ⟨_, rfl, le_line (by simp; omega), ?_⟩
        refine CompT.filter (inT l) id ?_ ?_ ?_
        · intro u hu C
          obtain ⟨x, hx, rfl⟩ := List.mem_map.mp hu
          refine Ts.cmp ?_
          repeat walk_at "ev"
          refine Op2.in hr' (.fz (lT_ok (rb x hx))) (.fz (lTs_ok lb)) fun b hbu => ⟨b, rfl, ?_, rfl⟩
          rw [inT_lT, Bool.eq_iff_iff, hbu, lT_mem, decide_eq_true_eq]
        · intro u hu _ C
          walk_at "ev"
          exact ⟨rfl, rfl⟩
        rw [List.nil_append, filt_in]
        refine Op2.eq hr' (.fz (lTs_ok fun n hn => lb n (List.mem_filter.mp hn).1)) (.fz (lTs_ok fun n hn => rb n (List.mem_filter.mp hn).1)) fun b hbu => ⟨b, rfl, ?_⟩
        have stop : plainTwo j l r = none → putT (tabT (fun i => optT (pl i)) j) (ltr j) .none = tabT (fun i => optT (pl i)) (j + 1) := fun z => no (ps.trans z)
        refine ⟨fun hb1 => ?_, fun hb1 => ⟨fun z => (by cases z), fun _ => ?_⟩⟩
        · have he1 := lTs_inj (hbu.mp hb1)
          refine Ts.cmp ?_
          refine Ev.slice ?_
          repeat walk_at "ev"
          refine ⟨_, none, some ((1 : Nat) : Int), none, .fz _, .none, .int _, .none, by decide, le_line (by simp; omega), ?_⟩
          rw [pick_take, ← List.map_take]
          refine Ev.compU hh (caps := []) ?_ ?_
          · exact .nil
          walk_at "ev"
          refine ⟨_, rfl, le_line (by simp; omega), ?_⟩
          refine CompU.map (fun t => .list [t]) ?_ ?_
          · intro u hu C
            repeat walk_at "ev"
            exact ⟨le_line rfl, rfl, rfl⟩
          rw [List.nil_append, List.map_map]
          have ones : ((fun t : T => T.list [t]) ∘ lT) = fun x => lTs [x] := rfl
          rw [ones]
          refine Op2.notIn hr' (.fz (lTs_ok fun n hn => lb n (List.mem_of_mem_take hn))) (.fz ?_) fun b hbu2 => ⟨b, rfl, ?_⟩
          · simp only [T.ok, List.all_eq_true]
            intro t ht
            obtain ⟨x, hx, rfl⟩ := List.mem_map.mp ht
            exact lTs_ok (k := 2) fun n hn => by rw [List.mem_singleton.mp hn]; exact rb x hx
          have hmem : lTs (l.take 1) ∈ r.map (fun x => lTs [x]) ↔ l.take 1 ∈ r.map (fun x => [x]) := by
            simp only [List.mem_map]
            constructor
            · rintro ⟨x, hx, e⟩; exact ⟨x, hx, lTs_inj e⟩
            · rintro ⟨x, hx, e⟩; exact ⟨x, hx, by rw [e]⟩
          refine ⟨fun hb2 => ?_, fun hb2 => ?_⟩
          · have hn : l.take 1 ∉ r.map (fun x => [x]) := fun z => by have := hbu2.mpr (hmem.mpr z); rw [hb2] at this; cases this
            have pj : pl j = some (plainMerge (l.filter (· ∈ r)) [j] l r) := by
              rw [ps]
              show plainTwo j l r = _
              unfold plainTwo
              rw [if_pos ⟨he1, hn⟩]
            have hs1 : (l.filter (· ∈ r)).Sublist l := List.filter_sublist
            have hs2 : (l.filter (· ∈ r)).Sublist r := by rw [he1]; exact List.filter_sublist
            refine Ex.cons ?_
            refine Ex1.assignL ?_
            repeat walk_at "ev"
            refine ⟨le_line rfl, ?_⟩
            refine Ex.cons ?_
            refine Ex1.for_ ?_
            walk_at "ev"
            refine ⟨_, _, Itb.list hh, ?_⟩
            refine ForP.inv (PlC a pl bas cs j l r) ?_ ?_ _ _ _ ⟨l.filter (· ∈ r), [j], l, r, rfl, rfl, hs1, hs2, by simp; omega, rfl, rfl, rfl, rfl, rfl, rfl, rfl, trivial⟩
            · rintro u rest vars c ⟨sh, line, l', r', e, rfl, q1, q2, q3, q4, hv⟩
              cases sh with
              | nil => cases e
              | cons x sh =>
              simp only [List.map_cons, List.cons.injEq] at e
              obtain ⟨rfl, rfl⟩ := e
              have hxl : x ∈ l' := q1.subset (.head _)
              have hxr : x ∈ r' := q2.subset (.head _)
              refine As.weaken hv.k (As.nameL ?_)
              refine Ex.cons ?_
              refine Ex1.assignL ?_
              refine Ev.bin (Ev.bin ?_)
              walk_at "ev"
              refine Ev.slice ?_
              walk_at "ev"
              refine EvO.none (EvO.some ?_)
              refine Ev.meth ?_
              walk_at "ev"
              refine ⟨_, _, GM.index (.fz _), ?_⟩
              repeat walk_at "ev"
              refine Cal.index (.fz _) hxl (by omega) ?_
              refine EvO.none ?_
              refine ⟨_, none, some ((l'.idxOf x : Nat) : Int), none, .fz _, .none, .int _, .none, by decide, le_line (by simp; omega), ?_⟩
              rw [pick_take, ← List.map_take]
              refine Op2.addLL (.fz _) (.fz _) (le_line (by simp; omega)) ?_
              rw [← List.map_append]
              refine Ev.slice ?_
              walk_at "ev"
              refine EvO.none (EvO.some ?_)
              refine Ev.bin ?_
              refine Ev.meth ?_
              walk_at "ev"
              refine ⟨_, _, GM.index (.fz _), ?_⟩
              repeat walk_at "ev"
              refine Cal.index (.fz _) hxr (by omega) ?_
              walk_at "ev"
              refine Op2.addII ?_
              refine EvO.none ?_
              refine ⟨_, none, some ((r'.idxOf x + 1 : Nat) : Int), none, .fz _, .none, .int _, .none, by decide, le_line (by simp; omega), ?_⟩
              rw [pick_take, ← List.map_take]
              refine Op2.addLL (.fz _) (.fz _) (le_line (by simp; omega)) ?_
              rw [← List.map_append]
              refine Ex.cons ?_
              refine Ex1.assignK ?_
              refine Ev.slice ?_
              walk_at "ev"
              refine EvO.some ?_
              refine Ev.bin ?_
              refine Ev.meth ?_
              walk_at "ev"
              refine ⟨_, _, GM.index (.fz _), ?_⟩
              repeat walk_at "ev"
              refine Cal.index (.fz _) hxl (by omega) ?_
              walk_at "ev"
              refine Op2.addII ?_
              refine EvO.none (EvO.none ?_)
              refine ⟨_, some ((l'.idxOf x + 1 : Nat) : Int), none, none, .fz _, .int _, .none, .none, by decide, le_line (by simp; omega), ?_⟩
              rw [pick_drop, ← List.map_drop]
              refine Ex.cons ?_
              refine Ex1.assignK ?_
              refine Ev.slice ?_
              walk_at "ev"
              refine EvO.some ?_
              refine Ev.bin ?_
              refine Ev.meth ?_
              walk_at "ev"
              refine ⟨_, _, GM.index (.fz _), ?_⟩
              repeat walk_at "ev"
              refine Cal.index (.fz _) hxr (by omega) ?_
              walk_at "ev"
              refine Op2.addII ?_
              refine EvO.none (EvO.none ?_)
              refine ⟨_, some ((r'.idxOf x + 1 : Nat) : Int), none, none, .fz _, .int _, .none, .none, by decide, le_line (by simp; omega), ?_⟩
              rw [pick_drop, ← List.map_drop]
              refine Ex.nil ?_
              refine ⟨sh, _, _, _, rfl, rfl, sub_drop q1, sub_drop q2, ?_, q4, rfl, rfl, rfl, rfl, rfl, rfl, trivial⟩
              have i1 := List.idxOf_lt_length_iff.mpr hxl
              have i2 := List.idxOf_lt_length_iff.mpr hxr
              simp only [List.length_append, List.length_take, List.length_drop]
              omega
            · rintro vars c ⟨sh, line, l', r', e, rfl, q1, q2, q3, q4, hv⟩
              have : sh = [] := by cases sh with
                | nil => rfl
                | cons x sh => cases e
              subst this
              refine Ex.nil ?_
              refine StT.weaken hv.k ?_
              refine Ex.cons ?_
              refine Ex1.setItem ?_
              repeat walk_at "ev"
              refine Op2.addLL (.fz _) (.fz _) (le_line (by simp; omega)) ?_
              rw [← List.map_append]
              walk_at "ev"
              refine Op2.addLL (.fz _) (.fz _) (le_line (by simp; omega)) ?_
              rw [← List.map_append]
              repeat walk_at "ev"
              refine ⟨a, _, _, _, rfl, rfl, .head, ?_, ?_, ?_⟩
              · exact put_nodup (tab_nodup _ _)
              · have := put_len (tabT (fun i => optT (pl i)) j) (ltr j) .none
                rw [tab_len] at this
                rw [sizeLine_eq]; omega
              refine Ex.nil ⟨rfl, ?_, rfl, rfl, trivial⟩
              rw [put_put, ← ht, pj, ← q4]
              rfl
          · have hn := hmem.mp (hbu2.mp hb2)
            refine Ex.nil ⟨rfl, ?_, rfl, rfl, trivial⟩
            rw [stop]
            unfold plainTwo
            rw [if_neg fun z => z.2 hn]
        · refine Ex.nil ⟨rfl, ?_, rfl, rfl, trivial⟩
          rw [stop]
          unfold plainTwo
          rw [if_neg fun z => ?_]
          have := hbu.mpr (by rw [z.1])
          rw [hb1] at this
          cases this
      rintro _ vars₂ _ ⟨rfl, rfl, hv₂⟩
      exact Ex.nil ⟨rfl, rfl, hv₂⟩
    rintro _ vars₂ _ ⟨rfl, rfl, hv₂⟩
    refine Ex.nil ⟨j + 1, by omega, rfl, rfl, hv₂⟩
  · rintro vars c ⟨j, hj, e, rfl, hv⟩
    refine Ex.nil ?_
    refine StT.weaken hv.k ?_
    refine Ex.cons ?_
    refine Ex1.ret ?_
    refine Ev.freezeD ?_
    walk_at "ev"
    refine ⟨a, _, _, rfl, rfl, ?_⟩
    have : j = 5 := by
      have := congrArg List.length e
      simp at this
      omega
    subst this
    exact h
end Mine
end

noncomputable section
open PySem PySem.W PyProof.Rows PySem.Calls
set_option Elab.async false
set_option linter.unusedVariables false
set_option maxRecDepth 100000
set_option pp.deepTerms false
set_option pp.deepTerms.threshold 3
set_option tactic.hygienic false
namespace Mine


noncomputable def isNm (x : Str) : Prop := x = "p" ∨ x = "P" ∨ x = "q" ∨ x = "Q"
theorem isNm.low {x : Str} (h : isNm x) : Txt.lower x = "p" ∨ Txt.lower x = "q" := by
  rcases h with rfl | rfl | rfl | rfl
  · exact .inl low_p
  · exact .inl low_P
  · exact .inr low_q
  · exact .inr low_Q
theorem isNm.len {x : Str} (h : isNm x) : (Txt.lower x).length ≤ 1000 := by
  rcases h.low with e | e <;> rw [e] <;> decide
theorem isNm.okL {x : Str} {k : Nat} (h : isNm x) : (T.str (Txt.lower x)).ok k = true := by
  have e1 : PyData.strOk "p" = true := by decide +kernel
  have e2 : PyData.strOk "q" = true := by decide +kernel
  rcases h.low with e | e <;> rw [e] <;> cases k <;> simp only [T.ok] <;> assumption
theorem isNm.ok {x : Str} {k : Nat} (h : isNm x) : (T.str x).ok k = true := by
  have e1 : PyData.strOk "p" = true := by decide +kernel
  have e2 : PyData.strOk "q" = true := by decide +kernel
  have e3 : PyData.strOk "P" = true := by decide +kernel
  have e4 : PyData.strOk "Q" = true := by decide +kernel
  rcases h with rfl | rfl | rfl | rfl <;> cases k <;> simp only [T.ok] <;> assumption
noncomputable def addTo (kept : List (Str × Nat)) (nm : Str) (i : Nat) : List (Str × Nat) := if kept.filter (fun p => Txt.lower p.1 == Txt.lower nm) = [] then kept ++ [(nm, i)] else kept
noncomputable def addAll (i : Nat) : List Str → List (Str × Nat) → List (Str × Nat)
  | [], kept => kept
  | nm :: r, kept => addAll i r (addTo kept nm i)
noncomputable def firstOf (own : Nat → List Str) : List Nat → List (Str × Nat) → List (Str × Nat)
  | [], kept => kept
  | i :: r, kept => firstOf own r (addAll i (own i) kept)
noncomputable abbrev kT (kept : List (Str × Nat)) : List T := kept.map fun p => pairT p.2 p.1
noncomputable def sameT (nm : Str) : T → Bool
  | .tup [.str x, _] => Txt.lower x == Txt.lower nm
  | _ => false
theorem sameT_pair (nm x : Str) (i : Nat) : sameT nm (pairT i x) = (Txt.lower x == Txt.lower nm) := rfl
theorem filt_same (nm : Str) (kept : List (Str × Nat)) : ((kT kept).filter (sameT nm)).map id = kT (kept.filter fun p => Txt.lower p.1 == Txt.lower nm) := by
  rw [List.map_id, List.filter_map]
  rfl
noncomputable def goodK (kept : List (Str × Nat)) : Prop := ∀ p ∈ kept, isNm p.1 ∧ p.2 < 5
theorem goodK.add {kept : List (Str × Nat)} {nm : Str} {i : Nat} (h : goodK kept) (hn : isNm nm) (hi : i < 5) : goodK (addTo kept nm i) := by
  unfold addTo
  split
  · intro p hp
    rcases List.mem_append.mp hp with hp | hp
    · exact h p hp
    · rw [List.mem_singleton.mp hp]; exact ⟨hn, hi⟩
  · exact h
theorem addTo_len (kept : List (Str × Nat)) (nm : Str) (i : Nat) : (addTo kept nm i).length ≤ kept.length + 1 := by
  unfold addTo
  split <;> simp
theorem kT_ok {kept : List (Str × Nat)} (h : goodK kept) : (T.list (kT kept)).ok 4 = true := by
  simp only [T.ok, List.all_eq_true]
  intro t ht
  obtain ⟨p, hp, rfl⟩ := List.mem_map.mp ht
  have := h p hp
  simp only [pairT, T.ok, List.all_cons, List.all_nil, Bool.and_true, Bool.and_eq_true]
  exact ⟨this.1.ok (k := 2), lT_ok (k := 2) this.2⟩
inductive FiA (a : Addr) (own : Nat → List Str) (line : List Nat) (cs : Cs) (us : List T) (vars : Vars) (c : Cs) : Prop
  | mk  (l : List Nat) (kept : List (Str × Nat)) (f1 : us = l.map lT) (f2 : c = (a, .list (kT kept)) :: cs) (f3 : goodK kept) (f4 : (∀ i ∈ l, i < 5)) (f5 : kept.length + 2 * l.length ≤ 40) (f6 : firstOf own l kept = firstOf own line []) (f7 : Has [("kept", .cel a), ("owns", .dict (tabT (fun i => .list ((own i).map (pairT i))) 5))] vars)
inductive FiB (a : Addr) (own : Nat → List Str) (i : Nat) (l : List Nat) (kept : List (Str × Nat)) (cs : Cs) (us : List T) (vars : Vars) (c : Cs) : Prop
  | mk  (ms : List Str) (k : List (Str × Nat)) (f1 : us = ms.map (pairT i)) (f2 : c = (a, .list (kT k)) :: cs) (f3 : goodK k) (f4 : (∀ x ∈ ms, isNm x)) (f5 : k.length + ms.length + 2 * l.length ≤ 40) (f6 : addAll i ms k = addAll i (own i) kept) (f7 : Has [("kept", .cel a), ("owns", .dict (tabT (fun i => .list ((own i).map (pairT i))) 5))] vars)
inductive FiC (a : Addr) (own : Nat → List Str) (k : List (Str × Nat)) (nm : Str) (i : Nat) (cs : Cs) (fl : Fl) (v : Vars) (c : Cs) : Prop
  | mk (f1 : fl = .next) (f2 : c = (a, .list (kT (addTo k nm i))) :: cs) (f3 : Has [("kept", .cel a), ("owns", .dict (tabT (fun i => .list ((own i).map (pairT i))) 5))] v)
theorem first_spec {g : Gx} {A : Around} {cs : Cs} {P : T → Cs → Prop} {n : Nat} (hr : Room A (n + 2)) (own : Nat → List Str) (line : List Nat) (ho : ∀ i < 5, (own i).length ≤ 2 ∧ ∀ x ∈ own i, isNm x) (hl : ∀ i ∈ line, i < 5) (hz : line.length ≤ 20)
    (h : P (.list (kT (firstOf own line []))) cs) : Cal g A (.raw (.ref 346)) [.dict (tabT (fun i => .list ((own i).map (pairT i))) 5), lTs line] [] cs P := by
  refine Cal.fn (n := n + 1) (bs := [("owns", .dict (tabT (fun i => .list ((own i).map (pairT i))) 5)), ("line", lTs line)]) hr rfl rfl (BindP.pl2 (fun v w => ?_)) (fun L A' hr' => ?_) rfl (by show (["owns", "line"] : List Str).Nodup; decide) (by decide)
  · rfl
  have hh := hr'.1
  refine Ex.cons ?_
  refine Ex1.assignL ?_
  refine Ev.listC ?_
  refine Evs.nil ⟨le_line rfl, fun a => ?_⟩
  refine Ex.cons ?_
  refine Ex1.for_ ?_
  walk_at "ev"
  refine ⟨_, _, Itb.list hh, ?_⟩
  refine ForP.inv (FiA a own line cs) ?_ ?_ _ _ _ ⟨line, [], rfl, rfl, fun p hp => (nomatch hp), hl, by simp; omega, rfl, rfl, rfl, trivial⟩
  · rintro u rest vars c ⟨l, kept, e, rfl, gk, hl', hz', hf, hv⟩
    cases l with
    | nil => cases e
    | cons i l =>
    simp only [List.map_cons, List.cons.injEq] at e
    obtain ⟨rfl, rfl⟩ := e
    have hi : i < 5 := hl' i (.head _)
    refine As.weaken hv.k (As.nameL ?_)
    refine Ex.cons ?_
    refine Ex1.for_ ?_
    repeat walk_at "ev"
    refine Sub.dict (.fz _) (tab_look _ 5 i hi) ?_
    refine ⟨_, _, Itb.list hh, ?_⟩
    have h2 := (ho i hi).1
    refine ForP.inv (FiB a own i l kept cs) ?_ ?_ _ _ _ ⟨own i, kept, rfl, rfl, gk, (ho i hi).2, by simp at hz'; omega, rfl, rfl, rfl, trivial⟩
    · rintro u rest vars c ⟨ms, k, e, rfl, gk', hm, hz2, hf2, hv⟩
      cases ms with
      | nil => cases e
      | cons nm ms =>
      simp only [List.map_cons, List.cons.injEq] at e
      obtain ⟨rfl, rfl⟩ := e
      have hnm := hm nm (.head _)
      refine As.weaken hv.k (As.tup2 hh (.inr rfl) (.inl rfl) ?_)
      refine Ex.cons ?_
      refine StT.mono (P := FiC a own k nm i cs) ?_ ?_
      · refine Ex1.ifs ?_
        refine Ts.cmp ?_
        refine Ev.compTC hh (caps := [("name", .str nm)]) ?_ ?_
        · exact .cons .nil
        walk_at "ev"
        refine ⟨a, _, _, rfl, rfl, le_line (by simp at hz2 ⊢; omega), ?_⟩
        refine CompT.filter (sameT nm) id ?_ ?_ ?_
        · intro u hu C
          obtain ⟨p, hp, rfl⟩ := List.mem_map.mp hu
          have gp := gk' p hp
          refine Ts.cmp ?_
          refine Ev.meth ?_
          repeat walk_at "ev"
          refine Sub.tup (by omega) (by omega) (j := 0) rfl rfl ?_
          refine ⟨_, _, GM.lower, ?_⟩
          refine ArgP.nil ?_
          refine Cal.lower rfl gp.1.len ?_
          refine Ev.meth ?_
          repeat walk_at "ev"
          refine ⟨_, _, GM.lower, ?_⟩
          refine ArgP.nil ?_
          refine Cal.lower rfl hnm.len ?_
          refine Op2.eq hr' (.fz gp.1.okL) (.fz hnm.okL) fun b hbu => ⟨b, rfl, ?_, rfl⟩
          rw [sameT_pair, Bool.eq_iff_iff, hbu]
          constructor
          · intro z; injection z with z; simp [z]
          · intro z; rw [eq_of_beq z]
        · intro u hu _ C
          walk_at "ev"
          exact ⟨rfl, rfl⟩
        rw [List.nil_append, filt_same]
        walk_at "ev"
        walk_at "ev"
        refine ⟨le_line rfl, ?_⟩
        refine Op2.eq hr' (.fz (kT_ok fun p hp => gk' p (List.mem_filter.mp hp).1)) (.fz rfl) fun b hbu => ⟨b, rfl, fun hb => ?_, fun hb => ?_⟩
        · have he : k.filter (fun p => Txt.lower p.1 == Txt.lower nm) = [] := by
            have := hbu.mp hb
            injection this with this
            exact List.map_eq_nil_iff.mp this
          refine Ex.cons ?_
          refine Ex1.expr ?_
          refine Ev.meth ?_
          walk_at "ev"
          refine ⟨_, _, GM.append (.cel (.head _)), ?_⟩
          repeat walk_at "ev"
          refine ⟨le_line rfl, ?_⟩
          walk_at "ev"
          refine Cal.append .head (le_line (by simp at hz2 ⊢; omega)) ?_
          refine Ex.nil ⟨rfl, ?_, rfl, rfl, trivial⟩
          unfold addTo
          rw [if_pos he]
          simp [kT, pairT]
        · refine Ex.nil ⟨rfl, ?_, rfl, rfl, trivial⟩
          unfold addTo
          rw [if_neg fun z => ?_]
          have := hbu.mpr (by rw [z]; rfl)
          rw [hb] at this; cases this
      rintro _ vars₂ _ ⟨rfl, rfl, hv₂⟩
      refine Ex.nil ⟨ms, addTo k nm i, rfl, rfl, gk'.add hnm hi, fun x hx => hm x (.tail _ hx), ?_, hf2, hv₂⟩
      have := addTo_len k nm i
      simp at hz2
      omega
    · rintro vars c ⟨ms, k, e, rfl, gk', hm, hz2, hf2, hv⟩
      have : ms = [] := by cases ms with
        | nil => rfl
        | cons x sh => cases e
      subst this
      refine Ex.nil ?_
      refine Ex.nil ⟨l, k, rfl, rfl, gk', fun i hi => hl' i (.tail _ hi), by simp at hz2; omega, ?_, hv⟩
      rw [← hf]
      show _ = firstOf own l (addAll i (own i) kept)
      rw [← hf2]
      rfl
  · rintro vars c ⟨l, kept, e, rfl, gk, hl', hz', hf, hv⟩
    have : l = [] := by cases l with
      | nil => rfl
      | cons x sh => cases e
    subst this
    refine Ex.nil ?_
    refine StT.weaken hv.k ?_
    refine Ex.cons ?_
    refine Ex1.ret ?_
    refine Ev.freezeL ?_
    walk_at "ev"
    refine ⟨a, _, _, rfl, rfl, ?_⟩
    have : kept = firstOf own line [] := hf
    rw [this]
    exact h
end Mine
end

noncomputable section
open PySem PySem.W PyProof.Rows PySem.Calls
set_option Elab.async false
set_option linter.unusedVariables false
set_option maxRecDepth 100000
set_option pp.deepTerms false
set_option pp.deepTerms.threshold 3
namespace Mine

section
variable {g : Gx} {A : Around} {c : Ctx} {cs cs' : Cs} {co : List (Addr × Obj)} {h : Heap} {a : Addr} {k k' : C}
theorem Upd.pre {d : Addr} {o o' : Obj} {l l' : List (Addr × Obj)} : ∀ {pre : List (Addr × Obj)}, (∀ p ∈ pre, p.1 ≠ d) → Upd d o o' l l' → Upd d o o' (pre ++ l) (pre ++ l')
  | [], _, h => h
  | p :: pre, hp, h => .tail (hp p (.head _)) (Upd.pre (fun q hq => hp q (.tail _ hq)) h)
theorem CU.upd {o' : Obj} {ks : List Addr} (hks : a ∉ ks) : ∀ {cs cs' : Cs} {co : List (Addr × Obj)}, CU a k k' cs cs' → co.map (·.1) = cs.map (·.1) ++ ks → (cs.map (·.1)).Nodup → ∃ o co', (a, o) ∈ co ∧ Upd a o o' co co' ∧ co'.map (·.1) = cs'.map (·.1) ++ ks ∧ (∀ p ∈ co, p.1 ≠ a → p ∈ co') ∧ (a, o') ∈ co'
  | _, _, [], .head, e, _ => by simp at e
  | _, _, q :: co, .head, e, nd => by
    simp only [List.map_cons, List.cons_append, List.cons.injEq] at e
    obtain ⟨b, o⟩ := q
    obtain ⟨rfl, e2⟩ := e
    have nd' := List.nodup_cons.mp nd
    refine ⟨o, (b, o') :: co, .head _, .head fun p hp z => nd'.1 ?_, by simp [e2], fun p hp hn => ?_, .head _⟩
    · have hm : p.1 ∈ co.map (·.1) := List.mem_map_of_mem hp
      rw [e2, z] at hm
      exact (List.mem_append.mp hm).elim id fun y => absurd y hks
    · rcases List.mem_cons.mp hp with rfl | hp
      · exact absurd rfl hn
      · exact .tail _ hp
  | _, _, [], .tail _, e, _ => by simp at e
  | _, _, q :: co, .tail U, e, nd => by
    simp only [List.map_cons, List.cons_append, List.cons.injEq] at e
    have nd' := List.nodup_cons.mp nd
    obtain ⟨o, co', h1, h2, h3, h4, h5⟩ := U.upd hks (o' := o') e.2 nd'.2
    have hq : q.1 ≠ a := fun z => nd'.1 (List.mem_map.mpr ⟨_, U.mem, (e.1.symm.trans z).symm⟩)
    refine ⟨o, q :: co', .tail _ h1, .tail hq h2, by simp [h3, e.1], fun p hp hn => ?_, .tail _ h5⟩
    rcases List.mem_cons.mp hp with rfl | hp
    · exact .head _
    · exact .tail _ (h4 p hp hn)
/-- the whole ledger, with one cell changed -/
theorem Bk.upd {o' : Obj} (B : Bk g A c cs co) (N : News c.h₀ c.L h (c.all co)) (U : CU a k k' cs cs') (cr' : CR g.P c.fz a k' o') : ∃ o co', (a, o) ∈ co ∧ CR g.P c.fz a k o ∧ Upd a o o' (c.all co) (c.all co') ∧ Bk g A c cs' co' := by
  obtain ⟨o, co', h1, h2, h3, h4, h5⟩ := U.upd (o' := o') (fun z => by obtain ⟨q, hq, e⟩ := List.mem_map.mp z; exact B.ap3 _ U.mem q hq e.symm) B.keys B.nd
  have uniq : ∀ p ∈ cs, ∀ ob ob', (p.1, ob) ∈ co → (p.1, ob') ∈ co → ob = ob' := fun p hp ob ob' m1 m2 => by
    have e1 := (N _ (List.mem_append_right _ m1)).1
    have e2 := (N _ (List.mem_append_right _ m2)).1
    rw [e1] at e2
    exact Option.some.inj e2
  obtain ⟨oo, m, cr⟩ := B.cr _ U.mem
  have := uniq _ U.mem _ _ m h1
  subst this
  refine ⟨oo, co', h1, cr, Upd.pre (fun p hp => Ne.symm (B.ap _ U.mem p hp)) h2, ⟨B.below, B.X, B.top, h3, fun p hp => ?_, by rw [U.keys]; exact B.nd, fun p hp q hq => ?_, B.ap2, fun p hp => ?_, B.exF, B.exC, fun p hp q hq => ?_, B.ap4⟩⟩
  · rcases U.each B.nd p hp with rfl | ⟨hp, hn⟩
    · exact ⟨o', h5, cr'⟩
    · obtain ⟨ob, m, cr⟩ := B.cr p hp
      exact ⟨ob, h4 _ m hn, cr⟩
  · rcases U.each B.nd p hp with rfl | ⟨hp, _⟩
    · exact B.ap _ U.mem q hq
    · exact B.ap p hp q hq
  · obtain ⟨sl, hm⟩ := B.fr p hp
    exact ⟨sl, h4 _ hm fun e => B.ap3 _ U.mem p hp e.symm⟩
  · rcases U.each B.nd p hp with rfl | ⟨hp, _⟩
    · exact B.ap3 _ U.mem q hq
    · exact B.ap3 p hp q hq
theorem VRd.getL {P : Params} {fz : List (Addr × Obj)} {ds : List (Str × T)} {es : List DictEntry} (x : Str) : VRd P fz ds es → (∃ t v, ds.lookup x = some t ∧ W.getL x es = some (some v) ∧ VR P fz t v) ∨ (ds.lookup x = none ∧ W.getL x es = some none)
  | .nil => .inr ⟨rfl, rfl⟩
  | .cons (x := y) (tk := tk) (t := t) (v := v) (ds := ds) (es := es) r rs => by
    have ih := rs.getL x
    unfold W.getL at ih ⊢
    by_cases e : y = x
    · subst e
      exact .inl ⟨t, v, by simp [List.lookup], by simp [Value.isStr], r⟩
    · have e1 : (x == y) = false := by simpa using fun q : x = y => e q.symm
      have e2 : Value.isStr (.str y tk) x = false := by simp [Value.isStr, e]
      have e3 : DictEntry.refKey ⟨PyData.keyHash P y, .str y tk, v⟩ = false := rfl
      simp only [List.lookup_cons, e1, List.find?_cons, e2, List.any_cons, e3, Bool.false_or]
      exact ih
end

/-- a thing of an own class -/
inductive IsO (cs : Cs) : T → Addr → List (Str × T) → Prop where
  | fz (C : Addr) (ds : List (Str × T)) : IsO cs (.obj C ds) C ds
  | cel {a d C : Addr} {ds : List (Str × T)} : (a, Mine.C.inst C d) ∈ cs → (d, Mine.C.dict ds) ∈ cs → IsO cs (.cel a) C ds
section
variable {g : Gx} {A : Around} {c : Ctx} {cs cs' : Cs} {h : Heap} {env : Env} {vars : Vars} {P : T → Cs → Prop}
theorem RF.isO {t : T} {K : Addr} {ds : List (Str × T)} {v : Value} (R : RF g A c cs h) (H : IsO cs t K ds) (V : VR g.P c.fz t v) : ∃ x d es n, v = .ref x ∧ InstAt h x (instObj K d) K (some (dictOf es n)) ∧ VRd g.P c.fz ds es := by
  cases H with
  | fz => cases V with | obj h1 h2 r => exact ⟨_, _, _, _, rfl, ⟨R.fzGet h1, rfl, rfl, R.fzGet h2⟩, r⟩
  | cel h1 h2 =>
    cases V
    obtain ⟨o1, c1, e1⟩ := R.get h1
    obtain ⟨o2, c2, e2⟩ := R.get h2
    cases c1
    cases c2 with | dict n q r => exact ⟨_, _, _, n, rfl, ⟨e1, rfl, rfl, e2⟩, r⟩
noncomputable def Att (g : Gx) (A : Around) (t : T) (name : Str) (cs : Cs) (P : T → Cs → Prop) : Prop :=
  ∀ (c : Ctx) (s : Shared) (Q E : Value → Shared → Prop) (v : Value), VR g.P c.fz t v → RF g A c cs s.heap →
    (∀ fz' r v cs' h' tk', (∀ p ∈ c.fz, p ∈ fz') → P r cs' → VR g.P fz' r v → RF g A (c.with fz') cs' h' → Q v { s with heap := h', toks := tk' }) → wpAny g.M A (getAttr v name true) Q E s
theorem Ev.attr {value : Expr} {attr : Str} {pos : Pos} (H : Ev g A env vars value cs fun t cs' => Att g A t attr cs' P)
    (he : eval (.Attribute value attr pos) env = (do
      let o ← eval value env
      standAt pos.atName
      let r ← holding [o] (getAttr o attr true)
      letTemporaryGo value o r
      pure r) := by with_unfolding_all rfl) : Ev g A env vars (.Attribute value attr pos) cs P := by
  rintro c s Q E _ ⟨V, rfl⟩ R k
  exact Attribute_any_ (H.use V R fun fz₁ t v cs₁ h₁ tk₁ m₁ H₁ r₁ R₁ => H₁ (c.with fz₁) _ Q E v r₁ R₁ fun fz₂ r v cs₂ h₂ tk₂ m₂ => k fz₂ r v cs₂ h₂ tk₂ fun q hq => m₂ q (m₁ q hq)) he
/-- trees that are no builtin -/
noncomputable def T.plainV : T → Bool
  | .raw (.builtin _) => false
  | _ => true
theorem VR.handed {P : Params} {fz : List (Addr × Obj)} {t : T} {v : Value} (r : VR P fz t v) (h : t.plainV = true) : handedIn v = true := by
  cases r <;> try rfl
  cases v <;> first | rfl | cases h
theorem Att.own {t u : T} {K : Addr} {ds : List (Str × T)} {name : Str} {attr : Option Value} (io : IsO cs t K ds) (hu : ds.lookup name = some u) (hp : u.plainV = true) (h : P u cs)
    (hg : plainGet (kk g.w.params) K name = true) (hh : hasDictIn (kk g.w.params) K = true) (ha : findIn (kk g.w.params) (.ref K) name = some attr) (hn : noGet (kk g.w.params) attr = true) : Att g A t name cs P := by
  intro c s Q E v r R k
  obtain ⟨x, d, es, n, rfl, I, ra⟩ := R.isO io r
  rcases ra.getL name with ⟨t', v', e1, e2, rv⟩ | ⟨e1, _⟩
  · rw [hu] at e1; cases e1
    exact get_own R.F R.X I hg hh ha hn e2 (rv.handed hp) (k c.fz u v' cs s.heap _ (fun _ h => h) h rv R)
  · rw [hu] at e1; cases e1
theorem GM.own {t : T} {K f : Addr} {ds : List (Str × T)} {name : Str} (io : IsO cs t K ds) (hl : ds.lookup name = none)
    (hg : plainGet (kk g.w.params) K name = true) (hf : findIn (kk g.w.params) (.ref K) name = some (some (.ref f))) (ht : isFn (kk g.w.params) (.ref f) = true) : GM g A t name cs (.ref f) [t] := by
  intro c s v pl Q E r R k
  obtain ⟨x, d, es, n, rfl, I, ra⟩ := R.isO io r
  rcases ra.getL name with ⟨t', v', e1, e2, rv⟩ | ⟨_, e2⟩
  · rw [hl] at e1; cases e1
  · exact method_inst R.F R.X I hg hf ht e2 (k [.ref x] s.toks (.cons r .nil))
theorem putT_cons (y x : Str) (u t : T) (ds : List (Str × T)) (nd : (((y, u) :: ds).map (·.1)).Nodup) : putT ((y, u) :: ds) x t = if y = x then (y, t) :: ds else (y, u) :: putT ds x t := by
  by_cases e : y = x
  · subst e
    have n1 := (List.nodup_cons.mp nd).1
    unfold putT
    simp only [List.any_cons, decide_true, Bool.true_or, if_true, List.map_cons]
    congr 1
    refine (List.map_congr_left fun p hp => ?_).trans (List.map_id _)
    have : p.1 ≠ y := fun z => n1 (List.mem_map.mpr ⟨p, hp, z⟩)
    simp [this]
  · unfold putT
    simp only [List.any_cons, e, decide_false, Bool.false_or, if_false, List.map_cons]
    split <;> simp
theorem VRd.put {P : Params} {fz : List (Addr × Obj)} {x : Str} {t : T} {v : Value} {tk : Tok} (hv : VR P fz t v) : ∀ {ds : List (Str × T)} {es : List DictEntry}, VRd P fz ds es → (ds.map (·.1)).Nodup → VRd P fz (putT ds x t) (putL x (PyData.keyHash P x) (.str x tk) v es)
  | _, _, .nil, _ => .cons hv .nil
  | _, _, .cons (x := y) (tk := tk') (t := u) (v := w) (ds := ds) (es := es) r rs, nd => by
    have ih := VRd.put (x := x) (tk := tk) hv rs (List.nodup_cons.mp nd).2
    rw [putT_cons _ _ _ _ _ nd]
    by_cases e : y = x
    · subst e
      have e2 : Value.isStr (.str y tk') y = true := by simp [Value.isStr]
      simp only [putL, e2, if_true]
      exact .cons hv rs
    · have e2 : Value.isStr (.str y tk') x = false := by simp [Value.isStr, e]
      simp only [putL, e2, if_neg e, Bool.false_eq_true, if_false]
      exact .cons r ih
theorem VRd.length {P : Params} {fz : List (Addr × Obj)} {ds : List (Str × T)} {es : List DictEntry} : VRd P fz ds es → es.length = ds.length
  | .nil => rfl
  | .cons _ r => by simp [r.length]
theorem swaps_attr {value o : Expr} {nm : Str} {p : Pos} {l : Nat} : swapsWith value (some (.Attribute o nm p)) l env = pure false := by
  cases value <;> rfl
/-- a field set -/
noncomputable def SetA (g : Gx) (A : Around) (to t : T) (name : Str) (cs : Cs) (P : Cs → Prop) : Prop :=
  ∀ (c : Ctx) (s : Shared) (Q : Unit → Shared → Prop) (E : Value → Shared → Prop) (ov v : Value), VR g.P c.fz to ov → VR g.P c.fz t v → RF g A c cs s.heap →
    (∀ cs' h' tk', P cs' → RF g A c cs' h' → Q () { s with heap := h', toks := tk' }) → wpAny g.M A (setAttr ov name v) Q E s
theorem SetA.own {a K d : Addr} {ds : List (Str × T)} {t : T} {name : Str} {P : Cs → Prop} (hi : (a, Mine.C.inst K d) ∈ cs) (U : CU d (.dict ds) (.dict (putT ds name t)) cs cs') (nd : (ds.map (·.1)).Nodup) (hz : ds.length ≤ 500) (h : P cs')
    (hs : findIn (kk g.w.params) (.ref K) "__setattr__" = some (some (.builtin "object.__setattr__"))) (hp : plainOver (kk g.w.params) K = true) (ht : takerIn (kk g.w.params) K name = some none) (hh : hasDictIn (kk g.w.params) K = true) : SetA g A (.cel a) t name cs P := by
  intro c s Q E ov v r1 r2 R k
  cases r1
  obtain ⟨o2, cr, e2⟩ := R.get U.mem
  cases cr with
  | dict n q rd =>
  rename_i es
  obtain ⟨o1, c1, e1⟩ := R.get hi
  cases c1
  obtain ⟨co, B, N⟩ := R.book
  have rd' := rd.put (tk := s.toks + 1) (x := name) r2 nd
  obtain ⟨o, co', m1, cr1, Up, B'⟩ := B.upd (o' := dictOf (putL name (PyData.keyHash g.w.params name) (.str name (s.toks + 1)) v es) (putN name es n)) N U (.dict _ q rd')
  have eo : o = dictOf es n := by
    have := (N _ (List.mem_append_right _ m1)).1
    rw [e2] at this
    exact (Option.some.inj this).symm
  subst eo
  refine set_dict R.F R.X N ⟨e1, rfl, rfl, e2⟩ rfl hs hp ht hh ?_ rfl Up ?_ fun h' F' N' => k cs' h' _ h (B'.rf F' N')
  · rcases rd.getL name with ⟨_, _, _, e, _⟩ | ⟨_, e⟩ <;> rw [e] <;> rfl
  · rw [rd'.length]
    unfold putT
    split <;> simp <;> omega
theorem Ex1.setAttr {o value : Expr} {nm : Str} {pos' pos : Pos} {P : Fl → Vars → Cs → Prop} {X : XP} (H : Ev g A env vars value cs fun t cs₁ => Ev g A env vars o cs₁ fun to cs₂ => SetA g A to t nm cs₂ fun cs₃ => P .next vars cs₃) : Ex1 g A env (.Assign [.Attribute o nm pos'] value pos) vars cs P X := by
  intro c s Q E S R hE q ee
  refine plainObj_wpAny_Assign_Attribute (H.use S.ok R fun fz₁ t v cs₁ h₁ tk₁ m₁ H₁ r₁ R₁ => H₁.use (S.ok.mono m₁) R₁ fun fz₂ to ov cs₂ h₂ tk₂ m₂ H₂ r₂ R₂ => ?_) swaps_attr
  have m : ∀ p ∈ c.fz, p ∈ fz₂ := fun p hp => m₂ p (m₁ p hp)
  exact H₂ (c.with fz₂) { s with heap := h₂, toks := tk₂ } _ E ov v r₂ (r₁.mono m₂) R₂ fun cs₃ h₃ tk₃ p R₃ => q (c.with fz₂) .next .next vars cs₃ h₃ tk₃ (.with m) p .next (S.mono m) R₃
end
end Mine
end

noncomputable section
open PySem PySem.W PyProof.Rows PySem.Calls
set_option Elab.async false
set_option linter.unusedVariables false
set_option maxRecDepth 100000
set_option pp.deepTerms false
set_option pp.deepTerms.threshold 3
set_option tactic.hygienic false
namespace Mine

section
variable {g : Gx} {A : Around} {cs : Cs} {P : T → Cs → Prop}
theorem RF.around {A' : Around} {c : Ctx} {h : Heap} (R : RF g A c cs h) (e : A'.frames = A.frames) : RF g A' c cs h := by
  refine ⟨?_, R.F, R.X, R.top, R.N, R.co, R.nd, R.ap, R.ap2, R.fx⟩
  obtain ⟨fenv, outer, f, r⟩ := R.below
  exact ⟨fenv, outer, e.trans f, r⟩
/-- a call as code -/
noncomputable def CalC (g : Gx) (A : Around) (f : Value) (ts : List T) (kw : List (Str × T)) (cs : Cs) (P : T → Cs → Prop) : Prop :=
  ∀ (c : Ctx) (s : Shared) (R' : Result → Shared → Prop) (vs kvs : List Value), VRs g.P c.fz ts vs → VRs g.P c.fz (kw.map (·.2)) kvs → RF g A c cs s.heap →
    (∀ fz' r v cs' h' tk', (∀ p ∈ c.fz, p ∈ fz') → P r cs' → VR g.P fz' r v → RF g A (c.with fz') cs' h' → R' (.ok (.ret v)) { s with heap := h', toks := tk' }) → codeAny g.M A (.call f ⟨vs, (kw.map (·.1)).zip kvs⟩) R' s
theorem CalC.fn {name qual : Str} {params : Arguments} {body : List Stmt} {scope : Scope} {dV kV doc pm cdv ct oc : Value} {an od : Option Addr} {osl : Array (Option Value)} {f : Addr} {ts : List T} {kw bs : List (Str × T)} {n : Nat}
    (hr : Room A (n + 1)) (ho : (kk g.w.params).lookup f = some ⟨oc, od, .func (fnOf name qual params body scope dV kV doc pm an cdv ct), osl⟩) (hcd : codeIn (kk g.w.params) cdv qual = true)
    (hb : BindP g A.in1 (fnOf name qual params body scope dV kV doc pm an cdv ct) ts kw cs bs)
    (H : ∀ L A', Room A' n → Ex g A' (envX qual scope L f cdv (cellsFrom (L + 1) scope.names [])) body bs cs (fun fl _ cs' => P (retT fl) cs') noX)
    (hkind : (bs.all fun y => scope.names.lookup y.1 == some .local || scope.names.lookup y.1 == some .cell) = true) (hbn : (bs.map (·.1)).Nodup)
    (hnd : ((cellsFrom 0 scope.names []).map (·.1)).Nodup)
    (hco : scope.isCoroutine = false := by rfl) (hgen : scope.isGenerator = false := by rfl) (hk : scope.kind = .function := by rfl) : CalC g A (.ref f) ts kw cs P := fun c s R' vs kvs rv rk R k =>
  code_fn hr ho hcd hb hkind hbn hnd (fun L => H L _ (hr.deeper _)) hco hgen hk R rv rk k
theorem units_make (C : Addr) (vals : List Value) (kw : List (Str × Value)) : (Code.builtin "type.__call__" ⟨.ref C :: vals, kw⟩).cUnits ≤ 4 := by
  show 1 + 3 * _ ≤ 4
  have : (Code.builtin "type.__call__" ⟨.ref C :: vals, kw⟩).frames ≤ 1 := by first | exact Nat.le_refl _ | exact Nat.zero_le _
  omega
theorem Room.under {n : Nat} {C : Addr} {vals : List Value} {kw : List (Str × Value)} (h : Room A (n + 1)) : Room (A.under (.builtin "type.__call__" ⟨.ref C :: vals, kw⟩)) n :=
  ⟨h.1, by have := h.2.1; rw [depth_under_kw]; omega, by have := h.2.2; have e := units_make C vals kw; show A.units + (Code.builtin "type.__call__" ⟨.ref C :: vals, kw⟩).cUnits + 8 * n + 8 < _; omega⟩
/-- a new thing of an own class -/
theorem Cal.mk {C fI : Addr} {ts : List T} {kw : List (Str × T)} {n : Nat} (hr : Room A (n + 1)) (H : ∀ A', Room A' n → ∀ x dx, CalC g A' (.ref fI) (.cel x :: ts) kw ((x, .inst C dx) :: (dx, .dict []) :: cs) fun t cs' => t = .none ∧ P (.cel x) cs')
    (hm : makesIn (kk g.w.params) C = true) (hi : findIn (kk g.w.params) (.ref C) "__init__" = some (some (.ref fI))) (hf : isFn (kk g.w.params) (.ref fI) = true) (hk : keepIn (kk g.w.params) (.ref C) = true) : Cal g A (.raw (.ref C)) ts kw cs P := by
  intro c s Q E f vs kvs rf rv rk R k
  cases rf
  refine ⟨.K R hk, ?_⟩
  obtain ⟨hh, sg, sd, st, so⟩ := s
  have X := R.XIn
  refine wpAny_call (make_core (makes_of X hm) (looks_findIn X hi) (fun self => bind_fn X self (beq_iff_eq.mp hf)) (.inl rfl) ?_)
  have R0 := R.pushC (k := .dict []) (o := emptyDict) (.dict 0 R.lowNew .nil)
  have R1 := R0.pushC (k := .inst C hh.objs.size) (o := instObj C hh.objs.size) (.inst C _)
  rw [Heap.size_push] at R1
  refine H _ hr.under _ _ c ⟨_, sg, sd, st, so⟩ _ (.ref (hh.objs.size + 1) :: vs) kvs (.cons (.cel _) rv) rk (R1.around rfl) fun fz' r v cs' h'' tk' m p rr R2 => ?_
  obtain ⟨rfl, p⟩ := p
  cases rr
  exact ⟨rfl, k fz' _ _ cs' h'' tk' m p (.cel _) (R2.around rfl)⟩
end
end Mine
end

noncomputable section
open PySem PySem.W PyProof.Rows PySem.Calls
set_option Elab.async false
set_option linter.unusedVariables false
set_option maxRecDepth 100000
open PySem.Builtin.Re PySem.Builtin
set_option tactic.hygienic false
namespace Mine
theorem plainAttrs_re : PlainAttrs "re.Pattern" :=
  ⟨⟨"object.__getattribute__", by rw [typeLookup_type, builtinLookup_eq_fast]; kernel_rfl, by decide +kernel⟩, by rw [typeLookup_type, builtinLookup_eq_fast]; kernel_rfl⟩
theorem slot_re_search : Slot "re.Pattern" "search" "re.Pattern.search" :=
  .of (owner := "re.Pattern") (n := "search") (by rw [typeLookup_type, builtinLookup_eq_fast]; kernel_rfl) (by decide +kernel) (by decide +kernel) (by decide +kernel)
    (by first | exact .inl (by decide +kernel) | exact .inr (by decide +kernel)) (by rw [isSubtype_type]; kernel_rfl)
theorem type_re_search : typeOf (.builtin "re.Pattern.search") = pure (.type "method_descriptor") := by show builtinType _ = _; rw [builtinType_eq_fast]; kernel_rfl
theorem entry_re_search : entryFor table "re.Pattern.search" = some Builtin.«re.Pattern.search» := entryFor_of_tree (by kernel_rfl)
theorem args_re_search (a b : Value) : argsOk "re.Pattern.search" ⟨[a, b], []⟩ := by
  unfold argsOk; kernel_rfl
noncomputable def drive : Nat → Sre.M → Option Sre.M
  | 0, _ => none
  | n + 1, m => if (m.runFor reTurnSteps).outcome.isSome then some (m.runFor reTurnSteps) else drive n (m.runFor reTurnSteps)
noncomputable def missed (m : Option Sre.M) : Bool := match m.bind (·.outcome) with
  | some .failed => true
  | _ => false
section
variable {M : Model} {A : Around} {E : Value → Shared → Prop}
theorem wp_drive : ∀ {k turns : Nat} {m m' : Sre.M} {s : Shared} {Q : Sre.M → Shared → Prop}, drive k m = some m' → k ≤ turns → Q m' s → wpAny M A (reDrive turns m) Q E s
  | 0, _, _, _, _, _, e, _, _ => by cases e
  | k + 1, 0, _, _, _, _, _, h, _ => by omega
  | k + 1, n + 1, m, m', s, Q, e, h, q => by
    rw [drive] at e
    rw [reDrive]
    split at e
    · rename_i z
      cases e
      rw [if_pos z]
      exact wpAny_pure q
    · rename_i z
      rw [if_neg z]
      exact wpAny_bind (wpAny_rule (wp_drive e (by omega) q))
theorem wp_rules {p : Nat → Bool} {nm : Nat → String} {s : Shared} {Q : PUnit → Shared → Prop} (q : Q ⟨⟩ s) : ∀ l : List Nat, wpAny M A (forIn l PUnit.unit fun i _ => (if p i then do rule (nm i); pure (ForInStep.yield PUnit.unit) else pure (ForInStep.yield PUnit.unit))) Q E s
  | [] => by simp only [List.forIn_nil]; exact wpAny_pure q
  | i :: l => by
    simp only [List.forIn_cons]
    refine wpAny_bind ?_
    cases p i with
    | true => exact wpAny_bind (wpAny_rule (wpAny_pure (wp_rules q l)))
    | false => exact wpAny_pure (wp_rules q l)
theorem wp_run {k : Nat} {m : Sre.M} {s : Shared} {Q : Option Sre.M → Shared → Prop} (hk : k ≤ 2 ^ 64) (h : missed (drive k m) = true) (q : Q none s) : wpAny M A (reRunToEnd m) Q E s := by
  unfold reRunToEnd
  cases e : drive k m with
  | none => rw [e] at h; cases h
  | some m' =>
  rw [e] at h
  refine wpAny_bind (wp_drive e hk ?_)
  have ho : m'.outcome = some .failed := by
    unfold missed at h
    simp only [Option.bind_some] at h
    split at h
    · assumption
    · cases h
  refine wpAny_bind (wpAny_mono (wp_rules (Q := fun _ s' => s' = s) rfl _) (fun _ s' e => ?_) fun _ _ z => z)
  subst e
  rw [ho]
  exact wpAny_pure q
end
section
variable {g : Gx} {A : Around} {cs : Cs} {P : T → Cs → Prop}
theorem call_search {prog : Program} {w : World} {s : Shared} {E : Value → Shared → Prop} {pa Ta : Addr} {x : Str} {t : Tok} {fs ws : Array Value} {n k : Nat} {Q : Value → Shared → Prop} (h1 : s.heap.get? pa = some { cls := .type "re.Pattern", data := .fields fs }) (h5 : fs.getD 5 .none = .ref Ta) (hT : s.heap.get? Ta = some { cls := .type "tuple", data := .seq ws n }) (h6 : reRawNat (fs.getD 6 .none) = 0)
    (hk : k ≤ 2 ^ 64) (hrun : missed (drive k (Sre.forSearch ((ws.map reRawOf).map (·.toNat)) x.cps (reRawNat (fs.getD 2 .none)) 0 x.cps.size false)) = true) (hz : x.cps.size < 1000) (h : Q .none s) : wpAny (model prog w) A (call (.builtin "re.Pattern.search") [.ref pa, .str x t]) Q E s := by
  refine wpAny_call_entry slot_re_search ⟨_, h1, rfl⟩ entry_re_search ?_ (args_re_search _ _)
  unfold Builtin.«re.Pattern.search»
  refine wpAny_bind ?_
  unfold reTarget
  refine wpAny_bind (wpAny_of_eq (show reNamed "re.Pattern.search" "search" ["string", "pos", "endpos"] 1 [Value.str x t] [] = pure [some (Value.str x t), none, none] from rfl) ?_)
  dsimp only
  refine wpAny_bind (wpAny_pure (wpAny_bind (wpAny_pure (wpAny_bind ?_))))
  unfold fieldsOf
  dsimp only
  refine wpAny_bind (wpAny_load h1 (wpAny_pure ?_))
  refine wpAny_bind ?_
  have et : reTextOf (.str x t) = pure (x.cps, 0) := rfl
  rw [et]
  refine wpAny_pure ?_
  dsimp only
  simp only [h6]
  rw [if_neg (by decide), if_neg (by decide)]
  refine wpAny_bind ?_
  have en : reNoCollectionInside (.str x t) 0 = pure () := rfl
  rw [en]
  refine wpAny_pure (wpAny_bind ?_)
  unfold reRawItems
  rw [h5]
  refine wpAny_bind (wpAny_seqItems hT rfl (wpAny_pure (wpAny_pure ?_)))
  dsimp only
  unfold reAnswer
  refine wpAny_bind ?_
  have e1 : Min.min (Int.toNat 0) x.cps.size = 0 := by simp
  have e2 : Min.min (Int.toNat (2 ^ 63 - 1)) x.cps.size = x.cps.size := by
    have : (2 : Int) ^ 63 - 1 = 9223372036854775807 := by decide
    rw [this]; omega
  rw [e1, e2]
  refine wp_run hk hrun ?_
  exact wpAny_pure ⟨_, rfl, h⟩
end
end Mine
end

noncomputable section
open PySem PySem.W PyProof.Rows PySem.Calls
set_option Elab.async false
set_option linter.unusedVariables false
set_option maxRecDepth 100000
set_option pp.deepTerms false
set_option pp.deepTerms.threshold 3
set_option tactic.hygienic false
namespace Mine


section
variable {g : Gx} {A : Around} {env : Env} {vars : Vars} {cs : Cs} {P : T → Cs → Prop}
theorem Tu.none' : Tu g A .none cs false := Tu.none
theorem Cal.typeStr {x : Str} (h : P (.raw (.type "str")) cs) : Cal g A (.raw (.type "type")) [.str x] [] cs P := .t fun c s Q E vs rv R k => by
  cases rv with
  | cons r1 rv =>
  cases r1; cases rv
  exact call_type_of (typeIs_str s x _) (by decide) (k c.fz _ _ cs s.heap s.toks (fun _ h => h) h (.raw _) R)
theorem Cal.typeList {t : T} {ts : List T} (il : IsL cs t ts) (h : P (.raw (.type "list")) cs) : Cal g A (.raw (.type "type")) [t] [] cs P := .t fun c s Q E vs rv R k => by
  cases rv with
  | cons r1 rv =>
  cases rv
  obtain ⟨b, vs, n, rfl, ha, ra⟩ := R.isL il r1
  exact call_type_of ⟨_, ha, rfl⟩ (by decide) (k c.fz _ _ cs s.heap s.toks (fun _ h => h) h (.raw _) R)
theorem Op2.isType {a : String} (h : P (.bool true) cs) : Op2 g A (compareOp .Is) (.raw (.type a)) (.raw (.type a)) cs P := by
  rintro c s Q E _ ⟨v₁, v₂, h₁, h₂, rfl⟩ R k
  cases h₁; cases h₂
  exact wpAny_is_self rfl (k c.fz _ _ cs s.heap s.toks (fun _ h => h) h (.bool _) R)
theorem Op2.isNotType {a : String} (h : P (.bool false) cs) : Op2 g A (compareOp .IsNot) (.raw (.type a)) (.raw (.type a)) cs P := by
  rintro c s Q E _ ⟨v₁, v₂, h₁, h₂, rfl⟩ R k
  cases h₁; cases h₂
  exact wpAny_isNot_self rfl (k c.fz _ _ cs s.heap s.toks (fun _ h => h) h (.bool _) R)
noncomputable def okFor (b : Bool) (x : Str) : Prop := if b then isNm x else ∃ i, i < 5 ∧ x = ltr i
noncomputable abbrev patA (b : Bool) : Addr := if b then 43 else 48
theorem pat_search {prog : Program} {w : World} {s : Shared} {E Q : Value → Shared → Prop} (b : Bool) {x : Str} {t : Tok} (X : (kk w.params).In s.heap) (hx : okFor b x) (h : Q .none s) : wpAny (model prog w) A (call (.builtin "re.Pattern.search") [.ref (patA b), .str x t]) Q E s := by
  cases b with
  | true =>
    rcases hx with rfl | rfl | rfl | rfl
    · exact call_search (k := 40) (X 43 _ rfl) rfl (X _ _ rfl) rfl (by decide) (by kernel_rfl) (by decide) h
    · exact call_search (k := 40) (X 43 _ rfl) rfl (X _ _ rfl) rfl (by decide) (by kernel_rfl) (by decide) h
    · exact call_search (k := 40) (X 43 _ rfl) rfl (X _ _ rfl) rfl (by decide) (by kernel_rfl) (by decide) h
    · exact call_search (k := 40) (X 43 _ rfl) rfl (X _ _ rfl) rfl (by decide) (by kernel_rfl) (by decide) h
  | false =>
    obtain ⟨i, hi, rfl⟩ := hx
    have : i = 0 ∨ i = 1 ∨ i = 2 ∨ i = 3 ∨ i = 4 := by omega
    rcases this with rfl | rfl | rfl | rfl | rfl
    · exact call_search (k := 40) (X 48 _ rfl) rfl (X _ _ rfl) rfl (by decide) (by kernel_rfl) (by decide) h
    · exact call_search (k := 40) (X 48 _ rfl) rfl (X _ _ rfl) rfl (by decide) (by kernel_rfl) (by decide) h
    · exact call_search (k := 40) (X 48 _ rfl) rfl (X _ _ rfl) rfl (by decide) (by kernel_rfl) (by decide) h
    · exact call_search (k := 40) (X 48 _ rfl) rfl (X _ _ rfl) rfl (by decide) (by kernel_rfl) (by decide) h
    · exact call_search (k := 40) (X 48 _ rfl) rfl (X _ _ rfl) rfl (by decide) (by kernel_rfl) (by decide) h
theorem Cal.search {b : Bool} {x : Str} (hx : okFor b x) (h : P .none cs) : Cal g A (.raw (.builtin "re.Pattern.search")) [.raw (.ref (patA b)), .str x] [] cs P := .b fun c s Q E vs rv R k => by
  cases rv with
  | cons r1 rv =>
  cases r1
  cases rv with
  | cons r2 rv =>
  cases r2
  cases rv
  exact pat_search b R.XIn hx (k c.fz _ _ cs s.heap s.toks (fun _ h => h) h .none R)
theorem GM.search {b : Bool} : GM g A (.raw (.ref (patA b))) "search" cs (.builtin "re.Pattern.search") [.raw (.ref (patA b))] := by
  intro c s v pl Q E r R k
  cases r
  cases b with
  | true => exact getMethod_builtin ⟨_, R.XIn 43 _ rfl, rfl⟩ plainAttrs_re slot_re_search type_re_search (fun a e => by cases e; exact ⟨_, R.XIn 43 _ rfl, rfl⟩) (k [_] s.toks (.cons (.raw _) .nil))
  | false => exact getMethod_builtin ⟨_, R.XIn 48 _ rfl, rfl⟩ plainAttrs_re slot_re_search type_re_search (fun a e => by cases e; exact ⟨_, R.XIn 48 _ rfl, rfl⟩) (k [_] s.toks (.cons (.raw _) .nil))
theorem conv_spec {n : Nat} {self : T} {x : Str} {b : Bool} (hr : Room A (n + 2)) (hx : okFor b x) (h : P (.str x) cs) : Cal g A (.raw (.ref 70)) [self, .str x] [("name", .bool b)] cs P := by
  refine Cal.fn (n := n + 1) (bs := [("self", self), ("value", .str x), ("name", .bool b)]) hr rfl rfl (BindP.pl21 (fun v w u => ?_)) (fun L A' hr' => ?_) rfl (by show (["self", "value", "name"] : List Str).Nodup; decide) (by decide)
  · rfl
  refine Ex.cons ?_
  refine Ex1.ifs ?_
  refine Ts.cmp ?_
  refine Ev.call (Ev.b_type ⟨rfl, rfl, rfl, rfl⟩ ?_)
  repeat walk_at "ev"
  refine Cal.typeStr ?_
  refine Ev.b_str ⟨rfl, rfl, rfl, rfl⟩ ?_
  refine Op2.isType ⟨_, rfl, fun _ => ?_, fun z => (by cases z)⟩
  refine Ex.cons ?_
  refine Ex1.assignL ?_
  refine Ev.mono (P := fun t c => t = .raw (.ref (patA b)) ∧ c = cs) ?_ ?_
  · refine Ev.ife ?_
    refine Ts.val ?_
    walk_at "ev"
    refine ⟨b, Tu.bool b, fun hb => ?_, fun hb => ?_⟩
    · subst hb
      exact Ev.g__name_disallowed_re ⟨rfl, rfl, rfl, rfl⟩ ⟨rfl, rfl⟩
    · subst hb
      exact Ev.g__value_disallowed_re ⟨rfl, rfl, rfl, rfl⟩ ⟨rfl, rfl⟩
  rintro _ _ ⟨rfl, rfl⟩
  refine Ex.cons ?_
  refine Ex1.ifs ?_
  refine Ts.val ?_
  refine Ev.meth ?_
  walk_at "ev"
  refine ⟨_, _, GM.search, ?_⟩
  repeat walk_at "ev"
  refine Cal.search hx ⟨false, Tu.none, fun z => (by cases z), fun _ => ?_⟩
  refine Ex.nil ?_
  refine Ex.cons ?_
  refine Ex1.ret ?_
  walk_at "ev"
  exact h
end
end Mine
end

noncomputable section
open PySem PySem.W PyProof.Rows PySem.Calls
set_option Elab.async false
set_option linter.unusedVariables false
set_option maxRecDepth 100000
set_option pp.deepTerms false
set_option pp.deepTerms.threshold 3
set_option tactic.hygienic false
namespace Mine


section
variable {g : Gx} {A : Around} {env : Env} {vars : Vars} {cs cs' : Cs} {P : T → Cs → Prop}
theorem BindP.dflt {fd : FuncData} {ts dts : List T} {bs : List (Str × T)} {Ta : Addr} {items : Array Value} {n : Nat} {oc : Value} {od : Option Addr} {osl : Array (Option Value)} {dvs : List Value} (hdf : fd.defaults = .ref Ta) (ho : (kk g.w.params).lookup Ta = some ⟨oc, od, .seq items n, osl⟩)
    (h : ∀ vs : List Value, vs.length = ts.length → ∃ k : Option (Array Value) → Sem (List (Str × Value)), bindArgs fd ⟨vs, []⟩ = seqItems? fd.defaults >>= k ∧ k (some items) = pure ((bs.map (·.1)).zip (vs ++ dvs))) (hdv : ∀ fz, VRs g.P fz dts dvs) (e : bs.map (·.2) = ts ++ dts) : BindP g A fd ts [] cs bs := by
  intro c s Q E vs kvs R rv rk k
  cases rk
  obtain ⟨kk, h1, h2⟩ := h vs rv.length
  exact BindsTo.of_defaults hdf (R.XIn _ _ ho) rfl h1 h2 _ _ _ _ (k c.fz (vs ++ dvs) s.heap s.toks (fun _ h => h) R (by rw [e]; exact rv.append (hdv _)))
theorem hx_conv (P : Params) : findIn (kk P) (.ref 171) "_convert_string_type" = some (some (.ref 70)) := by rfl
theorem hx_get (P : Params) : findIn (kk P) (.ref 171) "get" = some (some (.ref 118)) := by rfl
theorem hx_items (P : Params) : findIn (kk P) (.ref 171) "items" = some (some (.ref 135)) := by rfl
theorem hx_setdefault (P : Params) : findIn (kk P) (.ref 171) "setdefault" = some (some (.ref 161)) := by rfl
theorem hx_headers (P : Params) : findIn (kk P) (.ref 171) "_headers" = some none := by rfl
theorem hx_plain (P : Params) (x : Str) : plainGet (kk P) 171 x = true := by rfl
theorem hx_dict (P : Params) : hasDictIn (kk P) 171 = true := by rfl
theorem fn_70 (P : Params) : isFn (kk P) (.ref 70) = true := by rfl
theorem fn_118 (P : Params) : isFn (kk P) (.ref 118) = true := by rfl
theorem fn_135 (P : Params) : isFn (kk P) (.ref 135) = true := by rfl
theorem fn_161 (P : Params) : isFn (kk P) (.ref 161) = true := by rfl
theorem kp_70 (P : Params) : keepIn (kk P) (.ref 70) = true := by rfl
noncomputable def getT (kept : List (Str × Nat)) (nm : Str) : T := match kept.find? (fun p => Txt.lower p.1 == Txt.lower nm) with
  | some p => lT p.2
  | none => .none
theorem isNm.lowNm {x : Str} (h : isNm x) : isNm (Txt.lower x) := by
  rcases h.low with e | e <;> rw [e]
  · exact .inl rfl
  · exact .inr (.inr (.inl rfl))
inductive GetI (kept : List (Str × Nat)) (nm : Str) (cs'' : Cs) (us : List T) (vars : Vars) (c : Cs) : Prop
  | mk  (ks : List (Str × Nat)) (f1 : us = kT ks) (f2 : c = cs'') (f3 : goodK ks) (f4 : getT ks nm = getT kept nm) (f5 : Has [("name", .str (Txt.lower nm)), ("default", .none)] vars)
theorem get_spec {n : Nat} {self th : T} {kept : List (Str × Nat)} {nm : Str} (hr : Room A (n + 3)) (io : IsO cs self 171 [("_headers", th)]) (hth : th.plainV = true) (il : IsL cs th (kT kept)) (gk : goodK kept) (hn : isNm nm) (h : P (getT kept nm) cs) : Cal g A (.raw (.ref 118)) [self, .str nm] [] cs P := by
  refine Cal.fn (n := n + 2) (bs := [("self", self), ("name", .str nm), ("default", .none)]) hr rfl rfl (BindP.dflt (dts := [.none]) (dvs := [.none]) rfl rfl (fun vs hv => ?_) (fun _ => .cons .none .nil) rfl) (fun L A' hr' => ?_) rfl (by show (["self", "name", "default"] : List Str).Nodup; decide) (by decide)
  · obtain ⟨v, w, rfl⟩ := len2 hv
    exact ⟨_, rfl, rfl⟩
  have hh := hr'.1
  refine Ex.cons ?_
  refine Ex1.assignL ?_
  refine Ev.methKw ?_
  walk_at "ev"
  refine ⟨_, _, GM.own io rfl (hx_plain _ _) (hx_conv _) (fn_70 _), kp_70 _, ?_⟩
  refine Ev.meth ?_
  walk_at "ev"
  refine ⟨_, _, GM.lower, ?_⟩
  refine ArgP.nil ?_
  refine Cal.lower rfl hn.len ?_
  walk_at "ev"
  refine conv_spec (b := true) hr' hn.lowNm ?_
  refine Ex.cons ?_
  refine Ex1.forL hh ?_
  refine Ev.attr ?_
  walk_at "ev"
  refine Att.own io rfl hth ?_ (hx_plain _ _) (hx_dict _) (hx_headers _) rfl
  refine ⟨_, il, fun cs'' => ?_⟩
  refine ForP.inv (GetI kept nm cs'') ?_ ?_ _ _ _ ⟨kept, rfl, rfl, gk, rfl, rfl, rfl, trivial⟩
  · rintro u rest vars c ⟨ks, e, rfl, gk', hg, hv⟩
    cases ks with
    | nil => cases e
    | cons p ks =>
    simp only [List.map_cons, List.cons.injEq] at e
    obtain ⟨rfl, rfl⟩ := e
    have gp := gk' p (.head _)
    refine As.weaken hv.k (As.tup2 hh (.inl rfl) (.inl rfl) ?_)
    refine Ex.cons ?_
    refine Ex1.ifs ?_
    refine Ts.cmp ?_
    refine Ev.meth ?_
    walk_at "ev"
    refine ⟨_, _, GM.lower, ?_⟩
    refine ArgP.nil ?_
    refine Cal.lower rfl gp.1.len ?_
    walk_at "ev"
    refine Op2.eq hr' (.fz gp.1.okL) (.fz hn.okL) fun b hbu => ⟨b, rfl, fun hb => ?_, fun hb => ?_⟩
    · have he : Txt.lower p.1 = Txt.lower nm := by have := hbu.mp hb; injection this
      refine Ex.cons ?_
      refine Ex1.ret ?_
      walk_at "ev"
      refine ⟨rfl, ?_⟩
      have : getT kept nm = lT p.2 := by
        rw [← hg]; unfold getT
        simp [List.find?_cons, he]
      rw [this] at h
      exact h
    · have he : ¬ Txt.lower p.1 = Txt.lower nm := fun z => by have := hbu.mpr (by rw [z]); rw [hb] at this; cases this
      refine Ex.nil ?_
      refine Ex.nil ⟨ks, rfl, rfl, fun q hq => gk' q (.tail _ hq), ?_, rfl, rfl, trivial⟩
      rw [← hg]; unfold getT
      have z : (Txt.lower p.1 == Txt.lower nm) = false := by simpa using he
      simp [List.find?_cons, z]
  · rintro vars c ⟨ks, e, rfl, gk', hg, hv⟩
    have : ks = [] := by cases ks with
      | nil => rfl
      | cons x sh => cases e
    subst this
    refine Ex.nil ⟨rfl, ?_⟩
    refine StT.weaken hv.k ?_
    refine Ex.cons ?_
    refine Ex1.ret ?_
    walk_at "ev"
    rw [← hg] at h
    exact h
theorem items_spec {n : Nat} {self th : T} {ts : List T} (hr : Room A (n + 2)) (io : IsO cs self 171 [("_headers", th)]) (hth : th.plainV = true) (il : IsL cs th ts) (hz : ts.length ≤ 1000) (h : P (.list ts) cs) : Cal g A (.raw (.ref 135)) [self] [] cs P := by
  refine Cal.fn (n := n + 1) (bs := [("self", self)]) hr rfl rfl (BindP.pl1 (fun v => ?_)) (fun L A' hr' => ?_) rfl (by simp) (by decide)
  · rfl
  refine Ex.cons ?_
  refine Ex1.ret ?_
  refine Ev.slice ?_
  refine Ev.attr ?_
  walk_at "ev"
  refine Att.own io rfl hth ?_ (hx_plain _ _) (hx_dict _) (hx_headers _) rfl
  refine EvO.none (EvO.none (EvO.none ?_))
  refine ⟨_, none, none, none, il, .none, .none, .none, by decide, by rw [sizeLine_eq]; omega, ?_⟩
  rw [pick_all]
  exact h
end
end Mine
end

noncomputable section
open PySem PySem.W PyProof.Rows PySem.Calls
set_option Elab.async false
set_option linter.unusedVariables false
set_option maxRecDepth 100000
set_option pp.deepTerms false
set_option pp.deepTerms.threshold 3
namespace Mine


theorem CU.same {a : Addr} {c : C} : ∀ {cs cs' : Cs}, CU a c c cs cs' → cs' = cs
  | _, _, .head => rfl
  | _, _, .tail h => by rw [h.same]
theorem get_none {i : Nat} {kept : List (Str × Nat)} {nm : Str} (h : (getT kept nm).isNone = true) : addTo kept nm i = kept ++ [(nm, i)] := by
  unfold getT at h
  split at h
  · cases h
  · rename_i e
    unfold addTo
    rw [if_pos]
    rw [List.filter_eq_nil_iff]
    exact fun p hp => by simpa using List.find?_eq_none.mp e p hp
theorem get_some {i : Nat} {kept : List (Str × Nat)} {nm : Str} (h : (getT kept nm).isNone = false) : addTo kept nm i = kept := by
  unfold getT at h
  split at h
  · rename_i p e
    unfold addTo
    rw [if_neg]
    intro z
    rw [List.filter_eq_nil_iff] at z
    exact z p (List.mem_of_find?_eq_some e) (by simpa using List.find?_some e)
  · cases h
section
variable {g : Gx} {A : Around} {env : Env} {vars : Vars} {cs cs' : Cs} {P : T → Cs → Prop}
theorem setd_spec {n i : Nat} {a d b : Addr} {kept : List (Str × Nat)} {nm : Str} (hr : Room A (n + 4)) (h1 : (a, C.inst 171 d) ∈ cs) (h2 : (d, C.dict [("_headers", .cel b)]) ∈ cs) (U : CU b (.list (kT kept)) (.list (kT (addTo kept nm i))) cs cs') (gk : goodK kept) (hn : isNm nm) (hi : i < 5) (hz : kept.length ≤ 500) (h : ∀ t, P t cs') :
    Cal g A (.raw (.ref 161)) [.cel a, .str nm, lT i] [] cs P := by
  refine Cal.fn (n := n + 3) (bs := [("self", .cel a), ("name", .str nm), ("value", lT i)]) hr rfl rfl (BindP.pl3 (fun v w u => ?_)) (fun L A' hr' => ?_) rfl (by show (["self", "name", "value"] : List Str).Nodup; decide) (by decide)
  · rfl
  refine Ex.cons ?_
  refine Ex1.assignL ?_
  refine Ev.meth ?_
  walk_at "ev"
  refine ⟨_, _, GM.own (.cel h1 h2) rfl (hx_plain _ _) (hx_get _) (fn_118 _), ?_⟩
  repeat walk_at "ev"
  refine get_spec (n := n) hr' (.cel h1 h2) rfl (.cel U.mem) gk hn ?_
  refine Ex.cons ?_
  refine Ex1.ifs ?_
  refine Ts.cmp ?_
  repeat walk_at "ev"
  refine Op2.isNone ⟨_, rfl, fun hb => ?_, fun hb => ?_⟩
  · rw [get_none hb] at U
    refine Ex.cons ?_
    refine Ex1.expr ?_
    refine Ev.meth ?_
    refine Ev.attr ?_
    walk_at "ev"
    refine Att.own (.cel h1 h2) rfl rfl ?_ (hx_plain _ _) (hx_dict _) (hx_headers _) rfl
    refine ⟨_, _, GM.append (.cel U.mem), ?_⟩
    refine ArgP.cons ?_
    refine Evs.cons ?_
    refine Ev.tup ?_
    refine Evs.cons ?_
    refine Ev.methKw ?_
    walk_at "ev"
    refine ⟨_, _, GM.own (.cel h1 h2) rfl (hx_plain _ _) (hx_conv _) (fn_70 _), kp_70 _, ?_⟩
    repeat walk_at "ev"
    refine conv_spec (n := n + 1) (b := true) hr' hn ?_
    refine Evs.cons ?_
    refine Ev.methKw ?_
    walk_at "ev"
    refine ⟨_, _, GM.own (.cel h1 h2) rfl (hx_plain _ _) (hx_conv _) (fn_70 _), kp_70 _, ?_⟩
    repeat walk_at "ev"
    refine conv_spec (n := n + 1) (b := false) hr' ⟨i, hi, rfl⟩ ?_
    refine Evs.nil ⟨le_line rfl, ?_⟩
    refine Evs.nil ?_
    refine Cal.append (ts := kT kept) (cs' := cs') ?_ (by rw [sizeLine_eq]; simp; omega) ?_
    · simpa [kT, pairT] using U
    refine Ex.cons ?_
    refine Ex1.ret ?_
    walk_at "ev"
    exact h _
  · rw [get_some hb] at U
    have := U.same
    subst this
    refine Ex.cons ?_
    refine Ex1.ret ?_
    walk_at "ev"
    exact h _
theorem Ev.debug {pos : Pos} (h : P (.bool true) cs) : Ev g A env vars (.Name "__debug__" pos) cs P := by
  rintro c s Q E _ ⟨V, rfl⟩ R k
  have e : eval (.Name "__debug__" pos) env = (do standAt pos; debugConstant) := rfl
  rw [e]
  exact wpAny_bind (wpAny_standAt (wpAny_bind (wpAny_rule (wpAny_pure (k c.fz _ _ cs s.heap s.toks (fun _ h => h) h (.bool _) R)))))
theorem hx_seta (P : Params) : findIn (kk P) (.ref 171) "__setattr__" = some (some (.builtin "object.__setattr__")) := by rfl
theorem hx_over (P : Params) : plainOver (kk P) 171 = true := by rfl
theorem hx_take (P : Params) : takerIn (kk P) 171 "_headers" = some none := by rfl
inductive InlI (x dx : Addr) (kept : List (Str × Nat)) (cs : Cs) (us : List T) (vars : Vars) (c : Cs) : Prop
  | mk  (ks : List (Str × Nat)) (f1 : us = kT ks) (f2 : c = (x, .inst 171 dx) :: (dx, .dict [("_headers", .list (kT kept))]) :: cs) (f3 : goodK ks) (f4 : Has [("self", .cel x)] vars)
theorem init_list {n : Nat} {x dx : Addr} {kept : List (Str × Nat)} (hr : Room A (n + 3)) (gk : goodK kept) (hz : kept.length ≤ 500) (h : P .none ((x, .inst 171 dx) :: (dx, .dict [("_headers", .list (kT kept))]) :: cs)) : CalC g A (.ref 63) [.cel x, .list (kT kept)] [] ((x, .inst 171 dx) :: (dx, .dict []) :: cs) P := by
  refine CalC.fn (n := n + 2) (bs := [("self", .cel x), ("headers", .list (kT kept))]) hr rfl rfl (BindP.dflt (dts := []) (dvs := []) rfl rfl (fun vs hv => ?_) (fun _ => .nil) rfl) (fun L A' hr' => ?_) rfl (by show (["self", "headers"] : List Str).Nodup; decide) (by decide)
  · obtain ⟨v, w, rfl⟩ := len2 hv
    exact ⟨_, rfl, rfl⟩
  have hh := hr'.1
  refine Ex.cons ?_
  refine Ex1.assignL ?_
  refine Ev.ife ?_
  refine Ts.cmp ?_
  repeat walk_at "ev"
  refine Op2.isNotNone ⟨_, rfl, fun _ => ?_, fun z => (by cases z)⟩
  walk_at "ev"
  refine Ex.cons ?_
  refine Ex1.ifs ?_
  refine Ts.cmp ?_
  refine Ev.call (Ev.b_type ⟨rfl, rfl, rfl, rfl⟩ ?_)
  repeat walk_at "ev"
  refine Cal.typeList (.fz _) ?_
  refine Ev.b_list ⟨rfl, rfl, rfl, rfl⟩ ?_
  refine Op2.isNotType ⟨_, rfl, fun z => (by cases z), fun _ => ?_⟩
  refine Ex.nil ?_
  refine Ex.cons ?_
  refine Ex1.setAttr ?_
  walk_at "ev"
  walk_at "ev"
  refine SetA.own (.head _) (.tail .head) (by simp) (by simp) ?_ (hx_seta _) (hx_over _) (hx_take _) (hx_dict _)
  refine Ex.cons ?_
  refine Ex1.ifs ?_
  refine Ts.val ?_
  walk_at "ev"
  refine ⟨true, Tu.bool _, fun _ => ?_, fun z => (by cases z)⟩
  refine Ex.cons ?_
  refine Ex1.for_ ?_
  walk_at "ev"
  refine ⟨_, _, Itb.list hh, ?_⟩
  refine ForP.inv (InlI x dx kept cs) ?_ ?_ _ _ _ ⟨kept, rfl, rfl, gk, rfl, trivial⟩
  · rintro u rest vars c ⟨ks, e, rfl, gk', hv⟩
    cases ks with
    | nil => cases e
    | cons p ks =>
    simp only [List.map_cons, List.cons.injEq] at e
    obtain ⟨rfl, rfl⟩ := e
    have gp := gk' p (.head _)
    refine As.weaken hv.k (As.tup2 hh (.inl rfl) (.inl rfl) ?_)
    refine Ex.cons ?_
    refine Ex1.expr ?_
    refine Ev.methKw ?_
    walk_at "ev"
    refine ⟨_, _, GM.own (.cel (.head _) (.tail _ (.head _))) rfl (hx_plain _ _) (hx_conv _) (fn_70 _), kp_70 _, ?_⟩
    repeat walk_at "ev"
    refine conv_spec (n := n) (b := true) hr' gp.1 ?_
    refine Ex.cons ?_
    refine Ex1.expr ?_
    refine Ev.methKw ?_
    walk_at "ev"
    refine ⟨_, _, GM.own (.cel (.head _) (.tail _ (.head _))) rfl (hx_plain _ _) (hx_conv _) (fn_70 _), kp_70 _, ?_⟩
    repeat walk_at "ev"
    refine conv_spec (n := n) (b := false) hr' ⟨p.2, gp.2, rfl⟩ ?_
    exact Ex.nil ⟨ks, rfl, rfl, fun q hq => gk' q (.tail _ hq), rfl, trivial⟩
  · rintro vars c ⟨ks, e, rfl, gk', hv⟩
    refine Ex.nil ?_
    refine Ex.nil ?_
    exact Ex.nil h
theorem init_none {n : Nat} {x dx : Addr} (hr : Room A (n + 3)) (h : ∀ b, P .none ((b, .list []) :: (x, .inst 171 dx) :: (dx, .dict [("_headers", .cel b)]) :: cs)) : CalC g A (.ref 63) [.cel x] [] ((x, .inst 171 dx) :: (dx, .dict []) :: cs) P := by
  refine CalC.fn (n := n + 2) (bs := [("self", .cel x), ("headers", .none)]) hr rfl rfl (BindP.dflt (dts := [.none]) (dvs := [.none]) rfl rfl (fun vs hv => ?_) (fun _ => .cons .none .nil) rfl) (fun L A' hr' => ?_) rfl (by show (["self", "headers"] : List Str).Nodup; decide) (by decide)
  · obtain ⟨v, rfl⟩ := List.length_eq_one_iff.mp hv
    exact ⟨_, rfl, rfl⟩
  have hh := hr'.1
  refine Ex.cons ?_
  refine Ex1.assignL ?_
  refine Ev.ife ?_
  refine Ts.cmp ?_
  repeat walk_at "ev"
  refine Op2.isNotNone ⟨_, rfl, fun z => (by cases z), fun _ => ?_⟩
  refine Ev.listC ?_
  refine Evs.nil ⟨le_line rfl, fun b => ?_⟩
  refine Ex.cons ?_
  refine Ex1.ifs ?_
  refine Ts.cmp ?_
  refine Ev.call (Ev.b_type ⟨rfl, rfl, rfl, rfl⟩ ?_)
  repeat walk_at "ev"
  refine Cal.typeList (.cel (.head _)) ?_
  refine Ev.b_list ⟨rfl, rfl, rfl, rfl⟩ ?_
  refine Op2.isNotType ⟨_, rfl, fun z => (by cases z), fun _ => ?_⟩
  refine Ex.nil ?_
  refine Ex.cons ?_
  refine Ex1.setAttr ?_
  walk_at "ev"
  walk_at "ev"
  refine SetA.own (.tail _ (.head _)) (.tail (.tail .head)) (by simp) (by simp) ?_ (hx_seta _) (hx_over _) (hx_take _) (hx_dict _)
  refine Ex.cons ?_
  refine Ex1.ifs ?_
  refine Ts.val ?_
  walk_at "ev"
  refine ⟨true, Tu.bool _, fun _ => ?_, fun z => (by cases z)⟩
  refine Ex.cons ?_
  refine Ex1.forC hh ?_
  walk_at "ev"
  refine ⟨b, _, _, rfl, .refl _, ?_⟩
  refine Ex.nil ?_
  refine Ex.nil ?_
  exact Ex.nil (h b)
end
end Mine
end

noncomputable section
open PySem PySem.W PyProof.Rows PySem.Calls
set_option Elab.async false
set_option linter.unusedVariables false
set_option maxRecDepth 100000
set_option pp.deepTerms false
set_option pp.deepTerms.threshold 3
namespace Mine


section
variable {g : Gx} {A : Around} {env : Env} {vars : Vars} {cs cs' : Cs} {P : T → Cs → Prop}
theorem mk_171 (P : Params) : makesIn (kk P) 171 = true := by rfl
theorem hx_init (P : Params) : findIn (kk P) (.ref 171) "__init__" = some (some (.ref 63)) := by rfl
theorem fn_63 (P : Params) : isFn (kk P) (.ref 63) = true := by rfl
theorem kp_171 (P : Params) : keepIn (kk P) (.ref 171) = true := by rfl
theorem mkH_list {n : Nat} {kept : List (Str × Nat)} (hr : Room A (n + 4)) (gk : goodK kept) (hz : kept.length ≤ 500) (h : ∀ x dx, P (.cel x) ((x, .inst 171 dx) :: (dx, .dict [("_headers", .list (kT kept))]) :: cs)) : Cal g A (.raw (.ref 171)) [.list (kT kept)] [] cs P :=
  Cal.mk (n := n + 3) hr (fun A' hr' x dx => init_list hr' gk hz ⟨rfl, h x dx⟩) (mk_171 _) (hx_init _) (fn_63 _) (kp_171 _)
theorem mkH_none {n : Nat} (hr : Room A (n + 4)) (h : ∀ b x dx, P (.cel x) ((b, .list []) :: (x, .inst 171 dx) :: (dx, .dict [("_headers", .cel b)]) :: cs)) : Cal g A (.raw (.ref 171)) [] [] cs P :=
  Cal.mk (n := n + 3) hr (fun A' hr' x dx => init_none hr' fun b => ⟨rfl, h b x dx⟩) (mk_171 _) (hx_init _) (fn_63 _) (kp_171 _)
/-- a table that changes no more -/
noncomputable abbrev tabO (ks : List (Str × Nat)) : T := .obj 171 [("_headers", .list (kT ks))]
theorem getT_ok {ks : List (Str × Nat)} {nm : Str} {k : Nat} (h : goodK ks) : (getT ks nm).ok k = true := by
  unfold getT
  split
  · rename_i p e
    exact lT_ok (h p (List.mem_of_find?_eq_some e)).2
  · cases k <;> rfl
noncomputable def aboveT (bas : List Nat) (ks : Nat → List (Str × Nat)) (nm : Str) : List T := if bas = [] then [.none] else bas.map fun b => getT (ks b) nm
inductive InhI (bas : Nat → List Nat) (tb : List (Str × T)) (i : Nat) (cs : Cs) (us : List T) (vars : Vars) (c : Cs) : Prop
  | mk  (ns : List Str) (f1 : us = ns.map T.str) (f2 : c = cs) (f3 : (∀ nm ∈ ns, nm = "P" ∨ nm = "q")) (f4 : Has [("bases", .dict (tabT (fun i => lTs (bas i)) 5)), ("tables", .dict tb), ("letter", lT i)] vars)
inductive InhJ (bas : Nat → List Nat) (ks : Nat → List (Str × Nat)) (tb : List (Str × T)) (nm : Str) (i : Nat) (c : Cs) (fl : Fl) (v : Vars) (d : Cs) : Prop
  | mk (f1 : fl = .next) (f2 : d = c) (f3 : Has [("above", .list (aboveT (bas i) ks nm)), ("name", .str nm), ("bases", .dict (tabT (fun i => lTs (bas i)) 5)), ("tables", .dict tb), ("letter", lT i)] v)
theorem inherited_spec {n i : Nat} {bas : Nat → List Nat} {ks : Nat → List (Str × Nat)} {tb : List (Str × T)} (hr : Room A (n + 4)) (hi : i < 5) (hb : (bas i).length ≤ 2 ∧ ∀ b ∈ bas i, b < 5) (ht : ∀ b, (b = i ∨ b ∈ bas i) → tb.lookup (ltr b) = some (tabO (ks b)) ∧ goodK (ks b))
    (hok : ∀ nm : Str, (nm = "P" ∨ nm = "q") → getT (ks i) nm = lT i ∨ getT (ks i) nm ∈ aboveT (bas i) ks nm) (h : P (.bool true) cs) :
    Cal g A (.raw (.ref 351)) [.dict (tabT (fun i => lTs (bas i)) 5), .dict tb, lT i] [] cs P := by
  refine Cal.fn (n := n + 3) (bs := [("bases", .dict (tabT (fun i => lTs (bas i)) 5)), ("tables", .dict tb), ("letter", lT i)]) hr rfl rfl (BindP.pl3 (fun v w u => ?_)) (fun L A' hr' => ?_) rfl (by show (["bases", "tables", "letter"] : List Str).Nodup; decide) (by decide)
  · rfl
  have hh := hr'.1
  have gi := ht i (.inl rfl)
  refine Ex.cons ?_
  refine Ex1.for_ ?_
  repeat walk_at "ev"
  refine ⟨le_line rfl, ?_⟩
  refine ⟨_, _, Itb.list hh, ?_⟩
  refine ForP.inv (InhI bas tb i cs) ?_ ?_ _ _ _ ⟨["P", "q"], rfl, rfl, fun nm hn => by simpa using hn, rfl, rfl, rfl, trivial⟩
  · rintro u rest vars c ⟨ns, e, rfl, hns, hv⟩
    cases ns with
    | nil => cases e
    | cons nm ns =>
    simp only [List.map_cons, List.cons.injEq] at e
    obtain ⟨rfl, rfl⟩ := e
    have hn : isNm nm := by
      rcases hns nm (.head _) with rfl | rfl
      · exact .inr (.inl rfl)
      · exact .inr (.inr (.inl rfl))
    refine As.weaken hv.k (As.nameK ?_)
    refine Ex.cons ?_
    refine Ex1.assignU hh (caps := [("tables", .dict tb), ("name", .str nm)]) ?_ rfl ?_
    · exact .cons (.cons .nil)
    repeat walk_at "ev"
    refine Sub.dict (.fz _) (tab_look _ 5 i hi) ?_
    refine ⟨_, rfl, le_line (by simp; omega), ?_⟩
    refine CompU.map (fun t => match t with | .str x => getT (ks (x.cps.toList.getD 0 0 - 97)) nm | t => t) ?_ ?_
    · intro u hu C
      obtain ⟨b, hbm, rfl⟩ := List.mem_map.mp hu
      refine Ev.meth ?_
      repeat walk_at "ev"
      refine Sub.dict (.fz _) (ht b (.inr hbm)).1 ?_
      refine ⟨_, _, GM.own (.fz _ _) rfl (hx_plain _ _) (hx_get _) (fn_118 _), ?_⟩
      repeat walk_at "ev"
      refine get_spec (n := n) hr' (.fz _ _) rfl (.fz _) (ht _ (.inr hbm)).2 hn ⟨?_, rfl⟩
      simp
    have emap : List.map (fun t => match t with | .str x => getT (ks (x.cps.toList.getD 0 0 - 97)) nm | t => t) ((bas i).map lT) = (bas i).map fun b => getT (ks b) nm := by
      rw [List.map_map]
      refine List.map_congr_left fun x _ => ?_
      simp
    rw [List.nil_append, emap]
    refine Ex.cons ?_
    refine StT.mono (P := InhJ bas ks tb nm i c) ?_ ?_
    · refine Ex1.ifs ?_
      refine Ts.cmp ?_
      repeat walk_at "ev"
      refine Sub.dict (.fz _) (tab_look _ 5 i hi) ?_
      repeat walk_at "ev"
      refine ⟨le_line rfl, ?_⟩
      refine Op2.eq hr' (.fz (lTs_ok hb.2)) (.fz rfl) fun b hbu => ⟨b, rfl, fun hb' => ?_, fun hb' => ?_⟩
      · have he : bas i = [] := by
          have := hbu.mp hb'
          injection this with this
          exact List.map_eq_nil_iff.mp this
        refine Ex.cons ?_
        refine Ex1.assignL ?_
        repeat walk_at "ev"
        refine ⟨le_line rfl, ?_⟩
        refine Ex.nil ⟨rfl, rfl, ?_, rfl, rfl, rfl, rfl, trivial⟩
        show some _ = some _
        unfold aboveT
        rw [if_pos he]
      · refine Ex.nil ⟨rfl, rfl, ?_, rfl, rfl, rfl, rfl, trivial⟩
        show some _ = some _
        unfold aboveT
        rw [if_neg fun z => ?_]
        have := hbu.mpr (by rw [z]; rfl)
        rw [hb'] at this; cases this
    rintro _ vars₂ _ ⟨rfl, rfl, hv₂⟩
    refine StT.weaken hv₂.k ?_
    have again : ∀ (vars' : Vars) (d : Cs), Has [("bases", .dict (tabT (fun i => lTs (bas i)) 5)), ("tables", .dict tb), ("letter", lT i)] vars' → InhI bas tb i d (ns.map T.str) vars' d := fun vars' d hv' => ⟨ns, rfl, rfl, fun x hx => hns x (.tail _ hx), hv'⟩
    have aok : (T.list (aboveT (bas i) ks nm)).ok 4 = true := by
      simp only [T.ok, List.all_eq_true]
      intro t ht'
      unfold aboveT at ht'
      split at ht'
      · rw [List.mem_singleton.mp ht']; rfl
      · obtain ⟨b, hbm, rfl⟩ := List.mem_map.mp ht'
        exact getT_ok (ht b (.inr hbm)).2
    refine Ex.cons ?_
    refine Ex1.ifs ?_
    refine Ts.and ?_
    refine Ts.cmp ?_
    refine Ev.meth ?_
    repeat walk_at "ev"
    refine Sub.dict (.fz _) gi.1 ?_
    refine ⟨_, _, GM.own (.fz _ _) rfl (hx_plain _ _) (hx_get _) (fn_118 _), ?_⟩
    repeat walk_at "ev"
    refine get_spec (n := n) hr' (.fz _ _) rfl (.fz _) gi.2 hn ?_
    repeat walk_at "ev"
    refine Op2.ne hr' (.fz (getT_ok gi.2)) (.fz (lT_ok hi)) fun b hbu => ⟨b, rfl, fun hb1 => ?_, fun hb1 => ⟨fun z => (by cases z), fun _ => ?_⟩⟩
    · refine Ts.cmp ?_
      refine Ev.meth ?_
      repeat walk_at "ev"
      refine Sub.dict (.fz _) gi.1 ?_
      refine ⟨_, _, GM.own (.fz _ _) rfl (hx_plain _ _) (hx_get _) (fn_118 _), ?_⟩
      repeat walk_at "ev"
      refine get_spec (n := n) hr' (.fz _ _) rfl (.fz _) gi.2 hn ?_
      repeat walk_at "ev"
      refine Op2.notIn hr' (.fz (getT_ok gi.2)) (.fz aok) fun b2 hbu2 => ⟨b2, rfl, fun hb2 => ?_, fun hb2 => ?_⟩
      · exfalso
        rcases hok nm (hns nm (.head _)) with z | z
        · have := hbu.mpr z; rw [hb1] at this; cases this
        · have := hbu2.mpr z; rw [hb2] at this; cases this
      · refine Ex.nil ?_
        exact Ex.nil (again _ _ ⟨rfl, rfl, rfl, trivial⟩)
    · refine Ex.nil ?_
      exact Ex.nil (again _ _ ⟨rfl, rfl, rfl, trivial⟩)
  · rintro vars c ⟨ns, e, rfl, hns, hv⟩
    refine Ex.nil ?_
    refine Ex.cons ?_
    refine Ex1.ret ?_
    walk_at "ev"
    exact h
end
end Mine
end

noncomputable section
open PySem PySem.W PyProof.Rows PySem.Calls
set_option Elab.async false
set_option linter.unusedVariables false
set_option maxRecDepth 100000
set_option pp.deepTerms false
set_option pp.deepTerms.threshold 3
set_option tactic.hygienic false
namespace Mine
section
variable {g : Gx} {A : Around} {env : Env} {vars : Vars} {cs cs' : Cs} {P : Fl → Vars → Cs → Prop} {X : XP}
theorem StT.nodup {tree : Sem Flow} (H : (cs.map (·.1)).Nodup → StT g A env tree vars cs P X) : StT g A env tree vars cs P X := fun c s Q E S R hE q ee => H R.nd c s Q E S R hE q ee
/-- del xs[i] -/
theorem Ex1.delIdx {o i : Expr} {pos' pos : Pos} (H : Ev g A env vars o cs fun to cs₁ => Ev g A env vars i cs₁ fun ti cs₂ => ∃ a ts k j cs₃, to = .cel a ∧ ti = .int k ∧ Builtin.List.listFitsIndex k = true ∧ seqIndex? k ts.length = some j ∧ CU a (.list ts) (.list (ts.eraseIdx j)) cs₂ cs₃ ∧ ts.length ≤ sizeLine ∧ P .next vars cs₃) : Ex1 g A env (.Delete [.Subscript o i pos'] pos) vars cs P X := by
  intro c s Q E S R hE q ee
  have core : wpAny g.M A (delete (.Subscript o i pos') env) (fun _ s' => Q .next s') E s := by
    refine delete_Subscript (H.use S.ok R fun fz₁ to ov cs₁ h₁ tk₁ m₁ H₁ r₁ R₁ => H₁.use (S.ok.mono m₁) R₁ fun fz₂ ti iv cs₂ h₂ tk₂ m₂ H₂ r₂ R₂ => ?_)
    obtain ⟨a, ts, k, j, cs₃, rfl, rfl, hf, hj, U, hz, p⟩ := H₂
    cases r₁; cases r₂
    obtain ⟨vs, n, ha, ra⟩ := R₂.listC U.mem
    refine delItem_at (s := { s with heap := h₂, toks := tk₂ }) ha hf (by simpa [ra.length] using hj) (fun h' hs ho' => ?_) (by simpa [ra.length] using hz)
    have m : ∀ p ∈ c.fz, p ∈ fz₂ := fun p hp => m₂ p (m₁ p hp)
    exact q (c.with fz₂) .next .next vars cs₃ h' _ (.with m) p .next (S.mono m) (R₂.setC U hs ho' (by simpa [W.listOf] using CR.list (n + 1) (ra.erase j)))
  exact wpAny_Delete (wpAny_deleteEach_cons (wpAny_mono core (fun _ _ z => wpAny_deleteEach_nil z) fun _ _ z => z))
/-- del ds[x] -/
theorem Ex1.delKey {o i : Expr} {pos' pos : Pos} (H : Ev g A env vars o cs fun to cs₁ => Ev g A env vars i cs₁ fun ti cs₂ => ∃ a ds x cs₃, to = .cel a ∧ ti = .str x ∧ (ds.lookup x).isSome = true ∧ (ds.map (·.1)).Nodup ∧ CU a (.dict ds) (.dict (outT ds x)) cs₂ cs₃ ∧ ds.length ≤ sizeLine ∧ P .next vars cs₃) : Ex1 g A env (.Delete [.Subscript o i pos'] pos) vars cs P X := by
  intro c s Q E S R hE q ee
  have core : wpAny g.M A (delete (.Subscript o i pos') env) (fun _ s' => Q .next s') E s := by
    refine delete_Subscript (H.use S.ok R fun fz₁ to ov cs₁ h₁ tk₁ m₁ H₁ r₁ R₁ => H₁.use (S.ok.mono m₁) R₁ fun fz₂ ti iv cs₂ h₂ tk₂ m₂ H₂ r₂ R₂ => ?_)
    obtain ⟨a, ds, x, cs₃, rfl, rfl, hl, hn, U, hz, p⟩ := H₂
    cases r₁; cases r₂
    obtain ⟨kvs, lo, rk, hD⟩ := R₂.dictC U.mem hn
    have hlen : kvs.length = ds.length := by have := congrArg List.length rk.keys; simpa using this
    have m : ∀ p ∈ c.fz, p ∈ fz₂ := fun p hp => m₂ p (m₁ p hp)
    unfold delItem
    try with_reducible refine wpAny_holding ?_
    refine wpAny_bind (wpAny_sequenceKey (s := { s with heap := h₂, toks := tk₂ }) hD.typeIs (by decide) ?_)
    refine wpAny_bind (wpAny_callSpecial?_slot (name := Str.ofString "__delitem__") (s := { s with heap := h₂, toks := tk₂ }) hD.typeIs PySem.F.slot_dict_delitem
      (call_meetsIn PySem.F.slot_dict_delitem (s := { s with heap := h₂, toks := tk₂ }) hD.typeIs PySem.F.entry_dict_delitem (PySem.F.args_dict_delitem_2 _ _) (meets_dict_delitem_pairs (strKind prg g.w) a (strKind_is prg g.w x _)) ⟨kvs, hD, by rw [hlen]; exact hz, ?_, fun h' hmm hs => ?_⟩))
    · rcases rk.look x with ⟨t, v, e1, e2, _⟩ | ⟨e1, _⟩
      · rw [e2]; rfl
      · rw [e1] at hl; cases hl
    · exact wpAny_pure (q (c.with fz₂) .next .next vars cs₃ h' _ (.with m) p .next (S.mono m) (R₂.setD U hs lo (rk.out x) hmm))
  exact wpAny_Delete (wpAny_deleteEach_cons (wpAny_mono core (fun _ _ z => wpAny_deleteEach_nil z) fun _ _ z => z))
end
section
variable {g : Gx} {A : Around} {cs : Cs} {P : T → Cs → Prop}
theorem VRs.strs {P : Params} {fz : List (Addr × Obj)} : ∀ {ss : List Str} {vs : List Value}, VRs P fz (ss.map T.str) vs → StrsAre vs ss
  | [], _, .nil => .nil
  | s :: ss, _, .cons a r => by cases a; exact .cons _ _ (VRs.strs r)
theorem VRs.ofStrs {P : Params} {fz : List (Addr × Obj)} : ∀ {ss : List Str} {vs : List Value}, StrsAre vs ss → VRs P fz (ss.map T.str) vs
  | _, _, .nil => .nil
  | _, _, .cons x t r => .cons (.str _ _) (VRs.ofStrs r)
theorem Cal.sorted {t : T} {ss : List Str} (il : IsL cs t (ss.map T.str)) (hz : ss.length < 64) (h : ∀ ss', ss'.Perm ss → sortedS ss' = true → P (.list (ss'.map T.str)) cs) : Cal g A (.raw (.builtin "sorted")) [t] [] cs P := .b fun c s Q E vs rv R k => by
  cases rv with
  | cons r1 rv =>
  cases rv
  obtain ⟨b, vs, n, rfl, ha, ra⟩ := R.isL il r1
  have hlen : vs.length = ss.length := by simpa using ra.length
  refine sorted_strs ⟨_, ha, rfl, n, rfl⟩ ra.strs (by omega) fun out ss' hS hp hs => ?_
  obtain ⟨e, he⟩ := sortedAll_at s.heap vs out
  have R' := R.born (fun b o hb => sortedAll_old (vs := vs) (out := out) hb) he (Nat.le_succ _)
  refine k _ _ _ cs _ s.toks (fun q hq => .tail _ hq) (h ss' hp hs) (VR.list (vs := out.toList) (n := e) ?_ (VRs.ofStrs hS)) R'
  exact .head _
end
end Mine
end

noncomputable section
open PySem PySem.W PyProof.Rows PySem.Calls
set_option Elab.async false
set_option linter.unusedVariables false
set_option maxRecDepth 100000
set_option pp.deepTerms false
set_option pp.deepTerms.threshold 3
set_option tactic.hygienic false
namespace Mine
section
variable {g : Gx} {A : Around} {cs : Cs} {P : T → Cs → Prop}
theorem hits_of {c : Ctx} {s : Shared} {n : Nat} (hr : Room A n) (R : RF g A c cs s.heap) {ds₂ : List (Str × T)} {kb : List (Str × Value)} (rb : VRk g.P c.fz ds₂ kb) : ∀ {ds₁ : List (Str × T)} {ka : List (Str × Value)}, VRk g.P c.fz ds₁ ka → (∀ p ∈ ds₁, ds₂.lookup p.1 = some p.2 ∧ p.2.ok 4 = true) → KeqHits A.in1 s kb ka true
  | _, _, .nil, _ => .nil
  | _, _, .cons (x := x) (t := t) (v := v) r rs, h => by
    have ih := hits_of hr R rb rs fun p hp => h p (.tail _ hp)
    obtain ⟨h1, h2⟩ := h (x, t) (.head _)
    rcases rb.look x with ⟨t', y, e1, e2, ry⟩ | ⟨e1, _⟩
    · rw [h1] at e1; cases e1
      obtain ⟨as, ra⟩ := r.reads R.fzAll 4 h2
      obtain ⟨bs, rb'⟩ := ry.reads R.fzAll 4 h2
      have hd := (T.lay 4 t h2)
      have hu := hr.units
      have e : SeqAt.EqAt A.in1 s v y true := by
        have z := PySem.SeqAt.eqAt_reads t.py t.py A.in1 s v y as bs ra rb' hd.1 hd.1 (by have := hd.2; have := hr.2.2; show A.units + 1 + _ < _; omega)
        rw [(T.eqv 4 t t 4 h2 h2).mpr rfl] at z
        exact z
      exact .hit (b := true) e2 e ih
    · rw [h1] at e1; cases e1
/-- two dicts that hold the same -/
theorem Op2.neD {n : Nat} {t₁ t₂ : T} {ds₁ ds₂ : List (Str × T)} (hr : Room A n) (i₁ : IsD cs t₁ ds₁) (i₂ : IsD cs t₂ ds₂) (n1 : (ds₁.map (·.1)).Nodup) (n2 : (ds₂.map (·.1)).Nodup) (hl : ds₁.length = ds₂.length) (hall : ∀ p ∈ ds₁, ds₂.lookup p.1 = some p.2 ∧ p.2.ok 4 = true) (h : P (.bool false) cs) : Op2 g A (compareOp .NotEq) t₁ t₂ cs P := by
  rintro c s Q E _ ⟨v₁, v₂, h₁, h₂, rfl⟩ R k
  obtain ⟨a, es, n, rfl, lo1, ha, ra⟩ := R.isD i₁ h₁
  obtain ⟨b, fs, m, rfl, lo2, hb, rb⟩ := R.isD i₂ h₂
  obtain ⟨ka, q1, d1⟩ := VRd.dictOf (w := g.w) (prog := prg) ra n1 ha
  obtain ⟨kb, q2, d2⟩ := VRd.dictOf (w := g.w) (prog := prg) rb n2 hb
  have e1 : ka.length = ds₁.length := by have := congrArg List.length q1.keys; simpa using this
  have e2 : kb.length = ds₂.length := by have := congrArg List.length q2.keys; simpa using this
  have hu := hr.units
  refine keq_ne (r := true) lo1 lo2 d1 d2 (by omega) (fun _ => hits_of hr R q2 q1 hall) ?_
  have : (ka.length == kb.length) = true := by simp [e1, e2, hl]
  rw [this]
  exact k c.fz _ _ cs s.heap s.toks (fun _ h => h) h (.bool _) R
end
end Mine
end

noncomputable section
open PySem PySem.W PyProof.Rows PySem.Calls
set_option Elab.async false
set_option linter.unusedVariables false
set_option maxRecDepth 100000
set_option pp.deepTerms false
set_option pp.deepTerms.threshold 3
namespace Mine
open LCg LCt
section
variable {g : Gx} {A : Around} {env : Env} {vars caps : Vars} {x : Str} {scope : Scope} {cl : List (Str × Addr)} {P : T → Cs → Prop} {cs : Cs}
/-- over the keys of a frozen dict -/
theorem Ev.compTK {ct elt iter : Expr} {px pos : Pos} (hh : A.handled = none) (hc : CapsOK env scope cl vars caps)
    (H : Ev g A env vars iter cs fun t cs' => ∃ ds, t = .dict ds ∧ (ds.map (·.1)).Nodup ∧ ds.length ≤ sizeLine ∧ CompT g A env x scope cl caps P ct elt (ds.map fun p => T.str p.1) [] cs')
    (hclos : closureFor scope env = pure cl := by rfl) (hcell : ∀ y ∈ scope.names, y.2 ≠ .cell := by decide) (hkind : scope.kind = .function := by rfl)
    (hnames : ∀ y ∈ scope.names, y.2 = .local → scope.names.lookup y.1 = some .local := by decide) (hx : scope.names.lookup x = some .local := by rfl) (hs : ∀ x, foldedSetIterable iter env x = pure x := by intro _; rfl) :
    Ev g A env vars (.ListComp elt [⟨.Name x px, iter, [ct], 0⟩] scope pos) cs P := by
  rintro c s Q E _ ⟨V, rfl⟩ R k
  rw [eval_ListComp]
  refine wpAny_comprehension_free (use := none) rfl hs hclos hkind hnames (H.use V R fun fz₁ t v cs₁ h₁ tk₁ m₁ hu r R₁ => ?_)
  obtain ⟨ds, rfl, nd, hsz, hC⟩ := hu
  cases r with
  | dict lo hm rd =>
  rename_i d es ep
  have hd := R₁.fzGet hm
  obtain ⟨kvs, rk, pr⟩ := VRd.pairs (w := g.w) (prog := prg) rd
  have hlen : kvs.length = ds.length := by have := congrArg List.length rk.keys; simpa using this
  have hat : ∀ h : Heap, h.get? d = some (W.dictOf es ep) → h.DictAt (strKind prg g.w) d kvs ep := fun h e => ⟨_, es.toArray, e, ⟨rfl, rfl, rfl⟩, rfl, rd.keysOf, by simpa using pr, by rw [rk.keys]; exact nd⟩
  have hlt := Heap.lt_size hd
  obtain ⟨co, B, N⟩ := R₁.book
  refine wpAny_pyIter_dict (s := { s with heap := h₁, toks := tk₁ }) (knd := strKind prg g.w) lo (hat _ hd) ?_
  dsimp only
  generalize hoI : ({ cls := .type "dict_keyiterator", data := .fields #[.ref d, .int 0 0, .int kvs.length 0, .int ep 0] } : Obj) = oI
  have up : ∀ b o, h₁.get? b = some o → (h₁.push oI).get? b = some o := fun b o e => Heap.get?_push_of_some _ e
  refine block_T (h₀ := c.h₀) (L := c.L) (m := c.mF) (S := fun nw => (d, W.dictOf es ep) ∈ nw) (news := (c.with fz₁).all co) (Fin := fun ys nw => FinE c.h₀ c.L c.mF { s with heap := h₁.push oI, toks := tk₁ } Q ys nw) (s₂ := { s with heap := h₁.push oI, toks := tk₁ })
    (Walks.dictKeys (knd := strKind prg g.w) hh h₁.objs.size d (Nat.ne_of_lt hlt) kvs ep) (by rw [hlen]; exact hsz) (fun i h st => by obtain ⟨o, e, _⟩ := st.1; exact ⟨o, e⟩) ?_ hcell hkind hx ?_ ?_
    (R₁.F.keeps up) (N.grown up) (Nat.ne_of_lt R₁.F.ns.lt) (next_is_new R₁.F) (fun p hp => Nat.ne_of_lt (Heap.lt_size (N p hp).1)) (List.mem_append_left _ (List.mem_append_left _ hm)) ?_ ?_
  · intro i h h' o nw st e e' _ N' hS
    obtain ⟨o2, e2, q2, q3⟩ := st.1
    rw [e] at e2; cases e2
    exact ⟨⟨o, e', q2, q3⟩, hat _ (N' _ hS).1⟩
  · exact ⟨⟨oI, Heap.get?_push_size _ (by subst hoI; rfl), by subst hoI; rfl, by subst hoI; rfl⟩, hat _ (up _ _ hd)⟩
  · intro b hb
    show b < (h₁.push oI).objs.size
    rw [Heap.size_push]
    rcases List.mem_cons.mp hb with rfl | hb
    · exact Nat.lt_succ_self _
    · rw [List.mem_singleton.mp hb]; exact Nat.lt_succ_of_lt hlt
  · have e : kvs.length = (ds.map fun p => T.str p.1).length := by rw [hlen, List.length_map]
    rw [e]
    refine comp_restTG (P := P) (Sx := fun nw => (d, W.dictOf es ep) ∈ nw) (c := c.with fz₁) (us := ds.map fun p => T.str p.1) (V.mono m₁) hc hx (fun fz' m' co => List.mem_append_left _ (List.mem_append_left _ (m' _ hm))) (fun i v hi hP => ?_) ?_ (ds.map fun p => T.str p.1).length 0 [] [] fz₁ cs₁ co (fun _ h => h) B .nil (by omega) hC
    rotate_left
    · intro fz cs' co' acc ys m B' ra p D h tk F N' off
      exact k _ _ _ cs' h tk (fun q hq => .tail _ (m q (m₁ q hq))) p (.list (.head _) (ra.mono fun q hq => .tail _ hq)) (comp_new (c := c.with fz₁) B' F N' off)
    obtain ⟨key, y, e1, e2⟩ := hP
    obtain ⟨tk', rfl⟩ := Value.isStrOf_shape e2
    have hi' : i < ds.length := by simpa using hi
    have : key = ds[i].1 := by
      have z := congrArg (·[i]?) rk.keys
      simp only [List.getElem?_map, e1, Option.map_some, List.getElem?_eq_getElem hi'] at z
      exact Option.some.inj z
    rw [List.getElem_map, ← this]
    exact .str _ _
  · intro D C h tk m' ys news' F' N' o1 hn hC₀ hD₀ hCL hDL hCD offC fin
    refine ⟨m', hn, fun h'' hs'' => fin D h'' tk (F'.change hs'' hCL hC₀) (fun p hp => ?_) o1⟩
    refine ⟨hs''.extBut _ _ ?_ (N' p hp).1, (N' p hp).2⟩
    rcases List.mem_cons.mp hp with rfl | hp
    · exact Ne.symm hCD
    · exact offC p hp
end
end Mine
end

noncomputable section
open PySem PySem.W PyProof.Rows PySem.Calls
set_option Elab.async false
set_option linter.unusedVariables false
set_option maxRecDepth 100000
set_option pp.deepTerms false
set_option pp.deepTerms.threshold 3
namespace Mine
section
variable {g : Gx} {A : Around} {cs : Cs}
theorem Itb.keys {px : Pos} {y : Str} {ds : List (Str × T)} (hh : A.handled = none) (nd : (ds.map (·.1)).Nodup) : Itb g A (.Name y px) (.dict ds) cs (ds.map fun p => T.str p.1) cs := by
  intro c s v Q E r R k
  cases r with
  | dict lo hm rd =>
  rename_i d es ep
  have hd := R.fzGet hm
  obtain ⟨kvs, rk, pr⟩ := VRd.pairs (w := g.w) (prog := prg) rd
  have hlen : kvs.length = ds.length := by have := congrArg List.length rk.keys; simpa using this
  have hat : ∀ h : Heap, h.get? d = some (W.dictOf es ep) → h.DictAt (strKind prg g.w) d kvs ep := fun h e => ⟨_, es.toArray, e, ⟨rfl, rfl, rfl⟩, rfl, rd.keysOf, by simpa using pr, by rw [rk.keys]; exact nd⟩
  have hlt := Heap.lt_size hd
  refine wpAny_pyIter_dict (knd := strKind prg g.w) lo (hat _ hd) (k _ _ _ _ _ (fun v => by simp) R.fresh R.newL (R.pushPc _ rfl) (walks_of (Walks.dictKeys (knd := strKind prg g.w) hh s.heap.objs.size d (Nat.ne_of_lt hlt) kvs ep) (by simp [hlen]) fun i u hlt' e => ?_) (fun i v s' Q' E' st q => wpAny_pure q) (fun i h st => ?_) (fun b hb => ?_) ⟨⟨_, Heap.get?_push_size _ rfl, rfl, rfl⟩, hat _ (Heap.get?_push_of_some _ hd)⟩)
  · obtain ⟨key, x, e1, e2⟩ := e
    obtain ⟨tk', rfl⟩ := Value.isStrOf_shape e2
    have hi' : i < ds.length := by omega
    have : key = ds[i].1 := by
      have z := congrArg (·[i]?) rk.keys
      simp only [List.getElem?_map, e1, Option.map_some, List.getElem?_eq_getElem hi'] at z
      exact Option.some.inj z
    exact ⟨T.str ds[i].1, by simp [hi'], by rw [← this]; exact .str _ _⟩
  · obtain ⟨o, ho, hc, hdd⟩ := st.1
    exact ⟨o, ho, fun v => by rw [hdd]; simp⟩
  · rcases List.mem_cons.mp hb with e | hb
    · exact .inl e
    · rw [List.mem_singleton.mp hb]; exact .inr ⟨_, .inl hm⟩
end
end Mine
end

noncomputable section
set_option Elab.async false
set_option tactic.hygienic false
namespace Mine
noncomputable def c3cand (rows : List (List Nat)) : List (List Nat) → Option Nat
  | [] => none
  | s :: rest => match s with
    | [] => c3cand rows rest
    | x :: _ => if rows.any (fun r => (r.drop 1).contains x) then c3cand rows rest else some x
noncomputable def c3 : Nat → List (List Nat) → List Nat → Option (List Nat)
  | 0, _, _ => none
  | n + 1, rows, res =>
    let rows' := rows.filter (fun r => !r.isEmpty)
    if rows'.isEmpty then some res else match c3cand rows' rows' with
      | none => none
      | some x => c3 n (rows'.map fun r => if r.head? == some x then r.drop 1 else r) (res ++ [x])
noncomputable def lineC3 (i : Nat) (bas : List Nat) (rows : List (Option (List Nat))) : Option (List Nat) :=
  if rows.contains none then none else c3 30 ([[i]] ++ rows.map (·.getD []) ++ [bas]) []
noncomputable def opts (i : Nat) : List (List Nat) := [[]] ++ (List.range i).map (fun x => [x]) ++ (List.range i).flatMap fun x => ((List.range i).filter (· != x)).map fun y => [x, y]
noncomputable def okRest (line : Option (List Nat)) (rows : List (Option (List Nat))) : Bool := match line with
  | none => true
  | some [] => false
  | some (_ :: m) => rows.all (fun r => match r with | some l => l.isSublist m | none => false) && m.all (fun x => rows.any fun r => match r with | some l => l.contains x | none => false)
noncomputable def chkAt (i : Nat) (ls : List (Option (List Nat))) (bas : List Nat) : Bool :=
  let rows := bas.map fun b => ls.getD b none
  let p := plainStep i rows
  p == lineC3 i bas rows && okRest p rows && (match p with | some l => decide (l.length ≤ 5) && l.all (· < 5) | none => true)
noncomputable def chkFrom : Nat → List (Option (List Nat)) → Bool
  | 0, _ => true
  | n + 1, ls => let i := 5 - (n + 1)
    (opts i).all fun bas => chkAt i ls bas && chkFrom n (ls ++ [plainStep i (bas.map fun b => ls.getD b none)])
theorem chk_all : chkFrom 5 [] = true := by decide +kernel
end Mine
end

noncomputable section
set_option Elab.async false
set_option tactic.hygienic false
namespace Mine
noncomputable def linesOf (bas : Nat → List Nat) : Nat → List (Option (List Nat))
  | 0 => []
  | k + 1 => linesOf bas k ++ [plainStep k ((bas k).map fun b => (linesOf bas k).getD b none)]
theorem linesOf_len (bas : Nat → List Nat) : ∀ k, (linesOf bas k).length = k
  | 0 => rfl
  | k + 1 => by simp [linesOf, linesOf_len bas k]
theorem linesOf_at (bas : Nat → List Nat) (b : Nat) : ∀ k, b < k → (linesOf bas k).getD b none = plainStep b ((bas b).map fun x => (linesOf bas b).getD x none)
  | 0, h => by omega
  | k + 1, h => by
    by_cases q : b < k
    · rw [← linesOf_at bas b k q]
      simp only [linesOf, List.getD_eq_getElem?_getD]
      rw [List.getElem?_append_left (by rw [linesOf_len]; exact q)]
    · have e : b = k := by omega
      subst e
      simp only [linesOf, List.getD_eq_getElem?_getD]
      rw [List.getElem?_append_right (by rw [linesOf_len]; exact Nat.le_refl _), linesOf_len]
      simp
/-- the plain line of a letter -/
noncomputable def plOf (bas : Nat → List Nat) (b : Nat) : Option (List Nat) := plainStep b ((bas b).map fun x => (linesOf bas b).getD x none)
theorem plOf_eq (bas : Nat → List Nat) (b : Nat) (h : ∀ x ∈ bas b, x < b) : plOf bas b = plainStep b ((bas b).map (plOf bas)) := by
  unfold plOf
  congr 1
  refine List.map_congr_left fun x hx => ?_
  exact linesOf_at bas x b (h x hx)
theorem chk_from (bas : Nat → List Nat) (hb : ∀ i < 5, bas i ∈ opts i) : ∀ k, k ≤ 5 → chkFrom (5 - k) (linesOf bas k) = true
  | 0, _ => chk_all
  | k + 1, h => by
    have ih := chk_from bas hb k (by omega)
    rw [show 5 - k = (5 - (k + 1)) + 1 by omega, chkFrom] at ih
    have e : 5 - (5 - (k + 1) + 1) = k := by omega
    simp only [e] at ih
    have := List.all_eq_true.mp ih (bas k) (hb k (by omega))
    exact (Bool.and_eq_true_iff.mp this).2
theorem chk_at (bas : Nat → List Nat) (hb : ∀ i < 5, bas i ∈ opts i) (k : Nat) (h : k < 5) : chkAt k (linesOf bas k) (bas k) = true := by
  have ih := chk_from bas hb k (by omega)
  rw [show 5 - k = (5 - (k + 1)) + 1 by omega, chkFrom] at ih
  have e : 5 - (5 - (k + 1) + 1) = k := by omega
  simp only [e] at ih
  have := List.all_eq_true.mp ih (bas k) (hb k h)
  exact (Bool.and_eq_true_iff.mp this).1
end Mine
end

noncomputable section
set_option Elab.async false
set_option tactic.hygienic false
namespace Mine
theorem opt0 (i : Nat) : [] ∈ opts i := by simp [opts]
theorem opt1 {i x : Nat} (h : x < i) : [x] ∈ opts i := by simp [opts, h]
theorem opt2 {i x y : Nat} (h : x < i) (h2 : y < i) (e : y ≠ x) : [x, y] ∈ opts i := by
  simp only [opts, List.mem_append, List.mem_flatMap, List.mem_map, List.mem_filter, List.mem_range]
  exact .inr ⟨x, h, y, ⟨h2, by simpa using e⟩, rfl⟩
theorem bas_opts (ns : List Int) (i : Nat) : basAt ns i ∈ opts i := by
  unfold basAt
  dsimp only
  generalize ([0, 0, 0, 9, 7] : List Int).getD i 0 + (inInt ns (some (i : Int)) (some 5)).sum = pick
  have hu0 : 0 ≤ pick.fmod ((i : Int) + 1) := Int.fmod_nonneg_of_pos _ (by omega)
  have hv0 : 0 ≤ (pick.fdiv ((i : Int) + 1)).fmod ((i : Int) + 1) := Int.fmod_nonneg_of_pos _ (by omega)
  generalize pick.fmod ((i : Int) + 1) = u at *
  generalize (pick.fdiv ((i : Int) + 1)).fmod ((i : Int) + 1) = v at *
  by_cases h1 : u < i
  · by_cases h2 : v < i ∧ v ≠ u
    · rw [if_pos h1, if_pos h2]
      exact opt2 (by omega) (by omega) (by omega)
    · rw [if_pos h1, if_neg h2]
      exact opt1 (by omega)
  · by_cases h2 : v < i ∧ v ≠ u
    · rw [if_neg h1, if_pos h2]
      exact opt1 (by omega)
    · rw [if_neg h1, if_neg h2]
      exact opt0 i
theorem opts_ok {i : Nat} {l : List Nat} (h : l ∈ opts i) : l.length ≤ 2 ∧ (∀ b ∈ l, b < i) ∧ l.Nodup := by
  simp only [opts, List.mem_append, List.mem_flatMap, List.mem_map, List.mem_filter, List.mem_range, List.mem_singleton] at h
  rcases h with (rfl | ⟨x, hx, rfl⟩) | ⟨x, hx, y, ⟨hy, e⟩, rfl⟩
  · simp
  · simp [hx]
  · have e' : y ≠ x := by simpa using e
    refine ⟨by simp, fun b hb => ?_, by simpa using fun q => e' q.symm⟩
    rcases List.mem_cons.mp hb with rfl | hb
    · exact hx
    · rw [List.mem_singleton.mp hb]; exact hy
end Mine
end

noncomputable section
open PySem PySem.W PyProof.Rows PySem.Calls
set_option Elab.async false
set_option linter.unusedVariables false
set_option maxRecDepth 100000
set_option pp.deepTerms false
set_option pp.deepTerms.threshold 3
namespace Mine

section
variable {g : Gx} {A : Around} {c : Ctx} {cs : Cs} {h h' : Heap}
noncomputable def FrAt (c : Ctx) (b : Addr) : Prop := b = c.L ∨ ∃ q ∈ c.frs, q.1 = b
/-- the frames are noted, all else that counts stands -/
theorem RF.noted {N : Addr → Prop} (R : RF g A c cs h) (nx : ∀ b, N b → c.h₀.get? b = none ∧ (∀ p ∈ c.fz ++ c.pc, p.1 ≠ b) ∧ ∀ p ∈ cs, p.1 ≠ b) (k : ∀ b o, ¬ N b → ¬ FrAt c b → h.get? b = some o → h'.get? b = some o)
    (u : ∀ b o, FrAt c b → h.get? b = some o → ∃ sl, h'.get? b = some { o with slots := sl }) : RF g A c cs h' := by
  have kN : ∀ b o, b ≠ c.L → (∀ q ∈ c.frs, b ≠ q.1) → ¬ N b → h.get? b = some o → h'.get? b = some o := fun b o h1 h2 h3 e => k b o h3 (fun z => z.elim h1 fun ⟨q, hq, e⟩ => h2 q hq e.symm) e
  refine ⟨R.below, ⟨?_, fun b o e => ?_, R.F.above⟩, R.X, R.top, fun p hp => ⟨kN _ _ (R.N p hp).2.1 (R.fx.ap4 p hp) (fun z => (nx _ z).2.1 p hp rfl) (R.N p hp).1, (R.N p hp).2⟩, fun p hp => ?_, R.nd, R.ap, R.ap2, fun p hp => ?_, R.fx.exF, R.fx.exC, R.fx.ap3, R.fx.ap4⟩
  · obtain ⟨o, es, ep, ho, hd, r⟩ := R.F.ns
    obtain ⟨sl, hs⟩ := u _ _ (.inl rfl) ho
    exact ⟨_, es, ep, hs, hd, r⟩
  · refine kN b o (fun z => ?_) (fun q hq z => ?_) (fun z => ?_) (R.F.keep b o e)
    · exact absurd (Nat.lt_of_lt_of_le (Heap.lt_size e) R.F.above) (by rw [z]; exact Nat.lt_irrefl _)
    · obtain ⟨_, _, _, n⟩ := R.fx.get hq
      rw [z, n] at e; cases e
    · rw [(nx _ z).1] at e; cases e
  · obtain ⟨o, cr, n⟩ := R.co p hp
    refine ⟨o, cr, fun q hq => ?_⟩
    have z := n q hq
    rw [List.mem_singleton.mp hq] at z ⊢
    exact ⟨kN _ _ z.2.1 (R.fx.ap3 p hp) (fun y => (nx _ y).2.2 p hp rfl) z.1, z.2⟩
  · obtain ⟨sl, z, n1, n2⟩ := R.fx.get hp
    obtain ⟨sl', z'⟩ := u _ _ (.inr ⟨p, hp, rfl⟩) z
    exact ⟨sl', fun q hq => by rw [List.mem_singleton.mp hq]; exact ⟨z', n1, n2⟩⟩
theorem RF.frDict (R : RF g A c cs h) {b : Addr} {o : Obj} (hb : FrAt c b) (e : h.get? b = some o) : ∀ vs, o.data ≠ .fields vs := by
  intro vs q
  rcases hb with rfl | ⟨p, hp, rfl⟩
  · obtain ⟨o', es, ep, ho, hd, r⟩ := R.F.ns
    rw [e] at ho; cases ho
    rw [hd] at q; cases q
  · obtain ⟨fenv, outer, _, _, _, hFr⟩ := R.below
    obtain ⟨sl, z, _, _⟩ := R.fx.get hp
    rw [e] at z; cases z
    obtain ⟨es, ep, hd⟩ := hFr.dict p hp
    have q' : p.2.data = .fields vs := q
    rw [hd] at q'; cases q'

noncomputable def Rob (g : Gx) (A : Around) (c : Ctx) (cs : Cs) (base h : Heap) : Prop := ∀ h', base.StaysIn h' → (∀ b o, FrAt c b → h.get? b = some o → ∃ sl, h'.get? b = some { o with slots := sl }) → RF g A c cs h'
structure Held (g : Gx) (A : Around) (c : Ctx) (cs : Cs) (X : String) (e : Addr) (base h : Heap) : Prop where
  st : base.StaysIn h
  rob : Rob g A c cs base h
  tr : ∃ oe vs T oT ts, h.get? e = some oe ∧ oe.cls = .type X ∧ oe.data = .fields vs ∧ vs[1]? = some (.ref T) ∧ base.get? T = none ∧ T ≠ e ∧ h.get? T = some oT ∧ oT.data = .fields ts ∧ 3 < ts.size
theorem Held.rf {X : String} {e : Addr} {base : Heap} (H : Held g A c cs X e base h) : RF g A c cs h := H.rob h H.st fun b o _ e => ⟨o.slots, e⟩
theorem Held.land {A' : Around} {s : Shared} {X : String} {e : Addr} {base : Heap} {Q : Unit → Shared → Prop} {E : Value → Shared → Prop} {M : Model} (H : Held g A c cs X e base s.heap) (k : ∀ h', Held g A c cs X e base h' → Q () { s with heap := h' }) : wpAny M A' (setFlight (.ref e) none) Q E s := by
  obtain ⟨oe, vs, T, oT, ts, he, hcl, hd, h1, hnT, hTe, hT, hdT, h3⟩ := H.tr
  have R := H.rf
  have ne : ∀ b o, FrAt c b → s.heap.get? b = some o → b ≠ T := fun b o hb e z => by
    rw [z, hT] at e; cases e
    exact R.frDict (z ▸ hb) hT _ hdT
  have other : ∀ b, b ≠ T → (s.heap.update T (Obj.mapFields (·.setIfInBounds 3 Value.none))).get? b = s.heap.get? b := fun b hb => Heap.get?_update_other _ _ (Ne.symm hb)
  refine wpAny_setFlight_none he hd h1 hT hdT h3 (k _ ⟨fun b o e => (other b fun z => by rw [z, hnT] at e; cases e).trans (H.st b o e), fun h' st u => H.rob h' st fun b o hb e => u b o hb ((other b (ne b o hb e)).trans e), ?_⟩)
  exact ⟨oe, vs, T, _, _, (other e (Ne.symm hTe)).trans he, hcl, hd, h1, hnT, hTe, Heap.get?_update_self _ hT (Obj.isFreed_of_fields (Obj.data_mapFields hdT _)), Obj.data_mapFields hdT _, by simpa using h3⟩

/-- raised here, or on its way from a callee -/
inductive Raised (g : Gx) (A : Around) (c : Ctx) (cs : Cs) (X : String) (e : Addr) (h : Heap) : Prop where
  | new {h₁ : Heap} : RF g A c cs h₁ → Heap.NewExc h₁ h e X → Raised g A c cs X e h
  | fly {base : Heap} {l : List Env} {a0 : Value} : A.frames = some l → Heap.FlyingW base l e (.type X) a0 h → Rob g A c cs base h → Raised g A c cs X e h

theorem RF.funs {h₁ : Heap} {env : Env} {outer : List Env} (R : RF g A c cs h) (hA : A.frames = some (env :: outer)) (k : ∀ b o, h.get? b = some o → h₁.get? b = some o) : h₁.FunFrames (TI.gone h (c.L :: c.frs.map (·.1))) (env :: outer) ∧ env.frame = some c.L := by
  obtain ⟨fenv, outer', hA', hf, hke, hFr⟩ := R.below
  rw [hA] at hA'
  cases hA'
  obtain ⟨frs', SU, ht⟩ := TI.sameUp_of (h' := h₁) fun p hp => by
    obtain ⟨sl, z, _, _⟩ := R.fx.get hp
    exact ⟨sl, k _ _ z⟩
  have hns : h₁.Ns c.L c.mF := R.F.ns.at' fun o e => k _ o e
  refine ⟨Heap.FunFrames.cons (by rw [hke]; decide) hf hns (TI.gone_none (.head _)) ((hFr.up SU).fun fun q hq => ⟨ht q hq, ?_⟩), hf⟩
  obtain ⟨p, hp, e⟩ := SU.fwd q hq
  exact TI.gone_none (by rw [e]; exact .tail _ (List.mem_map_of_mem hp))
theorem frAt_iff {b : Addr} : b ∈ c.L :: c.frs.map (·.1) ↔ FrAt c b := by
  constructor
  · intro hb
    rcases List.mem_cons.mp hb with e | hb
    · exact .inl e
    · obtain ⟨q, hq, e⟩ := List.mem_map.mp hb
      exact .inr ⟨q, hq, e⟩
  · rintro (rfl | ⟨q, hq, rfl⟩)
    · exact .head _
    · exact .tail _ (List.mem_map_of_mem hq)
theorem RF.rob {h₁ h₂ : Heap} (R : RF g A c cs h) (k : ∀ b o, h.get? b = some o → h₁.get? b = some o) (u : ∀ b o, h₁.get? b = some o → (∀ vs, o.data ≠ .fields vs) → ∃ sl, h₂.get? b = some { o with slots := sl }) : Rob g A c cs (TI.gone h (c.L :: c.frs.map (·.1))) h₂ := by
  intro h' st u'
  refine R.noted (N := fun _ => False) (fun _ z => z.elim) (fun b o _ nf e => st b o ((TI.gone_get fun hb => nf (frAt_iff.mp hb)).trans e)) fun b o hb e => ?_
  obtain ⟨sl, z⟩ := u b o (k _ _ e) (R.frDict hb e)
  obtain ⟨sl', z'⟩ := u' b _ hb z
  exact ⟨sl', z'⟩
theorem Raised.note {s : Shared} {X : String} {e : Addr} {env : Env} {outer : List Env} {Q : Unit → Shared → Prop} {E : Value → Shared → Prop} {M : Model} (H : Raised g A c cs X e s.heap) (hA : A.frames = some (env :: outer)) (k : ∀ h' base, Held g A c cs X e base h' → Q () { s with heap := h' }) : wpAny M A (noteFrame (.ref e) env) Q E s := by
  cases H with
  | new R hx =>
    rename_i h₁
    obtain ⟨hff, hf⟩ := R.funs hA hx.keeps
    obtain ⟨ob, tp, he, hcls, hd⟩ := hx.there
    unfold noteFrame
    simp only [hf]
    refine wpAny_bind (wpAny_field he hd (x := .none) rfl ?_)
    rw [if_neg (by decide)]
    refine wpAny_entryW (a0 := tp) hA hff hf he (fun b o eb => hx.keeps b o (TI.gone_some eb).2) (TI.none_of (fun b o eb => (TI.gone_some eb).2) hx.new) hd (by show 1 < 6; decide) rfl fun h' hN => ?_
    obtain ⟨k1, _, k3, k4⟩ := hN
    obtain ⟨oe, vs, T, oT, ts, he', ⟨hcl, _⟩, hd', h1, hnT, hTe, hT, hdT, h3⟩ := k3
    exact k h' _ ⟨k1, R.rob hx.keeps k4, oe, vs, T, oT, ts, he', hcl.trans hcls, hd', h1, hnT, hTe, hT, hdT, (Array.getElem?_eq_some_iff.mp h3).1⟩
  | fly hl hfl rob =>
    rename_i base l a0
    rw [hA] at hl
    cases hl
    obtain ⟨f1, f2, f3, f4⟩ := hfl
    have R := rob _ f1 fun b o _ e => ⟨o.slots, e⟩
    have hf := (R.funs hA fun _ _ e => e).2
    refine wpAny_noteFrame_onW hA f3 hf f4 f1 f2 fun h' hN => ?_
    obtain ⟨k1, _, k3, k4⟩ := hN
    obtain ⟨oe, vs, T, oT, ts, he', ⟨hcl, _⟩, hd', h1, hnT, hTe, hT, hdT, h3⟩ := k3
    refine k h' _ ⟨k1, fun h'' st u => rob h'' st fun b o hb e => ?_, oe, vs, T, oT, ts, he', hcl, hd', h1, hnT, hTe, hT, hdT, (Array.getElem?_eq_some_iff.mp h3).1⟩
    obtain ⟨sl, z⟩ := k4 b o e (R.frDict hb e)
    obtain ⟨sl', z'⟩ := u b _ hb z
    exact ⟨sl', z'⟩
end

/-- how a suite may end by an exception -/
noncomputable def rx (g : Gx) (A : Around) (env : Env) (X : String) (PX : Vars → Cs → Prop) : XP := fun v c cs h => ∃ e vars, v = .ref e ∧ Raised g A c cs X e h ∧ SV g env c vars ∧ PX vars cs
section
variable {g : Gx} {A : Around} {env : Env} {vars : Vars} {cs : Cs} {P : Fl → Vars → Cs → Prop} {X' : XP}
theorem Ex1.try_ {body : List Stmt} {b₀ : Stmt} {suite : List Stmt} {x : Str} {np hpos pos : Pos} {T : String} {PX : Vars → Cs → Prop} {outer : List Env} (hA : A.frames = some (env :: outer))
    (H : Ex g A env body vars cs P (rx g A env T PX))
    (HH : ∀ e vars' cs', PX vars' cs' → Ex g (A.mark (some (.ref e))) env (b₀ :: suite) vars' cs' P noX)
    (en : nsIn (kk g.w.params) mainGlobals x = some none) (hv : bootBuiltins x = some (.type T))
    (hexc : isSubtype (.type T) (.type "BaseException") = pure true) (hnt : isSubtype (.type ((Manifest.find? T).elim "type" fun x => x.metatype)) (.type "tuple") = pure false)
    (hsub : isSubtype (.type T) (.type T) = pure true)
    (hn : x ≠ "__name__" := by decide) (hg : env.globals = mainGlobals := by rfl) (hb : env.builtins = builtinsNs := by rfl) (hk : env.scope.kind = .function := by rfl)
    (hx : env.kindOf x = some .globalImplicit := by rfl) (hdb : (x == ("__debug__" : Str)) = false := by decide) :
    Ex1 g A env (.Try body [.ExceptHandler (some (.Name x np)) none (b₀ :: suite) hpos] [] [] pos) vars cs P X' := by
  intro c s Q E S R hE q ee
  refine wpAny_Try_except (H c s _ _ S R PassesOwn.looking (fun c' fl f vars' cs' h' tk' l p fr S' R' => ?_) fun v c' cs' h' tk' l hx' => ?_)
  · cases fr with
    | next => exact wpAny_execs_nil (q c' _ _ vars' cs' h' tk' l p .next S' R')
    | brk => exact q c' _ _ vars' cs' h' tk' l p .brk S' R'
    | cont => exact q c' _ _ vars' cs' h' tk' l p .cont S' R'
    | ret r => exact q c' _ _ vars' cs' h' tk' l p (.ret r) S' R'
  · obtain ⟨e, vars', rfl, ra, S', px⟩ := hx'
    refine ra.note (s := { s with heap := h', toks := tk' }) hA fun h₁ base H₁ => ?_
    refine H₁.land (s := { s with heap := h₁, toks := tk' }) fun h₂ H₂ => ?_
    refine wpAny_handleBy_builtin (X := T) (T := T) (b := true) hexc hnt hsub ?_
    have R₂ := H₂.rf
    refine Name_function_global hk hx (loadGlobal_builtin (env := env) (s := { s with heap := h₂, toks := tk' }) (by rw [hg]; exact R₂.top.g.keeps R₂.F.keep) (mg_none_of R₂.X R₂.top.g en) (by rw [hb]; exact R₂.top.b.keeps R₂.F.keep) ((R₂.top.builtins x hn).trans hv) ⟨rfl, ?_, ?_⟩) hdb
    · obtain ⟨oe, vs, T', oT, ts, he, hcl, _⟩ := H₂.tr
      exact ⟨oe, he, hcl⟩
    · rw [if_pos rfl]
      refine H₂.land (s := { s with heap := h₂, toks := tk' }) fun h₃ H₃ => ?_
      have R₃ := H₃.rf
      refine wpAny_mono (HH e vars' cs' px c' { s with heap := h₃, toks := tk' } Q (fun _ _ => False) S' (R₃.around rfl) PassesOwn.never (fun c₄ fl f vars₄ cs₄ h₄ tk₄ l₄ p₄ fr₄ S₄ R₄ => ?_) fun _ _ _ _ _ _ z => z.elim) (fun _ _ z => z) fun _ _ z => z.elim
      exact q c₄ fl f vars₄ cs₄ h₄ tk₄ (l.trans l₄) p₄ fr₄ S₄ (R₄.around rfl)

/-- a call that may raise -/
noncomputable def CalX (g : Gx) (A : Around) (tf : T) (ts : List T) (cs : Cs) (P : T → Cs → Prop) (X : String) (PX : Cs → Prop) : Prop :=
  ∀ (c : Ctx) (s : Shared) (Q E : Value → Shared → Prop) (f : Value) (vs : List Value), VR g.P c.fz tf f → VRs g.P c.fz ts vs → RF g A c cs s.heap →
    (∀ fz' r v cs' h' tk', (∀ p ∈ c.fz, p ∈ fz') → P r cs' → VR g.P fz' r v → RF g A (c.with fz') cs' h' → Q v { s with heap := h', toks := tk' }) →
    (∀ fz' e cs' h' tk', (∀ p ∈ c.fz, p ∈ fz') → PX cs' → Raised g A (c.with fz') cs' X e h' → E (.ref e) { s with heap := h', toks := tk' }) →
    KeepsAt g.M s.heap f ∧ wpAny g.M A (call f vs []) Q E s
noncomputable def EvX (g : Gx) (A : Around) (env : Env) (vars : Vars) (e : Expr) (cs : Cs) (P : T → Cs → Prop) (X : String) (PX : Cs → Prop) : Prop :=
  ∀ (c : Ctx) (s : Shared) (Q E : Value → Shared → Prop), VarsOK g env c vars → RF g A c cs s.heap →
    (∀ fz' r v cs' h' tk', (∀ p ∈ c.fz, p ∈ fz') → P r cs' → VR g.P fz' r v → RF g A (c.with fz') cs' h' → Q v { s with heap := h', toks := tk' }) →
    (∀ fz' e cs' h' tk', (∀ p ∈ c.fz, p ∈ fz') → PX cs' → Raised g A (c.with fz') cs' X e h' → E (.ref e) { s with heap := h', toks := tk' }) →
    wpAny g.M A (eval e env) Q E s
theorem EvX.call {func : Expr} {args : List Expr} {pos : Pos} {P : T → Cs → Prop} {X : String} {PX : Cs → Prop} (H : Ev g A env vars func cs fun tf cs₁ => ArgP g A env vars args cs₁ fun ts cs₂ => CalX g A tf ts cs₂ P X PX)
    (he : eval (.Call func args [] pos) env = (do callWith pos (← eval func env) [] (backTo pos (starEach args env)) (backToKw pos (keywordEach [] env))) := by rfl) : EvX g A env vars (.Call func args [] pos) cs P X PX := by
  intro c s Q E V R k ke
  refine Call_ (H.use V R fun fz₁ tf f cs₁ h₁ tk₁ m₁ H₁ r₁ R₁ => ?_) he
  refine core ?_
  have fin : ∀ fz' ts vs cs' h' tk', (∀ p ∈ fz₁, p ∈ fz') → CalX g A tf ts cs' P X PX → VRs g.P fz' ts vs → RF g A (c.with fz') cs' h' → KeepsAt g.M h' f ∧ wpAny g.M A (PySem.call f ([] ++ vs) []) Q E { s with heap := h', toks := tk' } := fun fz' ts vs cs' h' tk' m p r R' =>
    p (c.with fz') { s with heap := h', toks := tk' } Q E f vs (r₁.mono m) r R' (fun fz'' r v cs'' h'' tk'' m' => k fz'' r v cs'' h'' tk'' fun q hq => m' q (m q (m₁ q hq))) fun fz'' e cs'' h'' tk'' m' => ke fz'' e cs'' h'' tk'' fun q hq => m' q (m q (m₁ q hq))
  cases args with
  | nil => exact evalArgs_nil3 (fin fz₁ [] [] cs₁ h₁ tk₁ (fun _ h => h) H₁ .nil R₁)
  | cons e rest =>
    obtain ⟨H₁, he⟩ := H₁
    rw [he]
    refine evalArgs_plain ?_
    have := H₁ (c.with fz₁) { s with heap := h₁, toks := tk₁ } pos (fun vs s' => KeepsAt g.M s'.heap f ∧ wpAny g.M A (PySem.call f ([] ++ vs) []) Q E s') E (V.mono m₁) R₁ fin
    rw [he] at this
    exact this
theorem Ex1.assignX {x : Str} {p pos : Pos} {value : Expr} {X : String} {PX : Vars → Cs → Prop} (hx : env.kindOf x = some .local ∨ env.kindOf x = some .cell) (H : EvX g A env vars value cs (fun t cs' => P .next ((x, t) :: vars) cs') X (PX vars)) (hs : noComp value = true := by rfl) :
    Ex1 g A env (.Assign [.Name x p] value pos) vars cs P (rx g A env X PX) := by
  intro c s Q E S R hE q e
  refine wpAny_Assign_Name (H c s _ E S.ok R (fun fz' t v cs' h' tk' m pp r R' => ?_) fun fz' a cs' h' tk' m px ra => e _ (c.with fz') cs' h' tk' (.with m) ⟨a, vars, rfl, ra, S.mono m, px⟩) (swaps_no hs)
  rcases hx with hx | hx
  · exact store_local (S.mono m) R' r hx fun c' h' tk' l S' R' => q c' .next .next _ _ h' tk' ((Le.with m).trans l) pp .next S' R'
  · exact store_cell (S.mono m) R' r hx fun c' h' tk' l S' R' => q c' .next .next _ _ h' tk' ((Le.with m).trans l) pp .next S' R'
theorem Ex1.setItemX {o i value : Expr} {pos' pos : Pos} {X : String} {PX : Vars → Cs → Prop} (H : EvX g A env vars value cs (fun t cs₁ => Ev g A env vars o cs₁ fun to cs₂ => Ev g A env vars i cs₂ fun ti cs₃ => ∃ a x ds cs₄, to = .cel a ∧ ti = .str x ∧ CU a (.dict ds) (.dict (putT ds x t)) cs₃ cs₄ ∧ (ds.map (·.1)).Nodup ∧ ds.length ≤ sizeLine ∧ P .next vars cs₄) X (PX vars)) : Ex1 g A env (.Assign [.Subscript o i pos'] value pos) vars cs P (rx g A env X PX) := by
  intro c s Q E S R hE q ee
  refine wpAny_Assign_Subscript (H c s _ E S.ok R (fun fz₁ t v cs₁ h₁ tk₁ m₁ H₁ r₁ R₁ => H₁.use (S.ok.mono m₁) R₁ fun fz₂ to ov cs₂ h₂ tk₂ m₂ H₂ r₂ R₂ => H₂.use ((S.ok.mono m₁).le m₂) R₂ fun fz₃ ti iv cs₃ h₃ tk₃ m₃ H₃ r₃ R₃ => ?_) fun fz' a cs' h' tk' m px ra => ee _ (c.with fz') cs' h' tk' (.with m) ⟨a, vars, rfl, ra, S.mono m, px⟩) swaps_sub
  obtain ⟨a, x, ds, cs₄, rfl, rfl, U, hn, hz, p⟩ := H₃
  cases r₂; cases r₃
  obtain ⟨kvs, lo, rk, hd⟩ := R₃.dictC U.mem hn
  have hlen : kvs.length = ds.length := by have := congrArg List.length rk.keys; simpa using this
  refine wpAny_setItem_pairs (strKind_is prg g.w x _) (s := { s with heap := h₃, toks := tk₃ }) hd (fun h' hd' hs' => ?_) (by rw [hlen]; exact hz)
  have m : ∀ p ∈ c.fz, p ∈ fz₃ := fun p hp => m₃ p (m₂ p (m₁ p hp))
  exact q (c.with fz₃) .next .next vars cs₄ h' _ (.with m) p .next (S.mono m) (R₃.setD U hs' lo (rk.put ((r₁.mono m₂).mono m₃)) hd')
/-- raised in this very frame -/
noncomputable def rxN (g : Gx) (A : Around) (X : String) (PX : Cs → Prop) : XP := fun v c cs h => ∃ e h₁, v = .ref e ∧ RF g A c cs h₁ ∧ Heap.NewExc h₁ h e X ∧ PX cs
/-- raise X(text) -/
theorem Ex1.raise1 {x msg : Str} {k : Nat} {np cp cpos pos : Pos} {T N I : String} {PX : Cs → Prop} (hh : A.handled = none) (hc : ExcClass T N I) (px : PX cs)
    (en : nsIn (kk g.w.params) mainGlobals x = some none) (hv : bootBuiltins x = some (.type T)) (hn : x ≠ "__name__" := by decide) (hg : env.globals = mainGlobals := by rfl) (hb : env.builtins = builtinsNs := by rfl) (hk : env.scope.kind = .function := by rfl)
    (hx : env.kindOf x = some .globalImplicit := by rfl) (hdb : (x == ("__debug__" : Str)) = false := by decide) :
    Ex1 g A env (.Raise (some (.Call (.Name x np) [.Constant (.str msg) k cp] [] cpos)) none pos) vars cs P (rxN g A T PX) := by
  intro c s Q E S R hE q ee
  refine Raise_new hh (Call_Name1 (Name_function_global hk hx (loadGlobal_builtin (env := env) (by rw [hg]; exact R.top.g.keeps R.F.keep) (mg_none_of R.X R.top.g en) (by rw [hb]; exact R.top.b.keeps R.F.keep) ((R.top.builtins x hn).trans hv) ?_) hdb))
  refine callWith_type1 (e := .Constant (.str msg) k cp) (rest := []) (env := env) (spliced_more (wpAny_mkText (spliced_none ?_)))
  refine call_exc_raise (s := { s with toks := s.toks + 1 }) hc fun h' e hx => ?_
  exact ee _ c cs h' _ (.refl _) ⟨e, _, rfl, R, hx, px⟩

/-- a def of the top that may raise -/
theorem CalX.fn {name qual : Str} {params : Arguments} {body : List Stmt} {scope : Scope} {dV kV doc pm cdv ct oc : Value} {an od : Option Addr} {osl : Array (Option Value)} {f : Addr} {ts : List T} {bs : List (Str × T)} {n : Nat} {P : T → Cs → Prop} {X : String} {PX : Cs → Prop}
    (hr : Room A (n + 1)) (ho : (kk g.w.params).lookup f = some ⟨oc, od, .func (fnOf name qual params body scope dV kV doc pm an cdv ct), osl⟩) (hcd : codeIn (kk g.w.params) cdv qual = true)
    (hb : BindP g A.in1 (fnOf name qual params body scope dV kV doc pm an cdv ct) ts [] cs bs)
    (H : ∀ L A', Room A' n → Ex g A' (envX qual scope L f cdv (cellsFrom (L + 1) scope.names [])) body bs cs (fun fl _ cs' => P (retT fl) cs') (rxN g A' X PX))
    (hkind : (bs.all fun y => scope.names.lookup y.1 == some .local || scope.names.lookup y.1 == some .cell) = true) (hbn : (bs.map (·.1)).Nodup)
    (hnd : ((cellsFrom 0 scope.names []).map (·.1)).Nodup)
    (hco : scope.isCoroutine = false := by rfl) (hgen : scope.isGenerator = false := by rfl) (hk : scope.kind = .function := by rfl) : CalX g A (.raw (.ref f)) ts cs P X PX := by
  intro c s Q E f' vs rf rv R k ke
  cases rf
  refine ⟨⟨.frame, .inl rfl, ?_⟩, wpAny_call ?_⟩
  · exact (Looks.ld (part := none) (R.XIn _ _ ho)).andThen .now
  refine code_fn0 (kvs := []) hr ho hcd hb hkind hbn hnd hco hgen hk R rv .nil fun L E' cc h₂ tk₂ eE eL mz pcG st Sc Rc back fo => ?_
  subst eE
  generalize hE' : envX qual scope L f cdv (cellsFrom (L + 1) scope.names []) = E' at *
  refine (hE' ▸ H L _ (hr.deeper _)) cc _ _ _ Sc Rc PassesOwn.leaving (fun c' fl fw vars' cs' h' tk' l p fr S' R₂ => ?_) fun v c' cs' h' tk' l xx => ?_
  · have RR := (back g c' cs' h' rfl l R₂).1
    have mm : ∀ p ∈ c.fz, p ∈ c'.fz := fun p hp => l.fz p (mz p hp)
    cases fr with
    | next => exact k c'.fz _ _ cs' h' tk' mm p .none RR
    | brk => exact k c'.fz _ _ cs' h' tk' mm p .none RR
    | cont => exact k c'.fz _ _ cs' h' tk' mm p .none RR
    | ret r => exact k c'.fz _ _ cs' h' tk' mm p r RR
  · obtain ⟨e, h₁, rfl, R₁, hx, px⟩ := xx
    obtain ⟨fenv, outer, hA, hf, hke, hFr⟩ := R.below
    have hA' : (A.deeper E').frames = some (E' :: fenv :: outer) := Around.frames_deeper hA
    obtain ⟨hff, hfE⟩ := R₁.funs hA' hx.keeps
    obtain ⟨ob, tp, he, hcls, hd⟩ := hx.there
    have mm : ∀ p ∈ c.fz, p ∈ c'.fz := fun p hp => l.fz p (mz p hp)
    refine wpAny_leaving_firstW (s := { s with heap := h', toks := tk' }) (a0 := tp) hA' hff hfE he (fun b o eb => hx.keeps b o (TI.gone_some eb).2) (TI.none_of (fun b o eb => (TI.gone_some eb).2) hx.new) hd rfl rfl fun h₃ hN => ?_
    obtain ⟨k1, ⟨_, _, k2⟩, k3, k4⟩ := hN
    rw [hcls] at k3
    refine ke c'.fz e cs' h₃ tk' mm px (.fly hA ⟨k1, TI.none_of (fun b o eb => (TI.gone_some eb).2) hx.new, k2, k3⟩ fun h₄ st₄ u₄ => ?_)
    obtain ⟨RR, nL, nP, efr⟩ := back g c' cs' h₁ rfl l R₁
    obtain ⟨oL, eo⟩ := fo
    have ef : c'.frs = (c.L, oL) :: c.frs := efr.trans eo
    have fr' : ∀ b, FrAt (c.with c'.fz) b → FrAt c' b := fun b hb => by
      rcases hb with rfl | ⟨q, hq, rfl⟩
      · exact .inr ⟨(c.L, oL), by rw [ef]; exact .head _, rfl⟩
      · exact .inr ⟨q, by rw [ef]; exact .tail _ hq, rfl⟩
    refine RR.noted (N := fun b => b = c'.L) (fun b hb => ?_) (fun b o nb nf eb => st₄ b o ((TI.gone_get fun hb => ?_).trans eb)) fun b o hb eb => ?_
    · subst hb
      refine ⟨?_, fun p hp => ?_, fun p hp => ?_⟩
      · cases q : c.h₀.get? c'.L with
        | none => rfl
        | some o =>
          have := st _ _ q
          rw [← l.h₀] at this
          exact absurd (Nat.lt_of_lt_of_le (Heap.lt_size this) R₁.F.above) (Nat.lt_irrefl _)
      · rcases List.mem_append.mp hp with hp | hp
        · exact (R₁.N p (List.mem_append_left _ hp)).2.1
        · exact Ne.symm (nP p (List.mem_append_right _ hp))
      · obtain ⟨o, _, n⟩ := R₁.co p hp
        exact (n _ (.head _)).2.1
    · rcases frAt_iff.mp hb with z | ⟨q, hq, z⟩
      · exact nb z
      · rw [ef] at hq
        rcases List.mem_cons.mp hq with rfl | hq
        · exact nf (.inl z.symm)
        · exact nf (.inr ⟨q, hq, z⟩)
    · obtain ⟨sl, z⟩ := k4 b o (hx.keeps _ _ eb) (R₁.frDict (fr' b hb) eb)
      obtain ⟨sl', z'⟩ := u₄ b _ hb z
      exact ⟨sl', z'⟩
/-- a def of the top whose frame catches -/
theorem Cal.fnT {name qual : Str} {params : Arguments} {body : List Stmt} {scope : Scope} {dV kV doc pm cdv ct oc : Value} {an od : Option Addr} {osl : Array (Option Value)} {f : Addr} {ts : List T} {kw bs : List (Str × T)} {n : Nat} {P : T → Cs → Prop}
    (hr : Room A (n + 1)) (ho : (kk g.w.params).lookup f = some ⟨oc, od, .func (fnOf name qual params body scope dV kV doc pm an cdv ct), osl⟩) (hcd : codeIn (kk g.w.params) cdv qual = true)
    (hb : BindP g A.in1 (fnOf name qual params body scope dV kV doc pm an cdv ct) ts kw cs bs)
    (H : ∀ L A' outer, Room A' n → A'.frames = some (envX qual scope L f cdv (cellsFrom (L + 1) scope.names []) :: outer) → Ex g A' (envX qual scope L f cdv (cellsFrom (L + 1) scope.names [])) body bs cs (fun fl _ cs' => P (retT fl) cs') noX)
    (hkind : (bs.all fun y => scope.names.lookup y.1 == some .local || scope.names.lookup y.1 == some .cell) = true) (hbn : (bs.map (·.1)).Nodup)
    (hnd : ((cellsFrom 0 scope.names []).map (·.1)).Nodup) 
    (hco : scope.isCoroutine = false := by rfl) (hgen : scope.isGenerator = false := by rfl) (hk : scope.kind = .function := by rfl) : Cal g A (.raw (.ref f)) ts kw cs P := by
  intro c s Q E f' vs kvs rf rv rk R k
  cases rf
  obtain ⟨fenv, outer, hA, hf, hke, hFr⟩ := R.below
  refine ⟨⟨.frame, .inl rfl, ?_⟩, wpAny_call (code_fn hr ho hcd hb hkind hbn hnd (fun L => H L _ _ (hr.deeper _) (Around.frames_deeper hA)) hco hgen hk R rv rk k)⟩
  exact (Looks.ld (part := none) (R.XIn _ _ ho)).andThen .now
end
end Mine
end

noncomputable section
open PySem PySem.W PyProof.Rows PySem.Calls
set_option Elab.async false
set_option linter.unusedVariables false
set_option maxRecDepth 100000
set_option pp.deepTerms false
set_option pp.deepTerms.threshold 3
set_option tactic.hygienic false
namespace Mine

noncomputable abbrev Rows := List (Addr × List Nat)
noncomputable def rowsC (rs : Rows) : Cs := rs.map fun p => (p.1, C.list (p.2.map lT))
noncomputable def celsT (rs : Rows) : List T := rs.map fun p => T.cel p.1
theorem rowsC_mem {rs : Rows} {p : Addr × List Nat} (h : p ∈ rs) : (p.1, C.list (p.2.map lT)) ∈ rowsC rs := List.mem_map_of_mem (f := fun p : Addr × List Nat => (p.1, C.list (p.2.map lT))) h
theorem CU.mid {a : Addr} {k k' : C} {l2 : Cs} : ∀ l1 : Cs, CU a k k' (l1 ++ (a, k) :: l2) (l1 ++ (a, k') :: l2)
  | [] => .head
  | p :: l1 => .tail (CU.mid l1)
section
variable {g : Gx} {A : Around} {env : Env} {vars : Vars} {cs : Cs} {x : Str} {scope : Scope} {cl : List (Str × Addr)} {P : T → Cs → Prop}
theorem comp_rows {p1 p2 : Pos} (he : ∀ C whole, isTrue (.Name x p1) (compEnvC scope cl C env) whole = (do let v ← whole; standAt p1; holding [v] (truthy v))) (hk : env.scope.kind = .function) (hk2 : scope.kind = .function) : ∀ (todo : Rows) (acc : List T), (∀ p ∈ todo, (p.1, C.list (p.2.map lT)) ∈ cs ∧ p.2.length ≤ 1000) → P (.list (acc ++ celsT (todo.filter fun p => !p.2.isEmpty))) cs →
    (x == ("__debug__" : Str)) = false → (x == ("__classdict__" : Str)) = false →
    CompT g A env x scope cl [] P (.Name x p1) (.Name x p2) (celsT todo) acc cs
  | [], acc, _, h, _, _ => by simpa [celsT, CompT] using h
  | p :: todo, acc, hm, h, hd, hc => by
    intro C
    refine Ts.val (Ev.name (t := .cel p.1) (by simp [List.lookup]) ?_ hk2 hd hc) (he C)
    obtain ⟨h1, h2⟩ := hm p (.head _)
    refine ⟨_, Tu.list (.cel h1) (by rw [sizeLine_eq, List.length_map]; omega), fun hb => ?_, fun hb => ?_⟩
    · refine Ev.name (t := .cel p.1) (by simp [List.lookup]) ?_ hk2 hd hc
      refine comp_rows he hk hk2 todo _ (fun q hq => hm q (.tail _ hq)) ?_ hd hc
      have hb' : (!p.2.isEmpty) = true := by simpa using hb
      simpa [celsT, List.filter_cons, hb'] using h
    · refine comp_rows he hk hk2 todo _ (fun q hq => hm q (.tail _ hq)) ?_ hd hc
      have hb' : (!p.2.isEmpty) = false := by simpa using hb
      simpa [celsT, List.filter_cons, hb'] using h
end

noncomputable def tot (rs : Rows) : Nat := (rs.map fun p => p.2.length).sum
noncomputable def neR (rs : Rows) : Rows := rs.filter fun p => !p.2.isEmpty
noncomputable def updR (x : Nat) (p : Addr × List Nat) : Addr × List Nat := (p.1, if p.2.head? == some x then p.2.drop 1 else p.2)
theorem neR_rows (rs : Rows) : (neR rs).map (·.2) = (rs.map (·.2)).filter fun r => !r.isEmpty := by
  rw [List.filter_map]; rfl
theorem tot_neR (rs : Rows) : tot (neR rs) ≤ tot rs := by
  unfold tot neR
  induction rs with
  | nil => exact Nat.le_refl _
  | cons p rs ih =>
    rw [List.filter_cons]
    split
    · simp only [List.map_cons, List.sum_cons]; omega
    · simp only [List.map_cons, List.sum_cons]; omega
theorem upd_rows (x : Nat) (rs : Rows) : (rs.map (updR x)).map (·.2) = (rs.map (·.2)).map fun r => if r.head? == some x then r.drop 1 else r := by
  rw [List.map_map, List.map_map]; rfl
theorem tot_upd_le (x : Nat) (rs : Rows) : tot (rs.map (updR x)) ≤ tot rs := by
  unfold tot
  induction rs with
  | nil => exact Nat.le_refl _
  | cons p rs ih =>
    simp only [List.map_cons, List.sum_cons]
    have : (updR x p).2.length ≤ p.2.length := by
      unfold updR; dsimp only; split <;> simp
    omega
theorem tot_upd (x : Nat) (rs : Rows) (h : ∃ p ∈ rs, p.2.head? = some x) : tot (rs.map (updR x)) < tot rs := by
  obtain ⟨q, hq, hx⟩ := h
  induction rs with
  | nil => cases hq
  | cons p rs ih =>
    have h1 := tot_upd_le x rs
    have h2 : (updR x p).2.length ≤ p.2.length := by
      unfold updR; dsimp only; split <;> simp
    unfold tot at *
    simp only [List.map_cons, List.sum_cons]
    rcases List.mem_cons.mp hq with rfl | hq
    · have h3 : (updR x q).2.length < q.2.length := by
        unfold updR; dsimp only
        rw [if_pos (by simp [hx])]
        cases e : q.2 with
        | nil => rw [e] at hx; cases hx
        | cons y r => simp
      omega
    · have := ih hq; omega
theorem cand_head (rows : List (List Nat)) (x : Nat) : ∀ todo, c3cand rows todo = some x → ∃ r ∈ todo, r.head? = some x
  | [], h => by cases h
  | [] :: rest, h => by
    obtain ⟨r, hr, e⟩ := cand_head rows x rest h
    exact ⟨r, .tail _ hr, e⟩
  | (y :: r) :: rest, h => by
    rw [c3cand] at h
    split at h
    · obtain ⟨r, hr, e⟩ := cand_head rows x rest h
      exact ⟨r, .tail _ hr, e⟩
    · exact ⟨y :: r, .head _, by simpa using h⟩
theorem c3_succ (n : Nat) (rs : Rows) (res : List Nat) : c3 (n + 1) (rs.map (·.2)) res = if (neR rs).isEmpty then some res else match c3cand ((neR rs).map (·.2)) ((neR rs).map (·.2)) with
      | none => none
      | some x => c3 n (((neR rs).map (updR x)).map (·.2)) (res ++ [x]) := by
  have : ((neR rs).map (·.2)).isEmpty = (neR rs).isEmpty := by cases neR rs <;> rfl
  rw [c3, ← neR_rows]
  rw [this]
  split
  · rfl
  · cases c3cand ((neR rs).map (·.2)) ((neR rs).map (·.2)) with
    | none => rfl
    | some x => dsimp only; rw [upd_rows]
section
variable {g : Gx} {A : Around} {env : Env}
theorem WhP.ind {test : Expr} {body orelse : List Stmt} {P : Fl → Vars → Cs → Prop} {X : XP} (I : Nat → Vars → Cs → Prop)
    (step : ∀ n vars cs, I (n + 1) vars cs → Ts g A env vars test cs fun b cs' => (b = true → Ex g A env body vars cs' (Lp (I n) P) X) ∧ (b = false → Ex g A env orelse vars cs' P X)) (zero : ∀ vars cs, ¬ I 0 vars cs) : ∀ n vars cs, I n vars cs → WhP g A env test body orelse P X n vars cs
  | 0, vars, cs, h => (zero vars cs h).elim
  | n + 1, vars, cs, h => fun c s Q E V R k => step n vars cs h c s Q E V R fun fz' b cs' h' tk' m p R' => k fz' b cs' h' tk' m ⟨fun hb => (p.1 hb).mono fun fl v c hp => by
      cases fl with
      | next => exact WhP.ind I step zero n v c hp
      | cont => exact WhP.ind I step zero n v c hp
      | brk => exact hp
      | ret r => exact hp, p.2⟩ R'
end
section
variable {g : Gx} {A : Around} {cs : Cs}
noncomputable def candT : Option Nat → T
  | some x => lT x
  | none => .none
noncomputable def okR (rs : Rows) : Prop := ∀ p ∈ rs, p.2.length ≤ 100 ∧ ∀ x ∈ p.2, x < 5
theorem okR.ne {rs : Rows} (h : okR rs) : okR (neR rs) := fun p hp => h p (List.mem_filter.mp hp).1
theorem okR.upd {rs : Rows} (h : okR rs) (x : Nat) : okR (rs.map (updR x)) := fun p hp => by
  obtain ⟨q, hq, rfl⟩ := List.mem_map.mp hp
  have := h q hq
  unfold updR; dsimp only
  split
  · exact ⟨by simp; omega, fun y hy => this.2 y (List.mem_of_mem_drop hy)⟩
  · exact this
theorem rowsC_app (a b : Rows) : rowsC (a ++ b) = rowsC a ++ rowsC b := by simp [rowsC]
theorem rowsC_ne_sub (rs : Rows) : (rowsC (neR rs)).Sublist (rowsC rs) := List.Sublist.map _ List.filter_sublist
inductive C3A (a : Addr) (cs : Cs) (P : T → Cs → Prop) (PX : Cs → Prop) (m : Nat) (vars : Vars) (c : Cs) : Prop
  | mk  (rs : Rows) (res : List Nat) (f1 : c = (a, .list (res.map lT)) :: (rowsC rs ++ cs)) (f2 : okR rs) (f3 : rs.length ≤ 100) (f4 : tot rs < m) (f5 : res.length + m ≤ 500) (f6 : (∀ l, c3 m (rs.map (·.2)) res = some l → P (lTs l) cs)) (f7 : (c3 m (rs.map (·.2)) res = none → PX cs)) (f8 : Has [("result", .cel a), ("sequences", .list (celsT rs))] vars)
inductive C3B (a : Addr) (res : List Nat) (rn : Rows) (cs : Cs) (cd : Option Nat) (fl : Fl) (v : Vars) (c : Cs) : Prop
  | mk (f1 : fl = .next) (f2 : c = (a, .list (res.map lT)) :: (rowsC rn ++ cs)) (f3 : Has [("candidate", candT cd), ("result", .cel a), ("sequences", .list (celsT rn))] v)
inductive C3C (a : Addr) (res : List Nat) (rn : Rows) (cs : Cs) (cd : Option Nat) (us : List T) (vars : Vars) (c : Cs) : Prop
  | mk  (todo : Rows) (f1 : us = celsT todo) (f2 : c = (a, .list (res.map lT)) :: (rowsC rn ++ cs)) (f3 : (∀ p ∈ todo, p ∈ rn)) (f4 : c3cand (rn.map (·.2)) (todo.map (·.2)) = cd) (f5 : (todo = rn ∨ vars.lookup ("candidate" : Str) = some .none)) (f6 : Has [("result", .cel a), ("sequences", .list (celsT rn))] vars)
inductive C3D (a : Addr) (res : List Nat) (rn : Rows) (cs : Cs) (x : Nat) (us : List T) (vars : Vars) (c : Cs) : Prop
  | mk  (td : Rows) (f1 : us = celsT td) (f2 : c = (a, .list (res.map lT)) :: (rowsC rn ++ cs)) (f3 : (∀ p ∈ td, p ∈ rn)) (f4 : (td.map (·.2)).any (fun r => (r.drop 1).contains x) = (rn.map (·.2)).any (fun r => (r.drop 1).contains x)) (f5 : Has [("candidate", lT x), ("result", .cel a), ("sequences", .list (celsT rn))] vars)
inductive C3E (a : Addr) (res : List Nat) (rn : Rows) (cs : Cs) (x : Nat) (us : List T) (vars : Vars) (c : Cs) : Prop
  | mk  (pre todo : Rows) (f1 : us = celsT todo) (f2 : rn = pre ++ todo) (f3 : c = (a, .list (res.map lT ++ [lT x])) :: (rowsC (pre.map (updR x) ++ todo) ++ cs)) (f4 : Has [("candidate", lT x), ("result", .cel a), ("sequences", .list (celsT rn))] vars)
theorem c3_spec {P : T → Cs → Prop} {PX : Cs → Prop} {n N : Nat} (hr : Room A (n + 2)) (rs : Rows) (ok : okR rs) (hl : rs.length ≤ 100) (ht : tot rs < N) (hN : N ≤ 500)
    (h1 : ∀ l, c3 N (rs.map (·.2)) [] = some l → P (lTs l) cs) (h2 : c3 N (rs.map (·.2)) [] = none → PX cs) : CalX g A (.raw (.ref 189)) [.list (celsT rs)] (rowsC rs ++ cs) P "RuntimeError" PX := by
  refine CalX.fn (n := n + 1) (bs := [("sequences", .list (celsT rs))]) hr rfl rfl (BindP.pl1 (fun v => ?_)) (fun L A' hr' => ?_) rfl (by simp) (by decide)
  · rfl
  have hh := hr'.1
  refine Ex.cons ?_
  refine Ex1.assignL ?_
  refine Ev.listC ?_
  refine Evs.nil ⟨le_line rfl, fun a => ?_⟩
  refine Ex.cons ?_
  refine Ex1.while_ N ?_
  refine WhP.ind (C3A a cs P PX) ?_ (fun vars c z => by obtain ⟨_, _, _, _, _, z, _⟩ := z; omega) _ _ _ ⟨rs, [], rfl, ok, hl, ht, by simpa using hN, h1, h2, rfl, rfl, trivial⟩
  rintro m vars c ⟨rs, res, rfl, ok, hl, ht, hm, h1, h2, hv⟩
  rw [c3_succ] at h1 h2
  refine Ts.val ?_
  walk_at "ev"
  refine ⟨true, Tu.bool _, fun _ => ?_, fun z => (by cases z)⟩
  refine StT.weaken hv.k ?_
  refine Ex.cons ?_
  refine Ex1.assignT hh (caps := []) ?_ rfl ?_
  · exact .nil
  walk_at "ev"
  refine ⟨_, rfl, by rw [sizeLine_eq]; simp [celsT]; omega, ?_⟩
  refine comp_rows (fun _ _ => rfl) rfl rfl rs [] (fun p hp => ⟨.tail _ (List.mem_append_left _ (rowsC_mem hp)), by have := (ok p hp).1; omega⟩) ?_ (by decide) (by decide)
  refine StT.drop (cs' := (a, .list (res.map lT)) :: (rowsC (neR rs) ++ cs)) (.cons_cons _ (List.Sublist.append (rowsC_ne_sub rs) (.refl _))) ?_
  rw [List.nil_append, show rs.filter (fun p => !p.2.isEmpty) = neR rs from rfl]
  have okn := ok.ne
  have hln : (neR rs).length ≤ 100 := Nat.le_trans (List.length_filter_le _ _) hl
  have htn := tot_neR rs
  have hne : ∀ p ∈ neR rs, p.2 ≠ [] := fun p hp e => by
    have := (List.mem_filter.mp hp).2
    rw [e] at this; cases this
  generalize neR rs = rn at h1 h2 okn hln htn hne
  refine Ex.cons ?_
  refine Ex1.ifs ?_
  refine Ts.not ?_
  refine Ts.val ?_
  walk_at "ev"
  refine ⟨_, Tu.list (.fz _) (by rw [sizeLine_eq]; simp [celsT]; omega), fun hb => ?_, fun hb => ?_⟩
  · have e : rn = [] := by
      cases rn with
      | nil => rfl
      | cons p r => simp [celsT] at hb
    subst e
    refine Ex.cons ?_
    refine Ex1.ret ?_
    refine Ev.freezeL ?_
    walk_at "ev"
    exact ⟨a, _, _, rfl, rfl, h1 _ rfl⟩
  have hrn : rn ≠ [] := fun e => by subst e; simp [celsT] at hb
  have hrn' : rn.isEmpty = false := by cases rn with
    | nil => exact absurd rfl hrn
    | cons p r => rfl
  rw [hrn'] at h1 h2
  simp only [Bool.false_eq_true, if_false] at h1 h2
  refine Ex.nil ?_
  generalize hcd : c3cand (rn.map (·.2)) (rn.map (·.2)) = cd at h1 h2
  refine Ex.cons ?_
  refine StT.mono (P := C3B a res rn cs cd) ?_ ?_
  · refine Ex1.for_ ?_
    walk_at "ev"
    refine ⟨_, _, Itb.list hh, ?_⟩
    refine ForP.inv (C3C a res rn cs cd) ?_ ?_ _ _ _ ⟨rn, rfl, rfl, fun p hp => hp, hcd, .inl rfl, rfl, rfl, trivial⟩
    · rintro u rest vars c ⟨todo, e, rfl, hsub, hc, _, hv⟩
      cases todo with
      | nil => cases e
      | cons p todo =>
      simp only [celsT, List.map_cons, List.cons.injEq] at e
      obtain ⟨rfl, rfl⟩ := e
      have hp := hsub p (.head _)
      obtain ⟨x, r, e⟩ : ∃ x r, p.2 = x :: r := by
        cases e : p.2 with
        | nil => exact absurd e (hne p hp)
        | cons x r => exact ⟨x, r, rfl⟩
      have hx5 : x < 5 := (okn p hp).2 x (by rw [e]; exact .head _)
      refine As.weaken hv.k (As.nameL ?_)
      refine Ex.cons ?_
      refine Ex1.assignL ?_
      repeat walk_at "ev"
      refine Sub.list (.cel (.tail _ (List.mem_append_left _ (rowsC_mem hp)))) (by decide) (by decide) (u := lT x) (by rw [e]; rfl) ?_
      refine Ex.cons ?_
      have hc' : (if (rn.map (·.2)).any (fun r => (r.drop 1).contains x) then c3cand (rn.map (·.2)) (todo.map (·.2)) else some x) = cd := by
        rw [← hc, List.map_cons, e, c3cand]
      refine Ex1.for_ ?_
      walk_at "ev"
      refine ⟨_, _, Itb.list hh, ?_⟩
      refine ForP.inv (C3D a res rn cs x) ?_ ?_ _ _ _ ⟨rn, rfl, rfl, fun p hp => hp, rfl, rfl, rfl, rfl, trivial⟩
      · rintro u rest vars c ⟨td, e', rfl, hsub', hany, hv⟩
        cases td with
        | nil => cases e'
        | cons q td =>
        simp only [celsT, List.map_cons, List.cons.injEq] at e'
        obtain ⟨rfl, rfl⟩ := e'
        have hq := hsub' q (.head _)
        refine As.weaken hv.k (As.nameL ?_)
        refine Ex.cons ?_
        refine Ex1.ifs ?_
        refine Ts.cmp ?_
        repeat walk_at "ev"
        refine ⟨_, some ((1 : Nat) : Int), none, none, .cel (.tail _ (List.mem_append_left _ (rowsC_mem hq))), .int _, .none, .none, by decide, by have := (okn q hq).1; rw [sizeLine_eq, List.length_map]; omega, ?_⟩
        rw [pick_drop, ← List.map_drop]
        refine Op2.in hr' (.fz (lT_ok hx5)) (.fz (lTs_ok (l := q.2.drop 1) fun y hy => (okn q hq).2 y (List.mem_of_mem_drop hy))) fun b hbu => ⟨b, rfl, fun hb => ?_, fun hb => ?_⟩
        · have hm' : x ∈ q.2.drop 1 := lT_mem.mp (hbu.mp hb)
          refine Ex.cons ?_
          refine Ex1.assignL ?_
          walk_at "ev"
          refine Ex.cons ?_
          refine Ex1.brk ?_
          have ha : (rn.map (·.2)).any (fun r => (r.drop 1).contains x) = true := by
            rw [← hany, List.map_cons, List.any_cons, List.contains_iff_mem.mpr hm', Bool.true_or]
          rw [ha, if_pos rfl] at hc'
          refine Ex.nil ⟨todo, rfl, rfl, fun p hp => hsub p (.tail _ hp), hc', .inr rfl, rfl, rfl, trivial⟩
        · have hm' : ¬ x ∈ q.2.drop 1 := fun z => by have := hbu.mpr (lT_mem.mpr z); rw [hb] at this; cases this
          refine Ex.nil ?_
          refine Ex.nil ⟨td, rfl, rfl, fun p hp => hsub' p (.tail _ hp), ?_, rfl, rfl, rfl, trivial⟩
          rw [← hany, List.map_cons, List.any_cons, Bool.eq_false_iff.mpr (fun w => hm' (List.contains_iff_mem.mp w)), Bool.false_or]
      · rintro vars c ⟨td, e', rfl, hsub', hany, hv⟩
        have : td = [] := by cases td with
          | nil => rfl
          | cons x sh => cases e'
        subst this
        simp only [List.map_nil, List.any_nil] at hany
        rw [← hany] at hc'
        simp only [Bool.false_eq_true, if_false] at hc'
        subst hc'
        refine StT.weaken hv.k ?_
        refine Ex.cons ?_
        refine Ex1.brk ?_
        exact ⟨rfl, rfl, rfl, rfl, rfl, trivial⟩
    · rintro vars c ⟨todo, e, rfl, hsub, hc, hor, hv⟩
      have : todo = [] := by cases todo with
        | nil => rfl
        | cons x sh => cases e
      subst this
      have hcn : vars.lookup ("candidate" : Str) = some .none := by
        rcases hor with z | z
        · exact absurd z.symm hrn
        · exact z
      have : cd = none := by rw [← hc]; rfl
      subst this
      exact Ex.nil ⟨rfl, rfl, hcn, hv⟩
  rintro _ vars₂ _ ⟨rfl, rfl, hv₂⟩
  refine StT.weaken hv₂.k ?_
  refine Ex.cons ?_
  refine Ex1.ifs ?_
  refine Ts.cmp ?_
  walk_at "ev"
  walk_at "ev"
  cases cd with
  | none =>
    refine Op2.isNone ⟨_, rfl, fun _ => ?_, fun z => (by cases z)⟩
    refine StT.drop (cs' := cs) (.cons _ (List.sublist_append_right _ _)) ?_
    refine Ex.cons ?_
    exact Ex1.raise1 hh excClass_RuntimeError (h2 rfl) (ns_RuntimeError _) PyProof.Rows.Boot.RuntimeError
  | some x =>
    refine Op2.isNone ⟨_, rfl, fun z => (by cases z), fun _ => ?_⟩
    refine Ex.nil ?_
    have hx := cand_head _ _ _ hcd
    have hx5 : x < 5 := by
      obtain ⟨r, hr, e⟩ := hx
      obtain ⟨p, hp, rfl⟩ := List.mem_map.mp hr
      exact (okn p hp).2 x (List.mem_of_mem_head? (by rw [e]; rfl))
    refine Ex.cons ?_
    refine Ex1.expr ?_
    refine Ev.meth ?_
    walk_at "ev"
    refine ⟨_, _, GM.append (.cel (.head _)), ?_⟩
    repeat walk_at "ev"
    refine Cal.append .head (by rw [sizeLine_eq, List.length_map]; omega) ?_
    refine Ex.cons ?_
    refine Ex1.for_ ?_
    walk_at "ev"
    refine ⟨_, _, Itb.list hh, ?_⟩
    refine ForP.inv (C3E a res rn cs x) ?_ ?_ _ _ _ ⟨[], rn, rfl, rfl, rfl, rfl, rfl, rfl, trivial⟩
    · rintro u rest vars c ⟨pre, todo, e, rfl, rfl, hv⟩
      cases todo with
      | nil => cases e
      | cons p todo =>
      simp only [celsT, List.map_cons, List.cons.injEq] at e
      obtain ⟨rfl, rfl⟩ := e
      have hp : p ∈ pre ++ p :: todo := List.mem_append_right _ (.head _)
      obtain ⟨y, r, ey⟩ : ∃ x r, p.2 = x :: r := by
        cases e : p.2 with
        | nil => exact absurd e (hne p hp)
        | cons x r => exact ⟨x, r, rfl⟩
      have hy5 : y < 5 := (okn p hp).2 y (by rw [ey]; exact .head _)
      have hmem : (p.1, C.list (p.2.map lT)) ∈ (a, C.list (res.map lT ++ [lT x])) :: (rowsC (pre.map (updR x) ++ p :: todo) ++ cs) := .tail _ (List.mem_append_left _ (rowsC_mem (List.mem_append_right _ (.head _))))
      refine As.weaken hv.k (As.nameL ?_)
      refine Ex.cons ?_
      refine Ex1.ifs ?_
      refine Ts.cmp ?_
      repeat walk_at "ev"
      refine Sub.list (.cel hmem) (by decide) (by decide) (u := lT y) (by rw [ey]; rfl) ?_
      walk_at "ev"
      have split : pre ++ p :: todo = (pre ++ [p]) ++ todo := by simp
      refine Op2.eq hr' (.fz (lT_ok hy5)) (.fz (lT_ok hx5)) fun b hbu => ⟨b, rfl, fun hb => ?_, fun hb => ?_⟩
      · have he : y = x := lT_inj (hbu.mp hb)
        subst he
        refine Ex.cons ?_
        refine Ex1.delIdx ?_
        walk_at "ev"
        walk_at "ev"
        refine ⟨p.1, p.2.map lT, 0, 0, (a, .list (res.map lT ++ [lT y])) :: (rowsC ((pre ++ [p]).map (updR y) ++ todo) ++ cs), rfl, rfl, by decide +kernel, by rw [ey]; simp [seqIndex?], ?_, by have := (okn p hp).1; rw [sizeLine_eq, List.length_map]; omega, ?_⟩
        · refine .tail ?_
          have e1 : rowsC (pre.map (updR y) ++ p :: todo) ++ cs = rowsC (pre.map (updR y)) ++ (p.1, C.list (p.2.map lT)) :: (rowsC todo ++ cs) := by simp [rowsC]
          have e2 : rowsC ((pre ++ [p]).map (updR y) ++ todo) ++ cs = rowsC (pre.map (updR y)) ++ (p.1, C.list ((p.2.map lT).eraseIdx 0)) :: (rowsC todo ++ cs) := by
            have : updR y p = (p.1, r) := by unfold updR; rw [ey]; simp
            simp [rowsC, this, ey]
          rw [e1, e2]
          exact CU.mid _
        · refine Ex.nil ?_
          refine Ex.nil ⟨pre ++ [p], todo, rfl, split, rfl, rfl, rfl, ?_, trivial⟩
          show some _ = some _
          rfl
      · have he : ¬ y = x := fun z => by have := hbu.mpr (by rw [z]); rw [hb] at this; cases this
        refine Ex.nil ?_
        refine Ex.nil ⟨pre ++ [p], todo, rfl, split, ?_, rfl, rfl, ?_, trivial⟩
        · have : updR x p = p := by unfold updR; rw [ey]; simp [he]; rw [← ey]
          simp [this]
        · show some _ = some _
          rfl
    · rintro vars c ⟨pre, todo, e, rfl, rfl, hv⟩
      have : todo = [] := by cases todo with
        | nil => rfl
        | cons x sh => cases e
      subst this
      rw [List.append_nil] at *
      refine Ex.nil ?_
      refine Ex.nil ⟨pre.map (updR x), res ++ [x], ?_, okn.upd x, by simpa using hln, ?_, ?_, h1, h2, hv.2.1, ?_, trivial⟩
      · rw [List.map_append]; rfl
      · have := tot_upd x pre (by
          obtain ⟨r, hr, e⟩ := hx
          obtain ⟨p, hp, rfl⟩ := List.mem_map.mp hr
          exact ⟨p, hp, e⟩)
        omega
      · simp; omega
      · rw [hv.2.2.1]
        simp [celsT, updR]
end
end Mine
end

noncomputable section
open PySem PySem.W PyProof.Rows PySem.Calls
set_option Elab.async false
set_option linter.unusedVariables false
set_option maxRecDepth 100000
set_option pp.deepTerms false
set_option pp.deepTerms.threshold 3
set_option tactic.hygienic false
namespace Mine

noncomputable def ordT (f : Nat → T) (ord : List Nat) : List (Str × T) := ord.map fun i => (ltr i, f i)
theorem ord_keys (f : Nat → T) (ord : List Nat) : (ordT f ord).map (·.1) = ord.map ltr := by simp [ordT]
theorem ord_nodup {f : Nat → T} {ord : List Nat} (h : ord.Nodup) : ((ordT f ord).map (·.1)).Nodup := by
  rw [ord_keys]
  exact List.pairwise_map.mpr (h.imp fun h e => h (ltr_inj e))
theorem ord_look {f : Nat → T} : ∀ {ord : List Nat} {i : Nat}, i ∈ ord → (ordT f ord).lookup (ltr i) = some (f i)
  | [], _, h => by cases h
  | j :: ord, i, h => by
    by_cases e : i = j
    · subst e; simp [ordT, List.lookup]
    · have e1 : (ltr i == ltr j) = false := by
        have : ¬ ltr i = ltr j := fun z => e (ltr_inj z)
        simpa using this
      have hm : i ∈ ord := (List.mem_cons.mp h).resolve_left e
      have := ord_look (f := f) hm
      simp only [ordT, List.map_cons, List.lookup_cons, e1] at this ⊢
      exact this
theorem ord_put {f : Nat → T} {ord : List Nat} {i : Nat} {t : T} (h : i ∉ ord) : putT (ordT f ord) (ltr i) t = ordT f ord ++ [(ltr i, t)] := by
  unfold putT
  rw [if_neg]
  intro z
  obtain ⟨p, hp, e⟩ := List.any_eq_true.mp z
  obtain ⟨j, hj, rfl⟩ := List.mem_map.mp hp
  have e' : ltr j = ltr i := by simpa using e
  exact h (ltr_inj e' ▸ hj)
theorem CalX.perm {g : Gx} {A : Around} {tf : T} {ts : List T} {cs cs' : Cs} {P : T → Cs → Prop} {X : String} {PX : Cs → Prop} (p : cs'.Perm cs) (H : CalX g A tf ts cs' P X PX) : CalX g A tf ts cs P X PX :=
  fun c s Q E f vs rf rv R k ke => H c s Q E f vs rf rv (R.perm p) k ke
theorem optT_none {o : Option (List Nat)} : optT o = .none ↔ o = none := by
  cases o with
  | none => simp [optT]
  | some l => simp [optT, lTs]
section
variable {g : Gx} {A : Around} {env : Env} {vars : Vars} {cs : Cs} {x : Str} {scope : Scope} {cl : List (Str × Addr)} {P : T → Cs → Prop} {elt : Expr}
/-- [list(row) for row in ..] -/
theorem comp_lists (He : ∀ (C : Addr) (l : List Nat) (cs : Cs) (P : T → Cs → Prop), l.length ≤ 1000 → (∀ a, P (.cel a) ((a, .list (l.map lT)) :: cs)) → Ev g A (compEnvC scope cl C env) [(x, lTs l)] elt cs P) :
    ∀ (todo : List (List Nat)) (rs : Rows), (∀ l ∈ todo, l.length ≤ 1000) → (∀ rs' : Rows, rs'.map (·.2) = rs.map (·.2) ++ todo → P (.list (celsT rs')) (rowsC rs'.reverse ++ cs)) → CompU g A env x scope cl [] P elt (todo.map lTs) (celsT rs) (rowsC rs.reverse ++ cs)
  | [], rs, _, h => by simpa [CompU] using h rs (by simp)
  | l :: todo, rs, hz, h => by
    intro C
    refine He C l _ _ (hz l (.head _)) fun a => ?_
    have := comp_lists He todo (rs ++ [(a, l)]) (fun l hl => hz l (.tail _ hl)) fun rs' e => h rs' (by simpa using e)
    have e1 : celsT (rs ++ [(a, l)]) = celsT rs ++ [.cel a] := by simp [celsT]
    have e2 : rowsC (rs ++ [(a, l)]).reverse ++ cs = (a, Mine.C.list (l.map lT)) :: (rowsC rs.reverse ++ cs) := by simp [rowsC]
    rw [e1, e2] at this
    exact this
end
section
variable {g : Gx} {A : Around} {cs : Cs}
theorem nt_RuntimeError : isSubtype (.type ((Manifest.find? "RuntimeError").elim "type" fun x => x.metatype)) (.type "tuple") = pure false := isSubtype_of_subB (by decide +kernel)
inductive LiA (a : Addr) (ln : Nat → Option (List Nat)) (bas : Nat → List Nat) (ord : List Nat) (cs : Cs) (us : List T) (vars : Vars) (c : Cs) : Prop
  | mk  (pre post : List Nat) (f1 : ord = pre ++ post) (f2 : us = post.map lT) (f3 : c = (a, .dict (ordT (fun i => optT (ln i)) pre)) :: cs) (f4 : Has [("lines", .cel a), ("bases", .dict (tabT (fun i => lTs (bas i)) 5))] vars)
inductive LiB (a : Addr) (ln : Nat → Option (List Nat)) (bas : Nat → List Nat) (pre : List Nat) (i : Nat) (cs : Cs) (fl : Fl) (v : Vars) (c : Cs) : Prop
  | mk (f1 : fl = .next) (f2 : c = (a, .dict (ordT (fun i => optT (ln i)) pre ++ [(ltr i, optT (ln i))])) :: cs) (f3 : Has [("lines", .cel a), ("bases", .dict (tabT (fun i => lTs (bas i)) 5))] v)
theorem lines_spec {P : T → Cs → Prop} {n : Nat} (hr : Room A (n + 4)) (bas : Nat → List Nat) (ln : Nat → Option (List Nat)) (ord : List Nat) (hb : ∀ i < 5, (bas i).length ≤ 2 ∧ ∀ b ∈ bas i, b < i)
    (hln : ∀ i < 5, ln i = lineC3 i (bas i) ((bas i).map ln)) (h5 : ∀ i < 5, ∀ l, ln i = some l → l.length ≤ 5 ∧ ∀ x ∈ l, x < 5)
    (ho5 : ∀ i ∈ ord, i < 5) (hnd : ord.Nodup) (hol : ord.length ≤ 100) (hord : ∀ pre i post, ord = pre ++ i :: post → ∀ b ∈ bas i, b ∈ pre)
    (h : P (.dict (ordT (fun i => optT (ln i)) ord)) cs) : Cal g A (.raw (.ref 331)) [.dict (tabT (fun i => lTs (bas i)) 5), lTs ord] [] cs P := by
  refine Cal.fnT (n := n + 3) (bs := [("bases", .dict (tabT (fun i => lTs (bas i)) 5)), ("order", lTs ord)]) hr rfl rfl (BindP.pl2 (fun v w => ?_)) (fun L A' outer hr' hA => ?_) rfl (by show (["bases", "order"] : List Str).Nodup; decide) (by decide)
  · rfl
  have hh := hr'.1
  refine Ex.cons ?_
  refine Ex1.assignK (Ev.dict0 fun a => ?_)
  refine Ex.cons ?_
  refine Ex1.for_ ?_
  walk_at "ev"
  refine ⟨_, _, Itb.list hh, ?_⟩
  refine ForP.inv (LiA a ln bas ord cs) ?_ ?_ _ _ _ ⟨[], ord, rfl, rfl, rfl, rfl, rfl, trivial⟩
  · rintro u rest vars c ⟨pre, post, eo, e, rfl, hv⟩
    cases post with
    | nil => cases e
    | cons i post =>
    simp only [List.map_cons, List.cons.injEq] at e
    obtain ⟨rfl, rfl⟩ := e
    have hi5 : i < 5 := ho5 i (by rw [eo]; simp)
    have hin : i ∉ pre := fun z => by
      rw [eo, List.nodup_append] at hnd
      exact hnd.2.2 i z i (.head _) rfl
    have hpl : pre.length ≤ 100 := by rw [eo] at hol; simp at hol; omega
    have hpn : pre.Nodup := by rw [eo, List.nodup_append] at hnd; exact hnd.1
    have hbas := hord pre i post eo
    refine As.weaken hv.k (As.nameL ?_)
    refine Ex.cons ?_
    refine Ex1.assignU hh (caps := [("lines", .cel a)]) ?_ rfl ?_
    · exact .cons .nil
    repeat walk_at "ev"
    refine Sub.dict (.fz _) (tab_look _ 5 i hi5) ?_
    refine ⟨_, rfl, le_line (by have := (hb i hi5).1; simp; omega), ?_⟩
    refine CompU.map (fun t => match t with | .str x => optT (ln (x.cps.toList.getD 0 0 - 97)) | t => t) ?_ ?_
    · intro u hu C
      obtain ⟨x, hx, rfl⟩ := List.mem_map.mp hu
      repeat walk_at "ev"
      refine Sub.dict (.cel (.head _)) (ord_look (hbas x hx)) ⟨?_, rfl⟩
      simp
    have emap : List.map (fun t => match t with | .str x => optT (ln (x.cps.toList.getD 0 0 - 97)) | t => t) ((bas i).map lT) = ((bas i).map ln).map optT := by
      rw [List.map_map, List.map_map]
      refine List.map_congr_left fun x _ => ?_
      simp
    rw [List.nil_append, emap]
    have hl5 : ∀ o ∈ (bas i).map ln, ∀ l, o = some l → l.length ≤ 5 ∧ ∀ x ∈ l, x < 5 := fun o ho l e => by
      obtain ⟨b, hbm, rfl⟩ := List.mem_map.mp ho
      exact h5 b (by have := (hb i hi5).2 b hbm; omega) l e
    have hb2 := (hb i hi5).1
    have hrl : ((bas i).map ln).length ≤ 2 := by simpa using hb2
    have lni := hln i hi5
    unfold lineC3 at lni
    generalize hrows : (bas i).map ln = rows at lni hl5 hrl
    refine Ex.cons ?_
    refine Ex1.setItem ?_
    walk_at "ev"
    walk_at "ev"
    walk_at "ev"
    refine ⟨a, _, _, _, rfl, rfl, .head, ord_nodup hpn, by rw [sizeLine_eq]; simp [ordT]; omega, ?_⟩
    rw [ord_put hin]
    have aok : (T.list (rows.map optT)).ok 4 = true := by
      simp only [T.ok, List.all_eq_true]
      intro t ht'
      obtain ⟨o, ho, rfl⟩ := List.mem_map.mp ht'
      cases o with
      | none => rfl
      | some l => exact lTs_ok (hl5 _ ho l rfl).2
    have dn : ((ordT (fun i => optT (ln i)) pre ++ [(ltr i, T.none)]).map (·.1)).Nodup := by
      have := ord_nodup (f := fun i => optT (ln i)) (ord := pre ++ [i]) (by rw [List.nodup_append]; exact ⟨hpn, by simp, fun x hx y hy z => by simp at hy; subst hy; subst z; exact hin hx⟩)
      simpa [ordT] using this
    have dput : ∀ t, putT (ordT (fun i => optT (ln i)) pre ++ [(ltr i, T.none)]) (ltr i) t = ordT (fun i => optT (ln i)) pre ++ [(ltr i, t)] := fun t => by
      rw [← ord_put hin, put_put, ord_put hin]
    refine Ex.cons ?_
    refine StT.mono (P := LiB a ln bas pre i cs) ?_ ?_
    · refine Ex1.ifs ?_
      refine Ts.cmp ?_
      walk_at "ev"
      walk_at "ev"
      refine Op2.notIn hr' (.fz rfl) (.fz aok) fun b hbu => ⟨b, rfl, fun hb' => ?_, fun hb' => ?_⟩
      · have hno : ¬ none ∈ rows := fun z => by
          have := hbu.mpr (List.mem_map.mpr ⟨none, z, rfl⟩)
          rw [hb'] at this; cases this
        have hc : rows.contains none = false := by
          cases q : rows.contains none with
          | false => rfl
          | true => exact absurd (List.contains_iff_mem.mp q) hno
        rw [hc] at lni
        simp only [Bool.false_eq_true, if_false] at lni
        have hsome : rows.map optT = (rows.map (·.getD [])).map lTs := by
          rw [List.map_map]
          refine List.map_congr_left fun o ho => ?_
          cases o with
          | none => exact absurd ho hno
          | some l => rfl
        have hls : ∀ l ∈ rows.map (·.getD []), l.length ≤ 5 ∧ ∀ x ∈ l, x < 5 := fun l hl => by
          obtain ⟨o, ho, rfl⟩ := List.mem_map.mp hl
          cases o with
          | none => exact absurd ho hno
          | some l => exact hl5 _ ho l rfl
        have hlr : (rows.map (·.getD [])).length ≤ 2 := by simpa using hrl
        generalize hls' : rows.map (·.getD []) = ls at hsome hls lni hlr
        rw [hsome]
        refine Ex.cons ?_
        refine Ex1.assignL ?_
        refine Ev.bin ?_
        refine Ev.bin ?_
        refine Ev.list ?_
        refine Evs.cons ?_
        refine Ev.listC ?_
        walk_at "ev"
        walk_at "ev"
        refine Evs.nil ⟨le_line rfl, fun a1 => ?_⟩
        refine Evs.nil ⟨le_line rfl, ?_⟩
        refine Ev.compU hh (caps := []) ?_ ?_
        · exact .nil
        walk_at "ev"
        refine ⟨_, rfl, le_line (by simp; omega), ?_⟩
        refine comp_lists (cs := (a1, C.list [lT i]) :: (a, C.dict (ordT (fun i => optT (ln i)) pre ++ [(ltr i, T.none)])) :: cs) ?_ ls [] (fun l hl => by have := (hls l hl).1; omega) fun rs' ers => ?_
        · intro C l cs P hz hP
          refine Ev.call (Ev.b_list ⟨rfl, rfl, rfl, rfl⟩ ?_)
          repeat walk_at "ev"
          exact Cal.listC (.inl (.fz _)) (by rw [sizeLine_eq, List.length_map]; omega) hP
        simp only [List.map_nil, List.nil_append] at ers
        have hrs : rs'.length = ls.length := by rw [← ers, List.length_map]
        refine Op2.addLL (.fz _) (.fz _) (le_line (by simp [celsT]; omega)) ?_
        refine Ev.list ?_
        refine Evs.cons ?_
        refine Ev.call (Ev.b_list ⟨rfl, rfl, rfl, rfl⟩ ?_)
        repeat walk_at "ev"
        refine Sub.dict (.fz _) (tab_look _ 5 i hi5) ?_
        walk_at "ev"
        refine Cal.listC (.inl (.fz _)) (le_line (by simp; omega)) fun a3 => ?_
        refine Evs.nil ⟨le_line rfl, ?_⟩
        refine Op2.addLL (.fz _) (.fz _) (le_line (by simp [celsT]; omega)) ?_
        refine Ex.cons ?_
        refine Ex1.try_ (T := "RuntimeError") (PX := fun v c => Has [("lines", .cel a), ("letter", lT i), ("bases", .dict (tabT (fun i => lTs (bas i)) 5))] v ∧ c = (a, .dict (ordT (fun i => optT (ln i)) pre ++ [(ltr i, T.none)])) :: cs ∧ ln i = none) hA ?_ ?_ (ns_RuntimeError _) PyProof.Rows.Boot.RuntimeError excClass_RuntimeError.base nt_RuntimeError excClass_RuntimeError.self
        · refine Ex.cons ?_
          refine Ex1.setItemX ?_
          refine EvX.call (Ev.g__c3_merge ⟨rfl, rfl, rfl, rfl⟩ ?_)
          repeat walk_at "ev"
          have eqr : ([T.cel a1] ++ celsT rs' ++ [T.cel a3]) = celsT ([(a1, [i])] ++ rs' ++ [(a3, bas i)]) := by simp [celsT]
          rw [eqr]
          refine CalX.perm (cs' := rowsC ([(a1, [i])] ++ rs' ++ [(a3, bas i)]) ++ ((a, C.dict (ordT (fun i => optT (ln i)) pre ++ [(ltr i, T.none)])) :: cs)) ?_ ?_
          · have : (rowsC ([(a1, [i])] ++ rs' ++ [(a3, bas i)])).Perm (rowsC ([(a3, bas i)] ++ rs'.reverse ++ [(a1, [i])])) := by
              refine List.Perm.map _ ?_
              have := (List.reverse_perm ([(a1, [i])] ++ rs' ++ [(a3, bas i)])).symm
              simpa using this
            refine (this.append_right _).trans ?_
            simp [rowsC]
          have erows : ([(a1, [i])] ++ rs' ++ [(a3, bas i)]).map (·.2) = [[i]] ++ ls ++ [bas i] := by simp [ers]
          refine c3_spec (N := 30) (n := n + 1) hr' _ ?_ (by simp; omega) ?_ (by decide) ?_ ?_
          · intro p hp
            have hp2 : p.2 ∈ [[i]] ++ ls ++ [bas i] := by rw [← erows]; exact List.mem_map_of_mem hp
            simp only [List.mem_append, List.mem_singleton] at hp2
            rcases hp2 with (e | hm) | e
            · rw [e]; exact ⟨by simp, fun x hx => by simp at hx; omega⟩
            · have := hls _ hm; exact ⟨by omega, this.2⟩
            · rw [e]; exact ⟨by omega, fun x hx => by have := (hb i hi5).2 x hx; omega⟩
          · have : tot ([(a1, [i])] ++ rs' ++ [(a3, bas i)]) = (([[i]] ++ ls ++ [bas i]).map List.length).sum := by rw [← erows, List.map_map]; rfl
            rw [this]
            simp only [List.map_append, List.map_cons, List.map_nil, List.sum_append, List.sum_cons, List.sum_nil, List.length_cons, List.length_nil]
            have : (ls.map List.length).sum ≤ 10 := by
              match ls, hlr, hls with
              | [], _, _ => simp
              | [l], _, hls => have := (hls l (.head _)).1; simp; omega
              | [l, m], _, hls => have := (hls l (.head _)).1; have := (hls m (.tail _ (.head _))).1; simp; omega
              | _ :: _ :: _ :: _, hlr, _ => simp at hlr
            omega
          · intro l hl
            rw [erows] at hl
            rw [hl] at lni
            walk_at "ev"
            walk_at "ev"
            refine ⟨a, _, _, _, rfl, rfl, .head, dn, by rw [sizeLine_eq]; simp [ordT]; omega, ?_⟩
            rw [dput]
            refine Ex.nil ?_
            refine Ex.nil ⟨rfl, ?_, rfl, rfl, trivial⟩
            rw [lni]; rfl
          · intro hl
            rw [erows] at hl
            rw [hl] at lni
            exact ⟨⟨rfl, rfl, rfl, trivial⟩, rfl, lni⟩
        · rintro e vars' _ ⟨hv', rfl, hnone⟩
          refine StT.weaken hv'.k ?_
          refine Ex.cons ?_
          refine Ex1.setItem ?_
          walk_at "ev"
          walk_at "ev"
          walk_at "ev"
          refine ⟨a, _, _, _, rfl, rfl, .head, dn, by rw [sizeLine_eq]; simp [ordT]; omega, ?_⟩
          rw [dput]
          refine Ex.nil ?_
          refine Ex.nil ⟨rfl, ?_, rfl, rfl, trivial⟩
          rw [hnone]; rfl
      · have hyes : none ∈ rows := by
          have := hbu.mp hb'
          obtain ⟨o, ho, e⟩ := List.mem_map.mp this
          rw [← optT_none.mp e]; exact ho
        have hc : rows.contains none = true := List.contains_iff_mem.mpr hyes
        rw [hc, if_pos rfl] at lni
        refine Ex.nil ⟨rfl, ?_, rfl, rfl, trivial⟩
        rw [lni]; rfl
    rintro _ vars₂ _ ⟨rfl, rfl, hv₂⟩
    refine Ex.nil ⟨pre ++ [i], post, by simp [eo], rfl, ?_, hv₂⟩
    simp [ordT]
  · rintro vars c ⟨pre, post, eo, e, rfl, hv⟩
    have : post = [] := by cases post with
      | nil => rfl
      | cons x sh => cases e
    subst this
    rw [List.append_nil] at eo
    subst eo
    refine Ex.nil ?_
    refine StT.weaken hv.k ?_
    refine Ex.cons ?_
    refine Ex1.ret ?_
    refine Ev.freezeD ?_
    walk_at "ev"
    exact ⟨a, _, _, rfl, rfl, h⟩
end
end Mine
end

noncomputable section
open PySem PySem.W PyProof.Rows PySem.Calls
set_option Elab.async false
set_option linter.unusedVariables false
set_option maxRecDepth 100000
set_option pp.deepTerms false
set_option pp.deepTerms.threshold 4
namespace Mine
section
variable {prog : Program} {w : World} {A : Around} {E : Value → Shared → Prop} {h : Heap} {g : Array GenState} {d : Drawn} {t : Nat} {os : OsState} {a : Addr} {o : Obj}
theorem li_sga : Slot "list_iterator" "__getattribute__" "object.__getattribute__" := .of (owner := "object") (n := "__getattribute__") (by rw [typeLookup_type, builtinLookup_eq_fast]; kernel_rfl) (by decide +kernel) (by decide +kernel) (by decide +kernel)
    (by first | exact .inl (by decide +kernel) | exact .inr (by decide +kernel)) (by rw [isSubtype_type]; kernel_rfl)
theorem li_entry_ga : entryFor table "object.__getattribute__" = some Builtin.«object.__getattribute__» := entryFor_of_tree (by kernel_rfl)
theorem li_args_ga (a b : Value) : argsOk "object.__getattribute__" ⟨[a, b], []⟩ := by unfold argsOk; kernel_rfl
theorem li_next : Slot "list_iterator" "__next__" "list_iterator.__next__" := .of (owner := "list_iterator") (n := "__next__") (by rw [typeLookup_type, builtinLookup_eq_fast]; kernel_rfl) (by decide +kernel) (by decide +kernel) (by decide +kernel)
    (by first | exact .inl (by decide +kernel) | exact .inr (by decide +kernel)) (by rw [isSubtype_type]; kernel_rfl)
theorem li_type_next : typeOf (.builtin "list_iterator.__next__") = pure (.type "wrapper_descriptor") := by show builtinType _ = _; rw [builtinType_eq_fast]; kernel_rfl
theorem wd_get : Slot "wrapper_descriptor" "__get__" "wrapper_descriptor.__get__" := .of (owner := "wrapper_descriptor") (n := "__get__") (by rw [typeLookup_type, builtinLookup_eq_fast]; kernel_rfl) (by decide +kernel) (by decide +kernel) (by decide +kernel)
    (by first | exact .inl (by decide +kernel) | exact .inr (by decide +kernel)) (by rw [isSubtype_type]; kernel_rfl)
theorem wd_set : typeLookup (.type "wrapper_descriptor") "__set__" = pure none := by rw [typeLookup_type, builtinLookup_eq_fast]; kernel_rfl
theorem wd_del : typeLookup (.type "wrapper_descriptor") "__delete__" = pure none := by rw [typeLookup_type, builtinLookup_eq_fast]; kernel_rfl
theorem wd_entry : entryFor table "wrapper_descriptor.__get__" = some Builtin.«wrapper_descriptor.__get__» := entryFor_of_tree (by kernel_rfl)
theorem wd_args (a b c : Value) : argsOk "wrapper_descriptor.__get__" ⟨[a, b, c], []⟩ := by unfold argsOk; kernel_rfl
theorem li_owner : ".".intercalate ("list_iterator.__next__".cutAt '.').dropLast = "list_iterator" := by first | rfl | decide +kernel
theorem li_sub : isSubtype (.type "list_iterator") (.type (".".intercalate ("list_iterator.__next__".cutAt '.').dropLast)) = pure true := by
  rw [li_owner, isSubtype_type]; kernel_rfl
theorem li_bindW {R : Result → Shared → Prop} (hx : h.get? a = some o) (hc : o.cls = .type "list_iterator") (hq : R (.ok (.ret (.ref h.objs.size))) ⟨h.push { cls := .type "method-wrapper", data := .fields #[.builtin "list_iterator.__next__", .ref a] }, g, d, t, os⟩) :
    codeAny (model prog w) A (.call (.builtin "wrapper_descriptor.__get__") ⟨[.builtin "list_iterator.__next__", .ref a, .type "list_iterator"], []⟩) R ⟨h, g, d, t, os⟩ := by
  have hT : (⟨h, g, d, t, os⟩ : Shared).TypeIs (.ref a) "list_iterator" := ⟨_, hx, hc⟩
  have hT5 : (⟨h, g, d, t, os⟩ : Shared).TypeIs (.builtin "list_iterator.__next__") "wrapper_descriptor" := li_type_next
  have f8 := li_sub
  refine codeAny_call_builtin wd_get.plain wd_entry (wd_get.check _ _ _ _ _ _ _ _ hT5 (wd_args _ _ _) ?_)
  repeat (any_goals (first | assumption | wp_step))
set_option maxHeartbeats 2000000 in
theorem li_by {vs : Array Value} {tk : Tok} {Q : Value → Shared → Prop} (hx : h.get? a = some { cls := .type "list_iterator", data := .fields vs }) (hq : Q (.ref h.objs.size) ⟨h.push { cls := .type "method-wrapper", data := .fields #[.builtin "list_iterator.__next__", .ref a] }, g, d, t, os⟩) :
    wpAny (model prog w) A (getAttrBy (.ref a) (.str "__next__" tk) true true) Q E ⟨h, g, d, t, os⟩ := by
  have hT : (⟨h, g, d, t, os⟩ : Shared).TypeIs (.ref a) "list_iterator" := ⟨_, hx, rfl⟩
  have f2 := li_sga.lookup
  have f3 := li_sga.bind (.ref a)
  repeat (any_goals (first | assumption | wp_step))
  refine codeAny_call_builtin li_sga.plain li_entry_ga (li_sga.check _ _ _ _ _ _ _ _ hT (li_args_ga _ _) ?_)
  have hT5 : (⟨h, g, d, t, os⟩ : Shared).TypeIs (.builtin "list_iterator.__next__") "wrapper_descriptor" := li_type_next
  have f4 := li_next.lookup
  have f5 := li_type_next
  have f6 := wd_get.lookup
  have f7 := wd_set
  have f9 := wd_del
  repeat (any_goals (first | assumption | wp_step))
  refine li_bindW hx rfl ?_
  repeat (any_goals (first | assumption | wp_step))
end
noncomputable abbrev mwO (a : Addr) : Obj := { cls := .type "method-wrapper", data := .fields #[.builtin "list_iterator.__next__", .ref a] }
section
variable {prog : Program} {w : World} {A : Around} {E : Value → Shared → Prop} {s : Shared} {it l mw : Addr} {i : Nat} {items : Array Value} {x : Value}
theorem li_check (a : Value) : checkBoundCall "list_iterator.__next__" ⟨[a], []⟩ = pure () := by first | rfl | kernel_rfl
theorem li_get {vs : Array Value} {Q : Value → Shared → Prop} (hx : s.heap.get? it = some { cls := .type "list_iterator", data := .fields vs }) (hq : Q (.ref s.heap.objs.size) { s with heap := s.heap.push (mwO it), toks := s.toks + 1 }) :
    wpAny (model prog w) A (getAttr (.ref it) "__next__" true) Q E s := by
  obtain ⟨h, g, d, t, os⟩ := s
  unfold getAttr
  exact wpAny_bind (wpAny_mkText (li_by hx hq))
theorem mw_open {R : Result → Shared → Prop} (hm : s.heap.get? mw = some (mwO it)) (h : codeAny (model prog w) A (.builtin "list_iterator.__next__" ⟨[.ref it], []⟩) R s) : codeAny (model prog w) A (.call (.ref mw) ⟨[], []⟩) R s := by
  obtain ⟨hh, g, d, t, os⟩ := s
  refine codeAny_of_tree ?_
  show wpAny _ _ (callAny (.ref mw) _) _ _ _
  dsimp only at hm
  refine nd_load hm ?_
  show wpAny _ _ (do checkBoundCall "list_iterator.__next__" ⟨[.ref it], []⟩; again (.builtin "list_iterator.__next__" ⟨[.ref it], []⟩)) _ _ _
  rw [li_check]
  exact wpAny_bind (wpAny_pure (wpAny_pure ⟨Code.quiet_builtin _ (by decide +kernel), h⟩))
theorem mw_item {Q : Value → Shared → Prop} (hm : s.heap.get? mw = some (mwO it)) (hit : s.heap.IsListIter it l i) (hl : s.heap.IsList l items) (hx : items[i]? = some x)
    (hQ : ∀ h', h'.get? it = some { cls := .type "list_iterator", data := .fields #[.ref l, .int (i + 1 : Nat) 0] } → Heap.SameBut it s.heap h' → Q x { s with heap := h' }) (hpl : s.heap.get? it = some { cls := .type "list_iterator", data := .fields #[.ref l, .int i 0] }) : wpAny (model prog w) A (call (.ref mw) []) Q E s := by
  obtain ⟨o, ho, hc, hd⟩ := id hit
  obtain ⟨ol, hol, _, nl, hdl⟩ := hl
  refine wpAny_call (mw_open hm (codeAny_builtin entry_listiter_next ?_))
  show wpAny _ _ (field (.ref it) 0 >>= _) _ _ s
  refine wpAny_bind (wpAny_field ho hd (x := .ref l) rfl ?_)
  show wpAny _ _ (if (Value.ref l == Value.none) = true then _ else _) _ _ s
  rw [if_neg (show ¬ ((Value.ref l == Value.none) = true) from Bool.false_ne_true)]
  show wpAny _ _ (field (.ref it) 1 >>= _) _ _ s
  refine wpAny_bind (wpAny_field ho hd (x := .int i 0) rfl ?_)
  show wpAny _ _ (seqItems? (.ref l) >>= _) _ _ s
  refine wpAny_bind (wpAny_seqItems hol hdl ?_)
  simp only [Int.toNat_natCast, hx]
  refine wpAny_bind (wpAny_setField ho hd (by simp) (wpAny_pure (hQ _ ?_ (Heap.SameBut.update ..))))
  rw [hpl] at ho
  cases ho
  rw [Heap.get?_update_self _ hpl rfl]
  simp [Obj.mapFields, rawInt]
theorem mw_end {Q : Value → Shared → Prop} (hh : A.handled = none) (hm : s.heap.get? mw = some (mwO it)) (hl : s.heap.IsList l items) (hx : items[i]? = none) (hpl : s.heap.get? it = some { cls := .type "list_iterator", data := .fields #[.ref l, .int i 0] })
    (hQ : ∀ h₁ h' e, h₁.get? it = some { cls := .type "list_iterator", data := .fields #[.none, .int i 0] } → Heap.SameBut it s.heap h₁ → Heap.NewExc h₁ h' e "StopIteration" → E (.ref e) { s with heap := h' }) : wpAny (model prog w) A (call (.ref mw) []) Q E s := by
  have hd : ({ cls := .type "list_iterator", data := .fields #[.ref l, .int i 0] } : Obj).data = .fields #[.ref l, .int i 0] := rfl
  obtain ⟨ol, hol, _, nl, hdl⟩ := hl
  refine wpAny_call (mw_open hm (codeAny_builtin entry_listiter_next ?_))
  show wpAny _ _ (field (.ref it) 0 >>= _) _ _ s
  refine wpAny_bind (wpAny_field hpl hd (x := .ref l) rfl ?_)
  show wpAny _ _ (if (Value.ref l == Value.none) = true then _ else _) _ _ s
  rw [if_neg (show ¬ ((Value.ref l == Value.none) = true) from Bool.false_ne_true)]
  show wpAny _ _ (field (.ref it) 1 >>= _) _ _ s
  refine wpAny_bind (wpAny_field hpl hd (x := .int i 0) rfl ?_)
  show wpAny _ _ (seqItems? (.ref l) >>= _) _ _ s
  refine wpAny_bind (wpAny_seqItems hol hdl ?_)
  simp only [Int.toNat_natCast, hx]
  refine wpAny_bind (wpAny_rule (wpAny_bind (wpAny_setField hpl hd (by simp) ?_)))
  show wpAny _ _ (newExc (.type "StopIteration") [] >>= _) _ _ _
  refine wpAny_bind ?_
  simp only [newExc, newTuple]
  refine wpAny_bind (wpAny_newObj_type ?_ (by size_fits))
  refine wpAny_bind (m := firstArgMember _ _) (wpAny_of_eq (a := Value.none) (by first | rfl | (simp only [firstArgMember]; rfl)) ?_)
  refine wpAny_newObj_type ?_ (by size_fits)
  simp only [raiseNew]
  refine wpAny_bind (wpAny_handled ?_)
  first | rw [show A.in1.handled = none from hh] | rw [show (A.under _).handled = none from hh]
  refine wpAny_bind (wpAny_pure (wpAny_throw ?_))
  refine hQ (s.heap.update it (Obj.mapFields (·.setIfInBounds 0 .none))) _ _ ?_ (Heap.SameBut.update ..) ⟨fun b o hb => Heap.get?_push_of_some _ (Heap.get?_push_of_some _ hb), Heap.get?_none_of_le (by simp), _, _, Heap.get?_push_size _ rfl, rfl, rfl⟩
  rw [Heap.get?_update_self _ hpl rfl]
  simp [Obj.mapFields]
theorem call_iter_list {Q : Value → Shared → Prop} (hl : s.heap.IsList l items) (hQ : Q (.ref s.heap.objs.size) { s with heap := s.heap.push { cls := .type "list_iterator", data := .fields #[.ref l, .int 0 0] } }) : wpAny (model prog w) A (call (.builtin "iter") [.ref l]) Q E s := by
  refine call_function_entry (by decide +kernel) (by decide +kernel) kdk_entry_iter (kdk_args_iter _) ?_
  unfold Builtin.«iter»
  refine wpAny_bind (m := someArgs "iter" 1 2 _) (wpAny_of_eq (a := [Value.ref l]) (by first | rfl | kernel_rfl!) ?_)
  show wpAny _ _ (pyIter (.ref l) >>= _) _ _ _
  refine wpAny_bind (wpAny_pyIter_list hl ?_)
  exact wpAny_pure ⟨_, rfl, hQ⟩
end
end Mine
end

noncomputable section
open PySem PySem.W PyProof.Rows PySem.Calls
set_option Elab.async false
set_option linter.unusedVariables false
set_option maxRecDepth 100000
set_option pp.deepTerms false
set_option pp.deepTerms.threshold 3
namespace Mine

section
variable {g : Gx} {A : Around} {env : Env} {vars : Vars} {cs cs' : Cs} {P : T → Cs → Prop}
/-- iterators of lists -/
theorem Att.iterNext {it : Addr} {src : Option T} {i : Nat} (hm : (it, C.iter src i) ∈ cs) (h : P (.at (mwO it)) cs) : Att g A (.cel it) "__next__" cs P := by
  intro c s Q E v r R k
  cases r
  obtain ⟨o, cr, e⟩ := R.get hm
  cases cr with
  | iter _ hv => exact li_get e (k _ _ _ cs _ _ (fun q hq => .tail _ hq) h (.at (.head _)) (R.pushFz _))
  | ended => exact li_get e (k _ _ _ cs _ _ (fun q hq => .tail _ hq) h (.at (.head _)) (R.pushFz _))
theorem Cal.iter {t : T} {us : List T} (il : IsL cs t us) (h : ∀ a, P (.cel a) ((a, .iter (some t) 0) :: cs)) : Cal g A (.raw (.builtin "iter")) [t] [] cs P := .b fun c s Q E vs rv R k => by
  cases rv with
  | cons r1 rv =>
  cases rv
  obtain ⟨b, vs, n, rfl, ha, ra⟩ := R.isL il r1
  exact call_iter_list ⟨_, ha, rfl, n, rfl⟩ (k c.fz _ _ _ _ s.toks (fun _ h => h) (h _) (.cel _) (R.pushC (.iter 0 r1)))
theorem CalX.next {it : Addr} {t : T} {us : List T} {i : Nat} {PX : Cs → Prop} (hh : A.handled = none) (hm : (it, C.iter (some t) i) ∈ cs) (il : IsL cs t us)
    (h1 : ∀ u, us[i]? = some u → ∃ cs', CU it (.iter (some t) i) (.iter (some t) (i + 1)) cs cs' ∧ P u cs') (h2 : us[i]? = none → ∃ cs', CU it (.iter (some t) i) (.iter none i) cs cs' ∧ PX cs') : CalX g A (.at (mwO it)) [] cs P "StopIteration" PX := by
  intro c s Q E f vs rf rv R k ke
  cases rv
  cases rf with
  | «at» hmw =>
  have hmw' := R.fzGet hmw
  refine ⟨⟨.machine, .inr (.inl rfl), (Looks.ld (part := none) hmw').andThen .now⟩, ?_⟩
  obtain ⟨o, cr, e⟩ := R.get hm
  cases cr with
  | iter _ hv =>
  obtain ⟨b, ws, n, eb, ha, ra⟩ := R.isL il hv
  cases eb
  have hl : s.heap.IsList _ ws.toArray := ⟨_, ha, rfl, n, rfl⟩
  cases hx : us[i]? with
  | some u =>
    obtain ⟨cs', U, p⟩ := h1 u hx
    obtain ⟨v, ev, rv⟩ := ra.get hx
    refine mw_item hmw' ⟨_, e, rfl, rfl⟩ hl (by simpa using ev) (fun h' ho hs => ?_) e
    exact k c.fz u v cs' h' s.toks (fun _ h => h) p rv (R.setC U hs ho (.iter (i + 1) hv))
  | none =>
    obtain ⟨cs', U, p⟩ := h2 hx
    have ev : ws.toArray[i]? = none := by
      have : us.length ≤ i := List.getElem?_eq_none_iff.mp hx
      simp [ra.length]; exact this
    refine mw_end hh hmw' hl ev e fun h₁ h' x ho hs hn => ?_
    exact ke c.fz x cs' h' s.toks (fun _ h => h) p (.new (R.setC U hs ho (.ended i)) hn)

/-- slots -/
theorem vro_get {P : Params} {fz : List (Addr × Obj)} {ts : List (Option T)} {vs : List (Option Value)} : VRo P fz ts vs → ∀ {i : Nat} {t : T}, ts[i]? = some (some t) → ∃ v, vs[i]? = some (some v) ∧ VR P fz t v := by
  intro r
  induction r with
  | nil => intro i t h; cases h
  | none r ih =>
    intro i t h
    cases i with
    | zero => cases h
    | succ i => exact ih (i := i) h
  | some a r ih =>
    intro i t h
    cases i with
    | zero => cases h; exact ⟨_, rfl, a⟩
    | succ i => exact ih (i := i) h
theorem vro_length {P : Params} {fz : List (Addr × Obj)} {ts : List (Option T)} {vs : List (Option Value)} : VRo P fz ts vs → vs.length = ts.length
  | .nil => rfl
  | .none r => by simp [vro_length r]
  | .some _ r => by simp [vro_length r]
theorem vro_pad {P : Params} {fz : List (Addr × Obj)} {ts : List (Option T)} {vs : List (Option Value)} (h : VRo P fz ts vs) : ∀ n : Nat, VRo P fz (ts ++ List.replicate n none) (vs ++ List.replicate n none) := fun n => by
  induction h with
  | nil =>
    induction n with
    | zero => exact .nil
    | succ n ih => exact .none ih
  | none r ih => exact .none ih
  | some a r ih => exact .some a ih
theorem vro_set {P : Params} {fz : List (Addr × Obj)} {t : T} {v : Value} (hv : VR P fz t v) {ts : List (Option T)} {vs : List (Option Value)} (h : VRo P fz ts vs) : ∀ i : Nat, VRo P fz (ts.set i (some t)) (vs.set i (some v)) := by
  induction h with
  | nil => intro i; exact .nil
  | none r ih => intro i; cases i with
    | zero => exact .some hv r
    | succ i => exact .none (ih i)
  | some a r ih => intro i; cases i with
    | zero => exact .some hv r
    | succ i => exact .some a (ih i)
noncomputable def setN (ts : List (Option T)) (i : Nat) (t : T) : List (Option T) := (ts ++ List.replicate (i + 1 - ts.length) none).set i (some t)
structure SlotF (P : Params) (K : Addr) (name : Str) (p i : Nat) : Prop where
  hg : plainGet (kk P) K name = true
  hc : isClsIn (kk P) K = true
  ha : findIn (kk P) (.ref K) name = some (some (.ref p))
  hn : specialIn (kk P) (.ref p) "__get__" = some (some (.builtin "member_descriptor.__get__"))
  ht : takesIn (kk P) (.ref p) = some true
  hp : slotIn (kk P) p K = some i
  hs : findIn (kk P) (.ref K) "__setattr__" = some (some (.builtin "object.__setattr__"))
  ho : plainOver (kk P) K = true
  hk : takerIn (kk P) K name = some (some (.ref p))
  hT : typeIn (kk P) (.ref p) = some (.type "member_descriptor")
  hz : i < 1000
theorem Att.slot {x K p i : Nat} {name : Str} {ts : List (Option T)} {u : T} (F : SlotF g.w.params K name p i) (hm : (x, C.node K ts) ∈ cs) (hu : ts[i]? = some (some u)) (hpl : u.plainV = true) (h : P u cs) : Att g A (.cel x) name cs P := by
  intro c s Q E v r R k
  cases r
  obtain ⟨o, cr, e⟩ := R.get hm
  cases cr with
  | node rs hdd =>
  rename_i d es n vs
  obtain ⟨w, ew, rw⟩ := vro_get rs hu
  exact get_slot R.F R.X ⟨e, rfl, rfl, R.fzGet hdd⟩ F.hg F.hc F.ha F.hn F.ht F.hp (by show (vs.toArray[i]?).join = _; simp [ew]) (rw.handed hpl) (k c.fz u w cs s.heap _ (fun _ h => h) h rw R)
theorem SetA.slot {x K p i : Nat} {name : Str} {ts : List (Option T)} {t : T} {P : Cs → Prop} (F : SlotF g.w.params K name p i) (U : CU x (.node K ts) (.node K (setN ts i t)) cs cs') (h : P cs') : SetA g A (.cel x) t name cs P := by
  intro c s Q E ov v r1 r2 R k
  cases r1
  obtain ⟨o2, cr, e2⟩ := R.get U.mem
  cases cr with
  | node rs hdd =>
  rename_i d es n vs
  obtain ⟨co, B, N⟩ := R.book
  have rs' : VRo g.P c.fz (setN ts i t) ((vs ++ List.replicate (i + 1 - ts.length) none).set i (some v)) := vro_set r2 (vro_pad rs _) i
  obtain ⟨o, co', m1, cr1, Up, B'⟩ := B.upd (o' := { cls := .ref K, dict := some d, data := .plain, slots := ((vs ++ List.replicate (i + 1 - ts.length) none).set i (some v)).toArray }) N U (.node rs' hdd)
  have eo : o = { cls := .ref K, dict := some d, data := .plain, slots := vs.toArray } := by
    have := (N _ (List.mem_append_right _ m1)).1
    rw [e2] at this
    exact (Option.some.inj this).symm
  subst eo
  refine set_slot R.F R.X N ⟨e2, rfl, rfl, R.fzGet hdd⟩ F.hs F.ho F.hk F.hT F.hp F.hz ?_ rfl Up fun h' F' N' => k cs' h' _ h (B'.rf F' N')
  have hl := vro_length rs
  have q : ∀ k, (vs.toArray ++ Array.replicate k none).setIfInBounds i (some v) = ((vs ++ List.replicate k none).set i (some v)).toArray := fun k => by apply Array.ext'; simp
  rw [← hl, ← q, List.size_toArray]
/-- a new thing with slots -/
theorem Cal.mkN {C fI : Addr} {ts : List T} {kw : List (Str × T)} {n : Nat} (hr : Room A (n + 1)) (H : ∀ A', Room A' n → ∀ x, CalC g A' (.ref fI) (.cel x :: ts) kw ((x, .node C []) :: cs) fun t cs' => t = .none ∧ P (.cel x) cs')
    (hm : makesIn (kk g.w.params) C = true) (hi : findIn (kk g.w.params) (.ref C) "__init__" = some (some (.ref fI))) (hf : isFn (kk g.w.params) (.ref fI) = true) (hk : keepIn (kk g.w.params) (.ref C) = true) : Cal g A (.raw (.ref C)) ts kw cs P := by
  intro c s Q E f vs kvs rf rv rk R k
  cases rf
  refine ⟨.K R hk, ?_⟩
  obtain ⟨hh, sg, sd, st, so⟩ := s
  have X := R.XIn
  refine wpAny_call (make_core (makes_of X hm) (looks_findIn X hi) (fun self => bind_fn X self (beq_iff_eq.mp hf)) (.inl rfl) ?_)
  have R0 := R.pushFz (emptyDict)
  have R1 := R0.pushC (k := .node C []) (o := instObj C hh.objs.size) (.node (vs := []) (es := []) (n := 0) .nil (.head _))
  rw [Heap.size_push] at R1
  have m0 : ∀ p ∈ c.fz, p ∈ (hh.objs.size, emptyDict) :: c.fz := fun p hp => .tail _ hp
  refine H _ hr.under _ (c.with ((hh.objs.size, emptyDict) :: c.fz)) ⟨_, sg, sd, st, so⟩ _ (.ref (hh.objs.size + 1) :: vs) kvs (.cons (.cel _) (rv.mono m0)) (rk.mono m0) (R1.around rfl) fun fz' r v cs' h'' tk' m p rr R2 => ?_
  obtain ⟨rfl, p⟩ := p
  cases rr
  exact ⟨rfl, k fz' _ _ cs' h'' tk' (fun q hq => m q (m0 q hq)) p (.cel _) (R2.around rfl)⟩

/-- if (x := value) is None -/
theorem Ex1.ifNamed {x : Str} {value : Expr} {k : Nat} {np npos kp cpos pos : Pos} {body orelse : List Stmt} {P : Fl → Vars → Cs → Prop} {X : XP} (hx : env.kindOf x = some .local) (H : Ev g A env vars value cs fun t cs' => (t.isNone = true → Ex g A env body ((x, t) :: vars) cs' P X) ∧ (t.isNone = false → Ex g A env orelse ((x, t) :: vars) cs' P X))
    (hm : behindInMarks .Is (.Constant .none k kp) = false := by with_unfolding_all rfl) : Ex1 g A env (.If (.Compare (.NamedExpr (.Name x np) value npos) [.Is] [.Constant .none k kp] cpos) body orelse pos) vars cs P X := by
  intro c s Q E S R hE q e
  refine wpAny_If (wpAny_isTrue_Compare1 (wpAny_NamedExpr (H.use S.ok R fun fz' t v cs' h' tk' m p r R' => ?_)) hm)
  refine As.name (P := fun vs c => vs = (x, t) :: vars ∧ c = cs') (.inl hx) ⟨rfl, rfl⟩ (c.with fz') _ v _ _ (S.mono m) R' r fun c₁ vars₁ cs₁ h₁ tk₁ l₁ e₁ S₁ R₁ => ?_
  obtain ⟨rfl, rfl⟩ := e₁
  refine wpAny_pure ?_
  have fin : ∀ b, b = t.isNone → wpAny g.M A (truthy (.bool b)) (fun b s₂ => if b = true then wpAny g.M A (execs body env) Q E s₂ else wpAny g.M A (execs orelse env) Q E s₂) E { s with heap := h₁, toks := tk₁ } := fun b hb => by
    refine wpAny_truthy_bool ?_
    cases b with
    | true => exact (p.1 hb.symm) c₁ _ Q E S₁ R₁ hE (fun c'' fl f vars'' cs'' h'' tk'' l' => q c'' fl f vars'' cs'' h'' tk'' ((Le.with m).trans (l₁.trans l'))) fun e' c'' cs'' h'' tk'' l' => e e' c'' cs'' h'' tk'' ((Le.with m).trans (l₁.trans l'))
    | false => exact (p.2 hb.symm) c₁ _ Q E S₁ R₁ hE (fun c'' fl f vars'' cs'' h'' tk'' l' => q c'' fl f vars'' cs'' h'' tk'' ((Le.with m).trans (l₁.trans l'))) fun e' c'' cs'' h'' tk'' l' => e e' c'' cs'' h'' tk'' ((Le.with m).trans (l₁.trans l'))
  cases eb : t.isNone with
  | true =>
    rw [r.none' eb]
    exact wpAny_is_self (by rfl) (fin true eb.symm)
  | false => exact is_none_ne (r.notNone eb) (fin false eb.symm)
theorem as_sub {M : Model} {A : Around} {E : Value → Shared → Prop} {s : Shared} {env : Env} {o i : Expr} {pos : Pos} {v : Value} {Q : Unit → Shared → Prop} (h : wpAny M A (eval o env) (fun ov s₁ => wpAny M A (eval i env) (fun iv s₂ => wpAny M A (setItem ov iv v) Q E s₂) E s₁) E s) : wpAny M A (assign (.Subscript o i pos) env v) Q E s := by
  rw [assign_Subscript]
  exact wpAny_bind (wpAny_holding (wpAny_mono h (fun ov s₁ h₁ => wpAny_bind (wpAny_holding (wpAny_mono h₁ (fun iv s₂ h₂ => wpAny_bind (wpAny_standAt (wpAny_bind (wpAny_holding (wpAny_mono h₂ (fun _ _ z => wpAny_release z) fun _ _ z => z))))) fun _ _ z => z))) fun _ _ z => z))
/-- o[i] = x = value -/
theorem Ex1.setItemName {o i value : Expr} {x : Str} {pos' np pos : Pos} {P : Fl → Vars → Cs → Prop} {X : XP} (hx : env.kindOf x = some .local) (H : Ev g A env vars value cs fun t cs₁ => Ev g A env vars o cs₁ fun to cs₂ => Ev g A env vars i cs₂ fun ti cs₃ => ∃ a y ds cs₄, to = .cel a ∧ ti = .str y ∧ CU a (.dict ds) (.dict (putT ds y t)) cs₃ cs₄ ∧ (ds.map (·.1)).Nodup ∧ ds.length ≤ sizeLine ∧ P .next ((x, t) :: vars) cs₄) : Ex1 g A env (.Assign [.Subscript o i pos', .Name x np] value pos) vars cs P X := by
  intro c s Q E S R hE q ee
  rw [arm_exec_Assign]
  refine wpAny_bind (wpAny_standAt (wpAny_bind (wpAny_pure ?_)))
  rw [if_neg (by decide)]
  refine wpAny_bind (H.use S.ok R fun fz₁ t v cs₁ h₁ tk₁ m₁ H₁ r₁ R₁ => wpAny_bind (wpAny_of_eq (a := none) (by cases value <;> rfl) ?_))
  show wpAny _ _ (do assignAll v [PySem.assign (Expr.Subscript o i pos') env, PySem.assign (Expr.Name x np) env]; pure Flow.next) _ _ _
  refine wpAny_bind (wpAny_bind (wpAny_holding ?_))
  refine as_sub (H₁.use (S.ok.mono m₁) R₁ fun fz₂ to ov cs₂ h₂ tk₂ m₂ H₂ r₂ R₂ => H₂.use ((S.ok.mono m₁).le m₂) R₂ fun fz₃ ti iv cs₃ h₃ tk₃ m₃ H₃ r₃ R₃ => ?_)
  obtain ⟨a, y, ds, cs₄, rfl, rfl, U, hn, hz, p⟩ := H₃
  cases r₂; cases r₃
  obtain ⟨kvs, lo, rk, hd⟩ := R₃.dictC U.mem hn
  have hlen : kvs.length = ds.length := by have := congrArg List.length rk.keys; simpa using this
  have m : ∀ p ∈ c.fz, p ∈ fz₃ := fun p hp => m₃ p (m₂ p (m₁ p hp))
  refine wpAny_setItem_pairs (strKind_is prg g.w y _) (s := { s with heap := h₃, toks := tk₃ }) hd (fun h' hd' hs' => ?_) (by rw [hlen]; exact hz)
  have R₄ := R₃.setD U hs' lo (rk.put ((r₁.mono m₂).mono m₃)) hd'
  refine As.name (P := fun vs c => vs = (x, t) :: vars ∧ c = cs₄) (.inl hx) ⟨rfl, rfl⟩ (c.with fz₃) _ v _ _ (S.mono m) R₄ ((r₁.mono m₂).mono m₃) fun c₁ vars₁ cs₁ h₁ tk₁ l₁ e₁ S₁ R₁ => ?_
  obtain ⟨rfl, rfl⟩ := e₁
  exact wpAny_pure (q c₁ .next .next _ _ h₁ tk₁ ((Le.with m).trans l₁) p .next S₁ R₁)
/-- o.attr op= value, ints -/
theorem Ex1.augAttr {o value : Expr} {nm : Str} {op : Operator} {tpos pos : Pos} {P : Fl → Vars → Cs → Prop} {X : XP} (H : Ev g A env vars o cs fun to cs₁ => Att g A to nm cs₁ fun told cs₂ => Ev g A env vars value cs₂ fun tv cs₃ => Op2 g A (inplaceOp op) told tv cs₃ fun t cs₄ => SetA g A to t nm cs₄ fun cs₅ => P .next vars cs₅) : Ex1 g A env (.AugAssign (.Attribute o nm tpos) op value pos) vars cs P X := by
  intro c s Q E S R hE q ee
  refine wpAny_AugAssign_AttributeAny (H.use S.ok R fun fz₁ to ov cs₁ h₁ tk₁ m₁ H₁ r₁ R₁ => H₁ (c.with fz₁) _ _ E ov r₁ R₁ fun fz₂ told old cs₂ h₂ tk₂ m₂ H₂ r₂ R₂ => H₂.use ((S.ok.mono m₁).le m₂) R₂ fun fz₃ tv v cs₃ h₃ tk₃ m₃ H₃ r₃ R₃ => H₃.use (r₂.mono m₃) r₃ R₃ fun fz₄ t new cs₄ h₄ tk₄ m₄ H₄ r₄ R₄ => ?_)
  have m : ∀ p ∈ c.fz, p ∈ fz₄ := fun p hp => m₄ p (m₃ p (m₂ p (m₁ p hp)))
  exact H₄ (c.with fz₄) { s with heap := h₄, toks := tk₄ } _ E ov new (((r₁.mono m₂).mono m₃).mono m₄) r₄ R₄ fun cs₅ h₅ tk₅ p R₅ => q (c.with fz₄) .next .next vars cs₅ h₅ tk₅ (.with m) p .next (S.mono m) R₅
theorem Op2.iaddII {a b : Int} (h : P (.int (a + b)) cs) : Op2 g A (inplaceOp .Add) (.int a) (.int b) cs P := by
  rintro c s Q E _ ⟨v₁, v₂, h₁, h₂, rfl⟩ R k
  cases h₁; cases h₂
  exact wpAny_iadd_int (k c.fz _ _ cs s.heap _ (fun _ h => h) h (.int _ _) R)
theorem Op2.isubII {a b : Int} (h : P (.int (a - b)) cs) : Op2 g A (inplaceOp .Sub) (.int a) (.int b) cs P := by
  rintro c s Q E _ ⟨v₁, v₂, h₁, h₂, rfl⟩ R k
  cases h₁; cases h₂
  exact PySem.P.isub_int (k c.fz _ _ cs s.heap _ (fun _ h => h) h (.int _ _) R)
/-- *rest -/
theorem BindP.star {fd : FuncData} {ts us : List T} {bs : List (Str × T)} {nm : Str} (h : ∀ vs ws : List Value, vs.length = ts.length → ws.length = us.length → bindArgs fd ⟨vs ++ ws, []⟩ = (do let t ← newTuple ws; pure ((bs.map (·.1)).zip vs ++ [(nm, t)]))) (hl : us.length ≤ 1000) (hbl : bs.length = ts.length) (e : bs.map (·.2) = ts) : BindP g A fd (ts ++ us) [] cs (bs ++ [(nm, .tup us)]) := by
  intro c s Q E vs kvs R rv rk k
  cases rk
  have hsp : ∃ v1 v2, vs = v1 ++ v2 ∧ VRs g.P c.fz ts v1 ∧ VRs g.P c.fz us v2 := ⟨vs.take ts.length, vs.drop ts.length, (List.take_append_drop _ _).symm, by simpa using rv.take ts.length, by simpa using rv.drop ts.length⟩
  obtain ⟨v1, v2, rfl, r1, r2⟩ := hsp
  show wpAny _ _ (bindArgs fd ⟨v1 ++ v2, []⟩) _ _ _
  rw [h v1 v2 r1.length r2.length]
  unfold newTuple
  refine wpAny_bind (wpAny_newObj_type (wpAny_pure ?_) (by show v2.toArray.size ≤ sizeLine; rw [List.size_toArray, r2.length, sizeLine_eq]; omega))
  have := k ((s.heap.objs.size, { cls := .type "tuple", data := .seq v2.toArray }) :: c.fz) (v1 ++ [.ref s.heap.objs.size]) _ s.toks (fun q hq => .tail _ hq) (R.pushFz _) (by
    rw [List.map_append, e]
    exact (r1.mono fun q hq => .tail _ hq).append (.cons (.tup (n := 0) (.head _) (r2.mono fun q hq => .tail _ hq)) .nil))
  have ez : ((bs ++ [(nm, T.tup us)]).map (·.1)).zip (v1 ++ [Value.ref s.heap.objs.size]) = (bs.map (·.1)).zip v1 ++ [(nm, .ref s.heap.objs.size)] := by
    rw [List.map_append, List.zip_append (by rw [List.length_map, hbl, r1.length])]
    rfl
  rw [ez] at this
  exact this
theorem Cal.lenT {us : List T} (hsz : us.length ≤ 1000) (h : P (.int us.length) cs) : Cal g A (.raw (.builtin "len")) [.tup us] [] cs P := .b fun c s Q E vs rv R k => by
  cases rv with
  | cons r1 rv =>
  cases rv
  cases r1 with
  | tup hm ra =>
  rename_i b vs n
  have ha := R.fzGet hm
  refine PySem.P.len_tuple (n := n) ha (by simp [ra.length]; omega) ?_
  have := k c.fz (.int us.length) (.int us.length (s.toks + 1)) cs s.heap (s.toks + 1 + 1) (fun _ h => h) h (.int _ _) R
  simpa [ra.length] using this
end
end Mine
end

noncomputable section
open PySem PySem.W PyProof.Rows PySem.Calls
set_option Elab.async false
set_option linter.unusedVariables false
set_option maxRecDepth 100000
set_option pp.deepTerms false
set_option pp.deepTerms.threshold 3
namespace Mine

section
variable {g : Gx} {A : Around} {env : Env} {vars : Vars} {cs cs' : Cs} {P : T → Cs → Prop}
/-- sets of texts -/
theorem setOf_back {w : World} {h : Heap} {a : Addr} {S : Str → Bool} {n : Nat} {fz : List (Addr × Obj)} (hS : h.SetOf (strKind prg w) a S n) : ∃ o, h.get? a = some o ∧ CR w.params fz a (.set S n) o := by
  obtain ⟨o, es, ep, t, ho, hc, hd, he, hs, h1, h2, h3⟩ := hS
  refine ⟨o, ho, .set (fun v q => by rw [hd] at q; cases q) fun w' h' ew e => ⟨o, es, ep, t, e, hc, hd, fun x hx => ?_, hs, h1, h2, h3⟩⟩
  obtain ⟨⟨k, k1, k2⟩, k3⟩ := he x hx
  refine ⟨⟨k, k1, ?_⟩, k3⟩
  rw [k2]
  show PyData.keyHash w.params k = PyData.keyHash w'.params k
  rw [ew]
theorem Cal.set0 (h : ∀ a, P (.cel a) ((a, .set (fun _ => false) 0) :: cs)) : Cal g A (.raw (.type "set")) [] [] cs P := .t fun c s Q E vs rv R k => by
  cases rv
  refine call_set_0 fun led => ?_
  have hS : (s.heap.push { cls := .type "set", dict := none, data := .set #[] 0 (.fresh 0 0 led) }).SetOf (strKind prg g.w) s.heap.objs.size (fun _ => false) 0 :=
    ⟨_, _, _, _, Heap.get?_push_size _ rfl, ⟨rfl, rfl, rfl⟩, rfl, fun e he => by simp at he, fun k => by simp, by decide, by cases led <;> decide, rfl⟩
  obtain ⟨o, ho, cr⟩ := setOf_back (fz := c.fz) hS
  rw [Heap.get?_push_size _ rfl] at ho
  cases ho
  exact k c.fz _ _ _ _ s.toks (fun _ h => h) (h _) (.cel _) (R.pushC cr)
theorem RF.setAt {c : Ctx} {h : Heap} {a : Addr} {S : Str → Bool} {n : Nat} (R : RF g A c cs h) (hm : (a, C.set S n) ∈ cs) : h.SetOf (strKind prg g.w) a S n := by
  obtain ⟨o, cr, e⟩ := R.get hm
  cases cr with
  | set hc hs => exact hs g.w h rfl e
theorem GM.setAdd {a : Addr} {S : Str → Bool} {n : Nat} (hm : (a, C.set S n) ∈ cs) : GM g A (.cel a) "add" cs (.builtin "set.add") [.cel a] := by
  intro c s v pl Q E r R k
  cases r
  exact getMethod_set_add (R.setAt hm) (k [.ref a] s.toks (.cons (.cel a) .nil))
theorem Cal.setAdd {a : Addr} {S : Str → Bool} {n : Nat} {x : Str} (U : CU a (.set S n) (.set (fun y => S y || decide (y = x)) (if S x then n else n + 1)) cs cs') (hz : n < 1000) (h : P .none cs') : Cal g A (.raw (.builtin "set.add")) [.cel a, .str x] [] cs P := .b fun c s Q E vs rv R k => by
  cases rv with
  | cons r1 rv =>
  cases r1
  cases rv with
  | cons r2 rv =>
  cases r2
  cases rv
  refine call_set_add (strKind_is prg g.w x _) rfl (R.setAt U.mem) (by show n + 1 < 4096; omega) fun h' hs hS => ?_
  obtain ⟨o, ho, cr⟩ := setOf_back (fz := c.fz) hS
  exact k c.fz _ _ cs' h' _ (fun _ h => h) h .none (R.setC U hs ho cr)
theorem Op2.inSet {a : Addr} {S : Str → Bool} {n : Nat} {x : Str} (hm : (a, C.set S n) ∈ cs) (h : P (.bool (S x)) cs) : Op2 g A (compareOp .In) (.str x) (.cel a) cs P := by
  rintro c s Q E _ ⟨v₁, v₂, h₁, h₂, rfl⟩ R k
  cases h₁; cases h₂
  exact wpAny_inSet_of (strKind_is prg g.w x _) rfl (R.setAt hm) (k c.fz _ _ cs s.heap _ (fun _ h => h) h (.bool _) R)

/-- another reading of a thing -/
theorem RF.alter {c : Ctx} {h : Heap} {a : Addr} {k k' : C} (R : RF g A c cs h) (U : CU a k k' cs cs') (H : ∀ o, CR g.P c.fz a k o → CR g.P c.fz a k' o) : RF g A c cs' h := by
  obtain ⟨o, cr, e⟩ := R.get U.mem
  exact R.setC U ⟨rfl, fun _ _ => rfl⟩ e (H o cr)
theorem StT.freezeIn {tree : Sem Flow} {P : Fl → Vars → Cs → Prop} {X : XP} {a b : Addr} {k k' kc : C} {t : T} (U : CU b k k' cs cs') (ht : ∀ (Q : Params) fz o, CR Q fz a kc o → VR Q ((a, o) :: fz) t (.ref a))
    (Hc : ∀ (Q : Params) fz o, VR Q fz t (.ref a) → CR Q fz b k o → CR Q fz b k' o) (H : StT g A env tree vars cs' P X) : StT g A env tree vars ((a, kc) :: cs) P X := by
  intro c s Q E S R hE q ee
  obtain ⟨o, cr, R'⟩ := R.freeze
  have m : ∀ p ∈ c.fz, p ∈ (a, o) :: c.fz := fun p hp => .tail _ hp
  have R2 := R'.alter U fun o' => Hc _ _ o' (ht _ _ _ cr)
  exact H (c.with ((a, o) :: c.fz)) s Q E (S.mono m) R2 hE (fun c' fl f vars' cs' h' tk' l => q c' fl f vars' cs' h' tk' ((Le.with m).trans l)) fun e c' cs' h' tk' l => ee e c' cs' h' tk' ((Le.with m).trans l)
theorem Cal.perm {tf : T} {ts : List T} {kw : List (Str × T)} (p : cs'.Perm cs) (H : Cal g A tf ts kw cs' P) : Cal g A tf ts kw cs P := fun c s Q E f vs kvs rf rv rk R k => H c s Q E f vs kvs rf rv rk (R.perm p) k
theorem Cal.post {tf : T} {ts : List T} {kw : List (Str × T)} {P' : T → Cs → Prop} (H : Cal g A tf ts kw cs P') (hk : ∀ t c, P' t c → ∃ c', c'.Perm c ∧ P t c') : Cal g A tf ts kw cs P := fun c s Q E f vs kvs rf rv rk R k => H c s Q E f vs kvs rf rv rk R fun fz' r v cs' h' tk' m p r' R' => by
  obtain ⟨c', pm, p'⟩ := hk _ _ p
  exact k fz' r v c' h' tk' m p' r' (R'.perm pm)
theorem CalC.post {f : Value} {ts : List T} {kw : List (Str × T)} {P' : T → Cs → Prop} (H : CalC g A f ts kw cs P') (hk : ∀ t c, P' t c → ∃ c', c'.Perm c ∧ P t c') : CalC g A f ts kw cs P := fun c s R' vs kvs rv rk R k => H c s R' vs kvs rv rk R fun fz' r v cs' h' tk' m p r' R'' => by
  obtain ⟨c', pm, p'⟩ := hk _ _ p
  exact k fz' r v c' h' tk' m p' r' (R''.perm pm)
theorem StT.post {tree : Sem Flow} {P P' : Fl → Vars → Cs → Prop} {X : XP} (H : StT g A env tree vars cs P' X) (hk : ∀ fl v c, P' fl v c → ∃ c', c'.Perm c ∧ P fl v c') : StT g A env tree vars cs P X := fun c s Q E S R hE q ee => H c s Q E S R hE (fun c' fl f vars' cs' h' tk' l p fr S' R' => by
  obtain ⟨c'', pm, p'⟩ := hk _ _ _ p
  exact q c' fl f vars' c'' h' tk' l p' fr S' (R'.perm pm)) ee
end
open LCg LCt
section
variable {g : Gx} {A : Around} {env : Env} {vars caps : Vars} {x : Str} {scope : Scope} {cl : List (Str × Addr)} {P : T → Cs → Prop} {cs : Cs}
noncomputable def cellP (P : T → Cs → Prop) : T → Cs → Prop := fun t cs => match t with
  | .list acc => ∀ D, P (.cel D) ((D, .list acc) :: cs)
  | _ => False
/-- the new list stands, and may change -/
theorem comp_newC {c : Ctx} {fz : List (Addr × Obj)} {cs : Cs} {co : List (Addr × Obj)} {D : Addr} {ys : List Value} {acc : List T} {h : Heap} {mF : Str → Option Value} (B : Bk g A (c.with fz) cs co) (F : Fr c.h₀ c.L h mF) (N : News c.h₀ c.L h ((D, lst ys) :: (c.with fz).all co)) (off : Off1 D ((c.with fz).all co)) (ra : VRs g.P fz acc ys) :
    RF g A { (c.with fz) with mF := mF } ((D, .list acc) :: cs) h := by
  have o : ∀ q ∈ (c.with fz).all co, q.1 ≠ D := by
    have : ∀ l : List (Addr × Obj), Off1 D l → ∀ q ∈ l, q.1 ≠ D := by
      intro l
      induction l with
      | nil => intro _ q hq; cases hq
      | cons p l ih =>
        intro h q hq
        rcases List.mem_cons.mp hq with rfl | hq
        · exact h.1
        · exact ih h.2 q hq
    exact this _ off
  have oc : ∀ p ∈ cs, p.1 ≠ D := fun p hp => by
    obtain ⟨ob, hm, _⟩ := B.cr p hp
    exact o _ (List.mem_append_right _ hm)
  refine ⟨B.below, F, B.X, B.top, fun p hp => N p (.tail _ (List.mem_append_left _ hp)), fun p hp => ?_, List.nodup_cons.mpr ⟨fun z => ?_, B.nd⟩, fun p hp q hq => ?_, B.ap2, fun p hp => ?_, B.exF, B.exC, fun p hp q hq => ?_, B.ap4⟩
  · rcases List.mem_cons.mp hp with rfl | hp
    · exact ⟨lst ys, .list (vs := ys) ys.length ra, fun q hq => by rw [List.mem_singleton.mp hq]; exact N _ (.head _)⟩
    · obtain ⟨ob, hm, cr⟩ := B.cr p hp
      exact ⟨ob, cr, fun q hq => by rw [List.mem_singleton.mp hq]; exact N _ (.tail _ (List.mem_append_right _ hm))⟩
  · obtain ⟨p, hp, e⟩ := List.mem_map.mp z
    exact oc p hp e
  · rcases List.mem_cons.mp hp with rfl | hp
    · exact fun e => o q (List.mem_append_left _ hq) e.symm
    · exact B.ap p hp q hq
  · obtain ⟨sl, hm⟩ := B.fr p hp
    exact ⟨sl, fun q hq => by rw [List.mem_singleton.mp hq]; exact N _ (.tail _ (List.mem_append_right _ hm))⟩
  · rcases List.mem_cons.mp hp with rfl | hp
    · obtain ⟨sl, hm⟩ := B.fr q hq
      exact fun e => o _ (List.mem_append_right _ hm) e.symm
    · exact B.ap3 p hp q hq
/-- over the values of a frozen dict; the new list may change -/
theorem Ev.compTVC {ct elt o : Expr} {px pos apos cpos : Pos} {pl : Sem Bool} (hh : A.handled = none) (hc : CapsOK env scope cl vars caps)
    (H : Ev g A env vars o cs fun t cs' => ∃ ds, t = .dict ds ∧ (ds.map (·.1)).Nodup ∧ ds.length ≤ sizeLine ∧ CompT g A env x scope cl caps (cellP P) ct elt (ds.map fun p => p.2) [] cs')
    (he : eval (.Call (.Attribute o "values" apos) [] [] cpos) env = (do
      let ov ← eval o env
      standAt apos.atName
      let (f, first) ← holding [ov] (getMethod ov "values" pl)
      callWith cpos f first (backTo cpos (starEach [] env)) []) := by rfl)
    (hclos : closureFor scope env = pure cl := by rfl) (hcell : ∀ y ∈ scope.names, y.2 ≠ .cell := by decide) (hkind : scope.kind = .function := by rfl)
    (hnames : ∀ y ∈ scope.names, y.2 = .local → scope.names.lookup y.1 = some .local := by decide) (hx : scope.names.lookup x = some .local := by rfl) (hs : ∀ x, foldedSetIterable (.Call (.Attribute o "values" apos) [] [] cpos) env x = pure x := by intro _; rfl) :
    Ev g A env vars (.ListComp elt [⟨.Name x px, .Call (.Attribute o "values" apos) [] [] cpos, [ct], 0⟩] scope pos) cs P := by
  rintro c s Q E _ ⟨V, rfl⟩ R k
  rw [eval_ListComp]
  refine wpAny_comprehension_free (use := none) rfl hs hclos hkind hnames (MethodCall_ (H.use V R fun fz₀ t v cs₁ h₀ tk₁ m₀ hu r R₀ => ?_) he)
  obtain ⟨ds, rfl, nd, hsz, hC⟩ := hu
  refine GM.dictValues (.fz ds) (c.with fz₀) _ v pl _ _ r R₀ fun vs0 tk₂ r0 => ?_
  cases r0 with
  | cons r1 r0 =>
  cases r0
  cases r1 with
  | dict lo hm₀ rd₀ =>
  rename_i d es ep
  refine core (evalArgs_nil3 ⟨.builtin, ?_⟩)
  have hd₀ := R₀.fzGet hm₀
  obtain ⟨kvs, rk, pr⟩ := VRd.pairs (w := g.w) (prog := prg) rd₀
  have hlen : kvs.length = ds.length := by have := congrArg List.length rk.keys; simpa using this
  have hat : ∀ h : Heap, h.get? d = some (W.dictOf es ep) → h.DictAt (strKind prg g.w) d kvs ep := fun h e => ⟨_, es.toArray, e, ⟨rfl, rfl, rfl⟩, rfl, rd₀.keysOf, by simpa using pr, by rw [rk.keys]; exact nd⟩
  have hD : h₀.DictOf (strKind prg g.w) d kvs := ⟨_, es.toArray, ep, hd₀, ⟨rfl, rfl, rfl⟩, rfl, rd₀.keysOf, by simpa using pr, by rw [rk.keys]; exact nd⟩
  refine call_meetsIn PySem.F.slot_dict_values (s := { s with heap := h₀, toks := tk₂ }) hD.typeIs PySem.F.entry_dict_values (PySem.F.args_dict_values_1 _) (meets_dict_values (strKind prg g.w) d lo) ⟨⟨kvs, hD⟩, ?_⟩
  have R₁ := R₀.pushFz { cls := .type "dict_values", data := .fields #[.ref d] }
  have hm : (d, W.dictOf es ep) ∈ (h₀.objs.size, ({ cls := .type "dict_values", data := .fields #[.ref d] } : Obj)) :: fz₀ := .tail _ hm₀
  have hvw : ∃ h₁ : Heap, h₁ = h₀.push { cls := .type "dict_values", data := .fields #[.ref d] } := ⟨_, rfl⟩
  obtain ⟨h₁, eh₁⟩ := hvw
  have hview : h₁.IsValuesView h₀.objs.size d := by rw [eh₁]; exact ⟨_, Heap.get?_push_size _ rfl, rfl, rfl⟩
  have m₁ : ∀ p ∈ c.fz, p ∈ (h₀.objs.size, ({ cls := .type "dict_values", data := .fields #[.ref d] } : Obj)) :: fz₀ := fun p hp => .tail _ (m₀ p hp)
  generalize hfz : (h₀.objs.size, ({ cls := .type "dict_values", data := .fields #[.ref d] } : Obj)) :: fz₀ = fz₁ at R₁ hm m₁
  rw [← eh₁] at R₁ ⊢
  replace R₁ : RF g A (c.with fz₁) cs₁ h₁ := R₁
  have hd := R₁.fzGet hm
  have hlt := Heap.lt_size hd
  obtain ⟨co, B, N⟩ := R₁.book
  refine wpAny_pyIter_values (s := { s with heap := h₁, toks := tk₂ }) (knd := strKind prg g.w) hview (hat _ hd) ?_
  dsimp only
  generalize hoI : ({ cls := .type "dict_valueiterator", data := .fields #[.ref d, .int 0 0, .int kvs.length 0, .int ep 0] } : Obj) = oI
  have up : ∀ b o, h₁.get? b = some o → (h₁.push oI).get? b = some o := fun b o e => Heap.get?_push_of_some _ e
  refine block_T (h₀ := c.h₀) (L := c.L) (m := c.mF) (S := fun nw => (d, W.dictOf es ep) ∈ nw) (news := (c.with fz₁).all co) (Fin := fun ys nw => FinE c.h₀ c.L c.mF { s with heap := h₁.push oI, toks := tk₂ } Q ys nw) (s₂ := { s with heap := h₁.push oI, toks := tk₂ })
    (Walks.dictValues (knd := strKind prg g.w) hh h₁.objs.size d (Nat.ne_of_lt hlt) kvs ep) (by rw [hlen]; exact hsz) (fun i h st => by obtain ⟨o, e, _⟩ := st.1; exact ⟨o, e⟩) ?_ hcell hkind hx ?_ ?_
    (R₁.F.keeps up) (N.grown up) (Nat.ne_of_lt R₁.F.ns.lt) (next_is_new R₁.F) (fun p hp => Nat.ne_of_lt (Heap.lt_size (N p hp).1)) (List.mem_append_left _ (List.mem_append_left _ hm)) ?_ ?_
  · intro i h h' o nw st e e' _ N' hS
    obtain ⟨o2, e2, q2, q3⟩ := st.1
    rw [e] at e2; cases e2
    exact ⟨⟨o, e', q2, q3⟩, hat _ (N' _ hS).1⟩
  · exact ⟨⟨oI, Heap.get?_push_size _ (by subst hoI; rfl), by subst hoI; rfl, by subst hoI; rfl⟩, hat _ (up _ _ hd)⟩
  · intro b hb
    show b < (h₁.push oI).objs.size
    rw [Heap.size_push]
    rcases List.mem_cons.mp hb with rfl | hb
    · exact Nat.lt_succ_self _
    · rw [List.mem_singleton.mp hb]; exact Nat.lt_succ_of_lt hlt
  · have e : kvs.length = (ds.map fun p => p.2).length := by rw [hlen, List.length_map]
    rw [e]
    refine comp_restTG (P := cellP P) (Sx := fun nw => (d, W.dictOf es ep) ∈ nw) (c := c.with fz₁) (us := ds.map fun p => p.2) (V.mono m₁) hc hx (fun fz' m' co => List.mem_append_left _ (List.mem_append_left _ (m' _ hm))) (fun i v hi hP => ?_) ?_ (ds.map fun p => p.2).length 0 [] [] fz₁ cs₁ co (fun _ h => h) B .nil (by omega) hC
    rotate_left
    · intro fz cs' co' acc ys m B' ra p D h tk F N' off
      exact k fz _ _ _ h tk (fun q hq => m q (m₁ q hq)) (p D) (.cel D) (comp_newC (c := c.with fz₁) B' F N' off ra)
    obtain ⟨key, e1⟩ := hP
    have hi' : i < ds.length := by simpa using hi
    have : ∀ {ds : List (Str × T)} {kvs : List (Str × Value)}, VRk g.w.params fz₀ ds kvs → ∀ {i : Nat} (hi : i < ds.length) {key : Str} {v : Value}, kvs[i]? = some (key, v) → VR g.w.params fz₀ ds[i].2 v := by
      intro ds kvs h
      induction h with
      | nil => intro i hi; simp at hi
      | cons a r ih =>
        intro i hi key v e
        cases i with
        | zero => simp at e; obtain ⟨rfl, rfl⟩ := e; exact a
        | succ i => simp at e; exact ih (by simpa using hi) e
    rw [List.getElem_map]
    exact (this rk hi' e1).mono fun p hp => by rw [← hfz]; exact .tail _ hp
  · intro D C h tk m' ys news' F' N' o1 hn hC₀ hD₀ hCL hDL hCD offC fin
    refine ⟨m', hn, fun h'' hs'' => fin D h'' tk (F'.change hs'' hCL hC₀) (fun p hp => ?_) o1⟩
    refine ⟨hs''.extBut _ _ ?_ (N' p hp).1, (N' p hp).2⟩
    rcases List.mem_cons.mp hp with rfl | hp
    · exact Ne.symm hCD
    · exact offC p hp
end
end Mine
end

noncomputable section
open PySem PySem.W PyProof.Rows PySem.Calls
set_option Elab.async false
set_option linter.unusedVariables false
set_option maxRecDepth 100000
set_option pp.deepTerms false
set_option pp.deepTerms.threshold 3
set_option tactic.hygienic false
namespace Mine

theorem ts_plain (P : Params) (x : Str) : plainGet (kk P) 305 x = true := by rfl
theorem ts_dict (P : Params) : hasDictIn (kk P) 305 = true := by rfl
theorem ts_seta (P : Params) : findIn (kk P) (.ref 305) "__setattr__" = some (some (.builtin "object.__setattr__")) := by rfl
theorem ts_over (P : Params) : plainOver (kk P) 305 = true := by rfl
theorem ts_n (P : Params) : findIn (kk P) (.ref 305) "_node2info" = some none := by rfl
theorem ts_r (P : Params) : findIn (kk P) (.ref 305) "_ready_nodes" = some none := by rfl
theorem ts_p (P : Params) : findIn (kk P) (.ref 305) "_npassedout" = some none := by rfl
theorem ts_f (P : Params) : findIn (kk P) (.ref 305) "_nfinished" = some none := by rfl
theorem tt_n (P : Params) : takerIn (kk P) 305 "_node2info" = some none := by rfl
theorem tt_r (P : Params) : takerIn (kk P) 305 "_ready_nodes" = some none := by rfl
theorem tt_p (P : Params) : takerIn (kk P) 305 "_npassedout" = some none := by rfl
theorem tt_f (P : Params) : takerIn (kk P) 305 "_nfinished" = some none := by rfl
theorem tm_get (P : Params) : findIn (kk P) (.ref 305) "_get_nodeinfo" = some (some (.ref 248)) := by rfl
theorem tm_add (P : Params) : findIn (kk P) (.ref 305) "add" = some (some (.ref 255)) := by rfl
theorem tm_prep (P : Params) : findIn (kk P) (.ref 305) "prepare" = some (some (.ref 260)) := by rfl
theorem tm_ready (P : Params) : findIn (kk P) (.ref 305) "get_ready" = some (some (.ref 267)) := by rfl
theorem tm_done (P : Params) : findIn (kk P) (.ref 305) "done" = some (some (.ref 288)) := by rfl
theorem tm_cyc (P : Params) : findIn (kk P) (.ref 305) "_find_cycle" = some (some (.ref 295)) := by rfl
theorem fn_248 (P : Params) : isFn (kk P) (.ref 248) = true := by rfl
theorem fn_255 (P : Params) : isFn (kk P) (.ref 255) = true := by rfl
theorem fn_260 (P : Params) : isFn (kk P) (.ref 260) = true := by rfl
theorem fn_267 (P : Params) : isFn (kk P) (.ref 267) = true := by rfl
theorem fn_288 (P : Params) : isFn (kk P) (.ref 288) = true := by rfl
theorem fn_295 (P : Params) : isFn (kk P) (.ref 295) = true := by rfl
theorem sl_node (P : Params) : SlotF P 208 "node" 209 0 := ⟨rfl, rfl, rfl, rfl, rfl, rfl, rfl, rfl, rfl, rfl, by decide⟩
theorem sl_np (P : Params) : SlotF P 208 "npredecessors" 210 1 := ⟨rfl, rfl, rfl, rfl, rfl, rfl, rfl, rfl, rfl, rfl, by decide⟩
theorem sl_su (P : Params) : SlotF P 208 "successors" 211 2 := ⟨rfl, rfl, rfl, rfl, rfl, rfl, rfl, rfl, rfl, rfl, by decide⟩
noncomputable abbrev nodeC (i : Nat) (np : Int) (t : T) : C := .node 208 [some (lT i), some (.int np), some t]
noncomputable abbrev dT (n2i rn : T) (a b : Int) : List (Str × T) := [("_node2info", n2i), ("_ready_nodes", rn), ("_npassedout", .int a), ("_nfinished", .int b)]
section
variable {g : Gx} {A : Around} {env : Env} {vars : Vars} {cs cs' : Cs} {P : T → Cs → Prop}
theorem ninit {n i : Nat} {x : Addr} (hr : Room A (n + 1)) (h : ∀ s, P .none ((s, .list []) :: (x, nodeC i 0 (.cel s)) :: cs)) : CalC g A (.ref 204) [.cel x, lT i] [] ((x, .node 208 []) :: cs) P := by
  refine CalC.fn (n := n) (bs := [("self", .cel x), ("node", lT i)]) hr rfl rfl (BindP.pl2 (fun v w => ?_)) (fun L A' hr' => ?_) rfl (by show (["self", "node"] : List Str).Nodup; decide) (by decide)
  · rfl
  refine Ex.cons ?_
  refine Ex1.setAttr ?_
  walk_at "ev"
  walk_at "ev"
  refine SetA.slot (sl_node _) .head ?_
  refine Ex.cons ?_
  refine Ex1.setAttr ?_
  walk_at "ev"
  walk_at "ev"
  refine SetA.slot (sl_np _) .head ?_
  refine Ex.cons ?_
  refine Ex1.setAttr ?_
  refine Ev.listC ?_
  refine Evs.nil ⟨le_line rfl, fun s => ?_⟩
  walk_at "ev"
  refine SetA.slot (sl_su _) (.tail .head) ?_
  exact Ex.nil (h s)
theorem mk_208 (P : Params) : makesIn (kk P) 208 = true := by rfl
theorem ni_init (P : Params) : findIn (kk P) (.ref 208) "__init__" = some (some (.ref 204)) := by rfl
theorem fn_204 (P : Params) : isFn (kk P) (.ref 204) = true := by rfl
theorem kp_208 (P : Params) : keepIn (kk P) (.ref 208) = true := by rfl
theorem mkNode {n i : Nat} (hr : Room A (n + 2)) (h : ∀ x s, P (.cel x) ((s, .list []) :: (x, nodeC i 0 (.cel s)) :: cs)) : Cal g A (.raw (.ref 208)) [lT i] [] cs P :=
  Cal.mkN (n := n + 1) hr (fun A' hr' x => ninit hr' fun s => ⟨rfl, h x s⟩) (mk_208 _) (ni_init _) (fn_204 _) (kp_208 _)
theorem getinfo_old {n i : Nat} {S d N x : Addr} {rn : T} {a b : Int} {ds : List (Str × T)} (hr : Room A (n + 1)) (h1 : (S, C.inst 305 d) ∈ cs) (h2 : (d, C.dict (dT (.cel N) rn a b)) ∈ cs) (h3 : (N, C.dict ds) ∈ cs) (hl : ds.lookup (ltr i) = some (.cel x)) (h : P (.cel x) cs) :
    Cal g A (.raw (.ref 248)) [.cel S, lT i] [] cs P := by
  refine Cal.fn (n := n) (bs := [("self", .cel S), ("node", lT i)]) hr rfl rfl (BindP.pl2 (fun v w => ?_)) (fun L A' hr' => ?_) rfl (by show (["self", "node"] : List Str).Nodup; decide) (by decide)
  · rfl
  refine Ex.cons ?_
  refine Ex1.ifNamed rfl ?_
  refine Ev.meth ?_
  refine Ev.attr ?_
  walk_at "ev"
  refine Att.own (.cel h1 h2) rfl rfl ?_ (ts_plain _ _) (ts_dict _) (ts_n _) rfl
  refine ⟨_, _, GM.dictGet (.cel h3), ?_⟩
  repeat walk_at "ev"
  refine Cal.dictGet (.cel h3) ?_
  rw [hl]
  refine ⟨fun z => (by cases z), fun _ => ?_⟩
  refine Ex.nil ?_
  refine Ex.cons ?_
  refine Ex1.ret ?_
  walk_at "ev"
  exact h
theorem getinfo_new {n i : Nat} {S d N : Addr} {rn : T} {a b : Int} {ds : List (Str × T)} {cs' : Addr → Cs} (hr : Room A (n + 3)) (h1 : (S, C.inst 305 d) ∈ cs) (h2 : (d, C.dict (dT (.cel N) rn a b)) ∈ cs) (hl : ds.lookup (ltr i) = none) (hn : (ds.map (·.1)).Nodup) (hz : ds.length ≤ 1000)
    (hU : ∀ x, CU N (.dict ds) (.dict (putT ds (ltr i) (.cel x))) cs (cs' x)) (h : ∀ x s, P (.cel x) ((s, .list []) :: (x, nodeC i 0 (.cel s)) :: cs' x)) :
    Cal g A (.raw (.ref 248)) [.cel S, lT i] [] cs P := by
  refine Cal.fn (n := n + 2) (bs := [("self", .cel S), ("node", lT i)]) hr rfl rfl (BindP.pl2 (fun v w => ?_)) (fun L A' hr' => ?_) rfl (by show (["self", "node"] : List Str).Nodup; decide) (by decide)
  · rfl
  have h3 : (N, C.dict ds) ∈ cs := (hU 0).mem
  refine Ex.cons ?_
  refine Ex1.ifNamed rfl ?_
  refine Ev.meth ?_
  refine Ev.attr ?_
  walk_at "ev"
  refine Att.own (.cel h1 h2) rfl rfl ?_ (ts_plain _ _) (ts_dict _) (ts_n _) rfl
  refine ⟨_, _, GM.dictGet (.cel h3), ?_⟩
  repeat walk_at "ev"
  refine Cal.dictGet (.cel h3) ?_
  rw [hl]
  refine ⟨fun _ => ?_, fun z => (by cases z)⟩
  refine Ex.cons ?_
  refine Ex1.setItemName rfl ?_
  refine Ev.call (Ev.g__NodeInfo ⟨rfl, rfl, rfl, rfl⟩ ?_)
  repeat walk_at "ev"
  refine mkNode hr' fun x s => ?_
  refine Ev.attr ?_
  walk_at "ev"
  refine Att.own (.cel (.tail _ (.tail _ h1)) (.tail _ (.tail _ h2))) rfl rfl ?_ (ts_plain _ _) (ts_dict _) (ts_n _) rfl
  walk_at "ev"
  refine ⟨N, _, ds, _, rfl, rfl, .tail (.tail (hU x)), hn, by rw [sizeLine_eq]; omega, ?_⟩
  refine Ex.nil ?_
  refine Ex.cons ?_
  refine Ex1.ret ?_
  walk_at "ev"
  exact h x s
end
/-- the nodes while they are made -/
noncomputable def bC (na sa : Nat → Addr) (np : Nat → Int) (su : Nat → List Nat) : Nat → Cs
  | 0 => []
  | j + 1 => (sa j, .list ((su j).map lT)) :: (na j, nodeC j (np j) (.cel (sa j))) :: bC na sa np su j
section
variable {na sa na' sa' : Nat → Addr} {np np' : Nat → Int} {su su' : Nat → List Nat}
theorem bC_congr : ∀ {j : Nat}, (∀ i < j, na i = na' i ∧ sa i = sa' i ∧ np i = np' i ∧ su i = su' i) → bC na sa np su j = bC na' sa' np' su' j
  | 0, _ => rfl
  | j + 1, h => by
    obtain ⟨h1, h2, h3, h4⟩ := h j (Nat.lt_succ_self _)
    rw [bC, bC, h1, h2, h3, h4, bC_congr fun i hi => h i (Nat.lt_succ_of_lt hi)]
theorem bC_node : ∀ {j i : Nat}, i < j → (na i, nodeC i (np i) (.cel (sa i))) ∈ bC na sa np su j
  | 0, _, h => by omega
  | j + 1, i, h => by
    by_cases e : i = j
    · subst e; exact .tail _ (.head _)
    · exact .tail _ (.tail _ (bC_node (by omega)))
theorem CU.app {a : Addr} {c c' : C} {l l' m : Cs} (h : CU a c c' l l') : CU a c c' (l ++ m) (l' ++ m) := by
  induction h with
  | head => exact .head
  | tail _ ih => exact .tail ih
theorem bC_su {b : Nat} {l : List Nat} : ∀ {j : Nat}, b < j → (∀ i < j, su' i = if i = b then l else su i) → CU (sa b) (.list ((su b).map lT)) (.list (l.map lT)) (bC na sa np su j) (bC na sa np su' j)
  | 0, h, _ => by omega
  | j + 1, h, hs => by
    by_cases e : b = j
    · subst e
      have h1 := hs b (Nat.lt_succ_self _)
      rw [if_pos rfl] at h1
      have h2 : bC na sa np su' b = bC na sa np su b := bC_congr fun i hi => ⟨rfl, rfl, rfl, by rw [hs i (by omega), if_neg (by omega)]⟩
      rw [bC, bC, h1, h2]
      exact .head
    · have h1 := hs j (Nat.lt_succ_self _)
      rw [if_neg (fun q => e q.symm)] at h1
      rw [bC, bC, h1]
      exact .tail (.tail (bC_su (by omega) fun i hi => hs i (by omega)))
end
theorem tab_congr {f f' : Nat → T} {j : Nat} (h : ∀ i < j, f i = f' i) : tabT f j = tabT f' j := List.map_congr_left fun i hi => by rw [h i (List.mem_range.mp hi)]
theorem tab_out {f : Nat → T} {j i : Nat} (h : j ≤ i) : (tabT f j).lookup (ltr i) = none := by
  rw [List.lookup_eq_none_iff]
  intro p hp
  obtain ⟨k, hk, rfl⟩ := List.mem_map.mp hp
  have := List.mem_range.mp hk
  have : ¬ ltr i = ltr k := fun z => by have := ltr_inj z; omega
  simpa using this
noncomputable def bAll (S d N : Addr) (na sa : Nat → Addr) (np : Nat → Int) (su : Nat → List Nat) (j : Nat) (cs : Cs) : Cs := (S, .inst 305 d) :: (d, .dict (dT (.cel N) .none 0 0)) :: (N, .dict (tabT (fun i => .cel (na i)) j)) :: (bC na sa np su j ++ cs)
noncomputable def suJ (bas : Nat → List Nat) (j b : Nat) : List Nat := (List.range j).filter fun i => b ∈ bas i
section
variable {g : Gx} {A : Around} {env : Env} {vars : Vars} {cs cs' : Cs} {P : T → Cs → Prop}
inductive AddI (S d N : Addr) (na' sa' : Nat → Addr) (bas : Nat → List Nat) (suM : List Nat → Nat → List Nat) (j : Nat) (cs : Cs) (us : List T) (vars : Vars) (c : Cs) : Prop
  | mk  (pre post : List Nat) (f1 : bas j = pre ++ post) (f2 : us = post.map lT) (f3 : c = bAll S d N na' sa' (fun i => (bas i).length) (suM pre) (j + 1) cs) (f4 : Has [("self", .cel S), ("node", lT j)] vars)
theorem add_spec {n j : Nat} {S d N : Addr} {na sa : Nat → Addr} {bas : Nat → List Nat} (hr : Room A (n + 4)) (hj : j < 5) (hb : ∀ i ≤ j, (bas i).length ≤ 2 ∧ (∀ b ∈ bas i, b < i) ∧ (bas i).Nodup)
    (h : ∀ na' sa', P .none (bAll S d N na' sa' (fun i => (bas i).length) (suJ bas (j + 1)) (j + 1) cs)) :
    CalC g A (.ref 255) ([.cel S, lT j] ++ (bas j).map lT) [] (bAll S d N na sa (fun i => (bas i).length) (suJ bas j) j cs) P := by
  have hbj := hb j (Nat.le_refl _)
  refine CalC.fn (n := n + 3) (bs := [("self", .cel S), ("node", lT j), ("predecessors", T.tup ((bas j).map lT))]) hr rfl rfl (BindP.star (ts := [.cel S, lT j]) (us := (bas j).map lT) (bs := [("self", .cel S), ("node", lT j)]) (nm := "predecessors") (fun vs ws hv hw => ?_) (by rw [List.length_map]; omega) rfl rfl) (fun L A' hr' => ?_) rfl (by show (["self", "node", "predecessors"] : List Str).Nodup; decide) (by decide)
  · have hw2 : ws.length ≤ 2 := by rw [hw, List.length_map]; omega
    obtain ⟨v, w, rfl⟩ := len2 hv
    rcases le2 hw2 with rfl | ⟨p, rfl⟩ | ⟨p, q, rfl⟩ <;> rfl
  have hh := hr'.1
  have o1 : ∀ {c : Cs}, (S, C.inst 305 d) ∈ (S, C.inst 305 d) :: c := .head _
  refine Ex.cons ?_
  refine Ex1.ifs ?_
  refine Ts.cmp ?_
  refine Ev.attr ?_
  walk_at "ev"
  refine Att.own (.cel (.head _) (.tail _ (.head _))) rfl rfl ?_ (ts_plain _ _) (ts_dict _) (ts_r _) rfl
  walk_at "ev"
  refine Op2.isNotNone ⟨_, rfl, fun z => (by cases z), fun _ => ?_⟩
  refine Ex.nil ?_
  refine Ex.cons ?_
  refine Ex1.assignL ?_
  refine Ev.meth ?_
  walk_at "ev"
  refine ⟨_, _, GM.own (.cel (.head _) (.tail _ (.head _))) rfl (ts_plain _ _) (tm_get _) (fn_248 _), ?_⟩
  repeat walk_at "ev"
  refine getinfo_new (n := n) hr' (.head _) (.tail _ (.head _)) (tab_out (Nat.le_refl _)) (tab_nodup _ _) (by rw [tab_len]; omega) (fun x => .tail (.tail .head)) fun x s => ?_
  refine Ex.cons ?_
  refine Ex1.augAttr ?_
  walk_at "ev"
  refine Att.slot (sl_np _) (.tail _ (.head _)) rfl rfl ?_
  refine Ev.call (Ev.b_len ⟨rfl, rfl, rfl, rfl⟩ ?_)
  repeat walk_at "ev"
  refine Cal.lenT (by simp; omega) ?_
  refine Op2.iaddII ?_
  refine SetA.slot (sl_np _) (.tail .head) ?_
  let na' : Nat → Addr := fun i => if i = j then x else na i
  let sa' : Nat → Addr := fun i => if i = j then s else sa i
  let suM : List Nat → Nat → List Nat := fun pre i => if i = j then [] else if i ∈ pre then suJ bas j i ++ [j] else suJ bas j i
  have eb : bC na sa (fun i => ((bas i).length : Int)) (suJ bas j) j = bC na' sa' (fun i => ((bas i).length : Int)) (suM []) j := bC_congr fun i hi => ⟨by simp [na', Nat.ne_of_lt hi], by simp [sa', Nat.ne_of_lt hi], rfl, by simp [suM, Nat.ne_of_lt hi]⟩
  have et : putT (tabT (fun i => T.cel (na i)) j) (ltr j) (.cel x) = tabT (fun i => T.cel (na' i)) (j + 1) := by
    rw [← tab_put, tab_congr (f := fun i => T.cel (na i)) (f' := fun i => T.cel (na' i)) fun i hi => by simp [na', Nat.ne_of_lt hi]]
    simp [na']
  refine StT.perm (cs' := bAll S d N na' sa' (fun i => (bas i).length) (suM []) (j + 1) cs) ?_ ?_
  · unfold bAll
    rw [← et]
    show List.Perm (_ :: _ :: _ :: (bC na' sa' (fun i => ((bas i).length : Int)) (suM []) (j + 1) ++ cs)) _
    rw [bC, ← eb]
    have e1 : na' j = x := by simp [na']
    have e2 : sa' j = s := by simp [sa']
    have e3 : suM [] j = [] := by simp [suM]
    rw [e1, e2, e3]
    have e4 : (0 : Int) + ((List.map lT (bas j)).length : Int) = ((bas j).length : Int) := by simp
    show List.Perm ((S, C.inst 305 d) :: (d, C.dict (dT (.cel N) .none 0 0)) :: (N, C.dict (putT (tabT (fun i => T.cel (na i)) j) (ltr j) (.cel x))) :: (s, C.list []) :: (x, nodeC j (bas j).length (.cel s)) :: (bC na sa (fun i => ((bas i).length : Int)) (suJ bas j) j ++ cs)) ((s, C.list []) :: (x, nodeC j (0 + ((List.map lT (bas j)).length : Int)) (.cel s)) :: (S, C.inst 305 d) :: (d, C.dict (dT (.cel N) .none 0 0)) :: (N, C.dict (putT (tabT (fun i => T.cel (na i)) j) (ltr j) (.cel x))) :: (bC na sa (fun i => ((bas i).length : Int)) (suJ bas j) j ++ cs))
    rw [e4]
    exact List.perm_append_comm (l₁ := [(S, C.inst 305 d), (d, C.dict (dT (.cel N) .none 0 0)), (N, C.dict (putT (tabT (fun i => T.cel (na i)) j) (ltr j) (.cel x)))]) (l₂ := [(s, C.list []), (x, nodeC j (bas j).length (.cel s))]) |>.append_right _
  refine Ex.cons ?_
  refine Ex1.for_ ?_
  walk_at "ev"
  refine ⟨_, _, Itb.tup hh, ?_⟩
  refine ForP.inv (AddI S d N na' sa' bas suM j cs) ?_ ?_ _ _ _ ⟨[], bas j, rfl, rfl, rfl, rfl, rfl, trivial⟩
  · rintro u rest vars c ⟨pre, post, eo, e, rfl, hv⟩
    cases post with
    | nil => cases e
    | cons b post =>
    simp only [List.map_cons, List.cons.injEq] at e
    obtain ⟨rfl, rfl⟩ := e
    have hbm : b ∈ bas j := by rw [eo]; simp
    have hbj' : b < j := hbj.2.1 b hbm
    have hbp : b ∉ pre := fun z => by
      have := hbj.2.2
      rw [eo, List.nodup_append] at this
      exact this.2.2 b z b (.head _) rfl
    refine As.weaken hv.k (As.nameL ?_)
    refine Ex.cons ?_
    refine Ex1.assignL ?_
    refine Ev.meth ?_
    walk_at "ev"
    refine ⟨_, _, GM.own (.cel (.head _) (.tail _ (.head _))) rfl (ts_plain _ _) (tm_get _) (fn_248 _), ?_⟩
    repeat walk_at "ev"
    refine getinfo_old (n := n + 2) hr' (.head _) (.tail _ (.head _)) (.tail _ (.tail _ (.head _))) (tab_look _ (j + 1) b (by omega)) ?_
    refine Ex.cons ?_
    refine Ex1.expr ?_
    refine Ev.meth ?_
    refine Ev.attr ?_
    walk_at "ev"
    refine Att.slot (sl_su _) (.tail _ (.tail _ (.tail _ (List.mem_append_left _ (bC_node (by omega)))))) rfl rfl ?_
    have U : CU (sa' b) (.list ((suM pre b).map lT)) (.list ((suM pre b ++ [j]).map lT)) (bAll S d N na' sa' (fun i => (bas i).length) (suM pre) (j + 1) cs) (bAll S d N na' sa' (fun i => (bas i).length) (suM (pre ++ [b])) (j + 1) cs) := by
      refine .tail (.tail (.tail (CU.app (bC_su (by omega) fun i hi => ?_))))
      show (if i = j then [] else if i ∈ pre ++ [b] then suJ bas j i ++ [j] else suJ bas j i) = if i = b then (if b = j then [] else if b ∈ pre then suJ bas j b ++ [j] else suJ bas j b) ++ [j] else (if i = j then [] else if i ∈ pre then suJ bas j i ++ [j] else suJ bas j i)
      by_cases e1 : i = b
      · subst e1
        have e3 : ¬ i = j := by omega
        simp [e3, hbp]
      · rw [if_neg e1]
        by_cases e2 : i = j
        · simp [e2]
        · simp [e2, e1]
    refine ⟨_, _, GM.append (.cel U.mem), ?_⟩
    repeat walk_at "ev"
    have hlen : (suM pre b).length ≤ j + 1 := by
      have h1 : (suJ bas j b).length ≤ j := Nat.le_trans (List.length_filter_le _ _) (by simp)
      show (if b = j then [] else if b ∈ pre then suJ bas j b ++ [j] else suJ bas j b).length ≤ _
      rw [if_neg (by omega), if_neg hbp]; omega
    rw [List.map_append] at U
    refine Cal.append U (by rw [sizeLine_eq, List.length_map]; omega) ?_
    exact Ex.nil ⟨pre ++ [b], post, by simp [eo], rfl, rfl, rfl, rfl, trivial⟩
  · rintro vars c ⟨pre, post, eo, e, rfl, hv⟩
    have : post = [] := by cases post with
      | nil => rfl
      | cons x sh => cases e
    subst this
    rw [List.append_nil] at eo
    subst eo
    refine Ex.nil ?_
    refine Ex.nil ?_
    have := h na' sa'
    have e5 : bAll S d N na' sa' (fun i => (bas i).length) (suM (bas j)) (j + 1) cs = bAll S d N na' sa' (fun i => (bas i).length) (suJ bas (j + 1)) (j + 1) cs := by
      unfold bAll
      rw [bC_congr (su := suM (bas j)) (su' := suJ bas (j + 1)) fun i hi => ⟨rfl, rfl, rfl, ?_⟩]
      show (if i = j then [] else if i ∈ bas j then suJ bas j i ++ [j] else suJ bas j i) = (List.range (j + 1)).filter fun k => i ∈ bas k
      rw [List.range_succ, List.filter_append]
      by_cases e1 : i = j
      · subst e1
        rw [if_pos rfl]
        symm
        rw [List.append_eq_nil_iff]
        constructor
        · rw [List.filter_eq_nil_iff]
          intro k hk z
          have hk' := List.mem_range.mp hk
          have := (hb k (by omega)).2.1 i (by simpa using z)
          omega
        · rw [List.filter_eq_nil_iff]
          intro k hk z
          rw [List.mem_singleton.mp hk] at z
          have := hbj.2.1 i (by simpa using z)
          omega
      · rw [if_neg e1]
        by_cases e2 : i ∈ bas j
        · simp [e2, suJ]
        · simp [e2, suJ]
    show P .none _
    rw [e5]
    exact this
end
end Mine
end

noncomputable section
open PySem PySem.W PyProof.Rows PySem.Calls
set_option Elab.async false
set_option linter.unusedVariables false
set_option maxRecDepth 100000
set_option pp.deepTerms false
set_option pp.deepTerms.threshold 3
set_option tactic.hygienic false
namespace Mine

/-- the nodes, made -/
noncomputable def fC (na : Nat → Addr) (np : Nat → Int) (su : Nat → List Nat) : Nat → Cs
  | 0 => []
  | j + 1 => (na j, nodeC j (np j) (lTs (su j))) :: fC na np su j
section
variable {na : Nat → Addr} {np np' : Nat → Int} {su : Nat → List Nat}
theorem fC_congr : ∀ {j : Nat}, (∀ i < j, np i = np' i) → fC na np su j = fC na np' su j
  | 0, _ => rfl
  | j + 1, h => by rw [fC, fC, h j (Nat.lt_succ_self _), fC_congr fun i hi => h i (Nat.lt_succ_of_lt hi)]
theorem fC_node : ∀ {j i : Nat}, i < j → (na i, nodeC i (np i) (lTs (su i))) ∈ fC na np su j
  | 0, _, h => by omega
  | j + 1, i, h => by
    by_cases e : i = j
    · subst e; exact .head _
    · exact .tail _ (fC_node (by omega))
noncomputable def updI (np : Nat → Int) (b : Nat) (v : Int) : Nat → Int := fun i => if i = b then v else np i
theorem fC_np {b : Nat} {v : Int} : ∀ {j : Nat}, b < j → CU (na b) (nodeC b (np b) (lTs (su b))) (nodeC b v (lTs (su b))) (fC na np su j) (fC na (updI np b v) su j)
  | 0, h => by omega
  | j + 1, h => by
    by_cases e : b = j
    · subst e
      have h2 : fC na (updI np b v) su b = fC na np su b := fC_congr fun i hi => by simp [updI, Nat.ne_of_lt hi]
      rw [fC, fC, h2, show updI np b v b = v by simp [updI]]
      exact .head
    · have h1 : updI np b v j = np j := by unfold updI; rw [if_neg fun q : j = b => e q.symm]
      rw [fC, fC, h1]
      exact .tail (fC_np (by omega))
end
noncomputable def tabN (na : Nat → Addr) : List (Str × T) := tabT (fun i => .cel (na i)) 5
noncomputable def rAll (S d R : Addr) (a b : Int) (na : Nat → Addr) (np : Nat → Int) (su : Nat → List Nat) (rdy : List Nat) (cs : Cs) : Cs := (S, .inst 305 d) :: (d, .dict (dT (.dict (tabN na)) (.cel R) a b)) :: (R, .list (rdy.map lT)) :: (fC na np su 5 ++ cs)
section
variable {g : Gx} {A : Around} {env : Env} {vars : Vars} {cs cs' : Cs} {P : T → Cs → Prop}
theorem freezeB {tree : Sem Flow} {P : Fl → Vars → Cs → Prop} {X : XP} {na sa : Nat → Addr} {np : Nat → Int} {su : Nat → List Nat} : ∀ (j : Nat) {cs : Cs}, StT g A env tree vars (fC na np su j ++ cs) P X → StT g A env tree vars (bC na sa np su j ++ cs) P X
  | 0, _, H => H
  | j + 1, cs, H => by
    show StT g A env tree vars ((sa j, C.list ((su j).map lT)) :: (na j, nodeC j (np j) (.cel (sa j))) :: (bC na sa np su j ++ cs)) P X
    refine StT.freezeIn (t := lTs (su j)) (k' := nodeC j (np j) (lTs (su j))) .head (fun Q fz o cr => ?_) (fun Q fz o hv cr => ?_) ?_
    · cases cr with
      | list n r => exact .list (.head _) (r.mono fun _ h => .tail _ h)
    · cases cr with
      | node rs hd =>
        cases rs with
        | some h1 rs =>
        cases rs with
        | some h2 rs =>
        cases rs with
        | some h3 rs =>
        cases h3
        exact .node (.some h1 (.some h2 (.some hv rs))) hd
    · refine StT.perm (cs' := bC na sa np su j ++ ((na j, nodeC j (np j) (lTs (su j))) :: cs)) List.perm_middle (freezeB j ?_)
      exact StT.perm (List.perm_middle.symm) H
theorem freezeN {tree : Sem Flow} {P : Fl → Vars → Cs → Prop} {X : XP} {S d N : Addr} {na : Nat → Addr} {cs : Cs} (H : StT g A env tree vars ((S, .inst 305 d) :: (d, .dict (dT (.dict (tabN na)) .none 0 0)) :: cs) P X) : StT g A env tree vars ((S, .inst 305 d) :: (d, .dict (dT (.cel N) .none 0 0)) :: (N, .dict (tabN na)) :: cs) P X := by
  refine StT.perm (cs' := (N, .dict (tabN na)) :: (S, .inst 305 d) :: (d, .dict (dT (.cel N) .none 0 0)) :: cs) ?_ ?_
  · exact ((List.Perm.swap _ _ _).trans (.cons _ (.swap _ _ _)))
  refine StT.freezeIn (t := .dict (tabN na)) (k' := .dict (dT (.dict (tabN na)) .none 0 0)) (.tail .head) (fun Q fz o cr => ?_) (fun Q fz o hv cr => ?_) H
  · cases cr with
    | dict n q r => exact .dict q (.head _) (r.mono fun _ h => .tail _ h)
  · cases cr with
    | dict n q r =>
      cases r with
      | cons h1 r =>
      cases h1
      exact .dict n q (.cons hv r)
theorem mod_letters {b : Nat} (hb : b < 5) (na : Nat → Addr) : (tabN na).lookup (ltr b) = some (.cel (na b)) := tab_look _ 5 b hb
noncomputable def outN (np : Nat → Int) (rdy : List Nat) : Nat → Int := fun i => if i ∈ rdy then -1 else np i
inductive RdI (S d R : Addr) (a b : Int) (na : Nat → Addr) (np : Nat → Int) (su : Nat → List Nat) (rdy : List Nat) (cs : Cs) (us : List T) (vars : Vars) (c : Cs) : Prop
  | mk  (pre post : List Nat) (f1 : rdy = pre ++ post) (f2 : us = post.map lT) (f3 : c = rAll S d R a b na (outN np pre) su rdy cs) (f4 : Has [("self", .cel S), ("n2i", .dict (tabN na)), ("result", .tup (rdy.map lT))] vars)
theorem ready_spec {n : Nat} {S d R : Addr} {a b : Int} {na : Nat → Addr} {np : Nat → Int} {su : Nat → List Nat} {rdy : List Nat} (hr : Room A (n + 2)) (hl : rdy.length ≤ 100) (h5 : ∀ i ∈ rdy, i < 5)
    (h : P (.tup (rdy.map lT)) (rAll S d R (a + rdy.length) b na (outN np rdy) su [] cs)) : Cal g A (.raw (.ref 267)) [.cel S] [] (rAll S d R a b na np su rdy cs) P := by
  refine Cal.fn (n := n + 1) (bs := [("self", .cel S)]) hr rfl rfl (BindP.pl1 (fun v => ?_)) (fun L A' hr' => ?_) rfl (by simp) (by decide)
  · rfl
  have hh := hr'.1
  refine Ex.cons ?_
  refine Ex1.ifs ?_
  refine Ts.cmp ?_
  refine Ev.attr ?_
  walk_at "ev"
  refine Att.own (.cel (.head _) (.tail _ (.head _))) rfl rfl ?_ (ts_plain _ _) (ts_dict _) (ts_r _) rfl
  walk_at "ev"
  refine Op2.isNone ⟨_, rfl, fun z => (by cases z), fun _ => ?_⟩
  refine Ex.nil ?_
  refine Ex.cons ?_
  refine Ex1.assignL ?_
  refine Ev.call (Ev.b_tuple ⟨rfl, rfl, rfl, rfl⟩ ?_)
  refine ArgP.cons ?_
  refine Evs.cons ?_
  refine Ev.attr ?_
  walk_at "ev"
  refine Att.own (.cel (.head _) (.tail _ (.head _))) rfl rfl ?_ (ts_plain _ _) (ts_dict _) (ts_r _) rfl
  walk_at "ev"
  refine Cal.tupOf (.cel (.tail _ (.tail _ (.head _)))) (by rw [sizeLine_eq, List.length_map]; omega) ?_
  refine Ex.cons ?_
  refine Ex1.assignL ?_
  refine Ev.attr ?_
  walk_at "ev"
  refine Att.own (.cel (.head _) (.tail _ (.head _))) rfl rfl ?_ (ts_plain _ _) (ts_dict _) (ts_n _) rfl
  refine Ex.cons ?_
  refine Ex1.for_ ?_
  walk_at "ev"
  refine ⟨_, _, Itb.tup hh, ?_⟩
  refine ForP.inv (RdI S d R a b na np su rdy cs) ?_ ?_ _ _ _ ⟨[], rdy, rfl, rfl, ?_, rfl, rfl, rfl, trivial⟩
  · rintro u rest vars c ⟨pre, post, eo, e, rfl, hv⟩
    cases post with
    | nil => cases e
    | cons i post =>
    simp only [List.map_cons, List.cons.injEq] at e
    obtain ⟨rfl, rfl⟩ := e
    have hi5 : i < 5 := h5 i (by rw [eo]; simp)
    refine As.weaken hv.k (As.nameL ?_)
    refine Ex.cons ?_
    refine Ex1.setAttr ?_
    refine Ev.g__NODE_OUT ⟨rfl, rfl, rfl, rfl⟩ ?_
    repeat walk_at "ev"
    refine Sub.dict (.fz _) (mod_letters hi5 na) ?_
    refine SetA.slot (sl_np _) (.tail (.tail (.tail (CU.app (fC_np (v := -1) hi5))))) ?_
    refine Ex.nil ⟨pre ++ [i], post, by simp [eo], rfl, ?_, rfl, rfl, rfl, trivial⟩
    unfold rAll
    rw [fC_congr (np := updI (outN np pre) i (-1)) (np' := outN np (pre ++ [i])) fun k hk => ?_]
    unfold updI outN
    by_cases e1 : k = i
    · simp [e1]
    · simp [e1]
  · rintro vars c ⟨pre, post, eo, e, rfl, hv⟩
    have : post = [] := by cases post with
      | nil => rfl
      | cons x sh => cases e
    subst this
    rw [List.append_nil] at eo
    subst eo
    refine Ex.nil ?_
    refine StT.weaken hv.k ?_
    refine Ex.cons ?_
    refine Ex1.expr ?_
    refine Ev.meth ?_
    refine Ev.attr ?_
    walk_at "ev"
    refine Att.own (.cel (.head _) (.tail _ (.head _))) rfl rfl ?_ (ts_plain _ _) (ts_dict _) (ts_r _) rfl
    refine ⟨_, _, GM.clear (.cel (.tail _ (.tail _ (.head _)))), ?_⟩
    walk_at "ev"
    refine Cal.clear (.tail (.tail .head)) (by rw [sizeLine_eq, List.length_map]; omega) ?_
    refine Ex.cons ?_
    refine Ex1.augAttr ?_
    walk_at "ev"
    refine Att.own (.cel (.head _) (.tail _ (.head _))) rfl rfl ?_ (ts_plain _ _) (ts_dict _) (ts_p _) rfl
    refine Ev.call (Ev.b_len ⟨rfl, rfl, rfl, rfl⟩ ?_)
    repeat walk_at "ev"
    refine Cal.lenT (by rw [List.length_map]; omega) ?_
    refine Op2.iaddII ?_
    refine SetA.own (.head _) (.tail .head) (by show (["_node2info", "_ready_nodes", "_npassedout", "_nfinished"] : List Str).Nodup; decide) (by simp) ?_ (ts_seta _) (ts_over _) (tt_p _) (ts_dict _)
    refine Ex.cons ?_
    refine Ex1.ret ?_
    walk_at "ev"
    have e2 : ((List.map lT rdy).length : Int) = (rdy.length : Int) := by simp
    show P _ _
    rw [e2]
    exact h
  · unfold rAll
    rw [fC_congr (np := np) (np' := outN np []) fun k hk => by simp [outN]]
/-- what is left to wait for, when i is done -/
noncomputable def doneN (np : Nat → Int) (i : Nat) (ss : List Nat) : Nat → Int := fun k => (if k = i then -2 else np k) - (if k ∈ ss then 1 else 0)
noncomputable def newR (np : Nat → Int) (ss : List Nat) : List Nat := ss.filter fun k => decide (np k - 1 = 0)
inductive DoI (S d R : Addr) (a b : Int) (na : Nat → Addr) (np : Nat → Int) (su : Nat → List Nat) (rdy : List Nat) (i : Nat) (cs : Cs) (us : List T) (vars : Vars) (c : Cs) : Prop
  | mk  (pre post : List Nat) (f1 : su i = pre ++ post) (f2 : us = post.map lT) (f3 : c = rAll S d R a b na (doneN np i pre) su (rdy ++ newR np pre) cs) (f4 : Has [("self", .cel S), ("n2i", .dict (tabN na))] vars)
theorem done_spec {n i : Nat} {S d R : Addr} {a b : Int} {na : Nat → Addr} {np : Nat → Int} {su : Nat → List Nat} {rdy : List Nat} (hr : Room A (n + 2)) (hi : i < 5) (hnp : np i = -1) (hsu : ∀ k ∈ su i, k < 5 ∧ k ≠ i) (hnd : (su i).Nodup) (hl : rdy.length + (su i).length ≤ 100)
    (h : P .none (rAll S d R a (b + 1) na (doneN np i (su i)) su (rdy ++ newR np (su i)) cs)) : Cal g A (.raw (.ref 288)) [.cel S, lT i] [] (rAll S d R a b na np su rdy cs) P := by
  refine Cal.fn (n := n + 1) (bs := [("self", .cel S), ("nodes", T.tup [lT i])]) hr rfl rfl (BindP.star (ts := [.cel S]) (us := [lT i]) (bs := [("self", .cel S)]) (nm := "nodes") (fun vs ws hv hw => ?_) (by simp) rfl rfl) (fun L A' hr' => ?_) rfl (by show (["self", "nodes"] : List Str).Nodup; decide) (by decide)
  · obtain ⟨v, rfl⟩ := List.length_eq_one_iff.mp hv
    obtain ⟨p, rfl⟩ := List.length_eq_one_iff.mp hw
    rfl
  have hh := hr'.1
  refine Ex.cons ?_
  refine Ex1.ifs ?_
  refine Ts.cmp ?_
  refine Ev.attr ?_
  walk_at "ev"
  refine Att.own (.cel (.head _) (.tail _ (.head _))) rfl rfl ?_ (ts_plain _ _) (ts_dict _) (ts_r _) rfl
  walk_at "ev"
  refine Op2.isNone ⟨_, rfl, fun z => (by cases z), fun _ => ?_⟩
  refine Ex.nil ?_
  refine Ex.cons ?_
  refine Ex1.assignL ?_
  refine Ev.attr ?_
  walk_at "ev"
  refine Att.own (.cel (.head _) (.tail _ (.head _))) rfl rfl ?_ (ts_plain _ _) (ts_dict _) (ts_n _) rfl
  refine Ex.cons ?_
  refine Ex1.for_ ?_
  walk_at "ev"
  refine ⟨_, _, Itb.tup hh, ?_⟩
  refine As.nameL ?_
  refine Ex.cons ?_
  refine Ex1.ifNamed rfl ?_
  refine Ev.meth ?_
  walk_at "ev"
  refine ⟨_, _, GM.dictGet (.fz _), ?_⟩
  repeat walk_at "ev"
  refine Cal.dictGet (.fz _) ?_
  rw [mod_letters hi na]
  refine ⟨fun z => (by cases z), fun _ => ?_⟩
  refine Ex.nil ?_
  refine Ex.cons ?_
  refine Ex1.assignL ?_
  refine Ev.attr ?_
  walk_at "ev"
  refine Att.slot (sl_np _) (.tail _ (.tail _ (.tail _ (List.mem_append_left _ (fC_node hi))))) rfl rfl ?_
  refine Ex.cons ?_
  refine Ex1.ifs ?_
  refine Ts.cmp ?_
  walk_at "ev"
  refine Ev.g__NODE_OUT ⟨rfl, rfl, rfl, rfl⟩ ?_
  rw [hnp]
  refine Op2.ne hr' (.fz rfl) (.fz rfl) fun q hq => ⟨q, rfl, fun z => ?_, fun _ => ?_⟩
  · have := hq.mpr rfl; rw [z] at this; cases this
  refine Ex.nil ?_
  refine Ex.cons ?_
  refine Ex1.setAttr ?_
  refine Ev.g__NODE_DONE ⟨rfl, rfl, rfl, rfl⟩ ?_
  walk_at "ev"
  rw [← hnp]
  refine SetA.slot (sl_np _) (.tail (.tail (.tail (CU.app (fC_np (v := -2) hi))))) ?_
  refine Ex.cons ?_
  refine Ex1.for_ ?_
  refine Ev.attr ?_
  walk_at "ev"
  refine Att.slot (sl_su _) (.tail _ (.tail _ (.tail _ (List.mem_append_left _ (fC_node hi))))) rfl rfl ?_
  refine ⟨_, _, Itb.list hh, ?_⟩
  refine ForP.inv (DoI S d R a b na np su rdy i cs) ?_ ?_ _ _ _ ⟨[], su i, rfl, rfl, ?_, rfl, rfl, trivial⟩
  · rintro u rest vars c ⟨pre, post, eo, e, rfl, hv⟩
    cases post with
    | nil => cases e
    | cons k post =>
    simp only [List.map_cons, List.cons.injEq] at e
    obtain ⟨rfl, rfl⟩ := e
    have hk := hsu k (by rw [eo]; simp)
    have hkp : k ∉ pre := fun z => by
      rw [eo, List.nodup_append] at hnd
      exact hnd.2.2 k z k (.head _) rfl
    have hval : doneN np i pre k = np k := by simp [doneN, hk.2, hkp]
    have hlen : (rdy ++ newR np pre).length ≤ 100 := by
      have h1 : (newR np pre).length ≤ pre.length := List.length_filter_le _ _
      rw [eo] at hl
      simp at hl ⊢
      omega
    refine As.weaken hv.k (As.nameL ?_)
    refine Ex.cons ?_
    refine Ex1.assignL ?_
    repeat walk_at "ev"
    refine Sub.dict (.fz _) (mod_letters hk.1 na) ?_
    refine Ex.cons ?_
    refine Ex1.augAttr ?_
    walk_at "ev"
    refine Att.slot (sl_np _) (.tail _ (.tail _ (.tail _ (List.mem_append_left _ (fC_node hk.1))))) rfl rfl ?_
    walk_at "ev"
    refine Op2.isubII ?_
    refine SetA.slot (sl_np _) (.tail (.tail (.tail (CU.app (fC_np (v := doneN np i pre k - 1) hk.1))))) ?_
    have eupd : fC na (updI (doneN np i pre) k (doneN np i pre k - 1)) su 5 = fC na (doneN np i (pre ++ [k])) su 5 := fC_congr fun m hm => by
      unfold updI doneN
      by_cases e1 : m = k
      · subst e1; simp [hk.2, hkp]
      · simp [e1]
    rw [hval] at eupd ⊢
    refine Ex.cons ?_
    refine Ex1.ifs ?_
    refine Ts.cmp ?_
    refine Ev.attr ?_
    walk_at "ev"
    refine Att.slot (sl_np _) (.tail _ (.tail _ (.tail _ (List.mem_append_left _ (fC_node hk.1))))) rfl rfl ?_
    walk_at "ev"
    have hv2 : updI (doneN np i pre) k (np k - 1) k = np k - 1 := by simp [updI]
    rw [hv2]
    refine Op2.eq hr' (.fz rfl) (.fz rfl) fun q hq => ⟨q, rfl, fun hb => ?_, fun hb => ?_⟩
    · have he : np k - 1 = 0 := by have := hq.mp hb; injection this
      refine Ex.cons ?_
      refine Ex1.expr ?_
      refine Ev.meth ?_
      refine Ev.attr ?_
      walk_at "ev"
      refine Att.own (.cel (.head _) (.tail _ (.head _))) rfl rfl ?_ (ts_plain _ _) (ts_dict _) (ts_r _) rfl
      refine ⟨_, _, GM.append (.cel (.tail _ (.tail _ (.head _)))), ?_⟩
      repeat walk_at "ev"
      refine Cal.append (.tail (.tail .head)) (by rw [sizeLine_eq, List.length_map]; omega) ?_
      refine Ex.nil ?_
      refine Ex.nil ⟨pre ++ [k], post, by simp [eo], rfl, ?_, rfl, rfl, trivial⟩
      unfold rAll
      rw [eupd]
      simp [newR, List.filter_append, he]
    · have he : ¬ np k - 1 = 0 := fun z => by have := hq.mpr (by rw [z]); rw [hb] at this; cases this
      refine Ex.nil ?_
      refine Ex.nil ⟨pre ++ [k], post, by simp [eo], rfl, ?_, rfl, rfl, trivial⟩
      unfold rAll
      rw [eupd]
      simp [newR, List.filter_append, he]
  · rintro vars c ⟨pre, post, eo, e, rfl, hv⟩
    have : post = [] := by cases post with
      | nil => rfl
      | cons x sh => cases e
    subst this
    rw [List.append_nil] at eo
    refine Ex.nil ?_
    refine StT.weaken hv.k ?_
    refine Ex.cons ?_
    refine Ex1.augAttr ?_
    walk_at "ev"
    refine Att.own (.cel (.head _) (.tail _ (.head _))) rfl rfl ?_ (ts_plain _ _) (ts_dict _) (ts_f _) rfl
    walk_at "ev"
    refine Op2.iaddII ?_
    refine SetA.own (.head _) (.tail .head) (by show (["_node2info", "_ready_nodes", "_npassedout", "_nfinished"] : List Str).Nodup; decide) (by simp) ?_ (ts_seta _) (ts_over _) (tt_f _) (ts_dict _)
    refine Ex.nil ?_
    refine Ex.nil ?_
    refine Ex.nil ?_
    rw [eo] at h
    exact h
  · unfold rAll
    rw [fC_congr (np := updI np i (-2)) (np' := doneN np i []) fun k hk => by simp [updI, doneN]]
    simp [newR]
end
end Mine
end

noncomputable section
open PySem PySem.W PyProof.Rows PySem.Calls
set_option Elab.async false
set_option linter.unusedVariables false
set_option maxRecDepth 100000
set_option pp.deepTerms false
set_option pp.deepTerms.threshold 3
set_option tactic.hygienic false
namespace Mine

theorem isExc_Stop : isSubtype (.type "StopIteration") (.type "BaseException") = pure true := by rw [isSubtype_type]; kernel_rfl
theorem self_Stop : isSubtype (.type "StopIteration") (.type "StopIteration") = pure true := by rw [isSubtype_type]; kernel_rfl
theorem nt_Stop : isSubtype (.type ((Manifest.find? "StopIteration").elim "type" fun x => x.metatype)) (.type "tuple") = pure false := isSubtype_of_subB (by decide +kernel)
section
variable {g : Gx} {A : Around} {env : Env} {vars : Vars} {cs : Cs} {P : T → Cs → Prop}
theorem Ev.neg {i : Int} {k : Nat} {p1 p2 : Pos} (h : P (.int (-i)) cs) : Ev g A env vars (.UnaryOp .USub (.Constant (.int i) k p1) p2) cs P := by
  rintro c s Q E _ ⟨V, rfl⟩ R kk
  refine wpAny_UnaryOp ?_
  show wpAny _ _ (mkInt i) _ _ _
  refine wpAny_mkInt (PySem.P.neg_int ?_)
  exact kk c.fz _ _ cs s.heap _ (fun _ h => h) h (.int _ _) R
end
structure Fm where
  v : Nat
  it : Addr
  i : Nat
noncomputable def itC (su : Nat → List Nat) (st : List Fm) : Cs := st.map fun f => (f.it, C.iter (some (lTs (su f.v))) f.i)
noncomputable abbrev fT (f : Fm) : T := .at (mwO f.it)
noncomputable def fcs (D E I K : Addr) (S : Str → Bool) (n : Nat) (dk : List (Str × T)) (su : Nat → List Nat) (st : List Fm) (cs : Cs) : Cs := (D, .dict dk) :: (E, .set S n) :: (I, .list (st.reverse.map fT)) :: (K, .list (st.reverse.map fun f => lT f.v)) :: (itC su st ++ cs)
noncomputable def unS (S : Str → Bool) : List Nat := (List.range 5).filter fun u => !S (ltr u)
noncomputable def Wt (su : Nat → List Nat) (S : Str → Bool) (st : List Fm) : Nat := ((unS S).map fun u => 2 + (su u).length).sum + (st.map fun f => (su f.v).length - f.i + 1).sum
theorem sum_filter (f : Nat → Nat) (p : Nat → Bool) (v : Nat) (hp : p v = true) : ∀ (l : List Nat), l.Nodup → v ∈ l → ((l.filter p).map f).sum = ((l.filter fun u => p u && !decide (u = v)).map f).sum + f v
  | [], _, h => by cases h
  | u :: l, nd, h => by
    have nd' := List.nodup_cons.mp nd
    by_cases e : u = v
    · subst e
      have : l.filter (fun w => p w && !decide (w = u)) = l.filter p := List.filter_congr fun w hw => by
        have : ¬ w = u := fun z => nd'.1 (z ▸ hw)
        simp [this]
      simp [List.filter_cons, hp, this]; omega
    · have ih := sum_filter f p v hp l nd'.2 ((List.mem_cons.mp h).resolve_left fun z => e z.symm)
      simp only [List.filter_cons, e, decide_false, Bool.not_false, Bool.and_true]
      split
      · simp only [List.map_cons, List.sum_cons, ih]; omega
      · exact ih
noncomputable def addS (S : Str → Bool) (v : Nat) : Str → Bool := fun y => S y || decide (y = ltr v)
theorem unS_add (S : Str → Bool) (v : Nat) : unS (addS S v) = (List.range 5).filter fun u => (!S (ltr u)) && !decide (u = v) := by
  unfold unS addS
  refine List.filter_congr fun u _ => ?_
  by_cases e : u = v
  · simp [e]
  · have : ¬ ltr u = ltr v := fun z => e (ltr_inj z)
    simp only [e, this, decide_false, Bool.or_false, Bool.not_false, Bool.and_true]
theorem un_sum (f : Nat → Nat) {S : Str → Bool} {v : Nat} (hv : v < 5) (h : S (ltr v) = false) : ((unS S).map f).sum = ((unS (addS S v)).map f).sum + f v := by
  rw [unS_add]
  exact sum_filter f (fun u => !S (ltr u)) v (by simp [h]) _ List.nodup_range (List.mem_range.mpr hv)
theorem W_add {su : Nat → List Nat} {S : Str → Bool} {v : Nat} {it : Addr} {st : List Fm} (hv : v < 5) (h : S (ltr v) = false) : Wt su (addS S v) (⟨v, it, 0⟩ :: st) + 1 = Wt su S st := by
  unfold Wt
  rw [un_sum (fun u => 2 + (su u).length) hv h]
  simp only [List.map_cons, List.sum_cons, Nat.sub_zero]
  omega
theorem W_step {su : Nat → List Nat} {S : Str → Bool} {f : Fm} {st : List Fm} (h : f.i < (su f.v).length) : Wt su S (⟨f.v, f.it, f.i + 1⟩ :: st) + 1 = Wt su S (f :: st) := by
  unfold Wt
  simp only [List.map_cons, List.sum_cons]
  omega
theorem W_pop {su : Nat → List Nat} {S : Str → Bool} {f : Fm} {st : List Fm} : Wt su S st < Wt su S (f :: st) := by
  unfold Wt
  simp only [List.map_cons, List.sum_cons]
  omega
noncomputable def Ct (S : Str → Bool) : Nat := ((unS S).map fun _ => 1).sum
theorem C_add {S : Str → Bool} {v : Nat} (hv : v < 5) (h : S (ltr v) = false) : Ct (addS S v) + 1 = Ct S := by
  unfold Ct
  rw [un_sum (fun _ => 1) hv h]
/-- the stack, top first: letters fall -/
noncomputable def okSt (su : Nat → List Nat) (st : List Fm) : Prop := (st.map fun f => f.v).Pairwise (fun a b => b < a) ∧ ∀ f ∈ st, f.v < 5
section
variable (D E I K : Addr) (su : Nat → List Nat) (cs : Cs) (kn : Vars)
inductive CyA : List T → Vars → Cs → Prop
  | mk {us : List T} {vars : Vars} {c : Cs} (todo : List Nat) (S : Str → Bool) (n : Nat) (e : us = todo.map lT) (ht : ∀ v ∈ todo, v < 5) (ec : c = fcs D E I K S n [] su [] cs) (hct : n + Ct S ≤ 5) (hw : Wt su S [] < 100) (hv : Has kn vars) : CyA us vars c
inductive CyB : Fl → Vars → Cs → Prop
  | mk {vs : Vars} {c : Cs} (S : Str → Bool) (n : Nat) (ec : c = fcs D E I K S n [] su [] cs) (hct : n + Ct S ≤ 5) (hw : Wt su S [] < 100) (hv : Has kn vs) : CyB .next vs c
inductive CyC (m : Nat) (vs : Vars) (c : Cs) : Prop
  | mk (st : List Fm) (S : Str → Bool) (n : Nat) (dk : List (Str × T)) (v : Nat) (ec : c = fcs D E I K S n dk su st cs) (hdk : dk.map (·.1) = st.reverse.map (fun f => ltr f.v)) (hok : okSt su st) (hv5 : v < 5) (hvs : ∀ f ∈ st, f.v < v) (hct : n + Ct S ≤ 5) (hw : Wt su S st < 100) (hm : Wt su S st < m) (hvv : Has (("node", lT v) :: kn) vs)
inductive CyD (m : Nat) : Fl → Vars → Cs → Prop
  | mk {vs : Vars} {c : Cs} (st : List Fm) (S : Str → Bool) (n : Nat) (dk : List (Str × T)) (ec : c = fcs D E I K S n dk su st cs) (hdk : dk.map (·.1) = st.reverse.map (fun f => ltr f.v)) (hok : okSt su st) (hct : n + Ct S ≤ 5) (hw : Wt su S st < 100) (hm : Wt su S st < m + 1) (hv : Has kn vs) : CyD m .next vs c
inductive CyE (m k : Nat) (vs : Vars) (c : Cs) : Prop
  | mk (st : List Fm) (S : Str → Bool) (n : Nat) (dk : List (Str × T)) (ec : c = fcs D E I K S n dk su st cs) (hdk : dk.map (·.1) = st.reverse.map (fun f => ltr f.v)) (hok : okSt su st) (hct : n + Ct S ≤ 5) (hw : Wt su S st < 100) (hk : Wt su S st < k) (hm : Wt su S st < m + 1) (hv : Has kn vs)
end
section
variable {g : Gx} {A : Around} {cs : Cs} {P : T → Cs → Prop}
theorem cycle_spec {n : Nat} {S d : Addr} {rn : T} {a b : Int} {na : Nat → Addr} {np : Nat → Int} {su : Nat → List Nat} (hr : Room A (n + 2)) (hsu : ∀ i < 5, (su i).length ≤ 5 ∧ ∀ k ∈ su i, i < k ∧ k < 5)
    (h1 : (S, C.inst 305 d) ∈ cs) (h2 : (d, C.dict (dT (.dict (tabN na)) rn a b)) ∈ cs) (h3 : ∀ i < 5, (na i, nodeC i (np i) (lTs (su i))) ∈ cs) (h : P .none cs) : Cal g A (.raw (.ref 295)) [.cel S] [] cs P := by
  refine Cal.fnT (n := n + 1) (bs := [("self", .cel S)]) hr rfl rfl (BindP.pl1 (fun v => ?_)) (fun L A' outer hr' hA => ?_) rfl (by simp) (by decide)
  · rfl
  have hh := hr'.1
  refine Ex.cons ?_
  refine Ex1.assignL ?_
  refine Ev.attr ?_
  walk_at "ev"
  refine Att.own (.cel h1 h2) rfl rfl ?_ (ts_plain _ _) (ts_dict _) (ts_n _) rfl
  refine Ex.cons ?_
  refine Ex1.assignL ?_
  refine Ev.listC (Evs.nil ⟨le_line rfl, fun K => ?_⟩)
  refine Ex.cons ?_
  refine Ex1.assignL ?_
  refine Ev.listC (Evs.nil ⟨le_line rfl, fun I => ?_⟩)
  refine Ex.cons ?_
  refine Ex1.assignL ?_
  refine Ev.call (Ev.b_set ⟨rfl, rfl, rfl, rfl⟩ ?_)
  walk_at "ev"
  refine Cal.set0 fun E => ?_
  refine Ex.cons ?_
  refine Ex1.assignL (Ev.dict0 fun D => ?_)
  let kn : Vars := [("n2i", .dict (tabN na)), ("stack", .cel K), ("itstack", .cel I), ("seen", .cel E), ("node2stacki", .cel D)]
  refine Ex.cons ?_
  refine Ex1.for_ ?_
  walk_at "ev"
  refine ⟨_, _, Itb.keys hh (tab_nodup _ _), ?_⟩
  have ekeys : ((tabN na).map fun p => T.str p.1) = (List.range 5).map lT := by
    unfold tabN tabT
    rw [List.map_map]; rfl
  rw [ekeys]
  refine ForP.inv (CyA D E I K su cs kn) ?_ ?_ _ _ _ ⟨List.range 5, fun _ => false, 0, rfl, fun v hv => List.mem_range.mp hv, rfl, by decide +kernel, ?_, rfl, rfl, rfl, rfl, rfl, trivial⟩
  · rintro u rest vars c ⟨todo, S₁, n₁, e, ht, rfl, hct, hw, hv⟩
    cases todo with
    | nil => cases e
    | cons v todo =>
    simp only [List.map_cons, List.cons.injEq] at e
    obtain ⟨rfl, rfl⟩ := e
    have hv5 := ht v (.head _)
    refine As.weaken hv.k (As.nameL ?_)
    refine Ex.cons ?_
    refine Ex1.ifs ?_
    refine Ts.cmp ?_
    repeat walk_at "ev"
    refine Op2.inSet (.tail _ (.head _)) ⟨_, rfl, fun hs => ?_, fun hs => ?_⟩
    · refine Ex.cons ?_
      refine Ex1.cont ?_
      exact ⟨todo, S₁, n₁, rfl, fun x hx => ht x (.tail _ hx), rfl, hct, hw, rfl, rfl, rfl, rfl, rfl, trivial⟩
    refine Ex.nil ?_
    refine Ex.cons ?_
    refine StT.mono (P := CyB D E I K su cs kn) ?_ ?_
    · refine Ex1.while_ 101 ?_
      refine WhP.ind (CyC D E I K su cs kn) ?_ (fun vs c z => by obtain ⟨_, _, _, _, _, _, _, _, _, _, _, _, z, _⟩ := z; omega) _ _ _ ⟨[], S₁, n₁, [], v, rfl, rfl, ⟨.nil, fun f hf => nomatch hf⟩, hv5, fun f hf => (nomatch hf), hct, hw, by omega, rfl, rfl, rfl, rfl, rfl, rfl, trivial⟩
      rintro m vs c ⟨st, S₂, n₂, dk, v, rfl, hdk, hok, hv5, hvs, hct, hw, hm, hvv⟩
      refine Ts.val ?_
      walk_at "ev"
      refine ⟨true, Tu.bool _, fun _ => ?_, fun z => (by cases z)⟩
      refine StT.weaken hvv.k ?_
      have dnd : (dk.map (·.1)).Nodup := by
        rw [hdk]
        have : (st.reverse.map fun f => ltr f.v) = ((st.map fun f => f.v).reverse).map ltr := by rw [← List.map_reverse, List.map_map]; rfl
        rw [this]
        have hnd : ((st.map fun f => f.v).reverse).Nodup := by
          exact List.pairwise_reverse.mpr (hok.1.imp fun h => Nat.ne_of_lt h)
        exact List.pairwise_map.mpr (hnd.imp fun h e => h (ltr_inj e))
      have dlk : dk.lookup (ltr v) = none := by
        rw [List.lookup_eq_none_iff]
        intro p hp
        have hm : p.1 ∈ dk.map (·.1) := List.mem_map_of_mem hp
        rw [hdk] at hm
        obtain ⟨f, hf, e⟩ := List.mem_map.mp hm
        have hf' := hvs f (List.mem_reverse.mp hf)
        have : ¬ ltr v = p.1 := fun z => by rw [← e] at z; have := ltr_inj z; omega
        simpa using this
      have stlen : st.length ≤ 100 := by
        have : ∀ l : List Fm, l.length ≤ (l.map fun f => (su f.v).length - f.i + 1).sum := by
          intro l
          induction l with
          | nil => simp
          | cons f l ih => simp only [List.map_cons, List.sum_cons, List.length_cons]; omega
        have := this st
        unfold Wt at hw
        omega
      refine Ex.cons ?_
      refine StT.mono (P := CyD D E I K su cs kn m) ?_ ?_
      · refine Ex1.ifs ?_
        refine Ts.cmp ?_
        repeat walk_at "ev"
        refine Op2.inSet (.tail _ (.head _)) ⟨_, rfl, fun hs => ?_, fun hs => ?_⟩
        · refine Ex.cons ?_
          refine Ex1.ifs ?_
          refine Ts.cmp ?_
          repeat walk_at "ev"
          refine Op2.inD (.cel (.head _)) ?_
          rw [dlk]
          refine ⟨_, rfl, fun z => (by cases z), fun _ => ?_⟩
          refine Ex.nil ?_
          exact Ex.nil ⟨st, S₂, n₂, dk, rfl, hdk, hok, hct, hw, hm, rfl, rfl, rfl, rfl, rfl, trivial⟩
        · have hC := C_add hv5 hs
          refine Ex.cons ?_
          refine Ex1.expr ?_
          refine Ev.meth ?_
          walk_at "ev"
          refine ⟨_, _, GM.setAdd (.tail _ (.head _)), ?_⟩
          repeat walk_at "ev"
          refine Cal.setAdd (.tail .head) (by omega) ?_
          rw [hs]
          simp only [Bool.false_eq_true, if_false]
          refine Ex.cons ?_
          refine Ex1.expr ?_
          refine Ev.meth ?_
          walk_at "ev"
          refine ⟨_, _, GM.append (.cel (.tail _ (.tail _ (.head _)))), ?_⟩
          refine ArgP.cons ?_
          refine Evs.cons ?_
          refine Ev.attr ?_
          refine Ev.call (Ev.b_iter ⟨rfl, rfl, rfl, rfl⟩ ?_)
          refine ArgP.cons ?_
          refine Evs.cons ?_
          refine Ev.attr ?_
          repeat walk_at "ev"
          refine Sub.dict (.fz _) (mod_letters hv5 na) ?_
          refine Att.slot (sl_su _) (.tail _ (.tail _ (.tail _ (.tail _ (List.mem_append_right _ (h3 v hv5)))))) rfl rfl ?_
          walk_at "ev"
          refine Cal.iter (.fz _) fun it => ?_
          refine Att.iterNext (.head _) ?_
          walk_at "ev"
          refine Cal.append (.tail (.tail (.tail .head))) (by rw [sizeLine_eq, List.length_map, List.length_reverse]; omega) ?_
          refine Ex.cons ?_
          refine Ex1.setItem ?_
          refine Ev.call (Ev.b_len ⟨rfl, rfl, rfl, rfl⟩ ?_)
          repeat walk_at "ev"
          refine Cal.len (.cel (.tail _ (.tail _ (.tail _ (.tail _ (.head _)))))) (by rw [List.length_map, List.length_reverse]; omega) ?_
          repeat walk_at "ev"
          refine ⟨D, _, dk, _, rfl, rfl, .tail .head, dnd, ?_, ?_⟩
          · have : dk.length = st.length := by have := congrArg List.length hdk; simpa using this
            rw [sizeLine_eq]; omega
          refine Ex.cons ?_
          refine Ex1.expr ?_
          refine Ev.meth ?_
          walk_at "ev"
          refine ⟨_, _, GM.append (.cel (.tail _ (.tail _ (.tail _ (.tail _ (.head _)))))), ?_⟩
          repeat walk_at "ev"
          refine Cal.append (.tail (.tail (.tail (.tail .head)))) (by rw [sizeLine_eq, List.length_map, List.length_reverse]; omega) ?_
          have hput : (putT dk (ltr v) (T.int ((st.reverse.map fun f => lT f.v).length : Int))).map (·.1) = ((⟨v, it, 0⟩ : Fm) :: st).reverse.map (fun f => ltr f.v) := by
            unfold putT
            rw [if_neg (fun z => ?_), List.map_append, hdk]
            · simp
            · obtain ⟨p, hp, e⟩ := List.any_eq_true.mp z
              have e' : p.1 = ltr v := by simpa using e
              have := List.lookup_eq_none_iff.mp dlk p hp
              rw [e'] at this
              simp at this
          refine StT.perm (cs' := fcs D E I K (addS S₂ v) (n₂ + 1) (putT dk (ltr v) (T.int ((st.reverse.map fun f => lT f.v).length : Int))) su (⟨v, it, 0⟩ :: st) cs) ?_ ?_
          · unfold fcs
            simp only [itC, List.map_cons, List.reverse_cons, List.map_append, List.map_nil, List.cons_append]
            exact (List.perm_middle (l₁ := [(D, C.dict (putT dk (ltr v) (T.int ((st.reverse.map fun f => lT f.v).length : Int)))), (E, C.set (addS S₂ v) (n₂ + 1)), (I, C.list (List.map fT st.reverse ++ [fT ⟨v, it, 0⟩])), (K, C.list (List.map (fun f => lT f.v) st.reverse ++ [lT v]))]) (a := (it, C.iter (some (lTs (su v))) 0)) (l₂ := List.map (fun f => (f.it, C.iter (some (lTs (su f.v))) f.i)) st ++ cs))
          have hW := W_add (su := su) (it := it) (st := st) hv5 hs
          refine Ex.nil ⟨⟨v, it, 0⟩ :: st, addS S₂ v, n₂ + 1, _, rfl, hput, ⟨?_, ?_⟩, by omega, by omega, by omega, rfl, rfl, rfl, rfl, rfl, trivial⟩
          · simp only [List.map_cons, List.pairwise_cons]
            exact ⟨fun x hx => by obtain ⟨f, hf, rfl⟩ := List.mem_map.mp hx; exact hvs f hf, hok.1⟩
          · intro f hf
            rcases List.mem_cons.mp hf with rfl | hf
            · exact hv5
            · exact hok.2 f hf
      clear dnd dlk stlen hvs hdk hok hct hw hm hvv
      rintro _ vars₂ _ ⟨st, S₂, n₂, dk, rfl, hdk, hok, hct, hw, hm, hv₂⟩
      refine StT.weaken hv₂.k ?_
      refine Ex.cons ?_
      refine StT.mono (P := fun fl vs c => match fl with
        | .next => CyC D E I K su cs kn m vs c
        | .brk => CyB D E I K su cs kn .next vs c
        | _ => False) ?_ ?_
      · refine Ex1.while_ 101 ?_
        refine WhP.ind (CyE D E I K su cs kn m) ?_ (fun vs c z => by obtain ⟨_, _, _, _, _, _, _, _, _, z, _⟩ := z; omega) _ _ _ ⟨st, S₂, n₂, dk, rfl, hdk, hok, hct, hw, by omega, hm, rfl, rfl, rfl, rfl, rfl, trivial⟩
        rintro k vs c ⟨st, S₂, n₂, dk, rfl, hdk, hok, hct, hw, hk, hm, hv₂⟩
        have stlen : st.length ≤ 100 := by
          have : ∀ l : List Fm, l.length ≤ (l.map fun f => (su f.v).length - f.i + 1).sum := by
            intro l
            induction l with
            | nil => simp
            | cons f l ih => simp only [List.map_cons, List.sum_cons, List.length_cons]; omega
          have := this st
          unfold Wt at hw
          omega
        refine Ts.val ?_
        refine Ev.name hv₂.2.1 ?_
        refine ⟨_, Tu.list (.cel (.tail _ (.tail _ (.tail _ (.head _))))) (by rw [sizeLine_eq, List.length_map, List.length_reverse]; omega), fun hb => ?_, fun hb => ?_⟩
        · cases st with
          | nil => cases hb
          | cons f st =>
          have hf5 : f.v < 5 := hok.2 f (.head _)
          refine StT.weaken hv₂.k ?_
          refine Ex.cons ?_
          have eI : ((f :: st).reverse.map fT) = st.reverse.map fT ++ [fT f] := by simp
          have eK : ((f :: st).reverse.map fun f => lT f.v) = (st.reverse.map fun f => lT f.v) ++ [lT f.v] := by simp
          refine Ex1.try_ (T := "StopIteration") (PX := fun v c => Has kn v ∧ c = (D, .dict dk) :: (E, .set S₂ n₂) :: (I, .list (st.reverse.map fT ++ [fT f])) :: (K, .list ((st.reverse.map fun f => lT f.v) ++ [lT f.v])) :: (f.it, .iter none f.i) :: (itC su st ++ cs)) hA ?_ ?_ (ns_StopIteration _) PyProof.Rows.Boot.StopIteration isExc_Stop nt_Stop self_Stop
          · refine Ex.cons ?_
            refine Ex1.assignX (.inl rfl) ?_
            refine EvX.call ?_
            refine Ev.sub ?_
            walk_at "ev"
            refine Ev.neg ?_
            refine Sub.listNeg (.cel (.tail _ (.tail _ (.head _)))) (by decide) ?_ (by decide) (u := fT f) ?_ ?_
            · simp; omega
            · have e1 : (-1 + (((f :: st).reverse.map fT).length : Int)).toNat = st.length := by rw [List.length_map, List.length_reverse, List.length_cons]; omega
              rw [e1, eI, List.getElem?_append_right (by simp)]
              simp
            refine ArgP.nil ?_
            refine CalX.next hh (.tail _ (.tail _ (.tail _ (.tail _ (.head _))))) (.fz _) (fun u hu => ?_) fun hu => ?_
            · have hlt : f.i < (su f.v).length := by have := (List.getElem?_eq_some_iff.mp hu).1; simpa using this
              have hu' : u = lT (su f.v)[f.i] := by
                have := (List.getElem?_eq_some_iff.mp hu).2
                rw [← this]; simp
              have hmem : (su f.v)[f.i] ∈ su f.v := List.getElem_mem hlt
              have hin := (hsu f.v hf5).2 _ hmem
              refine ⟨_, .tail (.tail (.tail (.tail .head))), ?_⟩
              refine Ex.cons ?_
              refine Ex1.brk ?_
              have hW := W_step (su := su) (S := S₂) (st := st) hlt
              refine ⟨⟨f.v, f.it, f.i + 1⟩ :: st, S₂, n₂, dk, (su f.v)[f.i], ?_, ?_, ⟨?_, ?_⟩, hin.2, ?_, hct, by omega, by omega, ?_, rfl, rfl, rfl, rfl, rfl, trivial⟩
              · unfold fcs
                rw [eI, eK]
                simp [itC]
              · simpa using hdk
              · simpa using hok.1
              · intro x hx
                rcases List.mem_cons.mp hx with rfl | hx
                · exact hf5
                · exact hok.2 x (.tail _ hx)
              · intro x hx
                rcases List.mem_cons.mp hx with rfl | hx
                · exact hin.1
                · have := hok.1
                  simp only [List.map_cons, List.pairwise_cons] at this
                  have := this.1 x.v (List.mem_map_of_mem hx)
                  show x.v < _
                  omega
              · rw [hu']; rfl
            · refine ⟨_, .tail (.tail (.tail (.tail .head))), ⟨rfl, rfl, rfl, rfl, rfl, trivial⟩, ?_⟩
              rw [eI, eK]
              rfl
          · rintro e vars' _ ⟨hv', rfl⟩
            refine StT.weaken hv'.k ?_
            have hdk2 : dk.map (·.1) = (st.reverse.map fun f => ltr f.v) ++ [ltr f.v] := by rw [hdk]; simp
            have dnd : (dk.map (·.1)).Nodup := by
              rw [hdk]
              have : ((f :: st).reverse.map fun f => ltr f.v) = (((f :: st).map fun f => f.v).reverse).map ltr := by rw [← List.map_reverse, List.map_map]; rfl
              rw [this]
              have hnd : (((f :: st).map fun f => f.v).reverse).Nodup := by
                exact List.pairwise_reverse.mpr (hok.1.imp fun h => Nat.ne_of_lt h)
              exact List.pairwise_map.mpr (hnd.imp fun h e => h (ltr_inj e))
            have dlen : dk.length = st.length + 1 := by have := congrArg List.length hdk; simpa using this
            refine Ex.cons ?_
            refine Ex1.delKey ?_
            walk_at "ev"
            refine Ev.meth ?_
            walk_at "ev"
            refine ⟨_, _, GM.pop (.cel (.tail _ (.tail _ (.tail _ (.head _))))), ?_⟩
            walk_at "ev"
            refine Cal.pop0 (.tail (.tail (.tail .head))) (by rw [sizeLine_eq, List.length_map, List.length_reverse]; simp at stlen; omega) ?_
            refine ⟨D, dk, ltr f.v, _, rfl, rfl, ?_, dnd, .head, by rw [sizeLine_eq]; simp at stlen; omega, ?_⟩
            · cases q : dk.lookup (ltr f.v) with
              | some t => rfl
              | none =>
                rw [List.lookup_eq_none_iff] at q
                have hm : ltr f.v ∈ dk.map (·.1) := by rw [hdk2]; simp
                obtain ⟨p, hp, e⟩ := List.mem_map.mp hm
                have := q p hp
                rw [e] at this
                simp at this
            refine Ex.cons ?_
            refine Ex1.expr ?_
            refine Ev.meth ?_
            walk_at "ev"
            refine ⟨_, _, GM.pop (.cel (.tail _ (.tail _ (.head _)))), ?_⟩
            walk_at "ev"
            refine Cal.pop0 (.tail (.tail .head)) (by rw [sizeLine_eq, List.length_map, List.length_reverse]; simp at stlen; omega) ?_
            refine StT.drop (cs' := fcs D E I K S₂ n₂ (outT dk (ltr f.v)) su st cs) (.cons_cons _ (.cons_cons _ (.cons_cons _ (.cons_cons _ (.cons _ (.refl _)))))) ?_
            have hW := W_pop (su := su) (S := S₂) (f := f) (st := st)
            refine Ex.nil ?_
            refine Ex.nil ⟨st, S₂, n₂, outT dk (ltr f.v), rfl, ?_, ⟨?_, fun x hx => hok.2 x (.tail _ hx)⟩, hct, by omega, by omega, by omega, rfl, rfl, rfl, rfl, rfl, trivial⟩
            · have : (outT dk (ltr f.v)).map (·.1) = (dk.map (·.1)).filter fun x => ¬ x = ltr f.v := by
                unfold outT
                rw [List.filter_map]; rfl
              rw [this, hdk2, List.filter_append]
              have hlast : ([ltr f.v].filter fun x => decide ¬ x = ltr f.v) = [] := by simp
              rw [hlast, List.append_nil]
              rw [List.filter_eq_self]
              intro x hx
              obtain ⟨y, hy, rfl⟩ := List.mem_map.mp hx
              have := hok.1
              simp only [List.map_cons, List.pairwise_cons] at this
              have := this.1 y.v (List.mem_map_of_mem (List.mem_reverse.mp hy))
              have : ¬ ltr y.v = ltr f.v := fun z => by have := ltr_inj z; omega
              simpa using this
            · have := hok.1
              simp only [List.map_cons, List.pairwise_cons] at this
              exact this.2
        · cases st with
          | cons f st => simp at hb
          | nil =>
          have hdk0 : dk = [] := by
            simp at hdk
            exact hdk
          subst hdk0
          refine Ex.cons ?_
          refine Ex1.brk ?_
          exact ⟨S₂, n₂, rfl, hct, hw, hv₂⟩
      · intro fl vs c hp
        cases fl with
        | next =>
          exact Ex.nil hp
        | brk =>
          exact hp
        | cont => exact hp.elim
        | ret r => exact hp.elim
    rintro _ vars₂ _ ⟨S₂, n₂, rfl, hct, hw, hv₂⟩
    exact Ex.nil ⟨todo, S₂, n₂, rfl, fun x hx => ht x (.tail _ hx), rfl, hct, hw, hv₂⟩
  · rintro vars c ⟨todo, S₁, n₁, e, ht, rfl, hct, hw, hv⟩
    refine Ex.nil ?_
    refine StT.drop (cs' := cs) (.cons _ (.cons _ (.cons _ (.cons _ (.refl _))))) ?_
    refine Ex.cons ?_
    refine Ex1.ret ?_
    walk_at "ev"
    exact h
  · have : ∀ u < 5, 2 + (su u).length ≤ 7 := fun u hu => by have := (hsu u hu).1; omega
    unfold Wt unS
    simp [List.range, List.range.loop]
    have a0 := this 0 (by decide); have a1 := this 1 (by decide); have a2 := this 2 (by decide); have a3 := this 3 (by decide); have a4 := this 4 (by decide)
    omega
end
end Mine
end

noncomputable section
open PySem PySem.W PyProof.Rows PySem.Calls
set_option Elab.async false
set_option linter.unusedVariables false
set_option tactic.hygienic false
namespace Mine
noncomputable def miss (bas : Nat → List Nat) (ord : List Nat) (k : Nat) : Nat := ((bas k).filter fun b => b ∉ ord).length
structure RunInv (bas : Nat → List Nat) (ord W : List Nat) (np : Nat → Int) : Prop where
  nd : (ord ++ W).Nodup
  lt : ∀ x ∈ ord ++ W, x < 5
  dn : ∀ i ∈ ord, np i = -2
  wt : ∀ i ∈ W, np i = -1
  un : ∀ i < 5, i ∉ ord → i ∉ W → np i = miss bas ord i ∧ 0 < miss bas ord i
  tp : ∀ pre i post, ord = pre ++ i :: post → ∀ b ∈ bas i, b ∈ pre
  wb : ∀ i ∈ W, ∀ b ∈ bas i, b ∈ ord
structure BasOK (bas : Nat → List Nat) : Prop where
  len : ∀ i < 5, (bas i).length ≤ 2
  lt : ∀ i < 5, ∀ b ∈ bas i, b < i
  nd : ∀ i < 5, (bas i).Nodup
section
variable {bas : Nat → List Nat} {ord W : List Nat} {np : Nat → Int}
theorem mem_su {i k : Nat} : k ∈ suJ bas 5 i ↔ k < 5 ∧ i ∈ bas k := by simp [suJ]
theorem su_nodup (i : Nat) : (suJ bas 5 i).Nodup := List.nodup_range.filter _
theorem su_len (i : Nat) : (suJ bas 5 i).length ≤ 5 := Nat.le_trans (List.length_filter_le _ _) (by simp)
theorem filter_out (l : List Nat) (ord : List Nat) (i : Nat) (nd : l.Nodup) (ho : i ∉ ord) : (l.filter fun b => b ∉ ord).length = (l.filter fun b => b ∉ ord ++ [i]).length + if i ∈ l then 1 else 0 := by
  have hq : (l.filter fun b => decide (b ∉ ord ++ [i])) = l.filter (fun b => decide (b ∉ ord) && !decide (b = i)) := List.filter_congr fun b _ => by
    rw [Bool.eq_iff_iff]
    simp only [decide_eq_true_eq, Bool.and_eq_true, Bool.not_eq_true', decide_eq_false_iff_not, List.mem_append, List.mem_singleton, not_or]
  have hl : ∀ m : List Nat, (m.map fun _ => 1).sum = m.length := fun m => by
    induction m with
    | nil => rfl
    | cons x m ih => rw [List.map_cons, List.sum_cons, List.length_cons, ih, Nat.add_comm]
  by_cases h : i ∈ l
  · have := sum_filter (fun _ => 1) (fun b => decide (b ∉ ord)) i (by simpa using ho) l nd h
    rw [hl, hl] at this
    rw [hq, if_pos h]
    exact this
  · rw [if_neg h, hq, Nat.add_zero]
    congr 1
    refine List.filter_congr fun b hb => ?_
    have : ¬ b = i := fun z => h (z ▸ hb)
    simp [this]
theorem miss_step {i k : Nat} (hk : (bas k).Nodup) (ho : i ∉ ord) : miss bas ord k = miss bas (ord ++ [i]) k + if i ∈ bas k then 1 else 0 := filter_out _ _ _ hk ho
theorem miss_zero {k : Nat} : miss bas ord k = 0 ↔ ∀ b ∈ bas k, b ∈ ord := by
  unfold miss
  rw [List.length_eq_zero_iff, List.filter_eq_nil_iff]
  simp
noncomputable def start0 (bas : Nat → List Nat) : List Nat := (List.range 5).filter fun i => decide (((bas i).length : Int) = 0)
theorem run_start (hb : BasOK bas) : RunInv bas [] (start0 bas) (outN (fun i => ((bas i).length : Int)) (start0 bas)) := by
  have hmem : ∀ i, i ∈ start0 bas ↔ i < 5 ∧ bas i = [] := fun i => by simp [start0]
  refine ⟨by rw [List.nil_append]; exact List.nodup_range.filter _, fun x hx => ((hmem x).mp (by simpa using hx)).1, fun i hi => (nomatch hi), fun i hi => (by simp [outN, hi]), fun i hi _ hw => ?_, fun pre i post e => (by simp at e), fun i hi b hbm => ?_⟩
  · have hne : bas i ≠ [] := fun z => hw ((hmem i).mpr ⟨hi, z⟩)
    have hm : miss bas [] i = (bas i).length := by simp [miss]
    refine ⟨by simp [outN, hw, hm], ?_⟩
    rw [hm]
    exact List.length_pos_iff.mpr hne
  · rw [((hmem i).mp hi).2] at hbm; cases hbm
theorem erase_mem {W : List Nat} {j : Nat} {i : Nat} (h : W[j]? = some i) : W.Perm (i :: W.eraseIdx j) := by
  induction W generalizing j with
  | nil => simp at h
  | cons x W ih =>
    cases j with
    | zero => simp at h; subst h; simp
    | succ j =>
      simp at h
      simp only [List.eraseIdx_cons_succ]
      exact ((ih h).cons x).trans (.swap _ _ _)
theorem run_step (hb : BasOK bas) (I : RunInv bas ord W np) {j i : Nat} (hj : W[j]? = some i) :
    np i = -1 ∧ i < 5 ∧ RunInv bas (ord ++ [i]) (W.eraseIdx j ++ newR np (suJ bas 5 i)) (outN (doneN np i (suJ bas 5 i)) (newR np (suJ bas 5 i))) := by
  have pm := erase_mem hj
  have hiW : i ∈ W := pm.mem_iff.mpr (.head _)
  have hnd := I.nd
  rw [List.nodup_append] at hnd
  obtain ⟨n1, n2, n3⟩ := hnd
  have n2' := (pm.nodup_iff.mp n2)
  have hi5 : i < 5 := I.lt i (List.mem_append_right _ hiW)
  have hio : i ∉ ord := fun z => n3 i z i hiW rfl
  have hie : i ∉ W.eraseIdx j := (List.nodup_cons.mp n2').1
  have eW : ∀ x, x ∈ W ↔ x = i ∨ x ∈ W.eraseIdx j := fun x => by rw [pm.mem_iff]; exact List.mem_cons
  have dnb : ∀ k ∈ ord, ∀ b ∈ bas k, b ∈ ord := fun k hk b hbm => by
    obtain ⟨pre, post, e⟩ := List.append_of_mem hk
    rw [e]
    exact List.mem_append_left _ (I.tp pre k post e b hbm)
  have hs : ∀ k ∈ suJ bas 5 i, k < 5 ∧ k ∉ ord ∧ k ∉ W ∧ i ∈ bas k := fun k hk => by
    obtain ⟨h5, hm⟩ := mem_su.mp hk
    exact ⟨h5, fun z => hio (dnb k z i hm), fun z => hio (I.wb k z i hm), hm⟩
  have hR : ∀ k, k ∈ newR np (suJ bas 5 i) ↔ k ∈ suJ bas 5 i ∧ np k - 1 = 0 := fun k => by simp [newR]
  have hRm : ∀ k ∈ newR np (suJ bas 5 i), ∀ b ∈ bas k, b ∈ ord ++ [i] := fun k hk => by
    obtain ⟨hks, he⟩ := (hR k).mp hk
    obtain ⟨h5, ho, hw, hm⟩ := hs k hks
    have hu := I.un k h5 ho hw
    have ms := miss_step (bas := bas) (hb.nd k h5) hio (k := k)
    rw [if_pos hm] at ms
    exact miss_zero.mp (by omega)
  refine ⟨I.wt i hiW, hi5, ⟨?_, fun x hx => ?_, fun k hk => ?_, fun k hk => ?_, fun k h5 ho hw => ?_, fun pre k post e b hbm => ?_, fun k hk b hbm => ?_⟩⟩
  · rw [List.nodup_append]
    refine ⟨?_, ?_, fun x hx y hy e => ?_⟩
    · rw [List.nodup_append]
      exact ⟨n1, by simp, fun x hx y hy e => by rw [List.mem_singleton.mp hy] at e; subst e; exact hio hx⟩
    · rw [List.nodup_append]
      refine ⟨(List.nodup_cons.mp n2').2, (su_nodup i).filter _, fun x hx y hy e => ?_⟩
      subst e
      exact (hs x ((hR x).mp hy).1).2.2.1 ((eW x).mpr (.inr hx))
    · subst e
      rcases List.mem_append.mp hy with hy | hy
      · rcases List.mem_append.mp hx with hx | hx
        · exact n3 x hx x ((eW x).mpr (.inr hy)) rfl
        · rw [List.mem_singleton.mp hx] at hy; exact hie hy
      · have := hs x ((hR x).mp hy).1
        rcases List.mem_append.mp hx with hx | hx
        · exact this.2.1 hx
        · rw [List.mem_singleton.mp hx] at this
          exact this.2.2.1 hiW
  · rcases List.mem_append.mp hx with hx | hx
    · rcases List.mem_append.mp hx with hx | hx
      · exact I.lt x (List.mem_append_left _ hx)
      · rw [List.mem_singleton.mp hx]; exact hi5
    · rcases List.mem_append.mp hx with hx | hx
      · exact I.lt x (List.mem_append_right _ ((eW x).mpr (.inr hx)))
      · exact (hs x ((hR x).mp hx).1).1
  · have hkR : k ∉ newR np (suJ bas 5 i) := fun z => by
      have := hs k ((hR k).mp z).1
      rcases List.mem_append.mp hk with hk | hk
      · exact this.2.1 hk
      · rw [List.mem_singleton.mp hk] at this; exact this.2.2.1 hiW
    have hks : k ∉ suJ bas 5 i := fun z => by
      have := hs k z
      rcases List.mem_append.mp hk with hk | hk
      · exact this.2.1 hk
      · rw [List.mem_singleton.mp hk] at this; exact this.2.2.1 hiW
    simp only [outN, hkR, if_false, doneN, hks, Int.sub_zero]
    rcases List.mem_append.mp hk with hk | hk
    · have : ¬ k = i := fun z => hio (z ▸ hk)
      rw [if_neg this]; exact I.dn k hk
    · rw [if_pos (List.mem_singleton.mp hk)]
  · rcases List.mem_append.mp hk with hk | hk
    · have hkW := (eW k).mpr (.inr hk)
      have hkR : k ∉ newR np (suJ bas 5 i) := fun z => (hs k ((hR k).mp z).1).2.2.1 hkW
      have hks : k ∉ suJ bas 5 i := fun z => (hs k z).2.2.1 hkW
      have hki : ¬ k = i := fun z => hie (z ▸ hk)
      simp only [outN, hkR, if_false, doneN, hks, Int.sub_zero, hki]
      exact I.wt k hkW
    · simp [outN, hk]
  · have hki : ¬ k = i := fun z => ho (List.mem_append_right _ (by rw [z]; exact .head _))
    have ho' : k ∉ ord := fun z => ho (List.mem_append_left _ z)
    have hwe : k ∉ W.eraseIdx j := fun z => hw (List.mem_append_left _ z)
    have hw' : k ∉ W := fun z => by
      rcases (eW k).mp z with z | z
      · exact hki z
      · exact hwe z
    have hkR : k ∉ newR np (suJ bas 5 i) := fun z => hw (List.mem_append_right _ z)
    have hu := I.un k h5 ho' hw'
    have ms := miss_step (bas := bas) (hb.nd k h5) hio (k := k)
    simp only [outN, hkR, if_false, doneN, hki]
    by_cases hm : i ∈ bas k
    · have hks : k ∈ suJ bas 5 i := mem_su.mpr ⟨h5, hm⟩
      rw [if_pos hm] at ms
      have hnz : ¬ np k - 1 = 0 := fun z => hkR ((hR k).mpr ⟨hks, z⟩)
      rw [if_pos hks]
      have := hu.1
      refine ⟨by omega, ?_⟩
      omega
    · have hks : k ∉ suJ bas 5 i := fun z => hm (mem_su.mp z).2
      rw [if_neg hm] at ms
      rw [if_neg hks]
      have := hu.1
      have := hu.2
      exact ⟨by omega, by omega⟩
  · rcases List.eq_nil_or_concat post with rfl | ⟨post', x, rfl⟩
    · have e' : ord ++ [i] = pre ++ [k] := e
      obtain ⟨rfl, e3⟩ := List.append_inj' e' rfl
      cases e3
      exact I.wb i hiW b hbm
    · have e' : ord ++ [i] = (pre ++ k :: post') ++ [x] := by simpa using e
      obtain ⟨e3, _⟩ := List.append_inj' e' rfl
      exact I.tp pre k post' e3 b hbm
  · rcases List.mem_append.mp hk with hk | hk
    · exact List.mem_append_left _ (I.wb k ((eW k).mpr (.inr hk)) b hbm)
    · exact hRm k hk b hbm
theorem run_end (hb : BasOK bas) (I : RunInv bas ord [] np) : ∀ i < 5, i ∈ ord := by
  intro i
  induction i using Nat.strongRecOn with
  | _ i ih =>
    intro hi
    apply Classical.byContradiction
    intro ho
    have hu := I.un i hi ho (by simp)
    have : miss bas ord i = 0 := miss_zero.mpr fun b hbm => ih b (hb.lt i hi b hbm) (Nat.lt_trans (hb.lt i hi b hbm) hi)
    omega
theorem run_len (I : RunInv bas ord W np) : ord.length + W.length ≤ 5 := by
  have : (ord ++ W).length ≤ (List.range 5).length := List.Nodup.length_le_of_subset I.nd fun x hx => List.mem_range.mpr (I.lt x hx)
  simpa using this
end
end Mine
end

noncomputable section
open PySem PySem.W PyProof.Rows PySem.Calls
set_option Elab.async false
set_option linter.unusedVariables false
set_option maxRecDepth 100000
set_option pp.deepTerms false
set_option pp.deepTerms.threshold 3
set_option tactic.hygienic false
namespace Mine

section
variable {g : Gx} {A : Around} {env : Env} {vars caps : Vars} {x : Str} {scope : Scope} {cl : List (Str × Addr)} {P : T → Cs → Prop} {cs : Cs} {ct elt : Expr}
theorem CompT.filterI {ι : Type} (f : ι → T) (b : ι → Bool) (r : ι → T) {todo : List ι} {acc : List T} (H1 : ∀ u ∈ todo, ∀ C, Ts g A (compEnvC scope cl C env) ((x, f u) :: caps) ct cs fun c cs' => c = b u ∧ cs' = cs) (H2 : ∀ u ∈ todo, b u = true → ∀ C, Ev g A (compEnvC scope cl C env) ((x, f u) :: caps) elt cs fun t cs' => t = r u ∧ cs' = cs)
    (h : P (.list (acc ++ (todo.filter b).map r)) cs) : CompT g A env x scope cl caps P ct elt (todo.map f) acc cs := by
  induction todo generalizing acc with
  | nil => simpa [CompT] using h
  | cons u us ih =>
    intro C c s Q E V R k
    refine H1 u (.head _) C c s Q E V R fun fz' d cs' h' tk' m e R' => ?_
    obtain ⟨rfl, rfl⟩ := e
    refine k fz' _ cs' h' tk' m ⟨fun hb => ?_, fun hb => ?_⟩ R'
    · refine (H2 u (.head _) hb C).mono fun t cs'' e => ?_
      obtain ⟨rfl, rfl⟩ := e
      exact ih (fun u hu => H1 u (.tail _ hu)) (fun u hu => H2 u (.tail _ hu)) (by simpa [List.filter_cons, hb] using h)
    · exact ih (fun u hu => H1 u (.tail _ hu)) (fun u hu => H2 u (.tail _ hu)) (by simpa [List.filter_cons, hb] using h)
end
section
variable {g : Gx} {A : Around} {cs : Cs} {P : T → Cs → Prop}
theorem tinit {n : Nat} {S d : Addr} (hr : Room A (n + 2)) (h : ∀ N, P .none ((N, .dict []) :: (S, .inst 305 d) :: (d, .dict (dT (.cel N) .none 0 0)) :: cs)) : CalC g A (.ref 241) [.cel S] [] ((S, .inst 305 d) :: (d, .dict []) :: cs) P := by
  refine CalC.fn (n := n + 1) (bs := [("self", .cel S), ("graph", .none)]) hr rfl rfl (BindP.dflt (dts := [.none]) (dvs := [.none]) rfl rfl (fun vs hv => ?_) (fun _ => .cons .none .nil) rfl) (fun L A' hr' => ?_) rfl (by show (["self", "graph"] : List Str).Nodup; decide) (by decide)
  · obtain ⟨v, rfl⟩ := List.length_eq_one_iff.mp hv
    exact ⟨_, rfl, rfl⟩
  refine Ex.cons ?_
  refine Ex1.setAttr ?_
  refine Ev.dict0 fun N => ?_
  walk_at "ev"
  refine SetA.own (.tail _ (.head _)) (.tail (.tail .head)) (by simp) (by simp) ?_ (ts_seta _) (ts_over _) (tt_n _) (ts_dict _)
  refine Ex.cons ?_
  refine Ex1.setAttr ?_
  walk_at "ev"
  walk_at "ev"
  refine SetA.own (.tail _ (.head _)) (.tail (.tail .head)) (by show (["_node2info"] : List Str).Nodup; decide) (by show (1 : Nat) ≤ 500; decide) ?_ (ts_seta _) (ts_over _) (tt_r _) (ts_dict _)
  refine Ex.cons ?_
  refine Ex1.setAttr ?_
  walk_at "ev"
  walk_at "ev"
  refine SetA.own (.tail _ (.head _)) (.tail (.tail .head)) (by show (["_node2info", "_ready_nodes"] : List Str).Nodup; decide) (by show (2 : Nat) ≤ 500; decide) ?_ (ts_seta _) (ts_over _) (tt_p _) (ts_dict _)
  refine Ex.cons ?_
  refine Ex1.setAttr ?_
  walk_at "ev"
  walk_at "ev"
  refine SetA.own (.tail _ (.head _)) (.tail (.tail .head)) (by show (["_node2info", "_ready_nodes", "_npassedout"] : List Str).Nodup; decide) (by show (3 : Nat) ≤ 500; decide) ?_ (ts_seta _) (ts_over _) (tt_f _) (ts_dict _)
  refine Ex.cons ?_
  refine Ex1.ifs ?_
  refine Ts.cmp ?_
  repeat walk_at "ev"
  refine Op2.isNotNone ⟨_, rfl, fun z => (by cases z), fun _ => ?_⟩
  refine Ex.nil ?_
  exact Ex.nil (h N)
theorem mk_305 (P : Params) : makesIn (kk P) 305 = true := by rfl
theorem ts_init (P : Params) : findIn (kk P) (.ref 305) "__init__" = some (some (.ref 241)) := by rfl
theorem fn_241 (P : Params) : isFn (kk P) (.ref 241) = true := by rfl
theorem kp_305 (P : Params) : keepIn (kk P) (.ref 305) = true := by rfl
theorem mkTS {n : Nat} (hr : Room A (n + 3)) (h : ∀ S d N, P (.cel S) ((N, .dict []) :: (S, .inst 305 d) :: (d, .dict (dT (.cel N) .none 0 0)) :: cs)) : Cal g A (.raw (.ref 305)) [] [] cs P :=
  Cal.mk (n := n + 2) hr (fun A' hr' S d => tinit hr' fun N => ⟨rfl, h S d N⟩) (mk_305 _) (ts_init _) (fn_241 _) (kp_305 _)
theorem prepare_spec {n : Nat} {S d : Addr} {na : Nat → Addr} {np : Nat → Int} {su : Nat → List Nat} (hr : Room A (n + 3)) (hsu : ∀ i < 5, (su i).length ≤ 5 ∧ ∀ k ∈ su i, i < k ∧ k < 5)
    (h : ∀ R, P .none (rAll S d R 0 0 na np su ((List.range 5).filter fun i => decide (np i = 0)) cs)) : Cal g A (.raw (.ref 260)) [.cel S] [] ((S, .inst 305 d) :: (d, .dict (dT (.dict (tabN na)) .none 0 0)) :: (fC na np su 5 ++ cs)) P := by
  refine Cal.fn (n := n + 2) (bs := [("self", .cel S)]) hr rfl rfl (BindP.pl1 (fun v => ?_)) (fun L A' hr' => ?_) rfl (by simp) (by decide)
  · rfl
  have hh := hr'.1
  refine Ex.cons ?_
  refine Ex1.ifs ?_
  refine Ts.cmp ?_
  refine Ev.attr ?_
  walk_at "ev"
  refine Att.own (.cel (.head _) (.tail _ (.head _))) rfl rfl ?_ (ts_plain _ _) (ts_dict _) (ts_r _) rfl
  walk_at "ev"
  refine Op2.isNotNone ⟨_, rfl, fun z => (by cases z), fun _ => ?_⟩
  refine Ex.nil ?_
  refine Ex.cons ?_
  refine Ex1.setAttr ?_
  refine Ev.compTVC hh (caps := []) ?_ ?_
  · exact .nil
  refine Ev.attr ?_
  walk_at "ev"
  refine Att.own (.cel (.head _) (.tail _ (.head _))) rfl rfl ?_ (ts_plain _ _) (ts_dict _) (ts_n _) rfl
  refine ⟨_, rfl, tab_nodup _ _, by rw [sizeLine_eq]; show (tabT _ 5).length ≤ _; rw [tab_len]; omega, ?_⟩
  have evals : ((tabN na).map fun p => p.2) = (List.range 5).map fun i => T.cel (na i) := by
    unfold tabN tabT
    rw [List.map_map]; rfl
  rw [evals]
  refine CompT.filterI (fun i => T.cel (na i)) (fun i => decide (np i = 0)) lT (fun i hi C => ?_) (fun i hi _ C => ?_) ?_
  · have hi5 := List.mem_range.mp hi
    refine Ts.cmp ?_
    refine Ev.attr ?_
    walk_at "ev"
    refine Att.slot (sl_np _) (.tail _ (.tail _ (List.mem_append_left _ (fC_node hi5)))) rfl rfl ?_
    walk_at "ev"
    refine Op2.eq hr' (.fz rfl) (.fz rfl) fun q hq => ⟨q, rfl, ?_, rfl⟩
    rw [Bool.eq_iff_iff, hq]
    simp
  · have hi5 := List.mem_range.mp hi
    refine Ev.attr ?_
    walk_at "ev"
    exact Att.slot (sl_node _) (.tail _ (.tail _ (List.mem_append_left _ (fC_node hi5)))) rfl rfl ⟨rfl, rfl⟩
  intro R
  walk_at "ev"
  refine SetA.own (.tail _ (.head _)) (.tail (.tail .head)) (by show (["_node2info", "_ready_nodes", "_npassedout", "_nfinished"] : List Str).Nodup; decide) (by show (4 : Nat) ≤ 500; decide) ?_ (ts_seta _) (ts_over _) (tt_r _) (ts_dict _)
  rw [List.nil_append]
  refine StT.perm (cs' := rAll S d R 0 0 na np su ((List.range 5).filter fun i => decide (np i = 0)) cs) ?_ ?_
  · unfold rAll
    exact ((List.Perm.cons _ (.swap _ _ _)).trans (.swap _ _ _))
  refine Ex.cons ?_
  refine Ex1.assignL ?_
  refine Ev.meth ?_
  walk_at "ev"
  refine ⟨_, _, GM.own (.cel (.head _) (.tail _ (.head _))) rfl (ts_plain _ _) (tm_cyc _) (fn_295 _), ?_⟩
  walk_at "ev"
  refine cycle_spec (n := n) hr' hsu (.head _) (.tail _ (.head _)) (fun i hi => .tail _ (.tail _ (.tail _ (List.mem_append_left _ (fC_node hi))))) ?_
  refine Ex.cons ?_
  refine Ex1.ifs ?_
  refine Ts.val ?_
  walk_at "ev"
  refine ⟨false, Tu.none, fun z => (by cases z), fun _ => ?_⟩
  refine Ex.nil ?_
  exact Ex.nil (h R)
end
end Mine
end

noncomputable section
open PySem PySem.W PyProof.Rows PySem.Calls
set_option Elab.async false
set_option linter.unusedVariables false
set_option maxRecDepth 100000
set_option pp.deepTerms false
set_option pp.deepTerms.threshold 3
set_option tactic.hygienic false
namespace Mine

theorem CU.appR {a : Addr} {c c' : C} {m m' : Cs} (h : CU a c c' m m') : ∀ l : Cs, CU a c c' (l ++ m) (l ++ m')
  | [] => h
  | _ :: l => .tail (CU.appR h l)
section
variable {S d R : Addr} {a b : Int} {na : Nat → Addr} {np : Nat → Int} {su : Nat → List Nat} {rdy : List Nat} {cs cs' : Cs}
theorem rAll_cu {x : Addr} {k k' : C} (h : CU x k k' cs cs') : CU x k k' (rAll S d R a b na np su rdy cs) (rAll S d R a b na np su rdy cs') := .tail (.tail (.tail (h.appR _)))
theorem rAll_cons {p : Addr × C} : (rAll S d R a b na np su rdy (p :: cs)).Perm (p :: rAll S d R a b na np su rdy cs) := by
  have := List.perm_middle (a := p) (l₁ := (S, C.inst 305 d) :: (d, C.dict (dT (.dict (tabN na)) (.cel R) a b)) :: (R, C.list (rdy.map lT)) :: fC na np su 5) (l₂ := cs)
  simpa [rAll] using this
theorem rAll_mem {p : Addr × C} (h : p ∈ cs) : p ∈ rAll S d R a b na np su rdy cs := .tail _ (.tail _ (.tail _ (List.mem_append_right _ h)))
end
theorem erase_map {α β : Type} (f : α → β) : ∀ (l : List α) (n : Nat), (l.map f).eraseIdx n = (l.eraseIdx n).map f
  | [], n => by simp
  | x :: l, 0 => by simp
  | x :: l, n + 1 => by simp [erase_map f l n]
section
variable {g : Gx} {A : Around} {cs : Cs} {P : T → Cs → Prop}
/-- a bound method of an own class, as a value -/
theorem Att.bound {x K d f : Addr} {ds : List (Str × T)} {name : Str} (h1 : (x, C.inst K d) ∈ cs) (h2 : (d, C.dict ds) ∈ cs) (hl : ds.lookup name = none) (hg : plainGet (kk g.w.params) K name = true) (hh : hasDictIn (kk g.w.params) K = true) (ha : findIn (kk g.w.params) (.ref K) name = some (some (.ref f))) (hf : isFn (kk g.w.params) (.ref f) = true)
    (hgf : specialIn (kk g.w.params) (.ref f) "__get__" = some (some (.builtin "function.__get__"))) (ht : takesIn (kk g.w.params) (.ref f) = some false) (hc : copiedNames.contains name = false) (h : P (.at (methodObj (.ref f) (.ref x))) cs) : Att g A (.cel x) name cs P := by
  intro c s Q E v r R k
  obtain ⟨y, dx, es, n, e, I, ra⟩ := R.isO (.cel h1 h2) r
  cases r
  cases e
  rcases ra.getL name with ⟨t', v', e1, e2, rv⟩ | ⟨_, e2⟩
  · rw [hl] at e1; cases e1
  refine get_bind (R.X.keeps R.F.keep) I (plainGet_of hg).1 (findObj_fn hh ha hgf ht hc (by show lookIn name (dictOf es n) = _; rw [lookIn_dict, e2])) (plainGet_of hg).2
    (wpAny_call (fn_get (s := { s with toks := s.toks + 1 }) (R.X.keeps R.F.keep) (beq_iff_eq.mp hf) (handed_on rfl ?_)))
  exact k _ _ _ cs _ _ (fun q hq => .tail _ hq) h (.at (.head _)) (R.pushFz _)
theorem Cal.bound {f x : Addr} {ts : List T} {oc : Value} {od : Option Addr} {fd : FuncData} {osl : Array (Option Value)} (ho : (kk g.w.params).lookup f = some ⟨oc, od, .func fd, osl⟩) (H : CalC g A (.ref f) (.cel x :: ts) [] cs P) : Cal g A (.at (methodObj (.ref f) (.ref x))) ts [] cs P := by
  intro c s Q E fv vs kvs rf rv rk R k
  cases rk
  cases rf with
  | «at» hm =>
  have hq := R.fzGet hm
  refine ⟨⟨.boundFrame, .inr (.inr rfl), ?_⟩, wpAny_call (method_call hq (H c s _ (.ref x :: vs) [] (.cons (.cel x) rv) .nil R k))⟩
  exact (Looks.ld (part := none) hq).andThen ((Looks.ld (part := none) (R.XIn _ _ ho)).andThen .now)
end
theorem Ev.methStar {g : Gx} {A : Around} {env : Env} {vars : Vars} {cs : Cs} {P : T → Cs → Prop} {o : Expr} {name : Str} {apos pos : Pos} {args : List Expr} (H : Ev g A env vars o cs fun t cs₁ => Att g A t name cs₁ fun tf cs₂ => ArgP g A env vars args cs₂ fun ts cs₃ => Cal g A tf ts [] cs₃ P)
    (he : eval (.Call (.Attribute o name apos) args [] pos) env = (do
      let ov ← eval o env
      standAt apos.atName
      let fx ← holding [ov] (do pure (← getAttr ov name true, []))
      callWith pos fx.1 fx.2 (backTo pos (starEach args env)) []) := by rfl) : Ev g A env vars (.Call (.Attribute o name apos) args [] pos) cs P := by
  rintro c s Q E _ ⟨V, rfl⟩ R k
  rw [he]
  refine wpAny_bind (H.use V R fun fz₁ t v cs₁ h₁ tk₁ m₁ H₁ r₁ R₁ => ?_)
  refine wpAny_bind (wpAny_standAt (wpAny_bind (wpAny_holding (wpAny_bind (H₁ (c.with fz₁) _ _ _ v r₁ R₁ fun fz₂ tf f cs₂ h₂ tk₂ m₂ H₂ r₂ R₂ => wpAny_pure ?_)))))
  exact cw (c := c.with fz₂) (s := { s with heap := h₂, toks := tk₂ }) (ts0 := []) ((V.mono m₁).le m₂) R₂ r₂ .nil H₂ fun fz₃ r v cs₃ h₃ tk₃ m₃ => k fz₃ r v cs₃ h₃ tk₃ fun q hq => m₃ q (m₂ q (m₁ q hq))
theorem sg_255 (P : Params) : specialIn (kk P) (.ref 255) "__get__" = some (some (.builtin "function.__get__")) := by rfl
theorem tk_255 (P : Params) : takesIn (kk P) (.ref 255) = some false := by rfl
/-- what an order of the run is -/
structure IsRun (bas : Nat → List Nat) (ord : List Nat) : Prop where
  nd : ord.Nodup
  lt : ∀ x ∈ ord, x < 5
  all : ∀ i < 5, i ∈ ord
  tp : ∀ pre i post, ord = pre ++ i :: post → ∀ b ∈ bas i, b ∈ pre
section
variable {g : Gx} {A : Around} {cs : Cs} {P : T → Cs → Prop}
inductive RuA (S d N : Addr) (bas : Nat → List Nat) (pk : List Int) (cs : Cs) (us : List T) (vars : Vars) (c : Cs) : Prop
  | mk  (j : Nat) (na sa : Nat → Addr) (f1 : j ≤ 5) (f2 : us = (List.range' j (5 - j)).map lT) (f3 : c = bAll S d N na sa (fun i => (bas i).length) (suJ bas j) j cs) (f4 : Has [("sorter", .cel S), ("bases", .dict (tabT (fun i => lTs (bas i)) 5)), ("picks", .list (pk.map T.int))] vars)
inductive RuB (S d R W O : Addr) (na : Nat → Addr) (bas : Nat → List Nat) (cs : Cs) (fl : Fl) (v : Vars) (c : Cs) : Prop
  | mk (f1 : fl = .next) (ord : List Nat) (np : Nat → Int) (a b : Int) (f2 : IsRun bas ord) (f3 : c = rAll S d R a b na np (suJ bas 5) [] ((W, .list []) :: (O, .list (ord.map lT)) :: cs)) (f4 : Has [("order", .cel O)] v)
inductive RuC (S d R W O : Addr) (na : Nat → Addr) (bas : Nat → List Nat) (pk : List Int) (cs : Cs) (m : Nat) (vars : Vars) (c : Cs) : Prop
  | mk  (ord wt : List Nat) (np : Nat → Int) (a b : Int) (f1 : RunInv bas ord wt np) (f2 : ord.length + m = 6) (f3 : c = rAll S d R a b na np (suJ bas 5) [] ((W, .list (wt.map lT)) :: (O, .list (ord.map lT)) :: cs)) (f4 : Has [("sorter", .cel S), ("order", .cel O), ("waiting", .cel W), ("picks", .list (pk.map T.int))] vars)
theorem run_spec {n : Nat} {bas : Nat → List Nat} {pk : List Int} (hr : Room A (n + 5)) (hb : BasOK bas) (hpk : 5 ≤ pk.length) (hpl : pk.length ≤ 100) (h : ∀ ord, IsRun bas ord → P (lTs ord) cs) : Cal g A (.raw (.ref 326)) [.dict (tabT (fun i => lTs (bas i)) 5), .list (pk.map T.int)] [] cs P := by
  refine Cal.fn (n := n + 4) (bs := [("bases", .dict (tabT (fun i => lTs (bas i)) 5)), ("picks", .list (pk.map T.int))]) hr rfl rfl (BindP.pl2 (fun v w => ?_)) (fun L A' hr' => ?_) rfl (by show (["bases", "picks"] : List Str).Nodup; decide) (by decide)
  · rfl
  have hh := hr'.1
  refine Ex.cons ?_
  refine Ex1.assignL ?_
  refine Ev.call (Ev.g_TopologicalSorter ⟨rfl, rfl, rfl, rfl⟩ ?_)
  walk_at "ev"
  refine mkTS hr' fun S d N => ?_
  refine StT.perm (cs' := bAll S d N (fun _ => 0) (fun _ => 0) (fun i => (bas i).length) (suJ bas 0) 0 cs) ?_ ?_
  · show List.Perm ((S, C.inst 305 d) :: (d, C.dict (dT (.cel N) .none 0 0)) :: (N, C.dict []) :: cs) ((N, C.dict []) :: (S, C.inst 305 d) :: (d, C.dict (dT (.cel N) .none 0 0)) :: cs)
    exact ((List.Perm.cons _ (.swap _ _ _)).trans (.swap _ _ _))
  refine Ex.cons ?_
  refine Ex1.for_ ?_
  walk_at "ev"
  refine ⟨_, _, Itb.str hh (by decide +kernel), ?_⟩
  rw [abc_list]
  refine ForP.inv (RuA S d N bas pk cs) ?_ ?_ _ _ _ ⟨0, _, _, by omega, rfl, rfl, rfl, rfl, rfl, trivial⟩
  · rintro u rest vars c ⟨j, na, sa, hj, e, rfl, hv⟩
    have hj5 : j < 5 := by
      rcases Nat.lt_or_ge j 5 with q | q
      · exact q
      · rw [show 5 - j = 0 by omega] at e; cases e
    rw [show 5 - j = (5 - (j + 1)) + 1 by omega, List.range'_succ] at e
    simp only [List.map_cons, List.cons.injEq] at e
    obtain ⟨rfl, rfl⟩ := e
    refine As.weaken hv.k (As.nameL ?_)
    refine Ex.cons ?_
    refine Ex1.expr ?_
    refine Ev.methStar ?_
    walk_at "ev"
    refine Att.bound (.head _) (.tail _ (.head _)) rfl (ts_plain _ _) (ts_dict _) (tm_add _) (fn_255 _) (sg_255 _) (tk_255 _) (by decide +kernel) ?_
    refine ArgP.cons ?_
    refine Evs.cons ?_
    walk_at "ev"
    refine Evs.star ?_
    repeat walk_at "ev"
    refine Sub.dict (.fz _) (tab_look _ 5 j hj5) ?_
    refine ⟨_, .fz _, by have := hb.len j hj5; rw [sizeLine_eq, List.length_map]; omega, ?_⟩
    walk_at "ev"
    rw [List.append_nil]
    refine Cal.bound rfl (add_spec (n := n) hr' hj5 (fun i hi => ⟨hb.len i (by omega), hb.lt i (by omega), hb.nd i (by omega)⟩) fun na' sa' => ?_)
    exact Ex.nil ⟨j + 1, na', sa', by omega, rfl, rfl, rfl, rfl, rfl, trivial⟩
  rintro vars c ⟨j, na, sa, hj, e, rfl, hv⟩
  have : j = 5 := by
    have := congrArg List.length e
    simp at this
    omega
  subst this
  refine Ex.nil ?_
  refine StT.weaken hv.k ?_
  have hsu : ∀ i < 5, (suJ bas 5 i).length ≤ 5 ∧ ∀ k ∈ suJ bas 5 i, i < k ∧ k < 5 := fun i hi => ⟨su_len i, fun k hk => by
    obtain ⟨h5, hm⟩ := mem_su.mp hk
    exact ⟨hb.lt k h5 i hm, h5⟩⟩
  refine freezeN (na := na) ?_
  refine StT.perm (cs' := bC na sa (fun i => ((bas i).length : Int)) (suJ bas 5) 5 ++ ((S, C.inst 305 d) :: (d, C.dict (dT (.dict (tabN na)) .none 0 0)) :: cs)) ?_ (freezeB 5 ?_)
  · exact List.perm_middle.trans (.cons _ List.perm_middle)
  refine StT.perm (cs' := (S, C.inst 305 d) :: (d, C.dict (dT (.dict (tabN na)) .none 0 0)) :: (fC na (fun i => ((bas i).length : Int)) (suJ bas 5) 5 ++ cs)) ?_ ?_
  · exact (List.perm_middle.trans (.cons _ List.perm_middle)).symm
  refine Ex.cons ?_
  refine Ex1.expr ?_
  refine Ev.meth ?_
  walk_at "ev"
  refine ⟨_, _, GM.own (.cel (.head _) (.tail _ (.head _))) rfl (ts_plain _ _) (tm_prep _) (fn_260 _), ?_⟩
  walk_at "ev"
  refine prepare_spec (n := n + 1) hr' hsu fun R => ?_
  refine Ex.cons ?_
  refine Ex1.assignL ?_
  refine Ev.listC (Evs.nil ⟨le_line rfl, fun O => ?_⟩)
  refine StT.perm rAll_cons ?_
  refine Ex.cons ?_
  refine Ex1.assignL ?_
  refine Ev.call (Ev.b_list ⟨rfl, rfl, rfl, rfl⟩ ?_)
  refine ArgP.cons ?_
  refine Evs.cons ?_
  refine Ev.meth ?_
  walk_at "ev"
  refine ⟨_, _, GM.own (.cel (.head _) (.tail _ (.head _))) rfl (ts_plain _ _) (tm_ready _) (fn_267 _), ?_⟩
  walk_at "ev"
  have hs0 : ((List.range 5).filter fun i => decide (((bas i).length : Int) = 0)) = start0 bas := rfl
  rw [hs0]
  have hI0 := run_start hb
  have hl0 := run_len hI0
  refine ready_spec (n := n + 2) hr' (by simp at hl0; omega) (fun i hi => hI0.lt i (List.mem_append_right _ hi)) ?_
  walk_at "ev"
  refine Cal.listC (.inr rfl) (by rw [sizeLine_eq, List.length_map]; simp at hl0; omega) fun W => ?_
  refine StT.perm rAll_cons ?_
  refine Ex.cons ?_
  refine StT.mono (P := RuB S d R W O na bas cs) ?_ ?_
  · refine Ex1.while_ 6 ?_
    refine WhP.ind (RuC S d R W O na bas pk cs) ?_ (fun vs c z => by obtain ⟨ord, wt, np, a, b, I, z, _⟩ := z; have := run_len I; omega) _ _ _ ⟨[], start0 bas, _, _, _, hI0, rfl, rfl, rfl, rfl, rfl, rfl, trivial⟩
    rintro m vars c ⟨ord, wt, np, a, b, I, hm, rfl, hv⟩
    have hlen := run_len I
    have mW : (W, C.list (wt.map lT)) ∈ rAll S d R a b na np (suJ bas 5) [] ((W, .list (wt.map lT)) :: (O, .list (ord.map lT)) :: cs) := rAll_mem (.head _)
    have mO : (O, C.list (ord.map lT)) ∈ rAll S d R a b na np (suJ bas 5) [] ((W, .list (wt.map lT)) :: (O, .list (ord.map lT)) :: cs) := rAll_mem (.tail _ (.head _))
    have okW : (lTs wt).ok 4 = true := lTs_ok fun x hx => I.lt x (List.mem_append_right _ hx)
    refine Ts.cmp ?_
    refine Ev.name hv.2.2.1 ?_
    refine Ev.list ?_
    refine Evs.nil ⟨le_line rfl, ?_⟩
    refine Op2.ne hr' (.cel mW okW) (.fz rfl) fun q hq => ⟨q, rfl, fun hb' => ?_, fun hb' => ?_⟩
    · have hne : wt ≠ [] := fun z => by have := hq.mpr (by rw [z]; rfl); rw [hb'] at this; cases this
      have hpos : 0 < wt.length := List.length_pos_iff.mpr hne
      refine StT.weaken hv.k ?_
      refine Ex.cons ?_
      refine Ex1.assignL ?_
      refine Ev.meth ?_
      walk_at "ev"
      refine ⟨_, _, GM.pop (.cel mW), ?_⟩
      refine ArgP.cons ?_
      refine Evs.cons ?_
      refine Ev.bin ?_
      refine Ev.sub ?_
      walk_at "ev"
      refine Ev.call (Ev.b_len ⟨rfl, rfl, rfl, rfl⟩ ?_)
      repeat walk_at "ev"
      refine Cal.len (.cel mO) (by rw [List.length_map]; omega) ?_
      rw [List.length_map]
      have hol : ord.length < pk.length := by omega
      refine Sub.list (.fz _) (by omega) (by omega) (u := .int pk[ord.length]) (by simp [hol]) ?_
      refine Ev.call (Ev.b_len ⟨rfl, rfl, rfl, rfl⟩ ?_)
      repeat walk_at "ev"
      refine Cal.len (.cel mW) (by rw [List.length_map]; omega) ?_
      rw [List.length_map]
      refine Op2.modII (by omega) ?_
      walk_at "ev"
      generalize hp : (pk[ord.length]).fmod (wt.length : Int) = r
      have h0 : 0 ≤ r := by rw [← hp]; exact Int.fmod_nonneg_of_pos _ (by omega)
      have h1 : r < wt.length := by rw [← hp]; exact Int.fmod_lt_of_pos _ (by omega)
      have hlt : r.toNat < wt.length := by omega
      have hget : wt[r.toNat]? = some wt[r.toNat] := List.getElem?_eq_getElem hlt
      generalize hi : wt[r.toNat] = i at hget
      obtain ⟨hnp, hi5, I'⟩ := run_step hb I hget
      have ee : (wt.map lT).eraseIdx r.toNat = (wt.eraseIdx r.toNat).map lT := erase_map _ _ _
      have U1 := rAll_cu (S := S) (d := d) (R := R) (a := a) (b := b) (na := na) (np := np) (su := suJ bas 5) (rdy := []) (CU.head (a := W) (c := .list (wt.map lT)) (c' := .list ((wt.map lT).eraseIdx r.toNat)) (r := (O, .list (ord.map lT)) :: cs))
      refine Cal.popAt (u := lT i) U1 ?_ ?_ ?_ (by rw [sizeLine_eq, List.length_map]; omega) ?_
      · unfold Builtin.List.listFitsIndex
        simp
        omega
      · rw [List.length_map]
        unfold seqIndex?
        simp [h0, h1]
        omega
      · rw [List.getElem?_map, hget]; rfl
      rw [ee]
      refine Ex.cons ?_
      refine Ex1.expr ?_
      refine Ev.meth ?_
      walk_at "ev"
      have U2 := rAll_cu (S := S) (d := d) (R := R) (a := a) (b := b) (na := na) (np := np) (su := suJ bas 5) (rdy := []) (CU.tail (p := (W, C.list ((wt.eraseIdx r.toNat).map lT))) (CU.head (a := O) (c := .list (ord.map lT)) (c' := .list (ord.map lT ++ [lT i])) (r := cs)))
      refine ⟨_, _, GM.append (.cel U2.mem), ?_⟩
      repeat walk_at "ev"
      refine Cal.append U2 (by rw [sizeLine_eq, List.length_map]; omega) ?_
      refine Ex.cons ?_
      refine Ex1.expr ?_
      refine Ev.meth ?_
      walk_at "ev"
      refine ⟨_, _, GM.own (.cel (.head _) (.tail _ (.head _))) rfl (ts_plain _ _) (tm_done _) (fn_288 _), ?_⟩
      repeat walk_at "ev"
      have hls : (suJ bas 5 i).length ≤ 5 := su_len i
      refine done_spec (n := n + 2) hr' hi5 hnp (fun k hk => ?_) (su_nodup i) (by simp; omega) ?_
      · obtain ⟨k5, hm'⟩ := mem_su.mp hk
        exact ⟨k5, fun z => by have := hb.lt k k5 i hm'; omega⟩
      refine Ex.cons ?_
      refine Ex1.expr ?_
      refine Ev.meth ?_
      walk_at "ev"
      refine ⟨_, _, GM.extend (.cel (rAll_mem (.head _))), ?_⟩
      refine ArgP.cons ?_
      refine Evs.cons ?_
      refine Ev.meth ?_
      walk_at "ev"
      refine ⟨_, _, GM.own (.cel (.head _) (.tail _ (.head _))) rfl (ts_plain _ _) (tm_ready _) (fn_267 _), ?_⟩
      walk_at "ev"
      have hlen' := run_len I'
      simp only [List.length_append] at hlen'
      refine ready_spec (n := n + 2) hr' (by rw [List.nil_append]; omega) (fun k hk => I'.lt k (List.mem_append_right _ (List.mem_append_right _ (by simpa using hk)))) ?_
      rw [List.nil_append]
      walk_at "ev"
      refine Cal.extendT (rAll_cu .head) (by rw [List.length_map, List.length_map]; omega) ?_
      refine Ex.nil ⟨ord ++ [i], wt.eraseIdx r.toNat ++ newR np (suJ bas 5 i), _, a + ((newR np (suJ bas 5 i)).length : Int), b + 1, I', by simp; omega, ?_, rfl, rfl, rfl, rfl, trivial⟩
      rw [List.map_append, List.map_append]
      rfl
    · have he : wt = [] := by
        have := hq.mp hb'
        injection this with this
        exact List.map_eq_nil_iff.mp this
      subst he
      refine Ex.nil ⟨rfl, ord, np, a, b, ⟨?_, fun x hx => I.lt x (List.mem_append_left _ hx), run_end hb I, I.tp⟩, rfl, hv.2.1, trivial⟩
      have := I.nd
      rw [List.append_nil] at this
      exact this
  rintro _ vars₂ _ ⟨rfl, ord, np, a, b, hR, rfl, hv₂⟩
  refine StT.weaken hv₂.k ?_
  refine StT.drop (cs' := (O, .list (ord.map lT)) :: cs) ?_ ?_
  · exact .cons _ (.cons _ (.cons _ (List.Sublist.trans (.cons _ (.refl _)) (List.sublist_append_right _ _))))
  refine Ex.cons ?_
  refine Ex1.ret ?_
  refine Ev.freezeL ?_
  walk_at "ev"
  exact ⟨O, _, _, rfl, rfl, h ord hR⟩
end
end Mine
end

noncomputable section
open PySem PySem.W PyProof.Rows PySem.Calls
set_option Elab.async false
set_option linter.unusedVariables false
set_option maxRecDepth 100000
set_option pp.deepTerms false
set_option pp.deepTerms.threshold 3
set_option tactic.hygienic false
namespace Mine

section
variable {g : Gx} {A : Around} {cs : Cs} {P : T → Cs → Prop}
/-- a def within a def, called -/
theorem Cal.clos {name qual : Str} {params : Arguments} {body : List Stmt} {scope : Scope} {x : Str} {a c' f : Addr} {doc pm ctv : Value} {oc : Obj} {cvs : Array Value} {tq : Tok} {t : T} {ts : List T} {bs : List (Str × T)} {n : Nat}
    (hr : Room A (n + 1)) (hf : (f, fnMade name qual params body scope [(x, a)] doc pm c' ctv) ∈ g.fns) (hc : (c', oc) ∈ g.fns) (hoc : oc.data = .fields cvs) (hv : cvs[1]? = some (.str qual tq)) (ha : (a, t) ∈ g.cls)
    (hb : ∀ vs : List Value, vs.length = ts.length → bindArgs (fnX name qual params body scope [(x, a)] .none .none doc pm none (.ref c') ctv) ⟨vs, []⟩ = pure ((bs.map (·.1)).zip vs)) (eb : bs.map (·.2) = ts)
    (H : ∀ L A', Room A' n → Ex g A' (envX qual scope L f (.ref c') [(x, a)]) body (bs ++ [(x, t)]) cs (fun fl _ cs' => P (retT fl) cs') noX)
    (hloc : (bs.all fun y => scope.names.lookup y.1 == some .local) = true) (hbn : (bs.map (·.1)).Nodup) (hxb : scope.names.lookup x = some .free) (hcell : ∀ y ∈ scope.names, y.2 ≠ .cell) (hnc : ∀ y, scope.names.lookup y ≠ some .cell)
    (hco : scope.isCoroutine = false := by rfl) (hgen : scope.isGenerator = false := by rfl) (hk : scope.kind = .function := by rfl) : Cal g A (.raw (.ref f)) ts [] cs P := by
  intro c s Q E f' vs kvs rf rv rk R k
  cases rf
  have hfz := R.fx.exF _ hf
  have hcz := R.fx.exF _ hc
  have gf := (R.N _ (List.mem_append_left _ hfz)).1
  have gc := (R.N _ (List.mem_append_left _ hcz)).1
  refine ⟨⟨.frame, .inl rfl, (Looks.ld (part := none) gf).andThen .now⟩, wpAny_call ?_⟩
  cases rk
  show codeAny _ _ (.call (.ref f) ⟨vs, []⟩) _ _
  have hl : ∀ y ∈ (bs.map (·.1)).zip vs, scope.names.lookup y.1 = some .local := by
    intro y hy
    have hy1 := (List.of_mem_zip hy).1
    obtain ⟨b, hb1, e⟩ := List.mem_map.mp hy1
    have := List.all_eq_true.mp hloc b hb1
    rw [e] at this
    simpa using this
  refine codeAny_call_def (fd := fnX name qual params body scope [(x, a)] .none .none doc pm none (.ref c') ctv) (body := body) (binds := (bs.map (·.1)).zip vs) (by have := hr.2.1; omega) gf rfl (R.top.nolimit.keeps R.F.keep) ⟨c', oc, cvs, tq, rfl, gc, hoc, hv⟩ rfl (.of_eq (hb vs rv.length)) hcell hl (fun h₂ hns hk₁ => ?_) hco hgen hk
  obtain ⟨G, co, oL, fenv, outer, hA, hFrs, st, gup, gsz, hoL, hnsL, gL, gF, gfz, gco, pcG, ko, NO⟩ := R.ground
  have e0 : callEnv (fnX name qual params body scope [(x, a)] .none .none doc pm none (.ref c') ctv) s.heap.objs.size f = envX qual scope s.heap.objs.size f (.ref c') [(x, a)] := rfl
  rw [e0]
  generalize hEnv : envX qual scope s.heap.objs.size f (.ref c') [(x, a)] = E'
  have ecells : E'.cells = [(x, a)] := by rw [← hEnv]
  have ekind : ∀ y, E'.kindOf y = scope.names.lookup y := fun y => by rw [← hEnv]; rfl
  have eloc : E'.locals = s.heap.objs.size := by rw [← hEnv]
  let cc : Ctx := ⟨G, s.heap.objs.size, fun y => ((bs.map (·.1)).zip vs).reverse.lookup y, c.fz, [], (c.L, oL) :: c.frs⟩
  have Fc : Fr G s.heap.objs.size h₂ cc.mF := ⟨hns, fun b o e => hk₁ b o (gup b o e), by rw [gsz]; exact Nat.le_refl _⟩
  have Rc : RF g (A.deeper E') cc cs h₂ := by
    refine ⟨⟨E', fenv :: outer, by show A.frames.map (E' :: ·) = _; rw [hA]; rfl, by rw [← hEnv], by rw [← hEnv]; exact hk, hFrs⟩, Fc, R.X.keeps st, R.top.keeps st, fun p hp => ?_, fun p hp => ?_, R.nd, fun p hp q hq => ?_, fun p hp q hq => (nomatch hp), ?_⟩
    · rcases List.mem_append.mp hp with hp | hp
      · have z := R.N p (List.mem_append_left _ hp)
        exact ⟨hk₁ _ _ z.1, Nat.ne_of_lt (Heap.lt_size z.1), gfz p hp⟩
      · cases hp
    · obtain ⟨o, hm, cr⟩ := ko p hp
      have z := NO _ hm
      exact ⟨o, cr, fun q hq => by rw [List.mem_singleton.mp hq]; exact ⟨hk₁ _ _ z.1, Nat.ne_of_lt (Heap.lt_size z.1), gco _ hm⟩⟩
    · rcases List.mem_append.mp hq with hq | hq
      · exact R.ap p hp q (List.mem_append_left _ hq)
      · cases hq
    · refine ⟨fun p hp => ?_, R.fx.exF, fun p hp => ?_, fun p hp q hq => ?_, fun p hp q hq => ?_⟩
      · rcases List.mem_cons.mp hp with rfl | hp
        · exact ⟨oL.slots, fun q hq => by rw [List.mem_singleton.mp hq]; exact ⟨hk₁ _ _ hoL, Nat.ne_of_lt (Heap.lt_size hoL), gL⟩⟩
        · obtain ⟨sl, z, _, _⟩ := R.fx.get hp
          exact ⟨sl, fun q hq => by rw [List.mem_singleton.mp hq]; exact ⟨hk₁ _ _ z, Nat.ne_of_lt (Heap.lt_size z), gF p hp⟩⟩
      · obtain ⟨o, v, a, b, r⟩ := R.fx.exC p hp
        exact ⟨o, v, st _ _ a, b, r⟩
      · rcases List.mem_cons.mp hq with rfl | hq
        · obtain ⟨o, _, n⟩ := R.co p hp
          exact (n _ (.head _)).2.1
        · exact R.fx.ap3 p hp q hq
      · rcases List.mem_append.mp hp with hp | hp
        · rcases List.mem_cons.mp hq with rfl | hq
          · exact (R.N p (List.mem_append_left _ hp)).2.1
          · exact R.fx.ap4 p (List.mem_append_left _ hp) q hq
        · cases hp
  have Sc : SV g E' cc (bs ++ [(x, t)]) := by
    refine ⟨fun y u hy => ?_, eloc, by rw [← hEnv]; exact hk, fun y hy => absurd ((ekind y).symm.trans hy) (hnc y), List.nodup_nil, fun y z b hy hz => ?_⟩
    · rw [List.lookup_append] at hy
      cases q : bs.lookup y with
      | some u' =>
        rw [q] at hy
        have eu : u' = u := by simpa using hy
        subst eu
        obtain ⟨v, e1, r1⟩ := zip_lookup hbn (eb ▸ rv) q
        refine ⟨v, r1, .inl ⟨?_, eloc, e1⟩⟩
        rw [ekind]
        have hm : (y, u') ∈ bs := by
          have : ∀ (l : Vars), l.lookup y = some u' → (y, u') ∈ l := by
            intro l
            induction l with
            | nil => intro h; cases h
            | cons p l ih =>
              intro h
              rw [List.lookup_cons] at h
              split at h
              · rename_i e; cases h; have e' : y = p.1 := by simpa using e
                subst e'; exact .head _
              · exact .tail _ (ih h)
          exact this bs q
        have := List.all_eq_true.mp hloc _ hm
        simpa using this
      | none =>
        rw [q] at hy
        simp only [Option.none_or, List.lookup_cons] at hy
        split at hy
        · rename_i e
          cases hy
          have e' : y = x := by simpa using e
          subst e'
          obtain ⟨o, v, g1, g2, r1⟩ := R.fx.exC _ ha
          exact ⟨v, r1, .inr (.inr ⟨.inr (by rw [ekind]; exact hxb), a, o, by rw [ecells]; simp [List.lookup], .inr (st _ _ g1), g2⟩)⟩
        · cases hy
    · rw [ecells, List.lookup_cons] at hy hz
      split at hy
      · rename_i e1
        split at hz
        · rename_i e2
          exact (eq_of_beq e1).trans (eq_of_beq e2).symm
        · cases hz
      · cases hy
  subst hEnv
  have fin : wpAny g.M (A.deeper (envX qual scope s.heap.objs.size f (.ref c') [(x, a)])) (execs body (envX qual scope s.heap.objs.size f (.ref c') [(x, a)])) (fun f s' => Q (match f with | .ret v => v | _ => .none) s') (fun _ _ => False) { s with heap := h₂, toks := s.toks + ((bs.map (·.1)).zip vs).length } := by
    refine H _ _ (hr.deeper _) cc _ _ _ Sc Rc PassesOwn.never (fun c₂ fl fw vars' cs' h' tk' l p fr S' R₂ => ?_) fun e c' cs' h' tk' l xx => xx.elim
    have RR : RF g A (c.with c₂.fz) cs' h' := RF.back' R R₂ rfl l.h₀ st hnsL gL gF pcG l.frs l.fz
    cases fr with
    | next => exact k c₂.fz _ _ cs' h' tk' l.fz p .none RR
    | brk => exact k c₂.fz _ _ cs' h' tk' l.fz p .none RR
    | cont => exact k c₂.fz _ _ cs' h' tk' l.fz p .none RR
    | ret r => exact k c₂.fz _ _ cs' h' tk' l.fz p r RR
  exact wpAny_mono fin (fun _ _ z => z) fun _ _ z => z.elim
end
end Mine
end

noncomputable section
open PySem PySem.W PyProof.Rows PySem.Calls
set_option Elab.async false
set_option linter.unusedVariables false
set_option maxRecDepth 100000
set_option pp.deepTerms false
set_option pp.deepTerms.threshold 3
set_option tactic.hygienic false
namespace Mine

open LCg LCt
noncomputable def EvH (HC : Ctx → Prop) (g : Gx) (A : Around) (env : Env) (vars : Vars) (e : Expr) (cs : Cs) (P : T → Cs → Prop) : Prop :=
  Tr g A (fun c t => HC c ∧ VarsOK g env c vars ∧ t = eval e env) cs P
noncomputable def Tst (g : Gx) (A : Around) (env : Env) (vars : Vars) (ifs : List Expr) (cs : Cs) (P : Bool → Cs → Prop) : Prop := match ifs with
  | [] => P true cs
  | [ct] => Ts g A env vars ct cs P
  | _ => False
section
variable {g : Gx} {A : Around} {env : Env} {vars caps : Vars} {x : Str} {scope : Scope} {cl : List (Str × Addr)} {P : T → Cs → Prop} {cs : Cs} {c : Ctx} {h h' : Heap}
theorem EvH.of {HC : Ctx → Prop} {e : Expr} (H : Ev g A env vars e cs P) : EvH HC g A env vars e cs P := fun c s Q E t ht R k => H c s Q E t ht.2 R k
theorem Ev.ofH {e : Expr} (H : EvH (fun _ => True) g A env vars e cs P) : Ev g A env vars e cs P := fun c s Q E t ht R k => H c s Q E t ⟨trivial, ht⟩ R k
theorem Tst.use {ifs : List Expr} {P : Bool → Cs → Prop} {s : Shared} {Q : Bool → Shared → Prop} {E : Value → Shared → Prop} (H : Tst g A env vars ifs cs P) (V : VarsOK g env c vars) (R : RF g A c cs s.heap)
    (k : ∀ fz' b cs' h' tk', (∀ p ∈ c.fz, p ∈ fz') → P b cs' → RF g A (c.with fz') cs' h' → Q b { s with heap := h', toks := tk' }) :
    wpAny g.M A (forIn ifs true fun c r => if r = true then do let ok ← isTrue c env (eval c env); pure (ForInStep.yield ok) else pure (ForInStep.yield r)) Q E s := by
  match ifs, H with
  | [], H => exact wpAny_pure (k c.fz true cs s.heap s.toks (fun _ h => h) H R)
  | [ct], H => exact wpAny_tests_one (H c s Q E V R k)
theorem RF.pcSub {pc pc' : List (Addr × Obj)} (R : RF g A { c with pc := pc } cs h) (k : ∀ p ∈ pc', p ∈ pc) : RF g A { c with pc := pc' } cs h := by
  have kk : ∀ p ∈ c.fz ++ pc', p ∈ c.fz ++ pc := fun p hp => (List.mem_append.mp hp).elim (fun z => List.mem_append_left _ z) fun z => List.mem_append_right _ (k p z)
  exact ⟨R.below, R.F, R.X, R.top, fun p hp => R.N p (kk p hp), R.co, R.nd, fun p hp q hq => R.ap p hp q (kk q hq), fun p hp => R.ap2 p (k p hp), R.fx.gen (c' := { c with pc := pc' }) (fun b ob _ e => e) R.fx.ap3 (fun p hp => R.fx.ap4 p (kk p hp)) fun _ h => h⟩
theorem RF.bornPc {o : Obj} {a : Addr} (R : RF g A c cs h) (k : ∀ b ob, h.get? b = some ob → h'.get? b = some ob) (ho : h'.get? a = some o) (hn : h.objs.size ≤ a) : RF g A { c with pc := (a, o) :: c.pc } cs h' := by
  obtain ⟨n1, n2, n3, n4⟩ := R.out hn
  have R' := R.keeps k
  have sp : ∀ p ∈ c.fz ++ (a, o) :: c.pc, p = (a, o) ∨ p ∈ c.fz ++ c.pc := fun p hp => by
    rcases List.mem_append.mp hp with hp | hp
    · exact .inr (List.mem_append_left _ hp)
    · rcases List.mem_cons.mp hp with rfl | hp
      · exact .inl rfl
      · exact .inr (List.mem_append_right _ hp)
  refine ⟨R'.below, R'.F, R'.X, R'.top, fun p hp => ?_, R'.co, R'.nd, fun p hp q hq => ?_, fun p hp q hq => ?_, R'.fx.gen (c' := { c with pc := (a, o) :: c.pc }) (fun b ob _ e => e) R'.fx.ap3 (fun p hp q hq => ?_) fun _ h => h⟩
  · rcases sp p hp with rfl | hp
    · exact ⟨ho, n1, n2⟩
    · exact R'.N p hp
  · rcases sp q hq with rfl | hq
    · exact n4 p hp
    · exact R'.ap p hp q hq
  · rcases List.mem_cons.mp hp with rfl | hp
    · exact fun e => n3 q (List.mem_append_left _ hq) e.symm
    · exact R'.ap2 p hp q hq
  · rcases sp p hp with rfl | hp
    · exact fun e => absurd (R.fx.lt hq) (Nat.not_lt.mpr (e ▸ hn))
    · exact R'.fx.ap4 p hp q hq
end
section
variable (g : Gx) (A : Around) (env : Env) (x : Str) (scope : Scope) (cl : List (Str × Addr)) (caps : Vars) (HC : Ctx → Prop) (P : T → Cs → Prop)
/-- a dict made item by item -/
noncomputable def DComp (ifs : List Expr) (vx : Expr) : List T → List (Str × T) → Cs → Prop
  | [], ds, cs => ∀ D, P (.cel D) ((D, .dict ds) :: cs)
  | u :: us, ds, cs => ∀ C, Tst g A (compEnvC scope cl C env) ((x, u) :: caps) ifs cs fun b cs' =>
      (b = true → EvH HC g A (compEnvC scope cl C env) ((x, u) :: caps) vx cs' fun t cs'' => ∃ y, u = .str y ∧ DComp ifs vx us (putT ds y t) cs'') ∧ (b = false → DComp ifs vx us ds cs')
end
theorem putT_len (ds : List (Str × T)) (y : Str) (t : T) : (putT ds y t).length ≤ ds.length + 1 := by
  unfold putT
  split <;> simp
section
variable {g : Gx} {A : Around} {env : Env} {vars caps : Vars} {x : Str} {scope : Scope} {cl : List (Str × Addr)} {P : T → Cs → Prop} {cs : Cs}
inductive DcInv (g : Gx) (A : Around) (env : Env) (x : Str) (scope : Scope) (cl : List (Str × Addr)) (caps : Vars) (HC : Ctx → Prop) (P : T → Cs → Prop) (ifs : List Expr) (vx : Expr) (us : List T) (s : Shared) (fz₁ : List (Addr × Obj)) (St : Nat → Heap → Prop)
    (cx : List (Addr × Obj) → Obj → Obj → Obj → Ctx) (n : Nat) (s' : Shared) : Prop
  | mk (i : Nat) (fz : List (Addr × Obj)) (ds : List (Str × T)) (cs : Cs) (oI oC oD : Obj) (es : List DictEntry) (nn : Nat) (m : Str → Option Value) (h : Heap) (tk : Nat) (e1 : n = us.length + 1 - i) (e2 : s' = { s with heap := h, toks := tk }) (hile : i ≤ us.length) (mz : ∀ p ∈ fz₁, p ∈ fz) (RR : RF g A (cx fz oI oC oD) cs h)
    (nC : NsObj oC m) (st : St i h) (e3 : oD = dictOf es nn) (rd : VRd g.P fz ds es) (nd : (ds.map (·.1)).Nodup) (hdl : ds.length ≤ i) (hDC : DComp g A env x scope cl caps HC P ifs vx (us.drop i) ds cs)
theorem dc_lt {i n : Nat} (h : i < n) : n + 1 - (i + 1) < n + 1 - i := by omega
theorem EvH.dcomp {HC : Ctx → Prop} {vx iter : Expr} {ifs : List Expr} {kp px pos : Pos} (stab : ∀ (c : Ctx) fz pc, (∀ p ∈ c.fz, p ∈ fz) → (∀ p ∈ c.pc, p ∈ pc) → HC c → HC { (c.with fz) with pc := pc }) (hc : CapsOK env scope cl vars caps)
    (H : Ev g A env vars iter cs fun t cs' => ∃ us, Itb g A (.Name x px) t cs' us cs' ∧ us.length ≤ sizeLine ∧ DComp g A env x scope cl caps HC P ifs vx us [] cs')
    (hclos : closureFor scope env = pure cl := by rfl) (hcell : ∀ y ∈ scope.names, y.2 ≠ .cell := by decide) (hkind : scope.kind = .function := by rfl)
    (hnames : ∀ y ∈ scope.names, y.2 = .local → scope.names.lookup y.1 = some .local := by decide) (hx : scope.names.lookup x = some .local := by rfl) (hs : ∀ x, foldedSetIterable iter env x = pure x := by intro _; rfl)
    (hdb : (x == ("__debug__" : Str)) = false := by decide) (hcd : (x == ("__classdict__" : Str)) = false := by decide) :
    EvH HC g A env vars (.DictComp (.Name x kp) vx [⟨.Name x px, iter, ifs, 0⟩] scope pos) cs P := by
  rintro c s Q E _ ⟨hC, V, rfl⟩ R k
  rw [arm_eval_DictComp]
  refine wpAny_comprehension_free (use := none) rfl hs hclos hkind hnames ?_
  refine H.use V R fun fz₁ t v cs₁ h₁ tk₁ m₁ hu r R₁ => ?_
  obtain ⟨us, hI, hsz, hD⟩ := hu
  refine hI (c.with fz₁) { s with heap := h₁, toks := tk₁ } v _ _ r R₁ fun I oI fp St h₂ hdat hIpc hIL R₂ W hlet hStI hfp hSt => ?_
  refine wpAny_newObj_type (wpAny_newFunctionEnv hcell (by intro y hy; simp at hy) (fun h₄ hns₄ hsb₄ => ?_) hkind)
  dsimp only at hns₄ hsb₄ ⊢
  have hlow := R₂.lowNew
  have hIlt : I < h₂.objs.size := R₂.lt (I, oI) (List.mem_append_right _ (.head _))
  have hpclt : ∀ p ∈ c.pc, p.1 < h₂.objs.size := fun p hp => R₂.lt p (List.mem_append_right _ (.tail _ hp))
  generalize hD0 : ({ cls := .type "dict", dict := none, data := .dict #[] } : Obj) = oD₀ at hns₄ hsb₄ ⊢
  have R₃ := R₂.pushPc oD₀ (by rw [← hD0]; rfl)
  generalize hH3 : h₂.push oD₀ = h₃ at hns₄ hsb₄ R₃ ⊢
  have sz3 : h₃.objs.size = h₂.objs.size + 1 := by rw [← hH3, Heap.size_push]
  have hIC : I ≠ h₃.objs.size := by rw [sz3]; exact Nat.ne_of_lt (Nat.lt_succ_of_lt hIlt)
  have hID : I ≠ h₂.objs.size := Nat.ne_of_lt hIlt
  have hCD : h₃.objs.size ≠ h₂.objs.size := by rw [sz3]; exact Nat.succ_ne_self _
  have hpcI : I ∉ c.pc.map (·.1) := hIpc
  have hpcC : h₃.objs.size ∉ c.pc.map (·.1) := fun z => by
    obtain ⟨p, hp, e⟩ := List.mem_map.mp z
    exact Nat.ne_of_lt (Nat.lt_succ_of_lt (hpclt p hp)) (e.trans sz3)
  have hpcD : h₂.objs.size ∉ c.pc.map (·.1) := fun z => by
    obtain ⟨p, hp, e⟩ := List.mem_map.mp z
    exact Nat.ne_of_lt (hpclt p hp) e
  have old4 : ∀ b ob, h₃.get? b = some ob → h₄.get? b = some ob := fun b ob e => hsb₄.extBut b ob (Nat.ne_of_lt (Heap.lt_size e)) (Heap.get?_push_of_some _ e)
  have old3 : ∀ b ob, h₂.get? b = some ob → h₃.get? b = some ob := fun b ob e => hH3 ▸ Heap.get?_push_of_some _ e
  have leC : h₃.objs.size ≤ h₃.objs.size := Nat.le_refl _
  obtain ⟨oC₀, gC₀, nC₀⟩ := ns_obj hns₄
  have R₄ := R₃.bornPc (h' := h₄) (a := h₃.objs.size) (o := oC₀) old4 gC₀ leC
  clear hsb₄ sz3 hIlt hpclt R₃ leC
  generalize h₃.objs.size = C at hns₄ hIC hCD hpcC R₄ gC₀ ⊢
  generalize h₂.objs.size = D at R₄ hlow hID hCD hpcD ⊢
  have hst₄ : St 0 h₄ := W.frame _ _ _ hSt fun b hb o e => old4 _ _ (old3 _ _ e)
  have hkindC : (compEnvC scope cl C env).scope.kind = .function := by simp [compEnvC, relabel, hkind]
  let cx : List (Addr × Obj) → Obj → Obj → Obj → Ctx := fun fz oI oC oD => { (c.with fz) with pc := (I, oI) :: (C, oC) :: (D, oD) :: c.pc }
  let Inv : Nat → Shared → Prop := DcInv g A env x scope cl caps HC P ifs vx us s fz₁ St cx
  have frameW : ∀ {i fz fz' cs cs' oI oC oD oC' oD' h h'}, (∀ p ∈ fz₁, p ∈ fz) → (∀ p ∈ fz₁, p ∈ fz') → RF g A (cx fz oI oC oD) cs h → RF g A (cx fz' oI oC' oD') cs' h' → St i h → St i h' := by
    intro i fz fz' cs cs' oI oC oD oC' oD' h h' m m' R R' st
    refine W.frame _ _ _ st fun b hb o e => ?_
    have : ∃ ob, h.get? b = some ob ∧ h'.get? b = some ob := by
      rcases hfp b hb with rfl | ⟨ob, hz | ⟨hp, _⟩⟩
      · exact ⟨oI, (R.N (b, oI) (List.mem_append_right _ (.head _))).1, (R'.N (b, oI) (List.mem_append_right _ (.head _))).1⟩
      · exact ⟨ob, (R.N (b, ob) (List.mem_append_left _ (m _ hz))).1, (R'.N (b, ob) (List.mem_append_left _ (m' _ hz))).1⟩
      · exact ⟨ob, (R.N (b, ob) (List.mem_append_right _ (.tail _ (.tail _ (.tail _ hp))))).1, (R'.N (b, ob) (List.mem_append_right _ (.tail _ (.tail _ (.tail _ hp))))).1⟩
    obtain ⟨ob, e1, e2⟩ := this
    rw [e1] at e; cases e; exact e2
  have loop : ∀ s₃ : Shared, Inv (us.length + 1) s₃ → codeAny g.M A (.compLoop (.DictComp (.Name x kp) vx [⟨.Name x px, iter, ifs, 0⟩] scope pos) 0 (.ref I) (.ref D) (compEnvC scope cl C env)) (compPost g.M A E none Q (.ref D) C) s₃ := by
    intro s₃ hinv
    refine codeAny_compLoop_testsD Inv (fun n s' hi => ?_) _ hinv
    obtain ⟨i, fz, ds, cs, oI, oC, oD, es, nn, m, h, tk, rfl, rfl, hile, mz, RR, nC, st, rfl, rd, nd, hdl, hDC⟩ := hi
    by_cases hlt : i < us.length
    · refine W.item i { s with heap := h, toks := tk } _ _ hlt st fun v h₅ tk₅ hPv st₅ k₅ => ?_
      obtain ⟨u, hu, rv⟩ := hPv
      obtain ⟨oI', gI', _⟩ := hStI (i + 1) h₅ st₅
      have R₅ : RF g A (cx fz oI' oC (dictOf es nn)) cs h₅ := RF.setPc (c := c.with fz) RR (by
        intro z
        simp only [List.map_cons, List.mem_cons] at z
        rcases z with z | z | z
        · exact hIC z
        · exact hID z
        · exact hpcI z) (fun b ob hb e => k₅ b ob (fun z => hb (List.mem_singleton.mp z)) e) gI'
      have gC := (R₅.N (C, oC) (List.mem_append_right _ (.tail _ (.head _)))).1
      refine wpAny_assign_Name (wpAny_storeName_local (lookup_relabel_local hx) (nC.ns gC) (fun h₆ hn₆ hs₆ => ?_) (by simp [compEnvC, relabel, hkind]))
      obtain ⟨oC', gC', nC'⟩ := ns_obj hn₆
      have R₆ : RF g A (cx fz oI' oC' (dictOf es nn)) cs h₆ := by
        have z := RF.pcSub (c := c.with fz) (pc' := (C, oC) :: (I, oI') :: (D, dictOf es nn) :: c.pc) R₅ (fun p hp => by
          rcases List.mem_cons.mp hp with rfl | hp
          · exact .tail _ (.head _)
          · rcases List.mem_cons.mp hp with rfl | hp
            · exact .head _
            · exact .tail _ (.tail _ hp))
        have z2 := RF.setPc (c := c.with fz) (o' := oC') (h' := h₆) z (by
          intro z
          simp only [List.map_cons, List.mem_cons] at z
          rcases z with z | z | z
          · exact hIC z.symm
          · exact hCD z
          · exact hpcC z) (fun b ob hb e => hs₆.extBut b ob hb e) gC'
        exact RF.pcSub (c := c.with fz) z2 (fun p hp => by
          rcases List.mem_cons.mp hp with rfl | hp
          · exact .tail _ (.head _)
          · rcases List.mem_cons.mp hp with rfl | hp
            · exact .head _
            · exact .tail _ (.tail _ hp))
      have st₆ : St (i + 1) h₆ := frameW mz mz R₅ R₆ st₅
      have V₆ : VarsOK g (compEnvC scope cl C env) (cx fz oI' oC' (dictOf es nn)) ((x, u) :: caps) :=
        caps_vars (c := c.with fz) (pc' := (I, oI') :: (C, oC') :: (D, dictOf es nn) :: c.pc) (V.mono fun p hp => mz p (m₁ p hp)) hc hx (.tail _ (.head _)) (fun p hp => .tail _ (.tail _ (.tail _ hp))) nC' (by simp) (rv.mono mz)
      rw [List.drop_eq_getElem_cons hlt] at hDC
      have eu : us[i] = u := by rw [List.getElem?_eq_getElem hlt] at hu; exact Option.some.inj hu
      rw [eu] at hDC
      refine Tst.use (c := cx fz oI' oC' (dictOf es nn)) (hDC C) V₆ R₆ fun fz₇ b cs₇ h₇ tk₇ m₇ p₇ R₇ => ?_
      have mz7 : ∀ p ∈ fz₁, p ∈ fz₇ := fun p hp => m₇ p (mz p hp)
      have st₇ : St (i + 1) h₇ := frameW mz mz7 R₆ R₇ st₆
      have V₇ := V₆.mono m₇
      cases b with
      | false =>
        simp only [Bool.false_eq_true, if_false]
        exact ⟨us.length + 1 - (i + 1), dc_lt hlt, i + 1, fz₇, ds, cs₇, oI', oC', _, es, nn, _, h₇, tk₇, rfl, rfl, hlt, mz7, R₇, nC', st₇, rfl, rd.mono m₇, nd, Nat.le_succ_of_le hdl, p₇.2 rfl⟩
      | true =>
        simp only [if_true]
        refine Ev.use (c := cx fz₇ oI' oC' (dictOf es nn)) (P := fun t cs' => t = u ∧ cs' = cs₇) (Ev.name (by simp) ⟨rfl, rfl⟩ hkindC hdb hcd) V₇ R₇ fun fz₈ t₈ v₈ cs₈ h₈ tk₈ m₈ p₈ r₈ R₈ => ?_
        obtain ⟨rfl, rfl⟩ := p₈
        have mz8 : ∀ p ∈ fz₁, p ∈ fz₈ := fun p hp => m₈ p (mz7 p hp)
        have hC8 : HC (cx fz₈ oI' oC' (dictOf es nn)) := stab c fz₈ _ (fun p hp => mz8 p (m₁ p hp)) (fun p hp => .tail _ (.tail _ (.tail _ hp))) hC
        refine p₇.1 rfl (cx fz₈ oI' oC' (dictOf es nn)) _ _ _ _ ⟨hC8, V₇.mono m₈, rfl⟩ R₈ fun fz₉ t₉ v₉ cs₉ h₉ tk₉ m₉ p₉ r₉ R₉ => ?_
        obtain ⟨y, rfl, hD'⟩ := p₉
        cases r₈ with
        | str _ tkk =>
        have mz9 : ∀ p ∈ fz₁, p ∈ fz₉ := fun p hp => m₉ p (mz8 p hp)
        have rd9 := ((rd.mono m₇).mono m₈).mono m₉
        have gD := (R₉.N (D, dictOf es nn) (List.mem_append_right _ (.tail _ (.tail _ (.head _))))).1
        obtain ⟨kvs, rk, hdo⟩ := VRd.dictOf (prog := prg) (w := g.w) rd9 nd gD
        have hkl : ds.length = kvs.length := by have := congrArg List.length rk.keys; simpa using this.symm
        refine wpAny_dictSet_pairs (hsz := hkl ▸ Nat.le_trans hdl (Nat.le_trans hile hsz)) (strKind_is prg g.w y tkk) hdo fun h₁₀ hl hs₁₀ => ?_
        obtain ⟨es', nn', gD', rd'⟩ := dictOf_back (rk.put (x := y) r₉) hl
        have R₁₀ : RF g A (cx fz₉ oI' oC' (dictOf es' nn')) cs₉ h₁₀ := by
          have z := RF.pcSub (c := c.with fz₉) (pc' := (D, dictOf es nn) :: (I, oI') :: (C, oC') :: c.pc) R₉ (fun p hp => by
            rcases List.mem_cons.mp hp with rfl | hp
            · exact .tail _ (.tail _ (.head _))
            · rcases List.mem_cons.mp hp with rfl | hp
              · exact .head _
              · rcases List.mem_cons.mp hp with rfl | hp
                · exact .tail _ (.head _)
                · exact .tail _ (.tail _ (.tail _ hp)))
          have z2 := RF.setPc (c := c.with fz₉) (o' := dictOf es' nn') (h' := h₁₀) z (by
            intro z
            simp only [List.map_cons, List.mem_cons] at z
            rcases z with z | z | z
            · exact hID z.symm
            · exact hCD z.symm
            · exact hpcD z) (fun b ob hb e => hs₁₀.extBut b ob hb e) gD'
          exact RF.pcSub (c := c.with fz₉) z2 (fun p hp => by
            rcases List.mem_cons.mp hp with rfl | hp
            · exact .tail _ (.head _)
            · rcases List.mem_cons.mp hp with rfl | hp
              · exact .tail _ (.tail _ (.head _))
              · rcases List.mem_cons.mp hp with rfl | hp
                · exact .head _
                · exact .tail _ (.tail _ (.tail _ hp)))
        have st₁₀ : St (i + 1) h₁₀ := frameW mz7 mz9 R₇ R₁₀ st₇
        have hl := putT_len ds y t₉
        exact ⟨us.length + 1 - (i + 1), dc_lt hlt, i + 1, fz₉, putT ds y t₉, cs₉, oI', oC', _, es', nn', _, h₁₀, _, rfl, rfl, hlt, mz9, R₁₀, nC', st₁₀, rfl, rd', put_nodup nd, Nat.le_trans hl (Nat.succ_le_succ hdl), hD'⟩
    · have hin : i = us.length := Nat.le_antisymm hile (Nat.not_lt.mp hlt)
      subst hin
      refine W.done { s with heap := h, toks := tk } _ _ st fun h₅ tk₅ k₅ => ?_
      rw [List.drop_length] at hDC
      have R₅ : RF g A { (c.with fz) with pc := (C, oC) :: (D, dictOf es nn) :: c.pc } cs h₅ := RF.but (c := c.with fz) RR (by
        intro z
        simp only [List.map_cons, List.mem_cons] at z
        rcases z with z | z | z
        · exact hIC z
        · exact hID z
        · exact hpcI z) (fun b ob hb e => k₅ b ob (fun z => hb (List.mem_singleton.mp z)) e)
      have gC := (R₅.N (C, oC) (List.mem_append_right _ (.head _))).1
      refine ⟨m, nC.ns gC, fun h' hs' => ?_⟩
      have R₆ : RF g A { (c.with fz) with pc := (D, dictOf es nn) :: c.pc } cs h' := RF.but (c := c.with fz) R₅ (by
        intro z
        simp only [List.map_cons, List.mem_cons] at z
        rcases z with z | z
        · exact hCD z
        · exact hpcC z) (fun b ob hb e => hs'.extBut b ob hb e)
      have R₇ : RF g A (c.with fz) ((D, .dict ds) :: cs) h' := RF.takeBack (c := c.with fz) (pc := c.pc) R₆ hpcD (.dict nn hlow rd)
      exact k fz (.cel D) (.ref D) _ h' tk₅ (fun p hp => mz p (m₁ p hp)) (hDC D) (.cel D) R₇
  have inv0 : Inv (us.length + 1) { s with heap := h₄, toks := tk₁ + ([] : List (Str × Value)).length } := by
    refine ⟨0, fz₁, [], cs₁, oI, oC₀, dictOf [] 0, [], 0, _, h₄, _, rfl, rfl, Nat.zero_le _, fun _ h => h, ?_, nC₀, hst₄, rfl, .nil, by simp, Nat.le_refl _, hD⟩
    have e0 : oD₀ = dictOf [] 0 := hD0.symm
    rw [← e0]
    exact RF.pcSub (c := c.with fz₁) R₄ (fun p hp => by
      rcases List.mem_cons.mp hp with rfl | hp
      · exact .tail _ (.tail _ (.head _))
      · rcases List.mem_cons.mp hp with rfl | hp
        · exact .head _
        · rcases List.mem_cons.mp hp with rfl | hp
          · exact .tail _ (.head _)
          · exact .tail _ (.tail _ (.tail _ hp)))
  exact codeAny_compStart_dict (loop _ inv0) (W.self 0 _ _ _ hst₄ (loop _ inv0))
end
end Mine
end

noncomputable section
open PySem PySem.W PyProof.Rows PySem.Calls
set_option Elab.async false
set_option linter.unusedVariables false
set_option maxRecDepth 100000
set_option pp.deepTerms false
set_option pp.deepTerms.threshold 3
set_option tactic.hygienic false
namespace Mine

noncomputable def CalH (HC : Ctx → Prop) (g : Gx) (A : Around) (tf : T) (ts : List T) (cs : Cs) (P : T → Cs → Prop) : Prop :=
  ∀ (c : Ctx) (s : Shared) (Q E : Value → Shared → Prop) (f : Value) (vs : List Value), HC c → VR g.P c.fz tf f → VRs g.P c.fz ts vs → RF g A c cs s.heap →
    (∀ fz' r v cs' h' tk', (∀ p ∈ c.fz, p ∈ fz') → P r cs' → VR g.P fz' r v → RF g A (c.with fz') cs' h' → Q v { s with heap := h', toks := tk' }) →
    KeepsAt g.M s.heap f ∧ wpAny g.M A (call f vs []) Q E s
/-- what is closed over, and the functions made -/
noncomputable def HoldC (g : Gx) (hs : List (Addr × T)) (fs : List (Addr × Obj)) (c : Ctx) : Prop :=
  (∀ p ∈ hs, ∃ o v, (p.1, o) ∈ c.pc ∧ o.data = .cell (some v) ∧ VR g.P c.fz p.2 v) ∧ ∀ p ∈ fs, p ∈ c.fz
theorem HoldC.stab {g : Gx} {hs : List (Addr × T)} {fs : List (Addr × Obj)} (c : Ctx) (fz pc : List (Addr × Obj)) (h1 : ∀ p ∈ c.fz, p ∈ fz) (h2 : ∀ p ∈ c.pc, p ∈ pc) (H : HoldC g hs fs c) : HoldC g hs fs { (c.with fz) with pc := pc } :=
  ⟨fun p hp => let ⟨o, v, a, b, r⟩ := H.1 p hp; ⟨o, v, h2 _ a, b, r.mono h1⟩, fun p hp => h1 _ (H.2 p hp)⟩
section
variable {g : Gx} {A : Around} {env : Env} {vars : Vars} {cs : Cs} {P : T → Cs → Prop} {HC : Ctx → Prop}
theorem EvH.call {func : Expr} {args : List Expr} {pos : Pos} (stab : ∀ (c : Ctx) fz, (∀ p ∈ c.fz, p ∈ fz) → HC c → HC (c.with fz)) (H : Ev g A env vars func cs fun tf cs₁ => ArgP g A env vars args cs₁ fun ts cs₂ => CalH HC g A tf ts cs₂ P)
    (he : eval (.Call func args [] pos) env = (do callWith pos (← eval func env) [] (backTo pos (starEach args env)) (backToKw pos (keywordEach [] env))) := by rfl) : EvH HC g A env vars (.Call func args [] pos) cs P := by
  rintro c s Q E _ ⟨hC, V, rfl⟩ R k
  refine Call_ (H.use V R fun fz₁ tf f cs₁ h₁ tk₁ m₁ H₁ r₁ R₁ => ?_) he
  refine core ?_
  have fin : ∀ fz' ts vs cs' h' tk', (∀ p ∈ fz₁, p ∈ fz') → CalH HC g A tf ts cs' P → VRs g.P fz' ts vs → RF g A (c.with fz') cs' h' → KeepsAt g.M h' f ∧ wpAny g.M A (PySem.call f ([] ++ vs) []) Q E { s with heap := h', toks := tk' } := fun fz' ts vs cs' h' tk' m p r R' =>
    p (c.with fz') { s with heap := h', toks := tk' } Q E f vs (stab _ _ (fun q hq => m q (m₁ q hq)) hC) (r₁.mono m) r R' fun fz'' r v cs'' h'' tk'' m' => k fz'' r v cs'' h'' tk'' fun q hq => m' q (m q (m₁ q hq))
  cases args with
  | nil => exact evalArgs_nil3 (fin fz₁ [] [] cs₁ h₁ tk₁ (fun _ h => h) H₁ .nil R₁)
  | cons e rest =>
    obtain ⟨H, he⟩ := H₁
    rw [he]
    refine evalArgs_plain ?_
    have := H (c.with fz₁) { s with heap := h₁, toks := tk₁ } pos (fun vs s' => KeepsAt g.M s'.heap f ∧ wpAny g.M A (PySem.call f ([] ++ vs) []) Q E s') E (V.mono m₁) R₁ fun fz' ts vs cs' h' tk' m p r R' => fin fz' ts vs cs' h' tk' m p r R'
    rw [he] at this
    exact this
/-- a def of the top, called with a def of the caller's -/
theorem CalH.fn {hs : List (Addr × T)} {fs : List (Addr × Obj)} {name qual : Str} {params : Arguments} {body : List Stmt} {scope : Scope} {dV kV doc pm cdv ct oc : Value} {an od : Option Addr} {osl : Array (Option Value)} {f : Addr} {ts : List T} {bs : List (Str × T)} {n : Nat}
    (hr : Room A (n + 1)) (ho : (kk g.w.params).lookup f = some ⟨oc, od, .func (fnOf name qual params body scope dV kV doc pm an cdv ct), osl⟩) (hcd : codeIn (kk g.w.params) cdv qual = true)
    (hb : BindP g A.in1 (fnOf name qual params body scope dV kV doc pm an cdv ct) ts [] cs bs)
    (H : ∀ L A', Room A' n → Ex { g with fns := fs, cls := hs } A' (envX qual scope L f cdv (cellsFrom (L + 1) scope.names [])) body bs cs (fun fl _ cs' => P (retT fl) cs') noX)
    (hkind : (bs.all fun y => scope.names.lookup y.1 == some .local || scope.names.lookup y.1 == some .cell) = true) (hbn : (bs.map (·.1)).Nodup)
    (hnd : ((cellsFrom 0 scope.names []).map (·.1)).Nodup) 
    (hco : scope.isCoroutine = false := by rfl) (hgen : scope.isGenerator = false := by rfl) (hk : scope.kind = .function := by rfl) : CalH (HoldC g hs fs) g A (.raw (.ref f)) ts cs P := by
  intro c s Q E f' vs hC rf rv R k
  cases rf
  refine ⟨⟨.frame, .inl rfl, (Looks.ld (part := none) (R.XIn _ _ ho)).andThen .now⟩, wpAny_call ?_⟩
  refine code_fn0 (kw := []) (kvs := []) hr ho hcd hb hkind hbn hnd hco hgen hk R rv .nil fun L E' cc h₂ tk₂ eE eL mz pcG st Sc Rc back _ => ?_
  have Rg : RF { g with fns := fs, cls := hs } (A.deeper E') cc cs h₂ := by
    refine ⟨Rc.below, Rc.F, Rc.X, Rc.top, Rc.N, Rc.co, Rc.nd, Rc.ap, Rc.ap2, Rc.fx.fr, fun p hp => mz _ (hC.2 p hp), fun p hp => ?_, Rc.fx.ap3, Rc.fx.ap4⟩
    obtain ⟨o, v, a, b, r⟩ := hC.1 p hp
    exact ⟨o, v, pcG _ a, b, r.mono mz⟩
  have Sg : SV { g with fns := fs, cls := hs } E' cc bs := ⟨Sc.ok, Sc.loc, Sc.kind, Sc.cell, Sc.nd, Sc.inj⟩
  subst eE
  have fin : wpAny g.M (A.deeper (envX qual scope L f cdv (cellsFrom (L + 1) scope.names []))) (execs body (envX qual scope L f cdv (cellsFrom (L + 1) scope.names []))) (fun f s' => Q (match f with | .ret v => v | _ => .none) s') (fun _ _ => False) { s with heap := h₂, toks := tk₂ } := by
    refine H L _ (hr.deeper _) cc _ _ _ Sg Rg PassesOwn.never (fun c' fl fw vars' cs' h' tk' l p fr S' R₂ => ?_) fun e c' cs' h' tk' l xx => xx.elim
    have RR := (back { g with fns := fs, cls := hs } c' cs' h' rfl l R₂).1
    have mm : ∀ p ∈ c.fz, p ∈ c'.fz := fun p hp => l.fz p (mz p hp)
    cases fr with
    | next => exact k c'.fz _ _ cs' h' tk' mm p .none RR
    | brk => exact k c'.fz _ _ cs' h' tk' mm p .none RR
    | cont => exact k c'.fz _ _ cs' h' tk' mm p .none RR
    | ret r => exact k c'.fz _ _ cs' h' tk' mm p r RR
  exact wpAny_mono fin (fun _ _ z => z) fun _ _ z => z.elim
/-- what was made is set down for good -/
theorem EvH.post {e : Expr} {P' : T → Cs → Prop} (H : EvH HC g A env vars e cs P') (hk : ∀ (c : Ctx) t v cs h, P' t cs → VR g.P c.fz t v → RF g A c cs h → ∃ fz' t' cs', (∀ p ∈ c.fz, p ∈ fz') ∧ P t' cs' ∧ VR g.P fz' t' v ∧ RF g A (c.with fz') cs' h) : EvH HC g A env vars e cs P :=
  fun c s Q E t ht R k => H c s Q E t ht R fun fz' r v cs' h' tk' m p r' R' => by
    obtain ⟨fz'', t', cs'', m', p', r'', R''⟩ := hk (c.with fz') r v cs' h' p r' R'
    exact k fz'' t' v cs'' h' tk' (fun q hq => m' q (m q hq)) p' r'' R''
theorem RF.freezeO {c : Ctx} {h : Heap} {x d K : Addr} {ds : List (Str × T)} (R : RF g A c ((x, .inst K d) :: (d, .dict ds) :: cs) h) : ∃ fz', (∀ p ∈ c.fz, p ∈ fz') ∧ VR g.P fz' (.obj K ds) (.ref x) ∧ RF g A (c.with fz') cs h := by
  obtain ⟨o, cr, R₁⟩ := R.freeze
  cases cr
  obtain ⟨o, cr, R₂⟩ := R₁.freeze
  cases cr with
  | dict nn hs rd => exact ⟨_, fun p hp => .tail _ (.tail _ hp), .obj (.tail _ (.head _)) (.head _) (rd.mono fun _ h => .tail _ h), R₂⟩
theorem RF.freezeH {c : Ctx} {h : Heap} {b x d K : Addr} {nm : Str} {ts : List T} (R : RF g A c ((b, .list ts) :: (x, .inst K d) :: (d, .dict [(nm, .cel b)]) :: cs) h) : ∃ fz', (∀ p ∈ c.fz, p ∈ fz') ∧ VR g.P fz' (.obj K [(nm, .list ts)]) (.ref x) ∧ RF g A (c.with fz') cs h := by
  obtain ⟨o, cr, R₀⟩ := R.freeze
  cases cr with
  | list nl rs =>
  obtain ⟨o, cr, R₁⟩ := R₀.freeze
  cases cr
  obtain ⟨o, cr, R₂⟩ := R₁.freeze
  cases cr with
  | dict nn hs rd =>
  cases rd with
  | cons r r' =>
  cases r
  cases r'
  exact ⟨_, fun p hp => .tail _ (.tail _ (.tail _ hp)), .obj (.tail _ (.head _)) (.head _) (.cons (.list (.tail _ (.tail _ (.head _))) (rs.mono fun _ h => .tail _ (.tail _ (.tail _ h)))) .nil), R₂⟩
end

section
variable {g : Gx} {A : Around} {env : Env} {vars : Vars} {cs : Cs}
theorem RF.bornAt {c : Ctx} {h : Heap} {a : Addr} {o : Obj} (R : RF g A c cs h) (ho : h.get? a = some o) (n1 : a ≠ c.L) (n2 : c.h₀.get? a = none) (n3 : ∀ p ∈ c.fz ++ c.pc, p.1 ≠ a) (n4 : ∀ p ∈ cs, p.1 ≠ a) (n5 : ∀ p ∈ c.frs, p.1 ≠ a) : RF g A (c.with ((a, o) :: c.fz)) cs h := by
  refine ⟨R.below, R.F, R.X, R.top, fun p hp => ?_, fun p hp => ?_, R.nd, fun p hp q hq => ?_, fun p hp q hq => ?_, R.fx.gen (fun b ob _ e => e) R.fx.ap3 (fun p hp q hq => ?_) fun _ h => .tail _ h⟩
  · rcases List.mem_cons.mp hp with rfl | hp
    · exact ⟨ho, n1, n2⟩
    · exact R.N p hp
  · obtain ⟨ob, cr, n⟩ := R.co p hp
    exact ⟨ob, cr.mono fun _ h => .tail _ h, n⟩
  · rcases List.mem_cons.mp hq with rfl | hq
    · exact n4 p hp
    · exact R.ap p hp q hq
  · rcases List.mem_cons.mp hq with rfl | hq
    · exact n3 p (List.mem_append_right _ hp)
    · exact R.ap2 p hp q hq
  · rcases List.mem_cons.mp hp with rfl | hp
    · exact fun e => n5 q hq e.symm
    · exact R.fx.ap4 p hp q hq
/-- one cell is changed, and new things stand -/
theorem RF.setX {c : Ctx} {h h' : Heap} {a : Addr} {k k' : C} {o' : Obj} (R : RF g A c ((a, k) :: cs) h) (kk : ∀ b ob, b ≠ a → h.get? b = some ob → h'.get? b = some ob) (ho : h'.get? a = some o') (cr : CR g.P c.fz a k' o') : RF g A c ((a, k') :: cs) h' := by
  have nd : a ∉ c.pc.map (·.1) := fun z => by
    obtain ⟨p, hp, e⟩ := List.mem_map.mp z
    exact R.ap _ (.head _) p (List.mem_append_right _ hp) e.symm
  obtain ⟨o, _, R₁⟩ := R.putBy
  exact RF.takeBack (c := c) (RF.setPc (c := c) R₁ nd kk ho) nd cr

/-- a def within a def, and what is given back with its help -/
theorem Ex.defRet {name x : Str} {params : Arguments} {body : List Stmt} {fscope : Scope} {pos rpos : Pos} {e : Expr} {C0 P0 a : Addr} {t : T} {P : Fl → Vars → Cs → Prop} {X : XP}
    (hd0 : params.defaults = []) (hk0 : params.kw_defaults = []) (ha : annTrees params none env = []) (hcl : closureFor fscope env = pure [(x, a)]) (hge0 : env.globals = mainGlobals) (hcode : env.code = .ref C0) (hC : codeHdIn (kk g.w.params) C0 P0 = true)
    (hxc : env.cells.lookup x = some a) (hxk : env.kindOf x = some .cell) (hxt : vars.lookup x = some t) (hnk : env.kindOf name = some .cell) (hne : (x == name) = false)
    (H : ∀ f c' oc cvs tq ctv doc pm tb, oc.data = .fields cvs → cvs[1]? = some (.str (qualnameIn env name name) tq) →
      EvH (HoldC g [(a, t)] [(f, fnMade name (qualnameIn env name name) params body fscope [(x, a)] doc pm c' ctv), (c', oc)]) g A env ((name, .raw (.ref f)) :: vars) e ((P0, .raw (tabObj tb)) :: cs) fun t cs' => P (.ret t) ((name, .raw (.ref f)) :: vars) cs') :
    Ex g A env [.FunctionDef name params body [] none [] fscope none name pos, .Return (some e) rpos] vars ((P0, .raw (tabObj #[])) :: cs) P X := by
  intro c s Q E S R hE q ee
  have hP : s.heap.get? P0 = some (tabObj #[]) := by
    obtain ⟨o, cr, n⟩ := R.co _ (.head _)
    cases cr
    exact (n _ (.head _)).1
  have hgs := R.top.g.keeps R.F.keep
  obtain ⟨bm, ob, b1, b2, b3, b4, b5, b6⟩ := R.top.bmain
  have hgP : mainGlobals ≠ P0 := fun q => by
    obtain ⟨o, es, ep, e, hd, _⟩ := hgs
    rw [q, hP] at e; cases e; cases hd
  have hbP : bm ≠ P0 := fun q => by
    have e := R.F.keep _ _ b3
    rw [q, hP] at e; cases e; cases b4
  have hbG : bm ≠ mainGlobals := fun q => by
    obtain ⟨o, es, ep, e, hd, _⟩ := R.top.g
    rw [q, e] at b3; cases b3; rw [hd] at b6; cases b6
  refine wpAny_execs_cons (nestDef_K hd0 hk0 ha (makeFunction_K (mg := g.mg) (c := C0) (P := P0) (ps := #[]) hcl hge0 hgs hcode (codeHd_of_K R.XIn hC) hP trivial rfl hgP ⟨bm, ob, b1, b2, hbG, hbP, R.F.keep _ _ b3, b4, b5, b6⟩ fun c' ctv doc h' tk hx hge hlt hrec htb => ?_))
  obtain ⟨c₂, oc, cvs, tq, e2, hoc, hdat, hv⟩ := hrec
  cases e2
  generalize hfo : fnMade name (qualnameIn env name name) params body fscope [(x, a)] doc ((g.mg "__name__").getD .none) c' ctv = fo
  obtain ⟨n1, n2, n3, n4⟩ := R.out hge
  have R₁ : RF g A c ((P0, .raw (tabObj (#[] ++ #[rawInt pos.line, rawInt pos.col, .ref c']))) :: cs) h' := R.setX (fun b ob hb e => hx b ob hb e) htb (.raw _)
  have R₂ := R₁.bornAt hoc n1 n2 n3 (fun p hp => by
    rcases List.mem_cons.mp hp with rfl | hp
    · exact n4 (P0, .raw (tabObj #[])) (.head _)
    · exact n4 p (.tail _ hp)) (fun p hp e => absurd (R.fx.lt hp) (Nat.not_lt.mpr (e ▸ hge)))
  have R₃ := R₂.born (h' := h'.push fo) (a := h'.objs.size) (o := fo) (fun b ob e => Heap.get?_push_of_some _ e) (Heap.get?_push_size _ (by rw [← hfo]; rfl)) (Nat.le_refl _)
  refine store_cell (s := { s with heap := h'.push fo, toks := tk }) (S.mono fun p hp => .tail _ (.tail _ hp)) R₃ (.raw (.ref h'.objs.size)) hnk fun c₄ h₄ tk₄ le S₄ R₄ => ?_
  have hH : HoldC g [(a, t)] [(h'.objs.size, fo), (c', oc)] c₄ := by
    refine ⟨fun p hp => ?_, fun p hp => ?_⟩
    · rw [List.mem_singleton.mp hp]
      obtain ⟨v, r, at'⟩ := S₄.ok x t (by rw [List.lookup_cons, hne]; exact hxt)
      rcases at' with ⟨z, _, _⟩ | ⟨z, _⟩ | ⟨_, a', o', l1, m1, d1⟩
      · rw [hxk] at z; cases z
      · rw [hxk] at z; cases z
      · rw [hxc] at l1; cases l1
        refine ⟨o', v, ?_, d1, r⟩
        rcases m1 with m1 | m1
        · exact m1
        · obtain ⟨a'', o'', v'', l2, m2, _⟩ := S₄.cell x hxk
          rw [hxc] at l2; cases l2
          have := (R₄.N _ (List.mem_append_right _ m2)).2.2
          rw [m1] at this; cases this
    · rcases List.mem_cons.mp hp with rfl | hp
      · exact le.fz _ (.head _)
      · rw [List.mem_singleton.mp hp]
        exact le.fz _ (.tail _ (.head _))
  have leC : Le c c₄ := (Le.with (fun p hp => .tail _ (.tail _ hp))).trans le
  subst hfo
  refine wpAny_execs_cons (wpAny_Return_some ?_)
  refine H h'.objs.size c' oc cvs tq ctv doc _ _ hdat hv c₄ { s with heap := h₄, toks := tk₄ } _ E _ ⟨hH, S₄.ok, rfl⟩ R₄ fun fz' t v cs' h'' tk'' m p r R' => ?_
  exact q (c₄.with fz') (.ret t) (.ret v) _ cs' h'' tk'' (leC.trans (.with m)) p (.ret r) (S₄.mono m) R'
end
end Mine
end

noncomputable section
open PySem PySem.W PyProof.Rows PySem.Calls
set_option Elab.async false
set_option linter.unusedVariables false
set_option maxRecDepth 100000
set_option pp.deepTerms false
set_option pp.deepTerms.threshold 3
namespace Mine

section
variable {g : Gx} {A : Around} {env : Env} {vars : Vars} {cs : Cs} {P : T → Cs → Prop}
theorem Itb.iter {target : Expr} {us : List T} {I : Addr} (hh : A.handled = none) : Itb g A target (.cel I) ((I, .iter (some (.list us)) 0) :: cs) us cs := by
  intro c s v Q E r R k
  cases r
  have nd : I ∉ c.pc.map (·.1) := fun z => by
    obtain ⟨p, hp, e⟩ := List.mem_map.mp z
    exact R.ap _ (.head _) p (List.mem_append_right _ hp) e.symm
  have nL : I ≠ c.L := by
    obtain ⟨o, _, n⟩ := R.co _ (.head _)
    exact (n _ (.head _)).2.1
  have nz : ∀ q ∈ c.fz, q.1 ≠ I := fun q hq e => R.ap _ (.head _) q (List.mem_append_left _ hq) e.symm
  obtain ⟨o, cr, R₁⟩ := R.putBy
  have gI := (R₁.N (I, o) (List.mem_append_right _ (.head _))).1
  cases cr with
  | iter _ hv =>
  cases hv with
  | list hm rs =>
  rename_i a vs n
  have ha := R.fzGet hm
  have hl : s.heap.IsList a vs.toArray := ⟨_, ha, rfl, n, rfl⟩
  have W := Walks.list (prog := prg) (w := g.w) hh I a (nz _ hm) vs.toArray
  have st0 : s.heap.IsListIter I a 0 ∧ s.heap.IsList a vs.toArray := ⟨⟨_, gI, rfl, rfl⟩, hl⟩
  refine W.self 0 s Q E st0 ?_
  refine k I _ _ _ s.heap (fun v => by simp) nd nL R₁ (walks_of W (by simp [rs.length]) fun i u hlt' e => ?_) (fun i v s' Q' E' st q => letGo_listiter st.1 q) (fun i h st => ?_) (fun b hb => ?_) st0
  · have e' : vs[i]? = some u := by simpa using e
    have hi : i < us.length := by rw [← rs.length]; exact (List.getElem?_eq_some_iff.mp e').1
    obtain ⟨u', e2, r2⟩ := rs.get (i := i) (t := us[i]) (by simp [hi])
    rw [e'] at e2; cases e2
    exact ⟨_, by simp [hi], r2⟩
  · obtain ⟨o, ho, hc, hd⟩ := st.1
    exact ⟨o, ho, fun v => by rw [hd]; simp⟩
  · rcases List.mem_cons.mp hb with e | hb
    · exact .inl e
    · rw [List.mem_singleton.mp hb]; exact .inr ⟨_, .inl hm⟩
theorem Op2.isInst {x K d b : Addr} {o : Obj} (hm : (x, C.inst K d) ∈ cs) (hb : (kk g.w.params).lookup b = some o) (h : P (.bool false) cs) : Op2 g A (compareOp .Is) (.cel x) (.raw (.ref b)) cs P := by
  rintro c s Q E _ ⟨v₁, v₂, h₁, h₂, rfl⟩ R k
  cases h₁; cases h₂
  obtain ⟨ox, cr, n⟩ := R.co _ hm
  have gx := n _ (.head _)
  cases cr
  have gb := R.X _ _ hb
  refine wpAny_is_ref_other (fun e => ?_) gx.1 (R.F.keep _ _ gb) (by simp) (k c.fz _ _ cs s.heap s.toks (fun _ h => h) h (.bool _) R)
  have := gx.2.2
  rw [e, gb] at this; cases this

noncomputable abbrev stH (b x d : Addr) (kept : List (Str × Nat)) (cs : Cs) : Cs := (b, .list (kT kept)) :: (x, .inst 171 d) :: (d, .dict [("_headers", .cel b)]) :: cs
theorem addAll_good {i : Nat} (hi : i < 5) : ∀ {ms : List Str} {kept : List (Str × Nat)}, goodK kept → (∀ x ∈ ms, isNm x) → goodK (addAll i ms kept)
  | [], _, h, _ => h
  | nm :: ms, kept, h, hm => addAll_good (ms := ms) (kept := addTo kept nm i) hi (h.add (hm nm (.head _)) hi) fun x hx => hm x (.tail _ hx)
theorem addAll_len (i : Nat) : ∀ (ms : List Str) (kept : List (Str × Nat)), (addAll i ms kept).length ≤ kept.length + ms.length
  | [], _ => Nat.le_refl _
  | nm :: ms, kept => Nat.le_trans (addAll_len i ms _) (by have := addTo_len kept nm i; simp; omega)
noncomputable abbrev shT (own : Nat → List Str) : T := .dict (tabT (fun i => tabO ((own i).map fun nm => (nm, i))) 5)
theorem kT_own (i : Nat) (ms : List Str) : kT (ms.map fun nm => (nm, i)) = ms.map (pairT i) := by simp
inductive RedI (b x d f : Addr) (own : Nat → List Str) (line : List Nat) (cs : Cs) (us : List T) (vars : Vars) (c : Cs) : Prop
  | mk  (l : List Nat) (kept : List (Str × Nat)) (f1 : us = l.map lT) (f2 : c = stH b x d kept cs) (f3 : goodK kept) (f4 : (∀ i ∈ l, i < 5)) (f5 : kept.length + 2 * l.length ≤ 40) (f6 : firstOf own l kept = firstOf own line []) (f7 : Has [("function", .raw (.ref f)), ("value", .cel x)] vars)
theorem reduce_spec {hs : List (Addr × T)} {fs : List (Addr × Obj)} {f b x d : Addr} {n : Nat} {own : Nat → List Str} {line : List Nat} (hr : Room A (n + 1)) (ho : ∀ i < 5, (own i).length ≤ 2 ∧ ∀ x ∈ own i, isNm x) (hl : ∀ i ∈ line, i < 5) (hz : line.length ≤ 20)
    (hlay : ∀ A', Room A' n → ∀ i kept, i < 5 → goodK kept → kept.length ≤ 100 → Cal { g with fns := fs, cls := hs } A' (.raw (.ref f)) [.cel x, lT i] [] (stH b x d kept cs) fun t c => t = .cel x ∧ c = stH b x d (addAll i (own i) kept) cs)
    (h : P (.cel x) (stH b x d (firstOf own line []) cs)) : CalH (HoldC g hs fs) g A (.raw (.ref 184)) [.raw (.ref f), lTs line, .cel x] (stH b x d [] cs) P := by
  refine CalH.fn (n := n) (bs := [("function", .raw (.ref f)), ("sequence", lTs line), ("initial", .cel x)]) hr rfl rfl (BindP.dflt (dts := []) (dvs := []) rfl rfl (fun vs hv => ?_) (fun _ => .nil) rfl) (fun L A' hr' => ?_) rfl (by show (["function", "sequence", "initial"] : List Str).Nodup; decide) (by decide)
  · obtain ⟨v, w, u, rfl⟩ := len3 hv
    exact ⟨_, rfl, rfl⟩
  have hh := hr'.1
  generalize ({ g with fns := fs, cls := hs } : Gx) = g' at hlay ⊢
  refine Ex.cons ?_
  refine Ex1.assignL ?_
  refine Ev.call ?_
  refine Ev.b_iter ⟨rfl, rfl, rfl, rfl⟩ ?_
  refine ArgP.cons ?_
  refine Evs.cons ?_
  refine Ev.name rfl ?_
  refine Evs.nil ?_
  refine Cal.iter (.fz _) fun I => ?_
  refine Ex.cons ?_
  refine Ex1.ifs ?_
  refine Ts.cmp ?_
  refine Ev.name rfl ?_
  refine Ev.g__initial_missing ⟨rfl, rfl, rfl, rfl⟩ ?_
  refine Op2.isInst (K := 171) (d := d) (o := _) (.tail _ (.tail _ (.head _))) rfl ?_
  refine ⟨false, rfl, fun e => (nomatch e), fun _ => ?_⟩
  refine Ex.cons ?_
  refine Ex1.assignL ?_
  refine Ev.name rfl ?_
  refine Ex.nil ?_
  refine Ex.cons ?_
  refine Ex1.for_ ?_
  refine Ev.name rfl ?_
  refine ⟨_, _, Itb.iter hh, ?_⟩
  refine ForP.inv (RedI b x d f own line cs) ?_ ?_ _ _ _ ⟨line, [], rfl, rfl, fun p hp => (nomatch hp), hl, by simp; omega, rfl, rfl, rfl, trivial⟩
  · rintro u rest vars c ⟨l, kept, e, rfl, gk, hl', hz', hf, hv⟩
    cases l with
    | nil => cases e
    | cons i l =>
    simp only [List.map_cons, List.cons.injEq] at e
    obtain ⟨rfl, rfl⟩ := e
    have hi : i < 5 := hl' i (.head _)
    have h2 := (ho i hi).1
    refine As.weaken hv.k (As.nameL ?_)
    refine Ex.cons ?_
    refine Ex1.assignL ?_
    refine Ev.call ?_
    refine Ev.name rfl ?_
    refine ArgP.cons ?_
    refine Evs.cons ?_
    refine Ev.name rfl ?_
    refine Evs.cons ?_
    refine Ev.name rfl ?_
    refine Evs.nil ?_
    simp at hz'
    refine (hlay A' hr' i kept hi gk (by omega)).post fun t c hp => ⟨c, .refl _, ?_⟩
    obtain ⟨rfl, rfl⟩ := hp
    refine Ex.nil ?_
    have := addAll_len i (own i) kept
    exact ⟨l, addAll i (own i) kept, rfl, rfl, addAll_good hi gk (ho i hi).2, fun j hj => hl' j (.tail _ hj), by omega, hf, rfl, rfl, trivial⟩
  · rintro vars c ⟨l, kept, e, rfl, gk, hl', hz', hf, hv⟩
    have : l = [] := by cases l with | nil => rfl | cons _ _ => cases e
    subst this
    refine Ex.nil ?_
    refine StT.weaken hv.k ?_
    refine Ex.cons ?_
    refine Ex1.ret ?_
    refine Ev.name rfl ?_
    have hf' : kept = firstOf own line [] := hf
    rw [hf']
    exact h
end
end Mine
end

noncomputable section
open PySem PySem.W PyProof.Rows PySem.Calls
set_option Elab.async false
set_option linter.unusedVariables false
set_option maxRecDepth 100000
set_option pp.deepTerms false
set_option pp.deepTerms.threshold 3
set_option tactic.hygienic false
namespace Mine

open LCg LCt
section
variable {g : Gx} {A : Around} {env : Env} {vars caps : Vars} {x : Str} {scope : Scope} {cl : List (Str × Addr)} {P : T → Cs → Prop} {cs : Cs} {HC : Ctx → Prop}
theorem EvH.mono {e : Expr} {P P' : T → Cs → Prop} (H : EvH HC g A env vars e cs P) (k : ∀ t cs', P t cs' → P' t cs') : EvH HC g A env vars e cs P' := fun c s Q E t ht R kk => H c s Q E t ht R fun fz' r v cs' h' tk' m p => kk fz' r v cs' h' tk' m (k _ _ p)
theorem Tst.mono {ifs : List Expr} {P P' : Bool → Cs → Prop} (H : Tst g A env vars ifs cs P) (k : ∀ b cs', P b cs' → P' b cs') : Tst g A env vars ifs cs P' := by
  match ifs, H with
  | [], H => exact k _ _ H
  | [ct], H => exact fun c s Q E V R kk => H c s Q E V R fun fz' b cs' h' tk' m p => kk fz' b cs' h' tk' m (k _ _ p)
noncomputable def fillT (f : Nat → Option T) (l : List Nat) : List (Str × T) := l.filterMap fun i => (f i).map fun t => (ltr i, t)
theorem fill_put {f : Nat → Option T} {l : List Nat} {i : Nat} {t : T} (hi : i ∉ l) : putT (fillT f l) (ltr i) t = fillT f l ++ [(ltr i, t)] := by
  unfold putT
  rw [if_neg]
  intro z
  obtain ⟨kv, hk, e⟩ := List.any_eq_true.mp z
  obtain ⟨j, hj, e2⟩ := List.mem_filterMap.mp hk
  cases q : f j with
  | none => rw [q] at e2; cases e2
  | some u =>
    rw [q] at e2
    simp only [Option.map_some, Option.some.injEq] at e2
    subst e2
    exact hi (ltr_inj (of_decide_eq_true e) ▸ hj)
theorem dcomp_fill {ifs : List Expr} {vx : Expr} (f : Nat → Option T) (l₀ : List Nat) (hT : ∀ i ∈ l₀, ∀ C, Tst g A (compEnvC scope cl C env) ((x, lT i) :: caps) ifs cs fun b c => b = (f i).isSome ∧ c = cs)
    (hV : ∀ i ∈ l₀, ∀ t, f i = some t → ∀ C, EvH HC g A (compEnvC scope cl C env) ((x, lT i) :: caps) vx cs fun t' c => t' = t ∧ c = cs) (hP : ∀ D, P (.cel D) ((D, .dict (fillT f l₀)) :: cs)) :
    ∀ (l done : List Nat), done ++ l = l₀ → l₀.Nodup → DComp g A env x scope cl caps HC P ifs vx (l.map lT) (fillT f done) cs
  | [], done, e, _ => by
    rw [List.append_nil] at e
    subst e
    exact hP
  | i :: l, done, e, nd => by
    have hi : i ∈ l₀ := by rw [← e]; simp
    have hn : i ∉ done := by
      rw [← e] at nd
      exact fun z => (List.nodup_append.mp nd).2.2 i z i (.head _) rfl
    have e' : (done ++ [i]) ++ l = l₀ := by simpa using e
    have ih := dcomp_fill f l₀ hT hV hP l (done ++ [i]) e' nd
    intro C
    refine (hT i hi C).mono fun b c hb => ?_
    obtain ⟨rfl, rfl⟩ := hb
    refine ⟨fun hs => ?_, fun hs => ?_⟩
    · obtain ⟨t, ht⟩ := Option.isSome_iff_exists.mp hs
      refine (hV i hi t ht C).mono fun t' c hc => ?_
      obtain ⟨rfl, rfl⟩ := hc
      refine ⟨ltr i, rfl, ?_⟩
      rw [fill_put hn]
      have e2 : fillT f (done ++ [i]) = fillT f done ++ [(ltr i, t')] := by simp [fillT, ht]
      rw [e2] at ih
      exact ih
    · have ht : f i = none := by simpa using hs
      have e2 : fillT f (done ++ [i]) = fillT f done := by simp [fillT, ht]
      rw [e2] at ih
      exact ih
end
end Mine
end

noncomputable section
open PySem PySem.W PyProof.Rows PySem.Calls
set_option Elab.async false
set_option linter.unusedVariables false
set_option maxRecDepth 100000
set_option pp.deepTerms false
set_option pp.deepTerms.threshold 3
set_option tactic.hygienic false
namespace Mine

open LCg LCt
section
variable {g : Gx} {A : Around} {cs : Cs} {P : T → Cs → Prop}
noncomputable abbrev ownK (own : Nat → List Str) (i : Nat) : List (Str × Nat) := (own i).map fun nm => (nm, i)
noncomputable abbrev tabF (own : Nat → List Str) (ln : Nat → Option (List Nat)) (i : Nat) : Option T := (ln i).map fun l => tabO (firstOf own l [])
theorem ownK_good {own : Nat → List Str} {i : Nat} (hi : i < 5) (h : ∀ x ∈ own i, isNm x) : goodK (ownK own i) := fun p hp => by
  obtain ⟨nm, hn, rfl⟩ := List.mem_map.mp hp
  exact ⟨h nm hn, hi⟩
theorem fill_some (f : Nat → T) (n : Nat) : fillT (fun i => some (f i)) (List.range n) = tabT f n := by
  unfold fillT tabT
  simp
theorem fill_look {f : Nat → Option T} {i : Nat} {t : T} : ∀ {l : List Nat}, i ∈ l → f i = some t → (fillT f l).lookup (ltr i) = some t
  | j :: l, hi, hf => by
    by_cases e : i = j
    · subst e
      simp [fillT, hf, List.lookup]
    · have hi' : i ∈ l := (List.mem_cons.mp hi).resolve_left e
      have ih := fill_look hi' hf
      cases q : f j with
      | none => simpa [fillT, q] using ih
      | some u =>
        have ne : (ltr i == ltr j) = false := by
          have : ltr i ≠ ltr j := fun z => e (ltr_inj z)
          simpa using this
        simp only [fillT, q, List.filterMap_cons, Option.map_some, List.lookup_cons, ne]
        exact ih
theorem noCell {l : List (Str × NameKind)} (h : ∀ y ∈ l, y.2 ≠ .cell) (y : Str) : l.lookup y ≠ some .cell := by
  induction l with
  | nil => exact fun e => nomatch e
  | cons p l ih =>
    rw [List.lookup_cons]
    split
    · exact fun e => h p (.head _) (Option.some.inj e)
    · exact ih fun z hz => h z (.tail _ hz)
inductive TbI (b x dx : Addr) (own : Nat → List Str) (j : Nat) (kept : List (Str × Nat)) (cs₂ : Cs) (us : List T) (vars : Vars) (c : Cs) : Prop
  | mk  (ms : List Str) (k : List (Str × Nat)) (f1 : us = ms.map (pairT j)) (f2 : c = stH b x dx k cs₂) (f3 : goodK k) (f4 : (∀ x ∈ ms, isNm x)) (f5 : k.length + ms.length ≤ 110) (f6 : addAll j ms k = addAll j (own j) kept) (f7 : Has [("table", .cel x)] vars)
theorem tables_spec {n : Nat} {own : Nat → List Str} {ln : Nat → Option (List Nat)} {lds : List (Str × T)} (hr : Room A (n + 7)) (ho : ∀ i < 5, (own i).length ≤ 2 ∧ ∀ x ∈ own i, isNm x) (hld : ∀ i < 5, lds.lookup (ltr i) = some (optT (ln i))) (hln : ∀ i < 5, ∀ l, ln i = some l → (∀ j ∈ l, j < 5) ∧ l.length ≤ 20)
    (h : ∀ tb, P (.dict (fillT (tabF own ln) (List.range 5))) ((338, .raw (tabObj tb)) :: cs)) :
    Cal g A (.raw (.ref 341)) [.dict (tabT (fun i => .list ((own i).map (pairT i))) 5), .dict lds] [] ((338, .raw (tabObj #[])) :: cs) P := by
  refine Cal.fn (n := n + 6) (bs := [("owns", .dict (tabT (fun i => .list ((own i).map (pairT i))) 5)), ("lines", .dict lds)]) hr rfl rfl (BindP.pl2 (fun v w => ?_)) (fun L A' hr' => ?_) rfl (by show (["owns", "lines"] : List Str).Nodup; decide) (by decide)
  · rfl
  have hh := hr'.1
  have h5 : ∀ i ∈ List.range 5, i < 5 := fun i hi => List.mem_range.mp hi
  have nd5 : (List.range 5).Nodup := List.nodup_range
  refine Ex.cons ?_
  refine Ex1.assignC (.inr rfl) ?_
  refine Ev.freezeD ?_
  refine Ev.ofH ?_
  refine EvH.dcomp (caps := [("owns", .dict (tabT (fun i => .list ((own i).map (pairT i))) 5))]) (fun _ _ _ _ _ _ => trivial) ?_ ?_
  · exact .cons .nil
  refine Ev.cstr ?_
  refine ⟨_, Itb.str hh (by decide +kernel), le_line (by decide +kernel), ?_⟩
  rw [abc_list]
  refine dcomp_fill (fun i => some (tabO (ownK own i))) (List.range 5) ?_ ?_ ?_ (List.range 5) [] rfl nd5
  · intro i hi C
    exact ⟨rfl, rfl⟩
  · intro i hi t ht C
    cases ht
    have hi5 := h5 i hi
    refine EvH.post (P' := fun t c => ∃ x dx, t = .cel x ∧ c = (x, .inst 171 dx) :: (dx, .dict [("_headers", .list (kT (ownK own i)))]) :: (338, .raw (tabObj #[])) :: cs) (EvH.of ?_) ?_
    · refine Ev.call ?_
      refine Ev.g_Headers ⟨rfl, rfl, rfl, rfl⟩ ?_
      refine ArgP.cons ?_
      refine Evs.cons ?_
      refine Ev.call ?_
      refine Ev.b_list ⟨rfl, rfl, rfl, rfl⟩ ?_
      refine ArgP.cons ?_
      refine Evs.cons ?_
      refine Ev.sub ?_
      refine Ev.name rfl ?_
      refine Ev.name rfl ?_
      refine Sub.dict (.fz _) (tab_look _ 5 i hi5) ?_
      refine Evs.nil ?_
      refine Cal.list (.inl (.fz _)) (le_line (by have := (ho i hi5).1; simp; omega)) ?_
      refine Evs.nil ?_
      rw [← kT_own]
      exact mkH_list (n := n + 2) hr' (ownK_good hi5 (ho i hi5).2) (by have := (ho i hi5).1; simp; omega) fun x dx => ⟨x, dx, rfl, rfl⟩
    · rintro c t v cs' h ⟨x, dx, rfl, rfl⟩ r R
      cases r
      obtain ⟨fz', m, r, R'⟩ := R.freezeO
      exact ⟨fz', _, _, m, ⟨rfl, rfl⟩, r, R'⟩
  intro D
  refine ⟨D, _, _, rfl, rfl, ?_⟩
  rw [fill_some]
  refine Ex.defRet (C0 := 340) (t := .dict (tabT (fun i => tabO (ownK own i)) 5)) rfl rfl rfl rfl rfl rfl rfl rfl rfl rfl rfl rfl ?_
  intro f c' oc cvs tq ctv doc pm tb hoc hv
  refine EvH.post (P' := fun t c => ∃ D, t = .cel D ∧ c = (D, .dict (fillT (tabF own ln) (List.range 5))) :: (338, .raw (tabObj tb)) :: cs) ?_ ?_
  · refine EvH.dcomp (caps := [("_law_lay", .raw (.ref f)), ("lines", .dict lds)]) HoldC.stab ?_ ?_
    · exact .cons (.cons .nil)
    refine Ev.cstr ?_
    refine ⟨_, Itb.str hh (by decide +kernel), le_line (by decide +kernel), ?_⟩
    rw [abc_list]
    refine dcomp_fill (tabF own ln) (List.range 5) ?_ ?_ (fun D => ⟨D, rfl, rfl⟩) (List.range 5) [] rfl nd5
    · intro i hi C
      have hi5 := h5 i hi
      show Ts _ _ _ _ _ _ _
      refine Ts.cmp ?_
      refine Ev.sub ?_
      refine Ev.name rfl ?_
      refine Ev.name rfl ?_
      refine Sub.dict (.fz _) (hld i hi5) ?_
      refine Ev.cnone ?_
      refine Op2.isNotNone ?_
      refine ⟨_, rfl, ?_, rfl⟩
      show (!(optT (ln i)).isNone) = ((ln i).map fun l => tabO (firstOf own l [])).isSome
      cases ln i <;> rfl
    · intro i hi t ht C
      have hi5 := h5 i hi
      obtain ⟨l, hl, rfl⟩ := Option.map_eq_some_iff.mp ht
      obtain ⟨hlm, hlz⟩ := hln i hi5 l hl
      refine EvH.post (P' := fun t c => ∃ b x dx, t = .cel x ∧ c = stH b x dx (firstOf own l []) ((338, .raw (tabObj tb)) :: cs)) ?_ ?_
      · refine EvH.call (fun c fz hf H => HoldC.stab c fz c.pc hf (fun _ h => h) H) ?_
        refine Ev.g_reduce ⟨rfl, rfl, rfl, rfl⟩ ?_
        refine ArgP.cons ?_
        refine Evs.cons ?_
        refine Ev.name rfl ?_
        refine Evs.cons ?_
        refine Ev.sub ?_
        refine Ev.name rfl ?_
        refine Ev.name rfl ?_
        refine Sub.dict (.fz _) ((hld i hi5).trans (by rw [hl])) ?_
        refine Evs.cons ?_
        refine Ev.call ?_
        refine Ev.g_Headers ⟨rfl, rfl, rfl, rfl⟩ ?_
        refine ArgP.nil ?_
        refine mkH_none (n := n + 2) hr' fun b x dx => ?_
        refine Evs.nil ?_
        refine reduce_spec (n := n + 5) (own := own) (line := l) hr' ho hlm hlz ?_ ⟨b, x, dx, rfl, rfl⟩
        intro A₁ hr₁ j kept hj gk hz
        refine Cal.clos (n := n + 4) (t := .dict (tabT (fun i => tabO (ownK own i)) 5)) (bs := [("table", .cel x), ("letter", lT j)]) hr₁ (.head _) (.tail _ (.head _)) hoc hv (.head _) (fun vs hv => ?_) rfl (fun L₂ A₂ hr₂ => ?_) rfl (by show (["table", "letter"] : List Str).Nodup; decide) rfl (by decide) (noCell (by decide))
        · obtain ⟨v, w, rfl⟩ := len2 hv
          rfl
        have hh₂ := hr₂.1
        generalize hst : (338, Mine.C.raw (tabObj tb)) :: cs = cs₂
        generalize Gx.mk _ _ _ _ _ _ _ _ = g'
        have hj2 := (ho j hj).1
        refine Ex.cons ?_
        refine Ex1.for_ ?_
        refine Ev.meth ?_
        refine Ev.sub ?_
        refine Ev.name rfl ?_
        refine Ev.name rfl ?_
        refine Sub.dict (.fz _) (tab_look _ 5 j hj) ?_
        refine ⟨_, _, GM.own (.fz _ _) rfl (hx_plain _ _) (hx_items _) (fn_135 _), ?_⟩
        refine ArgP.nil ?_
        refine items_spec (n := n + 2) hr₂ (.fz _ _) rfl (.fz _) (by simp; omega) ?_
        refine ⟨_, _, Itb.list hh₂, ?_⟩
        refine ForP.inv (TbI b x dx own j kept cs₂) ?_ ?_ _ _ _ ⟨own j, kept, kT_own j (own j), rfl, gk, (ho j hj).2, by omega, rfl, rfl, trivial⟩
        · rintro u rest vars c ⟨ms, k, e, rfl, gk', hm, hz2, hf2, hv⟩
          cases ms with
          | nil => cases e
          | cons nm ms =>
          simp only [List.map_cons, List.cons.injEq] at e
          obtain ⟨rfl, rfl⟩ := e
          have hnm := hm nm (.head _)
          refine As.weaken hv.k (As.tup2 hh₂ (.inl rfl) (.inl rfl) ?_)
          refine Ex.cons ?_
          refine Ex1.expr ?_
          refine Ev.meth ?_
          refine Ev.name rfl ?_
          refine ⟨_, _, GM.own (.cel (.tail _ (.head _)) (.tail _ (.tail _ (.head _)))) rfl (hx_plain _ _) (hx_setdefault _) (fn_161 _), ?_⟩
          refine ArgP.cons ?_
          refine Evs.cons ?_
          refine Ev.name rfl ?_
          refine Evs.cons ?_
          refine Ev.name rfl ?_
          refine Evs.nil ?_
          simp at hz2
          refine setd_spec (n := n) (i := j) hr₂ (.tail _ (.head _)) (.tail _ (.tail _ (.head _))) .head gk' hnm hj (by omega) fun t => ?_
          refine Ex.nil ?_
          have := addTo_len k nm j
          exact ⟨ms, addTo k nm j, rfl, rfl, gk'.add hnm hj, fun y hy => hm y (.tail _ hy), by omega, hf2, rfl, trivial⟩
        · rintro vars c ⟨ms, k, e, rfl, gk', hm, hz2, hf2, hv⟩
          have : ms = [] := by cases ms with | nil => rfl | cons _ _ => cases e
          subst this
          refine Ex.nil ?_
          refine StT.weaken hv.k ?_
          refine Ex.cons ?_
          refine Ex1.ret ?_
          refine Ev.name rfl ?_
          have hf' : k = addAll j (own j) kept := hf2
          rw [hf']
          exact ⟨rfl, rfl⟩
      · rintro c t v cs' h ⟨b, x, dx, rfl, rfl⟩ r R
        cases r
        obtain ⟨fz', m, r, R'⟩ := R.freezeH
        exact ⟨fz', _, _, m, ⟨rfl, rfl⟩, r, R'⟩
  · rintro c t v cs' h' ⟨D, rfl, rfl⟩ r R
    cases r
    obtain ⟨o, cr, R'⟩ := R.freeze
    cases cr with
    | dict nn hs rd => exact ⟨_, _, _, fun p hp => .tail _ hp, h tb, .dict hs (.head _) (rd.mono fun _ h => .tail _ h), R'⟩
end
end Mine
end

noncomputable section
open PySem PySem.W PyProof.Rows PySem.Calls
set_option Elab.async false
set_option linter.unusedVariables false
set_option maxRecDepth 100000
set_option tactic.hygienic false
namespace Mine

noncomputable def ndAt (i : Nat) (ls : List (Option (List Nat))) (bas : List Nat) : Bool := match plainStep i (bas.map fun b => ls.getD b none) with
  | some l => decide l.Nodup
  | none => true
noncomputable def ndFrom : Nat → List (Option (List Nat)) → Bool
  | 0, _ => true
  | n + 1, ls => let i := 5 - (n + 1)
    (opts i).all fun bas => ndAt i ls bas && ndFrom n (ls ++ [plainStep i (bas.map fun b => ls.getD b none)])
theorem nd_all : ndFrom 5 [] = true := by decide +kernel
theorem nd_from (bas : Nat → List Nat) (hb : ∀ i < 5, bas i ∈ opts i) : ∀ k, k ≤ 5 → ndFrom (5 - k) (linesOf bas k) = true
  | 0, _ => nd_all
  | k + 1, h => by
    have ih := nd_from bas hb k (by omega)
    rw [show 5 - k = (5 - (k + 1)) + 1 by omega, ndFrom] at ih
    have e : 5 - (5 - (k + 1) + 1) = k := by omega
    simp only [e] at ih
    have := List.all_eq_true.mp ih (bas k) (hb k (by omega))
    exact (Bool.and_eq_true_iff.mp this).2
theorem nd_at (bas : Nat → List Nat) (hb : ∀ i < 5, bas i ∈ opts i) (k : Nat) (h : k < 5) : ndAt k (linesOf bas k) (bas k) = true := by
  have ih := nd_from bas hb k (by omega)
  rw [show 5 - k = (5 - (k + 1)) + 1 by omega, ndFrom] at ih
  have e : 5 - (5 - (k + 1) + 1) = k := by omega
  simp only [e] at ih
  have := List.all_eq_true.mp ih (bas k) (hb k h)
  exact (Bool.and_eq_true_iff.mp this).1

section
variable {bas : Nat → List Nat} (hb : ∀ i < 5, bas i ∈ opts i)
include hb
theorem bas_lt {i : Nat} (hi : i < 5) : ∀ b ∈ bas i, b < i := (opts_ok (hb i hi)).2.1
theorem rows_eq {i : Nat} (hi : i < 5) : ((bas i).map fun b => (linesOf bas i).getD b none) = (bas i).map (plOf bas) := by
  refine List.map_congr_left fun b h => ?_
  exact linesOf_at bas b i (bas_lt hb hi b h)
theorem chk3 {i : Nat} (hi : i < 5) : (plOf bas i = lineC3 i (bas i) ((bas i).map (plOf bas)) ∧ okRest (plOf bas i) ((bas i).map (plOf bas)) = true) ∧ ∀ l, plOf bas i = some l → l.length ≤ 5 ∧ ∀ x ∈ l, x < 5 := by
  have := chk_at bas hb i hi
  unfold chkAt at this
  simp only [rows_eq hb hi, Bool.and_eq_true, beq_iff_eq] at this
  rw [← plOf_eq bas i (bas_lt hb hi)] at this
  refine ⟨this.1, fun l e => ?_⟩
  have h3 := this.2
  rw [e] at h3
  simp only [Bool.and_eq_true, decide_eq_true_eq, List.all_eq_true] at h3
  exact h3
theorem pl_nodup {i : Nat} (hi : i < 5) {l : List Nat} (e : plOf bas i = some l) : l.Nodup := by
  have := nd_at bas hb i hi
  unfold ndAt at this
  rw [rows_eq hb hi, ← plOf_eq bas i (bas_lt hb hi), e] at this
  exact of_decide_eq_true this
theorem bas_ok : BasOK bas := ⟨fun i hi => (opts_ok (hb i hi)).1, fun i hi => (opts_ok (hb i hi)).2.1, fun i hi => (opts_ok (hb i hi)).2.2⟩
end
theorem merge_head {i : Nat} : ∀ (sh : List Nat) (m l r : List Nat), ∃ m', plainMerge sh (i :: m) l r = i :: m'
  | [], m, l, r => ⟨_, rfl⟩
  | x :: sh, m, l, r => by
    unfold plainMerge
    exact merge_head sh (m ++ l.take (l.idxOf x) ++ r.take (r.idxOf x + 1)) _ _
theorem step_head {i : Nat} {rows : List (Option (List Nat))} {l : List Nat} (h : plainStep i rows = some l) : ∃ m, l = i :: m := by
  unfold plainStep at h
  split at h
  · unfold plainTwo at h
    split at h
    · cases h
      exact merge_head _ _ _ _
    · cases h
  · cases h

noncomputable def sameN (nm x : Str) : Bool := Txt.lower x == Txt.lower nm
noncomputable def hasO (own : Nat → List Str) (nm : Str) (j : Nat) : Bool := (own j).any (sameN nm)
noncomputable def findK (nm : Str) (kept : List (Str × Nat)) : Option (Str × Nat) := kept.find? fun p => Txt.lower p.1 == Txt.lower nm
theorem find_add (nm x : Str) (i : Nat) (kept : List (Str × Nat)) : findK nm (addTo kept x i) = (findK nm kept).or (if sameN nm x then some (x, i) else none) := by
  unfold addTo findK
  split
  · rename_i h
    rw [List.find?_append]
    congr 1
    simp [List.find?, sameN]
    split <;> simp_all
  · rename_i h
    cases q : kept.find? fun p => Txt.lower p.1 == Txt.lower nm with
    | some p => rfl
    | none =>
      rw [Option.none_or, if_neg]
      intro e
      refine h (List.filter_eq_nil_iff.mpr fun p hp z => ?_)
      have := List.find?_eq_none.mp q p hp
      have e1 : Txt.lower x = Txt.lower nm := eq_of_beq e
      exact this (by rw [← e1]; exact z)
theorem find_addAll (nm : Str) (i : Nat) : ∀ (ms : List Str) (kept : List (Str × Nat)), findK nm (addAll i ms kept) = (findK nm kept).or ((ms.find? (sameN nm)).map fun x => (x, i))
  | [], kept => by simp [addAll]
  | x :: ms, kept => by
    rw [addAll, find_addAll, find_add, Option.or_assoc]
    congr 1
    rw [List.find?_cons]
    cases sameN nm x <;> simp
theorem find_first (own : Nat → List Str) (nm : Str) : ∀ (line : List Nat) (kept : List (Str × Nat)), (findK nm (firstOf own line kept)).map (·.2) = ((findK nm kept).map (·.2)).or (line.find? (hasO own nm))
  | [], kept => by simp [firstOf]
  | j :: line, kept => by
    rw [firstOf, find_first, find_addAll, List.find?_cons]
    cases findK nm kept with
    | some p => rfl
    | none =>
      simp only [Option.none_or, Option.map_none]
      cases q : (own j).find? (sameN nm) with
      | some x =>
        have : hasO own nm j = true := List.any_eq_true.mpr ⟨x, List.mem_of_find?_eq_some q, List.find?_some q⟩
        simp [this]
      | none =>
        have : hasO own nm j = false := by
          unfold hasO
          rw [List.any_eq_false]
          exact fun x hx => by simpa using List.find?_eq_none.mp q x hx
        simp [this]
noncomputable def jT : Option Nat → T
  | some j => lT j
  | none => .none
theorem getT_eq (kept : List (Str × Nat)) (nm : Str) : getT kept nm = jT ((findK nm kept).map (·.2)) := by
  unfold getT findK
  cases kept.find? fun p => Txt.lower p.1 == Txt.lower nm <;> rfl
theorem getT_first (own : Nat → List Str) (nm : Str) (line : List Nat) : getT (firstOf own line []) nm = jT (line.find? (hasO own nm)) := by
  rw [getT_eq, find_first]
  simp [findK]
theorem sub_find {p : Nat → Bool} {j : Nat} : ∀ {m l : List Nat}, l.Sublist m → m.Nodup → m.find? p = some j → j ∈ l → l.find? p = some j
  | _, _, .slnil, _, h, _ => by cases h
  | _, _, .cons a s, nd, h, hj => by
    rw [List.find?_cons] at h
    cases q : p a with
    | true =>
      rw [q] at h
      cases h
      exact absurd (s.subset hj) (List.nodup_cons.mp nd).1
    | false =>
      rw [q] at h
      exact sub_find s (List.nodup_cons.mp nd).2 h hj
  | _, _, .cons₂ a s, nd, h, hj => by
    rw [List.find?_cons] at h ⊢
    cases q : p a with
    | true => rw [q] at h; exact h
    | false =>
      rw [q] at h
      have hj' : j ∈ _ := (List.mem_cons.mp hj).resolve_left fun e => by
        have := List.find?_some h
        rw [e, q] at this; cases this
      exact sub_find s (List.nodup_cons.mp nd).2 h hj'
theorem inh_ok {bas : Nat → List Nat} (hb : ∀ i < 5, bas i ∈ opts i) {own : Nat → List Str} {i : Nat} (hi : i < 5) {l : List Nat} (e : plOf bas i = some l) :
    (∀ b ∈ bas i, ∃ l', plOf bas b = some l') ∧ ∀ nm, getT (firstOf own ((plOf bas i).getD []) []) nm = lT i ∨ getT (firstOf own ((plOf bas i).getD []) []) nm ∈ aboveT (bas i) (fun b => firstOf own ((plOf bas b).getD []) []) nm := by
  have ok := (chk3 hb hi).1.2
  obtain ⟨m, rfl⟩ := step_head ((plOf_eq bas i (bas_lt hb hi)).symm.trans e)
  rw [e] at ok
  simp only [okRest, Bool.and_eq_true, List.all_eq_true, List.mem_map] at ok
  have s1 : ∀ b ∈ bas i, ∃ l', plOf bas b = some l' ∧ l'.Sublist m := fun b hbm => by
    have := ok.1 (plOf bas b) ⟨b, hbm, rfl⟩
    cases q : plOf bas b with
    | none => rw [q] at this; cases this
    | some l' => rw [q] at this; exact ⟨l', rfl, List.isSublist_iff_sublist.mp this⟩
  have nd := List.nodup_cons.mp (pl_nodup hb hi e)
  refine ⟨fun b hbm => let ⟨l', q, _⟩ := s1 b hbm; ⟨l', q⟩, fun nm => ?_⟩
  rw [e, Option.getD_some, getT_first, List.find?_cons]
  cases hasO own nm i with
  | true => exact .inl rfl
  | false =>
    refine .inr ?_
    dsimp only
    unfold aboveT
    cases q : m.find? (hasO own nm) with
    | none =>
      split
      · exact .head _
      · rename_i ne
        obtain ⟨b, r, eb⟩ := List.exists_cons_of_ne_nil ne
        refine List.mem_map.mpr ⟨b, by rw [eb]; exact .head _, ?_⟩
        obtain ⟨l', q', sl⟩ := s1 b (by rw [eb]; exact .head _)
        dsimp only
        rw [q', Option.getD_some, getT_first]
        have : l'.find? (hasO own nm) = none := List.find?_eq_none.mpr fun x hx => List.find?_eq_none.mp q x (sl.subset hx)
        rw [this]
    | some j =>
      have hj := List.mem_of_find?_eq_some q
      have := ok.2 j hj
      obtain ⟨r, hr, hc⟩ := List.any_eq_true.mp this
      obtain ⟨b, hbm, rfl⟩ := List.mem_map.mp hr
      obtain ⟨l', q', sl⟩ := s1 b hbm
      rw [if_neg (fun z => by rw [z] at hbm; cases hbm)]
      refine List.mem_map.mpr ⟨b, hbm, ?_⟩
      dsimp only
      rw [q'] at hc ⊢
      rw [Option.getD_some, getT_first, sub_find sl nd.2 q (by simpa using hc)]
theorem firstOf_good {own : Nat → List Str} (ho : ∀ i < 5, ∀ x ∈ own i, isNm x) : ∀ {line : List Nat} {kept : List (Str × Nat)}, (∀ i ∈ line, i < 5) → goodK kept → goodK (firstOf own line kept)
  | [], _, _, h => h
  | i :: line, kept, hl, h => firstOf_good (line := line) (kept := addAll i (own i) kept) ho (fun j hj => hl j (.tail _ hj)) (addAll_good (hl i (.head _)) h (ho i (hl i (.head _))))

theorem rise_le : ∀ i < 5, ∀ j < 5, PySem.Spec.ltCps (ltr j).cps.toList (ltr i).cps.toList = decide (j < i) := by decide +kernel
noncomputable def upN : Nat → List Nat → Bool
  | _, [] => true
  | p, x :: r => !decide (x < p) && upN x r
theorem rise_up : ∀ (l : List Nat) (p : Nat), p < 5 → (∀ x ∈ l, x < 5) → risingS (ltr p) (l.map ltr) = upN p l
  | [], _, _, _ => rfl
  | x :: l, p, hp, h => by
    have := rise_le p hp x (h x (.head _))
    simp only [List.map_cons, risingS, upN, this, rise_up l x (h x (.head _)) fun y hy => h y (.tail _ hy)]
    try (cases decide (x < p) <;> simp)
theorem lt5 {a b c d e : Nat} (h1 : a < b) (h2 : b < c) (h3 : c < d) (h4 : d < e) (h5 : e < 5) : a = 0 ∧ b = 1 ∧ c = 2 ∧ d = 3 ∧ e = 4 := by omega
theorem up5 : ∀ a < 5, ∀ b < 5, ∀ c < 5, ∀ d < 5, ∀ e < 5, upN a [b, c, d, e] = true → [a, b, c, d, e].Nodup → [a, b, c, d, e] = [0, 1, 2, 3, 4] := by
  intro a ha b hb c hc d hd e he u nd
  simp only [upN, Bool.and_true, Bool.and_eq_true, Bool.not_eq_true', decide_eq_false_iff_not] at u
  simp only [List.nodup_cons, List.mem_cons, List.not_mem_nil, or_false, not_or] at nd
  have q := lt5 (Nat.lt_of_le_of_ne (Nat.not_lt.mp u.1) nd.1.1) (Nat.lt_of_le_of_ne (Nat.not_lt.mp u.2.1) nd.2.1.1) (Nat.lt_of_le_of_ne (Nat.not_lt.mp u.2.2.1) nd.2.2.1.1) (Nat.lt_of_le_of_ne (Nat.not_lt.mp u.2.2.2) nd.2.2.2.1) he
  obtain ⟨rfl, rfl, rfl, rfl, rfl⟩ := q
  rfl
theorem sorted_five {ss' : List Str} {ord : List Nat} (hp : ss'.Perm (ord.map ltr)) (hs : sortedS ss' = true) (nd : ord.Nodup) (lt : ∀ x ∈ ord, x < 5) (all : ∀ i < 5, i ∈ ord) : ss' = (List.range 5).map ltr := by
  have hlen : ord.length = 5 := by
    have p : ord.Perm (List.range 5) := (List.perm_ext_iff_of_nodup nd List.nodup_range).mpr fun x => ⟨fun h => List.mem_range.mpr (lt x h), fun h => all x (List.mem_range.mp h)⟩
    simpa using p.length_eq
  have ex : ∃ o' : List Nat, ss' = o'.map ltr ∧ o'.Perm ord := by
    have hm : ∀ s ∈ ss', ∃ i, i < 5 ∧ ltr i = s := fun s h => by
      obtain ⟨i, hi, e⟩ := List.mem_map.mp (hp.subset h)
      exact ⟨i, lt i hi, e⟩
    have : ∀ l : List Str, (∀ s ∈ l, ∃ i, i < 5 ∧ ltr i = s) → ∃ o' : List Nat, l = o'.map ltr := by
      intro l
      induction l with
      | nil => intro _; exact ⟨[], rfl⟩
      | cons s l ih =>
        intro h
        obtain ⟨i, _, e⟩ := h s (.head _)
        obtain ⟨o', e'⟩ := ih fun z hz => h z (.tail _ hz)
        exact ⟨i :: o', by simp [e, ← e']⟩
    obtain ⟨o', e⟩ := this ss' hm
    refine ⟨o', e, ?_⟩
    rw [e] at hp
    have inj : ∀ (a b : List Nat), (a.map ltr).Perm (b.map ltr) → a.Perm b := by
      intro a b h
      refine List.perm_iff_count.mpr fun x => ?_
      have c1 := List.perm_iff_count.mp h (ltr x)
      have cnt : ∀ l : List Nat, (l.map ltr).count (ltr x) = l.count x := by
        intro l
        induction l with
        | nil => rfl
        | cons y l ih =>
          rw [List.map_cons, List.count_cons, List.count_cons, ih]
          by_cases e : y = x
          · simp [e]
          · have : ltr y ≠ ltr x := fun z => e (ltr_inj z)
            simp [e, this]
      rw [cnt, cnt] at c1
      exact c1
    exact inj _ _ hp
  obtain ⟨o', rfl, p⟩ := ex
  have nd' := p.nodup_iff.mpr nd
  have lt' : ∀ x ∈ o', x < 5 := fun x h => lt x (p.subset h)
  have l5 : o'.length = 5 := p.length_eq.trans hlen
  match o', l5, nd', lt', hs with
  | [a, b, c, d, e], _, nd', lt', hs =>
    have ha := lt' a (by simp)
    have hb := lt' b (by simp)
    have hc := lt' c (by simp)
    have hd := lt' d (by simp)
    have he := lt' e (by simp)
    have u : upN a [b, c, d, e] = true := by
      rw [← rise_up [b, c, d, e] a ha fun x hx => lt' x (.tail _ hx)]
      exact hs
    rw [up5 a ha b hb c hc d hd e he u nd']
    rfl
end Mine
end

noncomputable section
open PySem PySem.W PyProof.Rows PySem.Calls
set_option Elab.async false
set_option linter.unusedVariables false
set_option maxRecDepth 100000
set_option pp.deepTerms false
set_option pp.deepTerms.threshold 3
namespace Mine

open LCg LCt
noncomputable def StH (HC : Ctx → Prop) (g : Gx) (A : Around) (env : Env) (tree : Sem Flow) (vars : Vars) (cs : Cs) (P : Fl → Vars → Cs → Prop) (X : XP) : Prop :=
  ∀ (c : Ctx) (s : Shared) (Q : Flow → Shared → Prop) (E : Value → Shared → Prop), HC c → SV g env c vars → RF g A c cs s.heap → PassesOwn g.M A env E →
    (∀ c' fl f vars' cs' h' tk', Le c c' → P fl vars' cs' → FlR g.P c'.fz fl f → SV g env c' vars' → RF g A c' cs' h' → Q f { s with heap := h', toks := tk' }) →
    (∀ e c' cs' h' tk', Le c c' → X e c' cs' h' → E e { s with heap := h', toks := tk' }) →
    wpAny g.M A tree Q E s
section
variable {g : Gx} {A : Around} {env : Env} {vars caps : Vars} {x y : Str} {scope : Scope} {cl : List (Str × Addr)} {cs : Cs} {HC : Ctx → Prop}
theorem StH.start {P : Fl → Vars → Cs → Prop} {X : XP} {st : Stmt} {rest : List Stmt} (H : StH HC g A env (exec st env) vars cs (Nx g A env rest P X) X) : StH HC g A env (execs (st :: rest) env) vars cs P X := by
  intro c s Q E hC S R hE q e
  refine wpAny_execs_cons (H c s _ E hC S R hE (fun c' fl f vars' cs' h' tk' l p fr S' R' => ?_) e)
  cases fr with
  | next => exact p c' _ Q E S' R' hE (fun c'' fl f vars'' cs'' h'' tk'' l' => q c'' fl f vars'' cs'' h'' tk'' (l.trans l')) fun e' c'' cs'' h'' tk'' l' => e e' c'' cs'' h'' tk'' (l.trans l')
  | brk => exact q c' _ _ vars' cs' h' tk' l p .brk S' R'
  | cont => exact q c' _ _ vars' cs' h' tk' l p .cont S' R'
  | ret r => exact q c' _ _ vars' cs' h' tk' l p (.ret r) S' R'
theorem StH.assignU {P' : Fl → Vars → Cs → Prop} {X : XP} {elt iter : Expr} {px pos py spos : Pos} (hh : A.handled = none) (hc : CapsOK env scope cl vars caps) (hy : env.kindOf y = some .local)
    (H : EvH HC g A env vars iter cs fun t cs' => ∃ us, t = .list us ∧ us.length ≤ sizeLine ∧ CompU g A env x scope cl caps (fun t cs' => P' .next ((y, t) :: vars) cs') elt us [] cs')
    (hsw : swapsWith (.ListComp elt [⟨.Name x px, iter, [], 0⟩] scope pos) (some (.Name y py)) spos.line env = pure true := by rfl)
    (hclos : closureFor scope env = pure cl := by rfl) (hcell : ∀ y ∈ scope.names, y.2 ≠ .cell := by decide) (hkind : scope.kind = .function := by rfl)
    (hnames : ∀ y ∈ scope.names, y.2 = .local → scope.names.lookup y.1 = some .local := by decide) (hx : scope.names.lookup x = some .local := by rfl) (hs : ∀ x, foldedSetIterable iter env x = pure x := by intro _; rfl) :
    StH HC g A env (exec (.Assign [.Name y py] (.ListComp elt [⟨.Name x px, iter, [], 0⟩] scope pos) spos) env) vars cs P' X := by
  intro c s Q E hC S R hE q ee
  refine Assign_ListComp_U (F₀ := R.F) S.loc hsw hclos hcell hkind hnames hx hy (by rw [S.kind]; rfl) (H c s _ _ _ ⟨hC, S.ok, rfl⟩ R fun fz₁ t v cs₁ h₁ tk₁ m₁ hu r R₁ => ?_) hs
  obtain ⟨us, rfl, hsz, hC⟩ := hu
  cases r with
  | list hm rs =>
  obtain ⟨co, B, N⟩ := R₁.book
  refine CompSrc.ledger hh R₁.F N (List.mem_append_left _ (List.mem_append_left _ hm)) (by simpa [rs.length] using hsz) fun gh => ?_
  rename_i ax vs nx
  have e : vs.toArray.size = us.length := by simp [rs.length]
  rw [e]
  refine comp_restU (c := c.with fz₁) (S.ok.mono m₁) hc hx (List.mem_append_left _ hm) rs (fun fz cs' co' acc ys m B' ra p D h tk F N' off => ?_) us.length 0 [] [] fz₁ cs₁ co (fun _ h => h) B .nil (by omega) hC
  have mm : ∀ p ∈ c.fz, p ∈ (D, lst ys) :: fz := fun q hq => .tail _ (m q (m₁ q hq))
  exact q { (c.with ((D, lst ys) :: fz)) with mF := fun z => if z = y then some (.ref D) else c.mF z } .next .next _ cs' h tk ⟨rfl, rfl, rfl, mm, rfl, fun _ h _ => h⟩ p .next
    (sv_local (c := c) (S.mono mm) (.list (n := ys.length) (.head _) (ra.mono fun q hq => .tail _ hq)) hy) (comp_new (c := c.with fz₁) B' F N' off)
theorem VRs.ofInts {P : Params} {fz : List (Addr × Obj)} : ∀ {vs : List Value} {ns : List Int}, IntsAre vs ns → VRs P fz (ns.map T.int) vs
  | _, _, .nil => .nil
  | _, _, .cons n t r => .cons (.int n t) (VRs.ofInts r)
theorem EvH.sliceH {P : T → Cs → Prop} {a : Addr} {vs : List Value} {ns : List Int} {k kk : Nat} {np kp sp pos : Pos} (hI : IntsAre vs ns) (hz : ns.length ≤ sizeLine) (hx : vars.lookup x = some (.raw (.ref a))) (h : P (.list ((ns.take k).map T.int)) cs)
    (hk : env.scope.kind = .function := by rfl) (hdb : (x == ("__debug__" : Str)) = false := by decide) (hn : (x == ("__classdict__" : Str)) = false := by decide) :
    EvH (fun c => c.h₀.IsList a vs.toArray) g A env vars (.Subscript (.Name x np) (.Slice none (some (.Constant (.int (k : Int)) kk kp)) none sp) pos) cs P := by
  rintro c s Q E _ ⟨hC, V, rfl⟩ R kont
  have ra : VRs g.P c.fz (ns.map T.int) vs := VRs.ofInts hI
  refine Subscript_ (Ev.use (P := fun t c => t = .raw (.ref a) ∧ c = cs) (Ev.name hx ⟨rfl, rfl⟩ hk hdb hn) V R fun fz₁ t₁ v₁ cs₁ h₁ tk₁ m₁ H₁ r₁ R₁ => ?_)
  obtain ⟨rfl, rfl⟩ := H₁
  cases r₁
  rw [arm_eval_Slice]
  refine wpAny_bind (EvO.use (P := fun t c => t = .none ∧ c = cs₁) (EvO.none ⟨rfl, rfl⟩) (V.mono m₁) R₁ fun fz₂ t₂ v₂ cs₂ h₂ tk₂ m₂ H₂ r₂ R₂ => ?_)
  obtain ⟨rfl, rfl⟩ := H₂
  refine wpAny_bind (wpAny_holding (EvO.use (P := fun t c => t = .int (k : Int) ∧ c = cs₂) (EvO.some (Ev.cint ⟨rfl, rfl⟩)) ((V.mono m₁).le m₂) R₂ fun fz₃ t₃ v₃ cs₃ h₃ tk₃ m₃ H₃ r₃ R₃ => ?_))
  obtain ⟨rfl, rfl⟩ := H₃
  refine wpAny_bind (wpAny_holding (EvO.use (P := fun t c => t = .none ∧ c = cs₃) (EvO.none ⟨rfl, rfl⟩) (((V.mono m₁).le m₂).le m₃) R₃ fun fz₄ t₄ v₄ cs₄ h₄ tk₄ m₄ H₄ r₄ R₄ => ?_))
  obtain ⟨rfl, rfl⟩ := H₄
  have mm : ∀ p ∈ c.fz, p ∈ fz₄ := fun q hq => m₄ q (m₃ q (m₂ q (m₁ q hq)))
  have i1 := Part.none.is ((r₂.mono m₃).mono m₄)
  have i2 := (Part.int (k : Int)).is (r₃.mono m₄)
  have i3 := Part.none.is r₄
  have R5 := R₄.pushFz { cls := .type "slice", data := .fields #[v₂, v₃, v₄] }
  show wpAny _ _ (newObj (.type "slice") (.fields #[v₂, v₃, v₄])) _ _ _
  refine wpAny_newObj_type ?_ (by size_fits)
  obtain ⟨ops, hs⟩ := subd (.Slice none (some (.Constant (.int (k : Int)) kk kp)) none sp) (.ref a) (.ref h₄.objs.size)
  have hl4 : h₄.IsList a vs.toArray := hC.at fun o e => R₄.F.keep _ _ e
  have hl : (h₄.push { cls := .type "slice", data := .fields #[v₂, v₃, v₄] }).IsList a vs.toArray := hl4.at fun o e => Heap.get?_push_of_some _ e
  refine tail_any (Heap.IsList.typeIs (s := { s with heap := h₄.push { cls := .type "slice", data := .fields #[v₂, v₃, v₄] }, toks := tk₄ }) hl) slot_list_getitem.lookup
    (wpAny_getItem_list_slice hl (Heap.IsSliceOf.new ..) i1 i2 i3 (by simp) ?_ (by have := ra.length; simp at this ⊢; omega)) hs
  have R6 := R5.pushFz { cls := .type "list", data := .seq (slicePick vs.toArray none (some (k : Int)) none) }
  refine kont _ _ _ _ _ tk₄ (fun q hq => .tail _ (.tail _ (mm q hq))) h (VR.list (vs := (slicePick vs.toArray none (some (k : Int)) none).toList) (n := 0) (.head _) ?_) R6
  have := (ra.pick none (some (k : Int)) none).mono mm
  rw [pick_take] at this
  rw [List.map_take]
  exact this.mono fun q hq => .tail _ (.tail _ hq)
end
end Mine
end

noncomputable section
open PySem PySem.W PyProof.Rows PySem.Calls
set_option Elab.async false
set_option linter.unusedVariables false
set_option maxRecDepth 100000
set_option maxHeartbeats 8000000
set_option pp.deepTerms false
set_option pp.deepTerms.threshold 3
open LCg LCt
namespace Mine

theorem own_ok (ns : List Int) (i : Nat) : (ownAt ns i).length ≤ 2 ∧ ∀ x ∈ ownAt ns i, isNm x := by
  unfold ownAt namesOf isNm
  generalize decide ((markAt ns i).fmod 2 = 1) = b1
  generalize decide (((markAt ns i).fdiv 2).fmod 2 = 1) = b2
  cases b1 <;> cases b2 <;> split <;> simp
theorem fillT_keys (f : Nat → Option T) (l : List Nat) : (fillT f l).map (fun p => T.str p.1) = (l.filter fun i => (f i).isSome).map lT := by
  induction l with
  | nil => rfl
  | cons i l ih =>
    cases q : f i with
    | none => simpa [fillT, q] using ih
    | some t => simpa [fillT, q, lT] using ih
theorem fillT_nodup {f : Nat → Option T} {l : List Nat} (h : l.Nodup) : ((fillT f l).map (·.1)).Nodup := by
  have e : (fillT f l).map (·.1) = (l.filter fun i => (f i).isSome).map ltr := by
    induction l with
    | nil => rfl
    | cons i l ih =>
      have ih := ih (List.nodup_cons.mp h).2
      cases q : f i with
      | none => simpa [fillT, q] using ih
      | some t => simpa [fillT, q] using ih
  rw [e]
  exact List.pairwise_map.mpr ((h.filter _).imp fun h e => h (ltr_inj e))
theorem fillT_len (f : Nat → Option T) (l : List Nat) : (fillT f l).length ≤ l.length := List.length_filterMap_le _ _
noncomputable def isTrueRet (fl : Fl) (cs : Cs) : Prop := fl = .ret (.bool true) ∧ ∃ tb, cs = [(338, Mine.C.raw (tabObj tb))]

noncomputable def modT : T → T
  | .int x => .int (x.fmod 100)
  | t => t
theorem mod_map (l : List Int) : (l.map T.int).map modT = (l.map fun x => x.fmod 100).map T.int := by
  rw [List.map_map, List.map_map]; rfl
theorem mod_ok (l : List Int) : ∀ x ∈ (l.take 10).map fun x => x.fmod 100, 0 ≤ x ∧ x < 100 := fun x hx => by
  obtain ⟨y, _, rfl⟩ := List.mem_map.mp hx
  exact ⟨Int.fmod_nonneg_of_pos _ (by omega), Int.fmod_lt_of_pos _ (by omega)⟩

theorem abc_names : (List.range 5).map ltr = (["a", "b", "c", "d", "e"] : List Str) := by decide +kernel
theorem abc_ok : (T.list ((["a", "b", "c", "d", "e"] : List Str).map T.str)).ok 4 = true := by
  rw [← abc_names, List.map_map]
  exact lTs_ok fun n hn => List.mem_range.mp hn
theorem firstOf_len {own : Nat → List Str} (ho : ∀ i < 5, (own i).length ≤ 2) : ∀ (line : List Nat) (kept : List (Str × Nat)), (∀ i ∈ line, i < 5) → (firstOf own line kept).length ≤ kept.length + 2 * line.length
  | [], kept, _ => Nat.le_refl _
  | i :: line, kept, hl => by
    have h1 := firstOf_len ho line (addAll i (own i) kept) fun j hj => hl j (.tail _ hj)
    have h2 := addAll_len i (own i) kept
    have h3 := ho i (hl i (.head _))
    rw [firstOf, List.length_cons]
    omega
theorem pw4 (L : Nat) (a b c d : Str) : List.Pairwise (fun x y : Str × Addr => x.2 ≠ y.2) [(a, L + 3), (b, L + 2), (c, L + 1), (d, L)] := by
  simp only [List.pairwise_cons, List.mem_cons, List.not_mem_nil, or_false]
  refine ⟨?_, ?_, ?_, ?_, .nil⟩
  · rintro p (rfl | rfl | rfl) <;> (intro e; have e' : L + 3 = _ := e; omega)
  · rintro p (rfl | rfl) <;> (intro e; have e' : L + 2 = _ := e; omega)
  · rintro p rfl; intro e; have e' : L + 1 = _ := e; omega
  · intro p hp; cases hp
theorem law_room {env : Env} : Room (callerA.deeper env) 20 := ⟨rfl, by show 1 + claimMargin + 1 + 20 < recursionLimit; decide, by show 4 + 3 + 8 * 20 + 8 < cLine; decide⟩

theorem enter_law {w : World} {p : Program} {loose : List Str} {mean : ExcName → Option Value} {mg mb mF cm : Str → Option Value} {h₀ : Heap} {L fa a : Addr} {cd : Value} {qual : Str} {scope : Scope} {body : List Stmt} {cells : List (Addr × Obj)} {s : Shared} {vs : List Value} {Q : Flow → Shared → Prop} {E : Value → Shared → Prop}
    (X : (kk w.params).In h₀) (T : Top p loose mean mg mb h₀) (F : Fr h₀ L s.heap mF) (N : News h₀ L s.heap (cells ++ [(338, tabObj #[])])) (Y : CellsAre cm (cellsFrom (L + 1) scope.names []) cells) (l0 : 338 < L) (hL : h₀.IsList a vs.toArray)
    (hm : mF "script" = some (.ref a)) (hk : scope.names.lookup ("script" : Str) = some .local) (hkind : scope.kind = .function) (hab : ∀ p ∈ cells, L < p.1) (hpw : (cellsFrom (L + 1) scope.names []).Pairwise fun x y => x.2 ≠ y.2)
    (H : ∀ (g : Gx) (A : Around), Room A 20 → StH (fun c => c.h₀.IsList a vs.toArray) g A (envX qual scope L fa cd (cellsFrom (L + 1) scope.names [])) (execs body (envX qual scope L fa cd (cellsFrom (L + 1) scope.names []))) [("script", .raw (.ref a))] [(338, .raw (tabObj #[]))] (fun fl _ cs => isTrueRet fl cs) noX)
    (hQ : ∀ h' tk' tb, (∀ b o, h₀.get? b = some o → h'.get? b = some o) → h'.get? 338 = some (tabObj tb) → Q (.ret (.bool true)) { s with heap := h', toks := tk' }) :
    wpAny (model prg w) (callerA.deeper (envX qual scope L fa cd (cellsFrom (L + 1) scope.names []))) (execs body (envX qual scope L fa cd (cellsFrom (L + 1) scope.names []))) Q E s := by
  let g : Gx := ⟨w, p, loose, mean, mg, mb, [], []⟩
  let c : Ctx := ⟨h₀, L, mF, [], cells, []⟩
  generalize hEnv : envX qual scope L fa cd (cellsFrom (L + 1) scope.names []) = E' at H ⊢
  have ecells : E'.cells = cellsFrom (L + 1) scope.names [] := by rw [← hEnv]
  have ekind : ∀ y, E'.kindOf y = scope.names.lookup y := fun y => by rw [← hEnv]; rfl
  have eloc : E'.locals = L := by rw [← hEnv]
  have R : RF g (callerA.deeper E') c [(338, .raw (tabObj #[]))] s.heap := by
    refine ⟨⟨E', [], rfl, by rw [← hEnv], by rw [← hEnv]; exact hkind, trivial⟩, F, X, T, fun q hq => N q (List.mem_append_left _ hq), fun q hq => ?_, by simp, fun q hq r hr => ?_, fun q hq r hr => (nomatch hr), fun q hq => (nomatch hq), fun q hq => (nomatch hq), fun q hq => (nomatch hq), fun q hq r hr => (nomatch hr), fun q hq r hr => (nomatch hr)⟩
    · rw [List.mem_singleton.mp hq]
      exact ⟨_, .raw _, fun r hr => by rw [List.mem_singleton.mp hr]; exact N _ (List.mem_append_right _ (.head _))⟩
    · rw [List.mem_singleton.mp hq]
      exact Nat.ne_of_lt (Nat.lt_trans l0 (hab r hr))
  have S : SV g E' c [("script", .raw (.ref a))] := by
    refine ⟨fun y t hy => ?_, eloc, by rw [← hEnv]; exact hkind, fun y hy => ?_, ?_, fun y z b hy hz => ?_⟩
    · rw [List.lookup_cons] at hy
      split at hy
      · rename_i e
        cases hy
        have e' : y = "script" := by simpa using e
        subst e'
        exact ⟨_, .raw _, .inl ⟨by rw [ekind]; exact hk, eloc, hm⟩⟩
      · cases hy
    · rw [ekind] at hy
      obtain ⟨b, hb⟩ := Option.isSome_iff_exists.mp (cells_of_kind scope.names (L + 1) [] hy)
      obtain ⟨o, hm, hd⟩ := cellsAre_get Y hb
      exact ⟨b, o, _, by rw [ecells]; exact hb, hm, hd⟩
    · show (cells.map (·.1)).Nodup
      rw [cellsAre_keys Y]
      exact List.pairwise_map.mpr hpw
    · rw [ecells] at hy hz
      exact pair_inj hpw (lookup_snd hy) (lookup_snd hz)
  have fin : wpAny (model prg w) (callerA.deeper E') (execs body E') Q (fun _ _ => False) s := by
    refine H g _ law_room c s Q _ hL S R PassesOwn.never (fun c' fl f vars' cs' h' tk' l p fr S' R' => ?_) fun e c' cs' h' tk' l xx => xx.elim
    obtain ⟨rfl, tb, rfl⟩ := p
    cases fr with
    | ret r =>
    cases r
    refine hQ h' tk' tb (fun b o e => R'.F.keep b o (by rw [l.h₀]; exact e)) ?_
    obtain ⟨o, cr, n⟩ := R'.co _ (.head _)
    cases cr
    exact (n _ (.head _)).1
  exact wpAny_mono fin (fun _ _ z => z) fun _ _ z => z.elim

theorem said0 : OpenLaw.wellSaid PySem.Challenge.rw_oc0342_01 = true := by
  rw [Fast.te9446332074065402090]
  kernel_rfl
theorem as1_ok : ∀ P, as1 = (kk P).map (·.1) := fun _ => by kernel_rfl
theorem whole : PySem.Challenge.rw_oc0342_01.Holds := by
  w_on
  refine holds_law said0 fun said => ?_
  refine holds_open (q := q0) (loose := loose0) (Xt := xt0) (XP := XL q0 []) (Yf := Hook.obs (kmHook kk as1 as1_ok [nat_lit 338])) (Ya := Hook.val (kmHook kk as1 as1_ok [nat_lit 338])) (YP := Hook.says (kmHook kk as1 as1_ok [nat_lit 338])) (N := 4674) left1 (Hook.of (kmHook kk as1 as1_ok [nat_lit 338])) (Hook.keeps (kmHook kk as1 as1_ok [nat_lit 338])) (fun s e => xl_of s (Bool.and_eq_true_iff.mp e).1) XL.keeps (by rfl) (by rfl) (by rfl) (fun s e => recFacts_of (Bool.and_eq_true_iff.mp e).2) (by rfl) (by first | assumption | decide +kernel) (by decide +kernel) ⟨rfl, rfl, rfl, rfl, rfl, by decide +kernel⟩ ?hw ?hc
  case hw => w_witness2
  case hc =>
  k_go0
  rename World => w
  rename Fr _ _ _ _ => F
  rename News _ _ _ _ => N
  rename Frag.In _ (ghostOf _ _) => X
  rename Top topProg _ _ _ _ _ => TT
  rename IntsAre _ _ => hI
  rename CellsAre _ _ _ => Y
  rename (ghostOf _ _).IsList _ _ => hL
  rename Shared.gens _ = _ => hg
  rename ¬ _ < _ => hlen
  rename 338 < _ => l0
  refine enter_law (cells := [_, _, _, _]) X TT F N Y l0 hL rfl rfl rfl ?hab ?hpw ?H ?hQ
  case hab =>
    intro p hp
    simp only [List.mem_cons, List.not_mem_nil, or_false] at hp
    rcases hp with rfl | rfl | rfl | rfl <;> first | exact Nat.lt_succ_self _ | exact Nat.lt_succ_of_lt (Nat.lt_succ_self _) | exact Nat.lt_succ_of_lt (Nat.lt_succ_of_lt (Nat.lt_succ_self _)) | exact Nat.lt_succ_of_lt (Nat.lt_succ_of_lt (Nat.lt_succ_of_lt (Nat.lt_succ_self _)))
  case hpw =>
    exact pw4 _ _ _ _ _
  case hQ =>
    intro h' tk' tb hk hP
    exact ⟨⟨.inl ⟨.bool true, .bool true, [], rfl, fun _ => rfl, .bool _, by kc_post, fun _ => ⟨List.nodup_nil, fun _ h => nomatch h⟩⟩, hk, rfl, hg⟩, ⟨tb, hP⟩, trivial⟩
  case H =>
    intro g A hr
    refine StH.start ?_
    have hh := hr.1
    refine StH.assignU hh (caps := []) CapsOK.nil rfl ?_
    refine EvH.sliceH (k := 10) hI (le_line (by simp; omega)) rfl ?_
    rename List Int => ns
    refine ⟨_, rfl, le_line (by simp; omega), ?_⟩
    refine CompU.map modT ?_ ?_
    · intro u hu C
      obtain ⟨x, _, rfl⟩ := List.mem_map.mp hu
      refine Ev.bin ?_
      refine Ev.name rfl ?_
      refine Ev.cint ?_
      exact Op2.modII (by decide) ⟨rfl, rfl⟩
    rw [List.nil_append, mod_map]
    have hd0 := mod_ok ns
    have hdl : ((ns.take 10).map fun x => x.fmod 100).length ≤ 10 := by simp; omega
    generalize ((ns.take 10).map fun x => x.fmod 100) = ds at hd0 hdl ⊢
    have hb : ∀ i < 5, basAt ds i ∈ opts i := fun i _ => bas_opts ds i
    have ho : ∀ i < 5, (ownAt ds i).length ≤ 2 ∧ ∀ x ∈ ownAt ds i, isNm x := fun i _ => own_ok ds i
    refine Ex.cons ?_
    refine Ex1.assignC (.inr rfl) ?_
    refine Ev.call ?_
    refine Ev.g__law_bases ⟨rfl, rfl, rfl, rfl⟩ ?_
    refine ArgP.cons ?_
    refine Evs.cons ?_
    refine Ev.name rfl ?_
    refine Evs.nil ?_
    refine bases_spec (n := 18) hr ds hd0 hdl ?_
    refine Ex.cons ?_
    refine Ex1.assignC (.inr rfl) ?_
    refine Ev.call ?_
    refine Ev.g__law_owns ⟨rfl, rfl, rfl, rfl⟩ ?_
    refine ArgP.cons ?_
    refine Evs.cons ?_
    refine Ev.name rfl ?_
    refine Evs.nil ?_
    refine owns_spec (n := 18) hr ds hdl ?_
    refine Ex.cons ?_
    refine Ex1.assignC (.inl rfl) ?_
    refine Ev.call ?_
    refine Ev.g__law_run ⟨rfl, rfl, rfl, rfl⟩ ?_
    refine ArgP.cons ?_
    refine Evs.cons ?_
    refine Ev.name rfl ?_
    refine Evs.cons ?_
    refine Ev.bin ?_
    refine Ev.name rfl ?_
    refine Ev.list ?_
    iterate 5
      refine Evs.cons ?_
      refine Ev.cint ?_
    refine Evs.nil ⟨le_line rfl, ?_⟩
    refine Op2.addLL (.fz _) (.fz _) (le_line (by simp; omega)) ?_
    refine Evs.nil ?_
    have e5 : (ds.map T.int ++ [T.int 3, T.int 1, T.int 0, T.int 2, T.int 1]) = (ds ++ [3, 1, 0, 2, 1]).map T.int := by simp
    rw [e5]
    refine run_spec (n := 15) (bas := basAt ds) hr (bas_ok hb) (by simp) (by simp; omega) ?_
    intro ord hrun
    have hol : ord.length = 5 := by
      have p : ord.Perm (List.range 5) := (List.perm_ext_iff_of_nodup hrun.nd List.nodup_range).mpr fun x => ⟨fun h => List.mem_range.mpr (hrun.lt x h), fun h => hrun.all x (List.mem_range.mp h)⟩
      simpa using p.length_eq
    have hb2 : ∀ i < 5, (basAt ds i).length ≤ 2 ∧ ∀ b ∈ basAt ds i, b < i := fun i hi => ⟨(opts_ok (hb i hi)).1, (opts_ok (hb i hi)).2.1⟩
    have h5 : ∀ i < 5, ∀ l, plOf (basAt ds) i = some l → l.length ≤ 5 ∧ ∀ x ∈ l, x < 5 := fun i hi => (chk3 hb hi).2
    refine Ex.cons ?_
    refine Ex1.ifs ?_
    refine Ts.cmp ?_
    refine Ev.call ?_
    refine Ev.b_sorted ⟨rfl, rfl, rfl, rfl⟩ ?_
    refine ArgP.cons ?_
    refine Evs.cons ?_
    refine Ev.name rfl ?_
    refine Evs.nil ?_
    refine Cal.sorted (ss := ord.map ltr) (by rw [List.map_map]; exact .fz _) (by simp; omega) fun ss' hp hs => ?_
    rw [sorted_five hp hs hrun.nd hrun.lt hrun.all, abc_names]
    refine Ev.list ?_
    iterate 5
      refine Evs.cons ?_
      refine Ev.cstr ?_
    refine Evs.nil ⟨le_line rfl, ?_⟩
    refine Op2.ne (n := 20) hr (.fz abc_ok) (.fz abc_ok) fun b hbb => ?_
    obtain rfl := hbb.mpr rfl
    refine ⟨false, rfl, fun e => (nomatch e), fun _ => ?_⟩
    refine Ex.nil ?_
    refine Ex.cons ?_
    refine Ex1.assignC (.inr rfl) ?_
    refine Ev.call ?_
    refine Ev.g__law_lines ⟨rfl, rfl, rfl, rfl⟩ ?_
    refine ArgP.cons ?_
    refine Evs.cons ?_
    refine Ev.name rfl ?_
    refine Evs.cons ?_
    refine Ev.name rfl ?_
    refine Evs.nil ?_
    refine lines_spec (n := 16) hr (basAt ds) (plOf (basAt ds)) ord hb2 (fun i hi => (chk3 hb hi).1.1) h5 hrun.lt hrun.nd (by omega) hrun.tp ?_
    refine Ex.cons ?_
    refine Ex1.ifs ?_
    refine Ts.cmp ?_
    refine Ev.name rfl ?_
    refine Ev.call ?_
    refine Ev.g__law_plain_lines ⟨rfl, rfl, rfl, rfl⟩ ?_
    refine ArgP.cons ?_
    refine Evs.cons ?_
    refine Ev.name rfl ?_
    refine Evs.nil ?_
    refine plain_spec (n := 18) hr (basAt ds) (plOf (basAt ds)) hb2 (fun i hi => plOf_eq (basAt ds) i (bas_lt hb hi)) (fun i hi l e => ⟨by have := (h5 i hi l e).1; omega, (h5 i hi l e).2⟩) ?_
    refine Op2.neD (n := 20) hr (.fz _) (.fz _) (ord_nodup hrun.nd) (tab_nodup _ _) (by simp [ordT, tabT, hol]) ?_ ?_
    · intro p hp
      obtain ⟨i, hi, rfl⟩ := List.mem_map.mp hp
      refine ⟨tab_look _ 5 i (hrun.lt i hi), ?_⟩
      show (optT (plOf (basAt ds) i)).ok 4 = true
      cases q : plOf (basAt ds) i with
      | none => rfl
      | some l => exact lTs_ok (h5 i (hrun.lt i hi) l q).2
    refine ⟨false, rfl, fun e => (nomatch e), fun _ => ?_⟩
    refine Ex.nil ?_
    refine Ex.cons ?_
    refine Ex1.assignC (.inr rfl) ?_
    refine Ev.call ?_
    refine Ev.g__law_tables ⟨rfl, rfl, rfl, rfl⟩ ?_
    refine ArgP.cons ?_
    refine Evs.cons ?_
    refine Ev.name rfl ?_
    refine Evs.cons ?_
    refine Ev.name rfl ?_
    refine Evs.nil ?_
    refine tables_spec (n := 13) (own := ownAt ds) (ln := plOf (basAt ds)) hr ho (fun i hi => ord_look (hrun.all i hi)) (fun i hi l e => ⟨(h5 i hi l e).2, by have := (h5 i hi l e).1; omega⟩) ?_
    intro tb
    have hks : ∀ {i : Nat}, i ∈ (List.range 5).filter (fun i => (tabF (ownAt ds) (plOf (basAt ds)) i).isSome) → ∃ l, i < 5 ∧ plOf (basAt ds) i = some l := fun {i} hi => by
      obtain ⟨h1, h2⟩ := List.mem_filter.mp hi
      obtain ⟨t, ht⟩ := Option.isSome_iff_exists.mp h2
      obtain ⟨l, hl, _⟩ := Option.map_eq_some_iff.mp ht
      exact ⟨l, List.mem_range.mp h1, hl⟩
    have htb : ∀ {i l}, i < 5 → plOf (basAt ds) i = some l → (fillT (tabF (ownAt ds) (plOf (basAt ds))) (List.range 5)).lookup (ltr i) = some (tabO (firstOf (ownAt ds) l [])) := fun {i l} hi e => fill_look (List.mem_range.mpr hi) (by show (plOf (basAt ds) i).map _ = _; rw [e]; rfl)
    have gk0 : goodK [] := fun p hp => nomatch hp
    have hgk : ∀ {i l}, i < 5 → plOf (basAt ds) i = some l → goodK (firstOf (ownAt ds) l []) := fun {i l} hi e => firstOf_good (fun j hj => (ho j hj).2) (h5 i hi l e).2 gk0
    have hsz5 : (fillT (tabF (ownAt ds) (plOf (basAt ds))) (List.range 5)).length ≤ 5 := by
      have := fillT_len (tabF (ownAt ds) (plOf (basAt ds))) (List.range 5)
      simpa using this
    refine Ex.cons ?_
    refine Ex1.ifs ?_
    refine Ts.cmp ?_
    refine Ev.compTK hh (caps := [("tables", .dict (fillT (tabF (ownAt ds) (plOf (basAt ds))) (List.range 5))), ("owns", .dict (ownsT ds 5)), ("lines", .dict (ordT (fun i => optT (plOf (basAt ds) i)) ord))]) ?_ ?_
    · exact .cons (.cons (.cons .nil))
    refine Ev.name rfl ?_
    refine ⟨_, rfl, fillT_nodup List.nodup_range, le_line (by simp; omega), ?_⟩
    rw [fillT_keys]
    refine CompT.filterI lT (fun _ => false) lT ?_ (fun _ _ e => nomatch e) ?_
    · intro i hi C
      obtain ⟨l, hi5, hl⟩ := hks hi
      refine Ts.cmp ?_
      refine Ev.meth ?_
      refine Ev.sub ?_
      refine Ev.name rfl ?_
      refine Ev.name rfl ?_
      refine Sub.dict (.fz _) (htb hi5 hl) ?_
      refine ⟨_, _, GM.own (.fz _ _) rfl (hx_plain _ _) (hx_items _) (fn_135 _), ?_⟩
      refine ArgP.nil ?_
      refine items_spec (n := 18) hr (.fz _ _) rfl (.fz _) (by have := firstOf_len (fun j hj => (ho j hj).1) l [] (h5 i hi5 l hl).2; have := (h5 i hi5 l hl).1; simp at *; omega) ?_
      refine Ev.call ?_
      refine Ev.g__law_first ⟨rfl, rfl, rfl, rfl⟩ ?_
      refine ArgP.cons ?_
      refine Evs.cons ?_
      refine Ev.name rfl ?_
      refine Evs.cons ?_
      refine Ev.sub ?_
      refine Ev.name rfl ?_
      refine Ev.name rfl ?_
      refine Sub.dict (.fz _) ((ord_look (hrun.all i hi5)).trans (by rw [hl])) ?_
      refine Evs.nil ?_
      refine first_spec (n := 18) hr (ownAt ds) l ho (h5 i hi5 l hl).2 (by have := (h5 i hi5 l hl).1; omega) ?_
      refine Op2.ne (n := 20) hr (.fz (kT_ok (hgk hi5 hl))) (.fz (kT_ok (hgk hi5 hl))) fun b hbb => ?_
      exact ⟨b, rfl, hbb.mpr rfl, rfl⟩
    have ef : ∀ l : List Nat, l.filter (fun _ => false) = [] := fun l => by simp
    rw [ef]
    refine Ev.list ?_
    refine Evs.nil ⟨le_line rfl, ?_⟩
    refine Op2.ne (n := 20) hr (.fz rfl) (.fz rfl) fun b hbb => ?_
    obtain rfl := hbb.mpr rfl
    refine ⟨false, rfl, fun e => (nomatch e), fun _ => ?_⟩
    refine Ex.nil ?_
    refine Ex.cons ?_
    refine Ex1.ret ?_
    refine Ev.cmp ?_
    refine Ev.compTK hh (caps := [("bases", .dict (basesT ds 5)), ("tables", .dict (fillT (tabF (ownAt ds) (plOf (basAt ds))) (List.range 5)))]) ?_ ?_
    · exact .cons (.cons .nil)
    refine Ev.name rfl ?_
    refine ⟨_, rfl, fillT_nodup List.nodup_range, le_line (by simp; omega), ?_⟩
    rw [fillT_keys]
    refine CompT.filterI lT (fun _ => false) lT ?_ (fun _ _ e => nomatch e) ?_
    · intro i hi C
      obtain ⟨l, hi5, hl⟩ := hks hi
      have hin := inh_ok hb (own := ownAt ds) hi5 hl
      refine Ts.not ?_
      refine Ts.val ?_
      refine Ev.call ?_
      refine Ev.g__law_inherited ⟨rfl, rfl, rfl, rfl⟩ ?_
      refine ArgP.cons ?_
      refine Evs.cons ?_
      refine Ev.name rfl ?_
      refine Evs.cons ?_
      refine Ev.name rfl ?_
      refine Evs.cons ?_
      refine Ev.name rfl ?_
      refine Evs.nil ?_
      refine inherited_spec (n := 16) (bas := basAt ds) (ks := fun b => firstOf (ownAt ds) ((plOf (basAt ds) b).getD []) []) hr hi5 ⟨(hb2 i hi5).1, fun b h => Nat.lt_trans ((hb2 i hi5).2 b h) hi5⟩ ?_ (fun nm _ => hin.2 nm) ?_
      · intro b hbi
        have : ∃ l', b < 5 ∧ plOf (basAt ds) b = some l' := by
          rcases hbi with rfl | hbi
          · exact ⟨l, hi5, hl⟩
          · obtain ⟨l', e⟩ := hin.1 b hbi
            exact ⟨l', Nat.lt_trans ((hb2 i hi5).2 b hbi) hi5, e⟩
        obtain ⟨l', hb5, e⟩ := this
        rw [e, Option.getD_some]
        exact ⟨htb hb5 e, hgk hb5 e⟩
      exact ⟨true, Tu.bool true, rfl, rfl⟩
    rw [ef]
    refine Ev.list ?_
    refine Evs.nil ⟨le_line rfl, ?_⟩
    refine Op2.eq (n := 20) hr (.fz rfl) (.fz rfl) fun b hbb => ?_
    obtain rfl := hbb.mpr rfl
    exact ⟨rfl, tb, rfl⟩
end Mine
end

open PySem PySem.W PyProof.Rows
set_option Elab.async false
set_option maxRecDepth 100000 in
set_option maxHeartbeats 8000000 in
theorem PySem.Challenge.cw_oc0342_01_holds : PySem.Challenge.rw_oc0342_01.Holds := by
  exact Mine.whole
