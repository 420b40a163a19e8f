import PyProof.Rows.All
import Wide.All
import OpenK.AllK
import Wide.FinOn
import PyProof.CompFree
import PyProof.ZipIter
import PyProof.CollectWalk
import KE.KStar
import KE.KSuper
import KE.KLam
import PyProof.Rows.StrInSeq3
import PyProof.AttrMiss
import PyProof.ListNew
import PyProof.DictKinds
import OpenK.KMake
import PyProof.RulesTry
import PyProof.EqLayable
import Lean
import PySem.Challenge.RW_in0192_01
set_option Elab.async false
set_option genSizeOf false
set_option genInjectivity false
open PySem PySem.W PyProof.Rows
set_option maxRecDepth 100000
set_option maxHeartbeats 4000000
set_option linter.unusedVariables false
namespace Mine
/-! the text's parts, by their places in the row -/
noncomputable abbrev pw : Program := PySem.Challenge.pw_in0192_01
noncomputable def nth : List Stmt → Nat → Stmt
  | [], _ => .Pass default
  | s :: _, 0 => s
  | _ :: r, n + 1 => nth r n
noncomputable def topAt (i : Nat) : Stmt := nth pw.main.body i
noncomputable def clsBody : Stmt → List Stmt
  | .ClassDef _ _ _ b _ _ _ _ _ _ _ => b
  | _ => []
noncomputable def methAt (i j : Nat) : Stmt := nth (clsBody (topAt i)) j
noncomputable def fdOf (st : Stmt) (qual : Str) (cl : List (Str × Addr)) (dV kV doc pm : Value) (an : Option Addr) (code ct : Value) : FuncData := match st with
  | .FunctionDef name params body _ _ _ scope _ _ _ => { name, qualname := qual, params, body := .stmts body, scope, globals := mainGlobals, closure := cl, defaults := dV, kwdefaults := kV, doc, pyModule := pm, annotations := an, code, closureTuple := ct, builtins := builtinsNs }
  | _ => default
noncomputable def docIn : List Stmt → Str
  | .Expr (.Constant (.str s) _ _) _ :: _ => s
  | _ => Str.empty
noncomputable def docS : Stmt → Str
  | .FunctionDef _ _ b _ _ _ _ _ _ _ => docIn b
  | _ => Str.empty
noncomputable def docC (i : Nat) : Str := docIn (clsBody (topAt i))
noncomputable def aliasS (j : Nat) : Str := match methAt 5 j with
  | .Assign _ (.Call _ [_, .Constant (.str s) _ _] _ _) _ => s
  | _ => Str.empty
noncomputable def o3 (P : Params) : Obj := ⟨(.type "dict"), none, (.dict #[⟨PyData.keyHash P (Str.ofString "__name__"), (.str (Str.ofString "__name__") 165), (.str (Str.ofString "law_in0192_01") 651)⟩, ⟨PyData.keyHash P (Str.ofString "__doc__"), (.str (Str.ofString "__doc__") 166), .none⟩, ⟨PyData.keyHash P (Str.ofString "__package__"), (.str (Str.ofString "__package__") 167), .none⟩, ⟨PyData.keyHash P (Str.ofString "__loader__"), (.str (Str.ofString "__loader__") 168), (.builtin "__main__.__loader__#opaque")⟩, ⟨PyData.keyHash P (Str.ofString "__spec__"), (.str (Str.ofString "__spec__") 169), .none⟩, ⟨PyData.keyHash P (Str.ofString "__annotations__"), (.str (Str.ofString "__annotations__") 170), (.ref 6)⟩, ⟨PyData.keyHash P (Str.ofString "__builtins__"), (.str (Str.ofString "__builtins__") 171), (.ref 4)⟩, ⟨PyData.keyHash P (Str.ofString "__file__"), (.str (Str.ofString "__file__") 173), (.str (Str.ofString "/claim/cut.py") 172)⟩, ⟨PyData.keyHash P (Str.ofString "__cached__"), (.str (Str.ofString "__cached__") 174), .none⟩, ⟨PyData.keyHash P (Str.ofString "defaultdict"), (.str (Str.ofString "defaultdict") 272), (.type "collections.defaultdict")⟩, ⟨PyData.keyHash P (Str.ofString "_wall"), (.str (Str.ofString "_wall") 285), (.ref 39)⟩, ⟨PyData.keyHash P (Str.ofString "_tuplegetter"), (.str (Str.ofString "_tuplegetter") 344), (.ref 78)⟩, ⟨PyData.keyHash P (Str.ofString "FreezableDefaultDict"), (.str (Str.ofString "FreezableDefaultDict") 387), (.ref 108)⟩, ⟨PyData.keyHash P (Str.ofString "Pair"), (.str (Str.ofString "Pair") 502), (.ref 203)⟩, ⟨PyData.keyHash P (Str.ofString "heappush"), (.str (Str.ofString "heappush") 551), (.ref 213)⟩, ⟨PyData.keyHash P (Str.ofString "heappop"), (.str (Str.ofString "heappop") 561), (.ref 220)⟩, ⟨PyData.keyHash P (Str.ofString "heapify"), (.str (Str.ofString "heapify") 571), (.ref 227)⟩, ⟨PyData.keyHash P (Str.ofString "_heapreplace_max"), (.str (Str.ofString "_heapreplace_max") 581), (.ref 234)⟩, ⟨PyData.keyHash P (Str.ofString "_heapify_max"), (.str (Str.ofString "_heapify_max") 591), (.ref 241)⟩, ⟨PyData.keyHash P (Str.ofString "_siftdown"), (.str (Str.ofString "_siftdown") 603), (.ref 248)⟩, ⟨PyData.keyHash P (Str.ofString "_siftup"), (.str (Str.ofString "_siftup") 616), (.ref 255)⟩, ⟨PyData.keyHash P (Str.ofString "_siftdown_max"), (.str (Str.ofString "_siftdown_max") 629), (.ref 262)⟩, ⟨PyData.keyHash P (Str.ofString "_siftup_max"), (.str (Str.ofString "_siftup_max") 643), (.ref 269)⟩, ⟨PyData.keyHash P (Str.ofString "nsmallest"), (.str (Str.ofString "nsmallest") 650), (.ref 275)⟩, ⟨PyData.keyHash P (Str.ofString "_law_line"), (.str (Str.ofString "_law_line") 662), (.ref 282)⟩, ⟨PyData.keyHash P (Str.ofString "_law_bare"), (.str (Str.ofString "_law_bare") 668), (.ref 287)⟩, ⟨PyData.keyHash P (Str.ofString "_law_read"), (.str (Str.ofString "_law_read") 674), (.ref 292)⟩, ⟨PyData.keyHash P (Str.ofString "_law_parsed"), (.str (Str.ofString "_law_parsed") 681), (.ref 299)⟩, ⟨PyData.keyHash P (Str.ofString "_law_good"), (.str (Str.ofString "_law_good") 687), (.ref 304)⟩, ⟨PyData.keyHash P (Str.ofString "_law_run"), (.str (Str.ofString "_law_run") 696), (.ref 311)⟩, ⟨PyData.keyHash P (Str.ofString "_law_by_heaps"), (.str (Str.ofString "_law_by_heaps") 702), (.ref 316)⟩, ⟨PyData.keyHash P (Str.ofString "_law_by_book"), (.str (Str.ofString "_law_by_book") 708), (.ref 321)⟩, ⟨PyData.keyHash P (Str.ofString "_law_due_rows"), (.str (Str.ofString "_law_due_rows") 714), (.ref 326)⟩, ⟨PyData.keyHash P (Str.ofString "_law_due_alone"), (.str (Str.ofString "_law_due_alone") 720), (.ref 331)⟩, ⟨PyData.keyHash P (Str.ofString "_law_due_few"), (.str (Str.ofString "_law_due_few") 726), (.ref 336)⟩, ⟨PyData.keyHash P (Str.ofString "_law_due_names"), (.str (Str.ofString "_law_due_names") 736), (.ref 343)⟩, ⟨PyData.keyHash P (Str.ofString "_law_joined"), (.str (Str.ofString "_law_joined") 742), (.ref 348)⟩, ⟨PyData.keyHash P (Str.ofString "law"), (.str (Str.ofString "law") 748), (.ref 353)⟩] 38), #[]⟩
noncomputable def o54 (P : Params) : Obj := ⟨(.type "tuple"), none, (.seq #[.none] 0), #[]⟩
noncomputable def o60 (P : Params) : Obj := ⟨(.type "code"), none, (.fields #[(.str (Str.ofString "__get__") 309), (.str (Str.ofString "_tuplegetter.__get__") 310), (.str (Str.ofString "/claim/cut.py") 311), (.int (12) 0), (.int (3) 0), (.int (0) 0), (.int (0) 0), (.int (3) 0), (.ref 55), (.bool true), (.int (273) 0), (.ref 56), .none, (.ref 57), (.ref 58), (.ref 59), (.int (315) 0), (.int (12) 0), (.str (Str.ofString "/claim/cut.py") 316)]), #[]⟩
noncomputable def o61 (P : Params) : Obj := ⟨(.type "function"), none, (.func (fdOf (methAt 3 1) (Str.ofString "_tuplegetter.__get__") [] (.ref 54) .none .none (.str (Str.ofString "cpy313.importlib.metadata._collections") 286) none (.ref 60) .none)), #[]⟩
noncomputable def o77 (P : Params) : Obj := ⟨(.type "dict"), none, (.dict #[⟨PyData.keyHash P (Str.ofString "__module__"), (.str (Str.ofString "__module__") 295), (.str (Str.ofString "cpy313.importlib.metadata._collections") 286)⟩, ⟨PyData.keyHash P (Str.ofString "__firstlineno__"), (.str (Str.ofString "__firstlineno__") 299), (.int (6) 298)⟩, ⟨PyData.keyHash P (Str.ofString "__init__"), (.str (Str.ofString "__init__") 308), (.ref 53)⟩, ⟨PyData.keyHash P (Str.ofString "__get__"), (.str (Str.ofString "__get__") 317), (.ref 61)⟩, ⟨PyData.keyHash P (Str.ofString "__set__"), (.str (Str.ofString "__set__") 326), (.ref 68)⟩, ⟨PyData.keyHash P (Str.ofString "__delete__"), (.str (Str.ofString "__delete__") 334), (.ref 75)⟩, ⟨PyData.keyHash P (Str.ofString "__static_attributes__"), (.str (Str.ofString "__static_attributes__") 337), (.ref 76)⟩, ⟨PyData.keyHash P (Str.ofString "__dict__"), (.str (Str.ofString "__dict__") 339), (.ref 79)⟩, ⟨PyData.keyHash P (Str.ofString "__weakref__"), (.str (Str.ofString "__weakref__") 341), (.ref 80)⟩, ⟨PyData.keyHash P (Str.ofString "__doc__"), (.str (Str.ofString "__doc__") 342), .none⟩] 4), #[]⟩
noncomputable def o78 (P : Params) : Obj := ⟨(.type "type"), none, (.cls ⟨(Str.ofString "_tuplegetter"), [(.type "object")], [(.ref 78), (.type "object")], 77, (Str.ofString "_tuplegetter"), true, [], [], false, none, false⟩), #[none, none, (some (.str (Str.ofString "_tuplegetter") 288)), (some (.str (Str.ofString "_tuplegetter") 296)), (some (.builtin "object.__new__")), (some (.bool true))]⟩
noncomputable def o86 (P : Params) : Obj := ⟨(.type "cell"), none, (.cell (some (.ref 108))), #[]⟩
noncomputable def o91 (P : Params) : Obj := ⟨(.type "tuple"), none, (.seq #[(.ref 86)] 0), #[]⟩
noncomputable def o97 (P : Params) : Obj := ⟨(.type "code"), none, (.fields #[(.str (Str.ofString "__missing__") 360), (.str (Str.ofString "FreezableDefaultDict.__missing__") 361), (.str (Str.ofString "/claim/cut.py") 362), (.int (39) 0), (.int (2) 0), (.int (0) 0), (.int (0) 0), (.int (3) 0), (.ref 92), (.bool true), (.int (273) 0), (.ref 93), .none, (.ref 94), (.ref 95), (.ref 96), (.int (366) 0), (.int (39) 0), (.str (Str.ofString "/claim/cut.py") 367)]), #[]⟩
noncomputable def o98 (P : Params) : Obj := ⟨(.type "function"), none, (.func (fdOf (methAt 4 1) (Str.ofString "FreezableDefaultDict.__missing__") [((Str.ofString "__class__"), 86)] .none .none .none (.str (Str.ofString "cpy313.importlib.metadata._collections") 286) none (.ref 97) (.ref 91))), #[]⟩
noncomputable def o104 (P : Params) : Obj := ⟨(.type "code"), none, (.fields #[(.str (Str.ofString "freeze") 369), (.str (Str.ofString "FreezableDefaultDict.freeze") 370), (.str (Str.ofString "/claim/cut.py") 371), (.int (42) 0), (.int (1) 0), (.int (0) 0), (.int (0) 0), (.int (3) 0), (.ref 99), (.bool true), (.int (273) 0), (.ref 100), .none, (.ref 101), (.ref 102), (.ref 103), (.int (374) 0), (.int (42) 0), (.str (Str.ofString "/claim/cut.py") 375)]), #[]⟩
noncomputable def o105 (P : Params) : Obj := ⟨(.type "function"), none, (.func (fdOf (methAt 4 2) (Str.ofString "FreezableDefaultDict.freeze") [] .none .none .none (.str (Str.ofString "cpy313.importlib.metadata._collections") 286) none (.ref 104) .none)), #[]⟩
noncomputable def o107 (P : Params) : Obj := ⟨(.type "dict"), none, (.dict #[⟨PyData.keyHash P (Str.ofString "__module__"), (.str (Str.ofString "__module__") 352), (.str (Str.ofString "cpy313.importlib.metadata._collections") 286)⟩, ⟨PyData.keyHash P (Str.ofString "__firstlineno__"), (.str (Str.ofString "__firstlineno__") 356), (.int (24) 355)⟩, ⟨PyData.keyHash P (Str.ofString "__doc__"), (.str (Str.ofString "__doc__") 358), (.str (docC 4) 357)⟩, ⟨PyData.keyHash P (Str.ofString "__missing__"), (.str (Str.ofString "__missing__") 368), (.ref 98)⟩, ⟨PyData.keyHash P (Str.ofString "freeze"), (.str (Str.ofString "freeze") 376), (.ref 105)⟩, ⟨PyData.keyHash P (Str.ofString "__static_attributes__"), (.str (Str.ofString "__static_attributes__") 378), (.ref 106)⟩, ⟨PyData.keyHash P (Str.ofString "__dict__"), (.str (Str.ofString "__dict__") 381), (.ref 109)⟩, ⟨PyData.keyHash P (Str.ofString "__weakref__"), (.str (Str.ofString "__weakref__") 383), (.ref 110)⟩] 4), #[]⟩
noncomputable def o108 (P : Params) : Obj := ⟨(.type "type"), none, (.cls ⟨(Str.ofString "FreezableDefaultDict"), [(.type "collections.defaultdict")], [(.ref 108), (.type "collections.defaultdict"), (.type "dict"), (.type "object")], 107, (Str.ofString "FreezableDefaultDict"), true, [(Str.ofString "")], [], false, none, false⟩), #[(some (.ref 83)), none, (some (.str (Str.ofString "FreezableDefaultDict") 345)), (some (.str (Str.ofString "FreezableDefaultDict") 353)), (some (.builtin "dict.__new__")), (some (.bool true))]⟩
noncomputable def o109 (P : Params) : Obj := ⟨(.type "getset_descriptor"), none, (.fields #[(.str (Str.ofString "__dict__") 380), (.ref 108), (.builtin "function.__dict__"), (.builtin "function.__dict__#set")]), #[]⟩
noncomputable def o129 (P : Params) : Obj := ⟨(.type "code"), none, (.fields #[(.str (Str.ofString "__new__") 408), (.str (Str.ofString "Pair.__new__") 409), (.str (Str.ofString "/claim/cut.py") 410), (.int (50) 0), (.int (3) 0), (.int (0) 0), (.int (0) 0), (.int (3) 0), (.ref 124), (.bool true), (.int (273) 0), (.ref 125), .none, (.ref 126), (.ref 127), (.ref 128), (.int (414) 0), (.int (50) 0), (.str (Str.ofString "/claim/cut.py") 415)]), #[]⟩
noncomputable def o130 (P : Params) : Obj := ⟨(.type "function"), none, (.func (fdOf (methAt 5 4) (Str.ofString "Pair.__new__") [] .none .none (.str (docS (methAt 5 4)) 416) (.str (Str.ofString "cpy313.importlib.metadata._collections") 286) none (.ref 129) .none)), #[]⟩
noncomputable def o171 (P : Params) : Obj := ⟨(.type "dict"), none, (.dict #[⟨PyData.keyHash P (Str.ofString "index"), (.str (Str.ofString "index") 484), (.int (0) 478)⟩, ⟨PyData.keyHash P (Str.ofString "__doc__"), (.str (Str.ofString "__doc__") 486), (.str (aliasS 12) 479)⟩] 2), #[]⟩
noncomputable def o172 (P : Params) : Obj := ⟨(.ref 78), some 171, .plain, #[]⟩
noncomputable def o174 (P : Params) : Obj := ⟨(.type "dict"), none, (.dict #[⟨PyData.keyHash P (Str.ofString "index"), (.str (Str.ofString "index") 494), (.int (1) 488)⟩, ⟨PyData.keyHash P (Str.ofString "__doc__"), (.str (Str.ofString "__doc__") 496), (.str (aliasS 13) 489)⟩] 2), #[]⟩
noncomputable def o175 (P : Params) : Obj := ⟨(.ref 78), some 174, .plain, #[]⟩
noncomputable def o179 (P : Params) : Obj := ⟨(.type "dict"), none, (.dict #[⟨PyData.keyHash P (Str.ofString "__module__"), (.str (Str.ofString "__module__") 395), (.str (Str.ofString "cpy313.importlib.metadata._collections") 286)⟩, ⟨PyData.keyHash P (Str.ofString "__firstlineno__"), (.str (Str.ofString "__firstlineno__") 399), (.int (44) 398)⟩, ⟨PyData.keyHash P (Str.ofString "__doc__"), (.str (Str.ofString "__doc__") 401), (.str (docC 5) 400)⟩, ⟨PyData.keyHash P (Str.ofString "__slots__"), (.str (Str.ofString "__slots__") 403), (.ref 121)⟩, ⟨PyData.keyHash P (Str.ofString "_fields"), (.str (Str.ofString "_fields") 406), (.ref 122)⟩, ⟨PyData.keyHash P (Str.ofString "_field_defaults"), (.str (Str.ofString "_field_defaults") 407), (.ref 123)⟩, ⟨PyData.keyHash P (Str.ofString "__new__"), (.str (Str.ofString "__new__") 417), (.ref 181)⟩, ⟨PyData.keyHash P (Str.ofString "_make"), (.str (Str.ofString "_make") 439), (.ref 139)⟩, ⟨PyData.keyHash P (Str.ofString "_replace"), (.str (Str.ofString "_replace") 450), (.ref 148)⟩, ⟨PyData.keyHash P (Str.ofString "__replace__"), (.str (Str.ofString "__replace__") 451), (.ref 148)⟩, ⟨PyData.keyHash P (Str.ofString "__repr__"), (.str (Str.ofString "__repr__") 459), (.ref 155)⟩, ⟨PyData.keyHash P (Str.ofString "_asdict"), (.str (Str.ofString "_asdict") 466), (.ref 162)⟩, ⟨PyData.keyHash P (Str.ofString "__getnewargs__"), (.str (Str.ofString "__getnewargs__") 474), (.ref 169)⟩, ⟨PyData.keyHash P (Str.ofString "__match_args__"), (.str (Str.ofString "__match_args__") 477), (.ref 170)⟩, ⟨PyData.keyHash P (Str.ofString "name"), (.str (Str.ofString "name") 487), (.ref 172)⟩, ⟨PyData.keyHash P (Str.ofString "value"), (.str (Str.ofString "value") 497), (.ref 175)⟩, ⟨PyData.keyHash P (Str.ofString "__static_attributes__"), (.str (Str.ofString "__static_attributes__") 498), (.ref 177)⟩] 2), #[]⟩
noncomputable def o180 (P : Params) : Obj := ⟨(.type "type"), none, (.cls ⟨(Str.ofString "Pair"), [(.type "tuple")], [(.ref 180), (.type "tuple"), (.type "object")], 179, (Str.ofString "Pair"), false, [], [(.ref 203)], false, none, false⟩), #[(some (.ref 113)), none, (some (.str (Str.ofString "Pair") 388)), (some (.str (Str.ofString "Pair") 396)), (some .none), (some (.bool false))]⟩
noncomputable def o181 (P : Params) : Obj := ⟨(.type "staticmethod"), none, (.fields #[(.ref 130)]), #[]⟩
noncomputable def o196 (P : Params) : Obj := ⟨(.type "code"), none, (.fields #[(.str (Str.ofString "parse") 515), (.str (Str.ofString "Pair.parse") 516), (.str (Str.ofString "/claim/cut.py") 517), (.int (88) 0), (.int (2) 0), (.int (0) 0), (.int (0) 0), (.int (3) 0), (.ref 191), (.bool true), (.int (273) 0), (.ref 192), .none, (.ref 193), (.ref 194), (.ref 195), (.int (520) 0), (.int (88) 0), (.str (Str.ofString "/claim/cut.py") 521)]), #[]⟩
noncomputable def o197 (P : Params) : Obj := ⟨(.type "function"), none, (.func (fdOf (methAt 6 0) (Str.ofString "Pair.parse") [] .none .none .none (.str (Str.ofString "cpy313.importlib.metadata._collections") 286) (some 200) (.ref 196) .none)), #[]⟩
noncomputable def o198 (P : Params) : Obj := ⟨(.type "dict"), none, (.dict #[⟨PyData.keyHash P (Str.ofString "__module__"), (.str (Str.ofString "__module__") 523), (.str (Str.ofString "cpy313.importlib.metadata._collections") 286)⟩, ⟨PyData.keyHash P (Str.ofString "__name__"), (.str (Str.ofString "__name__") 526), (.str (Str.ofString "parse") 525)⟩, ⟨PyData.keyHash P (Str.ofString "__qualname__"), (.str (Str.ofString "__qualname__") 529), (.str (Str.ofString "Pair.parse") 528)⟩, ⟨PyData.keyHash P (Str.ofString "__doc__"), (.str (Str.ofString "__doc__") 531), .none⟩, ⟨PyData.keyHash P (Str.ofString "__annotations__"), (.str (Str.ofString "__annotations__") 533), (.ref 200)⟩] 5), #[]⟩
noncomputable def o199 (P : Params) : Obj := ⟨(.type "classmethod"), some 198, (.fields #[(.ref 197), (.bool false)]), #[]⟩
noncomputable def o202 (P : Params) : Obj := ⟨(.type "dict"), none, (.dict #[⟨PyData.keyHash P (Str.ofString "__module__"), (.str (Str.ofString "__module__") 510), (.str (Str.ofString "cpy313.importlib.metadata._collections") 286)⟩, ⟨PyData.keyHash P (Str.ofString "__firstlineno__"), (.str (Str.ofString "__firstlineno__") 514), (.int (86) 513)⟩, ⟨PyData.keyHash P (Str.ofString "parse"), (.str (Str.ofString "parse") 534), (.ref 199)⟩, ⟨PyData.keyHash P (Str.ofString "__static_attributes__"), (.str (Str.ofString "__static_attributes__") 535), (.ref 201)⟩, ⟨PyData.keyHash P (Str.ofString "__dict__"), (.str (Str.ofString "__dict__") 537), (.ref 204)⟩, ⟨PyData.keyHash P (Str.ofString "__doc__"), (.str (Str.ofString "__doc__") 538), .none⟩] 3), #[]⟩
noncomputable def o203 (P : Params) : Obj := ⟨(.type "type"), none, (.cls ⟨(Str.ofString "Pair"), [(.ref 180)], [(.ref 203), (.ref 180), (.type "tuple"), (.type "object")], 202, (Str.ofString "Pair"), true, [], [], false, none, false⟩), #[(some (.ref 184)), none, (some (.str (Str.ofString "Pair") 503)), (some (.str (Str.ofString "Pair") 511)), (some .none), (some (.bool false))]⟩
noncomputable def o204 (P : Params) : Obj := ⟨(.type "getset_descriptor"), none, (.fields #[(.str (Str.ofString "__dict__") 536), (.ref 203), (.builtin "function.__dict__"), (.builtin "function.__dict__#set")]), #[]⟩
noncomputable def o212 (P : Params) : Obj := ⟨(.type "code"), none, (.fields #[(.str (Str.ofString "heappush") 543), (.str (Str.ofString "heappush") 544), (.str (Str.ofString "/claim/cut.py") 545), (.int (92) 0), (.int (2) 0), (.int (0) 0), (.int (0) 0), (.int (3) 0), (.ref 207), (.bool true), (.int (273) 0), (.ref 208), .none, (.ref 209), (.ref 210), (.ref 211), (.int (548) 0), (.int (92) 0), (.str (Str.ofString "/claim/cut.py") 549)]), #[]⟩
noncomputable def o213 (P : Params) : Obj := ⟨(.type "function"), none, (.func (fdOf (topAt 8) (Str.ofString "heappush") [] .none .none (.str (docS (topAt 8)) 550) (.str (Str.ofString "cpy313.heapq") 541) none (.ref 212) .none)), #[]⟩
noncomputable def o219 (P : Params) : Obj := ⟨(.type "code"), none, (.fields #[(.str (Str.ofString "heappop") 552), (.str (Str.ofString "heappop") 553), (.str (Str.ofString "/claim/cut.py") 554), (.int (96) 0), (.int (1) 0), (.int (0) 0), (.int (0) 0), (.int (3) 0), (.ref 214), (.bool true), (.int (273) 0), (.ref 215), .none, (.ref 216), (.ref 217), (.ref 218), (.int (558) 0), (.int (96) 0), (.str (Str.ofString "/claim/cut.py") 559)]), #[]⟩
noncomputable def o220 (P : Params) : Obj := ⟨(.type "function"), none, (.func (fdOf (topAt 9) (Str.ofString "heappop") [] .none .none (.str (docS (topAt 9)) 560) (.str (Str.ofString "cpy313.heapq") 541) none (.ref 219) .none)), #[]⟩
noncomputable def o226 (P : Params) : Obj := ⟨(.type "code"), none, (.fields #[(.str (Str.ofString "heapify") 562), (.str (Str.ofString "heapify") 563), (.str (Str.ofString "/claim/cut.py") 564), (.int (105) 0), (.int (1) 0), (.int (0) 0), (.int (0) 0), (.int (3) 0), (.ref 221), (.bool true), (.int (273) 0), (.ref 222), .none, (.ref 223), (.ref 224), (.ref 225), (.int (568) 0), (.int (105) 0), (.str (Str.ofString "/claim/cut.py") 569)]), #[]⟩
noncomputable def o227 (P : Params) : Obj := ⟨(.type "function"), none, (.func (fdOf (topAt 10) (Str.ofString "heapify") [] .none .none (.str (docS (topAt 10)) 570) (.str (Str.ofString "cpy313.heapq") 541) none (.ref 226) .none)), #[]⟩
noncomputable def o233 (P : Params) : Obj := ⟨(.type "code"), none, (.fields #[(.str (Str.ofString "_heapreplace_max") 572), (.str (Str.ofString "_heapreplace_max") 573), (.str (Str.ofString "/claim/cut.py") 574), (.int (110) 0), (.int (2) 0), (.int (0) 0), (.int (0) 0), (.int (3) 0), (.ref 228), (.bool true), (.int (273) 0), (.ref 229), .none, (.ref 230), (.ref 231), (.ref 232), (.int (578) 0), (.int (110) 0), (.str (Str.ofString "/claim/cut.py") 579)]), #[]⟩
noncomputable def o234 (P : Params) : Obj := ⟨(.type "function"), none, (.func (fdOf (topAt 11) (Str.ofString "_heapreplace_max") [] .none .none (.str (docS (topAt 11)) 580) (.str (Str.ofString "cpy313.heapq") 541) none (.ref 233) .none)), #[]⟩
noncomputable def o240 (P : Params) : Obj := ⟨(.type "code"), none, (.fields #[(.str (Str.ofString "_heapify_max") 582), (.str (Str.ofString "_heapify_max") 583), (.str (Str.ofString "/claim/cut.py") 584), (.int (116) 0), (.int (1) 0), (.int (0) 0), (.int (0) 0), (.int (3) 0), (.ref 235), (.bool true), (.int (273) 0), (.ref 236), .none, (.ref 237), (.ref 238), (.ref 239), (.int (588) 0), (.int (116) 0), (.str (Str.ofString "/claim/cut.py") 589)]), #[]⟩
noncomputable def o241 (P : Params) : Obj := ⟨(.type "function"), none, (.func (fdOf (topAt 12) (Str.ofString "_heapify_max") [] .none .none (.str (docS (topAt 12)) 590) (.str (Str.ofString "cpy313.heapq") 541) none (.ref 240) .none)), #[]⟩
noncomputable def o247 (P : Params) : Obj := ⟨(.type "code"), none, (.fields #[(.str (Str.ofString "_siftdown") 592), (.str (Str.ofString "_siftdown") 593), (.str (Str.ofString "/claim/cut.py") 594), (.int (121) 0), (.int (3) 0), (.int (0) 0), (.int (0) 0), (.int (3) 0), (.ref 242), (.bool true), (.int (273) 0), (.ref 243), .none, (.ref 244), (.ref 245), (.ref 246), (.int (601) 0), (.int (121) 0), (.str (Str.ofString "/claim/cut.py") 602)]), #[]⟩
noncomputable def o248 (P : Params) : Obj := ⟨(.type "function"), none, (.func (fdOf (topAt 13) (Str.ofString "_siftdown") [] .none .none .none (.str (Str.ofString "cpy313.heapq") 541) none (.ref 247) .none)), #[]⟩
noncomputable def o254 (P : Params) : Obj := ⟨(.type "code"), none, (.fields #[(.str (Str.ofString "_siftup") 604), (.str (Str.ofString "_siftup") 605), (.str (Str.ofString "/claim/cut.py") 606), (.int (132) 0), (.int (2) 0), (.int (0) 0), (.int (0) 0), (.int (3) 0), (.ref 249), (.bool true), (.int (273) 0), (.ref 250), .none, (.ref 251), (.ref 252), (.ref 253), (.int (614) 0), (.int (132) 0), (.str (Str.ofString "/claim/cut.py") 615)]), #[]⟩
noncomputable def o255 (P : Params) : Obj := ⟨(.type "function"), none, (.func (fdOf (topAt 14) (Str.ofString "_siftup") [] .none .none .none (.str (Str.ofString "cpy313.heapq") 541) none (.ref 254) .none)), #[]⟩
noncomputable def o261 (P : Params) : Obj := ⟨(.type "code"), none, (.fields #[(.str (Str.ofString "_siftdown_max") 617), (.str (Str.ofString "_siftdown_max") 618), (.str (Str.ofString "/claim/cut.py") 619), (.int (146) 0), (.int (3) 0), (.int (0) 0), (.int (0) 0), (.int (3) 0), (.ref 256), (.bool true), (.int (273) 0), (.ref 257), .none, (.ref 258), (.ref 259), (.ref 260), (.int (626) 0), (.int (146) 0), (.str (Str.ofString "/claim/cut.py") 627)]), #[]⟩
noncomputable def o262 (P : Params) : Obj := ⟨(.type "function"), none, (.func (fdOf (topAt 15) (Str.ofString "_siftdown_max") [] .none .none (.str (docS (topAt 15)) 628) (.str (Str.ofString "cpy313.heapq") 541) none (.ref 261) .none)), #[]⟩
noncomputable def o268 (P : Params) : Obj := ⟨(.type "code"), none, (.fields #[(.str (Str.ofString "_siftup_max") 630), (.str (Str.ofString "_siftup_max") 631), (.str (Str.ofString "/claim/cut.py") 632), (.int (158) 0), (.int (2) 0), (.int (0) 0), (.int (0) 0), (.int (3) 0), (.ref 263), (.bool true), (.int (273) 0), (.ref 264), .none, (.ref 265), (.ref 266), (.ref 267), (.int (640) 0), (.int (158) 0), (.str (Str.ofString "/claim/cut.py") 641)]), #[]⟩
noncomputable def o269 (P : Params) : Obj := ⟨(.type "function"), none, (.func (fdOf (topAt 16) (Str.ofString "_siftup_max") [] .none .none (.str (docS (topAt 16)) 642) (.str (Str.ofString "cpy313.heapq") 541) none (.ref 268) .none)), #[]⟩
noncomputable def o270 (P : Params) : Obj := ⟨(.type "tuple"), none, (.seq #[.none] 0), #[]⟩
noncomputable def o274 (P : Params) : Obj := ⟨(.type "code"), none, (.fields #[(.str (Str.ofString "nsmallest") 644), (.str (Str.ofString "nsmallest") 645), (.str (Str.ofString "/claim/cut.py") 646), (.int (173) 0), (.int (3) 0), (.int (0) 0), (.int (0) 0), (.int (3) 0), (.ref 271), (.bool true), (.int (273) 0), (.ref 272), .none, .none, .none, (.ref 273), (.int (647) 0), (.int (173) 0), (.str (Str.ofString "/claim/cut.py") 648)]), #[]⟩
noncomputable def o275 (P : Params) : Obj := ⟨(.type "function"), none, (.func (fdOf (topAt 17) (Str.ofString "nsmallest") [] (.ref 270) .none (.str (docS (topAt 17)) 649) (.str (Str.ofString "cpy313.heapq") 541) none (.ref 274) .none)), #[]⟩
noncomputable def o281 (P : Params) : Obj := ⟨(.type "code"), none, (.fields #[(.str (Str.ofString "_law_line") 653), (.str (Str.ofString "_law_line") 654), (.str (Str.ofString "/claim/cut.py") 655), (.int (223) 0), (.int (1) 0), (.int (0) 0), (.int (0) 0), (.int (3) 0), (.ref 276), (.bool true), (.int (273) 0), (.ref 277), .none, (.ref 278), (.ref 279), (.ref 280), (.int (660) 0), (.int (223) 0), (.str (Str.ofString "/claim/cut.py") 661)]), #[]⟩
noncomputable def o282 (P : Params) : Obj := ⟨(.type "function"), none, (.func (fdOf (topAt 19) (Str.ofString "_law_line") [] .none .none .none (.str (Str.ofString "law_in0192_01") 651) none (.ref 281) .none)), #[]⟩
noncomputable def o286 (P : Params) : Obj := ⟨(.type "code"), none, (.fields #[(.str (Str.ofString "_law_bare") 663), (.str (Str.ofString "_law_bare") 664), (.str (Str.ofString "/claim/cut.py") 665), (.int (228) 0), (.int (1) 0), (.int (0) 0), (.int (0) 0), (.int (3) 0), (.ref 283), (.bool true), (.int (273) 0), (.ref 284), .none, .none, .none, (.ref 285), (.int (666) 0), (.int (228) 0), (.str (Str.ofString "/claim/cut.py") 667)]), #[]⟩
noncomputable def o287 (P : Params) : Obj := ⟨(.type "function"), none, (.func (fdOf (topAt 20) (Str.ofString "_law_bare") [] .none .none .none (.str (Str.ofString "law_in0192_01") 651) none (.ref 286) .none)), #[]⟩
noncomputable def o291 (P : Params) : Obj := ⟨(.type "code"), none, (.fields #[(.str (Str.ofString "_law_read") 669), (.str (Str.ofString "_law_read") 670), (.str (Str.ofString "/claim/cut.py") 671), (.int (231) 0), (.int (1) 0), (.int (0) 0), (.int (0) 0), (.int (3) 0), (.ref 288), (.bool true), (.int (273) 0), (.ref 289), .none, .none, .none, (.ref 290), (.int (672) 0), (.int (231) 0), (.str (Str.ofString "/claim/cut.py") 673)]), #[]⟩
noncomputable def o292 (P : Params) : Obj := ⟨(.type "function"), none, (.func (fdOf (topAt 21) (Str.ofString "_law_read") [] .none .none .none (.str (Str.ofString "law_in0192_01") 651) none (.ref 291) .none)), #[]⟩
noncomputable def o298 (P : Params) : Obj := ⟨(.type "code"), none, (.fields #[(.str (Str.ofString "_law_parsed") 675), (.str (Str.ofString "_law_parsed") 676), (.str (Str.ofString "/claim/cut.py") 677), (.int (236) 0), (.int (1) 0), (.int (0) 0), (.int (0) 0), (.int (3) 0), (.ref 293), (.bool true), (.int (273) 0), (.ref 294), .none, (.ref 295), (.ref 296), (.ref 297), (.int (679) 0), (.int (236) 0), (.str (Str.ofString "/claim/cut.py") 680)]), #[]⟩
noncomputable def o299 (P : Params) : Obj := ⟨(.type "function"), none, (.func (fdOf (topAt 22) (Str.ofString "_law_parsed") [] .none .none .none (.str (Str.ofString "law_in0192_01") 651) none (.ref 298) .none)), #[]⟩
noncomputable def o303 (P : Params) : Obj := ⟨(.type "code"), none, (.fields #[(.str (Str.ofString "_law_good") 682), (.str (Str.ofString "_law_good") 683), (.str (Str.ofString "/claim/cut.py") 684), (.int (241) 0), (.int (1) 0), (.int (0) 0), (.int (0) 0), (.int (3) 0), (.ref 300), (.bool true), (.int (273) 0), (.ref 301), .none, .none, .none, (.ref 302), (.int (685) 0), (.int (241) 0), (.str (Str.ofString "/claim/cut.py") 686)]), #[]⟩
noncomputable def o304 (P : Params) : Obj := ⟨(.type "function"), none, (.func (fdOf (topAt 23) (Str.ofString "_law_good") [] .none .none .none (.str (Str.ofString "law_in0192_01") 651) none (.ref 303) .none)), #[]⟩
noncomputable def o310 (P : Params) : Obj := ⟨(.type "code"), none, (.fields #[(.str (Str.ofString "_law_run") 688), (.str (Str.ofString "_law_run") 689), (.str (Str.ofString "/claim/cut.py") 690), (.int (243) 0), (.int (2) 0), (.int (0) 0), (.int (0) 0), (.int (3) 0), (.ref 305), (.bool true), (.int (273) 0), (.ref 306), .none, (.ref 307), (.ref 308), (.ref 309), (.int (694) 0), (.int (243) 0), (.str (Str.ofString "/claim/cut.py") 695)]), #[]⟩
noncomputable def o311 (P : Params) : Obj := ⟨(.type "function"), none, (.func (fdOf (topAt 24) (Str.ofString "_law_run") [] .none .none .none (.str (Str.ofString "law_in0192_01") 651) none (.ref 310) .none)), #[]⟩
noncomputable def o315 (P : Params) : Obj := ⟨(.type "code"), none, (.fields #[(.str (Str.ofString "_law_by_heaps") 697), (.str (Str.ofString "_law_by_heaps") 698), (.str (Str.ofString "/claim/cut.py") 699), (.int (248) 0), (.int (2) 0), (.int (0) 0), (.int (0) 0), (.int (3) 0), (.ref 312), (.bool true), (.int (273) 0), (.ref 313), .none, .none, .none, (.ref 314), (.int (700) 0), (.int (248) 0), (.str (Str.ofString "/claim/cut.py") 701)]), #[]⟩
noncomputable def o316 (P : Params) : Obj := ⟨(.type "function"), none, (.func (fdOf (topAt 25) (Str.ofString "_law_by_heaps") [] .none .none .none (.str (Str.ofString "law_in0192_01") 651) none (.ref 315) .none)), #[]⟩
noncomputable def o320 (P : Params) : Obj := ⟨(.type "code"), none, (.fields #[(.str (Str.ofString "_law_by_book") 703), (.str (Str.ofString "_law_by_book") 704), (.str (Str.ofString "/claim/cut.py") 705), (.int (264) 0), (.int (2) 0), (.int (0) 0), (.int (0) 0), (.int (3) 0), (.ref 317), (.bool true), (.int (273) 0), (.ref 318), .none, .none, .none, (.ref 319), (.int (706) 0), (.int (264) 0), (.str (Str.ofString "/claim/cut.py") 707)]), #[]⟩
noncomputable def o321 (P : Params) : Obj := ⟨(.type "function"), none, (.func (fdOf (topAt 26) (Str.ofString "_law_by_book") [] .none .none .none (.str (Str.ofString "law_in0192_01") 651) none (.ref 320) .none)), #[]⟩
noncomputable def o325 (P : Params) : Obj := ⟨(.type "code"), none, (.fields #[(.str (Str.ofString "_law_due_rows") 709), (.str (Str.ofString "_law_due_rows") 710), (.str (Str.ofString "/claim/cut.py") 711), (.int (272) 0), (.int (2) 0), (.int (0) 0), (.int (0) 0), (.int (3) 0), (.ref 322), (.bool true), (.int (273) 0), (.ref 323), .none, .none, .none, (.ref 324), (.int (712) 0), (.int (272) 0), (.str (Str.ofString "/claim/cut.py") 713)]), #[]⟩
noncomputable def o326 (P : Params) : Obj := ⟨(.type "function"), none, (.func (fdOf (topAt 27) (Str.ofString "_law_due_rows") [] .none .none .none (.str (Str.ofString "law_in0192_01") 651) none (.ref 325) .none)), #[]⟩
noncomputable def o330 (P : Params) : Obj := ⟨(.type "code"), none, (.fields #[(.str (Str.ofString "_law_due_alone") 715), (.str (Str.ofString "_law_due_alone") 716), (.str (Str.ofString "/claim/cut.py") 717), (.int (274) 0), (.int (2) 0), (.int (0) 0), (.int (0) 0), (.int (3) 0), (.ref 327), (.bool true), (.int (273) 0), (.ref 328), .none, .none, .none, (.ref 329), (.int (718) 0), (.int (274) 0), (.str (Str.ofString "/claim/cut.py") 719)]), #[]⟩
noncomputable def o331 (P : Params) : Obj := ⟨(.type "function"), none, (.func (fdOf (topAt 28) (Str.ofString "_law_due_alone") [] .none .none .none (.str (Str.ofString "law_in0192_01") 651) none (.ref 330) .none)), #[]⟩
noncomputable def o335 (P : Params) : Obj := ⟨(.type "code"), none, (.fields #[(.str (Str.ofString "_law_due_few") 721), (.str (Str.ofString "_law_due_few") 722), (.str (Str.ofString "/claim/cut.py") 723), (.int (278) 0), (.int (2) 0), (.int (0) 0), (.int (0) 0), (.int (3) 0), (.ref 332), (.bool true), (.int (273) 0), (.ref 333), .none, .none, .none, (.ref 334), (.int (724) 0), (.int (278) 0), (.str (Str.ofString "/claim/cut.py") 725)]), #[]⟩
noncomputable def o336 (P : Params) : Obj := ⟨(.type "function"), none, (.func (fdOf (topAt 29) (Str.ofString "_law_due_few") [] .none .none .none (.str (Str.ofString "law_in0192_01") 651) none (.ref 335) .none)), #[]⟩
noncomputable def o342 (P : Params) : Obj := ⟨(.type "code"), none, (.fields #[(.str (Str.ofString "_law_due_names") 727), (.str (Str.ofString "_law_due_names") 728), (.str (Str.ofString "/claim/cut.py") 729), (.int (280) 0), (.int (1) 0), (.int (0) 0), (.int (0) 0), (.int (3) 0), (.ref 337), (.bool true), (.int (273) 0), (.ref 338), .none, (.ref 339), (.ref 340), (.ref 341), (.int (734) 0), (.int (280) 0), (.str (Str.ofString "/claim/cut.py") 735)]), #[]⟩
noncomputable def o343 (P : Params) : Obj := ⟨(.type "function"), none, (.func (fdOf (topAt 30) (Str.ofString "_law_due_names") [] .none .none .none (.str (Str.ofString "law_in0192_01") 651) none (.ref 342) .none)), #[]⟩
noncomputable def o347 (P : Params) : Obj := ⟨(.type "code"), none, (.fields #[(.str (Str.ofString "_law_joined") 737), (.str (Str.ofString "_law_joined") 738), (.str (Str.ofString "/claim/cut.py") 739), (.int (286) 0), (.int (4) 0), (.int (0) 0), (.int (0) 0), (.int (3) 0), (.ref 344), (.bool true), (.int (273) 0), (.ref 345), .none, .none, .none, (.ref 346), (.int (740) 0), (.int (286) 0), (.str (Str.ofString "/claim/cut.py") 741)]), #[]⟩
noncomputable def o348 (P : Params) : Obj := ⟨(.type "function"), none, (.func (fdOf (topAt 31) (Str.ofString "_law_joined") [] .none .none .none (.str (Str.ofString "law_in0192_01") 651) none (.ref 347) .none)), #[]⟩
noncomputable def o352 (P : Params) : Obj := ⟨(.type "code"), none, (.fields #[(.str (Str.ofString "law") 743), (.str (Str.ofString "law") 744), (.str (Str.ofString "/claim/cut.py") 745), (.int (293) 0), (.int (1) 0), (.int (0) 0), (.int (0) 0), (.int (3) 0), (.ref 349), (.bool true), (.int (273) 0), (.ref 350), .none, .none, .none, (.ref 351), (.int (746) 0), (.int (293) 0), (.str (Str.ofString "/claim/cut.py") 747)]), #[]⟩
noncomputable def o353 (P : Params) : Obj := ⟨(.type "function"), none, (.func (fdOf (topAt 32) (Str.ofString "law") [] .none .none .none (.str (Str.ofString "law_in0192_01") 651) none (.ref 352) .none)), #[]⟩
noncomputable def o2 (P : Params) : Obj := ⟨.none, none, (.dict #[⟨PyData.keyHash P (Str.ofString "\x69mport.loaded._collections"), (.str (Str.ofString "\x69mport.loaded._collections") 185), (.bool true)⟩, ⟨PyData.keyHash P (Str.ofString "class._frozen_importlib.BuiltinImporter"), (.str (Str.ofString "class._frozen_importlib.BuiltinImporter") 187), (.ref 15)⟩, ⟨PyData.keyHash P (Str.ofString "watched.\x69mport"), (.str (Str.ofString "watched.\x69mport") 208), (.ref 19)⟩, ⟨PyData.keyHash P (Str.ofString "class._frozen_importlib.ModuleSpec"), (.str (Str.ofString "class._frozen_importlib.ModuleSpec") 218), (.ref 23)⟩, ⟨PyData.keyHash P (Str.ofString "sys.modules.booked-epoch"), (.str (Str.ofString "sys.modules.booked-epoch") 247), (.int (3) 0)⟩, ⟨PyData.keyHash P (Str.ofString "sys.modules.landed._collections"), (.str (Str.ofString "sys.modules.landed._collections") 248), (.bool true)⟩, ⟨PyData.keyHash P (Str.ofString "\x69mport.later-laid._collections"), (.str (Str.ofString "\x69mport.later-laid._collections") 263), (.bool true)⟩, ⟨PyData.keyHash P (Str.ofString "watched.library"), (.str (Str.ofString "watched.library") 265), (.ref 28)⟩, ⟨PyData.keyHash P (Str.ofString "watched.library-objects"), (.str (Str.ofString "watched.library-objects") 0), (.str (Str.ofString "\x0d") 0)⟩, ⟨PyData.keyHash P (Str.ofString "watched.library-deep._collections"), (.str (Str.ofString "watched.library-deep._collections") 266), (.str (Str.ofString "\x04\x00\x00\x0c\x04\x00\x00\x0c\x04\x00\x00\x03\x04\x00\x00\x0c\x08\x04dict\x02") 0)⟩, ⟨PyData.keyHash P (Str.ofString "type.__subclasses__.collections.defaultdict.0"), (.str (Str.ofString "type.__subclasses__.collections.defaultdict.0") 384), (.int (108) 0)⟩, ⟨PyData.keyHash P (Str.ofString "type.__subclasses__.collections.defaultdict.n"), (.str (Str.ofString "type.__subclasses__.collections.defaultdict.n") 385), (.int (1) 0)⟩] 12), #[]⟩
noncomputable def K (P : Params) : Frag := [(3, o3 P), (54, o54 P), (60, o60 P), (61, o61 P), (77, o77 P), (78, o78 P), (86, o86 P), (91, o91 P), (97, o97 P), (98, o98 P), (104, o104 P), (105, o105 P), (107, o107 P), (108, o108 P), (109, o109 P), (129, o129 P), (130, o130 P), (171, o171 P), (172, o172 P), (174, o174 P), (175, o175 P), (179, o179 P), (180, o180 P), (181, o181 P), (196, o196 P), (197, o197 P), (198, o198 P), (199, o199 P), (202, o202 P), (203, o203 P), (204, o204 P), (212, o212 P), (213, o213 P), (219, o219 P), (220, o220 P), (226, o226 P), (227, o227 P), (233, o233 P), (234, o234 P), (240, o240 P), (241, o241 P), (247, o247 P), (248, o248 P), (254, o254 P), (255, o255 P), (261, o261 P), (262, o262 P), (268, o268 P), (269, o269 P), (270, o270 P), (274, o274 P), (275, o275 P), (281, o281 P), (282, o282 P), (286, o286 P), (287, o287 P), (291, o291 P), (292, o292 P), (298, o298 P), (299, o299 P), (303, o303 P), (304, o304 P), (310, o310 P), (311, o311 P), (315, o315 P), (316, o316 P), (320, o320 P), (321, o321 P), (325, o325 P), (326, o326 P), (330, o330 P), (331, o331 P), (335, o335 P), (336, o336 P), (342, o342 P), (343, o343 P), (347, o347 P), (348, o348 P), (352, o352 P), (353, o353 P)]
noncomputable def Kas : List Addr := [3, 54, 60, 61, 77, 78, 86, 91, 97, 98, 104, 105, 107, 108, 109, 129, 130, 171, 172, 174, 175, 179, 180, 181, 196, 197, 198, 199, 202, 203, 204, 212, 213, 219, 220, 226, 227, 233, 234, 240, 241, 247, 248, 254, 255, 261, 262, 268, 269, 270, 274, 275, 281, 282, 286, 287, 291, 292, 298, 299, 303, 304, 310, 311, 315, 316, 320, 321, 325, 326, 330, 331, 335, 336, 342, 343, 347, 348, 352, 353]
noncomputable def K2 (P : Params) : Frag := (2, o2 P) :: K P
noncomputable def Kas2 : List Addr := 2 :: Kas
end Mine
open PySem PySem.W PyProof.Rows
set_option maxRecDepth 1000000
set_option maxHeartbeats 0
namespace Mine
noncomputable def keep : List Nat := [0,1,3,4,5,6,8,9,10,11,12,13,14,15,16,19,20,21,22,23,24,25,26,27,28,29,30,31,32]
noncomputable def q : Program := view PySem.Challenge.pw_in0192_01 keep
noncomputable def loose : List Str := [Str.ofString "_tuplegetter", Str.ofString "Pair", Str.ofString "nsmallest"]
/-! ## the top's run on a heap that is a tree -/
theorem brec_some {β : Type} {b : Bool} {x : Option β} {y : β} (h : @Bool.rec (fun _ => Option β) none x b = some y) : b = true ∧ x = some y := by
  cases b
  · cases h
  · exact ⟨rfl, h⟩
noncomputable def plantT : List Obj → BT → Nat → Option BT
  | [], t, _ => some t
  | o :: r, t, n => match ((t.ins n o).get n).isSome with
    | true => plantT r (t.ins n o) (n + 1)
    | false => none
theorem plantT_spec {life : Life} : ∀ (l : List Obj) {t t' : BT} {n : Nat}, plantT l t n = some t' → absHeap t' (n + l.length) life = ⟨((absHeap t n life).objs.toList ++ l).toArray, life⟩
  | [], t, t', n, h => by
    cases h
    rw [List.append_nil, Array.toArray_toList]; rfl
  | o :: r, t, t', n, h => by
    unfold plantT at h
    cases e : ((t.ins n o).get n).isSome with
    | false => rw [e] at h; cases h
    | true =>
      rw [e] at h
      have := plantT_spec (life := life) r h
      rw [absHeap_ins e] at this
      rw [List.length_cons, show n + (r.length + 1) = n + 1 + r.length by omega, this]
      simp [Heap.push]
noncomputable def topRunT (st : SharedT → Thread → Option (SharedT × Thread)) (thr ok : Thread → Bool) (n : Nat) : SharedT → Thread → Option SharedT :=
  @Nat.rec (fun _ => SharedT → Thread → Option SharedT) (fun _ _ => none)
    (fun _ ih s t => @Bool.rec (fun _ => Option SharedT) (@Bool.rec (fun _ => Option SharedT) none (@Option.rec _ (fun _ => Option SharedT) none (fun r => @Prod.rec _ _ (fun _ => Option SharedT) (fun s' t' => ih s' t') r) (st s t)) (ok t)) (some s) (thr t)) n
theorem topRunT_succ (st : SharedT → Thread → Option (SharedT × Thread)) (thr ok : Thread → Bool) (n : Nat) (s : SharedT) (t : Thread) : topRunT st thr ok (n + 1) s t = @Bool.rec (fun _ => Option SharedT) (@Bool.rec (fun _ => Option SharedT) none ((st s t).bind fun r => topRunT st thr ok n r.1 r.2) (ok t)) (some s) (thr t) := by
  show @Bool.rec _ _ _ (thr t) = _
  cases st s t <;> rfl
theorem topRunT_of {tb : String → Option Builtin} {p : Program} {w : World} {n₀ : Nat} {ann : Option Value} (n : Nat) : ∀ {s s' : SharedT} {t : Thread}, topRunT (stepT (denote tb) p w) through (stepOk n₀ ann) n s t = some s' → topRun tb p w n₀ ann n s.abs t = some s'.abs := by
  induction n with
  | zero => intro s s' t h; cases h
  | succ n ih =>
    intro s s' t h
    rw [topRunT_succ] at h
    unfold topRun
    cases h1 : through t with
    | true => rw [h1] at h; cases h; rfl
    | false =>
      rw [h1] at h
      obtain ⟨h2, h⟩ := brec_some h
      obtain ⟨r, h3, h⟩ := Option.bind_eq_some_iff.mp h
      rw [h2, stepT_spec (s' := r.1) (t' := r.2) h3]
      exact ih h
noncomputable def runF {β : Type} (p : Program) (N : Nat) (f : Shared → β) (w : World) : Option β :=
  (fencedOpening treeTable p w N).bind fun s₀ => (plantT s₀.heap.objs.toList .nil 0).bind fun t₀ =>
    @Bool.rec (fun _ => Option β) none ((topRunT (stepT (denote treeTable) p w) through (stepOk s₀.heap.objs.size (s₀.heap.nsMap mainGlobals "__annotations__")) N ⟨t₀, 0 + s₀.heap.objs.toList.length, s₀.heap.life, s₀.gens, s₀.drawn, s₀.toks, s₀.os⟩ (topStub p)).bind fun t₁ =>
      @Bool.rec (fun _ => Option β) none (some (f t₁.abs)) (staticsOk (importedModules p.main.body) s₀.heap t₁.abs.heap && namesBound p t₁.abs.heap && gensDone t₁.abs && laidKept s₀.heap t₁.abs.heap)) (s₀.heap.isNs mainGlobals && s₀.gens.size == 0)
theorem plant_abs {s₀ : Shared} {t₀ : BT} (e : plantT s₀.heap.objs.toList .nil 0 = some t₀) : SharedT.abs ⟨t₀, 0 + s₀.heap.objs.toList.length, s₀.heap.life, s₀.gens, s₀.drawn, s₀.toks, s₀.os⟩ = s₀ := by
  unfold SharedT.abs
  rw [plantT_spec _ e]
  rfl
theorem runF_spec {β : Type} {p : Program} {N : Nat} {f : Shared → β} {w : World} {x : β} (h : runF p N f w = some x) : (openEnds treeTable p w N).map f = some x := by
  obtain ⟨s₀, e0, h⟩ := Option.bind_eq_some_iff.mp h
  obtain ⟨t₀, e1, h⟩ := Option.bind_eq_some_iff.mp h
  obtain ⟨e2, h⟩ := brec_some h
  obtain ⟨t₁, e3, h⟩ := Option.bind_eq_some_iff.mp h
  obtain ⟨e5, h⟩ := brec_some h
  have e4 := topRunT_of N e3
  rw [plant_abs e1] at e4
  have e6 : openEnds treeTable p w N = some t₁.abs := by
    unfold openEnds topFrom
    rw [e0]
    simp only [Option.bind_some, e2, e4, e5]
  rw [e6]
  exact h
theorem left : LeftO PySem.Challenge.pw_in0192_01 q loose (fun s => xlAt q [] s && recOk [] s) (kmHook K2 Kas2 (fun _ => rfl) [100]).obs (kmHook K2 Kas2 (fun _ => rfl) [100]).val 5448 := by
  intro w
  refine runF_spec ?_
  unfold runF fencedOpening q
  rw [PySem.W.Fast.te10274390034422433532, PySem.W.Fast.te14289696077712309145, PySem.W.Fast.te10156331382660048174, PySem.W.Fast.te11892475500146522536, PySem.W.Fast.te6613529449190102663, PySem.W.Fast.te4187177175401517315, PySem.W.Fast.te1435165496053646825, PySem.W.Fast.te14364793385576792824]
  kernel_rfl
/-- the law is well said: each look by itself -/
theorem said0 : PySem.Challenge.rw_in0192_01.wellSaid = true := by
  unfold OpenLaw.wellSaid OpenRow.wellSaid OpenRow.partSaid looksOpen
  repeat' with_reducible refine look_both ?_ ?_
  all_goals decide +kernel
end Mine
open PySem PySem.W PyProof.Rows PySem.Calls
set_option maxRecDepth 100000
set_option maxHeartbeats 4000000
set_option linter.unusedVariables false
namespace Mine
/-! a branch taken -/
theorem ift {p q : Prop} (h : p) : if true = true then p else q := h
theorem iff0 {p q : Prop} (h : q) : if false = true then p else q := h
theorem if_p {c p q : Prop} [Decidable c] (hc : c) (h : p) : if c then p else q := by rw [if_pos hc]; exact h
theorem if_n {c p q : Prop} [Decidable c] (hc : ¬ c) (h : q) : if c then p else q := by rw [if_neg hc]; exact h
noncomputable abbrev nx (a : Addr) : Addr := a + 1
/-! membership in short lists, by terms -/
theorem nin0 {β : Type} {a : β} : a ∉ ([] : List β) := fun h => nomatch h
theorem ninc {β : Type} {a b : β} {l : List β} (h : a ≠ b) (k : a ∉ l) : a ∉ b :: l := fun q => (List.mem_cons.mp q).elim h k
theorem nin1 {β : Type} {a b : β} (h : a ≠ b) : a ∉ [b] := ninc h nin0
theorem alln {β : Type} {Q : β → Prop} : ∀ p ∈ ([] : List β), Q p := fun _ h => nomatch h
theorem allc {β : Type} {Q : β → Prop} {a : β} {l : List β} (h : Q a) (k : ∀ p ∈ l, Q p) : ∀ p ∈ a :: l, Q p := fun p hp => (List.mem_cons.mp hp).elim (fun e => e ▸ h) (k p)
theorem sub0 {β : Type} {l : List β} : ∀ p ∈ ([] : List β), p ∈ l := alln
theorem subc {β : Type} {a : β} {l m : List β} (h : a ∈ m) (k : ∀ p ∈ l, p ∈ m) : ∀ p ∈ a :: l, p ∈ m := allc h k
/-! ## effects: a tree run from a heap, its value and the heap behind it; no raise; tokens are let go -/
noncomputable def Ev {α : Type} (M : Model) (A : Around) (t : Sem α) (h : Heap) (P : α → Heap → Prop) : Prop :=
  ∀ (E : Value → Shared → Prop) (Q : α → Shared → Prop) (s : Shared), s.heap = h → (∀ a h' tk, P a h' → Q a { s with heap := h', toks := tk }) → wpAny M A t Q E s
noncomputable def CEv (M : Model) (A : Around) (c : Code) (h : Heap) (P : Value → Heap → Prop) : Prop :=
  ∀ (R : Result → Shared → Prop) (s : Shared), s.heap = h → (∀ v h' tk, P v h' → R (.ok (.ret v)) { s with heap := h', toks := tk }) → codeAny M A c R s
noncomputable abbrev Kp (h h' : Heap) : Prop := ∀ b o, h.get? b = some o → h'.get? b = some o
noncomputable def Only (T : List Addr) (h h' : Heap) : Prop := ∀ b o, b ∉ T → h.get? b = some o → h'.get? b = some o
theorem Only.refl {T : List Addr} {h : Heap} : Only T h h := fun _ _ _ e => e
theorem Only.trans {T : List Addr} {h h' h'' : Heap} (x : Only T h h') (y : Only T h' h'') : Only T h h'' := fun b o n e => y b o n (x b o n e)
theorem Only.of_kp {T : List Addr} {h h' : Heap} (x : Kp h h') : Only T h h' := fun b o _ e => x b o e
theorem Only.kp {h h' : Heap} (x : Only [] h h') : Kp h h' := fun b o e => x b o (by simp) e
theorem Only.sub {T T' : List Addr} {h h' : Heap} (x : Only T h h') (k : ∀ b, b ∈ T → b ∈ T') : Only T' h h' := fun b o n e => x b o (fun q => n (k b q)) e
section
variable {α β : Type} {M : Model} {A : Around} {h : Heap}
theorem Ev.mono {t : Sem α} {P P' : α → Heap → Prop} (x : Ev M A t h P) (k : ∀ a h', P a h' → P' a h') : Ev M A t h P' :=
  fun E Q s hs hQ => x E Q s hs fun a h' tk p => hQ a h' tk (k a h' p)
theorem Ev.pure {a : α} {P : α → Heap → Prop} (p : P a h) : Ev M A (pure a) h P := by
  intro E Q s hs hQ
  subst hs
  exact wpAny_pure (hQ a s.heap s.toks p)
theorem Ev.bind {t : Sem α} {f : α → Sem β} {P : β → Heap → Prop} (x : Ev M A t h fun a h' => Ev M A (f a) h' P) : Ev M A (t >>= f) h P :=
  fun E Q s hs hQ => wpAny_bind (x E _ s hs fun a h' tk y => y E Q _ rfl fun b h'' tk' p => hQ b h'' tk' p)
theorem Ev.holding {vs : List Value} {t : Sem α} {P : α → Heap → Prop} (x : Ev M A t h P) : Ev M A (holding vs t) h P :=
  fun E Q s hs hQ => wpAny_holding (x E Q s hs hQ)
theorem Ev.standAt {pos : Pos} {P : Unit → Heap → Prop} (p : P () h) : Ev M A (standAt pos) h P := by
  intro E Q s hs hQ; subst hs; exact wpAny_standAt (hQ _ _ s.toks p)
theorem Ev.rule {tag : String} {P : Unit → Heap → Prop} (p : P () h) : Ev M A (rule tag) h P := by
  intro E Q s hs hQ; subst hs; exact wpAny_rule (hQ _ _ s.toks p)
theorem Ev.point {P : Unit → Heap → Prop} (p : P () h) : Ev M A point h P := by
  intro E Q s hs hQ; subst hs; exact wpAny_point (hQ _ _ s.toks p)
theorem Ev.looks {t : Sem α} {r : α} {P : α → Heap → Prop} (x : Looks M h t r) (p : P r h) : Ev M A t h P := by
  intro E Q s hs hQ; subst hs; exact x.here (hQ _ _ s.toks p)
theorem Ev.eq {t t' : Sem α} {P : α → Heap → Prop} (e : t = t') (x : Ev M A t' h P) : Ev M A t h P := e ▸ x
theorem Ev.load {a : Addr} {o : Obj} {P : Obj → Heap → Prop} (ho : h.get? a = some o) (p : P o h) : Ev M A (load a) h P := by
  intro E Q s hs hQ; subst hs; exact wpAny_load ho (hQ _ _ s.toks p)
theorem Ev.loadPart {a : Addr} {part : Option Value} {o : Obj} {P : Obj → Heap → Prop} (ho : h.get? a = some o) (p : P o h) : Ev M A (loadPart a part) h P := by
  intro E Q s hs hQ; subst hs; exact wpAny_loadPart ho (hQ _ _ s.toks p)
theorem Ev.updatePart {a : Addr} {part : Option Value} {f : Obj → Obj} {o : Obj} {P : Unit → Heap → Prop} (ho : h.get? a = some o) (p : P () (h.update a f)) : Ev M A (updatePart a part f) h P := by
  intro E Q s hs hQ; subst hs; exact wpAny_updatePart ho (hQ _ _ s.toks p)
theorem Ev.alloc {o : Obj} {P : Addr → Heap → Prop} (p : P h.objs.size (h.push o)) : Ev M A (alloc o) h P := by
  intro E Q s hs hQ; subst hs; exact wpAny_alloc (hQ _ _ s.toks p)
theorem Ev.mkInt {i : Int} {P : Value → Heap → Prop} (p : ∀ t, P (.int i t) h) : Ev M A (mkInt i) h P := by
  intro E Q s hs hQ; subst hs; exact wpAny_mkInt (hQ _ _ (s.toks + 1) (p _))
theorem Ev.mkText {x : Str} {P : Value → Heap → Prop} (p : ∀ t, P (.str x t) h) : Ev M A (mkText x) h P := by
  intro E Q s hs hQ; subst hs; exact wpAny_mkText (hQ _ _ (s.toks + 1) (p _))
theorem Ev.ask {P : Setting → Heap → Prop} (p : P ⟨M.prog, M.w.params⟩ h) : Ev M A ask h P := by
  intro E Q s hs hQ; subst hs; exact wpAny_askSetting (hQ _ _ s.toks p)
theorem Ev.attempt {t : Sem α} {P : Except Value α → Heap → Prop} (x : Ev M A t h fun a h' => P (.ok a) h') : Ev M A t.attempt h P :=
  fun E Q s hs hQ => wpAny_attempt (wpAny_mono (x (fun _ _ => False) _ s hs fun a h' tk p => hQ _ h' tk p) (fun _ _ y => y) fun _ _ f => f.elim)
theorem Ev.onRaise {t : Sem α} {k : Value → Sem Unit} {P : α → Heap → Prop} (x : Ev M A t h P) : Ev M A (t.onRaise k) h P :=
  fun E Q s hs hQ => wpAny_onRaise (wpAny_mono (x (fun _ _ => False) _ s hs fun a h' tk p => hQ _ h' tk p) (fun _ _ y => y) fun _ _ f => f.elim)
theorem Ev.tryCatch {t : Sem α} {k : Value → Sem α} {P : α → Heap → Prop} (x : Ev M A t h P) : Ev M A (tryCatch t k) h P :=
  fun E Q s hs hQ => wpAny_tryCatch (wpAny_mono (x (fun _ _ => False) _ s hs fun a h' tk p => hQ _ h' tk p) (fun _ _ y => y) fun _ _ f => f.elim)
theorem Ev.call {f : Value} {pos : List Value} {kw : List (Str × Value)} {P : Value → Heap → Prop} (x : CEv M A (.call f ⟨pos, kw⟩) h P) : Ev M A (call f pos kw) h P :=
  fun E Q s hs hQ => wpAny_call (x _ s hs fun v h' tk p => hQ v h' tk p)
theorem Ev.runValue {c : Code} {P : Value → Heap → Prop} (x : CEv M A c h P) : Ev M A (runValue c) h P :=
  fun E Q s hs hQ => wpAny_runValue (x _ s hs fun v h' tk p => hQ v h' tk p)
theorem CEv.mono {c : Code} {P P' : Value → Heap → Prop} (x : CEv M A c h P) (k : ∀ a h', P a h' → P' a h') : CEv M A c h P' :=
  fun R s hs hQ => x R s hs fun a h' tk p => hQ a h' tk (k a h' p)
theorem Ev.release {vs keep : List Value} {P : Unit → Heap → Prop} (p : P () h) : Ev M A (release vs keep) h P := by
  intro E Q s hs hQ; subst hs
  intro Γ p' hΓ
  rw [Sem.wp_release]
  exact hQ _ _ s.toks p
theorem Ev.operate {vs : List Value} {t : Sem Value} {P : Value → Heap → Prop} (x : Ev M A t h P) : Ev M A (operate vs t) h P := by
  unfold PySem.operate
  exact Ev.bind (Ev.holding (x.mono fun r h' p => Ev.bind (Ev.release (P := fun _ h'' => Ev M A (Pure.pure r) h'' P) (Ev.pure p))))
end
/-! ## what is still to do, by name (the terms stay small) -/
noncomputable abbrev KAsg (M : Model) (A : Around) (env : Env) (x : Str) (P : Flow → Heap → Prop) : Value → Heap → Prop := fun v h' => Ev M A (storeName env x v) h' fun _ => P .next
noncomputable abbrev KSeq (M : Model) (A : Around) (env : Env) (rest : List Stmt) (P : Flow → Heap → Prop) : Flow → Heap → Prop := fun f h' => match f with | .next => Ev M A (execs rest env) h' P | f => P f h'
noncomputable abbrev KRet (P : Flow → Heap → Prop) : Value → Heap → Prop := fun v => P (.ret v)
noncomputable abbrev KOp2 (M : Model) (A : Around) (op : Operator) (a : Value) (P : Value → Heap → Prop) : Value → Heap → Prop := fun b h2 => Ev M A (binaryOp op a b) h2 P
noncomputable abbrev KOp (M : Model) (A : Around) (env : Env) (r : Expr) (op : Operator) (P : Value → Heap → Prop) : Value → Heap → Prop := fun a h1 => Ev M A (eval r env) h1 (KOp2 M A op a P)
noncomputable abbrev KCm2 (M : Model) (A : Around) (op : CmpOp) (a : Value) (P : Value → Heap → Prop) : Value → Heap → Prop := fun b h2 => Ev M A (compareOp op a b) h2 P
noncomputable abbrev KCm (M : Model) (A : Around) (env : Env) (r : Expr) (op : CmpOp) (P : Value → Heap → Prop) : Value → Heap → Prop := fun a h1 => Ev M A (eval r env) h1 (KCm2 M A op a P)
noncomputable abbrev KTr (M : Model) (A : Around) (P : Bool → Heap → Prop) : Value → Heap → Prop := fun c h3 => Ev M A (truthy c) h3 P
noncomputable abbrev KNot (P : Bool → Heap → Prop) : Bool → Heap → Prop := fun b => P (!b)
noncomputable abbrev KAug (M : Model) (A : Around) (env : Env) (x : Str) (value : Expr) (op : Operator) (P : Flow → Heap → Prop) : Value → Heap → Prop := fun old h1 => Ev M A (eval value env) h1 fun v h2 => Ev M A (inplaceOp op old v) h2 (KAsg M A env x P)
/-! ## statements, plain expressions -/
section
variable {M : Model} {A : Around} {h : Heap} {env : Env}
theorem ev_nil {P : Flow → Heap → Prop} (p : P .next h) : Ev M A (execs [] env) h P := Ev.pure p
theorem ev_cons {st : Stmt} {rest : List Stmt} {P : Flow → Heap → Prop}
    (x : Ev M A (exec st env) h (KSeq M A env rest P)) : Ev M A (execs (st :: rest) env) h P :=
  fun E Q s hs hQ => wpAny_execs_cons (x E _ s hs fun f h' tk y => by
    cases f <;> first | exact y E Q _ rfl fun b h'' tk' p => hQ b h'' tk' p | exact hQ _ _ _ y)
theorem ev_assign {x : Str} {pos' pos : Pos} {value : Expr} {P : Flow → Heap → Prop}
    (h1 : Ev M A (eval value env) h (KAsg M A env x P))
    (hs : swapsWith value (some (.Name x pos')) pos.line env = pure false := by rfl) : Ev M A (exec (.Assign [.Name x pos'] value pos) env) h P :=
  fun E Q s e hQ => wpAny_Assign_Name (h1 E _ s e fun v h' tk y => y E _ _ rfl fun _ h'' tk' p => hQ _ h'' tk' p) hs
theorem ev_augassign {x : Str} {pos' pos : Pos} {op : Operator} {value : Expr} {P : Flow → Heap → Prop}
    (h1 : Ev M A (loadName env x) h (KAug M A env x value op P)) :
    Ev M A (exec (.AugAssign (.Name x pos') op value pos) env) h P :=
  fun E Q s e hQ => wpAny_AugAssign_Name (h1 E _ s e fun v h' tk y => y E _ _ rfl fun _ h'' tk' z => z E _ _ rfl fun _ h3 tk3 u => u E _ _ rfl fun _ h4 tk4 p => hQ _ h4 tk4 p)
theorem ev_if {test : Expr} {body orelse : List Stmt} {pos : Pos} {P : Flow → Heap → Prop}
    (x : Ev M A (isTrue test env (eval test env)) h fun b h' => if b then Ev M A (execs body env) h' P else Ev M A (execs orelse env) h' P) : Ev M A (exec (.If test body orelse pos) env) h P :=
  fun E Q s e hQ => wpAny_If (x E _ s e fun b h' tk y => by
    cases b
    · simp only [Bool.false_eq_true, if_false] at y ⊢
      exact y E Q _ rfl fun _ h'' tk' p => hQ _ h'' tk' p
    · simp only [if_true] at y ⊢
      exact y E Q _ rfl fun _ h'' tk' p => hQ _ h'' tk' p)
theorem ev_return {e : Expr} {pos : Pos} {P : Flow → Heap → Prop} (x : Ev M A (eval e env) h (KRet P)) : Ev M A (exec (.Return (some e) pos) env) h P :=
  fun E Q s hs hQ => wpAny_Return_some (x E _ s hs fun v h' tk p => hQ _ h' tk p)
theorem ev_continue {pos : Pos} {P : Flow → Heap → Prop} (p : P .cont h) : Ev M A (exec (.Continue pos) env) h P := Ev.bind (Ev.standAt (Ev.pure p))
theorem ev_break {pos : Pos} {P : Flow → Heap → Prop} (p : P .brk h) : Ev M A (exec (.Break pos) env) h P := Ev.bind (Ev.standAt (Ev.pure p))
theorem ev_int {i : Int} {k : Nat} {pos : Pos} {P : Value → Heap → Prop} (p : ∀ t, P (.int i t) h) : Ev M A (eval (.Constant (.int i) k pos) env) h P := Ev.mkInt p
theorem ev_str {i : Str} {k : Nat} {pos : Pos} {P : Value → Heap → Prop} (p : ∀ t, P (.str i t) h) : Ev M A (eval (.Constant (.str i) k pos) env) h P := Ev.mkText p
theorem ev_none {k : Nat} {pos : Pos} {P : Value → Heap → Prop} (p : P .none h) : Ev M A (eval (.Constant .none k pos) env) h P := Ev.pure p
theorem ev_binop {l r : Expr} {op : Operator} {pos : Pos} {P : Value → Heap → Prop}
    (x : Ev M A (eval l env) h (KOp M A env r op P)) : Ev M A (eval (.BinOp l op r pos) env) h P :=
  fun E Q s e hQ => wpAny_BinOp (x E _ s e fun v h' tk y => y E _ _ rfl fun _ h'' tk' z => z E _ _ rfl fun _ h3 tk3 p => hQ _ h3 tk3 p)
theorem ev_compare {l r : Expr} {op : CmpOp} {pos : Pos} {P : Value → Heap → Prop}
    (x : Ev M A (eval l env) h (KCm M A env r op P))
    (hm : behindInMarks op r = false := by with_unfolding_all rfl) : Ev M A (eval (.Compare l [op] [r] pos) env) h P :=
  fun E Q s e hQ => wpAny_Compare1 (x E _ s e fun v h' tk y => y E _ _ rfl fun _ h'' tk' z => z E _ _ rfl fun _ h3 tk3 p => hQ _ h3 tk3 p) hm
theorem ev_isTrue_compare {l r : Expr} {op : CmpOp} {pos : Pos} {whole : Sem Value} {P : Bool → Heap → Prop}
    (x : Ev M A (eval l env) h (KCm M A env r op (KTr M A P)))
    (hm : behindInMarks op r = false := by with_unfolding_all rfl) : Ev M A (isTrue (.Compare l [op] [r] pos) env whole) h P :=
  fun E Q s e hQ => wpAny_isTrue_Compare1 (x E _ s e fun v h' tk y => y E _ _ rfl fun _ h'' tk' z => z E _ _ rfl fun _ h3 tk3 u => u E _ _ rfl fun _ h4 tk4 p => hQ _ h4 tk4 p) hm
theorem ev_truthy_bool {b : Bool} {P : Bool → Heap → Prop} (p : P b h) : Ev M A (truthy (.bool b)) h P := by
  intro E Q s hs hQ; subst hs; exact wpAny_truthy_bool (hQ _ _ s.toks p)
theorem ev_isTrue_not {x : Expr} {pos : Pos} {whole : Sem Value} {P : Bool → Heap → Prop} (y : Ev M A (isTrue x env (eval x env)) h (KNot P)) : Ev M A (isTrue (.UnaryOp .Not x pos) env whole) h P :=
  Ev.bind (y.mono fun b h' p => Ev.pure p)
theorem ev_isTrue_and {x y : Expr} {pos : Pos} {whole : Sem Value} {P : Bool → Heap → Prop}
    (z : Ev M A (isTrue x env (eval x env)) h fun b h' => if b then Ev M A (isTrue y env (eval y env)) h' P else P false h') : Ev M A (isTrue (.BoolOp .And [x, y] pos) env whole) h P := by
  refine Ev.bind (z.mono fun b h' u => ?_)
  cases b
  · exact Ev.pure u
  · simp only [if_true] at u
    refine Ev.bind (u.mono fun c h'' p => ?_)
    cases c <;> exact Ev.pure p
theorem ev_isTrue_or {x y : Expr} {pos : Pos} {whole : Sem Value} {P : Bool → Heap → Prop}
    (z : Ev M A (isTrue x env (eval x env)) h fun b h' => if b then P true h' else Ev M A (isTrue y env (eval y env)) h' P) : Ev M A (isTrue (.BoolOp .Or [x, y] pos) env whole) h P := by
  refine Ev.bind (z.mono fun b h' u => ?_)
  cases b
  · simp only [Bool.false_eq_true, if_false] at u
    refine Ev.bind (u.mono fun c h'' p => ?_)
    cases c <;> exact Ev.pure p
  · exact Ev.pure u
theorem ev_and {x y : Expr} {pos : Pos} {P : Value → Heap → Prop}
    (z : Ev M A (eval x env) h fun v h' => Ev M A (truthy v) h' fun b h'' => if b then Ev M A (eval y env) h'' P else P v h'') : Ev M A (eval (.BoolOp .And [x, y] pos) env) h P := by
  refine Ev.bind (z.mono fun v h' u => Ev.bind (Ev.standAt (Ev.bind (Ev.holding (u.mono fun b h'' p => ?_)))))
  cases b
  · exact Ev.pure p
  · exact p
theorem ev_ifexp {test body orelse : Expr} {pos : Pos} {P : Value → Heap → Prop}
    (z : Ev M A (isTrue test env (eval test env)) h fun b h' => if b then Ev M A (eval body env) h' P else Ev M A (eval orelse env) h' P) : Ev M A (eval (.IfExp test body orelse pos) env) h P := by
  refine Ev.bind (z.mono fun b h' u => ?_)
  cases b <;> exact u
/-- the arguments, in their order -/
noncomputable def EvL (M : Model) (A : Around) (env : Env) : List Expr → Heap → (List Value → Heap → Prop) → Prop
  | [], h, P => P [] h
  | e :: es, h, P => Ev M A (eval e env) h fun v h1 => EvL M A env es h1 fun vs h2 => P (v :: vs) h2
noncomputable abbrev KTup (M : Model) (A : Around) (P : Value → Heap → Prop) : List Value → Heap → Prop := fun vs h1 => Ev M A (newTuple vs) h1 P
noncomputable abbrev KLst (M : Model) (A : Around) (P : Value → Heap → Prop) : List Value → Heap → Prop := fun vs h1 => Ev M A (newList vs) h1 P
noncomputable def plainEach (env : Env) : List Expr → List (Bool × Sem Value)
  | [] => []
  | e :: es => (false, eval e env) :: plainEach env es
theorem ev_spliced {pos : Pos} : ∀ {es : List Expr} {h : Heap} {P : List Value → Heap → Prop}, EvL M A env es h P → Ev M A (spliced (backTo pos (plainEach env es))) h P
  | [], h, P, x => Ev.pure x
  | e :: es, h, P, x => by
    refine Ev.bind (Ev.mono x fun v h1 y => Ev.bind (Ev.pure ?_))
    exact Ev.bind (Ev.holding ((ev_spliced y).mono fun vs h2 p => Ev.pure p))
theorem ev_tuple {elts : List Expr} {k : Nat} {pos : Pos} {P : Value → Heap → Prop} (x : EvL M A env elts h (KTup M A P))
    (he : starEach elts env = plainEach env elts := by rfl) : Ev M A (eval (.Tuple elts k pos) env) h P := by
  show Ev M A (do standAt pos; newTuple (← spliced (backTo pos (starEach elts env)))) h P
  rw [he]
  exact Ev.bind (Ev.standAt (Ev.bind (ev_spliced x)))
theorem ev_list {elts : List Expr} {pos : Pos} {P : Value → Heap → Prop} (x : EvL M A env elts h (KLst M A P))
    (he : starEach elts env = plainEach env elts := by rfl) : Ev M A (eval (.List elts pos) env) h P := by
  show Ev M A (do standAt pos; newList (← spliced (backTo pos (starEach elts env)))) h P
  rw [he]
  exact Ev.bind (Ev.standAt (Ev.bind (ev_spliced x)))
end
end Mine
open PySem PySem.W PyProof.Rows PySem.Calls
set_option maxRecDepth 100000
set_option maxHeartbeats 4000000
set_option linter.unusedVariables false
namespace Mine
noncomputable abbrev LO (xs : List Value) (n : Nat) : Obj := PySem.W.listOf xs.toArray n
noncomputable def upd (x : Str) (v : Value) (m : Str → Option Value) : Str → Option Value := fun y => if y = x then some v else m y
/-! ## the ground -/
/-- the statics hold no limit and no opaque class -/
noncomputable def StOk (h : Heap) : Prop := ∃ mc, h.Ns cStatics mc ∧ mc "sys.recursionlimit" = none ∧ mc "thirdparty.any" = none
theorem StOk.keeps {h h' : Heap} (x : StOk h) (k : Kp h h') : StOk h' := let ⟨mc, a, b⟩ := x; ⟨mc, a.keeps k, b⟩
structure Base (w : World) (Bh : Heap) : Prop where
  X : (K w.params).In Bh
  st : StOk Bh
  bl : ∃ mb, Bh.Ns builtinsNs mb ∧ ∀ x : Str, x ≠ "__name__" → mb x = bootBuiltins x
theorem Base.nolim {w : World} {Bh : Heap} (B : Base w Bh) : Bh.NoLimit := let ⟨mc, a, b, _⟩ := B.st; ⟨mc, a, b⟩
noncomputable def esOf (o : Obj) : Array DictEntry := match o.data with | .dict es _ => es | _ => #[]
noncomputable def allStr : List DictEntry → Bool
  | [] => true
  | e :: r => (match e.key with | .str _ _ => true | _ => false) && allStr r
theorem allStr_keys {es : Array DictEntry} (h : allStr es.toList = true) : StrKeys es := by
  intro e he
  have he' : e ∈ es.toList := Array.mem_toList_iff.mpr he
  revert h he'
  generalize es.toList = l
  intro h he'
  induction l with
  | nil => cases he'
  | cons x r ih =>
    simp only [allStr, Bool.and_eq_true] at h
    rcases List.mem_cons.mp he' with rfl | he'
    · cases hk : e.key with
      | str n t => exact ⟨n, t, rfl⟩
      | _ => rw [hk] at h; simp at h
    · exact ih h.2 he'
noncomputable def mgl (P : Params) : Str → Option Value := nsFind (esOf (o3 P))
variable {w : World} {Bh : Heap}
theorem Base.gl (B : Base w Bh) : Bh.Ns mainGlobals (mgl w.params) :=
  ⟨o3 w.params, esOf (o3 w.params), 38, B.X 3 _ rfl, rfl, allStr_keys rfl, fun _ => rfl⟩
/-- room for so many calls more -/
structure Room (A : Around) (n : Nat) : Prop where
  depth : A.depth + n < 1000
  units : A.units + 40 * n < 9900
  handled : A.handled = none
theorem Room.le {A : Around} {n m : Nat} (r : Room A n) (h : m ≤ n) : Room A m := ⟨by have := r.depth; omega, by have := r.units; omega, r.handled⟩
theorem Room.deeper {A : Around} {n : Nat} (r : Room A (n + 1)) (env : Env) : Room (A.deeper env) n := ⟨by have := r.depth; show A.depth + 1 + n < 1000; omega, by have := r.units; show A.units + 3 + 40 * n < 9900; omega, r.handled⟩
theorem Room.in1 {A : Around} {n : Nat} (r : Room A (n + 1)) : Room A.in1 n := ⟨by have := r.depth; show A.depth + n < 1000; omega, by have := r.units; show A.units + 1 + 40 * n < 9900; omega, r.handled⟩
theorem Room.lim {A : Around} {n : Nat} (r : Room A n) : A.depth < recursionLimit := by have := r.depth; show A.depth < 1000; omega
theorem Room.cl {A : Around} {n : Nat} (r : Room A n) : A.units < cLine := by have := r.units; show A.units < 9900; omega
/-! ## frames and ledgers, own: a ground that may grow -/
structure Fm (g : Heap) (L : Addr) (h : Heap) (m : Str → Option Value) : Prop where
  ns : h.Ns L m
  keep : Kp g h
  off : g.get? L = none
noncomputable def Nw (g : Heap) (L : Addr) (h : Heap) (news : List (Addr × Obj)) : Prop := ∀ p ∈ news, h.get? p.1 = some p.2 ∧ p.1 ≠ L ∧ g.get? p.1 = none
theorem Nw.nil {g h : Heap} {L : Addr} : Nw g L h [] := fun _ hp => nomatch hp
theorem Nw.set {g h h' : Heap} {L : Addr} {news : List (Addr × Obj)} (N : Nw g L h news) (hs : Heap.SameBut L h h') : Nw g L h' news :=
  fun p hp => ⟨(hs.2 p.1 (N p hp).2.1).trans (N p hp).1, (N p hp).2.1, (N p hp).2.2⟩
theorem Fm.set {g h h' : Heap} {L : Addr} {m m' : Str → Option Value} (F : Fm g L h m) (hn : h'.Ns L m') (hs : Heap.SameBut L h h') : Fm g L h' m' :=
  ⟨hn, fun b o e => (hs.2 b (fun q => by rw [q, F.off] at e; cases e)).trans (F.keep b o e), F.off⟩
theorem Nw.at {g h : Heap} {L a : Addr} {o : Obj} {news : List (Addr × Obj)} (N : Nw g L h news) (hm : (a, o) ∈ news) : h.get? a = some o := (N _ hm).1
theorem Nw.cons {g h : Heap} {L a : Addr} {o : Obj} {news : List (Addr × Obj)} (N : Nw g L h news) (h1 : h.get? a = some o) (h2 : a ≠ L) (h3 : g.get? a = none) : Nw g L h ((a, o) :: news) := fun p hp => by
  rcases List.mem_cons.mp hp with rfl | hp
  · exact ⟨h1, h2, h3⟩
  · exact N p hp
theorem Nw.sub {g h : Heap} {L : Addr} {news news' : List (Addr × Obj)} (N : Nw g L h news) (k : ∀ p ∈ news', p ∈ news) : Nw g L h news' := fun p hp => N p (k p hp)
/-- all that is not the frame and not in the ledger becomes ground -/
theorem reground {g h : Heap} {L : Addr} {m : Str → Option Value} {news : List (Addr × Obj)} (F : Fm g L h m) (N : Nw g L h news) :
    Kp g (hideAll h (L :: news.map (·.1))) ∧ Fm (hideAll h (L :: news.map (·.1))) L h m ∧ Nw (hideAll h (L :: news.map (·.1))) L h news := by
  refine ⟨fun b o e => hideAll_get _ (F.keep b o e) fun q => ?_, ⟨F.ns, fun b o e => of_hideAll _ e, hideAll_none _ (.head _)⟩, fun p hp => ⟨(N p hp).1, (N p hp).2.1, hideAll_none _ (.tail _ (List.mem_map_of_mem hp))⟩⟩
  rcases List.mem_cons.mp q with rfl | q
  · rw [F.off] at e; cases e
  · obtain ⟨p, hp, rfl⟩ := List.mem_map.mp q
    rw [(N p hp).2.2] at e; cases e
/-! ## names -/
section
variable {M : Model} {A : Around} {h g : Heap} {env : Env} {m : Str → Option Value} {news : List (Addr × Obj)}
theorem ev_ld {x : Str} {pos : Pos} {v : Value} {P : Value → Heap → Prop} (F : Fm g env.locals h m) (hv : m x = some v) (p : P v h)
    (hk : env.scope.kind = .function := by rfl) (hl : env.kindOf x = some .local := by rfl) (hd : (x == ("__debug__" : Str)) = false := by decide) : Ev M A (eval (.Name x pos) env) h P := by
  intro E Q s hs hQ; subst hs
  exact wpAny_Name (wpAny_loadName_local hk hl F.ns hv (hQ _ _ s.toks p)) hd
theorem ev_ldn {x : Str} {v : Value} {P : Value → Heap → Prop} (F : Fm g env.locals h m) (hv : m x = some v) (p : P v h)
    (hk : env.scope.kind = .function := by rfl) (hl : env.kindOf x = some .local := by rfl) : Ev M A (loadName env x) h P := by
  intro E Q s hs hQ; subst hs
  exact wpAny_loadName_local hk hl F.ns hv (hQ _ _ s.toks p)
theorem ev_glob (B : Base w Bh) (kb : Kp Bh h) {x : Str} {pos : Pos} (v : Value) {P : Value → Heap → Prop} (e : mgl w.params x = some v) (p : P v h)
    (hg : env.globals = mainGlobals := by rfl) (hk : env.scope.kind = .function := by rfl) (hl : env.kindOf x = some .globalImplicit := by rfl) (hd : (x == ("__debug__" : Str)) = false := by decide) : Ev M A (eval (.Name x pos) env) h P := by
  intro E Q s hs hQ; subst hs
  exact Name_function_global hk hl (loadGlobal_global (env := env) (by rw [hg]; exact B.gl.keeps kb) e (hQ _ _ s.toks p)) hd
theorem ev_bi (B : Base w Bh) (kb : Kp Bh h) {x : Str} {pos : Pos} (v : Value) {P : Value → Heap → Prop} (e : mgl w.params x = none) (hv : bootBuiltins x = some v) (p : P v h)
    (hg : env.globals = mainGlobals := by rfl) (hb : env.builtins = builtinsNs := by rfl) (hk : env.scope.kind = .function := by rfl) (hl : env.kindOf x = some .globalImplicit := by rfl) (hd : (x == ("__debug__" : Str)) = false := by decide) (hn : x ≠ "__name__" := by decide) :
    Ev M A (eval (.Name x pos) env) h P := by
  intro E Q s hs hQ; subst hs
  obtain ⟨mb, hmb, hb'⟩ := B.bl
  exact Name_function_global hk hl (loadGlobal_builtin (env := env) (by rw [hg]; exact B.gl.keeps kb) e (by rw [hb]; exact hmb.keeps kb) ((hb' x hn).trans hv) (hQ _ _ s.toks p)) hd
theorem ev_st {x : Str} {v : Value} {P : Unit → Heap → Prop} (F : Fm g env.locals h m) (N : Nw g env.locals h news)
    (p : ∀ h', Fm g env.locals h' (upd x v m) → Nw g env.locals h' news → P () h')
    (hk : env.scope.kind = .function := by rfl) (hl : env.kindOf x = some .local := by rfl) : Ev M A (storeName env x v) h P := by
  intro E Q s hs hQ; subst hs
  exact wpAny_storeName_local hl F.ns (fun h' hn hs => hQ _ _ _ (p h' (F.set hn hs) (N.set hs))) (by rw [hk]; rfl)
end
/-! ## frames and ledgers -/
theorem hide_kp {h : Heap} {T : List Addr} : Kp (hideAll h T) h := fun b o e => of_hideAll T e
theorem Fm.only {h h' : Heap} {T : List Addr} {L : Addr} {m : Str → Option Value} (F : Fm (hideAll h T) L h' m) : Only T h h' := fun b o n e => F.keep b o (hideAll_get T e n)
theorem kp_hide {g h : Heap} {T : List Addr} (k : Kp g h) (n : ∀ a ∈ T, g.get? a = none) : Kp g (hideAll h T) := fun b o e => hideAll_get T (k b o e) fun q => by rw [n b q] at e; cases e
/-- behind a call that changed the objects at T alone, their new ones told -/
theorem after {g h h' : Heap} {L : Addr} {m : Str → Option Value} {news news' : List (Addr × Obj)} {T : List Addr} (F : Fm g L h m) (N : Nw g L h news) (x : Only T h h')
    (hT : ∀ a ∈ T, g.get? a = none ∧ a ≠ L) (hn : ∀ p ∈ news', h'.get? p.1 = some p.2 ∧ (p.1 ≠ L ∧ g.get? p.1 = none ∨ p ∈ news)) : Fm g L h' m ∧ Nw g L h' news' := by
  refine ⟨⟨?_, fun b o e => x b o (fun q => by rw [(hT b q).1] at e; cases e) (F.keep b o e), F.off⟩, fun p hp => ?_⟩
  · obtain ⟨o, es, ep, ho, r⟩ := F.ns
    exact ⟨o, es, ep, x L o (fun q => (hT L q).2 rfl) ho, r⟩
  · obtain ⟨h1, h2⟩ := hn p hp
    rcases h2 with h2 | h2
    · exact ⟨h1, h2⟩
    · exact ⟨h1, (N p h2).2⟩
theorem Fm.o {g h h' : Heap} {L : Addr} {m : Str → Option Value} (F : Fm g L h m) (x : Only [] h h') : Fm g L h' m := (after (news' := []) F Nw.nil x (fun _ q => nomatch q) fun p hp => nomatch hp).1
theorem Nw.o {g h h' : Heap} {L : Addr} {news : List (Addr × Obj)} (N : Nw g L h news) (x : Only [] h h') : Nw g L h' news := fun p hp => ⟨x _ _ nin0 (N p hp).1, (N p hp).2⟩
theorem Fm.put {g h h' : Heap} {L a : Addr} {m : Str → Option Value} {led : List (Addr × Obj)} (F : Fm g L h m) (N : Nw g L h led) (i : Nat) {o0 : Obj} (hi : led[i]? = some (a, o0)) (x : Only [a] h h') : Fm g L h' m :=
  have n := N _ (List.mem_of_getElem? hi)
  (after (news' := []) F N x (fun b q => by rw [List.mem_singleton.mp q]; exact ⟨n.2.2, n.2.1⟩) fun p hp => nomatch hp).1
theorem Fm.o1 {g h h' : Heap} {L a : Addr} {o : Obj} {m : Str → Option Value} {news : List (Addr × Obj)} (F : Fm g L h m) (N : Nw g L h ((a, o) :: news)) (x : Only [a] h h') : Fm g L h' m := F.put N 0 rfl x
theorem Nw.o1 {g h h' : Heap} {L a : Addr} {o o' : Obj} {news : List (Addr × Obj)} (N : Nw g L h ((a, o) :: news)) (x : Only [a] h h') (ho : h'.get? a = some o') (hne : ∀ p ∈ news, p.1 ≠ a) : Nw g L h' ((a, o') :: news) := fun p hp => by
  rcases List.mem_cons.mp hp with rfl | hp
  · exact ⟨ho, (N (a, o) (.head _)).2⟩
  · exact ⟨x _ _ (fun q => hne p hp (List.mem_singleton.mp q)) (N p (.tail _ hp)).1, (N p (.tail _ hp)).2⟩
theorem Nw.put1 {g h h' : Heap} {L a : Addr} {o' : Obj} {led : List (Addr × Obj)} (N : Nw g L h led) (nd : (led.map (·.1)).Nodup) (i : Nat) {o0 : Obj} (hi : led[i]? = some (a, o0)) (x : Only [a] h h') (ho : h'.get? a = some o') : Nw g L h' (led.set i (a, o')) := fun p hp => by
  obtain ⟨j, hj⟩ := List.mem_iff_getElem?.mp hp
  rw [List.getElem?_set] at hj
  by_cases e : i = j
  · rw [if_pos e] at hj
    split at hj
    · obtain rfl := Option.some.inj hj
      exact ⟨ho, (N _ (List.mem_of_getElem? hi)).2⟩
    · cases hj
  · rw [if_neg e] at hj
    have mj := List.mem_of_getElem? hj
    refine ⟨x _ _ (fun q => ?_) (N _ mj).1, (N _ mj).2⟩
    have e1 : (led.map (·.1))[i]? = some a := by rw [List.getElem?_map, hi]; rfl
    have e2 : (led.map (·.1))[j]? = some a := by rw [List.getElem?_map, hj, ← List.mem_singleton.mp q]; rfl
    obtain ⟨w1, v1⟩ := List.getElem?_eq_some_iff.mp e1
    obtain ⟨w2, v2⟩ := List.getElem?_eq_some_iff.mp e2
    rcases Nat.lt_or_gt_of_ne e with q | q
    · exact List.pairwise_iff_getElem.mp nd i j w1 w2 q (v1.trans v2.symm)
    · exact List.pairwise_iff_getElem.mp nd j i w2 w1 q (v2.trans v1.symm)
theorem Nw.add {g h : Heap} {L : Addr} {led led' : List (Addr × Obj)} {p : Addr × Obj} (N' : Nw g L h led') (N : Nw g L h led) (m : p ∈ led) : Nw g L h (p :: led') := N'.cons (N p m).1 (N p m).2.1 (N p m).2.2
theorem Nw.tl {g h : Heap} {L : Addr} {led : List (Addr × Obj)} {p : Addr × Obj} (N : Nw g L h (p :: led)) : Nw g L h led := fun q hq => N q (.tail _ hq)
/-! ## a call of a def of the text -/
@[reducible] noncomputable def fenv (scope : Scope) (cl : List (Str × Addr)) (qual : Str) (L fa : Addr) (cd : Value) : Env :=
  { scope, locals := L, globals := mainGlobals, cells := cl, qual := qual ++ ".<locals>.", func := some fa, code := cd, frame := some L, builtins := builtinsNs }
noncomputable def flowV : Flow → Value
  | .ret v => v
  | _ => .none
noncomputable def cellFree : List (Str × NameKind) → Bool
  | [] => true
  | x :: r => (match x.2 with | .cell => false | _ => true) && cellFree r
/-- the names' table of a def that has cells of its own -/
noncomputable abbrev fenvc (scope : Scope) (qual : Str) (L fa c : Addr) : Env := fenv scope (cellsFrom (nx L) scope.names []) qual L fa (.ref c)
theorem cellFree_of {l : List (Str × NameKind)} (h : cellFree l = true) : ∀ x ∈ l, x.2 ≠ .cell := by
  induction l with
  | nil => intro x hx; cases hx
  | cons y r ih =>
    simp only [cellFree, Bool.and_eq_true] at h
    intro x hx
    rcases List.mem_cons.mp hx with rfl | hx
    · intro e; rw [e] at h; simp at h
    · exact ih h.2 x hx
noncomputable def allLocal (names : List (Str × NameKind)) : List (Str × Value) → Bool
  | [] => true
  | x :: r => (match names.lookup x.1 with | some .local => true | _ => false) && allLocal names r
theorem allLocal_of {names : List (Str × NameKind)} {l : List (Str × Value)} (h : allLocal names l = true) : ∀ x ∈ l, names.lookup x.1 = some .local := by
  induction l with
  | nil => intro x hx; cases hx
  | cons y r ih =>
    simp only [allLocal, Bool.and_eq_true] at h
    intro x hx
    rcases List.mem_cons.mp hx with rfl | hx
    · revert h
      cases hl : names.lookup x.1 with
      | none => simp
      | some k => cases k <;> simp
    · exact ih h.2 x hx
theorem CEv.fn {A : Around} {h : Heap} (B : Base w Bh) (kb : Kp Bh h) {n : Nat} (room : Room A (n + 1)) {fa c : Addr} {st : Stmt} {qual name : Str} {params : Arguments} {body : List Stmt} {deco : List Expr} {ret : Option Expr} {tp : List TypeParam} {scope : Scope} {ts : Option Scope} {bind : Str} {pos : Pos}
    {cl : List (Str × Addr)} {dV kV doc pm ct : Value} {an : Option Addr} {vs : Array Value} {t : Tok} {args : Args} {P : Value → Heap → Prop} (binds : List (Str × Value)) (led : List (Addr × Obj))
    (hf : (K w.params).lookup fa = some ⟨.type "function", none, .func (fdOf st qual cl dV kV doc pm an (.ref c) ct), #[]⟩) (hc : (K w.params).lookup c = some ⟨.type "code", none, .fields vs, #[]⟩) (hq : vs[1]? = some (.str qual t))
    (hst : st = .FunctionDef name params body deco ret tp scope ts bind pos) (hk : scope.kind = .function) (hco : scope.isCoroutine = false) (hgen : scope.isGenerator = false)
    (hbind : ∀ s : Shared, s.heap = h → BindsTo s (fdOf st qual cl dV kV doc pm an (.ref c) ct) args binds)
    (hcell : cellFree scope.names = true) (hloc : allLocal scope.names binds = true) (hled : ∀ p ∈ led, h.get? p.1 = some p.2)
    (hb : ∀ L h₁, Room (A.deeper (fenv scope cl qual L fa (.ref c))) n → Kp h h₁ → Fm (hideAll h (led.map (·.1))) L h₁ (fun x => binds.reverse.lookup x) → Nw (hideAll h (led.map (·.1))) L h₁ led →
      Ev (model pw w) (A.deeper (fenv scope cl qual L fa (.ref c))) (execs body (fenv scope cl qual L fa (.ref c))) h₁ fun f h' => P (flowV f) h') :
    CEv (model pw w) A (.call (.ref fa) args) h P := by
  intro R s hs hQ
  subst hs
  subst hst
  have hcd : s.heap.CodeRec (.ref c) qual := ⟨c, _, vs, t, rfl, kb _ _ (B.X c _ hc), rfl, hq⟩
  refine codeAny_call_def (fd := fdOf (.FunctionDef name params body deco ret tp scope ts bind pos) qual cl dV kV doc pm an (.ref c) ct) (body := body) (binds := binds) room.lim (kb _ _ (B.X fa _ hf)) rfl (B.nolim.keeps kb) hcd rfl
    (hbind s rfl) (cellFree_of hcell) (allLocal_of hloc) (fun h₁ hns hk₁ => ?_) hco hgen hk
  have z := hb s.heap.objs.size h₁ (room.deeper _) hk₁ ⟨hns, fun b o e => hk₁ b o (of_hideAll _ e), Heap.get?_none_of_le (Nat.le_of_eq (hideAll_size _ _))⟩
    (fun p hp => ⟨hk₁ _ _ (hled p hp), Nat.ne_of_lt (Heap.lt_size (hled p hp)), hideAll_none _ (List.mem_map_of_mem hp)⟩)
  exact z _ _ _ rfl fun f h' tk p => by
    cases f <;> exact hQ _ h' tk p
/-! ## ints, lists -/
section
variable {prog : Program} {A : Around} {h g : Heap} {L : Addr} {m : Str → Option Value} {news : List (Addr × Obj)} {a b : Int} {t u : Tok} {P : Value → Heap → Prop}
theorem ev_addi (p : ∀ t, P (.int (a + b) t) h) : Ev (model prog w) A (binaryOp .Add (.int a t) (.int b u)) h P := by
  intro E Q s hs hQ; subst hs; exact PyProof.Rows.add_int (hQ _ _ (s.toks + 1) (p _))
theorem ev_iaddi (p : ∀ t, P (.int (a + b) t) h) : Ev (model prog w) A (inplaceOp .Add (.int a t) (.int b u)) h P := by
  intro E Q s hs hQ; subst hs; exact PyProof.Rows.iadd_int (hQ _ _ (s.toks + 1) (p _))
theorem ev_subi (p : ∀ t, P (.int (a - b) t) h) : Ev (model prog w) A (binaryOp .Sub (.int a t) (.int b u)) h P := by
  intro E Q s hs hQ; subst hs; exact PyProof.Rows.sub_int (hQ _ _ (s.toks + 1) (p _))
theorem ev_lti (p : P (.bool (decide (a < b))) h) : Ev (model prog w) A (compareOp .Lt (.int a t) (.int b u)) h P := by
  intro E Q s hs hQ; subst hs; exact PyProof.Rows.lt_int (hQ _ _ s.toks p)
theorem ev_gti (p : P (.bool (decide (b < a))) h) : Ev (model prog w) A (compareOp .Gt (.int a t) (.int b u)) h P := by
  intro E Q s hs hQ; subst hs; exact PyProof.Rows.gt_int (hQ _ _ s.toks p)
theorem ev_gei (p : P (.bool (decide (b ≤ a))) h) : Ev (model prog w) A (compareOp .GtE (.int a t) (.int b u)) h P := by
  intro E Q s hs hQ; subst hs; exact PyProof.Rows.ge_int (hQ _ _ s.toks p)
theorem ev_eqi (p : P (.bool (a == b)) h) : Ev (model prog w) A (compareOp .Eq (.int a t) (.int b u)) h P := by
  intro E Q s hs hQ; subst hs; exact PyProof.Rows.eq_int (hQ _ _ s.toks p)
theorem ev_eqs {x y : Str} (p : P (.bool (x == y)) h) : Ev (model prog w) A (compareOp .Eq (.str x t) (.str y u)) h P := by
  intro E Q s hs hQ; subst hs; exact PyProof.Rows.eq_str (hQ _ _ s.toks p)
theorem ev_lts {x y : Str} (p : P (.bool (x.cps.toList < y.cps.toList)) h) : Ev (model prog w) A (compareOp .Lt (.str x t) (.str y u)) h P := by
  intro E Q s hs hQ; subst hs; exact PyProof.Rows.lt_str (hQ _ _ s.toks p)
theorem ev_shri (hb : 0 ≤ b) (p : ∀ t, P (.int (a.fdiv (2 ^ b.toNat)) t) h) : Ev (model prog w) A (binaryOp .RShift (.int a t) (.int b u)) h P := by
  intro E Q s hs hQ; subst hs; exact PyProof.Rows.rshift_int hb (hQ _ _ (s.toks + 1) (p _))
theorem ev_muli (hm : IntMulOk a b) (p : ∀ t, P (.int (a * b) t) h) : Ev (model prog w) A (binaryOp .Mult (.int a t) (.int b u)) h P := by
  intro E Q s hs hQ; subst hs; exact PyProof.Rows.mul_int (hQ _ _ (s.toks + 1) (p _)) hm
noncomputable abbrev KSub2 (M : Model) (A : Around) (value slice : Expr) (o : Value) (P : Value → Heap → Prop) : Value → Heap → Prop := fun i h2 => Ev M A (PyProof.Rows.subscriptTail value slice o i) h2 P
noncomputable abbrev KSub (M : Model) (A : Around) (env : Env) (value slice : Expr) (P : Value → Heap → Prop) : Value → Heap → Prop := fun o h1 => Ev M A (eval slice env) h1 (KSub2 M A value slice o P)
noncomputable abbrev KSet (M : Model) (A : Around) (env : Env) (o i : Expr) (P : Flow → Heap → Prop) : Value → Heap → Prop := fun v h1 => Ev M A (eval o env) h1 fun ov h2 => Ev M A (eval i env) h2 fun iv h3 => Ev M A (setItem ov iv v) h3 fun _ => P .next
theorem ev_sub {env : Env} {value slice : Expr} {pos : Pos} (x : Ev (model prog w) A (eval value env) h (KSub (model prog w) A env value slice P)) :
    Ev (model prog w) A (eval (.Subscript value slice pos) env) h P :=
  fun E Q s hs hQ => PyProof.Rows.Subscript_ (x E _ s hs fun o h1 tk y => y E _ _ rfl fun i h2 tk2 z => z E _ _ rfl fun r h3 tk3 p => hQ _ h3 tk3 p)
theorem ev_tail_list {value slice : Expr} {l : Addr} {xs : List Value} {n : Nat} {k : Int} {x : Value} (hl : h.get? l = some (LO xs n)) (h0 : 0 ≤ k) (hfit : k < 2 ^ 63) (hx : xs[k.toNat]? = some x) (p : P x h)
    (hs : subscripted slice false (.ref l) (.int k u) = operate [.ref l, .int k u] (getItem (.ref l) (.int k u)) := by with_unfolding_all rfl) (hg : ∀ r, letTemporaryGo value (.ref l) r = pure () := by intro _; with_unfolding_all rfl) :
    Ev (model prog w) A (PyProof.Rows.subscriptTail value slice (.ref l) (.int k u)) h P := by
  intro E Q s hs' hQ; subst hs'
  exact PyProof.Rows.item_list (PySem.IsL.isList (n := n) hl) h0 hfit (by simpa using hx) (hQ _ _ s.toks p) hs hg
theorem ev_assign_sub {env : Env} {o i value : Expr} {pos' pos : Pos} {P : Flow → Heap → Prop}
    (x : Ev (model prog w) A (eval value env) h (KSet (model prog w) A env o i P))
    (hs : swapsWith value (some (.Subscript o i pos')) pos.line env = pure false := by rfl) : Ev (model prog w) A (exec (.Assign [.Subscript o i pos'] value pos) env) h P :=
  fun E Q s e hQ => wpAny_Assign_Subscript (x E _ s e fun v h1 tk y => y E _ _ rfl fun ov h2 tk2 z => z E _ _ rfl fun iv h3 tk3 u => u E _ _ rfl fun _ h4 tk4 p => hQ _ h4 tk4 p) hs
theorem mapSeq_set {xs : List Value} {n k : Nat} {v : Value} : (Obj.mapSeq (·.setIfInBounds k v)) (LO xs n) = LO (xs.set k v) n := by
  show ({ cls := .type "list", dict := none, data := .seq (xs.toArray.setIfInBounds k v) (if (xs.toArray.setIfInBounds k v).size == xs.toArray.size then n else n + 1), slots := #[] } : Obj) = _
  simp [PySem.W.listOf]
theorem ev_setitem {l : Addr} {xs : List Value} {n : Nat} {k : Int} {v : Value} {P : Unit → Heap → Prop} (hl : h.get? l = some (LO xs n)) (h0 : 0 ≤ k) (hfit : k < 2 ^ 63) (hk : k < xs.length)
    (p : ∀ h', Only [l] h h' → h'.get? l = some (LO (xs.set k.toNat v) n) → P () h') : Ev (model prog w) A (setItem (.ref l) (.int k t) v) h P := by
  intro E Q s hs' hQ; subst hs'
  refine ki_setAt hl h0 hfit (by simpa using hk) (hQ _ _ s.toks (p _ (fun b o hb e => ?_) ?_))
  · rw [Heap.get?_update_ne _ _ _ _ (fun q => hb (by simp [q]))]; exact e
  · rw [Heap.get?_update_self _ hl (by rw [mapSeq_set]; rfl), mapSeq_set]
theorem ev_len {l : Addr} {xs : List Value} {n : Nat} (hl : h.get? l = some (LO xs n)) (hz : xs.length < 2 ^ 63) (p : ∀ t, P (.int xs.length t) h) : Ev (model prog w) A (call (.builtin "len") [.ref l]) h P := by
  intro E Q s hs' hQ; subst hs'
  refine PyProof.Rows.len_list (PySem.IsL.isList (n := n) hl) (by simpa using (by omega : (xs.length : Int) < 2 ^ 63)) ?_
  have := hQ _ _ (s.toks + 1 + 1) (p (s.toks + 1))
  simpa using this
end
/-! ## while -/
theorem ev_while {prog : Program} {A : Around} {env : Env} {h : Heap} {test : Expr} {body orelse : List Stmt} {pos : Pos} {P : Flow → Heap → Prop} (I : Nat → Heap → Prop)
    (turn : ∀ n h, I n h → Ev (model prog w) A (isTrue test env (eval test env)) h fun b h₂ =>
      if b then Ev (model prog w) A (execs body env) h₂ (fun f h₃ => match f with
        | .next | .cont => ∃ m, m < n ∧ I m h₃
        | .brk => P .next h₃
        | .ret v => P (.ret v) h₃)
      else Ev (model prog w) A (execs orelse env) h₂ P) (n : Nat) (h0 : I n h) : Ev (model prog w) A (exec (.While test body orelse pos) env) h P := by
  intro E Q s hs hQ
  refine wpAny_While (codeAny_whileLoop (fun k s' => ∃ h' tk, s' = { s with heap := h', toks := tk } ∧ I k h') (fun k s' hI => ?_) n ⟨s.heap, s.toks, rfl, hs ▸ h0⟩)
  obtain ⟨h', tk, rfl, hI⟩ := hI
  refine turn k h' hI _ _ _ rfl fun b h₂ tk₂ hb => ?_
  cases b
  · simp only [Bool.false_eq_true, if_false] at hb ⊢
    exact hb _ _ _ rfl fun f h₃ tk₃ p => hQ f h₃ tk₃ p
  · simp only [if_true] at hb ⊢
    refine hb _ _ _ rfl fun f h₃ tk₃ p => ?_
    cases f with
    | next => obtain ⟨m, hm, hi⟩ := p; exact ⟨m, hm, h₃, tk₃, rfl, hi⟩
    | cont => obtain ⟨m, hm, hi⟩ := p; exact ⟨m, hm, h₃, tk₃, rfl, hi⟩
    | brk => exact hQ _ h₃ tk₃ p
    | ret v => exact hQ _ h₃ tk₃ p
end Mine
open PySem PySem.W PyProof.Rows PySem.Calls
set_option maxRecDepth 100000
set_option maxHeartbeats 4000000
set_option linter.unusedVariables false
namespace Mine
/-! ## calls -/
noncomputable def Keeps (M : Model) (h : Heap) (f : Value) : Prop := ∃ k, (k = Keeper.frame ∨ k = Keeper.machine ∨ k = Keeper.boundFrame) ∧ Looks M h (keeperOf f) k
noncomputable abbrev KCa2 (M : Model) (A : Around) (f : Value) (first : List Value) (P : Value → Heap → Prop) : List Value → Heap → Prop := fun vs h1 => Keeps M h1 f ∧ Ev M A (call f (first ++ vs)) h1 P
noncomputable abbrev KCa (M : Model) (A : Around) (env : Env) (es : List Expr) (P : Value → Heap → Prop) : Value → Heap → Prop := fun f h1 => EvL M A env es h1 (fun vs h2 => Keeps M h2 f ∧ Ev M A (call f vs) h2 P)
noncomputable abbrev KMc2 (M : Model) (A : Around) (env : Env) (es : List Expr) (P : Value → Heap → Prop) : Value × List Value → Heap → Prop := fun fx h2 => EvL M A env es h2 (KCa2 M A fx.1 fx.2 P)
noncomputable abbrev KMc (M : Model) (A : Around) (env : Env) (name : Str) (pl : Sem Bool) (es : List Expr) (P : Value → Heap → Prop) : Value → Heap → Prop := fun ov h1 => Ev M A (getMethod ov name pl) h1 (KMc2 M A env es P)
section
variable {M : Model} {A : Around} {env : Env}
theorem Keeps.builtin {h : Heap} {id : String} : Keeps M h (.builtin id) := ⟨.machine, .inr (.inl rfl), Looks.of_pure rfl⟩
theorem Keeps.type {h : Heap} {id : String} : Keeps M h (.type id) := ⟨.machine, .inr (.inl rfl), Looks.of_pure rfl⟩
theorem Keeps.inK {w : World} {Bh h : Heap} (B : Base w Bh) (kb : Kp Bh h) {f : Value} (hk : keepIn (K w.params) f = true) : Keeps M h f := keeps_K hk h (B.X.keeps kb)
theorem Keeps.fn {h : Heap} {a : Addr} {o : Obj} {fd : FuncData} (ho : h.get? a = some o) (hd : o.data = .func fd) : Keeps M h (.ref a) := by
  refine ⟨.frame, .inl rfl, (Looks.ld (part := none) ho).andThen ?_⟩
  rw [hd]
  exact .now
theorem plain_any (pos : Pos) (env : Env) : ∀ es : List Expr, (backTo pos (plainEach env es)).any (·.1) = false
  | [] => rfl
  | e :: es => by show (false || (backTo pos (plainEach env es)).any (·.1)) = false; rw [plain_any pos env es]; rfl
theorem ev_callWith {pos : Pos} {f : Value} {first : List Value} {es : List Expr} {h : Heap} {P : Value → Heap → Prop} (x : EvL M A env es h fun vs h1 => Keeps M h1 f ∧ Ev M A (call f (first ++ vs)) h1 P)
    (he : starEach es env = plainEach env es := by rfl) : Ev M A (callWith pos f first (backTo pos (starEach es env)) []) h P := by
  intro E Q s hs hQ
  rw [he]
  refine callWith_of (P := fun h1 => Keeps M h1 f) (by rw [plain_any]; rfl) (fun h k => k) ?_
  have z : wpAny M A (spliced (backTo pos (plainEach env es))) (fun vs s₁ => Keeps M s₁.heap f ∧ wpAny M A (call f (first ++ vs) []) Q E s₁) E s :=
    ev_spliced x _ _ s hs fun vs h1 tk y => ⟨y.1, y.2 _ _ _ rfl fun v h2 tk2 p => hQ _ _ _ p⟩
  cases es with
  | nil => exact evalArgs_nil3 (by
      obtain ⟨k, y⟩ := (x : Keeps M h f ∧ Ev M A (call f (first ++ [])) h P)
      subst hs
      exact ⟨k, y _ _ s rfl fun v h2 tk2 p => hQ v h2 tk2 p⟩)
  | cons e es => exact evalArgs_plain z
theorem ev_call {func : Expr} {es : List Expr} {pos : Pos} {h : Heap} {P : Value → Heap → Prop}
    (x : Ev M A (eval func env) h (KCa M A env es P))
    (he : starEach es env = plainEach env es := by rfl) (hc : eval (.Call func es [] pos) env = (do callWith pos (← eval func env) [] (backTo pos (starEach es env)) (backToKw pos (keywordEach [] env))) := by rfl) :
    Ev M A (eval (.Call func es [] pos) env) h P := by
  rw [hc]
  exact Ev.bind (x.mono fun f h1 y => ev_callWith (by simpa using y) he)
theorem ev_mcall {o : Expr} {name : Str} {apos pos : Pos} {es : List Expr} {pl : Sem Bool} {h : Heap} {P : Value → Heap → Prop}
    (x : Ev M A (eval o env) h (KMc M A env name pl es P))
    (he : starEach es env = plainEach env es := by rfl) (hc : eval (.Call (.Attribute o name apos) es [] pos) env = (do
      let ov ← eval o env
      standAt apos.atName
      let (f, first) ← holding [ov] (getMethod ov name pl)
      callWith pos f first (backTo pos (starEach es env)) (backToKw pos (keywordEach [] env))) := by rfl) :
    Ev M A (eval (.Call (.Attribute o name apos) es [] pos) env) h P := by
  rw [hc]
  exact Ev.bind (x.mono fun ov h1 y => Ev.bind (Ev.standAt (Ev.bind (Ev.holding (y.mono fun fx h2 z => ev_callWith z he)))))
theorem ev_method {v : Value} {T : String} {name : Str} {id : String} {pl : Sem Bool} {h : Heap} {P : Value × List Value → Heap → Prop} (hT : ∀ s : Shared, s.heap = h → s.TypeIs v T) (pa : PlainAttrs T) (slot : Slot T name id)
    (hd : ∀ a, v = .ref a → ∃ o, h.get? a = some o ∧ o.dict = none) (p : P (.builtin id, [v]) h) (hty : typeOf (.builtin id) = pure (.type "method_descriptor") := by with_unfolding_all rfl) : Ev M A (getMethod v name pl) h P := by
  intro E Q s hs hQ
  subst hs
  exact getMethod_builtin (hT s rfl) pa slot hty hd (hQ _ _ s.toks p)
theorem ev_method_list {l : Addr} {xs : List Value} {n : Nat} {name : Str} {id : String} {pl : Sem Bool} {h : Heap} {P : Value × List Value → Heap → Prop} (hl : h.get? l = some (LO xs n)) (slot : Slot "list" name id)
    (p : P (.builtin id, [.ref l]) h) (hty : typeOf (.builtin id) = pure (.type "method_descriptor") := by with_unfolding_all rfl) : Ev M A (getMethod (.ref l) name pl) h P :=
  ev_method (fun s hs => by subst hs; exact ⟨_, hl, rfl⟩) PySem.F.plainAttrs_list slot (fun a e => by cases e; exact ⟨_, hl, rfl⟩) p hty
theorem ev_expr {prog : Program} {w : World} {e : Expr} {pos : Pos} {h : Heap} {P : Flow → Heap → Prop} (x : Ev (model prog w) A (eval e env) h fun _ h' => P .next h')
    (hi : interactive env = false := by rfl) (hs : swapsWith e none pos.line env = pure false := by rfl) : Ev (model prog w) A (exec (.Expr e pos) env) h P :=
  fun E Q s e hQ => wpAny_Expr_any (x E _ s e fun v h' tk p => hQ _ _ _ p) hi hs
theorem ev_doc {prog : Program} {w : World} {x : Str} {k : Nat} {pos pos' : Pos} {h : Heap} {P : Flow → Heap → Prop} (p : P .next h)
    (hi : interactive env = false := by rfl) (hs : swapsWith (.Constant (.str x) k pos) none pos'.line env = pure false := by rfl) : Ev (model prog w) A (exec (.Expr (.Constant (.str x) k pos) pos') env) h P :=
  ev_expr (ev_str fun _ => p) hi hs
end
/-! ## lists: append, pop, extend, a new list, truth -/
section
variable {prog : Program} {w : World} {A : Around} {h : Heap}
theorem only_update {l : Addr} {f : Obj → Obj} : Only [l] h (h.update l f) := fun b o hb e => by
  rw [Heap.get?_update_ne _ _ _ _ (fun q => hb (by simp [q]))]; exact e
theorem ev_append {l : Addr} {xs : List Value} {n : Nat} {v : Value} {P : Value → Heap → Prop} (hl : h.get? l = some (LO xs n)) (hz : xs.length < 64)
    (p : ∀ h', Only [l] h h' → h'.get? l = some (LO (xs ++ [v]) (n + 1)) → P .none h') : Ev (model prog w) A (call (.builtin "list.append") [.ref l, v]) h P := by
  intro E Q s hs hQ
  subst hs
  refine append_at (its := xs.toArray) (n := n) hl (fun h' hs ho => hQ _ _ s.toks (p h' (fun b o hb e => ?_) ?_)) (by rw [List.size_toArray]; exact Nat.le_trans (Nat.le_of_lt hz) (by decide))
  · exact (hs.2 b (fun q => hb (by simp [q]))).trans e
  · rw [ho]; simp
theorem only_push {o : Obj} : Only [] h (h.push o) := fun b o' _ e => Heap.get?_push_of_some _ e
theorem ev_newList {vs : List Value} {M : Model} {P : Value → Heap → Prop} (hz : vs.length < 5000)
    (p : ∀ l h', Only [] h h' → h.get? l = none → h'.get? l = some (LO vs 0) → P (.ref l) h') : Ev M A (newList vs) h P := by
  intro E Q s hs hQ
  subst hs
  refine wpAny_newList (hQ _ _ s.toks (p _ _ only_push (Heap.get?_none_of_le (Nat.le_refl _)) (Heap.get?_push_size _ rfl))) ?_
  exact Nat.le_trans (Nat.le_of_lt hz) (by decide)
noncomputable abbrev TO (xs : List Value) : Obj := { cls := .type "tuple", data := .seq xs.toArray 0 }
theorem ev_newTuple {vs : List Value} {M : Model} {P : Value → Heap → Prop} (hv : vs ≠ []) (hz : vs.length < 5000)
    (p : ∀ l h', Only [] h h' → h.get? l = none → h'.get? l = some (TO vs) → P (.ref l) h') : Ev M A (newTuple vs) h P := by
  intro E Q s hs hQ
  subst hs
  refine wpAny_newTuple (hQ _ _ s.toks (p _ _ only_push (Heap.get?_none_of_le (Nat.le_refl _)) (Heap.get?_push_size _ rfl))) ?_
  exact Nat.le_trans (Nat.le_of_lt hz) (by decide)
end
end Mine
open PySem PySem.W PyProof.Rows PySem.Calls
set_option maxRecDepth 100000
set_option maxHeartbeats 4000000
set_option linter.unusedVariables false
namespace Mine
/-! ## iterators -/
structure Itr (w : World) (A : Around) (I : Addr) (g : Heap) (n : Nat) (V : Nat → Value → Prop) (St : Nat → Obj → Prop) (c : String) : Prop where
  item : ∀ {i : Nat} {h : Heap} {o : Obj} {P : Option Value → Heap → Prop}, i < n → Kp g h → h.get? I = some o → St i o →
    (∀ v h' o', V i v → Only [I] h h' → h'.get? I = some o' → St (i + 1) o' → P (some v) h') → Ev (model pw w) A (pyNext (.ref I)) h P
  done : ∀ {h : Heap} {o : Obj} {P : Option Value → Heap → Prop}, Kp g h → h.get? I = some o → St n o → (∀ h', Only [I] h h' → P none h') → Ev (model pw w) A (pyNext (.ref I)) h P
  self : ∀ {i : Nat} {h : Heap} {o : Obj} {P : Value → Heap → Prop}, h.get? I = some o → St i o → P (.ref I) h → Ev (model pw w) A (pyIter (.ref I)) h P
  cls : ∀ {i : Nat} {o : Obj}, St i o → o.cls = .type c
noncomputable def LSt (l : Addr) (i : Nat) (o : Obj) : Prop := o.cls = .type "list_iterator" ∧ o.data = .fields #[.ref l, .int i 0]
variable {w : World} {A : Around}
theorem only_of_same {I : Addr} {h h' : Heap} (x : Heap.SameBut I h h') : Only [I] h h' := fun b o hb e => (x.2 b (fun q => hb (by simp [q]))).trans e
theorem only_of_ext {I : Addr} {h h' : Heap} (x : Heap.ExtBut I h h') : Only [I] h h' := fun b o hb e => x b o (fun q => hb (by simp [q])) e
theorem Itr.list (hh : A.handled = none) {g : Heap} {l I : Addr} {xs : List Value} {n : Nat} (hl : g.get? l = some (LO xs n)) : Itr w A I g xs.length (fun i v => xs[i]? = some v) (LSt l) "list_iterator" where
  item := by
    intro i h o P hi k ho st p E Q s hs hQ
    subst hs
    refine wpAny_pyNext_list_item ⟨o, ho, st⟩ (PySem.IsL.isList (n := n) (k _ _ hl)) (x := xs[i]) (by simp [hi]) fun h' hit hs' => ?_
    obtain ⟨o', ho', st'⟩ := hit
    exact hQ _ h' s.toks (p _ h' o' (List.getElem?_eq_getElem hi) (only_of_same hs') ho' st')
  done := by
    intro h o P k ho st p E Q s hs hQ
    subst hs
    exact wpAny_pyNext_list_end hh ⟨o, ho, st⟩ (PySem.IsL.isList (n := n) (k _ _ hl)) (by simp) fun h' he => hQ _ h' s.toks (p h' (only_of_ext he))
  self := by
    intro i h o P ho st p E Q s hs hQ
    subst hs
    exact wpAny_pyIter_listiter ⟨o, ho, st⟩ (hQ _ _ s.toks p)
  cls := fun st => st.1
theorem ev_iter_list {prog : Program} {h : Heap} {l : Addr} {xs : List Value} {n : Nat} (hl : h.get? l = some (LO xs n)) {P : Value → Heap → Prop}
    (p : ∀ I h' o, Only [] h h' → h.get? I = none → h'.get? I = some o → LSt l 0 o → P (.ref I) h') : Ev (model prog w) A (pyIter (.ref l)) h P := by
  intro E Q s hs hQ
  subst hs
  exact wpAny_pyIter_list (PySem.IsL.isList (n := n) hl) (hQ _ _ s.toks (p _ _ _ only_push (Heap.get?_none_of_le (Nat.le_refl _)) (Heap.get?_push_size _ rfl) ⟨rfl, rfl⟩))
/-! ## for loops -/
noncomputable def GEv (w : World) (A : Around) (c : Code) (h : Heap) (P : Flow → Heap → Prop) : Prop :=
  ∀ (R : Result → Shared → Prop) (s : Shared), s.heap = h → (∀ f h' tk, P f h' → R (.ok f) { s with heap := h', toks := tk }) → codeAny (model pw w) A c R s
theorem ev_for {target iter : Expr} {body orelse : List Stmt} {pos : Pos} {env : Env} {h : Heap} {P : Flow → Heap → Prop}
    (x : Ev (model pw w) A (eval iter env) h fun xv h1 => Ev (model pw w) A (pyIter xv) h1 fun it h2 => GEv w A (.forLoop target it body orelse env) h2 P)
    (hs : ∀ x, foldedSetIterable iter env x = pure x := by intro _; rfl) : Ev (model pw w) A (exec (.For target iter body orelse pos) env) h P :=
  fun E Q s e hQ => wpAny_For (x E _ s e fun xv h1 tk y => y E _ _ rfl fun it h2 tk2 z => z _ _ rfl fun f h3 tk3 p => hQ f h3 tk3 p) hs
theorem gev_for {target it body orelse env} {h : Heap} {P : Flow → Heap → Prop} (I : Nat → Heap → Prop)
    (turn : ∀ n h, I n h → Ev (model pw w) A (pyNext it) h fun r h1 => match r with
      | none => Ev (model pw w) A (execs orelse env) h1 P
      | some v => Ev (model pw w) A (letOwnedTupleGo target it v) h1 fun _ h2 => Ev (model pw w) A (assign target env v) h2 fun _ h3 => Ev (model pw w) A (execs body env) h3 fun f h4 => match f with
        | .next | .cont => ∃ m, m < n ∧ I m h4
        | .brk => P .next h4
        | .ret v => P (.ret v) h4) (n : Nat) (h0 : I n h) : GEv w A (.forLoop target it body orelse env) h P := by
  intro R s hs hQ
  refine codeAny_loop' rfl (fun k s' => ∃ h' tk, s' = { s with heap := h', toks := tk } ∧ I k h') (fun k s' hI => ?_) n ⟨s.heap, s.toks, rfl, hs ▸ h0⟩
  obtain ⟨h', tk, rfl, hI⟩ := hI
  show wpAny _ _ ((forTurn target it body orelse env).onRaise (fun x => do noteFrame x env; theTreesLotGoes x)) _ _ _
  refine wpAny_noted ?_
  simp only [forTurn]
  refine wpAny_bind (wpAny_standAt (wpAny_bind (wpAny_onRaise (turn k h' hI _ _ _ rfl fun r h1 tk1 y => ?_))))
  cases r with
  | none => exact wpAny_pure (.inr ⟨rfl, codeAny_block (y _ _ _ rfl fun f h2 tk2 p => hQ f h2 tk2 p)⟩)
  | some v =>
    refine wpAny_bind (y _ _ _ rfl fun _ h2 tk2 y => wpAny_bind (y _ _ _ rfl fun _ h3 tk3 y => wpAny_bind (y _ _ _ rfl fun f h4 tk4 y => ?_)))
    cases f with
    | next => obtain ⟨m, hm, hi⟩ := y; exact wpAny_pure (.inl ⟨rfl, m, hm, h4, tk4, rfl, hi⟩)
    | cont => obtain ⟨m, hm, hi⟩ := y; exact wpAny_pure (.inl ⟨rfl, m, hm, h4, tk4, rfl, hi⟩)
    | brk => exact wpAny_pure (hQ _ h4 tk4 y)
    | ret v => exact wpAny_pure (hQ _ h4 tk4 y)
/-- a for over an iterator: J i o h holds ahead of turn i, o the iterator's object -/
theorem gev_for_itr {target : Expr} {body orelse : List Stmt} {env : Env} {I : Addr} {gi : Heap} {n : Nat} {V : Nat → Value → Prop} {St : Nat → Obj → Prop} {c : String} (T : Itr w A I gi n V St c) {h : Heap} {P : Flow → Heap → Prop} (J : Nat → Obj → Heap → Prop)
    (hJ : ∀ i o h, J i o h → Kp gi h ∧ h.get? I = some o)
    (step : ∀ i o h v h' o', i < n → J i o h → V i v → Only [I] h h' → h'.get? I = some o' → o'.cls = .type c → Ev (model pw w) A (letOwnedTupleGo target (.ref I) v) h' fun _ h2 => Ev (model pw w) A (assign target env v) h2 fun _ h3 =>
      Ev (model pw w) A (execs body env) h3 fun f h4 => match f with
        | .next | .cont => ∃ o4, J (i + 1) o4 h4 ∧ o4 = o'
        | .brk => P .next h4
        | .ret v => P (.ret v) h4)
    (fin : ∀ o h h', J n o h → Only [I] h h' → Ev (model pw w) A (execs orelse env) h' P) {o : Obj} (st : St 0 o) (h0 : J 0 o h) : GEv w A (.forLoop target (.ref I) body orelse env) h P := by
  refine gev_for (fun k h => ∃ i o, i ≤ n ∧ k = n - i ∧ J i o h ∧ St i o) (fun k h1 => ?_) (n - 0) ⟨0, o, by omega, rfl, h0, st⟩
  rintro ⟨i, o1, hi, rfl, hj, hst⟩
  obtain ⟨k1, k2⟩ := hJ _ _ _ hj
  by_cases hlt : i < n
  · refine T.item hlt k1 k2 hst fun v h' o' hv ho hI hst' => ?_
    refine (step i o1 h1 v h' o' hlt hj hv ho hI (T.cls hst')).mono fun _ h2 x => x.mono fun _ h3 x => x.mono fun f h4 x => ?_
    cases f with
    | next => obtain ⟨o4, x4, e4⟩ := x; exact ⟨n - (i + 1), by omega, i + 1, o4, by omega, rfl, x4, e4 ▸ hst'⟩
    | cont => obtain ⟨o4, x4, e4⟩ := x; exact ⟨n - (i + 1), by omega, i + 1, o4, by omega, rfl, x4, e4 ▸ hst'⟩
    | brk => exact x
    | ret v => exact x
  · have : i = n := by omega
    subst this
    exact T.done k1 k2 hst fun h' ho => fin o1 h1 h' hj ho
/-! ## targets -/
section
variable {h g : Heap} {env : Env} {m : Str → Option Value} {news : List (Addr × Obj)}
theorem ev_own_name {x : Str} {px : Pos} {it v : Value} {P : Unit → Heap → Prop} (p : P () h) : Ev (model pw w) A (letOwnedTupleGo (.Name x px) it v) h P := Ev.pure p
theorem ev_own_tuple {elts : List Expr} {k : Nat} {px : Pos} {I : Addr} {v : Value} {o : Obj} {c : String} {P : Unit → Heap → Prop} (ho : h.get? I = some o) (hc : o.cls = .type c)
    (hn : ["enumerate", "zip", "dict_itemiterator", "dict_reverseitemiterator", "odict_iterator", "itertools.zip_longest", "itertools.pairwise"].contains c = false) (p : P () h) : Ev (model pw w) A (letOwnedTupleGo (.Tuple elts k px) (.ref I) v) h P := by
  unfold letOwnedTupleGo
  cases v with
  | ref a =>
    refine Ev.bind (Ev.load ho ?_)
    rw [hc]
    cases hd : o.data <;> dsimp only <;> first | exact Ev.pure p | (rw [if_neg (by simp only [hn, Bool.false_and]; simp)]; exact Ev.pure p)
  | _ => exact Ev.pure p
theorem ev_asg_name {x : Str} {px : Pos} {v : Value} {P : Unit → Heap → Prop} (y : Ev (model pw w) A (storeName env x v) h P) : Ev (model pw w) A (assign (.Name x px) env v) h P :=
  fun E Q s e hQ => wpAny_assign_Name (y E Q s e hQ)
/-- (a, b) = a tuple of two -/
theorem ev_asg_two {a b : Expr} {k : Nat} {px : Pos} {t : Addr} {x y : Value} {P : Unit → Heap → Prop} (hh : A.handled = none) (ht : h.get? t = some (TO [x, y]))
    (z : ∀ h1, Only [] h h1 → Ev (model pw w) A (assign a env x) h1 fun _ h2 => Ev (model pw w) A (assign b env y) h2 P)
    (he : assignEach [a, b] env = [(false, assign a env), (false, assign b env)] := by rfl) : Ev (model pw w) A (assign (.Tuple [a, b] k px) env (.ref t)) h P := by
  intro E Q s hs hQ
  subst hs
  refine wpAny_assign_Tuple (items := #[x, y]) hh ⟨_, ht, rfl, _, rfl⟩ (by rw [he]; rfl) (by rw [he]; rfl) fun h1 he1 => ?_
  rw [he]
  show wpAny _ _ (assignInOrder [assign a env, assign b env] [x, y]) _ _ _
  have z1 := z h1 (fun c o _ e => he1 c o (Nat.ne_of_lt (Heap.lt_size e)) e)
  refine assignInOrder_cons (z1 _ _ _ rfl fun _ h2 tk2 y => assignInOrder_cons (y _ _ _ rfl fun _ h3 tk3 p => assignInOrder_nil (hQ _ h3 tk3 p)))
end
end Mine
open PySem PySem.W PyProof.Rows PySem.Calls
set_option maxRecDepth 100000
set_option maxHeartbeats 4000000
set_option linter.unusedVariables false
namespace Mine
variable {w : World} {A : Around}
/-! ## list comprehensions -/
noncomputable def FEv (w : World) (A : Around) (c : Code) (h : Heap) (P : Heap → Prop) : Prop :=
  ∀ (R : Result → Shared → Prop) (s : Shared), s.heap = h → (∀ h' tk, P h' → R (.ok .next) { s with heap := h', toks := tk }) → codeAny (model pw w) A c R s
noncomputable abbrev cellN (v : Option Value) : Obj := { cls := .type "cell", data := .cell v }
theorem cells_in : ∀ (names : List (Str × NameKind)) (h : Heap) (acc : List (Str × Addr)) (n : Str) (c : Addr), (n, c) ∈ cellsFrom h.objs.size names acc → (n, c) ∈ acc ∨ ((pushCells h names).get? c = some (cellN none) ∧ h.objs.size ≤ c)
  | [], h, acc, n, c, hm => .inl hm
  | (x, k) :: r, h, acc, n, c, hm => by
    unfold cellsFrom at hm
    unfold pushCells
    split at hm
    · rename_i hk
      rw [if_pos hk]
      have e : h.objs.size + 1 = (h.push (cellN none)).objs.size := (Heap.size_push ..).symm
      rw [e] at hm
      rcases cells_in r _ _ n c hm with q | q
      · rcases List.mem_cons.mp q with q | q
        · cases q
          exact .inr ⟨pushCells_keeps r _ _ _ (Heap.get?_push_size _ rfl), Nat.le_refl _⟩
        · exact .inl q
      · exact .inr ⟨q.1, by have := q.2; rw [Heap.size_push] at this; omega⟩
    · rename_i hk
      rw [if_neg hk]
      exact cells_in r h acc n c hm
/-- the cells of a new frame: its own, empty, or given -/
noncomputable def NewCells (h h3 : Heap) (C : Addr) (cs cl : List (Str × Addr)) : Prop := ∀ n c, (n, c) ∈ cs → (n, c) ∈ cl ∨ (h3.get? c = some (cellN none) ∧ h.get? c = none ∧ c ≠ C)
theorem ev_newCompEnv {scope : Scope} {env : Env} {cl : List (Str × Addr)} {h : Heap} {P : Env → Heap → Prop}
    (p : ∀ C h3, Only [] h h3 → h.get? C = none → h3.Ns C (fun _ => none) → (∀ b, h3.get? b = none → h.get? b = none) → NewCells h h3 C (cellsFrom (nx C) scope.names cl) cl → P (newEnv scope C env.globals (cellsFrom (nx C) scope.names cl) env.qual none .none (some env) builtinsNs) h3) :
    Ev (model pw w) A (newFunctionEnv scope env.globals cl [] env.qual none .none (some env)) h P := by
  intro E Q s hs hQ
  subst hs
  simp only [newFunctionEnv, Option.isSome_some, if_true]
  refine wpAny_bind (wpAny_alloc ?_)
  refine wpAny_bind (wpAny_layCells _ (fun name kind cells => by cases hkc : kind == NameKind.cell <;> simp [hkc]) _ _ _ _ ?_)
  refine wpAny_bind (wpAny_pure (wpAny_pure ?_))
  have e : ({ s with heap := s.heap.push { cls := .type "dict", data := .dict #[] } } : Shared).heap.objs.size = nx s.heap.objs.size := Heap.size_push ..
  rw [e]
  have kp : ∀ b o, s.heap.get? b = some o → (pushCells (s.heap.push { cls := .type "dict", data := .dict #[] }) scope.names).get? b = some o := fun b o q => pushCells_keeps _ _ b o (Heap.get?_push_of_some _ q)
  refine hQ _ _ s.toks (p s.heap.objs.size _ (fun b o _ q => kp b o q) (Heap.get?_none_of_le (Nat.le_refl _)) ((Heap.Ns.new s.heap (.type "dict")).keeps (pushCells_keeps _ _)) (fun b q => ?_) fun n c hm => ?_)
  · cases hb : s.heap.get? b with
    | none => rfl
    | some o => rw [kp b o hb] at q; cases q
  · rw [← e] at hm
    rcases cells_in _ _ _ n c hm with q | q
    · exact .inl q
    · refine .inr ⟨q.1, Heap.get?_none_of_le (by have := q.2; rw [e] at this; unfold nx at this; omega), fun x => ?_⟩
      have := q.2
      rw [e, x] at this
      exact Nat.lt_irrefl _ this
noncomputable def localsOk (all : List (Str × NameKind)) : List (Str × NameKind) → Bool
  | [] => true
  | x :: r => (match x.2 with | .local => (match all.lookup x.1 with | some .local => true | _ => false) | _ => true) && localsOk all r
theorem localsOk_of {all l : List (Str × NameKind)} (h : localsOk all l = true) : ∀ x ∈ l, x.2 = .local → all.lookup x.1 = some .local := by
  induction l with
  | nil => intro x hx; cases hx
  | cons y r ih =>
    simp only [localsOk, Bool.and_eq_true] at h
    intro x hx hl
    rcases List.mem_cons.mp hx with rfl | hx
    · have h1 := h.1
      rw [hl] at h1
      simp only at h1
      cases hk : all.lookup x.1 with
      | none => rw [hk] at h1; simp at h1
      | some k => cases k <;> first | rfl | (rw [hk] at h1; simp at h1)
    · exact ih h.2 x hx hl
/-- what a comprehension starts with -/
noncomputable abbrev cenvc (scope : Scope) (cl : List (Str × Addr)) (C : Addr) (env : Env) : Env := compEnvC scope (cellsFrom (nx C) scope.names cl) C env
noncomputable def CompAt (w : World) (A : Around) (e : Expr) (scope : Scope) (env : Env) (cl : List (Str × Addr)) (it : Value) (h2 : Heap) (P : Addr → Addr → Heap → Prop) : Prop :=
  ∀ D C h3, Only [] h2 h3 → h2.get? D = none → h3.get? D = some (LO [] 0) → h2.get? C = none → D ≠ C → h3.Ns C (fun _ => none) → NewCells h2 h3 C (cellsFrom (nx C) scope.names cl) cl → (∀ n c, (n, c) ∈ cellsFrom (nx C) scope.names cl → (n, c) ∈ cl ∨ c ≠ D) →
    FEv w A (.compStart e 0 it (.ref D) (cenvc scope cl C env)) h3 (P D C)
theorem ev_comp {elt target iter : Expr} {ifs : List Expr} {rest : List Comprehension} {scope : Scope} {pos : Pos} {env : Env} {cl : List (Str × Addr)} {h : Heap} {P : Value → Heap → Prop}
    (x : Ev (model pw w) A (eval iter env) h fun xv h1 => Ev (model pw w) A (pyIter xv) h1 fun it h2 => CompAt w A (.ListComp elt (⟨target, iter, ifs, 0⟩ :: rest) scope pos) scope env cl it h2 fun D C h4 => ∃ m, h4.Ns C m ∧ ∀ h5, Only [C] h4 h5 → P (.ref D) h5)
    (hclos : closureFor scope env = pure cl := by rfl) (hkind : scope.kind = .function := by rfl) (hnames : localsOk scope.names scope.names = true := by rfl) (hs : ∀ x, foldedSetIterable iter env x = pure x := by intro _; rfl) :
    Ev (model pw w) A (eval (.ListComp elt (⟨target, iter, ifs, 0⟩ :: rest) scope pos) env) h P := by
  intro E Q s hs' hQ
  rw [eval_ListComp]
  refine wpAny_comprehension_free (use := none) rfl hs hclos hkind (localsOk_of hnames) (x _ _ s hs' fun xv h1 tk1 y => y _ _ _ rfl fun it h2 tk2 z => ?_)
  have nl : Ev (model pw w) A (newList []) h2 fun acc h3 => Ev (model pw w) A (newFunctionEnv scope env.globals cl [] env.qual none .none (some env)) h3 fun cenv h4 => ∃ D C, acc = .ref D ∧ cenv = newEnv scope C env.globals (cellsFrom (nx C) scope.names cl) env.qual none .none (some env) builtinsNs ∧
      FEv w A (.compStart (.ListComp elt (⟨target, iter, ifs, 0⟩ :: rest) scope pos) 0 it (.ref D) (cenvc scope cl C env)) h4 fun h4 => ∃ m, h4.Ns C m ∧ ∀ h5, Only [C] h4 h5 → P (.ref D) h5 := by
    refine ev_newList (by simp) fun D h3 o3 d1 d2 => ?_
    refine ev_newCompEnv fun C h4 o4 c1 c2 c3 c4 => ⟨D, C, rfl, rfl, z D C h4 (o3.trans o4) d1 (o4 _ _ nin0 d2) ?_ (fun q => ?_) c2 (fun n c hm => ?_) fun n c hm => ?_⟩
    · cases hc : h2.get? C with
      | none => rfl
      | some o => rw [o3 _ _ nin0 hc] at c1; cases c1
    · rw [q] at d2; rw [d2] at c1; cases c1
    · rcases c4 n c hm with q | ⟨q1, q2, q3⟩
      · exact .inl q
      · refine .inr ⟨q1, ?_, q3⟩
        cases hc : h2.get? c with
        | none => rfl
        | some o => rw [o3 _ _ nin0 hc] at q2; cases q2
    · rcases c4 n c hm with q | ⟨q1, q2, q3⟩
      · exact .inl q
      · exact .inr fun e => by rw [e] at q2; rw [d2] at q2; cases q2
  refine nl _ _ _ rfl fun acc h3 tk3 y => y _ _ _ rfl fun cenv h4 tk4 y => ?_
  obtain ⟨D, C, rfl, rfl, y⟩ := y
  refine y _ _ rfl fun h5 tk5 p => ?_
  obtain ⟨m, hm, p⟩ := p
  exact ⟨m, hm, fun h6 hs6 => hQ _ h6 tk5 (p h6 (only_of_same hs6))⟩
theorem ev_assign_comp {elt target iter : Expr} {ifs : List Expr} {rest : List Comprehension} {scope : Scope} {pos spos py : Pos} {yn : Str} {env : Env} {cl : List (Str × Addr)} {h : Heap} {P : Flow → Heap → Prop}
    (x : Ev (model pw w) A (eval iter env) h fun xv h1 => Ev (model pw w) A (pyIter xv) h1 fun it h2 => CompAt w A (.ListComp elt (⟨target, iter, ifs, 0⟩ :: rest) scope pos) scope env cl it h2 fun D C h4 => Ev (model pw w) A (storeName env yn (.ref D)) h4 fun _ h5 => ∃ m, h5.Ns C m ∧ ∀ h6, Only [C] h5 h6 → P .next h6)
    (hsw : swapsWith (.ListComp elt (⟨target, iter, ifs, 0⟩ :: rest) scope pos) (some (.Name yn py)) spos.line env = pure true := by rfl)
    (hclos : closureFor scope env = pure cl := by rfl) (hkind : scope.kind = .function := by rfl) (hnames : localsOk scope.names scope.names = true := by rfl) (hs : ∀ x, foldedSetIterable iter env x = pure x := by intro _; rfl) :
    Ev (model pw w) A (exec (.Assign [.Name yn py] (.ListComp elt (⟨target, iter, ifs, 0⟩ :: rest) scope pos) spos) env) h P := by
  intro E Q s hs' hQ
  rw [exec_Assign_Name_used _ _ _ _ hsw]
  refine wpAny_bind (wpAny_standAt (wpAny_bind ?_))
  show wpAny _ A (do let _ ← comprehension (.ListComp elt (⟨target, iter, ifs, 0⟩ :: rest) scope pos) scope env _ (newList []) false (eval iter env) (some (assign (.Name yn py) env))) _ _ s
  refine wpAny_bind (wpAny_mono (Q := fun _ s' => Q .next s') ?_ (fun _ s' hq => wpAny_pure (wpAny_pure hq)) fun _ _ e => e)
  refine wpAny_comprehension_free (use := some (assign (.Name yn py) env)) rfl hs hclos hkind (localsOk_of hnames) (x _ _ s hs' fun xv h1 tk1 y => y _ _ _ rfl fun it h2 tk2 z => ?_)
  have nl : Ev (model pw w) A (newList []) h2 fun acc h3 => Ev (model pw w) A (newFunctionEnv scope env.globals cl [] env.qual none .none (some env)) h3 fun cenv h4 => ∃ D C, acc = .ref D ∧ cenv = newEnv scope C env.globals (cellsFrom (nx C) scope.names cl) env.qual none .none (some env) builtinsNs ∧
      FEv w A (.compStart (.ListComp elt (⟨target, iter, ifs, 0⟩ :: rest) scope pos) 0 it (.ref D) (cenvc scope cl C env)) h4 fun h4 => Ev (model pw w) A (storeName env yn (.ref D)) h4 fun _ h5 => ∃ m, h5.Ns C m ∧ ∀ h6, Only [C] h5 h6 → P .next h6 := by
    refine ev_newList (by simp) fun D h3 o3 d1 d2 => ?_
    refine ev_newCompEnv fun C h4 o4 c1 c2 c3 c4 => ⟨D, C, rfl, rfl, z D C h4 (o3.trans o4) d1 (o4 _ _ nin0 d2) ?_ (fun q => ?_) c2 (fun n c hm => ?_) fun n c hm => ?_⟩
    · cases hc : h2.get? C with
      | none => rfl
      | some o => rw [o3 _ _ nin0 hc] at c1; cases c1
    · rw [q] at d2; rw [d2] at c1; cases c1
    · rcases c4 n c hm with q | ⟨q1, q2, q3⟩
      · exact .inl q
      · refine .inr ⟨q1, ?_, q3⟩
        cases hc : h2.get? c with
        | none => rfl
        | some o => rw [o3 _ _ nin0 hc] at q2; cases q2
    · rcases c4 n c hm with q | ⟨q1, q2, q3⟩
      · exact .inl q
      · exact .inr fun e => by rw [e] at q2; rw [d2] at q2; cases q2
  refine nl _ _ _ rfl fun acc h3 tk3 y => y _ _ _ rfl fun cenv h4 tk4 y => ?_
  obtain ⟨D, C, rfl, rfl, y⟩ := y
  refine y _ _ rfl fun h5 tk5 p => ?_
  refine ev_asg_name p _ _ _ rfl fun _ h6 tk6 q => ?_
  obtain ⟨m, hm, q⟩ := q
  exact ⟨m, hm, fun h7 hs7 => hQ _ h7 tk6 (q h7 (only_of_same hs7))⟩
theorem fev_start {elt : Expr} {gens : List Comprehension} {scope : Scope} {pos : Pos} {depth : Nat} {it acc : Value} {cenv : Env} {target iter : Expr} {ifs : List Expr} {h : Heap} {P : Heap → Prop} (hg : gens[depth]? = some ⟨target, iter, ifs, 0⟩)
    (hi : ∀ {Q : Value → Heap → Prop}, Q it h → Ev (model pw w) A (pyIter it) h Q) (x : FEv w A (.compLoop (.ListComp elt gens scope pos) depth it acc cenv) h P) : FEv w A (.compStart (.ListComp elt gens scope pos) depth it acc cenv) h P := by
  intro R s hs hQ
  refine codeAny_of_tree ?_
  show wpAny _ _ ((compStart (.ListComp elt gens scope pos) depth it acc cenv).onRaise (fun x => do noteFrame x cenv; standAt theWindowsPlace)) _ _ s
  refine wpAny_notedAt ?_
  unfold compStart
  have hc : (clausesOf (.ListComp elt gens scope pos))[depth]? = some ⟨target, iter, ifs, 0⟩ := hg
  rw [hc]
  show wpAny _ _ (ask >>= _) _ _ s
  refine wpAny_bind (wpAny_askSetting (wpAny_ite ?_))
  split
  · first
      | exact wpAny_bind (wpAny_pure (wpAny_pure (And.intro rfl (x R s hs hQ))))
      | exact wpAny_pure (And.intro rfl (x R s hs hQ))
  · refine wpAny_bind (wpAny_rule ?_)
    show wpAny _ _ (standAt iter.pos >>= _) _ _ s
    refine wpAny_bind (wpAny_standAt (wpAny_bind (hi (Q := fun v h' => v = it ∧ h' = h) ⟨rfl, rfl⟩ _ _ s hs fun v h' tk e => ?_)))
    obtain ⟨rfl, rfl⟩ := e
    exact wpAny_pure ⟨rfl, x R _ rfl fun h' tk p => hQ h' tk p⟩
noncomputable def compTests' (ifs : List Expr) (env : Env) : Sem Bool := forIn ifs true fun c r => if r = true then do let ok ← isTrue c env (eval c env); pure (ForInStep.yield ok) else pure (ForInStep.yield r)
/-- a loop of a comprehension; emit: what one passing turn does -/
theorem fev_loop {elt : Expr} {gens : List Comprehension} {scope : Scope} {pos : Pos} {depth : Nat} {it acc : Value} {cenv : Env} {target iter : Expr} {ifs : List Expr} {emit : Sem Unit} {h : Heap} {P : Heap → Prop}
    (ht : compTurn (.ListComp elt gens scope pos) depth it acc cenv = (do
      standAt iter.pos
      match ← pyNext it with
      | none => pure (.done .next)
      | some v =>
        letOwnedTupleGo target it v
        assign target cenv v
        let mut ok := true
        for c in ifs do
          if ok then ok ← isTrue c cenv (eval c cenv)
        if ok then emit
        again (.compLoop (.ListComp elt gens scope pos) depth it acc cenv))) (I : Nat → Heap → Prop)
    (turn : ∀ n h, I n h → Ev (model pw w) A (pyNext it) h fun r h1 => match r with
      | none => P h1
      | some v => Ev (model pw w) A (letOwnedTupleGo target it v) h1 fun _ h2 => Ev (model pw w) A (assign target cenv v) h2 fun _ h3 => Ev (model pw w) A (compTests' ifs cenv) h3 fun ok h4 =>
        if ok then Ev (model pw w) A emit h4 fun _ h5 => ∃ m, m < n ∧ I m h5 else ∃ m, m < n ∧ I m h4) (n : Nat) (h0 : I n h) : FEv w A (.compLoop (.ListComp elt gens scope pos) depth it acc cenv) h P := by
  intro R s hs hQ
  refine codeAny_loop rfl (fun k s' => ∃ h' tk, s' = { s with heap := h', toks := tk } ∧ I k h') (fun k s' hI => ?_) n ⟨s.heap, s.toks, rfl, hs ▸ h0⟩
  obtain ⟨h', tk, rfl, hI⟩ := hI
  show wpAny _ A ((compTurn (.ListComp elt gens scope pos) depth it acc cenv).onRaise (fun x => do noteFrame x cenv; theTreesLotGoes x)) _ _ _
  refine wpAny_noted ?_
  rw [ht]
  refine wpAny_bind (wpAny_standAt (wpAny_bind (turn k h' hI _ _ _ rfl fun r h1 tk1 y => ?_)))
  cases r with
  | none => exact wpAny_pure (hQ _ tk1 y)
  | some v =>
    refine wpAny_bind (y _ _ _ rfl fun _ h2 tk2 y => wpAny_bind (y _ _ _ rfl fun _ h3 tk3 y => wpAny_bind (y _ _ _ rfl fun ok h4 tk4 y => ?_)))
    cases ok with
    | false => exact wpAny_pure (by obtain ⟨m, hm, hi⟩ := y; exact ⟨rfl, m, hm, h4, tk4, rfl, hi⟩)
    | true =>
      refine wpAny_bind (y _ _ _ rfl fun _ h5 tk5 y => wpAny_pure ?_)
      obtain ⟨m, hm, hi⟩ := y
      exact ⟨rfl, m, hm, h5, tk5, rfl, hi⟩
theorem ev_tests0 {env : Env} {h : Heap} {P : Bool → Heap → Prop} (p : P true h) : Ev (model pw w) A (compTests' [] env) h P := Ev.pure p
theorem ev_tests1 {env : Env} {c : Expr} {h : Heap} {P : Bool → Heap → Prop} (p : Ev (model pw w) A (isTrue c env (eval c env)) h P) : Ev (model pw w) A (compTests' [c] env) h P := by
  unfold compTests'
  simp only [List.forIn_cons, List.forIn_nil, if_true]
  exact Ev.bind (Ev.bind (p.mono fun b h' p => Ev.pure (Ev.pure p)))
/-- the innermost turn: the element is added -/
theorem ev_emit {elt : Expr} {cenv : Env} {D : Addr} {ys : List Value} {n : Nat} {h : Heap} {P : Unit → Heap → Prop} (hz : ys.length < 64)
    (x : Ev (model pw w) A (eval elt cenv) h fun y h1 => h1.get? D = some (LO ys n) ∧ ∀ h2, Only [D] h1 h2 → h2.get? D = some (LO (ys ++ [y]) (n + 1)) → P () h2) : Ev (model pw w) A (do let _ ← call (.builtin "list.append") [.ref D, ← eval elt cenv]) h P :=
  Ev.bind (x.mono fun y h1 z => Ev.bind (ev_append z.1 hz fun h2 o2 g2 => Ev.pure (z.2 h2 o2 g2)))
/-- an outer turn: the inner loop is run -/
theorem ev_inner {e : Expr} {depth : Nat} {cenv : Env} {acc : Value} {iter : Expr} {h : Heap} {P : Unit → Heap → Prop}
    (x : Ev (model pw w) A (eval iter cenv) h fun xv h1 => Ev (model pw w) A (pyIter xv) h1 fun it h2 => FEv w A (.compStart e depth it acc cenv) h2 (P ()))
    (hs : ∀ x, foldedSetIterable iter cenv x = pure x := by intro _; rfl) : Ev (model pw w) A (do
        let x ← eval iter cenv
        standAt iter.pos
        let x ← foldedSetIterable iter cenv x
        let _ ← runOwn (.compStart e depth (← holding [x] (pyIter x)) acc cenv) cenv) h P := by
  refine Ev.bind (x.mono fun xv h1 y => Ev.bind (Ev.standAt ?_))
  rw [hs]
  refine Ev.bind (Ev.pure (Ev.bind (Ev.holding (y.mono fun it h2 z => Ev.bind ?_))))
  refine fun E Q s e hQ => wpAny_runOwn (z _ s e fun h3 tk3 p => hQ _ h3 tk3 (Ev.pure p))
end Mine
open PySem PySem.W PyProof.Rows PySem.Calls
set_option maxRecDepth 100000
set_option maxHeartbeats 4000000
set_option linter.unusedVariables false
namespace Mine
variable {w : World} {A : Around} {Bh : Heap}
/-! ## cells -/
section
variable {M : Model} {h : Heap} {env : Env}
theorem ev_ldc {x : Str} {pos : Pos} {c : Addr} {o : Obj} {v : Value} {P : Value → Heap → Prop} (ho : h.get? c = some o) (hd : o.data = .cell (some v)) (p : P v h)
    (hc : env.cells.lookup x = some c := by rfl) (hk : env.scope.kind = .function := by rfl) (hl : env.kindOf x = some .cell := by rfl) (hb : (x == ("__debug__" : Str)) = false := by decide) : Ev M A (eval (.Name x pos) env) h P := by
  intro E Q s hs hQ; subst hs
  exact wpAny_Name (wpAny_loadName_cell hk hl hc ⟨o, ho, hd⟩ (hQ _ _ s.toks p)) hb
theorem ev_ldf {x : Str} {pos : Pos} {c : Addr} {o : Obj} {v : Value} {P : Value → Heap → Prop} (ho : h.get? c = some o) (hd : o.data = .cell (some v)) (p : P v h)
    (hc : env.cells.lookup x = some c := by rfl) (hk : env.scope.kind = .function := by rfl) (hl : env.kindOf x = some .free := by rfl) (hb : (x == ("__debug__" : Str)) = false := by decide) (hn : (x == ("__classdict__" : Str)) = false := by decide) : Ev M A (eval (.Name x pos) env) h P := by
  intro E Q s hs hQ; subst hs
  exact wpAny_Name (wpAny_loadName_free hk hl hc ⟨o, ho, hd⟩ (hQ _ _ s.toks p) hn) hb
theorem ev_stc {x : Str} {c : Addr} {o : Obj} {v₀ : Option Value} {v : Value} {P : Unit → Heap → Prop} (ho : h.get? c = some o) (hd : o.data = .cell v₀)
    (p : ∀ h' o', Only [c] h h' → h'.get? c = some o' → o'.data = .cell (some v) → P () h')
    (hc : env.cells.lookup x = some c := by rfl) (hk : env.scope.kind = .function := by rfl) (hl : env.kindOf x = some .cell := by rfl) : Ev M A (storeName env x v) h P := by
  intro E Q s hs hQ; subst hs
  refine wpAny_storeName_cell hk hl hc ⟨o, ho, hd⟩ fun h' hi hs' => ?_
  obtain ⟨o', ho', hd'⟩ := hi
  exact hQ _ _ s.toks (p h' o' (only_of_same hs') ho' hd')
end
noncomputable def kindIn (scope : Scope) (x : Str) : Option NameKind := scope.names.lookup x
noncomputable def bindsOk (names : List (Str × NameKind)) (cs : List (Str × Addr)) : List (Str × Value) → Bool
  | [] => true
  | x :: r => (match names.lookup x.1 with | some .local => true | some .cell => (cs.lookup x.1).isSome | _ => false) && bindsOk names cs r
theorem bindsOk_of {names : List (Str × NameKind)} {cs : List (Str × Addr)} {l : List (Str × Value)} (h : bindsOk names cs l = true) : ∀ x ∈ l, names.lookup x.1 = some .local ∨ (names.lookup x.1 = some .cell ∧ (cs.lookup x.1).isSome = true) := by
  induction l with
  | nil => intro x hx; cases hx
  | cons y r ih =>
    simp only [bindsOk, Bool.and_eq_true] at h
    intro x hx
    rcases List.mem_cons.mp hx with rfl | hx
    · revert h
      cases hl : names.lookup x.1 with
      | none => simp
      | some k =>
        cases k <;> simp
        exact fun a ha _ => ⟨a, ha⟩
    · exact ih h.2 x hx
/-- a call of a def of the text that has cells of its own -/
theorem CEv.fnc {h : Heap} (B : Base w Bh) (kb : Kp Bh h) {n : Nat} (room : Room A (n + 1)) {fa c : Addr} {st : Stmt} {qual name : Str} {params : Arguments} {body : List Stmt} {deco : List Expr} {ret : Option Expr} {tp : List TypeParam} {scope : Scope} {ts : Option Scope} {bind : Str} {pos : Pos}
    {dV kV doc pm ct : Value} {an : Option Addr} {vs : Array Value} {t : Tok} {vals : List Value} {P : Value → Heap → Prop} (binds : List (Str × Value)) (led : List (Addr × Obj))
    (hf : (K w.params).lookup fa = some ⟨.type "function", none, .func (fdOf st qual [] dV kV doc pm an (.ref c) ct), #[]⟩) (hc : (K w.params).lookup c = some ⟨.type "code", none, .fields vs, #[]⟩) (hq : vs[1]? = some (.str qual t))
    (hst : st = .FunctionDef name params body deco ret tp scope ts bind pos) (hk : scope.kind = .function) (hco : scope.isCoroutine = false) (hgen : scope.isGenerator = false)
    (hbind : ∀ s : Shared, s.heap = h → BindsTo s (fdOf st qual [] dV kV doc pm an (.ref c) ct) ⟨vals, []⟩ binds)
    (hloc : ∀ L, bindsOk scope.names (cellsFrom (nx L) scope.names []) binds = true) (hled : ∀ p ∈ led, h.get? p.1 = some p.2)
    (hb : ∀ L h₁, Room (A.deeper (fenvc scope qual L fa c)) n → Kp h h₁ → Fm (hideAll h (led.map (·.1))) L h₁ (bindL (kindIn scope) binds fun _ => none) → Nw (hideAll h (led.map (·.1))) L h₁ led →
      (∀ x a, (cellsFrom (nx L) scope.names []).lookup x = some a → ∃ o, h₁.get? a = some o ∧ o.data = .cell (bindC (kindIn scope) binds (fun _ => none) x) ∧ L < a ∧ h.get? a = none) →
      Ev (model pw w) (A.deeper (fenvc scope qual L fa c)) (execs body (fenvc scope qual L fa c)) h₁ fun f h' => P (flowV f) h') :
    CEv (model pw w) A (.call (.ref fa) ⟨vals, []⟩) h P := by
  intro R s hs hQ
  subst hs
  subst hst
  have hcd : s.heap.CodeRec (.ref c) qual := ⟨c, _, vs, t, rfl, kb _ _ (B.X c _ hc), rfl, hq⟩
  refine codeAny_call_function (fd := fdOf (.FunctionDef name params body deco ret tp scope ts bind pos) qual [] dV kV doc pm an (.ref c) ct) (body := body) room.lim (kb _ _ (B.X fa _ hf)) rfl hco hgen rfl hcd ?_
  refine hbind s rfl _ _ _ _ ?_
  refine wpAny_newFunctionEnv_cells hk (bindsOk_of (hloc _)) fun env he s' x => ?_
  subst he
  obtain ⟨h₁, tk, rfl⟩ := x.toInCall.same
  refine ⟨B.nolim.keeps fun b o e => x.toInCall.keep b o (kb b o e), ?_⟩
  refine codeAny_func ?_
  have z := hb s.heap.objs.size h₁ (room.deeper _) (fun b o e => x.toInCall.keep b o e) ⟨x.toInCall.ns, fun b o e => x.toInCall.keep b o (of_hideAll _ e), Heap.get?_none_of_le (Nat.le_of_eq (hideAll_size _ _))⟩
    (fun p hp => ⟨x.toInCall.keep _ _ (hled p hp), Nat.ne_of_lt (Heap.lt_size (hled p hp)), hideAll_none _ (List.mem_map_of_mem hp)⟩)
    (fun y a e => by
      obtain ⟨o, ho, hd⟩ := x.cell y a e
      have := x.above y a (mem_of_lookup e)
      exact ⟨o, ho, hd, this, Heap.get?_none_of_le (Nat.le_of_lt this)⟩)
  exact z _ _ _ rfl fun f h' tk p => by
    cases f <;> exact hQ _ h' _ p
end Mine
open PySem PySem.W PyProof.Rows PySem.Calls
set_option maxRecDepth 100000
set_option maxHeartbeats 4000000
set_option linter.unusedVariables false
namespace Mine
/-! ## kinds of items: what a value stands for, and the order that the text sees -/
structure Item (w : World) (α : Type) where
  R : Heap → Value → α → Prop
  up : ∀ {h h' : Heap} {v : Value} {a : α}, Kp h h' → R h v a → R h' v a
  lt : α → α → Bool
  ev : ∀ {A : Around} {h : Heap} {v u : Value} {a b : α} {P : Value → Heap → Prop}, Room A 1 → R h v a → R h u b → P (.bool (lt a b)) h → Ev (model pw w) A (compareOp .Lt v u) h P
/-- a list of such items -/
inductive All2 {α β : Type} (R : α → β → Prop) : List α → List β → Prop
  | nil : All2 R [] []
  | cons {a b l m} : R a b → All2 R l m → All2 R (a :: l) (b :: m)
noncomputable def SeqL (R : Heap → Value → α → Prop) (h : Heap) : List Value → List α → Prop := All2 (R h)
theorem SeqL.at {R : Heap → Value → α → Prop} {h : Heap} {xs : List Value} {as : List α} (x : SeqL R h xs as) : ∀ {k : Nat} {a : α}, as[k]? = some a → ∃ v, xs[k]? = some v ∧ R h v a := by
  induction x with
  | nil => intro k a e; cases e
  | cons r _ ih =>
    intro k a e
    cases k with
    | zero => cases e; exact ⟨_, rfl, r⟩
    | succ k => exact ih e
theorem SeqL.set {R : Heap → Value → α → Prop} {h : Heap} {v : Value} {a : α} (r : R h v a) {xs : List Value} {as : List α} (x : SeqL R h xs as) : ∀ {k : Nat}, SeqL R h (xs.set k v) (as.set k a) := by
  induction x with
  | nil => exact .nil
  | cons x y ih =>
    intro k
    cases k with
    | zero => exact .cons r y
    | succ k => exact .cons x ih
theorem SeqL.len {R : Heap → Value → α → Prop} {h : Heap} {xs : List Value} {as : List α} (x : SeqL R h xs as) : xs.length = as.length := by
  induction x with
  | nil => rfl
  | cons _ _ ih => exact congrArg (· + 1) ih
theorem SeqL.imp {R R' : Heap → Value → α → Prop} {h h' : Heap} (k : ∀ v a, R h v a → R' h' v a) {xs : List Value} {as : List α} (x : SeqL R h xs as) : SeqL R' h' xs as := by
  induction x with
  | nil => exact .nil
  | cons r _ ih => exact .cons (k _ _ r) ih
theorem SeqL.cons' {R : Heap → Value → α → Prop} {h : Heap} {v : Value} {a : α} {xs : List Value} {as : List α} (r : R h v a) (y : SeqL R h xs as) : SeqL R h (v :: xs) (a :: as) := .cons r y
theorem All2.snoc {β γ : Type} {R : β → γ → Prop} {b : β} {c : γ} {xs : List β} {as : List γ} (x : All2 R xs as) (r : R b c) : All2 R (xs ++ [b]) (as ++ [c]) := by
  induction x with
  | nil => exact .cons r .nil
  | cons x _ ih => exact .cons x ih
theorem SeqL.snoc {R : Heap → Value → α → Prop} {h : Heap} {v : Value} {a : α} {xs : List Value} {as : List α} (x : SeqL R h xs as) (r : R h v a) : SeqL R h (xs ++ [v]) (as ++ [a]) := All2.snoc x r
theorem All2.snoc_inv {β γ : Type} {R : β → γ → Prop} {a : γ} {as : List γ} : ∀ {xs : List β}, All2 R xs (as ++ [a]) → ∃ ys v, xs = ys ++ [v] ∧ All2 R ys as ∧ R v a := by
  induction as with
  | nil =>
    intro xs x
    cases x with
    | cons r x => cases x; exact ⟨[], _, rfl, .nil, r⟩
  | cons b as ih =>
    intro xs x
    cases x with
    | cons r y =>
      obtain ⟨ys, v, rfl, r1, r2⟩ := ih y
      exact ⟨_ :: ys, v, rfl, .cons r r1, r2⟩
theorem SeqL.snoc_inv {R : Heap → Value → α → Prop} {h : Heap} {a : α} {xs : List Value} {as : List α} (x : SeqL R h xs (as ++ [a])) : ∃ ys v, xs = ys ++ [v] ∧ SeqL R h ys as ∧ R h v a := All2.snoc_inv x
theorem All2.imp {β γ : Type} {R R' : β → γ → Prop} (k : ∀ v a, R v a → R' v a) {xs : List β} {as : List γ} (x : All2 R xs as) : All2 R' xs as := by
  induction x with
  | nil => exact .nil
  | cons r _ ih => exact .cons (k _ _ r) ih
theorem All2.len {β γ : Type} {R : β → γ → Prop} {xs : List β} {as : List γ} (x : All2 R xs as) : xs.length = as.length := by
  induction x with
  | nil => rfl
  | cons _ _ ih => exact congrArg (· + 1) ih
theorem All2.map_r {α β γ : Type} {R : α → γ → Prop} (c : β → γ) {xs : List α} {bs : List β} (x : All2 (fun v b => R v (c b)) xs bs) : All2 R xs (bs.map c) := by
  induction x with
  | nil => exact .nil
  | cons r _ ih => exact .cons r ih
theorem All2.of_map_r {α β γ : Type} {R : α → γ → Prop} (c : β → γ) {bs : List β} : ∀ {xs : List α}, All2 R xs (bs.map c) → All2 (fun v b => R v (c b)) xs bs := by
  induction bs with
  | nil => intro xs x; cases x; exact .nil
  | cons b bs ih =>
    intro xs x
    cases x with
    | cons r x => exact .cons r (ih x)
/-! ## `_siftdown` -/
noncomputable def sdown (lt : α → α → Bool) (x : α) (start : Nat) : Nat → List α → Nat → List α
  | 0, as, pos => as.set pos x
  | f + 1, as, pos => if start < pos then
      match as[(pos - 1) / 2]? with
      | some y => if lt x y then sdown lt x start f (as.set pos y) ((pos - 1) / 2) else as.set pos x
      | none => as
    else as.set pos x
theorem half_int {n : Nat} (h : 0 < n) : ((n : Int) - 1).fdiv (2 ^ (1 : Int).toNat) = ((n - 1) / 2 : Nat) := by
  have : ((n : Int) - 1) = ((n - 1 : Nat) : Int) := by omega
  rw [this]
  show Int.fdiv _ 2 = _
  rw [Int.fdiv_eq_ediv_of_nonneg _ (by omega)]
  omega
theorem sdown_length (lt : α → α → Bool) (x : α) (start : Nat) : ∀ (f : Nat) (as : List α) (pos : Nat), (sdown lt x start f as pos).length = as.length
  | 0, as, pos => by simp [sdown]
  | f + 1, as, pos => by
    unfold sdown
    split
    · split
      · split
        · rw [sdown_length]; simp
        · simp
      · rfl
    · simp
noncomputable def putAt (as : List α) (i j : Nat) : List α := match as[j]? with
  | some y => as.set i y
  | none => as
noncomputable def ltAt2 (lt : α → α → Bool) (as : List α) (i j : Nat) : Bool := match as[i]?, as[j]? with
  | some a, some b => lt a b
  | _, _ => false
noncomputable def sup (lt : α → α → Bool) (x : α) (start : Nat) : Nat → List α → Nat → List α
  | 0, as, _ => as
  | f + 1, as, pos => if 2 * pos + 1 < as.length then
      sup lt x start f (putAt as pos (if 2 * pos + 2 < as.length && !(ltAt2 lt as (2 * pos + 1) (2 * pos + 2)) then 2 * pos + 2 else 2 * pos + 1)) (if 2 * pos + 2 < as.length && !(ltAt2 lt as (2 * pos + 1) (2 * pos + 2)) then 2 * pos + 2 else 2 * pos + 1)
    else sdown lt x start pos (as.set pos x) pos
theorem sup_length (lt : α → α → Bool) (x : α) (start : Nat) : ∀ (f : Nat) (as : List α) (pos : Nat), (sup lt x start f as pos).length = as.length
  | 0, as, pos => by simp [sup]
  | f + 1, as, pos => by
    unfold sup
    split
    · rw [sup_length]
      unfold putAt
      split <;> simp
    · rw [sdown_length]; simp
noncomputable def flp (lt : α → α → Bool) (a b : α) : Bool := lt b a
theorem Kp.trans' {h h' h'' : Heap} (a : Kp h h') (b : Kp h' h'') : Kp h h'' := fun c o e => b c o (a c o e)
theorem mulOk_small {n : Nat} (h : n < 10000) : IntMulOk 2 (n : Int) := IntMulOk.of_left (by decide)
end Mine
open PySem PySem.W PyProof.Rows PySem.Calls
set_option maxRecDepth 100000
set_option maxHeartbeats 4000000
set_option linter.unusedVariables false
namespace Mine
variable {w : World} {Bh : Heap} {α : Type}
/-! ## the loops of `_siftdown` and `_siftup`, for the heap and for the max heap -/
section
variable {A : Around} {h : Heap} {prog : Program}
theorem nat64 {k n : Nat} (h1 : k < n) (h2 : n < 64) : ((k : Nat) : Int) < 2 ^ 63 := by omega
theorem ev_ltn {a b : Nat} {t u : Tok} {P : Value → Heap → Prop} (p : P (.bool (decide (a < b))) h) : Ev (model prog w) A (compareOp .Lt (.int a t) (.int b u)) h P :=
  ev_lti (by rw [show decide ((a : Int) < b) = decide (a < b) from decide_eq_decide.mpr Int.ofNat_lt]; exact p)
theorem ev_gtn {a b : Nat} {t u : Tok} {P : Value → Heap → Prop} (p : P (.bool (decide (b < a))) h) : Ev (model prog w) A (compareOp .Gt (.int a t) (.int b u)) h P :=
  ev_gti (by rw [show decide ((b : Int) < a) = decide (b < a) from decide_eq_decide.mpr Int.ofNat_lt]; exact p)
theorem ev_tail_n {value slice : Expr} {l : Addr} {xs : List Value} {n k : Nat} {u : Tok} {x : Value} {P : Value → Heap → Prop} (hl : h.get? l = some (LO xs n)) (hz : xs.length < 64) (hx : xs[k]? = some x) (p : P x h)
    (hs : subscripted slice false (.ref l) (.int k u) = operate [.ref l, .int k u] (getItem (.ref l) (.int k u)) := by with_unfolding_all rfl) (hg : ∀ r, letTemporaryGo value (.ref l) r = pure () := by intro _; with_unfolding_all rfl) :
    Ev (model prog w) A (PyProof.Rows.subscriptTail value slice (.ref l) (.int k u)) h P :=
  ev_tail_list hl (Int.natCast_nonneg k) (nat64 (List.getElem?_eq_some_iff.mp hx).1 hz) hx p hs hg
theorem ev_setitem_n {l : Addr} {xs : List Value} {n k : Nat} {t : Tok} {v : Value} {P : Unit → Heap → Prop} (hl : h.get? l = some (LO xs n)) (hz : xs.length < 64) (hk : k < xs.length)
    (p : ∀ h', Only [l] h h' → h'.get? l = some (LO (xs.set k v) n) → P () h') : Ev (model prog w) A (setItem (.ref l) (.int k t) v) h P :=
  ev_setitem hl (Int.natCast_nonneg k) (nat64 hk hz) (Int.ofNat_lt.mpr hk) p
end
inductive SD (R : Heap → Value → α → Prop) (lt : α → α → Bool) (gi g : Heap) (L l : Addr) (v : Value) (x : α) (start : Nat) (t1 : Tok) (n0 : Nat) (tot : List α) (k : Nat) (h : Heap) : Prop
  | mk {m : Str → Option Value} {xs : List Value} {n : Nat} {as : List α} {t : Tok} {fu : Nat} (F : Fm g L h m) (N : Nw g L h [(l, LO xs n)]) (m1 : m "heap" = some (.ref l)) (m2 : m "startpos" = some (.int start t1)) (m3 : m "pos" = some (.int k t)) (m4 : m "newitem" = some v)
    (z1 : xs.length = n0) (z2 : k < n0) (r : SeqL R gi xs as) (hf : k ≤ fu) (e : sdown lt x start fu as k = tot) : SD R lt gi g L l v x start t1 n0 tot k h
inductive SE (R : Heap → Value → α → Prop) (gi g : Heap) (L l : Addr) (v : Value) (n0 : Nat) (G : List α → Nat → Prop) (Q : (Str → Option Value) → Prop) (h : Heap) : Prop
  | mk {m : Str → Option Value} {xs : List Value} {n : Nat} {as : List α} {t : Tok} {k : Nat} (F : Fm g L h m) (N : Nw g L h [(l, LO xs n)]) (m1 : m "heap" = some (.ref l)) (m3 : m "pos" = some (.int k t)) (m4 : m "newitem" = some v) (q : Q m)
    (z1 : xs.length = n0) (z2 : k < n0) (r : SeqL R gi xs as) (e : G as k) : SE R gi g L l v n0 G Q h
theorem half_lt {a k : Nat} (h : a < k) : (k - 1) / 2 < k := by omega
theorem sd_gen {R : Heap → Value → α → Prop} {lt : α → α → Bool} {A : Around} {env : Env} {gi g h : Heap} {l : Addr} {m : Str → Option Value} {xs : List Value} {n : Nat} {as : List α} {start pos : Nat} {t1 t2 : Tok} {x : α} {p1 p2 p3 p4 p5 p6 p7 p8 p9 p10 p11 p12 p13 p14 p15 p16 p17 p18 p19 p20 p21 p22 p23 p24 p25 p26 p27 p28 p29 p30 p31 p32 p33 p34 p35 p36 p37 : Pos} {cmp : Expr}
    (hk : env.scope.kind = .function) (l1 : env.kindOf "heap" = some .local) (l2 : env.kindOf "startpos" = some .local) (l3 : env.kindOf "pos" = some .local) (l4 : env.kindOf "newitem" = some .local) (l5 : env.kindOf "parentpos" = some .local) (l6 : env.kindOf "parent" = some .local)
    (hcmp : ∀ {h' : Heap} {m' : Str → Option Value} {v u : Value} {a b : α} {P : Bool → Heap → Prop}, Fm g env.locals h' m' → m' "newitem" = some v → m' "parent" = some u → R gi v a → R gi u b → P (lt a b) h' → Ev (model pw w) A (isTrue cmp env (eval cmp env)) h' P)
    (F : Fm g env.locals h m) (N : Nw g env.locals h [(l, LO xs n)]) (m1 : m "heap" = some (.ref l)) (m2 : m "startpos" = some (.int start t1)) (m3 : m "pos" = some (.int pos t2)) (hz : xs.length < 64) (hr : SeqL R gi xs as) (hx : as[pos]? = some x) {P : Flow → Heap → Prop}
    (p : ∀ h' m' xs' n', Fm g env.locals h' m' → h'.get? l = some (LO xs' n') → SeqL R gi xs' (sdown lt x start pos as pos) → P .next h') :
    Ev (model pw w) A (execs [.Assign [(.Name "newitem" p1)] (.Subscript (.Name "heap" p2) (.Name "pos" p3) p4) p5, .While (.Compare (.Name "pos" p6) [.Gt] [(.Name "startpos" p7)] p8) [.Assign [(.Name "parentpos" p9)] (.BinOp (.BinOp (.Name "pos" p10) .Sub (.Constant (.int 1) 0 p11) p12) .RShift (.Constant (.int 1) 0 p13) p14) p15, .Assign [(.Name "parent" p16)] (.Subscript (.Name "heap" p17) (.Name "parentpos" p18) p19) p20, .If cmp [.Assign [(.Subscript (.Name "heap" p21) (.Name "pos" p22) p23)] (.Name "parent" p24) p25, .Assign [(.Name "pos" p26)] (.Name "parentpos" p27) p28, .Continue p29] [] p30, .Break p31] [] p32, .Assign [(.Subscript (.Name "heap" p33) (.Name "pos" p34) p35)] (.Name "newitem" p36) p37] env) h P := by
  have hlt : pos < as.length := (List.getElem?_eq_some_iff.mp hx).1
  have hle := hr.len
  obtain ⟨v, hv, rv⟩ := hr.at hx
  refine ev_cons (ev_assign (ev_sub (ev_ld F m1 (ev_ld F m3 (ev_tail_n (N.at (.head _)) hz hv (ev_st F N (fun h2 F2 N2 => ?_) hk l4)) hk l3) hk l1)))
  obtain ⟨I, hI⟩ : ∃ I : Nat → Heap → Prop, ∀ k h', I k h' ↔ SD R lt gi g env.locals l v x start t1 xs.length (sdown lt x start pos as pos) k h' := ⟨_, fun _ _ => Iff.rfl⟩
  obtain ⟨J, hJ⟩ : ∃ J : Heap → Prop, ∀ h', J h' ↔ SE R gi g env.locals l v xs.length (fun as' k => as'.set k x = sdown lt x start pos as pos) (fun _ => True) h' := ⟨_, fun _ => Iff.rfl⟩
  refine ev_cons (Ev.mono (P := fun f h' => f = .next ∧ J h') (ev_while I ?_ pos ((hI _ _).2 ⟨F2, N2, m1, m2, m3, rfl, rfl, hle ▸ hlt, hr, Nat.le_refl _, rfl⟩)) ?_)
  · intro k h3 hi
    obtain @⟨m, xs', n', as', t, fu, F3, N3, m1, m2, m3, m4, z1, z2, r3, hfu, e3⟩ := (hI _ _).1 hi
    refine ev_isTrue_compare (ev_ld F3 m3 (ev_ld F3 m2 (ev_gtn (ev_truthy_bool ?_)) hk l2) hk l3)
    by_cases hs : start < k
    · refine if_p (decide_eq_true hs) ?_
      have hz3 : xs'.length < 64 := z1 ▸ hz
      have ka : (k - 1) / 2 < as'.length := r3.len ▸ z1 ▸ Nat.lt_of_le_of_lt (Nat.le_trans (Nat.div_le_self ..) (Nat.sub_le ..)) z2
      obtain ⟨y, hy⟩ : ∃ y, as'[(k - 1) / 2]? = some y := ⟨_, List.getElem?_eq_getElem ka⟩
      obtain ⟨u, hu, ru⟩ := r3.at hy
      refine ev_cons (ev_assign (ev_binop (ev_binop (ev_ld F3 m3 (ev_int fun _ => ev_subi fun _ => ev_int fun _ => ev_shri (by decide) fun _ => ev_st F3 N3 (fun h4 F4 N4 => ?_) hk l5) hk l3))))
      rw [half_int (Nat.zero_lt_of_lt hs)] at F4
      refine ev_cons (ev_assign (ev_sub (ev_ld F4 (v := .ref l) m1 (ev_ld F4 rfl (ev_tail_n (N4.at (.head _)) hz3 hu (ev_st F4 N4 (fun h5 F5 N5 => ?_) hk l6)) hk l5) hk l1)))
      obtain ⟨fu, rfl⟩ := Nat.exists_eq_succ_of_ne_zero (Nat.ne_of_gt (Nat.lt_of_lt_of_le (Nat.zero_lt_of_lt hs) hfu))
      rw [sdown, if_pos hs, hy] at e3
      simp only at e3
      have rv' : R gi v x := rv
      refine ev_cons (ev_if (hcmp F5 (v := v) m4 rfl rv ru ?_))
      cases hlt' : lt x y with
      | false =>
        rw [hlt'] at e3
        exact ev_nil (ev_cons (ev_break ⟨rfl, (hJ _).2 ⟨F5, N5, m1, m3, m4, trivial, z1, z2, r3, e3⟩⟩))
      | true =>
        rw [hlt'] at e3
        refine ev_cons (ev_assign_sub (ev_ld F5 rfl (ev_ld F5 (v := .ref l) m1 (ev_ld F5 m3 (ev_setitem_n (N5.at (.head _)) hz3 (z1 ▸ z2) fun h6 o6 g6 => ?_) hk l3) hk l1) hk l6))
        have F6 := Fm.o1 F5 N5 o6
        have N6 := Nw.o1 N5 o6 g6 alln
        refine ev_cons (ev_assign (ev_ld F6 rfl (ev_st F6 N6 (fun h7 F7 N7 => ev_cons (ev_continue ?_)) hk l3) hk l5))
        exact ⟨(k - 1) / 2, half_lt hs, (hI _ _).2 ⟨F7, N7, m1, m2, rfl, m4, (List.length_set ..).trans z1, Nat.lt_trans (half_lt hs) z2, r3.set ru, Nat.le_of_lt_succ (Nat.lt_of_lt_of_le (half_lt hs) hfu), e3⟩⟩
    · refine if_n (by rw [decide_eq_false hs]; exact Bool.false_ne_true) ?_
      refine ev_nil ⟨rfl, (hJ _).2 ⟨F3, N3, m1, m3, m4, trivial, z1, z2, r3, ?_⟩⟩
      rw [← e3]
      cases fu with
      | zero => rfl
      | succ k => rw [sdown, if_neg hs]
  · rintro f h3 ⟨rfl, hj⟩
    obtain @⟨m, xs', n', as', t, k, F3, N3, m1, m3, m4, _, z1, z2, r3, e3⟩ := (hJ _).1 hj
    refine ev_cons (ev_assign_sub (ev_ld F3 m4 (ev_ld F3 m1 (ev_ld F3 m3 (ev_setitem_n (N3.at (.head _)) (z1 ▸ hz) (z1 ▸ z2) fun h6 o6 g6 => ev_nil ?_) hk l3) hk l1) hk l4))
    exact p h6 _ _ _ (F3.o1 N3 o6) g6 (e3 ▸ r3.set rv)
inductive SU (R : Heap → Value → α → Prop) (lt : α → α → Bool) (gi g : Heap) (L l : Addr) (v : Value) (x : α) (start : Nat) (t1 t0 : Tok) (n0 : Nat) (tot : List α) (d : Nat) (h : Heap) : Prop
  | mk {k : Nat} {m : Str → Option Value} {xs : List Value} {n : Nat} {as : List α} {t t' : Tok} {fu : Nat} (F : Fm g L h m) (N : Nw g L h [(l, LO xs n)]) (m1 : m "heap" = some (.ref l)) (m2 : m "startpos" = some (.int start t1)) (m3 : m "pos" = some (.int k t)) (m4 : m "newitem" = some v)
    (m5 : m "endpos" = some (.int n0 t0)) (m6 : m "childpos" = some (.int (2 * k + 1 : Nat) t')) (z1 : xs.length = n0) (z2 : k < n0) (z3 : d + k = n0) (r : SeqL R gi xs as) (hf : d ≤ fu) (e : sup lt x start fu as k = tot) : SU R lt gi g L l v x start t1 t0 n0 tot d h
inductive SC (g : Heap) (L l : Addr) (m0 : Str → Option Value) (xs : List Value) (n c : Nat) (h : Heap) : Prop
  | mk {m : Str → Option Value} {t : Tok} (F : Fm g L h m) (N : Nw g L h [(l, LO xs n)]) (m1 : m "heap" = m0 "heap") (m2 : m "startpos" = m0 "startpos") (m3 : m "pos" = m0 "pos") (m4 : m "newitem" = m0 "newitem") (m5 : m "endpos" = m0 "endpos") (m6 : m "childpos" = some (.int c t)) : SC g L l m0 xs n c h
theorem small64 {k n : Nat} (h1 : k < n) (h2 : n < 64) : k < 10000 := by omega
theorem succ_of {d k n fu : Nat} (h1 : d + k = n) (h2 : k < n) (h3 : d ≤ fu) : fu ≠ 0 := by omega
theorem two_lt {d k n fu c : Nat} (h1 : d + k = n) (h2 : c = 2 * k + 1 ∨ c = 2 * k + 2) (h3 : c < n) (h4 : d ≤ fu + 1) : n - c < d ∧ n - c + c = n ∧ n - c ≤ fu := by omega
theorem su_gen {R : Heap → Value → α → Prop} {lt : α → α → Bool} {A : Around} {env : Env} {gi g h : Heap} {l : Addr} {m : Str → Option Value} {xs : List Value} {n : Nat} {as : List α} {pos : Nat} {t0 t2 : Tok} {v : Value} {x : α} {p1 p2 p3 p4 p5 p6 p7 p8 p9 p10 p11 p12 p13 p14 p15 p16 p17 p18 p19 p20 p21 p22 p23 p24 p25 p26 p27 p28 p29 p30 p31 p32 p33 p34 p35 p36 p37 p38 p39 p40 p41 p42 p43 p44 p45 p46 p47 : Pos} {cmp : Expr} {last : Stmt}
    (hk : env.scope.kind = .function) (l1 : env.kindOf "heap" = some .local) (l3 : env.kindOf "pos" = some .local) (l4 : env.kindOf "newitem" = some .local) (l5 : env.kindOf "endpos" = some .local) (l6 : env.kindOf "childpos" = some .local) (l7 : env.kindOf "rightpos" = some .local)
    (hcmp : ∀ {h' : Heap} {m' : Str → Option Value} {i j : Nat} {ti tj : Tok} {xs' : List Value} {n' : Nat} {v u : Value} {a b : α} {P : Bool → Heap → Prop}, Fm g env.locals h' m' → h'.get? l = some (LO xs' n') → m' "heap" = some (.ref l) → m' "childpos" = some (.int i ti) → m' "rightpos" = some (.int j tj) →
      xs'.length < 64 → xs'[i]? = some v → xs'[j]? = some u → R gi v a → R gi u b → P (lt a b) h' → Ev (model pw w) A (isTrue cmp env (eval cmp env)) h' P)
    (F : Fm g env.locals h m) (N : Nw g env.locals h [(l, LO xs n)]) (m1 : m "heap" = some (.ref l)) (m2 : m "startpos" = some (.int pos t2)) (m3 : m "pos" = some (.int pos t2)) (m4 : m "newitem" = some v) (m5 : m "endpos" = some (.int (xs.length : Nat) t0)) (hz : xs.length < 64) (hr : SeqL R gi xs as) (hx : pos < xs.length) (rv : R gi v x)
    {P : Flow → Heap → Prop}
    (hlast : ∀ {h' : Heap} {m' : Str → Option Value} {xs' : List Value} {n' k : Nat} {t : Tok} {as' : List α}, Fm g env.locals h' m' → h'.get? l = some (LO xs' n') → m' "heap" = some (.ref l) → m' "startpos" = some (.int pos t2) → m' "pos" = some (.int k t) → xs'.length = xs.length → SeqL R gi xs' as' → as'[k]? = some x →
      sdown lt x pos k as' k = sup lt x pos xs.length as pos → Ev (model pw w) A (execs [last] env) h' P) :
    Ev (model pw w) A (execs [.Assign [(.Name "childpos" p1)] (.BinOp (.BinOp (.Constant (.int 2) 0 p2) .Mult (.Name "pos" p3) p4) .Add (.Constant (.int 1) 0 p5) p6) p7, .While (.Compare (.Name "childpos" p8) [.Lt] [(.Name "endpos" p9)] p10) [.Assign [(.Name "rightpos" p11)] (.BinOp (.Name "childpos" p12) .Add (.Constant (.int 1) 0 p13) p14) p15, .If (.BoolOp .And [.Compare (.Name "rightpos" p16) [.Lt] [(.Name "endpos" p17)] p18, .UnaryOp .Not cmp p19] p20) [.Assign [(.Name "childpos" p21)] (.Name "rightpos" p22) p23] [] p24, .Assign [(.Subscript (.Name "heap" p25) (.Name "pos" p26) p27)] (.Subscript (.Name "heap" p28) (.Name "childpos" p29) p30) p31, .Assign [(.Name "pos" p32)] (.Name "childpos" p33) p34, .Assign [(.Name "childpos" p35)] (.BinOp (.BinOp (.Constant (.int 2) 0 p36) .Mult (.Name "pos" p37) p38) .Add (.Constant (.int 1) 0 p39) p40) p41] [] p42, .Assign [(.Subscript (.Name "heap" p43) (.Name "pos" p44) p45)] (.Name "newitem" p46) p47, last] env) h P := by
  have hle := hr.len
  refine ev_cons (ev_assign (ev_binop (ev_binop (ev_int fun _ => ev_ld F m3 (ev_muli (mulOk_small (small64 hx hz)) fun _ => ev_int fun _ => ev_addi fun t5 => ev_st F N (fun h5 F5 N5 => ?_) hk l6) hk l3))))
  obtain ⟨I, hI⟩ : ∃ I : Nat → Heap → Prop, ∀ d h', I d h' ↔ SU R lt gi g env.locals l v x pos t2 t0 xs.length (sup lt x pos xs.length as pos) d h' := ⟨_, fun _ _ => Iff.rfl⟩
  obtain ⟨J, hJ⟩ : ∃ J : Heap → Prop, ∀ h', J h' ↔ SE R gi g env.locals l v xs.length (fun as' k => sdown lt x pos k (as'.set k x) k = sup lt x pos xs.length as pos) (fun m => m "startpos" = some (.int pos t2)) h' := ⟨_, fun _ => Iff.rfl⟩
  refine ev_cons (Ev.mono (P := fun f h' => f = .next ∧ J h') (ev_while I ?_ (xs.length - pos) ((hI _ _).2 ⟨F5, N5, m1, m2, m3, m4, m5, rfl, rfl, hx, Nat.sub_add_cancel (Nat.le_of_lt hx), hr, Nat.sub_le _ _, rfl⟩)) ?_)
  · intro d h3 hi
    obtain @⟨k, m, xs', n', as', t, t', fu, F3, N3, m1, m2, m3, m4, m5, m6, z1, z2, z3, r3, hfu, e3⟩ := (hI _ _).1 hi
    refine ev_isTrue_compare (ev_ld F3 m6 (ev_ld F3 m5 (ev_ltn (ev_truthy_bool ?_)) hk l5) hk l6)
    obtain ⟨fu, rfl⟩ := Nat.exists_eq_succ_of_ne_zero (succ_of z3 z2 hfu)
    have hle' : as'.length = xs.length := r3.len.symm.trans z1
    have hz3 : xs'.length < 64 := z1 ▸ hz
    rw [sup, hle'] at e3
    by_cases hs : 2 * k + 1 < xs.length
    · refine if_p (decide_eq_true hs) ?_
      rw [if_pos hs] at e3
      generalize hc3 : (if 2 * k + 2 < xs.length && !(ltAt2 lt as' (2 * k + 1) (2 * k + 2)) then 2 * k + 2 else 2 * k + 1) = c at e3
      have hc12 : c = 2 * k + 1 ∨ c = 2 * k + 2 := by rw [← hc3]; split <;> simp
      refine ev_cons (ev_assign (ev_binop (ev_ld F3 m6 (ev_int fun _ => ev_addi fun t6 => ev_st F3 N3 (fun h4 F4 N4 => ?_) hk l7) hk l6)))
      refine ev_cons (Ev.mono (P := fun f h' => f = .next ∧ c < xs.length ∧ SC g env.locals l m xs' n' c h') ?_ ?_)
      · refine ev_if (ev_isTrue_and (ev_isTrue_compare (ev_ld F4 rfl (ev_ld F4 (v := .int (xs.length : Nat) t0) m5 (ev_ltn (a := 2 * k + 2) (ev_truthy_bool ?_)) hk l5) hk l7)))
        by_cases hk2 : 2 * k + 2 < xs.length
        · refine if_p (decide_eq_true hk2) ?_
          obtain ⟨a, ha⟩ : ∃ y, as'[2 * k + 1]? = some y := ⟨_, List.getElem?_eq_getElem (hle' ▸ hs)⟩
          obtain ⟨b, hb⟩ : ∃ y, as'[2 * k + 2]? = some y := ⟨_, List.getElem?_eq_getElem (hle' ▸ hk2)⟩
          obtain ⟨va, hva, ra⟩ := r3.at ha
          obtain ⟨vb, hvb, rb⟩ := r3.at hb
          have el : ltAt2 lt as' (2 * k + 1) (2 * k + 2) = lt a b := by unfold ltAt2; rw [ha, hb]
          rw [el] at hc3
          refine ev_isTrue_not (hcmp (i := 2 * k + 1) (j := 2 * k + 2) F4 (N4.at (.head _)) m1 m6 rfl hz3 hva hvb ra rb ?_)
          cases hab : lt a b with
          | false =>
            rw [hab, Bool.not_false, if_pos (Bool.and_eq_true_iff.mpr ⟨decide_eq_true hk2, rfl⟩)] at hc3
            subst hc3
            exact ev_cons (ev_assign (ev_ld F4 rfl (ev_st F4 N4 (fun h5 F5 N5 => ev_nil ⟨rfl, hk2, ⟨F5, N5, rfl, rfl, rfl, rfl, rfl, rfl⟩⟩) hk l6) hk l7))
          | true =>
            rw [hab, Bool.not_true, if_neg (fun q => Bool.false_ne_true (Bool.and_eq_true_iff.mp q).2)] at hc3
            subst hc3
            exact ev_nil ⟨rfl, hs, ⟨F4, N4, rfl, rfl, rfl, rfl, rfl, m6⟩⟩
        · refine if_n (by rw [decide_eq_false hk2]; exact Bool.false_ne_true) ?_
          rw [if_neg (fun q => hk2 (of_decide_eq_true (Bool.and_eq_true_iff.mp q).1))] at hc3
          subst hc3
          exact ev_nil ⟨rfl, hs, ⟨F4, N4, rfl, rfl, rfl, rfl, rfl, m6⟩⟩
      · rintro f h4 ⟨rfl, hc2, hsc⟩
        obtain @⟨m', t7, F4, N4, a1, a2, a3, a4, a5, a6⟩ := hsc
        rw [m1] at a1
        rw [m2] at a2
        rw [m3] at a3
        rw [m4] at a4
        rw [m5] at a5
        obtain ⟨y, hy⟩ : ∃ y, as'[c]? = some y := ⟨_, List.getElem?_eq_getElem (hle' ▸ hc2)⟩
        obtain ⟨vy, hvy, ry⟩ := r3.at hy
        refine ev_cons (ev_assign_sub (ev_sub (ev_ld F4 a1 (ev_ld F4 a6 (ev_tail_n (N4.at (.head _)) hz3 hvy ?_) hk l6) hk l1)))
        refine ev_ld F4 a1 (ev_ld F4 a3 (ev_setitem_n (N4.at (.head _)) hz3 (z1 ▸ z2) fun h5 o5 g5 => ?_) hk l3) hk l1
        have F5 := Fm.o1 F4 N4 o5
        have N5 := Nw.o1 N4 o5 g5 alln
        refine ev_cons (ev_assign (ev_ld F5 a6 (ev_st F5 N5 (fun h6 F6 N6 => ?_) hk l3) hk l6))
        refine ev_cons (ev_assign (ev_binop (ev_binop (ev_int fun _ => ev_ld F6 rfl (ev_muli (mulOk_small (small64 hc2 hz)) fun _ => ev_int fun _ => ev_addi fun t8 => ev_st F6 N6 (fun h7 F7 N7 => ?_) hk l6) hk l3))))
        obtain ⟨q1, q2, q3⟩ := two_lt z3 hc12 hc2 hfu
        refine ev_nil ⟨xs.length - c, q1, (hI _ _).2 ⟨F7, N7, a1, a2, rfl, a4, a5, rfl, (List.length_set ..).trans z1, hc2, q2, r3.set ry, q3, ?_⟩⟩
        rw [← e3]
        unfold putAt
        rw [hy]
    · refine if_n (by rw [decide_eq_false hs]; exact Bool.false_ne_true) ?_
      rw [if_neg hs] at e3
      exact ev_nil ⟨rfl, (hJ _).2 ⟨F3, N3, m1, m3, m4, m2, z1, z2, r3, e3⟩⟩
  · rintro f h3 ⟨rfl, hj⟩
    obtain @⟨m, xs', n', as', t, k, F3, N3, m1, m3, m4, m2, z1, z2, r3, e3⟩ := (hJ _).1 hj
    refine ev_cons (ev_assign_sub (ev_ld F3 m4 (ev_ld F3 m1 (ev_ld F3 m3 (ev_setitem_n (N3.at (.head _)) (z1 ▸ hz) (z1 ▸ z2) fun h6 o6 g6 => ?_) hk l3) hk l1) hk l4))
    exact hlast (F3.o1 N3 o6) g6 m1 m2 m3 ((List.length_set ..).trans z1) (r3.set rv) (List.getElem?_set_self (r3.len ▸ z1 ▸ z2)) e3
theorem one_led {h : Heap} {l : Addr} {o : Obj} (hl : h.get? l = some o) : ∀ p ∈ [(l, o)], h.get? p.1 = some p.2 := fun p hp => by rw [List.mem_singleton.mp hp]; exact hl
theorem len64 {n : Nat} (h : n < 64) : n < 2 ^ 63 := Nat.lt_trans h (by decide)
theorem siftdown_C (I : Item w α) {A : Around} {h : Heap} (B : Base w Bh) (kb : Kp Bh h) (room : Room A 2) {l : Addr} {xs : List Value} {n : Nat} {as : List α} {start pos : Nat} {t1 t2 : Tok} {x : α}
    (hl : h.get? l = some (LO xs n)) (hbl : Bh.get? l = none) (hz : xs.length < 64) {gi : Heap} (kgi : Kp gi h) (hgl : gi.get? l = none) (hr : SeqL I.R gi xs as) (hx : as[pos]? = some x) {P : Value → Heap → Prop}
    (p : ∀ h' xs' n', Only [l] h h' → h'.get? l = some (LO xs' n') → SeqL I.R gi xs' (sdown I.lt x start pos as pos) → P .none h') :
    CEv (model pw w) A (.call (.ref 248) ⟨[.ref l, .int start t1, .int pos t2], []⟩) h P := by
  refine CEv.fn B kb (n := 1) room (fa := 248) (c := 247) [("heap", .ref l), ("startpos", .int start t1), ("pos", .int pos t2)] [(l, LO xs n)] rfl rfl rfl rfl rfl rfl rfl (fun s hs => BindsTo.of_eq (by rfl)) rfl rfl (one_led hl) ?_
  intro L h₁ Rm k1 F N
  have kgi' : Kp gi (hideAll h [l]) := kp_hide kgi fun a ha => List.mem_singleton.mp ha ▸ hgl
  refine sd_gen (lt := I.lt) (R := I.R) (gi := gi) rfl (by rfl) (by rfl) (by rfl) (by rfl) (by rfl) (by rfl) ?_ F N rfl rfl rfl hz hr hx fun h' m' xs' n' F' g' r' => p h' xs' n' F'.only g' r'
  intro h' m' v u a b P F' m1 m2 ra rb q
  exact ev_isTrue_compare (ev_ld F' m1 (ev_ld F' m2 (I.ev (Rm.le (by decide)) (I.up (kgi'.trans' F'.keep) ra) (I.up (kgi'.trans' F'.keep) rb) (ev_truthy_bool q))))
theorem siftdown_max_C (I : Item w α) {A : Around} {h : Heap} (B : Base w Bh) (kb : Kp Bh h) (room : Room A 2) {l : Addr} {xs : List Value} {n : Nat} {as : List α} {start pos : Nat} {t1 t2 : Tok} {x : α}
    (hl : h.get? l = some (LO xs n)) (hbl : Bh.get? l = none) (hz : xs.length < 64) {gi : Heap} (kgi : Kp gi h) (hgl : gi.get? l = none) (hr : SeqL I.R gi xs as) (hx : as[pos]? = some x) {P : Value → Heap → Prop}
    (p : ∀ h' xs' n', Only [l] h h' → h'.get? l = some (LO xs' n') → SeqL I.R gi xs' (sdown (flp I.lt) x start pos as pos) → P .none h') :
    CEv (model pw w) A (.call (.ref 262) ⟨[.ref l, .int start t1, .int pos t2], []⟩) h P := by
  refine CEv.fn B kb (n := 1) room (fa := 262) (c := 261) [("heap", .ref l), ("startpos", .int start t1), ("pos", .int pos t2)] [(l, LO xs n)] rfl rfl rfl rfl rfl rfl rfl (fun s hs => BindsTo.of_eq (by rfl)) rfl rfl (one_led hl) ?_
  intro L h₁ Rm k1 F N
  have kgi' : Kp gi (hideAll h [l]) := kp_hide kgi fun a ha => List.mem_singleton.mp ha ▸ hgl
  refine ev_cons (ev_doc ?_)
  refine sd_gen (lt := (flp I.lt)) (R := I.R) (gi := gi) rfl (by rfl) (by rfl) (by rfl) (by rfl) (by rfl) (by rfl) ?_ F N rfl rfl rfl hz hr hx fun h' m' xs' n' F' g' r' => p h' xs' n' F'.only g' r'
  intro h' m' v u a b P F' m1 m2 ra rb q
  exact ev_isTrue_compare (ev_ld F' m2 (ev_ld F' m1 (I.ev (Rm.le (by decide)) (I.up (kgi'.trans' F'.keep) rb) (I.up (kgi'.trans' F'.keep) ra) (ev_truthy_bool q))))
theorem siftup_C (I : Item w α) {A : Around} {h : Heap} (B : Base w Bh) (kb : Kp Bh h) (room : Room A 3) {l : Addr} {xs : List Value} {n : Nat} {as : List α} {pos : Nat} {t2 : Tok} {x : α}
    (hl : h.get? l = some (LO xs n)) (hbl : Bh.get? l = none) (hz : xs.length < 64) {gi : Heap} (kgi : Kp gi h) (hgl : gi.get? l = none) (hr : SeqL I.R gi xs as) (hx : as[pos]? = some x) {P : Value → Heap → Prop}
    (p : ∀ h' xs' n', Only [l] h h' → h'.get? l = some (LO xs' n') → xs'.length = xs.length → SeqL I.R gi xs' (sup I.lt x pos xs.length as pos) → P .none h') :
    CEv (model pw w) A (.call (.ref 255) ⟨[.ref l, .int pos t2], []⟩) h P := by
  refine CEv.fn B kb (n := 2) room (fa := 255) (c := 254) [("heap", .ref l), ("pos", .int pos t2)] [(l, LO xs n)] rfl rfl rfl rfl rfl rfl rfl (fun s hs => BindsTo.of_eq (by rfl)) rfl rfl (one_led hl) ?_
  intro L h₁ Rm k1 F N
  have hg : Kp Bh (hideAll h [l]) := kp_hide kb fun a ha => List.mem_singleton.mp ha ▸ hbl
  have kgi' : Kp gi (hideAll h [l]) := kp_hide kgi fun a ha => List.mem_singleton.mp ha ▸ hgl
  obtain ⟨v, hv, rv⟩ := hr.at hx
  refine ev_cons (ev_assign (ev_call (ev_bi B (hg.trans' F.keep) (.builtin "len") rfl rfl (ev_ld F rfl ⟨.builtin, ev_len (N.at (.head _)) (len64 hz) fun t0 => ev_st F N fun h2 F2 N2 => ?_⟩))))
  refine ev_cons (ev_assign (ev_ld F2 (v := .int pos t2) rfl (ev_st F2 N2 fun h3 F3 N3 => ?_)))
  refine ev_cons (ev_assign (ev_sub (ev_ld F3 (v := .ref l) rfl (ev_ld F3 (v := .int pos t2) rfl (ev_tail_n (N3.at (.head _)) hz hv (ev_st F3 N3 fun h4 F4 N4 => ?_))))))
  refine su_gen (lt := I.lt) (R := I.R) (gi := gi) (x := x) (as := as) (xs := xs) rfl (by rfl) (by rfl) (by rfl) (by rfl) (by rfl) (by rfl) ?_ F4 N4 rfl rfl rfl rfl rfl hz hr (List.getElem?_eq_some_iff.mp hv).1 rv ?_
  · intro h' m' i j ti tj xs' n' v u a b P F' hl' m1 m2 m3 hz' ha hb ra rb q
    have k' := kgi'.trans' F'.keep
    refine ev_isTrue_compare (ev_sub (ev_ld F' m1 (ev_ld F' m2 (ev_tail_n hl' hz' ha ?_))))
    exact ev_sub (ev_ld F' m1 (ev_ld F' m3 (ev_tail_n hl' hz' hb (I.ev (Rm.le (by decide)) (I.up k' ra) (I.up k' rb) (ev_truthy_bool q)))))
  · intro h' m' xs' n' k t as' F' hl' m1 m2 m3 e r' hx' he
    refine ev_cons (ev_expr (ev_call (ev_glob B (hg.trans' F'.keep) (.ref 248) rfl (ev_ld F' m1 (ev_ld F' m2 (ev_ld F' m3 ⟨.inK B (hg.trans' F'.keep) rfl, Ev.call (siftdown_C I B (hg.trans' F'.keep) (Rm.le (by decide)) hl' hbl (e ▸ hz) (kgi'.trans' F'.keep) hgl r' hx' fun h7 xs7 n7 o7 g7 r7 => ev_nil ?_)⟩))))))
    rw [he] at r7
    exact p h7 _ _ (F'.only.trans o7) g7 (by rw [r7.len, sup_length, hr.len]) r7
theorem siftup_max_C (I : Item w α) {A : Around} {h : Heap} (B : Base w Bh) (kb : Kp Bh h) (room : Room A 3) {l : Addr} {xs : List Value} {n : Nat} {as : List α} {pos : Nat} {t2 : Tok} {x : α}
    (hl : h.get? l = some (LO xs n)) (hbl : Bh.get? l = none) (hz : xs.length < 64) {gi : Heap} (kgi : Kp gi h) (hgl : gi.get? l = none) (hr : SeqL I.R gi xs as) (hx : as[pos]? = some x) {P : Value → Heap → Prop}
    (p : ∀ h' xs' n', Only [l] h h' → h'.get? l = some (LO xs' n') → xs'.length = xs.length → SeqL I.R gi xs' (sup (flp I.lt) x pos xs.length as pos) → P .none h') :
    CEv (model pw w) A (.call (.ref 269) ⟨[.ref l, .int pos t2], []⟩) h P := by
  refine CEv.fn B kb (n := 2) room (fa := 269) (c := 268) [("heap", .ref l), ("pos", .int pos t2)] [(l, LO xs n)] rfl rfl rfl rfl rfl rfl rfl (fun s hs => BindsTo.of_eq (by rfl)) rfl rfl (one_led hl) ?_
  intro L h₁ Rm k1 F N
  have hg : Kp Bh (hideAll h [l]) := kp_hide kb fun a ha => List.mem_singleton.mp ha ▸ hbl
  have kgi' : Kp gi (hideAll h [l]) := kp_hide kgi fun a ha => List.mem_singleton.mp ha ▸ hgl
  obtain ⟨v, hv, rv⟩ := hr.at hx
  refine ev_cons (ev_doc ?_)
  refine ev_cons (ev_assign (ev_call (ev_bi B (hg.trans' F.keep) (.builtin "len") rfl rfl (ev_ld F rfl ⟨.builtin, ev_len (N.at (.head _)) (len64 hz) fun t0 => ev_st F N fun h2 F2 N2 => ?_⟩))))
  refine ev_cons (ev_assign (ev_ld F2 (v := .int pos t2) rfl (ev_st F2 N2 fun h3 F3 N3 => ?_)))
  refine ev_cons (ev_assign (ev_sub (ev_ld F3 (v := .ref l) rfl (ev_ld F3 (v := .int pos t2) rfl (ev_tail_n (N3.at (.head _)) hz hv (ev_st F3 N3 fun h4 F4 N4 => ?_))))))
  refine su_gen (lt := (flp I.lt)) (R := I.R) (gi := gi) (x := x) (as := as) (xs := xs) rfl (by rfl) (by rfl) (by rfl) (by rfl) (by rfl) (by rfl) ?_ F4 N4 rfl rfl rfl rfl rfl hz hr (List.getElem?_eq_some_iff.mp hv).1 rv ?_
  · intro h' m' i j ti tj xs' n' v u a b P F' hl' m1 m2 m3 hz' ha hb ra rb q
    have k' := kgi'.trans' F'.keep
    refine ev_isTrue_compare (ev_sub (ev_ld F' m1 (ev_ld F' m3 (ev_tail_n hl' hz' hb ?_))))
    exact ev_sub (ev_ld F' m1 (ev_ld F' m2 (ev_tail_n hl' hz' ha (I.ev (Rm.le (by decide)) (I.up k' rb) (I.up k' ra) (ev_truthy_bool q)))))
  · intro h' m' xs' n' k t as' F' hl' m1 m2 m3 e r' hx' he
    refine ev_cons (ev_expr (ev_call (ev_glob B (hg.trans' F'.keep) (.ref 262) rfl (ev_ld F' m1 (ev_ld F' m2 (ev_ld F' m3 ⟨.inK B (hg.trans' F'.keep) rfl, Ev.call (siftdown_max_C I B (hg.trans' F'.keep) (Rm.le (by decide)) hl' hbl (e ▸ hz) (kgi'.trans' F'.keep) hgl r' hx' fun h7 xs7 n7 o7 g7 r7 => ev_nil ?_)⟩))))))
    rw [he] at r7
    exact p h7 _ _ (F'.only.trans o7) g7 (by rw [r7.len, sup_length, hr.len]) r7
end Mine
open PySem PySem.W PyProof.Rows PySem.Calls
set_option maxRecDepth 100000
set_option maxHeartbeats 4000000
set_option linter.unusedVariables false
namespace Mine
variable {w : World} {A : Around} {Bh : Heap} {α : Type}
/-! ## ranges -/
noncomputable abbrev rangeO (a b c : Int) (t u v : Tok) : Obj := { cls := .type "range", dict := none, data := .fields #[.int a t, .int b u, .int c v], slots := #[] }
noncomputable abbrev rangeItO (x left step : Int) : Obj := { cls := .type "range_iterator", dict := none, data := .fields #[rawInt x, rawInt left, rawInt step], slots := #[] }
theorem Itr.range (hh : A.handled = none) {g : Heap} {I : Addr} (a c : Int) (n : Nat) : Itr w A I g n (fun i v => ∃ t, v = .int (a + i * c) t) (fun i o => o = rangeItO (a + (i : Nat) * c) ((n : Int) - (i : Nat)) c) "range_iterator" where
  item := by
    intro i h o P hi k ho st p E Q s hs hQ
    subst hs; subst st
    exact (Walks.range hh I a c n).item i s _ E hi ho fun v h' tk hv st' hk => hQ _ h' tk (p v h' _ hv (fun b o hb e => hk b o hb e) st' rfl)
  done := by
    intro h o P k ho st p E Q s hs hQ
    subst hs; subst st
    exact (Walks.range hh I a c n).done s _ E ho fun h' tk hk => hQ _ h' tk (p h' fun b o hb e => hk b o hb e)
  self := by
    intro i h o P ho st p E Q s hs hQ
    subst hs; subst st
    exact (Walks.range hh I a c n).self i s _ E ho (hQ _ _ s.toks p)
  cls := by intro i o st; rw [st]
theorem ev_range1 {prog : Program} {n : Int} {t : Tok} {h : Heap} {P : Value → Heap → Prop} (p : ∀ r h' t u v, Only [] h h' → h.get? r = none → h'.get? r = some (rangeO 0 n 1 t u v) → P (.ref r) h') : Ev (model prog w) A (call (.type "range") [.int n t]) h P := by
  intro E Q s hs hQ
  subst hs
  exact call_range_1 (hQ _ _ _ (p _ _ _ _ _ only_push (Heap.get?_none_of_le (Nat.le_refl _)) (Heap.get?_push_size _ rfl)))
theorem rangeSize1 (n : Nat) : Builtin.Range.rangeSize 0 n 1 = n := by
  unfold Builtin.Range.rangeSize
  split
  · split
    · rw [Int.ediv_one]; omega
    · omega
  · omega
theorem fitsL {x : Int} (h1 : -10001 < x) (h2 : x < 10001) : Builtin.Range.rangeFitsLong x = true := by
  unfold Builtin.Range.rangeFitsLong
  simp only [Bool.and_eq_true, decide_eq_true_eq]
  constructor <;> omega
theorem small1 {n : Nat} (h : n < 10000) : Builtin.Range.small 0 n 1 = true := by
  unfold Builtin.Range.small Builtin.Range.rangeFitsLong
  rw [rangeSize1]
  simp
  omega
theorem ev_iter_range {prog : Program} {r : Addr} {n : Nat} {t u v : Tok} {h : Heap} {P : Value → Heap → Prop} (hr : h.get? r = some (rangeO 0 n 1 t u v)) (hn : n < 10000)
    (p : ∀ I h', Only [] h h' → h.get? I = none → h'.get? I = some (rangeItO (0 + (0 : Nat) * 1) ((n : Int) - (0 : Nat)) 1) → P (.ref I) h') : Ev (model prog w) A (pyIter (.ref r)) h P := by
  intro E Q s hs hQ
  subst hs
  refine wpAny_pyIter_range hr (small1 hn) ?_
  refine hQ _ _ s.toks (p _ _ only_push (Heap.get?_none_of_le (Nat.le_refl _)) ?_)
  rw [Heap.get?_push_size _ rfl, rangeSize1]
  simp
theorem sub_rgi_reversed : isSubtype (.type "range_iterator") (.type "reversed") = pure false := by rw [isSubtype_type]; kernel_rfl
theorem call_range_reversed {r : Addr} {n : Nat} {t u v : Tok} {prog : Program} {E : Value → Shared → Prop} {s : Shared} {Q : Value → Shared → Prop} (hr : s.heap.get? r = some (rangeO 0 n 1 t u v)) (hn : n < 10000)
    (h : Q (.ref s.heap.objs.size) { s with heap := s.heap.push (rangeItO ((n : Int) - 1) n (-1)) }) : wpAny (model prog w) A (call (.builtin "range.__reversed__") [.ref r]) Q E s := by
  refine wpAny_call_entry F.slot_range_reversed ⟨_, hr, rfl⟩ F.entry_range_reversed ?_ (F.args_range_reversed_1 _)
  unfold Builtin.«range.__reversed__»
  refine wpAny_bind (wpAny_of_eq (a := Value.ref r) rfl ?_)
  unfold Builtin.Range.rangeFields
  refine wpAny_bind ?_
  refine wpAny_bind (wpAny_field hr rfl (x := .int 0 t) rfl ?_)
  refine wpAny_bind (wpAny_of_eq (a := some (0 : Int)) rfl ?_)
  refine wpAny_bind (wpAny_field hr rfl (x := .int n u) rfl ?_)
  refine wpAny_bind (wpAny_of_eq (a := some (n : Int)) rfl ?_)
  refine wpAny_bind (wpAny_field hr rfl (x := .int 1 v) rfl ?_)
  refine wpAny_bind ?_
  have hone : asInt? (Value.int 1 v) = pure (some (1 : Int)) := rfl
  rw [hone]
  refine wpAny_pure ?_
  show wpAny _ _ (pure ((0 : Int), ((n : Nat) : Int), (1 : Int))) _ _ _
  refine wpAny_pure ?_
  dsimp only
  rw [rangeSize1]
  have f0 : Builtin.Range.rangeFitsLong 0 = true := fitsL (by omega) (by omega)
  have f1 : Builtin.Range.rangeFitsLong 1 = true := fitsL (by omega) (by omega)
  have f2 : Builtin.Range.rangeFitsLong (-1) = true := fitsL (by omega) (by omega)
  have f3 : Builtin.Range.rangeFitsLong (0 - 1) = true := fitsL (by omega) (by omega)
  have f4 : Builtin.Range.rangeFitsLong (n : Int) = true := fitsL (by omega) (by omega)
  simp only [f0, f1, f2, f3, f4, Bool.and_self]
  simp only [Bool.not_true, Bool.false_eq_true, if_false, if_true]
  have e2 : (0 : Int) + ((n : Int) - 1) * 1 = (n : Int) - 1 := by omega
  rw [e2]
  first
  | exact wpAny_bind (wpAny_newObj_type (wpAny_pure ⟨_, rfl, h⟩))
  | exact wpAny_bind (wpAny_pure (wpAny_bind (wpAny_newObj_type (wpAny_pure ⟨_, rfl, h⟩))))
theorem code_reversed_range {r : Addr} {n : Nat} {t u v : Tok} {prog : Program} {E : Value → Shared → Prop} {s : Shared} {Q₁ : Value → Shared → Prop} (hr : s.heap.get? r = some (rangeO 0 n 1 t u v)) (hn : n < 10000)
    (h : Q₁ (.ref s.heap.objs.size) { s with heap := s.heap.push (rangeItO ((n : Int) - 1) n (-1)) }) :
    codeAny (model prog w) A (.call (.builtin "reversed.__new__") ⟨[.type "reversed", .ref r], []⟩) (wants Q₁ E) s := by
  refine codeAny_of_tree ?_
  show wpAny _ A.in1 (do checkBuiltinCall "reversed.__new__" ⟨[.type "reversed", .ref r], []⟩; again (.builtin "reversed.__new__" ⟨[.type "reversed", .ref r], []⟩)) _ _ s
  refine wpAny_bind (wpAny_of_eq (F.newCall_reversed_1 _) (wpAny_pure ⟨plainId_quiet F.plain_reversed_new _, codeAny_builtin F.entry_reversed_new ?_⟩))
  rw [Around.under_plainId F.plain_reversed_new _]
  unfold Builtin.«reversed.__new__»
  refine wpAny_bind (wpAny_of_eq (newClass_reversed _) ?_)
  try dsimp only
  refine wpAny_bind (wpAny_of_eq (a := ()) (by first | rfl | kernel_rfl) ?_)
  refine wpAny_bind (wpAny_of_eq (a := ()) (by first | rfl | kernel_rfl) ?_)
  try dsimp only
  refine wpAny_bind (wpAny_specialOf (T := "range") ⟨_, hr, rfl⟩ F.slot_range_reversed.lookup ?_)
  try dsimp only
  refine wpAny_bind (wpAny_of_eq (F.slot_range_reversed.bind _) ?_)
  try dsimp only
  first
  | refine if_n (show ¬ ((Value.builtin "range.__reversed__" == Value.none) = true) from Bool.false_ne_true) ?_
  | (show wpAny _ _ (if (Value.builtin "range.__reversed__" == Value.none) = true then _ else _) _ _ _; rw [if_neg (show ¬ ((Value.builtin "range.__reversed__" == Value.none) = true) from Bool.false_ne_true)])
  refine wpAny_bind (wpAny_rule ?_)
  refine wpAny_bind (m := runValue (.call (.builtin "range.__reversed__") ⟨[.ref r], []⟩)) (show wpAny _ _ (call (.builtin "range.__reversed__") [.ref r]) _ _ _ from call_range_reversed hr hn ?_)
  first
  | exact wpAny_pure h
  | exact wpAny_bind (wpAny_pure (wpAny_pure h))
theorem ev_reversed {prog : Program} {r : Addr} {n : Nat} {t u v : Tok} {h : Heap} {P : Value → Heap → Prop} (hr : h.get? r = some (rangeO 0 n 1 t u v)) (hn : n < 10000)
    (p : ∀ I h', Only [] h h' → h.get? I = none → h'.get? I = some (rangeItO ((n : Int) - 1 + (0 : Nat) * (-1)) ((n : Int) - (0 : Nat)) (-1)) → P (.ref I) h') : Ev (model prog w) A (call (.type "reversed") [.ref r]) h P := by
  intro E Q s hs hQ
  subst hs
  refine callType_other (U := "range_iterator") (Q₁ := fun obj s₁ => obj = .ref s.heap.objs.size ∧ s₁ = { s with heap := s.heap.push (rangeItO ((n : Int) - 1) n (-1)) }) (by decide +kernel) F.create_reversed ⟨_, _, F.mro_reversed⟩ F.made_reversed sub_rgi_reversed (F.typeCall_reversed_1 _) (code_reversed_range hr hn ⟨rfl, rfl⟩) ?_
  rintro obj s₁ ⟨rfl, rfl⟩
  exact ⟨⟨_, Heap.get?_push_size _ rfl, rfl⟩, hQ _ _ s.toks (p _ _ only_push (Heap.get?_none_of_le (Nat.le_refl _)) (by rw [Heap.get?_push_size _ rfl]; simp))⟩
/-! ## truth, pop -/
theorem ev_isTrue_plain {prog : Program} {env : Env} {e : Expr} {h : Heap} {P : Bool → Heap → Prop} (x : Ev (model prog w) A (eval e env) h fun v h1 => Ev (model prog w) A (truthy v) h1 P)
    (he : isTrue e env (eval e env) = (do let v ← eval e env; standAt e.pos; holding [v] (truthy v)) := by rfl) : Ev (model prog w) A (isTrue e env (eval e env)) h P := by
  rw [he]
  exact Ev.bind (x.mono fun v h1 y => Ev.bind (Ev.standAt (Ev.holding y)))
theorem ev_truthy_list {prog : Program} {l : Addr} {xs : List Value} {n : Nat} {h : Heap} {P : Bool → Heap → Prop} (hl : h.get? l = some (LO xs n)) (hz : xs.length < 10000) (p : P (!xs.isEmpty) h) : Ev (model prog w) A (truthy (.ref l)) h P := by
  intro E Q s hs hQ
  subst hs
  refine wpAny_truthy_list (PySem.IsL.isList (n := n) hl) (by simp; omega) ?_
  have := hQ _ _ (s.toks + 1 + 1) p
  simpa using this
theorem ev_pop {prog : Program} {l : Addr} {xs : List Value} {x : Value} {n : Nat} {h : Heap} {P : Value → Heap → Prop} (hl : h.get? l = some (LO (xs ++ [x]) n)) (hz : xs.length < 64)
    (p : ∀ h', Only [l] h h' → h'.get? l = some (LO xs (n + 1)) → P x h') : Ev (model prog w) A (call (.builtin "list.pop") [.ref l]) h P := by
  intro E Q s hs hQ
  subst hs
  have hk : (xs ++ [x]).toArray.size - 1 = xs.length := by rw [List.size_toArray, List.length_append]; rfl
  have hy : (xs ++ [x]).toArray[(xs ++ [x]).toArray.size - 1]? = some x := by rw [hk]; simp
  refine call_meets PySem.F.slot_list_pop ⟨_, hl, rfl⟩ PySem.F.entry_list_pop (PySem.F.args_list_pop_1 _) (PySem.MeetsSeq.list_pop_last l _ n x hy (by simp; exact Nat.le_trans (Nat.succ_le_of_lt (Nat.lt_succ_of_lt hz)) (by decide))) ⟨hl, hQ _ _ s.toks (p _ only_update ?_)⟩
  have q := PySem.IsL.update hl (fun a => a.eraseIdxIfInBounds ((xs ++ [x]).toArray.size - 1))
  have e1 : ((xs ++ [x]).toArray).eraseIdxIfInBounds ((xs ++ [x]).toArray.size - 1) = xs.toArray := by rw [hk, kl_erase, List.append_nil]
  rw [e1, if_neg (by simp)] at q
  exact q
end Mine
open PySem PySem.W PyProof.Rows PySem.Calls
set_option maxRecDepth 100000
set_option maxHeartbeats 4000000
set_option linter.unusedVariables false
namespace Mine
variable {w : World} {A : Around} {Bh : Heap} {α : Type}
theorem ev_fdivi {prog : Program} {a b : Int} {t u : Tok} {h : Heap} {P : Value → Heap → Prop} (hb : b ≠ 0) (hp : Builtin.divisionGoesByPylong a b = false) (p : ∀ t, P (.int (a.fdiv b) t) h) : Ev (model prog w) A (binaryOp .FloorDiv (.int a t) (.int b u)) h P := by
  intro E Q s hs hQ; subst hs; exact PyProof.Rows.floordiv_int hb (hQ _ _ (s.toks + 1) (p _)) (hp := .inl hp)
theorem ev_modi {prog : Program} {a b : Int} {t u : Tok} {h : Heap} {P : Value → Heap → Prop} (hb : b ≠ 0) (p : ∀ t, P (.int (a.fmod b) t) h) : Ev (model prog w) A (binaryOp .Mod (.int a t) (.int b u)) h P := by
  intro E Q s hs hQ; subst hs; exact PyProof.Rows.mod_int hb (hQ _ _ (s.toks + 1) (p _))
noncomputable def hpush (lt : α → α → Bool) (a : α) (as : List α) : List α := sdown lt a 0 as.length (as ++ [a]) as.length
theorem heappush_C (I : Item w α) {h : Heap} (B : Base w Bh) (kb : Kp Bh h) (room : Room A 4) {l : Addr} {xs : List Value} {n : Nat} {as : List α} {v : Value} {a : α}
    (hl : h.get? l = some (LO xs n)) (hbl : Bh.get? l = none) (hz : xs.length < 60) {gi : Heap} (kgi : Kp gi h) (hgl : gi.get? l = none) (hr : SeqL I.R gi xs as) (rv : I.R gi v a) {P : Value → Heap → Prop}
    (p : ∀ h' xs' n', Only [l] h h' → h'.get? l = some (LO xs' n') → SeqL I.R gi xs' (hpush I.lt a as) → P .none h') :
    CEv (model pw w) A (.call (.ref 213) ⟨[.ref l, v], []⟩) h P := by
  refine CEv.fn B kb (n := 3) room (fa := 213) (c := 212) [("heap", .ref l), ("item", v)] [(l, LO xs n)] rfl rfl rfl rfl rfl rfl rfl (fun s hs => BindsTo.of_eq (by rfl)) rfl rfl (allc hl alln) ?_
  intro L h₁ R k1 F N
  have hg : Kp Bh (hideAll h [l]) := kp_hide kb (allc hbl alln)
  have hle := hr.len
  have kgi' : Kp gi (hideAll h [l]) := kp_hide kgi (allc hgl alln)
  have hl1 := N.at (.head _)
  refine ev_cons (ev_doc ?_)
  refine ev_cons (ev_expr (ev_mcall (ev_ld F rfl (ev_method_list hl1 PySem.slot_list_append (ev_ld F (v := v) rfl ⟨.builtin, ev_append hl1 (by grind) fun h2 o2 g2 => ?_⟩)))))
  have F2 := Fm.o1 F N o2
  have N2 := Nw.o1 N o2 g2 alln
  have kg := hg.trans' F2.keep
  refine ev_cons (ev_expr (ev_call (ev_glob B kg (.ref 248) rfl (ev_ld F2 (v := .ref l) rfl (ev_int fun t1 => ev_binop (ev_call (ev_bi B kg (.builtin "len") rfl rfl (ev_ld F2 (v := .ref l) rfl ⟨.builtin, ev_len g2 (by simp; omega) fun t2 => ev_int fun t3 => ev_subi fun t4 => ⟨.inK B kg rfl, Ev.call ?_⟩⟩))))))))
  have e1 : (((xs ++ [v]).length : Int) - 1) = (as.length : Nat) := by simp; omega
  rw [e1]
  refine siftdown_C I (x := a) (start := 0) B kg (R.le (by decide)) g2 hbl (by simp; omega) (kgi'.trans' F2.keep) hgl (SeqL.snoc hr rv) (by simp) fun h3 xs3 n3 o3 g3 r3 => ev_nil ?_
  exact p h3 xs3 n3 (F2.only.trans o3) g3 r3
noncomputable def hpop (lt : α → α → Bool) (init : List α) (last : α) : α × List α := match init with
  | [] => (last, [])
  | b :: r => (b, sup lt last 0 (r.length + 1) (last :: r) 0)
theorem heappop_C (I : Item w α) {h : Heap} (B : Base w Bh) (kb : Kp Bh h) (room : Room A 5) {l : Addr} {xs : List Value} {n : Nat} {as : List α} {a : α}
    (hl : h.get? l = some (LO xs n)) (hbl : Bh.get? l = none) (hz : xs.length < 60) {gi : Heap} (kgi : Kp gi h) (hgl : gi.get? l = none) (hr : SeqL I.R gi xs (as ++ [a])) {P : Value → Heap → Prop}
    (p : ∀ v h' xs' n', Only [l] h h' → h'.get? l = some (LO xs' n') → SeqL I.R gi xs' (hpop I.lt as a).2 → I.R gi v (hpop I.lt as a).1 → P v h') :
    CEv (model pw w) A (.call (.ref 220) ⟨[.ref l], []⟩) h P := by
  refine CEv.fn B kb (n := 4) room (fa := 220) (c := 219) [("heap", .ref l)] [(l, LO xs n)] rfl rfl rfl rfl rfl rfl rfl (fun s hs => BindsTo.of_eq (by rfl)) rfl rfl (allc hl alln) ?_
  intro L h₁ R k1 F N
  have hg : Kp Bh (hideAll h [l]) := kp_hide kb (allc hbl alln)
  have hle := hr.len
  have kgi' : Kp gi (hideAll h [l]) := kp_hide kgi (allc hgl alln)
  obtain ⟨ys, v, rfl, r0, rv⟩ := SeqL.snoc_inv hr
  have hl1 := N.at (.head _)
  simp only [List.length_append, List.length_singleton] at hz hle
  refine ev_cons (ev_doc ?_)
  refine ev_cons (ev_assign (ev_mcall (ev_ld F rfl (ev_method_list hl1 PySem.F.slot_list_pop ⟨.builtin, ev_pop hl1 (by grind) fun h2 o2 g2 => ?_⟩))))
  have F2 := Fm.o1 F N o2
  have N2 := Nw.o1 N o2 g2 alln
  refine ev_st F2 N2 fun h3 F3 N3 => ?_
  have hl3 := N3.at (.head _)
  refine ev_cons (ev_if (ev_isTrue_plain (ev_ld F3 (v := .ref l) rfl (ev_truthy_list hl3 (by grind) ?_))))
  cases r0 with
  | nil =>
    refine ev_nil (ev_cons (ev_return (ev_ld F3 rfl ?_)))
    exact p v h3 [] _ F3.only hl3 .nil rv
  | @cons y b ys as ry r0 =>
    refine ev_cons (ev_assign (ev_sub (ev_ld F3 (v := .ref l) rfl (ev_int fun t1 => ev_tail_list hl3 (by grind) (by grind) rfl (ev_st F3 N3 fun h4 F4 N4 => ?_)))))
    have hl4 := N4.at (.head _)
    simp only [List.length_cons] at hz hle
    refine ev_cons (ev_assign_sub (ev_ld F4 (v := v) rfl (ev_ld F4 (v := .ref l) rfl (ev_int fun t2 => ev_setitem hl4 (by grind) (by grind) (by simp) fun h5 o5 g5 => ?_))))
    have F5 := Fm.o1 F4 N4 o5
    have N5 := Nw.o1 N4 o5 g5 alln
    have kg := hg.trans' F5.keep
    refine ev_cons (ev_expr (ev_call (ev_glob B kg (.ref 255) rfl (ev_ld F5 (v := .ref l) rfl (ev_int fun t3 => ⟨.inK B kg rfl, Ev.call ?_⟩)))))
    have r5 : SeqL I.R gi (v :: ys) (a :: as) := .cons rv r0
    refine siftup_C I (pos := 0) B kg (R.le (by decide)) (by simpa using g5) hbl (by simp; omega) (kgi'.trans' F5.keep) hgl r5 rfl fun h6 xs6 n6 o6 g6 z6 r6 => ?_
    have F6 := Fm.o1 F5 N5 o6
    have N6 := Nw.o1 N5 o6 g6 alln
    refine ev_cons (ev_return (ev_ld F6 (v := y) rfl ?_))
    refine p y h6 xs6 n6 F6.only g6 ?_ ry
    have e1 : (v :: ys).length = as.length + 1 := r5.len
    rw [e1] at r6
    exact r6
noncomputable def hfy (lt : α → α → Bool) : Nat → List α → List α
  | 0, as => as
  | k + 1, as => match as[k]? with
    | some x => hfy lt k (sup lt x k as.length as k)
    | none => as
theorem heapreplace_C (I : Item w α) {h : Heap} (B : Base w Bh) (kb : Kp Bh h) (room : Room A 4) {l : Addr} {xs : List Value} {n : Nat} {b : α} {as : List α} {v : Value} {a : α}
    (hl : h.get? l = some (LO xs n)) (hbl : Bh.get? l = none) (hz : xs.length < 60) {gi : Heap} (kgi : Kp gi h) (hgl : gi.get? l = none) (hr : SeqL I.R gi xs (b :: as)) (rv : I.R gi v a) {P : Value → Heap → Prop}
    (p : ∀ v h' xs' n', Only [l] h h' → h'.get? l = some (LO xs' n') → SeqL I.R gi xs' (sup (flp I.lt) a 0 (as.length + 1) (a :: as) 0) → P v h') :
    CEv (model pw w) A (.call (.ref 234) ⟨[.ref l, v], []⟩) h P := by
  refine CEv.fn B kb (n := 3) room (fa := 234) (c := 233) [("heap", .ref l), ("item", v)] [(l, LO xs n)] rfl rfl rfl rfl rfl rfl rfl (fun s hs => BindsTo.of_eq (by rfl)) rfl rfl (allc hl alln) ?_
  intro L h₁ R k1 F N
  have hg : Kp Bh (hideAll h [l]) := kp_hide kb (allc hbl alln)
  have hle := hr.len
  have kgi' : Kp gi (hideAll h [l]) := kp_hide kgi (allc hgl alln)
  cases hr with
  | @cons y _ ys _ ry r0 =>
    have hl1 := N.at (.head _)
    simp only [List.length_cons] at hz hle
    refine ev_cons (ev_doc ?_)
    refine ev_cons (ev_assign (ev_sub (ev_ld F (v := .ref l) rfl (ev_int fun t1 => ev_tail_list hl1 (by grind) (by grind) rfl (ev_st F N fun h4 F4 N4 => ?_)))))
    have hl4 := N4.at (.head _)
    refine ev_cons (ev_assign_sub (ev_ld F4 (v := v) rfl (ev_ld F4 (v := .ref l) rfl (ev_int fun t2 => ev_setitem hl4 (by grind) (by grind) (by simp) fun h5 o5 g5 => ?_))))
    have F5 := Fm.o1 F4 N4 o5
    have N5 := Nw.o1 N4 o5 g5 alln
    have kg := hg.trans' F5.keep
    refine ev_cons (ev_expr (ev_call (ev_glob B kg (.ref 269) rfl (ev_ld F5 (v := .ref l) rfl (ev_int fun t3 => ⟨.inK B kg rfl, Ev.call ?_⟩)))))
    have r5 : SeqL I.R gi (v :: ys) (a :: as) := .cons rv r0
    refine siftup_max_C I (pos := 0) B kg (R.le (by decide)) (by simpa using g5) hbl (by simp; omega) (kgi'.trans' F5.keep) hgl r5 rfl fun h6 xs6 n6 o6 g6 z6 r6 => ?_
    have F6 := Fm.o1 F5 N5 o6
    have N6 := Nw.o1 N5 o6 g6 alln
    refine ev_cons (ev_return (ev_ld F6 (v := y) rfl ?_))
    refine p y h6 xs6 n6 F6.only g6 ?_
    have e1 : (v :: ys).length = as.length + 1 := r5.len
    rw [e1] at r6
    exact r6
inductive HF (R : Heap → Value → α → Prop) (lt : α → α → Bool) (gi g : Heap) (L l I0 : Addr) (n0 half : Nat) (tot : List α) (i : Nat) (o : Obj) (h : Heap) : Prop
  | mk {m : Str → Option Value} {xs : List Value} {n : Nat} {as : List α} (F : Fm g L h m) (N : Nw g L h [(I0, o), (l, LO xs n)]) (m1 : m "x" = some (.ref l)) (z : xs.length = n0) (r : SeqL R gi xs as) (hi : i ≤ half) (e : hfy lt (half - i) as = tot) : HF R lt gi g L l I0 n0 half tot i o h
theorem le64 {n : Nat} (h : n < 60) : n < 64 := Nat.lt_trans h (by decide)
theorem half_small {n : Nat} (h : n < 60) : n / 2 < 10000 := by grind
theorem half_div (n : Nat) : ((n : Int).fdiv 2) = ((n / 2 : Nat) : Int) := by rw [Int.fdiv_eq_ediv_of_nonneg _ (by decide)]; rfl
theorem back_int {n i : Nat} (h : i < n) : ((n : Int) - 1 + (i : Int) * -1) = ((n - 1 - i : Nat) : Int) ∧ n - i = (n - 1 - i) + 1 ∧ n - (i + 1) = n - 1 - i ∧ n - 1 - i < n := by grind
theorem Fm.new0 {g h : Heap} {L a : Addr} {m : Str → Option Value} (F : Fm g L h m) (d : h.get? a = none) : a ≠ L ∧ g.get? a = none := by
  refine ⟨fun e => ?_, ?_⟩
  · obtain ⟨o, _, _, ho, _⟩ := F.ns
    rw [← e, d] at ho; cases ho
  · cases q : g.get? a with
    | none => rfl
    | some o => rw [F.keep _ _ q] at d; cases d
theorem hf_loop {R : Heap → Value → α → Prop} {lt : α → α → Bool} {env : Env} {body : List Stmt} {p1 : Pos} {gi g h : Heap} {l I0 : Addr} {m : Str → Option Value} {xs : List Value} {n : Nat} {as : List α} {o : Obj} (hh : A.handled = none) (hk : env.scope.kind = .function) (li : env.kindOf "i" = some .local) (il : I0 ≠ l)
    (F : Fm g env.locals h m) (N : Nw g env.locals h [(I0, o), (l, LO xs n)]) (st : o = rangeItO (((xs.length / 2 : Nat) : Int) - 1 + ((0 : Nat) : Int) * -1) (((xs.length / 2 : Nat) : Int) - ((0 : Nat) : Int)) (-1)) (m1 : m "x" = some (.ref l)) (hr : SeqL R gi xs as)
    (hbody : ∀ {h7 : Heap} {m7 : Str → Option Value} {xs' : List Value} {n' k : Nat} {as' : List α} {t : Tok} {a : α} {Q : Flow → Heap → Prop}, Fm g env.locals h7 m7 → h7.get? l = some (LO xs' n') → m7 "x" = some (.ref l) → m7 "i" = some (.int k t) → xs'.length = xs.length → SeqL R gi xs' as' → as'[k]? = some a →
      (∀ h8 xs8 n8, Only [l] h7 h8 → h8.get? l = some (LO xs8 n8) → xs8.length = xs'.length → SeqL R gi xs8 (sup lt a k xs'.length as' k) → Q .next h8) → Ev (model pw w) A (execs body env) h7 Q) {P : Flow → Heap → Prop}
    (p : ∀ h' m' xs' n', Fm g env.locals h' m' → h'.get? l = some (LO xs' n') → SeqL R gi xs' (hfy lt (xs.length / 2) as) → Ev (model pw w) A (execs [] env) h' P) :
    GEv w A (.forLoop (.Name "i" p1) (.ref I0) body [] env) h P := by
  have T : Itr w A I0 g (xs.length / 2) _ _ _ := Itr.range hh ((xs.length / 2 : Nat) - 1) (-1) (xs.length / 2)
  obtain ⟨J, hJ⟩ : ∃ J : Nat → Obj → Heap → Prop, ∀ i o h, J i o h ↔ HF R lt gi g env.locals l I0 xs.length (xs.length / 2) (hfy lt (xs.length / 2) as) i o h := ⟨_, fun _ _ _ => Iff.rfl⟩
  refine gev_for_itr T J (fun i o h j => by obtain ⟨jF, jN, _⟩ := (hJ _ _ _).1 j; exact ⟨jF.keep, jN.at (.head _)⟩) ?_ ?_ st ((hJ _ _ _).2 ⟨F, N, m1, rfl, hr, Nat.zero_le _, rfl⟩)
  · rintro i o h5 v h6 o6 hi j ⟨t6, rfl⟩ o5 gI cI
    obtain @⟨m, xs', n', as', F4, N4, m1, z1, r4, hi2, e4⟩ := (hJ _ _ _).1 j
    have F5 := Fm.o1 F4 N4 o5
    have N5 := Nw.o1 N4 o5 gI (allc il.symm alln)
    obtain ⟨b1, b2, b3, b4⟩ := back_int hi
    rw [b1]
    refine ev_own_name (ev_asg_name (ev_st F5 N5 (fun h7 F7 N7 => ?_) hk li))
    have hle4 : as'.length = xs.length := r4.len.symm.trans z1
    obtain ⟨a, ha⟩ : ∃ y, as'[xs.length / 2 - 1 - i]? = some y := ⟨_, List.getElem?_eq_getElem (by rw [hle4]; exact Nat.lt_of_lt_of_le b4 (Nat.div_le_self ..))⟩
    refine hbody F7 (N7.at (.tail _ (.head _))) m1 rfl z1 r4 ha fun h8 xs8 n8 o8 g8 z8 r8 => ⟨_, (hJ _ _ _).2 ⟨F7.put N7 1 rfl o8, N7.put1 (.cons (allc il alln) (.cons alln .nil)) 1 rfl o8 g8, m1, z8.trans z1, r8, hi, ?_⟩, rfl⟩
    rw [← e4, b2, b3, hfy, ha, r4.len]
  · intro o h5 h6 j o5
    obtain @⟨m, xs', n', as', F4, N4, m1, z1, r4, hi2, e4⟩ := (hJ _ _ _).1 j
    rw [Nat.sub_self] at e4
    have n0 := N4 _ (.head _)
    have nl := N4 _ (.tail _ (.head _))
    refine p h6 m xs' n' (after F4 N4 (news' := []) o5 (allc n0.2.symm alln) alln).1 (o5 _ _ (nin1 il.symm) nl.1) (e4 ▸ r4)
theorem heapify_C (I : Item w α) {h : Heap} (B : Base w Bh) (kb : Kp Bh h) (room : Room A 5) {l : Addr} {xs : List Value} {n : Nat} {as : List α}
    (hl : h.get? l = some (LO xs n)) (hbl : Bh.get? l = none) (hz : xs.length < 60) {gi : Heap} (kgi : Kp gi h) (hgl : gi.get? l = none) (hr : SeqL I.R gi xs as) {P : Value → Heap → Prop}
    (p : ∀ h' xs' n', Only [l] h h' → h'.get? l = some (LO xs' n') → SeqL I.R gi xs' (hfy I.lt (as.length / 2) as) → P .none h') :
    CEv (model pw w) A (.call (.ref 227) ⟨[.ref l], []⟩) h P := by
  refine CEv.fn B kb (n := 4) room (fa := 227) (c := 226) [("x", .ref l)] [(l, LO xs n)] rfl rfl rfl rfl rfl rfl rfl (fun s hs => BindsTo.of_eq (by rfl)) rfl rfl (allc hl alln) ?_
  intro L h₁ Rm k1 F N
  have hg : Kp Bh (hideAll h [l]) := kp_hide kb (allc hbl alln)
  have kgi' : Kp gi (hideAll h [l]) := kp_hide kgi (allc hgl alln)
  have hz' := le64 hz
  refine ev_cons (ev_doc ?_)
  refine ev_cons (ev_assign (ev_call (ev_bi B (hg.trans' F.keep) (.builtin "len") rfl rfl (ev_ld F rfl ⟨.builtin, ev_len (N.at (.head _)) (len64 hz') fun t0 => ev_st F N fun h2 F2 N2 => ?_⟩))))
  have kg := hg.trans' F2.keep
  refine ev_cons (ev_for (ev_call (ev_bi B kg (.type "reversed") rfl rfl (ev_call (ev_bi B kg (.type "range") rfl rfl (ev_binop (ev_ld F2 rfl (ev_int fun t1 => ev_fdivi (by decide) (by rfl) fun t2 => ⟨.type, ev_range1 fun r h3 t3 t4 t5 o3 d3 g3 => ?_⟩))))))))
  rw [half_div xs.length] at g3
  refine ⟨.type, ev_reversed g3 (half_small hz) fun I0 h4 o4 d4 g4 => ?_⟩
  have F3 := Fm.o F2 (o3.trans o4)
  have N3 := Nw.o N2 (o3.trans o4)
  have F3' := Fm.o F2 o3
  have i0 := F3'.new0 d4
  have il : I0 ≠ l := fun e => by
    rw [e, o3 _ _ nin0 (N2.at (.head _))] at d4; cases d4
  refine (Itr.range (g := h4) Rm.handled ((xs.length / 2 : Nat) - 1) (-1) (xs.length / 2)).self g4 (by rfl) ?_
  refine hf_loop (lt := I.lt) (R := I.R) (gi := gi) Rm.handled rfl (by rfl) il F3 (N3.cons g4 i0.1 i0.2) (by rfl) rfl hr (fun F7 hl7 m1 m2 z7 r7 ha q => ?_) fun h' m' xs' n' F' g' r' => ev_nil (ev_nil (p h' xs' n' F'.only g' (hr.len ▸ r')))
  have kg := hg.trans' F7.keep
  exact ev_cons (ev_expr (ev_call (ev_glob B kg (.ref 255) rfl (ev_ld F7 m1 (ev_ld F7 m2 ⟨.inK B kg rfl, Ev.call (siftup_C I B kg (Rm.le (by decide)) hl7 hbl (z7 ▸ hz') (kgi'.trans' F7.keep) hgl r7 ha fun h8 xs8 n8 o8 g8 z8 r8 => ev_nil (q h8 xs8 n8 o8 g8 z8 r8))⟩)))))
theorem heapify_max_C (I : Item w α) {h : Heap} (B : Base w Bh) (kb : Kp Bh h) (room : Room A 5) {l : Addr} {xs : List Value} {n : Nat} {as : List α}
    (hl : h.get? l = some (LO xs n)) (hbl : Bh.get? l = none) (hz : xs.length < 60) {gi : Heap} (kgi : Kp gi h) (hgl : gi.get? l = none) (hr : SeqL I.R gi xs as) {P : Value → Heap → Prop}
    (p : ∀ h' xs' n', Only [l] h h' → h'.get? l = some (LO xs' n') → SeqL I.R gi xs' (hfy (flp I.lt) (as.length / 2) as) → P .none h') :
    CEv (model pw w) A (.call (.ref 241) ⟨[.ref l], []⟩) h P := by
  refine CEv.fn B kb (n := 4) room (fa := 241) (c := 240) [("x", .ref l)] [(l, LO xs n)] rfl rfl rfl rfl rfl rfl rfl (fun s hs => BindsTo.of_eq (by rfl)) rfl rfl (allc hl alln) ?_
  intro L h₁ Rm k1 F N
  have hg : Kp Bh (hideAll h [l]) := kp_hide kb (allc hbl alln)
  have kgi' : Kp gi (hideAll h [l]) := kp_hide kgi (allc hgl alln)
  have hz' := le64 hz
  refine ev_cons (ev_doc ?_)
  refine ev_cons (ev_assign (ev_call (ev_bi B (hg.trans' F.keep) (.builtin "len") rfl rfl (ev_ld F rfl ⟨.builtin, ev_len (N.at (.head _)) (len64 hz') fun t0 => ev_st F N fun h2 F2 N2 => ?_⟩))))
  have kg := hg.trans' F2.keep
  refine ev_cons (ev_for (ev_call (ev_bi B kg (.type "reversed") rfl rfl (ev_call (ev_bi B kg (.type "range") rfl rfl (ev_binop (ev_ld F2 rfl (ev_int fun t1 => ev_fdivi (by decide) (by rfl) fun t2 => ⟨.type, ev_range1 fun r h3 t3 t4 t5 o3 d3 g3 => ?_⟩))))))))
  rw [half_div xs.length] at g3
  refine ⟨.type, ev_reversed g3 (half_small hz) fun I0 h4 o4 d4 g4 => ?_⟩
  have F3 := Fm.o F2 (o3.trans o4)
  have N3 := Nw.o N2 (o3.trans o4)
  have F3' := Fm.o F2 o3
  have i0 := F3'.new0 d4
  have il : I0 ≠ l := fun e => by
    rw [e, o3 _ _ nin0 (N2.at (.head _))] at d4; cases d4
  refine (Itr.range (g := h4) Rm.handled ((xs.length / 2 : Nat) - 1) (-1) (xs.length / 2)).self g4 (by rfl) ?_
  refine hf_loop (lt := (flp I.lt)) (R := I.R) (gi := gi) Rm.handled rfl (by rfl) il F3 (N3.cons g4 i0.1 i0.2) (by rfl) rfl hr (fun F7 hl7 m1 m2 z7 r7 ha q => ?_) fun h' m' xs' n' F' g' r' => ev_nil (ev_nil (p h' xs' n' F'.only g' (hr.len ▸ r')))
  have kg := hg.trans' F7.keep
  exact ev_cons (ev_expr (ev_call (ev_glob B kg (.ref 269) rfl (ev_ld F7 m1 (ev_ld F7 m2 ⟨.inK B kg rfl, Ev.call (siftup_max_C I B kg (Rm.le (by decide)) hl7 hbl (z7 ▸ hz') (kgi'.trans' F7.keep) hgl r7 ha fun h8 xs8 n8 o8 g8 z8 r8 => ev_nil (q h8 xs8 n8 o8 g8 z8 r8))⟩)))))
end Mine
open PySem PySem.W PyProof.Rows PySem.Calls
set_option maxRecDepth 100000
set_option maxHeartbeats 4000000
set_option linter.unusedVariables false
namespace Mine
variable {w : World} {A : Around} {Bh : Heap}
/-! ## builtin methods on an object whose class is of the text and sits on a builtin class -/
theorem ev_check_sub {M : Model} {id owner n : String} {self : Value} {rest : List Value} {kw : List (Str × Value)} {h : Heap} {P : Unit → Heap → Prop} (hsplit : splitId id = some (owner, n))
    (hkind : (Manifest.find? owner).bind (·.attrs.lookup n) = some .slot ∨ (Manifest.find? owner).bind (·.attrs.lookup n) = some .method) (hi : Looks M h (isInstance self (.type owner)) true) (ha : argsOk id ⟨self :: rest, kw⟩) (p : P () h) :
    Ev M A (checkBuiltinCall id ⟨self :: rest, kw⟩) h P := by
  intro E Q s hs hQ
  subst hs
  have hk : builtinKind id = (Manifest.find? owner).bind (·.attrs.lookup n) := by simp only [builtinKind, hsplit]
  rcases hkind with q | q <;>
  · simp only [checkBuiltinCall, hk, q, hsplit]
    refine wpAny_bind (hi.here ?_)
    simp only [Bool.not_true, Bool.false_eq_true, if_false]
    cases hsig : Manifest.signature? id with
    | none => exact wpAny_pure (hQ _ _ s.toks p)
    | some sig =>
      simp only [argsOk, hsig] at ha
      have h2 : Bind.checkArgs id sig ⟨self :: rest, kw⟩ = pure () := ha
      show wpAny M A (Bind.checkArgs id sig ⟨self :: rest, kw⟩) Q E s
      rw [h2]; exact wpAny_pure (hQ _ _ s.toks p)
theorem cev_builtin {prog : Program} {id : String} {args : Args} {b : Builtin} {h : Heap} {P : Value → Heap → Prop} (hq : plainId id = true) (hb : entryFor table id = some b)
    (x : Ev (model prog w) A.in1 (checkBuiltinCall id args) h fun _ h1 => Ev (model prog w) A.in1 (b args) h1 fun fin h2 => ∃ v, fin = .done (.ret v) ∧ P v h2) : CEv (model prog w) A (.call (.builtin id) args) h P := by
  intro R s hs hQ
  refine codeAny_call_builtin hq hb (x _ _ s hs fun _ h1 tk1 y => y _ _ _ rfl fun fin h2 tk2 z => ?_)
  obtain ⟨v, rfl, p⟩ := z
  exact hQ v h2 tk2 p
theorem cev_sub {prog : Program} {id owner n : String} {self : Value} {rest : List Value} {kw : List (Str × Value)} {b : Builtin} {h : Heap} {P : Value → Heap → Prop} (hq : plainId id = true) (hb : entryFor table id = some b) (hsplit : splitId id = some (owner, n))
    (hkind : (Manifest.find? owner).bind (·.attrs.lookup n) = some .slot ∨ (Manifest.find? owner).bind (·.attrs.lookup n) = some .method) (hi : Looks (model prog w) h (isInstance self (.type owner)) true) (ha : argsOk id ⟨self :: rest, kw⟩)
    (x : Ev (model prog w) A.in1 (b ⟨self :: rest, kw⟩) h fun fin h2 => ∃ v, fin = .done (.ret v) ∧ P v h2) : CEv (model prog w) A (.call (.builtin id) ⟨self :: rest, kw⟩) h P :=
  cev_builtin hq hb (ev_check_sub hsplit hkind hi ha x)
theorem ev_ret {M : Model} {v : Value} {h : Heap} {P : Value → Heap → Prop} (p : P v h) : Ev M A (ret v) h fun fin h2 => ∃ v, fin = .done (.ret v) ∧ P v h2 := Ev.pure ⟨v, rfl, p⟩
/-! ## pairs -/
noncomputable abbrev pairO (d : Addr) (x y : Value) : Obj := ⟨.ref 203, some d, .seq #[x, y] 0, #[]⟩
noncomputable abbrev dictO0 : Obj := ⟨.type "dict", none, .dict #[] 0, #[]⟩
noncomputable def IsPair (h : Heap) (p : Addr) (x y : Value) : Prop := ∃ d, h.get? p = some (pairO d x y) ∧ h.get? d = some dictO0
theorem IsPair.inst {h : Heap} {p : Addr} {x y : Value} (hp : IsPair h p x y) : ∃ d, InstAt h p (pairO d x y) 203 (some dictO0) := by
  obtain ⟨d, h1, h2⟩ := hp
  exact ⟨d, h1, rfl, rfl, h2⟩
theorem IsPair.up {h h' : Heap} {p : Addr} {x y : Value} (k : Kp h h') (hp : IsPair h p x y) : IsPair h' p x y := by
  obtain ⟨d, h1, h2⟩ := hp
  exact ⟨d, k _ _ h1, k _ _ h2⟩
theorem looks_inst_tuple {prog : Program} (B : Base w Bh) {h : Heap} (kb : Kp Bh h) {p : Addr} {x y : Value} (hp : IsPair h p x y) : Looks (model prog w) h (isInstance (.ref p) (.type "tuple")) true := by
  obtain ⟨d, I⟩ := hp.inst
  unfold isInstance
  exact I.type.andThen (looks_subIn (B.X.keeps kb) (by kernel_rfl))
theorem ev_attr {prog : Program} {value : Expr} {attr : Str} {pos : Pos} {env : Env} {h : Heap} {P : Value → Heap → Prop} (x : Ev (model prog w) A (eval value env) h fun o h1 => Ev (model prog w) A (getAttr o attr true) h1 P)
    (he : eval (.Attribute value attr pos) env = (do
      let o ← eval value env
      standAt pos.atName
      let r ← holding [o] (getAttr o attr true)
      letTemporaryGo value o r
      pure r) := by with_unfolding_all rfl) : Ev (model prog w) A (eval (.Attribute value attr pos) env) h P :=
  fun E Q s hs hQ => PyProof.Rows.Attribute_any_ (x E _ s hs fun o h1 tk y => y E _ _ rfl fun r h2 tk2 p => hQ r h2 tk2 p) he
/-- a name of a pair, by a descriptor of its class -/
theorem ev_getAttr_pair (B : Base w Bh) {h : Heap} (kb : Kp Bh h) {p : Addr} {x y : Value} (hp : IsPair h p x y) {name : Str} {g a : Value} {expr : Bool} {P : Value → Heap → Prop}
    (hf : findObj (K w.params) 203 (some dictO0) name = some (.bind g a)) (hv : ∀ v h', P v h' → handedIn v = true)
    (c : Ev (model pw w) A.in1 (call g [a, .ref p, .ref 203]) h P) : Ev (model pw w) A (getAttr (.ref p) name expr) h P := by
  obtain ⟨d, I⟩ := hp.inst
  have X := B.X.keeps kb
  unfold getAttr getAttrBy
  refine Ev.bind (Ev.mkText fun tk => Ev.holding (Ev.bind (Ev.looks I.type (Ev.bind (Ev.looks (looks_findIn X (r := some (.builtin "tuple.__getattribute__")) (by kernel_rfl)) ?_)))))
  show Ev _ _ (getAttrByItsOwn _ _ _ _ _ _) _ _
  unfold getAttrByItsOwn
  refine Ev.bind (Ev.looks (r := none) (looks_findIn X (by kernel_rfl)) ?_)
  refine Ev.bind (Ev.attempt (Ev.holding ?_))
  have eg : callGetattribute (.ref p) (.str name tk) (.builtin "tuple.__getattribute__") expr = boundAndCalled (.builtin "tuple.__getattribute__") (.ref p) (.str name tk) := by
    unfold callGetattribute
    rw [if_neg (by show ¬ ((expr && false) = true); simp)]
  rw [eg]
  unfold boundAndCalled
  rw [PySem.F.slot_tuple_getattribute.bind]
  refine Ev.bind (Ev.pure (Ev.call ?_))
  refine cev_sub (owner := "tuple") (n := "__getattribute__") (by decide +kernel) PySem.am_entry_tuple_getattribute (by decide +kernel) (by first | exact .inl (by decide +kernel) | exact .inr (by decide +kernel)) (looks_inst_tuple B kb hp) (PySem.F.args_tuple_getattribute_2 _ _) ?_
  unfold Builtin.«object.__getattribute__»
  refine Ev.bind (Ev.eq (t' := pure (.ref p, [.str name tk])) rfl (Ev.pure ?_))
  refine Ev.bind (Ev.eq (t' := pure name) rfl (Ev.pure ?_))
  refine Ev.bind (Ev.looks I.type (Ev.bind (Ev.looks (looks_find X I hf) ?_)))
  show Ev _ _ (holding [a] (call g [a, .ref p, .ref 203]) >>= ret) _ _
  refine Ev.bind (Ev.holding (c.mono fun v h' pv => ev_ret ?_))
  show Ev _ _ (handedOut v) _ _
  rw [handedOut_of (hv v h' pv)]
  exact Ev.pure pv
theorem ev_is_none {prog : Program} {v : Value} {h : Heap} {P : Value → Heap → Prop} (p : P (.bool (v == .none)) h) : Ev (model prog w) A (compareOp .Is v .none) h P := by
  intro E Q s hs hQ; subst hs; exact PyProof.Rows.is_none_gen (hQ _ _ s.toks p)
end Mine
open PySem PySem.W PyProof.Rows PySem.Calls
set_option maxRecDepth 100000
set_option maxHeartbeats 4000000
set_option linter.unusedVariables false
namespace Mine
variable {w : World} {A : Around} {Bh : Heap}
theorem fr_empty {h : Heap} {L : Addr} {m : Str → Option Value} (n : h.Ns L m) : Fr {} L h m := ⟨n, fun b o e => (nomatch e), Nat.zero_le _⟩
theorem in_nil : Frag.In [] ({} : Heap) := fun a o e => nomatch e
theorem ev_method_type {T : String} {name : Str} {v : Value} {pl : Sem Bool} {g h : Heap} {L : Addr} {m : Str → Option Value} {P : Value × List Value → Heap → Prop} (F : Fm g L h m) (ht : typeOf (.type T) = pure (.type "type")) (hs : Manifest.isStub T = false)
    (e : findCls [] (.type T) (.type "type") name = some (.val v)) (hh : handedIn v = true) (p : P (v, []) h) : Ev (model pw w) A (getMethod (.type T) name pl) h P := by
  intro E Q s hs' hQ
  subst hs'
  exact method_type (fr_empty F.ns) in_nil ht hs e hh (hQ _ _ _ p)
theorem ev_getAttr_inst (B : Base w Bh) {h : Heap} (kb : Kp Bh h) {x C : Addr} {ox : Obj} {od : Option Obj} {name : Str} {v : Value} {expr : Bool} {P : Value → Heap → Prop} (I : InstAt h x ox C od)
    (hga : findIn (K w.params) (.ref C) "__getattribute__" = some (some (.builtin "object.__getattribute__"))) (hf : findObj (K w.params) C od name = some (.value v)) (hh : handedIn v = true) (p : P v h) : Ev (model pw w) A (getAttr (.ref x) name expr) h P := by
  intro E Q s hs hQ
  subst hs
  exact get_value (B.X.keeps kb) I hga hf hh (hQ _ _ _ p)
theorem ev_issub (B : Base w Bh) {h : Heap} (kb : Kp Bh h) {P : Value → Heap → Prop} (p : P (.bool true) h) : Ev (model pw w) A (call (.builtin "issubclass") [.ref 203, .type "tuple"]) h P := by
  intro E Q s hs hQ
  subst hs
  have L1 : Looks (model pw w) s.heap (Builtin.«issubclass.nested» ⟨[.ref 203, .type "tuple", rawInt 0], []⟩) (.done (.ret (.bool true))) := Looks.of_peek (B.X.keeps kb) (by kernel_rfl)
  refine wpAny_call (codeAny_call_builtin PySem.F.plain_issubclass PySem.F.entry_issubclass ?_)
  have fin := issubclass_outer (prog := pw) (w := w) (A := A) (x := .ref 203) (c := .type "tuple") (R := fun r s' => match r with | .ok (.ret v) => Q v s' | .ok _ => False | .error e => E e s') (L1.here (hQ _ _ s.toks p))
  simp only [checkBuiltinCall, PySem.F.kind_issubclass]
  cases hsig : Manifest.signature? "issubclass" with
  | none => exact wpAny_pure fin
  | some sig =>
    have ok := PySem.F.args_issubclass_2 (.ref 203) (.type "tuple")
    simp only [argsOk, hsig] at ok
    show wpAny _ _ (Bind.checkArgs "issubclass" sig _) _ _ _
    rw [ok]
    exact wpAny_pure fin
theorem cev_tupGet (B : Base w Bh) {h : Heap} (kb : Kp Bh h) {p : Addr} {x y v : Value} (hp : IsPair h p x y) {i : Nat} {t : Tok} (hv : [x, y][i]? = some v) {P : Value → Heap → Prop} (q : P v h) :
    CEv (model pw w) A (.call (.builtin "tuple.__getitem__") ⟨[.ref p, .int i t], []⟩) h P := by
  have hi : i < 2 := (List.getElem?_eq_some_iff.mp hv).1
  refine cev_sub (owner := "tuple") (n := "__getitem__") (by decide +kernel) PySem.F.entry_tuple_getitem (by decide +kernel) (by first | exact .inl (by decide +kernel) | exact .inr (by decide +kernel)) (looks_inst_tuple B kb hp) (PySem.F.args_tuple_getitem_2 _ _) ?_
  obtain ⟨d, ho, hd⟩ := hp
  intro E Q s hs hQ
  subst hs
  show wpAny _ _ (Builtin.Tuple.tupleItemsOf (.ref p) >>= _) _ _ s
  unfold Builtin.Tuple.tupleItemsOf
  refine wpAny_bind (wpAny_bind (wpAny_seqItems ho rfl (wpAny_pure ?_)))
  refine wpAny_bind (wpAny_typeOf (PySem.typeIs_int s i t) ?_)
  rw [if_neg (by decide)]
  refine wpAny_bind (wpAny_specialOf (T := "int") (PySem.typeIs_int s i t) int_index ?_)
  rw [if_neg (by simp)]
  refine wpAny_bind (wpAny_of_eq (a := (i : Int)) rfl ?_)
  rw [if_neg (by simp only [Bool.or_eq_true, decide_eq_true_eq]; omega)]
  have hj : seqIndex? (i : Int) (#[x, y] : Array Value).size = some i := by
    unfold seqIndex?
    match i, hi with
    | 0, _ => rfl
    | 1, _ => rfl
  have hx : (#[x, y] : Array Value)[i]? = some v := by simpa using hv
  simp only [hj, Option.bind_some, hx]
  exact wpAny_pure (hQ _ _ s.toks ⟨_, rfl, q⟩)
theorem ty_tuple : typeOf (.type "tuple") = pure (.type "type") := by with_unfolding_all rfl
theorem fc_tupGet : findCls [] (.type "tuple") (.type "type") "__getitem__" = some (.val (.builtin "tuple.__getitem__")) := by kernel_rfl
theorem stub_tuple : Manifest.isStub "tuple" = false := by decide +kernel
theorem get_C (B : Base w Bh) {h : Heap} (kb : Kp Bh h) (room : Room A 3) {p : Addr} {x y v : Value} (hp : IsPair h p x y) {i : Nat} {s : Addr} {ox od : Obj} {t : Tok} (hs : InstAt Bh s ox 78 (some od)) (hfo : findObj (K w.params) 78 (some od) "index" = some (.value (.int i t)))
    (hv : [x, y][i]? = some v) {P : Value → Heap → Prop} (q : ∀ h', Only [] h h' → P v h') : CEv (model pw w) A (.call (.ref 61) ⟨[.ref s, .ref p, .ref 203], []⟩) h P := by
  refine CEv.fn B kb (n := 2) room (fa := 61) (c := 60) [("self", .ref s), ("obj", .ref p), ("objtype", .ref 203)] [] rfl rfl rfl rfl rfl rfl rfl (fun s hs => kp_binds (hs ▸ B.X.keeps kb) (fun S => by kernel_rfl)) rfl rfl (fun _ hp => nomatch hp) ?_
  intro L h₁ R k1 F N
  have kg := kb.trans' k1
  refine ev_cons (ev_if (ev_isTrue_compare (ev_ld F rfl (ev_none (ev_is_none (ev_truthy_bool (ev_nil ?_)))))))
  refine ev_cons (ev_if (ev_isTrue_not (ev_isTrue_plain (ev_call (ev_bi B kg (.builtin "issubclass") rfl rfl (ev_call (ev_bi B kg (.type "type") rfl rfl (ev_ld F (v := .ref p) rfl ⟨.type, ?_⟩))))))))
  obtain ⟨d, I⟩ := (hp.up k1).inst
  have ty : ∀ {A' : Around} {P : Value → Heap → Prop}, P (.ref 203) h₁ → Ev (model pw w) A' (call (.type "type") [.ref p]) h₁ P := by
    intro A' P pp E Q s hs hQ
    subst hs
    exact kto_own I (hQ _ _ s.toks pp)
  refine ty (ev_bi B kg (.type "tuple") rfl rfl ⟨.builtin, ev_issub B kg (ev_truthy_bool (b := true) (ev_nil ?_))⟩)
  refine ev_cons (ev_return ?_)
  refine ev_mcall (he := by rfl) (hc := by rfl) ?_
  refine ev_bi B kg (.type "tuple") (by rfl) (by rfl) ?_
  with_reducible refine ev_method_type (v := .builtin "tuple.__getitem__") F ty_tuple stub_tuple fc_tupGet ?h ?_
  case h => rfl
  refine ev_ld F rfl (ev_attr (ev_ld F rfl ?_))
  have Is : InstAt h₁ s ox 78 (some od) := by
    obtain ⟨a1, a2, a3, a4⟩ := hs
    refine ⟨kg _ _ a1, a2, a3, ?_⟩
    revert a4
    cases ox.dict <;> simp
    exact fun e => kg _ _ e
  refine ev_getAttr_inst B kg Is (by kernel_rfl) hfo rfl ⟨.builtin, Ev.call (cev_tupGet B kg (hp.up k1) hv (q h₁ (Only.of_kp k1)))⟩
theorem ev_name (B : Base w Bh) {h : Heap} (kb : Kp Bh h) (room : Room A 4) {p : Addr} {x y : Value} (hp : IsPair h p x y) (hx : handedIn x = true) {expr : Bool} {P : Value → Heap → Prop} (q : ∀ h', Only [] h h' → P x h') :
    Ev (model pw w) A (getAttr (.ref p) "name" expr) h P :=
  (ev_getAttr_pair (P := fun v h' => v = x ∧ Only [] h h') B kb hp (g := .ref 61) (a := .ref 172) (by kernel_rfl) (fun v h' e => e.1 ▸ hx) (Ev.call (get_C (i := 0) (t := 478) B kb room.in1 hp (InstAt.of_K (C := 78) B.X rfl rfl) (by kernel_rfl) rfl fun h' o => ⟨rfl, o⟩))).mono fun v h' e => e.1 ▸ q h' e.2
theorem ev_value (B : Base w Bh) {h : Heap} (kb : Kp Bh h) (room : Room A 4) {p : Addr} {x y : Value} (hp : IsPair h p x y) (hx : handedIn y = true) {expr : Bool} {P : Value → Heap → Prop} (q : ∀ h', Only [] h h' → P y h') :
    Ev (model pw w) A (getAttr (.ref p) "value" expr) h P :=
  (ev_getAttr_pair (P := fun v h' => v = y ∧ Only [] h h') B kb hp (g := .ref 61) (a := .ref 175) (by kernel_rfl) (fun v h' e => e.1 ▸ hx) (Ev.call (get_C (i := 1) (t := 488) B kb room.in1 hp (InstAt.of_K (C := 78) B.X rfl rfl) (by kernel_rfl) rfl fun h' o => ⟨rfl, o⟩))).mono fun v h' e => e.1 ▸ q h' e.2
end Mine
open PySem PySem.W PyProof.Rows
set_option linter.unusedVariables false
namespace Mine
/-! ## the order: an atom is a list of numbers (a text: 0 and its letters; a number: 1 and it), an item a list of atoms -/
noncomputable abbrev At := List Nat
noncomputable abbrev Tp := List At
noncomputable abbrev aS (x : Str) : At := 0 :: x.cps.toList
noncomputable abbrev aI (n : Nat) : At := [1, n]
@[reducible] noncomputable def tpO : KeyOrd where
  α := Tp
  blt a b := decide (a < b)
  irrefl a := by simp
  trans a b c h1 h2 := by simp only [decide_eq_true_eq] at *; exact List.lt_trans h1 h2
  negTrans a b c h := by
    simp only [decide_eq_true_eq] at *
    by_cases hab : a < b
    · exact .inl hab
    · exact .inr (List.lt_of_le_of_lt (List.not_lt.mp hab) h)
  total a b h1 h2 := by simp only [decide_eq_false_iff_not] at *; exact List.le_antisymm (List.not_lt.mp h2) (List.not_lt.mp h1)
section
variable (O : KeyOrd)
@[reducible] noncomputable def dual : KeyOrd where
  α := O.α
  blt a b := O.blt b a
  irrefl a := O.irrefl a
  trans a b c h1 h2 := O.trans c b a h2 h1
  negTrans a b c h := (O.negTrans c b a h).symm
  total a b h1 h2 := O.total a b h2 h1
variable {O}
/-! ## the heap -/
noncomputable def Ok (as : List O.α) (k : Nat) : Prop := ∀ a p, as[k]? = some a → as[(k - 1) / 2]? = some p → O.blt a p = false
noncomputable def HeapFrom (lo : Nat) (as : List O.α) : Prop := ∀ k, 0 < k → lo ≤ (k - 1) / 2 → Ok as k
inductive Desc (lo : Nat) : Nat → Prop
  | refl : Desc lo lo
  | step {p c : Nat} : Desc lo p → 0 < c → (c - 1) / 2 = p → Desc lo c
theorem Desc.le {lo c : Nat} (d : Desc lo c) : lo ≤ c := by
  induction d with
  | refl => exact Nat.le_refl _
  | step _ h1 h2 ih => omega
theorem Desc.inv {lo c : Nat} (d : Desc lo c) (h : lo < c) : Desc lo ((c - 1) / 2) := by
  cases d with
  | refl => omega
  | step d h1 h2 => rw [h2]; exact d
theorem Desc.zero : ∀ n, Desc 0 n := by
  intro n
  induction n using Nat.strongRecOn with
  | ind n ih =>
    by_cases h : n = 0
    · subst h; exact .refl
    · exact .step (ih ((n - 1) / 2) (by grind)) (by grind) rfl
theorem set_perm {α : Type} {as : List α} {i j : Nat} {x y : α} (hi : i < as.length) (hy : as[j]? = some y) (hij : i ≠ j) : ((as.set i y).set j x).Perm (as.set i x) := by
  obtain ⟨hj, e⟩ := List.getElem?_eq_some_iff.mp hy
  have := @List.set_set_perm α (as.set i x) i j (by simpa) (by simpa)
  rw [List.getElem_set_self, List.getElem_set_ne hij, List.set_set] at this
  rw [← e]
  exact this
theorem get_set {α : Type} {as : List α} {i k : Nat} {x a : α} (h : (as.set i x)[k]? = some a) : (k = i ∧ a = x) ∨ (k ≠ i ∧ as[k]? = some a) := by
  by_cases e : k = i
  · subst e
    left
    rw [List.getElem?_set_self'] at h
    cases hk : as[k]? with
    | none => rw [hk] at h; cases h
    | some b => rw [hk] at h; cases h; exact ⟨rfl, rfl⟩
  · right
    rw [List.getElem?_set_ne (Ne.symm e)] at h
    exact ⟨e, h⟩
theorem par_lt {k : Nat} (h : 0 < k) : (k - 1) / 2 < k := by grind
theorem par_c {c pos : Nat} (h : c = 2 * pos + 1 ∨ c = 2 * pos + 2) : (c - 1) / 2 = pos ∧ pos < c := by grind
theorem kids {k pos : Nat} (h : 0 < k) (e : (k - 1) / 2 = pos) : k = 2 * pos + 1 ∨ k = 2 * pos + 2 := by grind
theorem f_c {f pos c n : Nat} (h : pos < c) (k : n ≤ f + 1 + pos) : n ≤ f + c := by grind
theorem sdown_heap {lo : Nat} {x : O.α} : ∀ (f : Nat) (as : List O.α) (pos : Nat), pos < as.length → pos ≤ f → Desc lo pos →
    (∀ k, 0 < k → k ≠ pos → lo ≤ (k - 1) / 2 → Ok (as.set pos x) k) →
    (lo < pos → ∀ k, 0 < k → (k - 1) / 2 = pos → ∀ a p, as[k]? = some a → as[(pos - 1) / 2]? = some p → O.blt a p = false) →
    HeapFrom lo (sdown O.blt x lo f as pos) ∧ (sdown O.blt x lo f as pos).Perm (as.set pos x)
  | 0, as, pos, hp, hf, d, h1, h2 => by
    obtain rfl := Nat.le_zero.mp hf
    exact ⟨fun k hk hl => h1 k hk (Nat.ne_of_gt hk) hl, List.Perm.refl _⟩
  | f + 1, as, pos, hp, hf, d, h1, h2 => by
    unfold sdown
    have stop : ∀ {y : O.α}, as[(pos - 1) / 2]? = some y → (lo < pos → O.blt x y = false) → HeapFrom lo (as.set pos x) := by
      intro y hy hxy k hk hl
      by_cases e : k = pos
      · subst e
        intro a p ha hpp
        rcases get_set ha with ⟨_, rfl⟩ | ⟨q, _⟩
        · rcases get_set hpp with ⟨q, _⟩ | ⟨_, q⟩
          · exact absurd q (Nat.ne_of_lt (par_lt hk))
          · rw [hy] at q; cases q
            exact hxy (Nat.lt_of_le_of_lt hl (par_lt hk))
        · exact absurd rfl q
      · exact h1 k hk e hl
    by_cases hlo : lo < pos
    · rw [if_pos hlo]
      obtain ⟨y, hy⟩ : ∃ y, as[(pos - 1) / 2]? = some y := ⟨_, List.getElem?_eq_getElem (Nat.lt_trans (par_lt (Nat.zero_lt_of_lt hlo)) hp)⟩
      rw [hy]
      simp only
      have pl := par_lt (Nat.zero_lt_of_lt hlo)
      have hne : pos ≠ (pos - 1) / 2 := Nat.ne_of_gt pl
      have dp := d.inv hlo
      have lp := dp.le
      have up : ∀ k, 0 < k → k ≠ pos → (k - 1) / 2 = (pos - 1) / 2 → ∀ a, as[k]? = some a → O.blt a y = false := by
        intro k hk hkp e a ha
        refine h1 k hk hkp (e ▸ lp) a y ?_ ?_
        · rw [List.getElem?_set_ne (Ne.symm hkp)]; exact ha
        · rw [e, List.getElem?_set_ne hne]; exact hy
      cases hxy : O.blt x y
      · simp only [Bool.false_eq_true, if_false]
        exact ⟨stop hy fun _ => hxy, List.Perm.refl _⟩
      · simp only [if_true]
        have hyx : O.blt y x = false := KeyOrd.klt_asymm hxy
        refine And.imp id (fun r2 => r2.trans (set_perm hp hy hne)) (sdown_heap (lo := lo) (x := x) f (as.set pos y) ((pos - 1) / 2) (by rw [List.length_set]; exact Nat.lt_trans pl hp) (Nat.le_of_lt_succ (Nat.lt_of_lt_of_le pl hf)) dp ?_ ?_)
        · intro k hk hkp hl a p ha hpp
          rcases get_set ha with ⟨q, _⟩ | ⟨_, ha⟩
          · exact absurd q hkp
          rcases get_set ha with ⟨rfl, rfl⟩ | ⟨hk2, ha3⟩
          · rcases get_set hpp with ⟨_, rfl⟩ | ⟨q, _⟩
            · exact hyx
            · exact absurd rfl q
          · rcases get_set hpp with ⟨e, rfl⟩ | ⟨e1, hpp⟩
            · exact KeyOrd.kle_trans (KeyOrd.kle_of_klt hxy) (up k hk hk2 e a ha3)
            · rcases get_set hpp with ⟨e, rfl⟩ | ⟨e2, hpp⟩
              · exact h2 hlo k hk e a _ ha3 hy
              · refine h1 k hk hk2 hl a p ?_ ?_
                · rw [List.getElem?_set_ne (Ne.symm hk2)]; exact ha3
                · rw [List.getElem?_set_ne (Ne.symm e2)]; exact hpp
        · intro hl2 k hk hkp a p ha hpp
          have zy : O.blt y p = false := by
            rcases get_set hpp with ⟨q, _⟩ | ⟨_, hpp⟩
            · exact absurd q (Nat.ne_of_lt (Nat.lt_trans (par_lt (Nat.zero_lt_of_lt hl2)) pl))
            · refine h1 ((pos - 1) / 2) (Nat.zero_lt_of_lt hl2) (Ne.symm hne) (dp.inv hl2).le y p ?_ ?_
              · rw [List.getElem?_set_ne hne]; exact hy
              · rw [List.getElem?_set_ne (Nat.ne_of_gt (Nat.lt_trans (par_lt (Nat.zero_lt_of_lt hl2)) pl))]; exact hpp
          rcases get_set ha with ⟨_, rfl⟩ | ⟨hk2, ha⟩
          · exact zy
          · exact KeyOrd.kle_trans zy (up k hk hk2 hkp a ha)
    · rw [if_neg hlo]
      exact ⟨fun k hk hl => h1 k hk (fun e => hlo (e ▸ Nat.lt_of_le_of_lt hl (par_lt hk))) hl, List.Perm.refl _⟩
theorem sup_heap {lo : Nat} {x : O.α} : ∀ (f : Nat) (as : List O.α) (pos : Nat), pos < as.length → as.length ≤ f + pos → Desc lo pos →
    (∀ k, 0 < k → k ≠ pos → (k - 1) / 2 ≠ pos → lo ≤ (k - 1) / 2 → Ok as k) →
    (lo < pos → ∀ k, 0 < k → (k - 1) / 2 = pos → ∀ a p, as[k]? = some a → as[(pos - 1) / 2]? = some p → O.blt a p = false) →
    HeapFrom lo (sup O.blt x lo f as pos) ∧ (sup O.blt x lo f as pos).Perm (as.set pos x)
  | 0, as, pos, hp, hf, d, h1, h2 => (Nat.lt_irrefl _ (Nat.lt_of_lt_of_le hp (Nat.zero_add pos ▸ hf))).elim
  | f + 1, as, pos, hp, hf, d, h1, h2 => by
    unfold sup
    by_cases hc : 2 * pos + 1 < as.length
    · rw [if_pos hc]
      obtain ⟨c, hcd⟩ : ∃ c, (if 2 * pos + 2 < as.length && !(ltAt2 O.blt as (2 * pos + 1) (2 * pos + 2)) then 2 * pos + 2 else 2 * pos + 1) = c := ⟨_, rfl⟩
      have hcc : c = 2 * pos + 1 ∨ c = 2 * pos + 2 := by rw [← hcd]; split <;> simp
      have hcl : c < as.length := by
        rw [← hcd]
        split
        · rename_i q; simp only [Bool.and_eq_true, decide_eq_true_eq] at q; exact q.1
        · exact hc
      obtain ⟨y, hy⟩ : ∃ y, as[c]? = some y := ⟨_, List.getElem?_eq_getElem hcl⟩
      rw [hcd]
      have hput : putAt as pos c = as.set pos y := by unfold putAt; rw [hy]
      rw [hput]
      have pc := par_c hcc
      have hne : pos ≠ c := Nat.ne_of_lt pc.2
      have other : ∀ k, 0 < k → (k - 1) / 2 = pos → k ≠ c → ∀ a, as[k]? = some a → O.blt a y = false := by
        intro k hk e hkc a ha
        have hkl := (List.getElem?_eq_some_iff.mp ha).1
        rcases hcc with e1 | e1
        · have ek : k = 2 * pos + 2 := (kids hk e).resolve_left (e1 ▸ hkc)
          subst ek; subst e1
          cases hb : ltAt2 O.blt as (2 * pos + 1) (2 * pos + 2) with
          | false =>
            rw [hb, if_pos (by rw [decide_eq_true hkl]; rfl)] at hcd
            exact absurd hcd (Nat.succ_ne_self _)
          | true =>
            unfold ltAt2 at hb
            rw [hy, ha] at hb
            exact KeyOrd.klt_asymm hb
        · have ek : k = 2 * pos + 1 := (kids hk e).resolve_right (e1 ▸ hkc)
          subst ek; subst e1
          cases hb : ltAt2 O.blt as (2 * pos + 1) (2 * pos + 2) with
          | true =>
            rw [hb, Bool.not_true, if_neg (fun q => Bool.false_ne_true (Bool.and_eq_true_iff.mp q).2)] at hcd
            exact absurd hcd.symm (Nat.succ_ne_self _)
          | false =>
            unfold ltAt2 at hb
            rw [hy, ha] at hb
            exact hb
      refine And.imp id (fun r2 => r2.trans (set_perm hp hy hne)) (sup_heap (lo := lo) (x := x) f (as.set pos y) c (by rw [List.length_set]; exact hcl) (by rw [List.length_set]; exact f_c pc.2 hf) (.step d (Nat.zero_lt_of_lt pc.2) pc.1) ?_ ?_)
      · intro k hk hkc hpc hl a p ha hpp
        rcases get_set ha with ⟨rfl, rfl⟩ | ⟨hk2, ha3⟩
        · rcases get_set hpp with ⟨q, _⟩ | ⟨_, hpp⟩
          · exact absurd q (Nat.ne_of_lt (par_lt hk))
          · exact h2 (Nat.lt_of_le_of_lt hl (par_lt hk)) c (Nat.zero_lt_of_lt pc.2) pc.1 _ p hy hpp
        · rcases get_set hpp with ⟨e, rfl⟩ | ⟨e, hpp⟩
          · exact other k hk e hkc a ha3
          · exact h1 k hk hk2 e hl a p ha3 hpp
      · intro hl k hk e a p ha hpp
        rcases get_set ha with ⟨q, _⟩ | ⟨hk2, ha3⟩
        · exact absurd pc.2 (Nat.lt_asymm (q ▸ e ▸ par_lt hk))
        · rw [pc.1] at hpp
          rcases get_set hpp with ⟨_, rfl⟩ | ⟨q, _⟩
          · exact h1 k hk hk2 (fun z => hne (z.symm.trans e)) (by rw [e]; exact Nat.le_of_lt hl) a _ ha3 (by rw [e]; exact hy)
          · exact absurd rfl q
    · rw [if_neg hc]
      have none : ∀ k, 0 < k → (k - 1) / 2 = pos → as[k]? = none := fun k hk e => List.getElem?_eq_none (Nat.le_trans (Nat.not_lt.mp hc) ((kids hk e).elim (fun q => q ▸ Nat.le_refl _) fun q => q ▸ Nat.le_succ _))
      refine And.imp id (fun r2 => by rw [List.set_set] at r2; exact r2) (sdown_heap (lo := lo) (x := x) pos (as.set pos x) pos (by rw [List.length_set]; exact hp) (Nat.le_refl _) d ?_ ?_)
      · intro k hk hkp hl a p ha hpp
        rw [List.set_set] at ha hpp
        rcases get_set ha with ⟨q, _⟩ | ⟨_, ha⟩
        · exact absurd q hkp
        rcases get_set hpp with ⟨e, _⟩ | ⟨e, hpp⟩
        · rw [none k hk e] at ha; cases ha
        · exact h1 k hk hkp e hl a p ha hpp
      · intro hl k hk e a p ha hpp
        rcases get_set ha with ⟨q, _⟩ | ⟨_, ha⟩
        · exact absurd (e.trans q.symm) (Nat.ne_of_lt (par_lt hk))
        · rw [none k hk e] at ha; cases ha
/-! ## the orders of the heap functions -/
noncomputable def IsHeap (as : List O.α) : Prop := HeapFrom 0 as
theorem IsHeap.nil : IsHeap (O := O) [] := fun k _ _ a p ha => by simp at ha
theorem IsHeap.min {as : List O.α} (h : IsHeap as) {m : O.α} (hm : as[0]? = some m) : ∀ a ∈ as, O.blt a m = false := by
  have key : ∀ (k : Nat) (a : O.α), as[k]? = some a → O.blt a m = false := by
    intro k
    induction k using Nat.strongRecOn with
    | ind k ih =>
      intro a ha
      by_cases e : k = 0
      · subst e; rw [hm] at ha; cases ha; exact O.irrefl _
      · have hk := (List.getElem?_eq_some_iff.mp ha).1
        obtain ⟨p, hp⟩ : ∃ p, as[(k - 1) / 2]? = some p := ⟨_, List.getElem?_eq_getElem (Nat.lt_trans (par_lt (Nat.pos_of_ne_zero e)) hk)⟩
        exact KeyOrd.kle_trans (ih _ (par_lt (Nat.pos_of_ne_zero e)) p hp) (h k (Nat.pos_of_ne_zero e) (Nat.zero_le _) a p ha hp)
  intro a ha
  obtain ⟨k, hk, e⟩ := List.getElem_of_mem ha
  exact key k a (by rw [List.getElem?_eq_getElem hk, e])
theorem hpush_heap {a : O.α} {as : List O.α} (h : IsHeap as) : IsHeap (sdown O.blt a 0 as.length (as ++ [a]) as.length) ∧ (sdown O.blt a 0 as.length (as ++ [a]) as.length).Perm (as ++ [a]) := by
  refine And.imp id (fun r2 => r2.trans (by rw [List.set_append_right _ _ (Nat.le_refl _)]; simp)) (sdown_heap (O := O) (lo := 0) (x := a) as.length (as ++ [a]) as.length (by simp) (Nat.le_refl _) (Desc.zero _) ?_ ?_)
  · intro k hk hkp hl b p hb hpp
    rcases get_set hb with ⟨q, _⟩ | ⟨_, hb⟩
    · exact absurd q hkp
    have hkl : k < as.length := by
      have := (List.getElem?_eq_some_iff.mp hb).1
      simp at this
      omega
    rcases get_set hpp with ⟨e, _⟩ | ⟨e, hpp⟩
    · omega
    · rw [List.getElem?_append_left hkl] at hb
      rw [List.getElem?_append_left (by grind)] at hpp
      exact h k hk hl b p hb hpp
  · intro hl k hk e b p hb hpp
    have := (List.getElem?_eq_some_iff.mp hb).1
    simp at this
    omega
theorem hpop_heap {b : O.α} {r : List O.α} {last : O.α} (h : IsHeap (b :: r ++ [last])) : IsHeap (sup O.blt last 0 (r.length + 1) (last :: r) 0) ∧ (sup O.blt last 0 (r.length + 1) (last :: r) 0).Perm (last :: r) := by
  refine sup_heap (O := O) (lo := 0) (x := last) (r.length + 1) (last :: r) 0 (by simp) (by simp) .refl ?_ ?_
  · intro k hk _ hk2 hl a p ha hpp
    have hkl := (List.getElem?_eq_some_iff.mp ha).1
    have up : ∀ (j : Nat) (v : O.α), 0 < j → (last :: r)[j]? = some v → (b :: r ++ [last])[j]? = some v := by
      intro j v hj hv
      obtain ⟨i, rfl⟩ : ∃ i, j = i + 1 := ⟨j - 1, by grind⟩
      simp only [List.getElem?_cons_succ, List.cons_append] at hv ⊢
      rw [List.getElem?_append_left (List.getElem?_eq_some_iff.mp hv).1]
      exact hv
    exact h k hk hl a p (up k a hk ha) (up _ p (by grind) hpp)
  · intro hl; omega
theorem hreplace_heap {b : O.α} {r : List O.α} {x : O.α} (h : IsHeap (b :: r)) : IsHeap (sup O.blt x 0 (r.length + 1) (x :: r) 0) ∧ (sup O.blt x 0 (r.length + 1) (x :: r) 0).Perm (x :: r) := by
  refine sup_heap (O := O) (lo := 0) (x := x) (r.length + 1) (x :: r) 0 (by simp) (by simp) .refl ?_ ?_
  · intro k hk _ hk2 hl a p ha hpp
    have up : ∀ (j : Nat) (v : O.α), 0 < j → (x :: r)[j]? = some v → (b :: r)[j]? = some v := by
      intro j v hj hv
      obtain ⟨i, rfl⟩ : ∃ i, j = i + 1 := ⟨j - 1, by grind⟩
      simpa using hv
    exact h k hk hl a p (up k a hk ha) (up _ p (by grind) hpp)
  · intro hl; omega
noncomputable def hfy' (lt : α → α → Bool) : Nat → List α → List α
  | 0, as => as
  | k + 1, as => match as[k]? with
    | some x => hfy' lt k (sup lt x k as.length as k)
    | none => as
theorem hfy_heap : ∀ (k : Nat) (as : List O.α), k ≤ as.length → HeapFrom k as → IsHeap (hfy' O.blt k as) ∧ (hfy' O.blt k as).Perm as
  | 0, as, hk, h => ⟨h, List.Perm.refl _⟩
  | k + 1, as, hk, h => by
    obtain ⟨x, hx⟩ : ∃ x, as[k]? = some x := ⟨_, List.getElem?_eq_getElem (by grind)⟩
    unfold hfy'
    rw [hx]
    obtain ⟨r1, r2⟩ := sup_heap (O := O) (lo := k) (x := x) as.length as k (by grind) (by grind) .refl (fun j hj _ hjp hl => h j hj (by grind)) (fun q => by grind)
    have e : as.set k x = as := by
      obtain ⟨q, e⟩ := List.getElem?_eq_some_iff.mp hx
      rw [← e, List.set_getElem_self]
    rw [e] at r2
    obtain ⟨t1, t2⟩ := hfy_heap k _ (by rw [r2.length_eq]; omega) r1
    exact ⟨t1, t2.trans r2⟩
theorem heapify_heap (as : List O.α) : IsHeap (hfy' O.blt (as.length / 2) as) ∧ (hfy' O.blt (as.length / 2) as).Perm as :=
  hfy_heap _ as (by grind) fun k hk hl a p ha => by have := (List.getElem?_eq_some_iff.mp ha).1; omega
/-! ## sorted lists -/
noncomputable def Asc (l : List O.α) : Prop := l.Pairwise fun a b => O.blt b a = false
theorem Asc.uniq : ∀ {a b : List O.α}, a.Perm b → Asc a → Asc b → a = b
  | [], b, p, _, _ => by rw [List.nil_perm.mp p]
  | x :: a, [], p, _, _ => by simpa using p.length_eq
  | x :: a, y :: b, p, h1, h2 => by
    have h1' := List.pairwise_cons.mp h1
    have h2' := List.pairwise_cons.mp h2
    have e : x = y := by
      have m1 : x ∈ y :: b := p.mem_iff.mp (.head _)
      have m2 : y ∈ x :: a := p.mem_iff.mpr (.head _)
      rcases List.mem_cons.mp m1 with e | m1
      · exact e
      rcases List.mem_cons.mp m2 with e | m2
      · exact e.symm
      exact KeyOrd.kle_antisymm (h1'.1 y m2) (h2'.1 x m1)
    subst e
    rw [Asc.uniq (List.perm_cons _ |>.mp p) h1'.2 h2'.2]
noncomputable def srt (l : List O.α) : List O.α := l.mergeSort fun a b => !O.blt b a
theorem srt_perm (l : List O.α) : (srt l).Perm l := List.mergeSort_perm _ _
theorem srt_asc (l : List O.α) : Asc (srt l) := by
  have h := List.pairwise_mergeSort (le := fun a b => !O.blt b a) (fun a b c h1 h2 => by
    simp only [Bool.not_eq_true'] at *
    exact KeyOrd.kle_trans (O := O) h1 h2) (fun a b => by
    cases h : O.blt b a
    · simp
    · rw [show O.blt a b = false from KeyOrd.klt_asymm h]; simp) l
  exact h.imp fun q => by simpa using q
theorem srt_of {a l : List O.α} (p : a.Perm l) (h : Asc a) : srt l = a := (Asc.uniq (srt_perm l |>.trans p.symm) (srt_asc l) h)
theorem srt_perm_eq {a b : List O.α} (p : a.Perm b) : srt a = srt b := srt_of ((srt_perm b).trans p.symm) (srt_asc b)
/-- what comes off a heap -/
theorem srt_cons {m : O.α} {l r : List O.α} (p : l.Perm (m :: r)) (h : ∀ a ∈ r, O.blt a m = false) : srt l = m :: srt r := by
  refine srt_of (((srt_perm r).cons m).trans p.symm) (List.pairwise_cons.mpr ⟨fun a ha => h a ((srt_perm r).mem_iff.mp ha), srt_asc r⟩)
end
end Mine
open PySem PySem.W PyProof.Rows
set_option linter.unusedVariables false
namespace Mine
/-! ## the sort's tree of questions, answered by an order -/
section
variable {O : KeyOrd} {n : Nat} {key : Nat → O.α}
noncomputable def kw {α : Type} (O : KeyOrd) (n : Nat) (key : Nat → O.α) : KasT α → (α → Prop) → Prop
  | .ret a, Q => Q a
  | .ask i j k, Q => i < n ∧ j < n ∧ kw O n key (k (O.blt (key i) (key j))) Q
theorem kw_bind {α β : Type} {f : α → KasT β} {Q : β → Prop} : ∀ {t : KasT α}, kw O n key t (fun a => kw O n key (f a) Q) → kw O n key (t.bind f) Q
  | .ret _, h => h
  | .ask _ _ _, ⟨h1, h2, h3⟩ => ⟨h1, h2, kw_bind h3⟩
noncomputable abbrev PP (n : Nat) (p : Array Nat) : Prop := p.Perm (List.range n).toArray
theorem PP.size {p : Array Nat} (h : PP n p) : p.size = n := by simpa using Array.Perm.size_eq h
theorem PP.lt {p : Array Nat} (h : PP n p) (hn : 0 < n) (i : Nat) : p.getD i 0 < n := by
  by_cases hi : i < p.size
  · have e : p.getD i 0 = p[i] := by simp [Array.getD, hi]
    rw [e]
    have hm : p[i] ∈ p.toList := by simp
    have := (Array.perm_iff_toList_perm.mp h).mem_iff.mp hm
    simpa using this
  · have e : p.getD i 0 = 0 := by simp [Array.getD, hi]
    rw [e]; exact hn
noncomputable def kk (O : KeyOrd) (key : Nat → O.α) (p : Array Nat) (i : Nat) : O.α := key (p.getD i 0)
theorem kk_congr {p q : Array Nat} {i j : Nat} (h : p[i]? = q[j]?) : kk O key p i = kk O key q j := by
  unfold kk
  have e : ∀ (p : Array Nat) (i : Nat), p.getD i 0 = (p[i]?).getD 0 := fun p i => by simp
  rw [e, e, h]
theorem kk_mirror {p : Array Nat} {i j : Nat} (hj : j ≤ p.size) (k : Nat) : kk O key (kas_rev p i j) k = if i ≤ k ∧ k < j then kk O key p (i + j - 1 - k) else kk O key p k := by
  have e := getElem?_mirror_all (i := i) hj k
  by_cases h : i ≤ k ∧ k < j
  · rw [if_pos h] at e ⊢; exact kk_congr e
  · rw [if_neg h] at e ⊢; exact kk_congr e
theorem mir1 {i j k : Nat} (h1 : i ≤ k) (h2 : k < j) : i ≤ i + j - 1 - k ∧ i + j - 1 - k < j := by grind
theorem mir2 {m i j : Nat} (h1 : i ≤ j) (h2 : j < m) : 0 + m - 1 - j ≤ 0 + m - 1 - i ∧ 0 + m - 1 - i < m := by grind
theorem add1 {m f : Nat} : m + 1 + f = m + (f + 1) := by rw [Nat.add_assoc, Nat.add_comm 1 f]
theorem lt_pred {i j : Nat} (h : i ≤ j) (e : i ≠ j) : i ≤ j - 1 := Nat.le_pred_of_lt (Nat.lt_of_le_of_ne h e)
theorem lt_ne {j m : Nat} (h : j < m + 1) (e : j ≠ m) : j < m := Nat.lt_of_le_of_ne (Nat.le_of_lt_succ h) e
theorem kk_mirror_equal {p : Array Nat} {i j : Nat} (hj : j ≤ p.size) (heq : ∀ k, i ≤ k → k < j → kk O key p k = kk O key p (j - 1)) (k : Nat) : kk O key (kas_rev p i j) k = kk O key p k := by
  rw [kk_mirror hj]
  split
  · rename_i q
    rw [heq _ (mir1 q.1 q.2).1 (mir1 q.1 q.2).2, heq k q.1 q.2]
  · rfl
theorem kk_bubble {p : Array Nat} {src d : Nat} (hs : src < p.size) (hd : d ≤ src) (k : Nat) : kk O key (bubble p src d) k = if k = src - d then kk O key p src else if src - d < k ∧ k ≤ src then kk O key p (k - 1) else kk O key p k := by
  have e := getElem?_bubble hs d hd k
  by_cases h1 : k = src - d
  · rw [if_pos h1] at e ⊢; exact kk_congr e
  · rw [if_neg h1] at e ⊢
    by_cases h2 : src - d < k ∧ k ≤ src
    · rw [if_pos h2] at e ⊢; exact kk_congr e
    · rw [if_neg h2] at e ⊢; exact kk_congr e
theorem PP.rev {p : Array Nat} (h : PP n p) (i j : Nat) : PP n (kas_rev p i j) := (mirror_perm _ _ _ _).trans h
noncomputable def Up (O : KeyOrd) (key : Nat → O.α) (p : Array Nat) (k : Nat) : Prop := ∀ i j, i ≤ j → j < k → O.kle (kk O key p i) (kk O key p j)
noncomputable def Dn (O : KeyOrd) (key : Nat → O.α) (p : Array Nat) (k : Nat) : Prop := ∀ i j, i ≤ j → j < k → O.kle (kk O key p j) (kk O key p i)
theorem Up.one {p : Array Nat} : Up O key p 1 := fun i j h1 h2 => by
  obtain rfl := Nat.lt_one_iff.mp h2
  obtain rfl := Nat.le_zero.mp h1
  exact KeyOrd.kle_refl _
theorem Up.snoc {p : Array Nat} {m : Nat} (h : Up O key p m) (h1 : 1 ≤ m) (hm : O.kle (kk O key p (m - 1)) (kk O key p m)) : Up O key p (m + 1) := fun i j hij hj => by
  by_cases e : j = m
  · subst e
    by_cases e2 : i = j
    · subst e2; exact KeyOrd.kle_refl _
    · exact KeyOrd.kle_trans (h i (j - 1) (lt_pred hij e2) (Nat.sub_one_lt (Nat.ne_of_gt h1))) hm
  · exact h i j hij (lt_ne hj e)
theorem Dn.snoc {p : Array Nat} {m : Nat} (h : Dn O key p m) (h1 : 1 ≤ m) (hm : O.kle (kk O key p m) (kk O key p (m - 1))) : Dn O key p (m + 1) := fun i j hij hj => by
  by_cases e : j = m
  · subst e
    by_cases e2 : i = j
    · subst e2; exact KeyOrd.kle_refl _
    · exact KeyOrd.kle_trans hm (h i (j - 1) (lt_pred hij e2) (Nat.sub_one_lt (Nat.ne_of_gt h1)))
  · exact h i j hij (lt_ne hj e)
theorem kw_asc {p : Array Nat} (hp : PP n p) (hn : 0 < n) : ∀ (f m : Nat) {Q : Nat → Prop}, 1 ≤ m → Up O key p m → (∀ r, m ≤ r → r ≤ m + f → Up O key p r → (r = m + f ∨ O.klt (kk O key p r) (kk O key p (r - 1))) → Q r) → kw O n key (kas_asc p f m) Q
  | 0, m, Q, h1, hs, h => h m (Nat.le_refl _) (Nat.le_refl _) hs (.inl rfl)
  | f + 1, m, Q, h1, hs, h => by
    unfold kas_asc
    refine ⟨hp.lt hn _, hp.lt hn _, ?_⟩
    cases hc : O.blt (key (p.getD m 0)) (key (p.getD (m - 1) 0)) with
    | true => exact h m (Nat.le_refl _) (Nat.le_add_right _ _) hs (.inr hc)
    | false =>
      exact kw_asc hp hn f (m + 1) (Nat.le_add_left _ _) (hs.snoc h1 hc) fun r a b c d => h r (Nat.le_of_succ_le a) (add1 ▸ b) c (d.elim (fun e => .inl (e.trans add1)) .inr)
theorem kw_tail3 {p : Array Nat} {m : Nat} (hp : PP n p) (h1 : 1 ≤ m) (hm : m ≤ n) (hs : Dn O key p m) {Q : Nat × Array Nat → Prop} (h : ∀ r q, PP n q → 1 ≤ r → r ≤ n → Up O key q r → Q (r, q)) : kw O n key (kas_tail3 m n p) Q := by
  unfold kas_tail3
  have hsz := hp.size
  refine kw_bind (kw_asc (hp.rev 0 m) (Nat.lt_of_lt_of_le h1 hm) _ _ h1 (fun i j hij hj => ?_) fun r a b c d => h r _ (hp.rev 0 m) (Nat.le_trans h1 a) (Nat.add_sub_cancel' hm ▸ b) c)
  have q := mir2 hij hj
  rw [kk_mirror (hsz ▸ hm), kk_mirror (hsz ▸ hm), if_pos ⟨Nat.zero_le _, Nat.lt_of_le_of_lt hij hj⟩, if_pos ⟨Nat.zero_le _, hj⟩]
  exact hs _ _ q.1 q.2
theorem dsc {m f n q : Nat} (h : m + (f + 1) ≤ n) (hq : q < m) : 1 ≤ m + 1 ∧ m + 1 + f ≤ n ∧ 0 < m + 1 ∧ q + 1 < m + 1 ∧ m ≤ n := ⟨Nat.le_add_left _ _, Nat.le_trans (Nat.le_of_eq add1) h, Nat.succ_pos _, Nat.succ_lt_succ hq, Nat.le_trans (Nat.le_add_right _ _) h⟩
theorem last1 {k m : Nat} (a : m + 1 - (0 + 1) ≤ k) (b : k < m + 1) : k = m + 1 - 1 := Nat.le_antisymm (Nat.le_of_lt_succ b) a
theorem kw_desc : ∀ (f : Nat) (p : Array Nat) (m q : Nat) {Q : Array Nat × Nat × Nat → Prop}, PP n p → 0 < n → 1 ≤ m → m + f ≤ n → q < m → Dn O key p m → (∀ k, m - (q + 1) ≤ k → k < m → kk O key p k = kk O key p (m - 1)) →
    (∀ p' m' q', PP n p' → m ≤ m' → m' ≤ m + f → q' < m' → Dn O key p' m' → (∀ k, m' - (q' + 1) ≤ k → k < m' → kk O key p' k = kk O key p' (m' - 1)) → Q (p', m', q')) → kw O n key (kas_desc f p m q) Q
  | 0, p, m, q, Q, hp, hn, h1, hm, hq, hs, he, h => h p m q hp (Nat.le_refl _) (Nat.le_refl _) hq hs he
  | f + 1, p, m, q, Q, hp, hn, h1, hm, hq, hs, he, h => by
    unfold kas_desc
    have hsz := hp.size
    have dq := dsc hm hq
    refine ⟨hp.lt hn _, hp.lt hn _, ?_⟩
    cases hc : O.blt (key (p.getD m 0)) (key (p.getD (m - 1) 0)) with
    | true =>
      simp only [if_true]
      have hle : O.kle (kk O key p m) (kk O key p (m - 1)) := KeyOrd.kle_of_klt hc
      split
      · have ek : ∀ k, kk O key (kas_rev p (m - (q + 1)) m) k = kk O key p k := kk_mirror_equal (hsz ▸ dq.2.2.2.2) he
        refine kw_desc f _ (m + 1) 0 (hp.rev _ _) hn dq.1 dq.2.1 dq.2.2.1 (fun i j hij hj => ?_) (fun k a b => ?_) fun p' m' q' a b c d e g => h p' m' q' a (Nat.le_of_succ_le b) (add1 ▸ c) d e g
        · rw [ek, ek]; exact hs.snoc h1 hle i j hij hj
        · rw [last1 a b]
      · refine kw_desc f _ (m + 1) 0 hp hn dq.1 dq.2.1 dq.2.2.1 (hs.snoc h1 hle) (fun k a b => ?_) fun p' m' q' a b c d e g => h p' m' q' a (Nat.le_of_succ_le b) (add1 ▸ c) d e g
        rw [last1 a b]
    | false =>
      simp only [Bool.false_eq_true, if_false]
      refine ⟨hp.lt hn _, hp.lt hn _, ?_⟩
      cases hd : O.blt (key (p.getD (m - 1) 0)) (key (p.getD m 0)) with
      | true => exact h p m q hp (Nat.le_refl _) (Nat.le_add_right _ _) hq hs he
      | false =>
        simp only [Bool.false_eq_true, if_false]
        have eq1 : kk O key p m = kk O key p (m - 1) := O.total _ _ hc hd
        refine kw_desc f _ (m + 1) (q + 1) hp hn dq.1 dq.2.1 dq.2.2.2.1 (hs.snoc h1 hd) (fun k a b => ?_) fun p' m' q' a b c d e g => h p' m' q' a (Nat.le_of_succ_le b) (add1 ▸ c) d e g
        have e0 : m + 1 - 1 = m := rfl
        rw [e0]
        by_cases ek : k = m
        · rw [ek]
        · rw [eq1]; exact he k (Nat.succ_sub_succ m (q + 1) ▸ a) (lt_ne b ek)
theorem kw_descPart {p : Array Nat} {m : Nat} (hp : PP n p) (hm : m + 1 ≤ n) (hs : Dn O key p (m + 1)) {Q : Nat × Array Nat → Prop} (h : ∀ r q, PP n q → 1 ≤ r → r ≤ n → Up O key q r → Q (r, q)) : kw O n key (kas_descPart m n p) Q := by
  unfold kas_descPart
  refine kw_bind (kw_desc _ _ _ _ hp (Nat.lt_of_lt_of_le (Nat.succ_pos _) hm) (Nat.le_add_left _ _) (by grind) (Nat.succ_pos _) hs (fun k a b => ?_) fun p' m' q' a b c d e g => ?_)
  · rw [last1 a b]
  · have hsz := PP.size a
    dsimp only
    split
    · have ek : ∀ k, kk O key (kas_rev p' (m' - (q' + 1)) m') k = kk O key p' k := kk_mirror_equal (by grind) g
      refine kw_tail3 (PP.rev a _ _) (by grind) (by grind) (fun i j hij hj => ?_) h
      rw [ek, ek]; exact e i j hij hj
    · exact kw_tail3 a (by grind) (by grind) e h
theorem kw_count {p : Array Nat} (hp : PP n p) (hn : 1 ≤ n) {Q : Nat × Array Nat → Prop} (h : ∀ r q, PP n q → 1 ≤ r → r ≤ n → Up O key q r → Q (r, q)) : kw O n key (kas_count n p) Q := by
  unfold kas_count
  have hsz := hp.size
  refine kw_bind (kw_asc hp (by grind) _ _ (Nat.le_refl _) Up.one fun r a b c d => ?_)
  split
  · exact h r p hp a (by grind) c
  · rename_i hne
    have hrn : r ≠ n := by simpa using hne
    have hlt : O.klt (kk O key p r) (kk O key p (r - 1)) := d.resolve_left (by grind)
    split
    · rename_i h1
      refine ⟨hp.lt (by grind) _, hp.lt (by grind) _, ?_⟩
      cases hc : O.blt (key (p.getD 0 0)) (key (p.getD (r - 1) 0)) with
      | true => exact h r p hp a (by grind) c
      | false =>
        simp only [Bool.false_eq_true, if_false]
        have all : ∀ k, 0 ≤ k → k < r → kk O key p k = kk O key p (r - 1) := by
          intro k _ hk
          refine KeyOrd.kle_antisymm (c k (r - 1) (by grind) (by grind)) ?_
          exact KeyOrd.kle_trans (show O.kle (kk O key p (r - 1)) (kk O key p 0) from hc) (c 0 k (by grind) (by grind))
        have ek : ∀ k, kk O key (kas_rev p 0 r) k = kk O key p k := kk_mirror_equal (by grind) all
        refine kw_descPart (hp.rev _ _) (by grind) (fun i j hij hj => ?_) h
        rw [ek, ek]
        by_cases e : j = r
        · subst e
          by_cases e2 : i = j
          · subst e2; exact KeyOrd.kle_refl _
          · rw [all i (Nat.zero_le _) (by grind)]; exact KeyOrd.kle_of_klt hlt
        · rw [all i (Nat.zero_le _) (by grind), all j (Nat.zero_le _) (by grind)]; exact KeyOrd.kle_refl _
    · have : r = 1 := by grind
      subst this
      refine kw_descPart hp (by grind) (fun i j hij hj => ?_) h
      by_cases e : i = j
      · subst e; exact KeyOrd.kle_refl _
      · have e1 : i = 0 := by grind
        have e2 : j = 1 := by grind
        subst e1; subst e2
        exact KeyOrd.kle_of_klt hlt
theorem kw_place {p : Array Nat} {k : Nat} (hp : PP n p) (hn : 0 < n) (hs : Up O key p k) : ∀ (f l r : Nat) {Q : Nat → Prop}, l ≤ r → r ≤ k → r - l ≤ f → (∀ i, i < l → O.kle (kk O key p i) (kk O key p k)) → (∀ i, r ≤ i → i < k → O.klt (kk O key p k) (kk O key p i)) →
    (∀ l, l ≤ k → (∀ i, i < l → O.kle (kk O key p i) (kk O key p k)) → (∀ i, l ≤ i → i < k → O.klt (kk O key p k) (kk O key p i)) → Q l) → kw O n key (kas_place p k f l r) Q
  | 0, l, r, Q, h1, h2, h3, h4, h5, h => by
    have : l = r := by grind
    subst this
    exact h l h2 h4 h5
  | f + 1, l, r, Q, h1, h2, h3, h4, h5, h => by
    unfold kas_place
    split
    · have : l = r := by grind
      subst this
      exact h l h2 h4 h5
    · refine ⟨hp.lt hn _, hp.lt hn _, ?_⟩
      cases hc : O.blt (key (p.getD k 0)) (key (p.getD ((l + r) / 2) 0)) with
      | true =>
        simp only [if_true]
        exact kw_place hp hn hs f l _ (by grind) (by grind) (by grind) h4 (fun i a b => KeyOrd.klt_of_klt_of_kle hc (hs _ _ a b)) h
      | false =>
        simp only [Bool.false_eq_true, if_false]
        exact kw_place hp hn hs f _ r (by grind) (by grind) (by grind) (fun i a => KeyOrd.kle_trans (hs i ((l + r) / 2) (by grind) (by grind)) (show O.kle _ _ from hc)) h5 h
theorem kw_bin : ∀ (f : Nat) (p : Array Nat) (k : Nat) {Q : Array Nat → Prop}, PP n p → 0 < n → k + f = n → Up O key p k → (∀ q, PP n q → Up O key q n → Q q) → kw O n key (kas_bin f p k) Q
  | 0, p, k, Q, hp, hn, hk, hs, h => by
    have : k = n := by grind
    subst this
    exact h p hp hs
  | f + 1, p, k, Q, hp, hn, hk, hs, h => by
    unfold kas_bin
    have hsz := hp.size
    refine kw_bind (kw_place hp hn hs k 0 k (Nat.zero_le _) (Nat.le_refl _) (by grind) (fun i a => by grind) (fun i a b => by grind) fun l hl h1 h2 => ?_)
    refine kw_bin f _ (k + 1) ((bubble_perm _ _ _).trans hp) hn (by grind) (fun i j hij hj => ?_) h
    rw [kk_bubble (by grind) (by grind), kk_bubble (by grind) (by grind), show k - (k - l) = l by grind]
    repeat' split
    all_goals first
      | (exfalso; omega)
      | exact KeyOrd.kle_refl _
      | exact h1 _ (by grind)
      | exact KeyOrd.kle_of_klt (h2 _ (by grind) (by grind))
      | exact hs _ _ (by grind) (by grind)
theorem kw_sort (hn : 1 ≤ n) {Q : Array Nat → Prop} (h : ∀ q, PP n q → Up O key q n → Q q) : kw O n key (kas_sort n) Q := by
  unfold kas_sort
  refine kw_bind (kw_count (Array.Perm.refl _) hn fun r q a b c d => ?_)
  dsimp only
  split
  · exact kw_bin _ _ _ a (by grind) (by grind) (by rw [Nat.max_eq_left b]; exact d) h
  · have : r = n := by grind
    subst this
    exact h q a d
/-- from the questions' answers to the run -/
theorem kasWp_of_kw {α : Type} {cmp : Nat → Nat → (Bool → Shared → Prop) → Shared → Prop} {I : Shared → Prop} {Q : α → Shared → Prop} (hc : ∀ i j C s, i < n → j < n → I s → (∀ s', I s' → C (O.blt (key i) (key j)) s') → cmp i j C s) :
    ∀ (t : KasT α) (s : Shared), I s → kw O n key t (fun a => ∀ s', I s' → Q a s') → t.kasWp cmp Q s
  | .ret a, s, hi, h => h s hi
  | .ask i j k, s, hi, ⟨h1, h2, h3⟩ => hc i j _ s h1 h2 hi fun s' hi' => kasWp_of_kw hc (k _) s' hi' h3
/-- the list that the sort makes -/
theorem asc_of_up {q : Array Nat} (hp : PP n q) (hu : Up O key q n) : Asc (q.toList.map key) ∧ (q.toList.map key).Perm ((List.range n).map key) := by
  have hsz := hp.size
  refine ⟨List.pairwise_iff_getElem.mpr fun i j hi hj hij => ?_, (Array.perm_iff_toList_perm.mp hp).map key⟩
  have hi' : i < q.size := by simpa using hi
  have hj' : j < q.size := by simpa using hj
  have := hu i j (Nat.le_of_lt hij) (by grind)
  unfold kk KeyOrd.kle at this
  simpa [Array.getD, hi', hj'] using this
end
end Mine
open PySem PySem.W PyProof.Rows PySem.Calls
set_option maxRecDepth 100000
set_option maxHeartbeats 4000000
set_option linter.unusedVariables false
namespace Mine
variable {w : World} {A : Around} {Bh : Heap}
/-! ## atoms -/
inductive AtR : Value → At → Prop
  | s (x : Str) (t : Tok) : AtR (.str x t) (aS x)
  | i (n : Nat) (t : Tok) : AtR (.int n t) (aI n)
noncomputable def kd (a : At) : Nat := a.headD 0
theorem str_cps {x y : Str} : x.cps.toList = y.cps.toList ↔ x = y := by
  constructor
  · intro h
    have : x.cps = y.cps := Array.toList_inj.mp h
    cases x; cases y
    simp at this
    rw [this]
  · rintro rfl; rfl
theorem ev_eqb_at {v u : Value} {a b : At} {h : Heap} {P : Bool → Heap → Prop} (rv : AtR v a) (ru : AtR u b) (hk : kd a = kd b) (p : P (decide (a = b)) h) : Ev (model pw w) A (eqBool v u) h P := by
  intro E Q s hs hQ
  subst hs
  cases rv with
  | s x t =>
    cases ru with
    | s y u =>
      refine wpAny_eqBool_str (hQ _ _ s.toks ?_)
      have : decide (x = y) = decide (aS x = aS y) := by
        have : (aS x = aS y) ↔ x = y := by
          unfold aS
          rw [List.cons.injEq]
          exact ⟨fun q => str_cps.mp q.2, fun q => by rw [q]; exact ⟨rfl, rfl⟩⟩
        simp [this]
      rw [this]; exact p
    | i n u => simp [kd, aS, aI] at hk
  | i n t =>
    cases ru with
    | s y u => simp [kd, aS, aI] at hk
    | i m u =>
      refine wpAny_eqBool_int (hQ _ _ s.toks ?_)
      have : ((n : Int) == (m : Int)) = decide (aI n = aI m) := by
        simp only [aI, List.cons.injEq, and_true, true_and]
        by_cases e : n = m <;> simp [e]
        omega
      rw [this]; exact p
theorem ev_lt_at {v u : Value} {a b : At} {h : Heap} {P : Value → Heap → Prop} (rv : AtR v a) (ru : AtR u b) (hk : kd a = kd b) (p : P (.bool (decide (a < b))) h) : Ev (model pw w) A (compareOp .Lt v u) h P := by
  cases rv with
  | s x t =>
    cases ru with
    | s y u =>
      refine ev_lts ?_
      have : decide (x.cps.toList < y.cps.toList) = decide (aS x < aS y) := by
        simp [aS, List.cons_lt_cons_iff]
      rw [this]; exact p
    | i n u => simp [kd, aS, aI] at hk
  | i n t =>
    cases ru with
    | s y u => simp [kd, aS, aI] at hk
    | i m u =>
      refine ev_lti ?_
      have : decide ((n : Int) < (m : Int)) = decide (aI n < aI m) := by
        simp [aI, List.cons_lt_cons_iff]
      rw [this]; exact p
/-! ## tuples of atoms, in their order -/
theorem tup_lt_eq (a b : Value) : Builtin.«tuple.__lt__» ⟨[a, b], []⟩ = (do
    if !(← isInstance b (.type "tuple")) then return ← ret .notImplemented
    let xs ← Builtin.Tuple.tupleItemsOf a
    let ys ← Builtin.Tuple.tupleItemsOf b
    for (x, y) in xs.toList.zip ys.toList do
      if !(← eqBool x y) then
        rule "tuple.compare.by-the-first-pair-that-differs"
        return ← ret (← richCompare .Lt x y)
    ret (Builtin.Tuple.tupleCompareSizes .Lt xs.size ys.size)) := rfl
theorem ev_lex {R : Option PySem.Fin × Unit → Heap → Prop} {body : Value × Value → Option PySem.Fin × Unit → Sem (ForInStep (Option PySem.Fin × Unit))} {h : Heap}
    (hb : ∀ p q (R' : ForInStep (Option PySem.Fin × Unit) → Heap → Prop), Ev (model pw w) A (eqBool p q) h (fun e h' => if e = true then R' (.yield (none, ())) h' else Ev (model pw w) A (richCompare .Lt p q) h' fun v h'' => R' (.done (some (.done (.ret v)), ())) h'') →
      Ev (model pw w) A (body (p, q) (none, ())) h R') (xs ys : List Value) (as bs : Tp) (ra : All2 AtR xs as) (rb : All2 AtR ys bs) (hk : as.map kd = bs.map kd) (h1 : as = bs → R (none, ()) h) (h2 : as ≠ bs → R (some (.done (.ret (.bool (decide (as < bs))))), ()) h) :
      Ev (model pw w) A (forIn (xs.zip ys) (none, ()) body) h R := by
  induction ra generalizing ys bs with
  | nil =>
    cases rb with
    | nil =>
      rw [List.zip_nil_left, List.forIn_nil]
      exact Ev.pure (h1 rfl)
    | cons _ _ => cases hk
  | @cons x a xs as r1 _ ih =>
    cases rb with
    | nil => cases hk
    | @cons y b ys bs q1 q2 =>
      rw [List.map_cons, List.map_cons, List.cons.injEq] at hk
      rw [List.zip_cons_cons, List.forIn_cons]
      refine Ev.bind (hb x y _ (ev_eqb_at r1 q1 hk.1 ?_))
      by_cases e : a = b
      · subst e
        refine if_p (decide_eq_true rfl) ?_
        refine ih ys bs q2 hk.2 (fun e => h1 (congrArg _ e)) fun ne => ?_
        have z := h2 fun q => ne (List.cons.inj q).2
        rw [show decide (a :: as < a :: bs) = decide (as < bs) from decide_eq_decide.mpr (List.cons_lt_cons_iff.trans ⟨fun q => q.elim (fun q => absurd q (List.lt_irrefl a)) And.right, fun q => .inr ⟨rfl, q⟩⟩)] at z
        exact z
      · refine if_n (fun q => e (of_decide_eq_true q)) ?_
        refine ev_lt_at r1 q1 hk.1 (Ev.pure ?_)
        have z := h2 fun q => e (List.cons.inj q).1
        rw [show decide (a :: as < b :: bs) = decide (a < b) from decide_eq_decide.mpr (List.cons_lt_cons_iff.trans ⟨fun q => q.elim id fun q => absurd q.1 e, .inl⟩)] at z
        exact z
/-- a tuple, or an object of a class of the text that sits on tuple -/
structure TupAt (w : World) (h : Heap) (a : Addr) (o : Obj) (T : Value) (xs : List Value) (n : Nat) : Prop where
  at_ : h.get? a = some o
  data : o.data = .seq xs.toArray n
  type : Looks (model pw w) h (typeOf (.ref a)) T
  lt : Looks (model pw w) h (typeLookup T "__lt__") (some (.builtin "tuple.__lt__"))
  inst : Looks (model pw w) h (isInstance (.ref a) (.type "tuple")) true
theorem ev_cmp_tup {h : Heap} (room : Room A 1) {a b : Addr} {oa ob : Obj} {T : Value} {xs ys : List Value} {n k : Nat} (ta : TupAt w h a oa T xs n) (tb : TupAt w h b ob T ys k) {as bs : Tp} (ra : All2 AtR xs as) (rb : All2 AtR ys bs) (hk : as.map kd = bs.map kd)
    {P : Value → Heap → Prop} (p : P (.bool (decide (as < bs))) h) : Ev (model pw w) A (compareOp .Lt (.ref a) (.ref b)) h P := by
  show Ev _ _ (richCompare .Lt (.ref a) (.ref b)) _ _
  unfold richCompare
  simp only [oneThing_ref]
  refine Ev.holding (Ev.bind ?_)
  have room' : ∀ {P : Unit → Heap → Prop}, P () h → Ev (model pw w) A (cRoomFor "comparison" [.ref a, .ref b]) h P := by
    intro P q E Q s hs hQ
    subst hs
    exact wpAny_cRoomFor room.cl (hQ _ _ s.toks q)
  refine room' (Ev.bind (Ev.looks ta.type (Ev.bind (Ev.looks tb.type ?_))))
  rw [if_neg (by simp)]
  refine Ev.bind (Ev.pure ?_)
  simp only [Bool.false_eq_true, if_false]
  refine Ev.bind ?_
  unfold tryCompare
  have calls : ∀ {P : Value → Heap → Prop}, P (.bool (decide (as < bs))) h → Ev (model pw w) A (call (.builtin "tuple.__lt__") [.ref a, .ref b]) h P := by
    intro P q
    refine Ev.call (cev_sub (owner := "tuple") (n := "__lt__") (by decide +kernel) PySem.F.entry_tuple_lt (by decide +kernel) (by first | exact .inl (by decide +kernel) | exact .inr (by decide +kernel)) ta.inst (PySem.F.args_tuple_lt_2 _ _) ?_)
    rw [tup_lt_eq]
    refine Ev.bind (Ev.looks tb.inst ?_)
    simp only [Bool.not_true, Bool.false_eq_true, if_false]
    have items : ∀ {A' : Around} {c : Addr} {o : Obj} {zs : List Value} {m : Nat} {P : Array Value → Heap → Prop}, h.get? c = some o → o.data = .seq zs.toArray m → P zs.toArray h → Ev (model pw w) A' (Builtin.Tuple.tupleItemsOf (.ref c)) h P := by
      intro A' c o zs m P ho hd q E Q s hs hQ
      subst hs
      unfold Builtin.Tuple.tupleItemsOf
      exact wpAny_bind (wpAny_seqItems ho hd (wpAny_pure (hQ _ _ s.toks q)))
    refine Ev.bind (items ta.at_ ta.data (Ev.bind (items tb.at_ tb.data ?_)))
    refine Ev.bind (ev_lex (fun p q R' x => ?_) xs ys as bs ra rb hk (fun e => ?_) fun ne => ?_)
    · dsimp only
      refine Ev.bind (x.mono fun e h' y => ?_)
      cases e with
      | true =>
        simp only [if_true] at y
        (try simp only [Bool.not_true, Bool.false_eq_true, if_false])
        exact Ev.pure y
      | false =>
        simp only [Bool.false_eq_true, if_false] at y
        (try simp only [Bool.not_false, if_true])
        refine Ev.bind (Ev.rule (Ev.bind (y.mono fun v h'' z => Ev.bind (Ev.pure ?_))))
        exact Ev.pure z
    · refine Ev.pure ⟨_, rfl, ?_⟩
      subst e
      have e1 : xs.length = ys.length := by rw [ra.len, rb.len]
      have e2 : decide (as < as) = false := by simp
      rw [e2] at q
      show P (.bool (decide (xs.toArray.size < ys.toArray.size))) h
      rw [decide_eq_false (by simp [e1])]
      exact q
    · exact Ev.pure ⟨_, rfl, q⟩
  have ifb : Ev (model pw w) A (callSpecialIfBound? (.ref a) (cmpInfo .Lt).2.1 [.ref b]) h fun r h' => r = some (.bool (decide (as < bs))) ∧ h' = h := by
    simp only [callSpecialIfBound?, bindSpecialIfBound?]
    refine Ev.holding (Ev.bind (Ev.bind (Ev.bind (Ev.looks ta.type (Ev.looks ta.lt ?_)))))
    refine Ev.bind (Ev.ask ?_)
    have bnd : bindSpecial (.builtin "tuple.__lt__") (.ref a) = pure (.builtin "tuple.__lt__", [.ref a]) := PySem.F.slot_tuple_lt.bind _
    split
    · rw [bnd]
      exact Ev.bind (Ev.pure (Ev.pure (Ev.bind (calls (Ev.pure ⟨rfl, rfl⟩)))))
    · rw [bnd]
      exact Ev.tryCatch (Ev.bind (Ev.pure (Ev.pure (Ev.bind (calls (Ev.pure ⟨rfl, rfl⟩))))))
  refine Ev.bind (ifb.mono fun r h' e => ?_)
  obtain ⟨rfl, rfl⟩ := e
  exact Ev.pure (Ev.pure p)
theorem tupAt_plain {h : Heap} {a : Addr} {xs : List Value} (ha : h.get? a = some (TO xs)) : TupAt w h a (TO xs) (.type "tuple") xs 0 where
  at_ := ha
  data := rfl
  type := (Looks.ld (part := none) ha).andThen .now
  lt := Looks.of_pure PySem.F.slot_tuple_lt.lookup
  inst := by
    unfold isInstance
    exact ((Looks.ld (part := none) ha).andThen .now).andThen (Looks.of_pure isSubtype_tuple_tuple)
theorem tupAt_pair (B : Base w Bh) {h : Heap} (kb : Kp Bh h) {p d : Addr} {x y : Value} (hp : h.get? p = some (pairO d x y)) (hd : h.get? d = some dictO0) : TupAt w h p (pairO d x y) (.ref 203) [x, y] 0 where
  at_ := hp
  data := rfl
  type := (Looks.ld (part := none) hp).andThen .now
  lt := looks_findIn (B.X.keeps kb) (by kernel_rfl)
  inst := looks_inst_tuple B kb ⟨d, hp, hd⟩
end Mine
open PySem PySem.W PyProof.Rows PySem.Calls
set_option maxRecDepth 100000
set_option maxHeartbeats 4000000
set_option linter.unusedVariables false
namespace Mine
variable {w : World} {A : Around} {Bh : Heap}
/-! ## kinds of items that the sort takes -/
structure SItem (w : World) where
  I : Item w Tp
  lt : I.lt = tpO.blt
  κ : SortKind
  kind : ∀ {h : Heap} {vs : List Value} {as : List Tp}, SeqL I.R h vs as → 2 ≤ vs.length → ∀ {A : Around} {E : Value → Shared → Prop} {Q : SortKind → Shared → Prop} (s : Shared), s.heap = h → Q κ s → wpAny (model pw w) A (keyKind' vs.toArray) Q E s
  cmp : ∀ {A : Around} {h : Heap} {v u : Value} {a b : Tp} {P : Bool → Heap → Prop}, Room A 1 → I.R h v a → I.R h u b → P (decide (a < b)) h → Ev (model pw w) A (keyLt' κ v u) h P
theorem SItem.run (S : SItem w) {gi : Heap} {vs : List Value} {as : List Tp} (hr : SeqL S.I.R gi vs as) (hn : 1 ≤ vs.length) {A : Around} (room : Room A 1) {Q : Array Nat → Shared → Prop} {s : Shared} (k : Kp gi s.heap)
    (h : ∀ p tk, p.size = vs.length → (p.toList.map fun i => as.getD i []) = srt (O := tpO) as → SeqL S.I.R gi (p.toList.map fun i => vs.getD i .none) (srt (O := tpO) as) → Q p { s with toks := tk }) :
    (kas_sort vs.length).kasWp (kas_ask pw w A S.κ vs) Q s := by
  have hlen := hr.len
  refine kasWp_of_kw (O := tpO) (n := vs.length) (key := fun i => as.getD i []) (I := fun s' => ∃ tk, s' = { s with toks := tk }) (fun i j C s' hi hj hs hC => ?_) _ s ⟨s.toks, rfl⟩ (kw_sort hn fun q hq hu => ?_)
  · obtain ⟨tk, rfl⟩ := hs
    obtain ⟨a, ha⟩ : ∃ a, as[i]? = some a := ⟨_, List.getElem?_eq_getElem (by omega)⟩
    obtain ⟨b, hb⟩ : ∃ b, as[j]? = some b := ⟨_, List.getElem?_eq_getElem (by omega)⟩
    obtain ⟨v, hv, rv⟩ := hr.at ha
    obtain ⟨u, hu, ru⟩ := hr.at hb
    unfold kas_ask
    have e1 : vs.getD i .none = v := by simp [List.getD, hv]
    have e2 : vs.getD j .none = u := by simp [List.getD, hu]
    have e3 : as.getD i [] = a := by simp [List.getD, ha]
    have e4 : as.getD j [] = b := by simp [List.getD, hb]
    rw [e1, e2]
    refine S.cmp (P := fun c h' => c = decide (a < b) ∧ h' = s.heap) room (S.I.up k rv) (S.I.up k ru) ⟨rfl, rfl⟩ _ _ _ rfl fun c h' tk' e => ?_
    obtain ⟨rfl, rfl⟩ := e
    have := hC { s with toks := tk' } ⟨tk', rfl⟩
    simp only [e3, e4] at this
    exact this
  · rintro s' ⟨tk, rfl⟩
    obtain ⟨r1, r2⟩ := asc_of_up hq hu
    have e : ((List.range vs.length).map fun i => as.getD i []) = as := by
      rw [hlen]
      refine List.ext_getElem (by simp) fun i h1 h2 => ?_
      simp [List.getD, h2]
    rw [e] at r2
    have es := srt_of r2 r1
    refine h q tk hq.size es.symm ?_
    have all : ∀ (l : List Nat), (∀ i ∈ l, i < vs.length) → SeqL S.I.R gi (l.map fun i => vs.getD i .none) (l.map fun i => as.getD i []) := by
      intro l hl
      induction l with
      | nil => exact .nil
      | cons i l ih =>
        refine .cons ?_ (ih fun j hj => hl j (.tail _ hj))
        have hi := hl i (.head _)
        obtain ⟨a, ha⟩ : ∃ a, as[i]? = some a := ⟨_, List.getElem?_eq_getElem (by omega)⟩
        obtain ⟨v, hv, rv⟩ := hr.at ha
        simpa [List.getD, hv, ha] using rv
    rw [es]
    exact all q.toList fun i hi => by
      have := (Array.perm_iff_toList_perm.mp hq).mem_iff.mp hi
      simpa using this
theorem ev_list_sort (S : SItem w) {gi h : Heap} {a : Addr} {vs : List Value} {as : List Tp} {n : Nat} (room : Room A 1) (kg : Kp gi h) (ha : h.get? a = some (LO vs n)) (hga : gi.get? a = none) (hr : SeqL S.I.R gi vs as) (h64 : vs.length < 64)
    {P : PySem.Fin → Heap → Prop} (p : ∀ h' ys c, Only [a] h h' → h'.get? a = some (LO ys c) → SeqL S.I.R gi ys (srt (O := tpO) as) → P (.done (.ret .none)) h') : Ev (model pw w) A (Builtin.«list.sort» ⟨[.ref a], []⟩) h P := by
  intro E Q s hs hQ
  subst hs
  have ho : s.heap.get? a = some (seqObj "list" vs.toArray n) := ha
  have hlt : a < s.heap.objs.size := Heap.lt_size ho
  rw [list_sort_plain]
  refine wpAny_bind (listItems_at ho rfl ?_)
  refine wpAny_bind (listUpdate_at ho rfl ?_ (by rw [List.size_toArray, sizeLine_eq]; omega) (Nat.zero_le _))
  obtain ⟨e1, ho1⟩ : ∃ e1, (s.heap.update a (Obj.mapSeq fun _ => #[])).get? a = some (seqObj "list" #[] e1) := ⟨_, get?_update_seq ho (fun _ => #[])⟩
  refine wpAny_bind (seqEpoch_at ho1 rfl ?_)
  refine wpAny_bind (wpAny_newTuple ?_ (by show vs.length ≤ _; rw [sizeLine_eq]; omega))
  refine wpAny_bind (wpAny_newList ?_ (Nat.zero_le _))
  refine wpAny_holding ?_
  have ho6 : (((s.heap.update a (Obj.mapSeq fun _ => #[])).push (seqObj "tuple" vs.toArray 0)).push (seqObj "list" #[] 0)).get? a = some (seqObj "list" #[] e1) := by
    rw [Heap.get?_push_ne _ _ _ (by rw [size_push', Heap.size_update]; exact Nat.ne_of_lt (Nat.lt_succ_of_lt hlt)), Heap.get?_push_ne _ _ _ (by rw [Heap.size_update]; exact Nat.ne_of_lt hlt)]
    exact ho1
  show wpAny (model pw w) A _ Q E { s with heap := ((s.heap.update a (Obj.mapSeq fun _ => #[])).push (seqObj "tuple" vs.toArray 0)).push (seqObj "list" #[] 0) }
  dsimp only
  have only6 : Only [a] s.heap (((s.heap.update a (Obj.mapSeq fun _ => #[])).push (seqObj "tuple" vs.toArray 0)).push (seqObj "list" #[] 0)) := fun b o hb e =>
    Heap.get?_push_of_some _ (Heap.get?_push_of_some _ (by rw [Heap.get?_update_ne _ _ _ _ (fun q => hb (by simp [q]))]; exact e))
  generalize ((s.heap.update a (Obj.mapSeq fun _ => #[])).push (seqObj "tuple" vs.toArray 0)).push (seqObj "list" #[] 0) = h6 at ho6 only6 ⊢
  have kg6 : Kp gi h6 := fun b o e => only6 b o (fun q => by rw [List.mem_singleton.mp q, hga] at e; cases e) (kg b o e)
  have fin : ∀ (ys : List Value) tk, SeqL S.I.R gi ys (srt (O := tpO) as) → ys.length < 64 → Q (.done (.ret .none)) { s with heap := h6.update a (Obj.mapSeq fun _ => ys.toArray), toks := tk } := by
    intro ys tk hy hz
    obtain ⟨c, hc⟩ : ∃ c, (h6.update a (Obj.mapSeq fun _ => ys.toArray)).get? a = some (seqObj "list" ys.toArray c) := ⟨_, get?_update_seq ho6 (fun _ => ys.toArray)⟩
    exact hQ _ _ tk (p _ ys c (only6.trans only_update) hc hy)
  by_cases h2 : vs.toArray.size < 2
  · rw [if_pos h2, if_pos h2]
    refine wpAny_bind (wpAny_pure ?_)
    rw [StateT.run_pure]
    refine wpAny_bind (wpAny_pure ?_)
    dsimp only
    refine wpAny_bind (seqEpoch_at ho6 rfl ?_)
    have eo : (arrOf (SortSt.mk' general' (vs.toArray.zip vs.toArray) #[] 7 none)).map (·.2) = vs.toArray := by
      show (vs.toArray.zip vs.toArray).map (·.2) = _
      apply Array.toList_inj.mp
      simp [List.map_snd_zip]
    rw [eo]
    refine wpAny_bind (listUpdate_at ho6 rfl ?_ (Nat.zero_le _) (by rw [List.size_toArray, sizeLine_eq]; omega))
    show wpAny _ _ (if (e1 != e1) = true then _ else ret .none) _ _ _
    simp only [bne_self_eq_false, Bool.false_eq_true, if_false]
    have es : srt (O := tpO) as = as := by
      refine srt_of (List.Perm.refl _) ?_
      have := hr.len
      have hl : as.length < 2 := by rw [List.size_toArray] at h2; omega
      match as, hl with
      | [], _ => exact List.Pairwise.nil
      | [x], _ => exact List.pairwise_singleton _ _
    exact wpAny_pure (fin vs _ (by rw [es]; exact hr) h64)
  · rw [if_neg h2, if_neg h2]
    have h2' : 2 ≤ vs.length := by rw [List.size_toArray] at h2; omega
    refine wpAny_bind (S.kind (hr.imp fun v a r => S.I.up kg6 r) h2' _ rfl ?_)
    refine wpAny_bind (wpAny_mono (kat_run (Q := fun st' s' => ∃ (p : Array Nat) (tk : Nat), p.size = vs.length ∧ arrOf st' = p.map (kas_item (vs.toArray.zip vs.toArray)) ∧ failedOf st' = none ∧ SeqL S.I.R gi (p.toList.map fun i => vs.getD i .none) (srt (O := tpO) as) ∧ s' = { s with heap := h6, toks := tk })
      (G := fun p s' => p.size = vs.length → ∃ tk, SeqL S.I.R gi (p.toList.map fun i => vs.getD i .none) (srt (O := tpO) as) ∧ s' = { s with heap := h6, toks := tk })
      rfl h2' h64 (fun p' st' s' a1 a2 a3 a4 => by obtain ⟨tk, b1, b2⟩ := a4 a1; exact ⟨p', tk, a1, a2, a3, b1, b2⟩) (S.run hr (by omega) room kg6 fun p tk e0 e1 r _ => ⟨tk, r, rfl⟩)) ?_ fun _ _ e => e)
    rintro ⟨⟨⟩, st'⟩ s' ⟨q, tk, hp, har, hf, hs, rfl⟩
    dsimp only
    have hout := kat_snds rfl har
    have hsz : (List.toArray (q.toList.map fun i => vs.getD i Value.none)).size = vs.length := by rw [List.size_toArray, List.length_map, Array.length_toList, hp]
    refine wpAny_bind (seqEpoch_at ho6 rfl ?_)
    rw [hout]
    refine wpAny_bind (listUpdate_at ho6 rfl ?_ (Nat.zero_le _) (Nat.le_trans (Nat.le_of_eq hsz) (by rw [sizeLine_eq]; omega)))
    rw [hf]
    simp only [bne_self_eq_false, Bool.false_eq_true, if_false]
    exact wpAny_pure (fin _ _ hs (by rw [← List.size_toArray, hsz]; exact h64))
/-- keywords that say nothing: none, or key=None -/
structure KwOk (kw : List (Str × Value)) : Prop where
  a1 : ∀ x, argsOk "sorted" ⟨[.ref x], kw⟩
  a2 : ∀ x, argsOk "list.sort" ⟨[.ref x], kw⟩
  t : ∀ x, Builtin.«list.sort» ⟨[.ref x], kw⟩ = Builtin.«list.sort» ⟨[.ref x], []⟩
theorem KwOk.nil : KwOk [] := ⟨fun _ => args_sorted1 _, fun _ => args_list_sort _, fun _ => rfl⟩
theorem KwOk.key : KwOk [("key", .none)] := ⟨fun _ => by unfold argsOk; kernel_rfl, fun _ => by unfold argsOk; kernel_rfl, fun _ => rfl⟩
theorem ev_lsortK (S : SItem w) {kw : List (Str × Value)} (hk : KwOk kw) {gi h : Heap} {a : Addr} {vs : List Value} {as : List Tp} {n : Nat} (room : Room A 2) (kg : Kp gi h) (ha : h.get? a = some (LO vs n)) (hga : gi.get? a = none) (hr : SeqL S.I.R gi vs as) (h64 : vs.length < 64)
    {P : Value → Heap → Prop} (p : ∀ h' ys c, Only [a] h h' → h'.get? a = some (LO ys c) → SeqL S.I.R gi ys (srt (O := tpO) as) → P .none h') : Ev (model pw w) A (call (.builtin "list.sort") [.ref a] kw) h P := by
  intro E Q s hs hQ
  subst hs
  have core : Ev (model pw w) A.in1 (Builtin.«list.sort» ⟨[.ref a], kw⟩) s.heap fun fin h' => ∃ v, fin = .done (.ret v) ∧ P v h' := by
    rw [hk.t]
    exact ev_list_sort S room.in1 kg ha hga hr h64 fun h' ys c o g r => ⟨_, rfl, p h' ys c o g r⟩
  refine wpAny_call_entry_kw slot_list_sort ⟨_, ha, rfl⟩ entry_list_sort (core _ _ _ rfl fun fin h' tk x => ?_) (hk.a2 _)
  obtain ⟨v, rfl, x⟩ := x
  exact ⟨_, rfl, hQ _ h' tk x⟩
theorem ev_lsort (S : SItem w) {gi h : Heap} {a : Addr} {vs : List Value} {as : List Tp} {n : Nat} (room : Room A 2) (kg : Kp gi h) (ha : h.get? a = some (LO vs n)) (hga : gi.get? a = none) (hr : SeqL S.I.R gi vs as) (h64 : vs.length < 64)
    {P : Value → Heap → Prop} (p : ∀ h' ys c, Only [a] h h' → h'.get? a = some (LO ys c) → SeqL S.I.R gi ys (srt (O := tpO) as) → P .none h') : Ev (model pw w) A (call (.builtin "list.sort") [.ref a]) h P :=
  ev_lsortK S .nil room kg ha hga hr h64 p
theorem ev_sortedK (S : SItem w) {kw : List (Str × Value)} (hk : KwOk kw) {gi h : Heap} {l : Addr} {vs : List Value} {as : List Tp} {n : Nat} (room : Room A 3) (kg : Kp gi h) (hl : h.get? l = some (LO vs n)) (hr : SeqL S.I.R gi vs as) (h64 : vs.length < 64)
    {P : Value → Heap → Prop} (p : ∀ D h' ys c, Only [] h h' → h.get? D = none → h'.get? D = some (LO ys c) → SeqL S.I.R gi ys (srt (O := tpO) as) → P (.ref D) h') : Ev (model pw w) A (call (.builtin "sorted") [.ref l] kw) h P := by
  intro E Q s hs hQ
  subst hs
  refine call_function_entry_kw kind_sorted plain_sorted entry_sorted (hk.a1 _) ?_
  unfold Builtin.«sorted»
  refine wpAny_bind (m := checkCount "sorted" 1 1 _) (wpAny_pure ?_)
  refine wpAny_bind (collect_list (PySem.IsL.isList (n := n) hl) ?_ (by rw [sizeLine_eq]; omega))
  refine wpAny_bind (wpAny_newList ?_ (by rw [sizeLine_eq]; omega))
  have hsz : ((s.heap.push (seqObj "list" #[] 0)).update s.heap.objs.size (Obj.mapSeq (· ++ vs.toArray))).objs.size = s.heap.objs.size + 1 := by
    rw [Heap.size_update, size_push']
  have hoL : (((s.heap.push (seqObj "list" #[] 0)).update s.heap.objs.size (Obj.mapSeq (· ++ vs.toArray))).push (seqObj "list" vs.toArray 0)).get? (s.heap.objs.size + 1) = some (seqObj "list" vs.toArray 0) := by
    rw [← hsz]; exact Heap.get?_push_size _ rfl
  have keep : Kp s.heap (((s.heap.push (seqObj "list" #[] 0)).update s.heap.objs.size (Obj.mapSeq (· ++ vs.toArray))).push (seqObj "list" vs.toArray 0)) := fun b o q => by
    have hlt : b < s.heap.objs.size := Heap.lt_size q
    rw [Heap.get?_push_ne _ _ _ (by rw [hsz]; exact Nat.ne_of_lt (Nat.lt_succ_of_lt hlt)), Heap.get?_update_ne _ _ _ _ (Nat.ne_of_lt hlt), Heap.get?_push_ne _ _ _ (Nat.ne_of_lt hlt)]
    exact q
  show wpAny _ _ _ _ _ { s with heap := ((s.heap.push (seqObj "list" #[] 0)).update s.heap.objs.size (Obj.mapSeq (· ++ vs.toArray))).push (seqObj "list" vs.toArray 0) }
  rw [hsz]
  have hnone : s.heap.get? (s.heap.objs.size + 1) = none := Heap.get?_none_of_le (Nat.le_succ _)
  have hgn : gi.get? (s.heap.objs.size + 1) = none := by
    cases hc : gi.get? (s.heap.objs.size + 1) with
    | none => rfl
    | some o => rw [kg _ _ hc] at hnone; cases hnone
  refine wpAny_bind (wpAny_holding ?_)
  refine ev_lsortK S hk room.in1 (kg.trans' keep) hoL hgn hr h64 (P := fun v h' => ∃ ys c, v = .none ∧ Only [s.heap.objs.size + 1] (((s.heap.push (seqObj "list" #[] 0)).update s.heap.objs.size (Obj.mapSeq (· ++ vs.toArray))).push (seqObj "list" vs.toArray 0)) h' ∧ h'.get? (s.heap.objs.size + 1) = some (LO ys c) ∧ SeqL S.I.R gi ys (srt (O := tpO) as))
    (fun h' ys c o g r => ⟨ys, c, rfl, o, g, r⟩) _ _ _ rfl fun v h' tk x => ?_
  obtain ⟨ys, c, rfl, o, g, r⟩ := x
  refine wpAny_pure ⟨_, rfl, hQ _ h' tk (p _ h' ys c (fun b ob _ e => o b ob (fun q => ?_) (keep b ob e)) hnone g r)⟩
  rw [List.mem_singleton.mp q, hnone] at e
  cases e
theorem ev_sorted (S : SItem w) {gi h : Heap} {l : Addr} {vs : List Value} {as : List Tp} {n : Nat} (room : Room A 3) (kg : Kp gi h) (hl : h.get? l = some (LO vs n)) (hr : SeqL S.I.R gi vs as) (h64 : vs.length < 64)
    {P : Value → Heap → Prop} (p : ∀ D h' ys c, Only [] h h' → h.get? D = none → h'.get? D = some (LO ys c) → SeqL S.I.R gi ys (srt (O := tpO) as) → P (.ref D) h') : Ev (model pw w) A (call (.builtin "sorted") [.ref l]) h P :=
  ev_sortedK S .nil room kg hl hr h64 p
end Mine
open PySem PySem.W PyProof.Rows PySem.Calls
set_option maxRecDepth 100000
set_option maxHeartbeats 4000000
set_option linter.unusedVariables false
namespace Mine
variable {w : World} {A : Around} {Bh : Heap}
/-! ## the kinds of items: texts, tuples, pairs -/
noncomputable def StrR (h : Heap) (v : Value) (a : Tp) : Prop := ∃ x t, v = .str x t ∧ a = [aS x]
noncomputable def strI (w : World) : Item w Tp where
  R := StrR
  up := fun _ r => r
  lt := tpO.blt
  ev := by
    rintro A h v u a b P room ⟨x, t, rfl, rfl⟩ ⟨y, t', rfl, rfl⟩ p
    refine ev_lt_at (.s x t) (.s y t') rfl ?_
    have e : decide ([aS x] < [aS y]) = decide (aS x < aS y) := by simp [List.cons_lt_cons_iff]
    rw [show tpO.blt [aS x] [aS y] = decide ([aS x] < [aS y]) from rfl, e] at p
    exact p
theorem strsAre_of {h : Heap} : ∀ {vs : List Value} {as : List Tp}, SeqL StrR h vs as → ∃ ss, StrsAre vs ss
  | _, _, .nil => ⟨[], .nil⟩
  | _, _, .cons r y => by
    obtain ⟨x, t, rfl, _⟩ := r
    obtain ⟨ss, hs⟩ := strsAre_of y
    exact ⟨x :: ss, .cons x t hs⟩
noncomputable def strS (w : World) : SItem w where
  I := strI w
  lt := rfl
  κ := oneType'
  kind := by
    intro h vs as hr h2 A E Q s hs hQ
    obtain ⟨ss, hS⟩ := strsAre_of hr
    obtain ⟨v₁, v₂, rest, rfl⟩ : ∃ v₁ v₂ rest, vs = v₁ :: v₂ :: rest := by
      match vs, h2 with
      | v₁ :: v₂ :: rest, _ => exact ⟨v₁, v₂, rest, rfl⟩
    exact wpAny_of_eq (keyKind_strs hS) hQ
  cmp := by
    rintro A h v u a b P room ⟨x, t, rfl, rfl⟩ ⟨y, t', rfl, rfl⟩ p E Q s hs hQ
    subst hs
    refine kas_lt_str (hQ _ _ s.toks ?_)
    have e : decide ([aS x] < [aS y]) = decide (x.cps.toList < y.cps.toList) := by simp [List.cons_lt_cons_iff]
    rw [e] at p
    exact p
/-- a plain tuple of atoms of the kinds sh -/
noncomputable def TupR (sh : List Nat) (h : Heap) (v : Value) (as : Tp) : Prop := ∃ a xs, v = .ref a ∧ h.get? a = some (TO xs) ∧ All2 AtR xs as ∧ as.map kd = sh
noncomputable def tupI (w : World) (sh : List Nat) : Item w Tp where
  R := TupR sh
  up := fun k ⟨a, xs, e, ho, r⟩ => ⟨a, xs, e, k _ _ ho, r⟩
  lt := tpO.blt
  ev := by
    rintro A h v u as bs P room ⟨a, xs, rfl, ha, ra, ka⟩ ⟨b, ys, rfl, hb, rb, kb⟩ p
    exact ev_cmp_tup room (tupAt_plain ha) (tupAt_plain hb) ra rb (ka.trans kb.symm) p
theorem katlex (xs : List Value) : ∀ (ys : List Value) (as bs : Tp) (fin : Bool) (i : Nat) {Q : Bool → Shared → Prop} {s : Shared}, All2 AtR xs as → All2 AtR ys bs → as.map kd = bs.map kd → (i = 0 → (as.map kd).headD 0 = 0) → (as = bs → fin = false) →
    (∀ tk, Q (decide (as < bs)) { s with toks := tk }) → KatLex pw w A true fin Q (xs.zip ys) i s := by
  induction xs with
  | nil =>
    intro ys as bs fin i Q s ra rb hk h0 hf h
    cases ra
    cases rb with
    | cons _ _ => simp at hk
    | nil =>
      refine kat_nil ?_
      rw [hf rfl]
      have := h s.toks
      simpa using this
  | cons x xs ih =>
    intro ys as bs fin i Q s ra rb hk h0 hf h
    cases ra with
    | @cons _ a _ as r1 r2 =>
      cases rb with
      | nil => simp at hk
      | @cons y b ys bs q1 q2 =>
        rw [List.map_cons, List.map_cons, List.cons.injEq] at hk
        rw [List.zip_cons_cons]
        refine kat_cons (ev_eqb_at (P := fun e h' => e = decide (a = b) ∧ h' = s.heap) r1 q1 hk.1 ⟨rfl, rfl⟩ _ _ _ rfl fun e h' tk q => ?_)
        obtain ⟨rfl, rfl⟩ := q
        refine kat_go (fun e => ?_) fun e => ?_
        · have e : a = b := by simpa using e
          subst e
          refine kat_yes (ih ys as bs fin (i + 1) r2 q2 hk.2 (fun q => by omega) (fun q => hf (by rw [q])) fun tk' => ?_)
          have := h tk'
          have e2 : decide (a :: as < a :: bs) = decide (as < bs) := by
            have i : ¬ a < a := List.lt_irrefl a
            simp [List.cons_lt_cons_iff]
          rw [e2] at this
          exact this
        · have e : a ≠ b := by simpa using e
          have e2 : decide (a :: as < b :: bs) = decide (a < b) := by simp [List.cons_lt_cons_iff, e]
          refine kat_no ?_
          by_cases hi : i = 0
          · subst hi
            cases r1 with
            | i n t => simp [kd, aI] at h0
            | s x t =>
              cases q1 with
              | i n t => simp [kd, aS, aI] at hk
              | s y u =>
                refine oneLt_str ?_
                have e3 : decide (aS x < aS y) = decide (x.cps.toList < y.cps.toList) := by simp [List.cons_lt_cons_iff]
                rw [← e3, ← e2]
                exact h tk
          · have : (true && i == 0) = false := by simpa using hi
            rw [this]
            refine kat_one _ _ (ev_lt_at (P := fun v h' => v = .bool (decide (a < b)) ∧ h' = s.heap) r1 q1 hk.1 ⟨rfl, rfl⟩ _ _ _ rfl fun v h' tk' q => ?_)
            obtain ⟨rfl, rfl⟩ := q
            have := h tk'
            rw [e2] at this
            exact this
theorem katTups_of {sh : List Nat} {h : Heap} : ∀ {vs : List Value} {as : List Tp}, SeqL (TupR (0 :: sh)) h vs as → ∃ fs, KatTups h vs fs ∧ fs.length = vs.length ∧ ∀ v ∈ fs, ∃ x t, v = .str x t
  | _, _, .nil => ⟨[], KatTups.nil, rfl, fun _ q => nomatch q⟩
  | _, _, .cons r y => by
    obtain ⟨a, xs, rfl, ho, ra, ka⟩ := r
    obtain ⟨fs, h1, h2, h3⟩ := katTups_of y
    cases ra with
    | nil => simp at ka
    | @cons x b xs bs r1 r2 =>
      cases r1 with
      | i n t => simp [kd, aI] at ka
      | s x t =>
        refine ⟨.str x t :: fs, KatTups.cons (n := 0) ho rfl rfl (by simp) h1, by simp [h2], fun v hv => ?_⟩
        rcases List.mem_cons.mp hv with rfl | hv
        · exact ⟨x, t, rfl⟩
        · exact h3 v hv
noncomputable def tupS (w : World) (sh : List Nat) : SItem w where
  I := tupI w (0 :: sh)
  lt := rfl
  κ := tuples' (Value.type "str" != Value.type "tuple")
  kind := by
    intro h vs as hr h2 A E Q s hs hQ
    subst hs
    obtain ⟨fs, h1, h3, h4⟩ := katTups_of hr
    refine kat_kind h1 (by omega) (T := .type "str") (fun v hv => ?_) (by decide) hQ
    obtain ⟨x, t, rfl⟩ := h4 v hv
    exact Looks.of_pure rfl
  cmp := by
    rintro A h v u as bs P room ⟨a, xs, rfl, ha, ra, ka⟩ ⟨b, ys, rfl, hb, rb, kb⟩ p E Q s hs hQ
    subst hs
    have et : (Value.type "str" != Value.type "tuple") = true := by decide
    rw [et]
    refine kat_lt ha rfl hb rfl ?_
    refine katlex xs ys as bs _ 0 ra rb (ka.trans kb.symm) (fun _ => by rw [ka]; rfl) (fun e => ?_) fun tk => hQ _ _ tk p
    have e1 := ra.len
    have e2 := rb.len
    have e3 : as.length = bs.length := by
      have := congrArg List.length (ka.trans kb.symm)
      simpa using this
    simp
    omega
/-- a Pair of two texts -/
noncomputable def PairR (Bh h : Heap) (v : Value) (as : Tp) : Prop := Kp Bh h ∧ ∃ p x t y u, v = .ref p ∧ IsPair h p (.str x t) (.str y u) ∧ as = [aS x, aS y]
noncomputable def pairI (B : Base w Bh) : Item w Tp where
  R := PairR Bh
  up := fun k ⟨kb, p, x, t, y, u, e, hp, r⟩ => ⟨kb.trans' k, p, x, t, y, u, e, hp.up k, r⟩
  lt := tpO.blt
  ev := by
    rintro A h v u as bs P room ⟨kb, p, x, t, y, u', rfl, ⟨d, h1, h2⟩, rfl⟩ ⟨kb', p', x', t', y', u'', rfl, ⟨d', h1', h2'⟩, rfl⟩ q
    exact ev_cmp_tup room (tupAt_pair B kb h1 h2) (tupAt_pair B kb h1' h2') (.cons (.s _ _) (.cons (.s _ _) .nil)) (.cons (.s _ _) (.cons (.s _ _) .nil)) rfl q
end Mine
open PySem PySem.W PyProof.Rows PySem.Calls
set_option maxRecDepth 100000
set_option maxHeartbeats 4000000
set_option linter.unusedVariables false
namespace Mine
variable {w : World} {A : Around} {Bh : Heap}
/-! ## comparisons by a builtin method -/
theorem ev_rich {prog : Program} {op : CmpOp} {h : Heap} (room : Room A 1) {a : Addr} {b Ta Tb : Value} {id : String} {r : Bool} (la : Looks (model prog w) h (typeOf (.ref a)) Ta) (lb : Looks (model prog w) h (typeOf b) Tb)
    (hn : (Ta != Tb) = true → Looks (model prog w) h (isSubtype Tb Ta) false) (lk : Looks (model prog w) h (typeLookup Ta (cmpInfo op).2.1) (some (.builtin id))) (bnd : ∀ s, bindSpecial (.builtin id) s = pure (.builtin id, [s]))
    (c : ∀ {P : Value → Heap → Prop}, P (.bool r) h → Ev (model prog w) A (call (.builtin id) [.ref a, b]) h P) {P : Value → Heap → Prop} (p : P (.bool r) h) : Ev (model prog w) A (richCompare op (.ref a) b) h P := by
  unfold richCompare
  simp only [oneThing_ref]
  refine Ev.holding (Ev.bind ?_)
  have room' : ∀ {P : Unit → Heap → Prop}, P () h → Ev (model prog w) A (cRoomFor "comparison" [.ref a, b]) h P := by
    intro P q E Q s hs hQ
    subst hs
    exact wpAny_cRoomFor room.cl (hQ _ _ s.toks q)
  refine room' (Ev.bind (Ev.looks la (Ev.bind (Ev.looks lb ?_))))
  have ifb : Ev (model prog w) A (tryCompare (.ref a) (cmpInfo op).2.1 b) h fun q h' => q = some (.bool r) ∧ h' = h := by
    unfold tryCompare
    refine Ev.bind ?_
    simp only [callSpecialIfBound?, bindSpecialIfBound?]
    refine Ev.holding (Ev.bind (Ev.bind (Ev.bind (Ev.looks la (Ev.looks lk ?_)))))
    refine Ev.bind (Ev.ask ?_)
    split
    · rw [bnd]
      exact Ev.bind (Ev.pure (Ev.pure (Ev.bind (c (Ev.pure (Ev.pure ⟨rfl, rfl⟩))))))
    · rw [bnd]
      exact Ev.tryCatch (Ev.bind (Ev.pure (Ev.pure (Ev.bind (c (Ev.pure (Ev.pure ⟨rfl, rfl⟩)))))))
  split
  · rename_i q
    refine Ev.bind (Ev.looks (hn q) ?_)
    simp only [Bool.false_eq_true, if_false]
    refine Ev.bind (ifb.mono fun v h' e => ?_)
    obtain ⟨rfl, rfl⟩ := e
    exact Ev.pure p
  · refine Ev.bind (Ev.pure ?_)
    simp only [Bool.false_eq_true, if_false]
    refine Ev.bind (ifb.mono fun v h' e => ?_)
    obtain ⟨rfl, rfl⟩ := e
    exact Ev.pure p
theorem ev_eqBool_of {prog : Program} {h : Heap} {a : Addr} {b : Value} {r : Bool} (c : ∀ {P : Value → Heap → Prop}, P (.bool r) h → Ev (model prog w) A (richCompare .Eq (.ref a) b) h P) (he : (Value.ref a == b) = true → r = true) {P : Bool → Heap → Prop} (p : P r h) : Ev (model prog w) A (eqBool (.ref a) b) h P := by
  unfold eqBool
  refine Ev.holding ?_
  by_cases q : (Value.ref a == b) = true
  · show Ev _ _ (if (Value.ref a == b) = true then _ else _) _ _
    rw [if_pos q]
    refine Ev.bind (Ev.rule (Ev.pure ?_))
    rw [← he q]; exact p
  · show Ev _ _ (if (Value.ref a == b) = true then _ else _) _ _
    rw [if_neg q]
    refine Ev.bind (c ?_)
    unfold truthOfDropped
    exact Ev.pure p
/-! ## a list beside the empty list -/
theorem sub_list_list : isSubtype (.type "list") (.type "list") = pure true := by rw [isSubtype_type]; kernel_rfl
theorem looks_list {M : Model} {h : Heap} {a : Addr} {xs : List Value} {n : Nat} (ha : h.get? a = some (LO xs n)) : Looks M h (typeOf (.ref a)) (.type "list") := (Looks.ld (part := none) ha).andThen .now
theorem looks_items {M : Model} {h : Heap} {a : Addr} {xs : List Value} {n : Nat} (ha : h.get? a = some (LO xs n)) : Looks M h (Builtin.List.listItems (.ref a)) xs.toArray := fun A Q E s k q => listItems_at (k _ _ ha) rfl q
theorem list_ne_eq (a b : Value) : Builtin.«list.__ne__» ⟨[a, b], []⟩ = (do
    if !(← isInstance b (.type "list")) then return ← ret .notImplemented
    if (← Builtin.List.listItems a).size != (← Builtin.List.listItems b).size then
      rule "list.compare.lengths-differ"
      return ← ret (.bool true)
    again (.builtin "list.__eq__.loop" ⟨[a, b, rawInt 0, rawInt 3], []⟩)) := rfl
theorem list_eq_eq (a b : Value) : Builtin.«list.__eq__» ⟨[a, b], []⟩ = (do
    if !(← isInstance b (.type "list")) then return ← ret .notImplemented
    if (← Builtin.List.listItems a).size != (← Builtin.List.listItems b).size then
      rule "list.compare.lengths-differ"
      return ← ret (.bool false)
    again (.builtin "list.__eq__.loop" ⟨[a, b, rawInt 0, rawInt 2], []⟩)) := rfl
theorem looks_loop_nil {M : Model} {h : Heap} {a b : Addr} {n k : Nat} (ha : h.get? a = some (LO [] n)) (hb : h.get? b = some (LO [] k)) (code : Int) (r : Bool) (hc : (code = 3 ∧ r = false) ∨ (code = 2 ∧ r = true)) :
    Looks M h (Builtin.«list.__eq__.loop» ⟨[.ref a, .ref b, rawInt 0, rawInt code], []⟩) (.done (.ret (.bool r))) := by
  rcases hc with ⟨rfl, rfl⟩ | ⟨rfl, rfl⟩
  · refine (looks_items ha).andThen ((looks_items hb).andThen ?_)
    exact (looks_items ha).andThen ((looks_items hb).andThen (Looks.of_pure rfl))
  · refine (looks_items ha).andThen ((looks_items hb).andThen ?_)
    exact (looks_items ha).andThen ((looks_items hb).andThen (Looks.of_pure rfl))
theorem cev_ne_nil {h : Heap} {a b : Addr} {xs : List Value} {n k : Nat} (ha : h.get? a = some (LO xs n)) (hb : h.get? b = some (LO [] k)) {P : Value → Heap → Prop} (p : P (.bool (!xs.isEmpty)) h) : CEv (model pw w) A (.call (.builtin "list.__ne__") ⟨[.ref a, .ref b], []⟩) h P := by
  intro R s hs hQ
  subst hs
  refine codeAny_call_builtin PySem.F.slot_list_ne.plain PySem.F.entry_list_ne ?_
  refine PySem.F.slot_list_ne.check _ _ _ _ _ _ _ _ ⟨_, ha, rfl⟩ (PySem.F.args_list_ne_2 _ _) ?_
  rw [list_ne_eq]
  have L : Looks (model pw w) s.heap (isInstance (.ref b) (.type "list")) true := by
    unfold isInstance
    exact (looks_list hb).andThen (Looks.of_pure sub_list_list)
  refine wpAny_bind (L.here ?_)
  simp only [Bool.not_true, Bool.false_eq_true, if_false]
  refine wpAny_bind ((looks_items ha).here (wpAny_bind ((looks_items hb).here ?_)))
  cases xs with
  | nil =>
    rw [if_neg (by simp)]
    refine wpAny_pure ⟨plainId_quiet MeetsSeq3.plain_eq_loop _, codeAny_builtin MeetsSeq3.entry_eq_loop ?_⟩
    rw [Around.under_plainId MeetsSeq3.plain_eq_loop _]
    exact (looks_loop_nil ha hb 3 false (.inl ⟨rfl, rfl⟩)).here (hQ _ _ s.toks p)
  | cons x xs =>
    rw [if_pos (by simp)]
    refine wpAny_bind (wpAny_rule ?_)
    first | exact wpAny_pure (hQ _ _ s.toks p) | exact wpAny_bind (wpAny_pure (wpAny_pure (hQ _ _ s.toks p)))
theorem cev_eq_nil {h : Heap} {a b : Addr} {xs : List Value} {n k : Nat} (ha : h.get? a = some (LO xs n)) (hb : h.get? b = some (LO [] k)) {P : Value → Heap → Prop} (p : P (.bool xs.isEmpty) h) : CEv (model pw w) A (.call (.builtin "list.__eq__") ⟨[.ref a, .ref b], []⟩) h P := by
  intro R s hs hQ
  subst hs
  refine codeAny_call_builtin PySem.F.slot_list_eq.plain PySem.F.entry_list_eq ?_
  refine PySem.F.slot_list_eq.check _ _ _ _ _ _ _ _ ⟨_, ha, rfl⟩ (PySem.F.args_list_eq_2 _ _) ?_
  rw [list_eq_eq]
  have L : Looks (model pw w) s.heap (isInstance (.ref b) (.type "list")) true := by
    unfold isInstance
    exact (looks_list hb).andThen (Looks.of_pure sub_list_list)
  refine wpAny_bind (L.here ?_)
  simp only [Bool.not_true, Bool.false_eq_true, if_false]
  refine wpAny_bind ((looks_items ha).here (wpAny_bind ((looks_items hb).here ?_)))
  cases xs with
  | nil =>
    rw [if_neg (by simp)]
    refine wpAny_pure ⟨plainId_quiet MeetsSeq3.plain_eq_loop _, codeAny_builtin MeetsSeq3.entry_eq_loop ?_⟩
    rw [Around.under_plainId MeetsSeq3.plain_eq_loop _]
    exact (looks_loop_nil ha hb 2 true (.inr ⟨rfl, rfl⟩)).here (hQ _ _ s.toks p)
  | cons x xs =>
    rw [if_pos (by simp)]
    refine wpAny_bind (wpAny_rule ?_)
    first | exact wpAny_pure (hQ _ _ s.toks p) | exact wpAny_bind (wpAny_pure (wpAny_pure (hQ _ _ s.toks p)))
theorem ev_ne_nil {h : Heap} (room : Room A 1) {a b : Addr} {xs : List Value} {n k : Nat} (ha : h.get? a = some (LO xs n)) (hb : h.get? b = some (LO [] k)) {P : Value → Heap → Prop} (p : P (.bool (!xs.isEmpty)) h) : Ev (model pw w) A (compareOp .NotEq (.ref a) (.ref b)) h P :=
  ev_rich room (looks_list ha) (looks_list hb) (fun q => by simp at q) (Looks.of_pure PySem.F.slot_list_ne.lookup) PySem.F.slot_list_ne.bind (fun p => Ev.call (cev_ne_nil ha hb p)) p
theorem ev_eq_nil {h : Heap} (room : Room A 1) {a b : Addr} {xs : List Value} {n k : Nat} (ha : h.get? a = some (LO xs n)) (hb : h.get? b = some (LO [] k)) {P : Value → Heap → Prop} (p : P (.bool xs.isEmpty) h) : Ev (model pw w) A (compareOp .Eq (.ref a) (.ref b)) h P :=
  ev_rich room (looks_list ha) (looks_list hb) (fun q => by simp at q) (Looks.of_pure PySem.F.slot_list_eq.lookup) PySem.F.slot_list_eq.bind (fun p => Ev.call (cev_eq_nil ha hb p)) p
end Mine
open PySem PySem.W PyProof.Rows PySem.Calls
set_option maxRecDepth 100000
set_option maxHeartbeats 4000000
set_option linter.unusedVariables false
namespace Mine
variable {w : World} {A : Around} {Bh : Heap}
theorem hfy_eq {α : Type} {lt : α → α → Bool} : ∀ (k : Nat) (as : List α), hfy lt k as = hfy' lt k as
  | 0, _ => rfl
  | k + 1, as => by
    unfold hfy hfy'
    cases as[k]? with
    | none => rfl
    | some x => exact hfy_eq k _
noncomputable abbrev pr (n v : Str) : Tp := [aS n, aS v]
noncomputable abbrev IsH (as : List Tp) : Prop := IsHeap (O := tpO) as
theorem aS_inj {x y : Str} (h : aS x = aS y) : x = y := by
  unfold aS at h
  exact str_cps.mp (List.cons.inj h).2
noncomputable def StrIs (v : Value) (x : Str) : Prop := ∃ t, v = .str x t
/-- what a run takes off a heap -/
theorem pop_srt {as : List Tp} {a : Tp} (h : IsH (as ++ [a])) : IsH (hpop tpO.blt as a).2 ∧ srt (O := tpO) (as ++ [a]) = (hpop tpO.blt as a).1 :: srt (O := tpO) (hpop tpO.blt as a).2 ∧ (as ++ [a])[0]? = some (hpop tpO.blt as a).1 ∧ (hpop tpO.blt as a).2.length = as.length := by
  cases as with
  | nil => exact ⟨IsHeap.nil, srt_cons (O := tpO) (l := [a]) (r := []) (List.Perm.refl _) (fun _ q => nomatch q), rfl, rfl⟩
  | cons b r =>
    obtain ⟨h1, h2⟩ := hpop_heap (O := tpO) (b := b) (r := r) (last := a) h
    have hm : ∀ x ∈ b :: r ++ [a], tpO.blt x b = false := h.min rfl
    refine ⟨h1, ?_, rfl, by rw [show (hpop tpO.blt (b :: r) a).2 = sup tpO.blt a 0 (r.length + 1) (a :: r) 0 from rfl, sup_length]; simp⟩
    show srt (O := tpO) (b :: r ++ [a]) = b :: srt (O := tpO) (sup tpO.blt a 0 (r.length + 1) (a :: r) 0)
    refine srt_cons (O := tpO) ?_ fun x hx => hm x ?_
    · rw [List.cons_append]
      exact ((List.perm_append_comm (l₁ := r) (l₂ := [a])).trans h2.symm).cons b
    · have := h2.mem_iff.mp hx
      rcases List.mem_cons.mp this with rfl | q
      · simp
      · simp [q]
inductive RunI (Bh gi g : Heap) (L l D : Addr) (nm : Str) (t : Tok) (as0 : List Tp) (n0 : Nat) (d : Nat) (h : Heap) : Prop
  | mk {m : Str → Option Value} {xs ys : List Value} {n k : Nat} {as : List Tp} {vs : List Str} (F : Fm g L h m) (N : Nw g L h [(D, LO ys k), (l, LO xs n)]) (m1 : m "heap" = some (.ref l)) (m2 : m "name" = some (.str nm t)) (m3 : m "run" = some (.ref D))
    (r : SeqL (PairR Bh) gi xs as) (hp : IsH as) (hd : d = as.length) (z : as.length + ys.length ≤ n0) (y : All2 StrIs ys vs) (s : srt (O := tpO) as0 = vs.map (pr nm) ++ srt (O := tpO) as) : RunI Bh gi g L l D nm t as0 n0 d h
inductive RunE (Bh gi g : Heap) (L l D : Addr) (nm : Str) (as0 : List Tp) (h : Heap) : Prop
  | mk {m : Str → Option Value} {xs ys : List Value} {n k : Nat} {as : List Tp} {vs : List Str} (F : Fm g L h m) (N : Nw g L h [(D, LO ys k), (l, LO xs n)]) (m3 : m "run" = some (.ref D))
    (r : SeqL (PairR Bh) gi xs as) (hp : IsH as) (y : All2 StrIs ys vs) (s : srt (O := tpO) as0 = vs.map (pr nm) ++ srt (O := tpO) as) (e : ∀ b, as[0]? = some b → b.head? ≠ some (aS nm)) : RunE Bh gi g L l D nm as0 h
theorem law_run_C (B : Base w Bh) {h : Heap} (kb : Kp Bh h) (room : Room A 8) {l : Addr} {xs : List Value} {n : Nat} {as : List Tp} {nm : Str} {t : Tok} (hl : h.get? l = some (LO xs n)) (hbl : Bh.get? l = none) (hz : xs.length < 60) {gi : Heap} (kgi : Kp gi h) (hgl : gi.get? l = none)
    (hr : SeqL (PairR Bh) gi xs as) (hp : IsH as) {P : Value → Heap → Prop}
    (p : ∀ D h' xs' n' as' ys k vs, Only [l] h h' → h'.get? l = some (LO xs' n') → SeqL (PairR Bh) gi xs' as' → IsH as' → h.get? D = none → h'.get? D = some (LO ys k) → All2 StrIs ys vs → srt (O := tpO) as = vs.map (pr nm) ++ srt (O := tpO) as' →
      (∀ b, as'[0]? = some b → b.head? ≠ some (aS nm)) → P (.ref D) h') :
    CEv (model pw w) A (.call (.ref 311) ⟨[.ref l, .str nm t], []⟩) h P := by
  refine CEv.fn B kb (n := 7) room (fa := 311) (c := 310) [("heap", .ref l), ("name", .str nm t)] [(l, LO xs n)] rfl rfl rfl rfl rfl rfl rfl (fun s hs => BindsTo.of_eq (by rfl)) rfl rfl (allc hl alln) ?_
  intro L h₁ R k1 F N
  have hg : Kp Bh (hideAll h [l]) := kp_hide kb (allc hbl alln)
  have kgi' : Kp gi (hideAll h [l]) := kp_hide kgi (allc hgl alln)
  refine ev_cons (ev_assign (ev_list (ev_newList (by simp) fun D h2 o2 d2 g2 => ?_)))
  have F2 := Fm.o F o2
  have N2 := Nw.o N o2
  have dl : D ≠ l := fun e => by rw [e, N.at (.head _)] at d2; cases d2
  have dL : D ≠ L := fun e => by
    obtain ⟨o, _, _, ho, _⟩ := F.ns
    rw [← e] at ho
    rw [ho] at d2; cases d2
  have dg : (hideAll h [l]).get? D = none := by
    cases hc : (hideAll h [l]).get? D with
    | none => rfl
    | some o => rw [F.keep _ _ hc] at d2; cases d2
  refine ev_st F2 (N2.cons g2 dL dg) fun h3 F3 N3 => ?_
  obtain ⟨I, hI⟩ : ∃ I : Nat → Heap → Prop, ∀ d h', I d h' ↔ RunI Bh gi (hideAll h [l]) L l D nm t as xs.length d h' := ⟨_, fun _ _ => Iff.rfl⟩
  obtain ⟨J, hJ⟩ : ∃ J : Heap → Prop, ∀ h', J h' ↔ RunE Bh gi (hideAll h [l]) L l D nm as h' := ⟨_, fun _ => Iff.rfl⟩
  refine ev_cons (Ev.mono (P := fun f h' => f = .next ∧ J h') (ev_while I ?_ as.length ((hI _ _).2 ⟨F3, N3, rfl, rfl, rfl, hr, hp, rfl, hr.len ▸ Nat.le_refl _, .nil, rfl⟩)) ?_)
  · intro d h4 hi
    obtain @⟨m, xs', ys, n', k, as', vs, F4, N4, m1, m2, m3, r4, hp4, rfl, z4, y4, s4⟩ := (hI _ _).1 hi
    have hz4 := r4.len
    have hzz := hr.len
    refine ev_isTrue_and (ev_isTrue_compare (ev_ld F4 m1 (ev_list (ev_newList (by simp) fun E h5 o5 d5 g5 => ?_))))
    have F5 := Fm.o F4 o5
    have N5 := Nw.o N4 o5
    refine ev_ne_nil (R.le (by decide)) (N5.at (.tail _ (.head _))) g5 (ev_truthy_bool ?_)
    cases r4 with
    | nil =>
      exact ev_nil ⟨rfl, (hJ _).2 ⟨F5, N5, m3, .nil, hp4, y4, s4, fun b hb => nomatch hb⟩⟩
    | @cons v a xs' as' rv r4 =>
      have rv' : PairR Bh gi v a := rv
      obtain ⟨kbg, pa, x, tx, y, ty, rfl, ip, rfl⟩ := rv'
      refine ev_isTrue_compare (ev_attr (ev_sub (ev_ld F5 m1 (ev_int fun t1 => ev_tail_list (N5.at (.tail _ (.head _))) (by omega) (by omega) rfl ?_))))
      refine ev_name B (hg.trans' F5.keep) (R.le (by decide)) (ip.up (kgi'.trans' F5.keep)) rfl fun h6 o6 => ?_
      have F6 := Fm.o F5 o6
      have N6 := Nw.o N5 o6
      refine ev_ld F6 m2 (ev_eqs (ev_truthy_bool ?_))
      by_cases e : x = nm
      · subst e
        refine if_p (by simp) ?_
        obtain ⟨is, la, es⟩ : ∃ is la, (pr x y :: as') = is ++ [la] := ⟨_, _, (List.dropLast_concat_getLast (by simp)).symm⟩
        obtain ⟨q1, q2, q3, q4⟩ := pop_srt (es ▸ hp4 : IsH (is ++ [la]))
        have eh : (hpop tpO.blt is la).1 = pr x y := by
          rw [← es] at q3
          simpa using q3.symm
        refine ev_cons (ev_expr (ev_mcall (ev_ld F6 m3 (ev_method_list (N6.at (.head _)) PySem.slot_list_append ?_))))
        refine ev_attr (ev_call (ev_glob B (hg.trans' F6.keep) (.ref 220) rfl (ev_ld F6 m1 ⟨.inK B (hg.trans' F6.keep) rfl, Ev.call ?_⟩)))
        have rr : SeqL (PairR Bh) gi (.ref pa :: xs') (is ++ [la]) := es ▸ SeqL.cons' ⟨kbg, pa, x, tx, y, ty, rfl, ip, rfl⟩ r4
        refine heappop_C (pairI B) B (hg.trans' F6.keep) (R.le (by decide)) (N6.at (.tail _ (.head _))) hbl (by simp at z4 hz4 ⊢; omega) (kgi'.trans' F6.keep) hgl rr fun v7 h7 xs7 n7 o7 g7 r7 rv7 => ?_
        have nl := N6 _ (.tail _ (.head _))
        obtain ⟨F7, N7⟩ := after F6 N6 (news' := [(D, LO ys k), (l, LO xs7 n7)]) o7 (by simpa using ⟨nl.2.2, nl.2.1⟩) (fun q hq => by
          rcases List.mem_cons.mp hq with rfl | hq
          · exact ⟨o7 _ _ (nin1 dl) (N6.at (.head _)), .inr (.head _)⟩
          · rw [List.mem_singleton.mp hq]; exact ⟨g7, .inl nl.2⟩)
        have rv7' : PairR Bh gi v7 (hpop tpO.blt is la).1 := rv7
        rw [eh] at rv7'
        obtain ⟨_, pb, x', tx', y', ty', rfl, ip', e7⟩ := rv7'
        obtain ⟨rfl, rfl⟩ : x' = x ∧ y' = y := by
          have := List.cons.inj e7
          exact ⟨(aS_inj this.1).symm, (aS_inj (List.cons.inj this.2).1).symm⟩
        refine ev_value B (hg.trans' F7.keep) (R.le (by decide)) (ip'.up (kgi'.trans' F7.keep)) rfl fun h8 o8 => ?_
        have F8 := Fm.o F7 o8
        have N8 := Nw.o N7 o8
        refine ⟨.builtin, ev_append (N8.at (.head _)) (by simp at z4; omega) fun h9 o9 g9 => ev_nil ⟨(hpop tpO.blt is la).2.length, ?_, ?_⟩⟩
        · have := congrArg List.length es
          simp at this
          simp [q4]; omega
        · have F9 := Fm.o1 F8 N8 o9
          have N9 := Nw.o1 N8 o9 g9 (allc dl.symm alln)
          have hl7 := congrArg List.length es
          simp at hl7
          refine (hI _ _).2 (RunI.mk (as := (hpop tpO.blt is la).2) F9 N9 m1 m2 m3 r7 q1 rfl ?_ (All2.snoc y4 ⟨ty', rfl⟩) ?_)
          · rw [q4]; simp at z4 ⊢; omega
          · rw [s4, es, q2, eh]; simp
      · refine if_n (by simpa using e) ?_
        refine ev_nil ⟨rfl, (hJ _).2 ⟨F6, N6, m3, SeqL.cons' ⟨kbg, pa, x, tx, y, ty, rfl, ip, rfl⟩ r4, hp4, y4, s4, fun b hb q => ?_⟩⟩
        rw [← Option.some.inj hb] at q
        exact e (aS_inj (Option.some.inj q))
  · rintro f h4 ⟨rfl, hj⟩
    obtain @⟨m, xs', ys, n', k, as', vs, F4, N4, m3, r4, hp4, y4, s4, hd⟩ := (hJ _).1 hj
    refine ev_cons (ev_return (ev_ld F4 m3 ?_))
    refine p D h4 xs' n' as' ys k vs F4.only (N4.at (.tail _ (.head _))) r4 hp4 ?_ (N4.at (.head _)) y4 s4 hd
    cases hc : h.get? D with
    | none => rfl
    | some o => rw [k1 _ _ hc] at d2; cases d2
end Mine
open PySem PySem.W PyProof.Rows PySem.Calls
set_option maxRecDepth 100000
set_option maxHeartbeats 4000000
set_option linter.unusedVariables false
namespace Mine
variable {w : World} {A : Around} {Bh : Heap}
/-! ## items of lists and texts, whatever the base -/
theorem ev_tail {prog : Program} {value slice : Expr} {o i : Value} {T id : String} {ops : List Value} {h : Heap} {P : Value → Heap → Prop} (hT : ∀ s : Shared, s.heap = h → s.TypeIs o T) (hl : typeLookup (.type T) "__getitem__" = pure (some (.builtin id)))
    (x : Ev (model prog w) A (getItem o i) h P) (hs : subscripted slice false o i = operate ops (getItem o i)) : Ev (model prog w) A (subscriptTail value slice o i) h P := by
  intro E Q s hs' hQ
  subst hs'
  have T0 := hT s rfl
  unfold subscriptTail
  refine wpAny_bind ?_
  rw [getitemInPython_of_ne T0.not_modules]
  refine wpAny_bind (wpAny_specialOf T0 hl ?_)
  have fin : wpAny (model prog w) A (subscripted slice false o i) (fun r s₃ => wpAny (model prog w) A (letTemporaryGo value o r >>= fun _ => pure r) Q E s₃) E s := by
    rw [hs]
    exact wpAny_operating (x _ _ s rfl fun r h2 tk2 p => wpAny_bind (wpAny_letTemporaryGo (wpAny_pure (hQ r h2 tk2 p))))
  first
    | exact wpAny_pure (wpAny_bind fin)
    | exact wpAny_bind (wpAny_pure (wpAny_bind fin))
    | exact wpAny_bind fin
theorem ev_item_list {prog : Program} {value slice : Expr} {l : Addr} {xs : List Value} {n : Nat} {k : Int} {u : Tok} {x : Value} {h : Heap} {P : Value → Heap → Prop} (hl : h.get? l = some (LO xs n)) (h0 : 0 ≤ k) (hfit : k < 2 ^ 63) (hx : xs[k.toNat]? = some x) (p : P x h)
    (hs : subscripted slice false (.ref l) (.int k u) = operate [.ref l, .int k u] (getItem (.ref l) (.int k u)) := by with_unfolding_all rfl) : Ev (model prog w) A (subscriptTail value slice (.ref l) (.int k u)) h P := by
  refine ev_tail (T := "list") (fun s hs => by subst hs; exact ⟨_, hl, rfl⟩) slot_list_getitem.lookup ?_ hs
  intro E Q s hs' hQ
  subst hs'
  exact wpAny_getItem_list (PySem.IsL.isList (n := n) hl) h0 hfit (by simpa using hx) (hQ _ _ s.toks p)
theorem str_app_len (x y : Str) : (x ++ y).length = x.length + y.length := by
  show (x.cps ++ y.cps).size = _
  simp; rfl
theorem ev_adds {prog : Program} {x y : Str} {t u : Tok} {h : Heap} {P : Value → Heap → Prop} (hz : x.length + y.length < 1000) (p : ∀ t', P (.str (x ++ y) t') h) : Ev (model prog w) A (binaryOp .Add (.str x t) (.str y u)) h P := by
  intro E Q s hs hQ
  subst hs
  exact PyProof.Rows.add_str fun t' tk => hQ _ _ tk (p t')
theorem add_le {x y : Str} {a b : Nat} (hx : x.length ≤ a) (hy : y.length ≤ b) : (x ++ y).length ≤ a + b := str_app_len x y ▸ Nat.add_le_add hx hy
theorem ev_adds2 {prog : Program} {x y : Str} {t u : Tok} {a b : Nat} {h : Heap} {P : Value → Heap → Prop} (hx : x.length ≤ a) (hy : y.length ≤ b) (p : ∀ t', P (.str (x ++ y) t') h) (hz : a + b < 1000 := by decide) : Ev (model prog w) A (binaryOp .Add (.str x t) (.str y u)) h P :=
  ev_adds (Nat.lt_of_le_of_lt (Nat.add_le_add hx hy) hz) p
/-! ## `_law_line` -/
noncomputable def names5 : List Str := ["a", "b", "ab", "", "B"]
noncomputable def vals5 : List Str := ["1", "10", "", "a=1", "9 9"]
noncomputable def lines4 (n v : Str) : List Str := [n ++ "=" ++ v, " " ++ n ++ " = " ++ v ++ "\t", "\n" ++ n ++ "\t=" ++ v ++ "  ", n ++ " " ++ v]
noncomputable def lineOf (i j k : Nat) : Str := (lines4 (names5.getD i "") (vals5.getD j "")).getD k ""
noncomputable def lineAt (x : Int) : Str := lineOf (x.fmod 5).toNat ((x.fdiv 5).fmod 5).toNat ((x.fdiv 25).fmod 4).toNat
theorem fmod_lt (x n : Int) (hn : 0 < n) : 0 ≤ x.fmod n ∧ x.fmod n < n := ⟨Int.fmod_nonneg_of_pos x hn, Int.fmod_lt_of_pos x hn⟩
theorem len_names : ∀ i, i < 5 → (names5.getD i "").length ≤ 2 := by decide
theorem len_vals : ∀ i, i < 5 → (vals5.getD i "").length ≤ 3 := by decide
theorem law_line_C (B : Base w Bh) {h : Heap} (kb : Kp Bh h) (room : Room A 2) {x : Int} {t : Tok} {P : Value → Heap → Prop} (p : ∀ h' t', Only [] h h' → P (.str (lineAt x) t') h') :
    CEv (model pw w) A (.call (.ref 282) ⟨[.int x t], []⟩) h P := by
  refine CEv.fn B kb (n := 1) room (fa := 282) (c := 281) [("x", .int x t)] [] rfl rfl rfl rfl rfl rfl rfl (fun s hs => BindsTo.of_eq (by rfl)) rfl rfl (fun _ q => nomatch q) ?_
  intro L h₁ R k1 F N
  obtain ⟨i2, i3⟩ := fmod_lt x 5 (by decide)
  obtain ⟨j2, j3⟩ := fmod_lt (x.fdiv 5) 5 (by decide)
  obtain ⟨l2, l3⟩ := fmod_lt (x.fdiv 25) 4 (by decide)
  have i1 : (x.fmod 5).toNat < 5 := by omega
  have j1 : ((x.fdiv 5).fmod 5).toNat < 5 := by omega
  have l1 : ((x.fdiv 25).fmod 4).toNat < 4 := by omega
  have hn := len_names _ i1
  have hv := len_vals _ j1
  have pick : ∀ (ss : List Str) (ts : List Value) (k : Nat), All2 StrIs ts ss → k < ss.length → ∃ tt, ts[k]? = some (.str (ss.getD k "") tt) := by
    intro ss ts k a
    induction a generalizing k with
    | nil => intro hk; simp at hk
    | @cons v s vs ss r _ ih =>
      intro hk
      obtain ⟨tt, rfl⟩ := r
      cases k with
      | zero => exact ⟨tt, rfl⟩
      | succ k => simpa using ih k (by simpa using hk)
  refine ev_cons (ev_assign (ev_sub (ev_list (ev_str fun t1 => ev_str fun t2 => ev_str fun t3 => ev_str fun t4 => ev_str fun t5 => ev_newList (by simp) fun D h2 o2 d2 g2 => ?_))))
  have F2 := Fm.o F o2
  have N2 := Nw.o N o2
  obtain ⟨tn, en⟩ := pick names5 [.str "a" t1, .str "b" t2, .str "ab" t3, .str "" t4, .str "B" t5] _ (.cons ⟨_, rfl⟩ (.cons ⟨_, rfl⟩ (.cons ⟨_, rfl⟩ (.cons ⟨_, rfl⟩ (.cons ⟨_, rfl⟩ .nil))))) i1
  refine ev_binop (ev_ld F2 rfl (ev_int fun _ => ev_modi (by decide) fun _ => ev_item_list g2 i2 (by omega) en (ev_st F2 N2 fun h3 F3 N3 => ?_)))
  refine ev_cons (ev_assign (ev_sub (ev_list (ev_str fun t1 => ev_str fun t2 => ev_str fun t3 => ev_str fun t4 => ev_str fun t5 => ev_newList (by simp) fun D' h4 o4 d4 g4 => ?_))))
  have F4 := Fm.o F3 o4
  have N4 := Nw.o N3 o4
  obtain ⟨tv, ev⟩ := pick vals5 [.str "1" t1, .str "10" t2, .str "" t3, .str "a=1" t4, .str "9 9" t5] _ (.cons ⟨_, rfl⟩ (.cons ⟨_, rfl⟩ (.cons ⟨_, rfl⟩ (.cons ⟨_, rfl⟩ (.cons ⟨_, rfl⟩ .nil))))) j1
  refine ev_binop (ev_binop (ev_ld F4 (v := .int x t) rfl (ev_int fun _ => ev_fdivi (by decide) (by rfl) fun _ => ev_int fun _ => ev_modi (by decide) fun _ => ev_item_list g4 j2 (by omega) ev (ev_st F4 N4 fun h5 F5 N5 => ?_))))
  generalize hnm : names5.getD (x.fmod 5).toNat "" = nm at *
  generalize hvl : vals5.getD ((x.fdiv 5).fmod 5).toNat "" = vl at *
  have qe : (Str.ofString "=").length ≤ 1 := by decide
  have qs : (Str.ofString " ").length ≤ 1 := by decide
  have q3 : (Str.ofString " = ").length ≤ 3 := by decide
  have qt : (Str.ofString "\t").length ≤ 1 := by decide
  have qn : (Str.ofString "\n").length ≤ 1 := by decide
  have q2 : (Str.ofString "\t=").length ≤ 2 := by decide
  have qq : (Str.ofString "  ").length ≤ 2 := by decide
  refine ev_cons (ev_assign (ev_list ?_))
  refine ev_binop (ev_binop (ev_ld F5 (v := .str nm tn) rfl (ev_str fun _ => ev_adds2 hn qe fun _ => ev_ld F5 (v := .str vl tv) rfl (ev_adds2 (add_le hn qe) hv fun a1 => ?_))))
  refine ev_binop (ev_binop (ev_binop (ev_binop (ev_str fun _ => ev_ld F5 (v := .str nm tn) rfl (ev_adds2 qs hn fun _ => ev_str fun _ => ev_adds2 (add_le qs hn) q3 fun _ => ev_ld F5 (v := .str vl tv) rfl (ev_adds2 (add_le (add_le qs hn) q3) hv fun _ => ev_str fun _ => ev_adds2 (add_le (add_le (add_le qs hn) q3) hv) qt fun a2 => ?_))))))
  refine ev_binop (ev_binop (ev_binop (ev_binop (ev_str fun _ => ev_ld F5 (v := .str nm tn) rfl (ev_adds2 qn hn fun _ => ev_str fun _ => ev_adds2 (add_le qn hn) q2 fun _ => ev_ld F5 (v := .str vl tv) rfl (ev_adds2 (add_le (add_le qn hn) q2) hv fun _ => ev_str fun _ => ev_adds2 (add_le (add_le (add_le qn hn) q2) hv) qq fun a3 => ?_))))))
  refine ev_binop (ev_binop (ev_ld F5 (v := .str nm tn) rfl (ev_str fun _ => ev_adds2 hn qs fun _ => ev_ld F5 (v := .str vl tv) rfl (ev_adds2 (add_le hn qs) hv fun a4 => ?_))))
  refine ev_newList (by simp) fun D6 h6 o6 d6 g6 => ?_
  have F6 := Fm.o F5 o6
  have N6 := Nw.o N5 o6
  have D6L : D6 ≠ L := fun e => by
    obtain ⟨o, _, _, ho, _⟩ := F5.ns
    rw [← e] at ho
    rw [ho] at d6; cases d6
  have dg : (hideAll h ([] : List Addr)).get? D6 = none := by
    cases hc : (hideAll h ([] : List Addr)).get? D6 with
    | none => rfl
    | some o => rw [F5.keep _ _ hc] at d6; cases d6
  refine ev_st F6 (N6.cons g6 D6L dg) fun h7 F7 N7 => ?_
  obtain ⟨tk, ek⟩ := pick (lines4 nm vl) [.str _ a1, .str _ a2, .str _ a3, .str _ a4] _ (.cons ⟨_, rfl⟩ (.cons ⟨_, rfl⟩ (.cons ⟨_, rfl⟩ (.cons ⟨_, rfl⟩ .nil)))) l1
  refine ev_cons (ev_return (ev_sub (ev_ld F7 rfl (ev_binop (ev_binop (ev_ld F7 (v := .int x t) rfl (ev_int fun _ => ev_fdivi (by decide) (by rfl) fun _ => ev_int fun _ => ev_modi (by decide) fun _ => ev_item_list (N7.at (.head _)) l2 (by omega) ek ?_)))))))
  have e : lineAt x = (lines4 nm vl).getD ((x.fdiv 25).fmod 4).toNat "" := by unfold lineAt lineOf; rw [hnm, hvl]
  show P (.str ((lines4 nm vl).getD ((x.fdiv 25).fmod 4).toNat "") tk) h7
  rw [← e]
  exact p h7 tk (Only.of_kp (fun b o q => F7.keep b o q))
end Mine
open PySem PySem.W PyProof.Rows PySem.Calls
set_option maxRecDepth 100000
set_option maxHeartbeats 4000000
set_option linter.unusedVariables false
namespace Mine
variable {w : World} {A : Around}
/-! ## a comprehension of one clause, over an iterator -/
noncomputable def CompStep (w : World) (A : Around) (cenv : Env) (target elt : Expr) (ifs : List Expr) (I D : Addr) (V : Nat → Value → Prop) (c : String) (n : Nat) (g0 : Heap) (S : Nat → List Value → Heap → Prop) : Prop :=
  ∀ i v ys k g h m o, i < n → V i v → ys.length ≤ i → S i ys g → Kp g0 g → Fm g cenv.locals h m → Nw g cenv.locals h [(I, o), (D, LO ys k)] → o.cls = .type c →
    Ev (model pw w) A (letOwnedTupleGo target (.ref I) v) h fun _ h1 => Ev (model pw w) A (assign target cenv v) h1 fun _ h2 => Ev (model pw w) A (compTests' ifs cenv) h2 fun ok h3 =>
      if ok then Ev (model pw w) A (eval elt cenv) h3 fun y h4 => ∃ g' m', Kp g g' ∧ Fm g' cenv.locals h4 m' ∧ Nw g' cenv.locals h4 [(I, o), (D, LO ys k)] ∧ S (i + 1) (ys ++ [y]) g'
      else ∃ g' m', Kp g g' ∧ Fm g' cenv.locals h3 m' ∧ Nw g' cenv.locals h3 [(I, o), (D, LO ys k)] ∧ S (i + 1) ys g'
theorem fev_comp1 {elt target iter : Expr} {ifs : List Expr} {scope : Scope} {pos : Pos} {cenv : Env} {I D : Addr} {gi g0 h : Heap} {n : Nat} {V : Nat → Value → Prop} {St : Nat → Obj → Prop} {c : String} (T : Itr w A I gi n V St c) (hn : n < 64) (kg : Kp gi g0) {S : Nat → List Value → Heap → Prop} (s0 : S 0 [] g0)
    {m : Str → Option Value} {o : Obj} (F : Fm g0 cenv.locals h m) (N : Nw g0 cenv.locals h [(I, o), (D, LO [] 0)]) (hID : I ≠ D) (st : St 0 o) (step : CompStep w A cenv target elt ifs I D V c n g0 S) {P : Heap → Prop}
    (fin : ∀ h' ys k g m, Kp g0 g → Fm g cenv.locals h' m → Nw g cenv.locals h' [(D, LO ys k)] → g.get? I = none → S n ys g → ys.length ≤ n → P h') : FEv w A (.compStart (.ListComp elt [⟨target, iter, ifs, 0⟩] scope pos) 0 (.ref I) (.ref D) cenv) h P := by
  refine fev_start (target := target) (iter := iter) (ifs := ifs) rfl (fun q => T.self (N.at (.head _)) st q) ?_
  refine fev_loop (target := target) (iter := iter) (ifs := ifs) (emit := (do let _ ← call (.builtin "list.append") [.ref D, ← eval elt cenv])) (by rfl)
    (fun d h => ∃ i ys k g m o, i ≤ n ∧ d = n - i ∧ Kp g0 g ∧ Fm g cenv.locals h m ∧ Nw g cenv.locals h [(I, o), (D, LO ys k)] ∧ St i o ∧ S i ys g ∧ ys.length ≤ i) (fun d h1 => ?_) n ⟨0, [], 0, g0, m, o, Nat.zero_le _, by omega, fun _ _ e => e, F, N, st, s0, Nat.le_refl _⟩
  rintro ⟨i, ys, k, g, m1, o1, hi, rfl, kg1, F1, N1, st1, s1, z1⟩
  by_cases hlt : i < n
  · refine T.item hlt ((kg.trans' kg1).trans' F1.keep) (N1.at (.head _)) st1 fun v h2 o2 hv ho hI st2 => ?_
    have F2 := Fm.o1 F1 N1 ho
    have N2 := Nw.o1 N1 ho hI (allc hID.symm alln)
    refine (step i v ys k g h2 m1 o2 hlt hv z1 s1 kg1 F2 N2 (T.cls st2)).mono fun _ h3 x => x.mono fun _ h4 x => x.mono fun ok h5 x => ?_
    cases ok with
    | false =>
      simp only [Bool.false_eq_true, if_false] at x ⊢
      obtain ⟨g', m', kg', F', N', s'⟩ := x
      exact ⟨n - (i + 1), by omega, i + 1, ys, k, g', m', o2, by omega, rfl, kg1.trans' kg', F', N', st2, s', by omega⟩
    | true =>
      simp only [if_true] at x ⊢
      refine ev_emit (ys := ys) (n := k) (by omega) (x.mono fun y h6 z => ?_)
      obtain ⟨g', m', kg', F', N', s'⟩ := z
      refine ⟨N'.at (.tail _ (.head _)), fun h7 o7 g7 => ⟨n - (i + 1), by omega, i + 1, ys ++ [y], k + 1, g', m', o2, by omega, rfl, kg1.trans' kg', ?_, ?_, st2, s', by simp; omega⟩⟩
      · have nd := N' _ (.tail _ (.head _))
        exact (after F' N' (news' := []) o7 (by simpa using ⟨nd.2.2, nd.2.1⟩) (fun _ q => nomatch q)).1
      · have nd := N' _ (.tail _ (.head _))
        exact (after F' N' (news' := [(I, o2), (D, LO (ys ++ [y]) (k + 1))]) o7 (by simpa using ⟨nd.2.2, nd.2.1⟩) (fun q hq => by
          rcases List.mem_cons.mp hq with rfl | hq
          · exact ⟨o7 _ _ (nin1 hID) (N'.at (.head _)), .inr (.head _)⟩
          · rw [List.mem_singleton.mp hq]; exact ⟨g7, .inl nd.2⟩)).2
  · have : i = n := by omega
    subst this
    refine T.done ((kg.trans' kg1).trans' F1.keep) (N1.at (.head _)) st1 fun h2 ho => ?_
    have ni := N1 _ (.head _)
    obtain ⟨F2, N2⟩ := after F1 N1 (news' := [(D, LO ys k)]) ho (by simpa using ⟨ni.2.2, ni.2.1⟩) (fun q hq => by
      rw [List.mem_singleton.mp hq]; exact ⟨ho _ _ (nin1 hID.symm) (N1.at (.tail _ (.head _))), .inr (.tail _ (.head _))⟩)
    exact fin h2 ys k g m1 kg1 F2 N2 ni.2.2 s1 z1
/-- the start of a comprehension: its frame, its list, its iterator -/
theorem comp_open {h2 h3 : Heap} {I C D : Addr} {o : Obj} (hI : h2.get? I = some o) (o3 : Only [] h2 h3) (d1 : h2.get? D = none) (d2 : h3.get? D = some (LO [] 0)) (c1 : h2.get? C = none) (dc : D ≠ C) (ns : h3.Ns C (fun _ => none)) :
    Fm (hideAll h2 [I]) C h3 (fun _ => none) ∧ Nw (hideAll h2 [I]) C h3 [(I, o), (D, LO [] 0)] ∧ I ≠ D := by
  have hID : I ≠ D := fun e => by rw [e, d1] at hI; cases hI
  have hIC : I ≠ C := fun e => by rw [e, c1] at hI; cases hI
  have no : ∀ {a : Addr}, h2.get? a = none → (hideAll h2 [I]).get? a = none := fun {a} q => by
    cases hc : (hideAll h2 [I]).get? a with
    | none => rfl
    | some o => rw [of_hideAll _ hc] at q; cases q
  refine ⟨⟨ns, fun b ob e => o3 _ _ nin0 (of_hideAll _ e), no c1⟩, fun p hp => ?_, hID⟩
  rcases List.mem_cons.mp hp with rfl | hp
  · exact ⟨o3 _ _ nin0 hI, hIC, hideAll_none _ (.head _)⟩
  · rw [List.mem_singleton.mp hp]; exact ⟨d2, dc, no d1⟩
inductive CompIn (w : World) (A : Around) (env : Env) (scope : Scope) (cl : List (Str × Addr)) (target elt : Expr) (ifs : List Expr) (h2 : Heap) (Pe : Addr → Addr → Nat → (Nat → List Value → Heap → Prop) → Prop) : Value → Prop
  | mk {I : Addr} {o : Obj} {n : Nat} {V : Nat → Value → Prop} {St : Nat → Obj → Prop} {c : String} {gi : Heap} {S : Nat → List Value → Heap → Prop} (at_ : h2.get? I = some o) (st : St 0 o) (T : Itr w A I gi n V St c) (hn : n < 64)
    (kg : Kp gi (hideAll h2 [I])) (s0 : S 0 [] (hideAll h2 [I])) (step : ∀ D C, D ≠ C → h2.get? C = none → CompStep w A (cenvc scope cl C env) target elt ifs I D V c n (hideAll h2 [I]) S) (done : ∀ D, Pe D I n S) : CompIn w A env scope cl target elt ifs h2 Pe (.ref I)
theorem ev_assign_comp1 {elt target iter : Expr} {ifs : List Expr} {scope : Scope} {pos spos py : Pos} {yn : Str} {env : Env} {cl : List (Str × Addr)} {h : Heap} {P : Flow → Heap → Prop} {gE : Heap} {mE : Str → Option Value} {led : List (Addr × Obj)} (FE0 : Fm gE env.locals h mE) (NE0 : Nw gE env.locals h led)
    (x : Ev (model pw w) A (eval iter env) h fun xv h1 => Ev (model pw w) A (pyIter xv) h1 fun it h2 => Only [] h h2 ∧ (CompIn w A env scope cl target elt ifs h2 (fun D I n S => h.get? I = none ∧
      ∀ h5 ys k g, h2.get? D = none → S n ys g → Kp (hideAll h2 [I]) g → ys.length ≤ n → (∀ b ob, b ≠ env.locals → g.get? b = some ob → h5.get? b = some ob) → Fm gE env.locals h5 (upd yn (.ref D) mE) → Nw gE env.locals h5 ((D, LO ys k) :: led) → P .next h5) it))
    (hsw : swapsWith (.ListComp elt [⟨target, iter, ifs, 0⟩] scope pos) (some (.Name yn py)) spos.line env = pure true := by rfl)
    (hk : env.scope.kind = .function := by rfl) (hl : env.kindOf yn = some .local := by rfl)
    (hclos : closureFor scope env = pure cl := by rfl) (hkind : scope.kind = .function := by rfl) (hnames : localsOk scope.names scope.names = true := by rfl) (hs : ∀ x, foldedSetIterable iter env x = pure x := by intro _; rfl) :
    Ev (model pw w) A (exec (.Assign [.Name yn py] (.ListComp elt [⟨target, iter, ifs, 0⟩] scope pos) spos) env) h P := by
  refine ev_assign_comp (x.mono fun xv h1 y => y.mono fun it h2 z => ?_) hsw hclos hkind hnames hs
  obtain ⟨oE, @⟨I, o, n, V, St, c, gi, S, at_, st, T, hn, kgi, s0, step, done⟩⟩ := z
  have FE := Fm.o FE0 oE
  have NE := Nw.o NE0 oE
  intro D C h3 o3 d1 d2 c1 dc ns nc nd
  obtain ⟨F, N, hID⟩ := comp_open at_ o3 d1 d2 c1 dc ns
  refine fev_comp1 T hn kgi s0 F N hID st (step D C dc c1) fun h4 ys k g m kg F4 N4 gI s4 zl => ?_
  obtain ⟨hIn, fin⟩ := done D
  have i1 : gE.get? I = none := by
    cases hc : gE.get? I with
    | none => rfl
    | some o => rw [FE0.keep _ _ hc] at hIn; cases hIn
  have i2 : I ≠ env.locals := fun e => by
    obtain ⟨o, _, _, ho, _⟩ := FE0.ns
    rw [← e, hIn] at ho; cases ho
  have i3 : ∀ p ∈ led, p.1 ≠ I := fun p hp e => by
    have := (NE0 p hp).1
    rw [e, hIn] at this; cases this
  have oI : Only [I] h2 h4 := fun b ob hb e => F4.keep _ _ (kg _ _ (hideAll_get _ e hb))
  have dL : D ≠ env.locals := fun e => by
    obtain ⟨o, _, _, ho, _⟩ := FE.ns
    rw [← e, d1] at ho; cases ho
  have cL : C ≠ env.locals := fun e => by
    obtain ⟨o, _, _, ho, _⟩ := FE.ns
    rw [← e, c1] at ho; cases ho
  have dg : gE.get? D = none := by
    cases hc : gE.get? D with
    | none => rfl
    | some o => rw [FE.keep _ _ hc] at d1; cases d1
  obtain ⟨FE4, NE4⟩ := after FE NE (news' := (D, LO ys k) :: led) oI (by simpa using ⟨i1, i2⟩) (fun p hp => by
    rcases List.mem_cons.mp hp with rfl | hp
    · exact ⟨N4.at (.head _), .inl ⟨dL, dg⟩⟩
    · exact ⟨oI _ _ (nin1 (i3 p hp)) (NE p hp).1, .inr hp⟩)
  intro E Q s hs' hQ
  subst hs'
  refine wpAny_storeName_local hl FE4.ns (fun h5 hn5 hs5 => hQ _ _ (s.toks + 1) ?_) (by rw [hk]; rfl)
  refine ⟨m, ?_, fun h6 o6 => ?_⟩
  · exact F4.ns.sameBut hs5 cL
  · have cg : ∀ b, gE.get? b ≠ none → b ≠ C := fun b hb q => by
      rw [q] at hb
      cases hc : gE.get? C with
      | none => exact hb hc
      | some o => rw [FE.keep _ _ hc] at c1; cases c1
    have F5 := FE4.set hn5 hs5
    have N5 := NE4.set hs5
    refine fin h6 ys k g d1 s4 kg zl (fun b ob hb e => ?_) ⟨?_, fun b ob e => ?_, F5.off⟩ fun p hp => ?_
    · have hbC : b ≠ C := fun q => by rw [q, show g.get? C = none from F4.off] at e; cases e
      exact o6 _ _ (nin1 hbC) ((hs5.2 _ hb).trans (F4.keep _ _ e))
    · obtain ⟨oL, a1, a2, a3, a4⟩ := F5.ns
      exact ⟨oL, a1, a2, o6 _ _ (nin1 cL.symm) a3, a4⟩
    · exact o6 _ _ (by simpa using cg b (by rw [e]; simp)) (F5.keep _ _ e)
    · have q := N5 p hp
      refine ⟨o6 _ _ ?_ q.1, q.2⟩
      rw [List.mem_singleton]
      intro e
      rcases List.mem_cons.mp hp with rfl | hp
      · exact dc e
      · have := (NE p hp).1
        rw [e, c1] at this; cases this
end Mine
open PySem PySem.W PyProof.Rows PySem.Calls
set_option maxRecDepth 100000
set_option maxHeartbeats 4000000
set_option linter.unusedVariables false
namespace Mine
variable {w : World} {A : Around} {Bh : Heap}
theorem ev_len_str {x : Str} {t : Tok} {h : Heap} {P : Value → Heap → Prop} (hz : x.length < 10000) (p : ∀ t, P (.int x.length t) h) : Ev (model pw w) A (call (.builtin "len") [.str x t]) h P := by
  intro E Q s hs hQ
  subst hs
  exact PySem.P.len_str (by omega) (hQ _ _ _ (p _))
theorem ev_item_str {value slice : Expr} {x : Str} {t u : Tok} {i : Nat} {h : Heap} {P : Value → Heap → Prop} (hi : i < x.length) (hz : x.length < 10000) (p : ∀ t', P (.str (Txt.item x i) t') h)
    (hs : subscripted slice false (.str x t) (.int i u) = operate [.str x t, .int i u] (getItem (.str x t) (.int i u)) := by with_unfolding_all rfl) (ht : ∀ r, letTemporaryGo value (.str x t) r = pure () := by intro _; with_unfolding_all rfl) :
    Ev (model pw w) A (subscriptTail value slice (.str x t) (.int i u)) h P := by
  intro E Q s hs' hQ
  subst hs'
  refine PyProof.Rows.item_str ?_ (by omega) (by omega) (fun _ => hQ _ _ _ (p _)) hs ht
  unfold fitsSsize
  simp
  omega
theorem ev_notin {x y : Str} {t u : Tok} {h : Heap} {P : Value → Heap → Prop} (p : P (.bool (!(Txt.contains x y))) h) : Ev (model pw w) A (compareOp .NotIn (.str y u) (.str x t)) h P := by
  intro E Q s hs hQ
  subst hs
  exact PySem.P.notIn_str (hQ _ _ s.toks p)
noncomputable abbrev sliceV : Option (Int × Tok) → Value
  | none => .none
  | some p => .int p.1 p.2
noncomputable abbrev sliceO (l u : Option (Int × Tok)) : Obj := { cls := .type "slice", data := .fields #[sliceV l, sliceV u, .none] }
theorem ev_slice {lo hi : Option Expr} {p : Pos} {env : Env} {h : Heap} {P : Value → Heap → Prop}
    (y : Ev (model pw w) A (evalPart lo env) h fun lv h1 => Ev (model pw w) A (evalPart hi env) h1 fun uv h2 => ∃ l u, lv = sliceV l ∧ uv = sliceV u ∧ ∀ a h3, Only [] h2 h3 → h3.get? a = some (sliceO l u) → P (.ref a) h3) : Ev (model pw w) A (eval (.Slice lo hi none p) env) h P := by
  intro E Q s hs hQ
  refine wpAny_Slice (y _ _ s hs fun lv h1 tk1 z => z _ _ _ rfl fun uv h2 tk2 z => ?_)
  obtain ⟨l, u, rfl, rfl, z⟩ := z
  rw [evalPart_none]
  exact wpAny_pure (hQ _ _ _ (z _ _ only_push (Heap.get?_push_size _ rfl)))
theorem ev_tail_slice {value slice : Expr} {x : Str} {t : Tok} {a : Addr} (l u : Option (Int × Tok)) {h : Heap} {P : Value → Heap → Prop} (ha : h.get? a = some (sliceO l u)) (hz : x.length < 1000) (p : ∀ t', P (.str (Txt.slice x (l.map (·.1)) (u.map (·.1))) t') h)
    (hs : subscripted slice false (.str x t) (.ref a) = operate [.ref a, .str x t] (getItem (.str x t) (.ref a)) := by with_unfolding_all rfl) : Ev (model pw w) A (subscriptTail value slice (.str x t) (.ref a)) h P := by
  refine ev_tail (T := "str") (fun s _ => PySem.typeIs_str _ _ _) PySem.F.slot_str_getitem.lookup ?_ hs
  intro E Q s hs' hQ
  subst hs'
  refine PySem.wpAny_getItem_str_slice (l := l) (u := u) (st := none) ⟨_, ha, rfl, ?_⟩ rfl (PySem.post_val_or_str ⟨Nat.le_trans (Txt.slice_le x _ _) (Nat.le_trans (Nat.le_of_lt hz) (by decide)), fun t' k => hQ _ _ k (p t')⟩)
  cases l <;> cases u <;> rfl
theorem ev_negi {prog : Program} {a : Int} {t : Tok} {h : Heap} {P : Value → Heap → Prop} (p : ∀ t, P (.int (-a) t) h) : Ev (model prog w) A (unaryOp .USub (.int a t)) h P := by
  intro E Q s hs hQ; subst hs; exact PySem.P.neg_int (hQ _ _ (s.toks + 1) (p _))
theorem ev_item_last {prog : Program} {value slice : Expr} {l : Addr} {xs : List Value} {n : Nat} {u : Tok} {x : Value} {h : Heap} {P : Value → Heap → Prop} (hl : h.get? l = some (LO (xs ++ [x]) n)) (hz : xs.length < 1000) (p : P x h)
    (hs : subscripted slice false (.ref l) (.int (-1) u) = operate [.ref l, .int (-1) u] (getItem (.ref l) (.int (-1) u)) := by with_unfolding_all rfl) : Ev (model prog w) A (subscriptTail value slice (.ref l) (.int (-1) u)) h P := by
  refine ev_tail (T := "list") (fun s hs => by subst hs; exact ⟨_, hl, rfl⟩) slot_list_getitem.lookup ?_ hs
  intro E Q s hs' hQ
  subst hs'
  have hT : s.TypeIs (.ref l) "list" := ⟨_, hl, rfl⟩
  unfold getItem
  try with_reducible refine wpAny_holding ?_
  first | refine wpAny_bind (wpAny_pure ?_) | skip
  refine wpAny_bind (wpAny_sequenceKey hT (by decide) ?_)
  refine wpAny_bind (wpAny_callSpecial?_slot (name := Str.ofString "__getitem__") hT slot_list_getitem
    (wpAny_call_entry slot_list_getitem hT entry_list_getitem ?_ (args_list_getitem _ _)))
  show wpAny _ _ (Builtin.List.listSubscript? (.int (-1) u) >>= _) _ _ s
  refine wpAny_bind (PySem.wpAny_listSubscript_int (by decide) ?_)
  show wpAny _ _ ((Builtin.List.listItems (.ref l) >>= fun zs => pure ((seqIndex? (-1) zs.size).bind fun j => zs[j]?.map (j, ·))) >>= _) _ _ s
  refine wpAny_bind (wpAny_bind (listItems_at hl rfl (wpAny_pure ?_)))
  have e1 : seqIndex? (-1) (xs ++ [x]).toArray.size = some xs.length := by
    unfold seqIndex?
    simp
    omega
  have e2 : (xs ++ [x]).toArray[xs.length]? = some x := by simp
  rw [e1]
  simp only [Option.bind_some, e2, Option.map_some]
  first
    | exact wpAny_bind (wpAny_pure (wpAny_pure ⟨x, rfl, wpAny_pure (hQ _ _ s.toks p)⟩))
    | exact wpAny_pure ⟨x, rfl, wpAny_pure (hQ _ _ s.toks p)⟩
/-! ## `_law_bare` -/
noncomputable def IntIs (v : Value) (n : Nat) : Prop := ∃ t, v = .int n t
noncomputable def placesB (x : Str) (n : Nat) : List Nat := (List.range n).filter fun i => !(Txt.contains " \t\n" (Txt.item x i))
noncomputable def bareS (x : Str) : Str := match ((placesB x x.length)[0]? : Option Nat), (placesB x x.length).getLast? with
  | some a, some b => Txt.slice x (some (a : Int)) (some ((b + 1 : Nat) : Int))
  | _, _ => ""
theorem ev_unary {op : UnaryOp} {x : Expr} {pos : Pos} {env : Env} {h : Heap} {P : Value → Heap → Prop} (y : Ev (model pw w) A (eval x env) h fun v h1 => Ev (model pw w) A (unaryOp op v) h1 P)
    (he : eval (.UnaryOp op x pos) env = (do let v ← eval x env; standAt pos; holding [v] (unaryOp op v)) := by rfl) : Ev (model pw w) A (eval (.UnaryOp op x pos) env) h P := by
  rw [he]
  exact Ev.bind (y.mono fun v h1 z => Ev.bind (Ev.standAt (Ev.holding z)))
theorem placesB_succ (x : Str) (i : Nat) : placesB x (i + 1) = placesB x i ++ (if Txt.contains " \t\n" (Txt.item x i) then [] else [i]) := by
  unfold placesB
  rw [List.range_succ, List.filter_append]
  cases h : Txt.contains " \t\n" (Txt.item x i) <;> simp [h]
theorem last_snoc {α : Type} {l : List α} (h : l ≠ []) : ∃ i a, l = i ++ [a] ∧ l.getLast? = some a := ⟨l.dropLast, l.getLast h, (List.dropLast_concat_getLast h).symm, List.getLast?_eq_some_getLast h⟩
theorem law_bare_C (B : Base w Bh) {h : Heap} (kb : Kp Bh h) (room : Room A 3) {x : Str} {t : Tok} (hz : x.length < 60) {P : Value → Heap → Prop} (p : ∀ h' t', Only [] h h' → P (.str (bareS x) t') h') :
    CEv (model pw w) A (.call (.ref 287) ⟨[.str x t], []⟩) h P := by
  refine CEv.fnc B kb (n := 2) room (fa := 287) (c := 286) [("text", .str x t)] [] rfl rfl rfl rfl rfl rfl rfl (fun s hs => BindsTo.of_eq (by rfl)) (fun L => by rfl) (fun _ q => nomatch q) ?_
  intro L h₁ R k1 F N0 CC
  obtain ⟨oc, hc, dc, Lc, nc⟩ := CC "text" (nx L) (by rfl)
  have cL : nx L ≠ L := Nat.succ_ne_self L
  have gc : (hideAll h ([] : List Addr)).get? (nx L) = none := nc
  have N : Nw (hideAll h ([] : List Addr)) L h₁ [(nx L, oc)] := N0.cons hc cL gc
  refine ev_cons (ev_assign_comp1 (cl := [("text", nx L)]) F N (ev_call (ev_bi B (kb.trans' k1) (.type "range") (by rfl) (by rfl) (ev_call (ev_bi B (kb.trans' k1) (.builtin "len") (by rfl) (by rfl) (ev_ldc hc dc ⟨.builtin, ev_len_str (by omega) fun t0 => ⟨.type, ev_range1 fun r h2 t1 t2 t3 o2 d2 g2 => ?_⟩⟩))))))
  refine ev_iter_range g2 (by omega) fun I h3 o3 d3 g3 => ?_
  have F3 := Fm.o F (o2.trans o3)
  have N3 := Nw.o N (o2.trans o3)
  have hc3 := N3.at (.head _)
  have nI : ∀ {a : Addr} {o : Obj}, h₁.get? a = some o → a ≠ I := fun q e => by rw [e] at q; rw [o2 _ _ nin0 q] at d3; cases d3
  have hI1 : h₁.get? I = none := by
    cases hh : h₁.get? I with
    | none => rfl
    | some o => exact absurd rfl (nI hh)
  refine ⟨o2.trans o3, .mk (n := x.length) (S := fun i ys g => ∃ pl, All2 IntIs ys pl ∧ pl = placesB x i) g3 rfl (Itr.range (g := hideAll h3 [I]) R.handled 0 1 x.length) (by omega) (fun _ _ e => e) ⟨[], .nil, rfl⟩ ?_ ?_⟩
  · rintro D C DC C3 i v ys k g h4 m o hi ⟨tv, rfl⟩ zl ⟨pl, ap, ep⟩ kg F4 N4 oc'
    have hc4 : h4.get? (nx L) = some oc := F4.keep _ _ (kg _ _ (hideAll_get _ hc3 (nin1 (nI hc))))
    refine ev_own_name (ev_asg_name (ev_st F4 N4 fun h5 F5 N5 => ev_tests1 ?_))
    have e0 : (0 : Int) + (i : Int) * 1 = (i : Int) := by omega
    rw [e0] at F5
    have hc5 : h5.get? (nx L) = some oc := F5.keep _ _ (kg _ _ (hideAll_get _ hc3 (nin1 (nI hc))))
    refine ev_isTrue_compare (ev_sub (ev_ldc hc5 dc (ev_ld F5 rfl (ev_item_str hi (by omega) fun t5 => ev_str fun t6 => ev_notin (ev_truthy_bool ?_)))))
    cases hk : Txt.contains " \t\n" (Txt.item x i) with
    | true =>
      refine iff0 ?_
      exact ⟨g, _, fun _ _ e => e, F5, N5, pl, ap, by rw [placesB_succ, hk, ep]; simp⟩
    | false =>
      refine ift ?_
      refine ev_ld F5 rfl ⟨g, _, fun _ _ e => e, F5, N5, pl ++ [i], All2.snoc ap ⟨tv, rfl⟩, by rw [placesB_succ, hk, ep]; simp⟩
  · intro D
    refine ⟨hI1, fun h6 ys k g d6 s6 kg zl kk F6 N6 => ?_⟩
    obtain ⟨pl, ap, ep⟩ := s6
    have hc6 := N6.at (.tail _ (.head _))
    have hD := N6.at (.head _)
    refine ev_cons (ev_return (ev_ifexp (ev_isTrue_compare (ev_ld F6 rfl (ev_list (ev_newList (by simp) fun E h7 o7 d7 g7 => ?_))))))
    have F7 := Fm.o F6 o7
    have N7 := Nw.o N6 o7
    refine ev_ne_nil (R.le (by decide)) (N7.at (.head _)) g7 (ev_truthy_bool ?_)
    cases ap with
    | nil =>
      refine iff0 ?_
      refine ev_str fun t8 => ?_
      have eb : bareS x = "" := by unfold bareS; rw [← ep]; rfl
      show P (.str "" t8) h7
      rw [← eb]
      exact p _ _ (Only.of_kp F7.keep)
    | @cons v a ys pl rv ap =>
      refine ift ?_
      obtain ⟨ta, rfl⟩ := rv
      have hc7 := N7.at (.tail _ (.head _))
      have hD7 := N7.at (.head _)
      obtain ⟨is, la, ei, el⟩ := last_snoc (l := a :: pl) (by simp)
      have hzz : ((a :: pl : List Nat)).length ≤ x.length := by rw [ep]; unfold placesB; exact Nat.le_trans (List.length_filter_le _ _) (by simp)
      have ab : ∀ b ∈ (a :: pl), b < x.length := by
        intro b hb
        rw [ep] at hb
        unfold placesB at hb
        exact List.mem_range.mp (List.mem_filter.mp hb).1
      have la1 : la < x.length := ab la (by rw [ei]; simp)
      have ap' : All2 IntIs (.int a ta :: ys) (a :: pl) := .cons ⟨ta, rfl⟩ ap
      rw [ei] at ap'
      obtain ⟨jy, vy, ey, ay, ry⟩ := All2.snoc_inv ap'
      obtain ⟨tl, rfl⟩ := ry
      have D7 : h7.get? D = some (LO (jy ++ [.int la tl]) k) := by rw [← ey]; exact hD7
      refine ev_sub (ev_ldc hc7 dc (ev_slice ?_))
      rw [evalPart_some, evalPart_some]
      refine ev_sub (ev_ld F7 rfl (ev_int fun t9 => ev_tail_list hD7 (by omega) (by omega) rfl ?_))
      refine ev_binop (ev_sub (ev_ld F7 rfl (ev_unary (ev_int fun t10 => ev_negi fun t11 => ev_item_last D7 ?_ (ev_int fun t12 => ev_addi fun t13 => ⟨some (a, ta), some ((la : Int) + 1, t13), rfl, rfl, fun q h8 o8 g8 => ?_⟩)))))
      · have e1 : (Value.int (a : Int) ta :: ys).length = (jy ++ [Value.int (la : Int) tl]).length := congrArg List.length ey
        have e2 : (Value.int (a : Int) ta :: ys).length ≤ x.length := zl
        rw [List.length_append] at e1
        omega
      · have F8 := Fm.o F7 o8
        have N8 := Nw.o N7 o8
        refine ev_tail_slice _ _ g8 (by omega) fun t' => ?_
        have eb : bareS x = Txt.slice x (some (a : Int)) (some ((la : Int) + 1)) := by
          unfold bareS
          rw [← ep, el]
          rfl
        show P (.str (Txt.slice x (some (a : Int)) (some ((la : Int) + 1))) t') h8
        rw [← eb]
        exact p _ _ (Only.of_kp F8.keep)
end Mine
open PySem PySem.W PyProof.Rows PySem.Calls
set_option maxRecDepth 100000
set_option maxHeartbeats 4000000
set_option linter.unusedVariables false
namespace Mine
variable {w : World} {A : Around} {Bh : Heap}
/-! ## `_law_read` -/
noncomputable def placesE (x : Str) (n : Nat) : List Nat := (List.range n).filter fun i => Txt.item x i == "="
noncomputable def readS (x : Str) : Option (Str × Str) := match (placesE x x.length : List Nat) with
  | [] => none
  | a :: _ => some (bareS (Txt.slice x none (some (a : Int))), bareS (Txt.slice x (some ((a : Int) + 1)) none))
theorem placesE_succ (x : Str) (i : Nat) : placesE x (i + 1) = placesE x i ++ (if Txt.item x i == "=" then [i] else []) := by
  unfold placesE
  rw [List.range_succ, List.filter_append]
  cases h : Txt.item x i == "=" <;> simp [h]
/-- a read line: nothing, or a tuple of two texts -/
noncomputable def RdR (h : Heap) (v : Value) : Option (Str × Str) → Prop
  | none => v = .none
  | some p => ∃ a t u, v = .ref a ∧ h.get? a = some (TO [.str p.1 t, .str p.2 u])
theorem slice_len (x : Str) (l u : Option Int) : (Txt.slice x l u).length ≤ x.length := PyProof.Txt.length_slice_le x l u
theorem law_read_C (B : Base w Bh) {h : Heap} (kb : Kp Bh h) (room : Room A 5) {x : Str} {t : Tok} (hz : x.length < 60) {P : Value → Heap → Prop} (p : ∀ v h', Only [] h h' → RdR h' v (readS x) → (∀ a, v = .ref a → h.get? a = none) → P v h') :
    CEv (model pw w) A (.call (.ref 292) ⟨[.str x t], []⟩) h P := by
  refine CEv.fnc B kb (n := 4) room (fa := 292) (c := 291) [("line", .str x t)] [] rfl rfl rfl rfl rfl rfl rfl (fun s hs => BindsTo.of_eq (by rfl)) (fun L => by rfl) (fun _ q => nomatch q) ?_
  intro L h₁ R k1 F N0 CC
  obtain ⟨oc, hc, dc, Lc, nc⟩ := CC "line" (nx L) (by rfl)
  have cL : nx L ≠ L := Nat.succ_ne_self L
  have gc : (hideAll h ([] : List Addr)).get? (nx L) = none := nc
  have N : Nw (hideAll h ([] : List Addr)) L h₁ [(nx L, oc)] := N0.cons hc cL gc
  refine ev_cons (ev_assign_comp1 (cl := [("line", nx L)]) F N (ev_call (ev_bi B (kb.trans' k1) (.type "range") (by rfl) (by rfl) (ev_call (ev_bi B (kb.trans' k1) (.builtin "len") (by rfl) (by rfl) (ev_ldc hc dc ⟨.builtin, ev_len_str (by omega) fun t0 => ⟨.type, ev_range1 fun r h2 t1 t2 t3 o2 d2 g2 => ?_⟩⟩))))))
  refine ev_iter_range g2 (by omega) fun I h3 o3 d3 g3 => ?_
  have F3 := Fm.o F (o2.trans o3)
  have N3 := Nw.o N (o2.trans o3)
  have hc3 := N3.at (.head _)
  have nI : ∀ {a : Addr} {o : Obj}, h₁.get? a = some o → a ≠ I := fun q e => by rw [e] at q; rw [o2 _ _ nin0 q] at d3; cases d3
  have hI1 : h₁.get? I = none := by
    cases hh : h₁.get? I with
    | none => rfl
    | some o => exact absurd rfl (nI hh)
  refine ⟨o2.trans o3, .mk (n := x.length) (S := fun i ys g => ∃ pl, All2 IntIs ys pl ∧ pl = placesE x i) g3 rfl (Itr.range (g := hideAll h3 [I]) R.handled 0 1 x.length) (by omega) (fun _ _ e => e) ⟨[], .nil, rfl⟩ ?_ ?_⟩
  · rintro D C DC C3 i v ys k g h4 m o hi ⟨tv, rfl⟩ zl ⟨pl, ap, ep⟩ kg F4 N4 oc'
    refine ev_own_name (ev_asg_name (ev_st F4 N4 fun h5 F5 N5 => ev_tests1 ?_))
    have e0 : (0 : Int) + (i : Int) * 1 = (i : Int) := by omega
    rw [e0] at F5
    have hc5 : h5.get? (nx L) = some oc := F5.keep _ _ (kg _ _ (hideAll_get _ hc3 (nin1 (nI hc))))
    refine ev_isTrue_compare (ev_sub (ev_ldc hc5 dc (ev_ld F5 rfl (ev_item_str hi (by omega) fun t5 => ev_str fun t6 => ev_eqs (ev_truthy_bool ?_)))))
    cases hk : Txt.item x i == "=" with
    | false =>
      refine iff0 ?_
      exact ⟨g, _, fun _ _ e => e, F5, N5, pl, ap, by rw [placesE_succ, hk, ep]; simp⟩
    | true =>
      refine ift ?_
      refine ev_ld F5 rfl ⟨g, _, fun _ _ e => e, F5, N5, pl ++ [i], All2.snoc ap ⟨tv, rfl⟩, by rw [placesE_succ, hk, ep]; simp⟩
  · intro D
    refine ⟨hI1, fun h6 ys k g d6 s6 kg zl kk F6 N6 => ?_⟩
    obtain ⟨pl, ap, ep⟩ := s6
    refine ev_cons (ev_if (ev_isTrue_compare (ev_ld F6 rfl (ev_list (ev_newList (by simp) fun E h7 o7 d7 g7 => ?_)))))
    have F7 := Fm.o F6 o7
    have N7 := Nw.o N6 o7
    refine ev_eq_nil (R.le (by decide)) (N7.at (.head _)) g7 (ev_truthy_bool ?_)
    cases ap with
    | nil =>
      refine ift ?_
      refine ev_cons (ev_return (ev_none ?_))
      have eb : readS x = none := by unfold readS; rw [← ep]
      exact p _ _ (Only.of_kp F7.keep) (by rw [eb]; rfl) (fun _ q => nomatch q)
    | @cons v a ys pl rv ap =>
      refine iff0 ?_
      obtain ⟨ta, rfl⟩ := rv
      have hc7 := N7.at (.tail _ (.head _))
      have hD7 := N7.at (.head _)
      have kg7 := kb.trans' F7.keep
      have a1 : a < x.length := by
        have hb : a ∈ placesE x x.length := by rw [← ep]; simp
        unfold placesE at hb
        exact List.mem_range.mp (List.mem_filter.mp hb).1
      refine ev_nil (ev_cons (ev_return (ev_tuple ?_)))
      refine ev_call (ev_glob B kg7 (.ref 287) rfl (ev_sub (ev_ldc hc7 dc (ev_slice ?_))))
      rw [evalPart_some]
      refine Ev.pure (ev_sub (ev_ld F7 rfl (ev_int fun t9 => ev_tail_list hD7 (by omega) (by omega) rfl ⟨none, some ((a : Int), ta), rfl, rfl, fun q h8 o8 g8 => ?_⟩)))
      have F8 := Fm.o F7 o8
      have N8 := Nw.o N7 o8
      refine ev_tail_slice _ _ g8 (by omega) fun t' => ⟨.inK B (kb.trans' F8.keep) rfl, Ev.call (law_bare_C B (kb.trans' F8.keep) (R.le (by decide)) (Nat.lt_of_le_of_lt (slice_len x _ _) hz) fun h9 t9 o9 => ?_)⟩
      have F9 := Fm.o F8 o9
      have N9 := Nw.o N8 o9
      have hc9 := N9.at (.tail _ (.head _))
      refine ev_call (ev_glob B (kb.trans' F9.keep) (.ref 287) rfl (ev_sub (ev_ldc hc9 dc (ev_slice ?_))))
      rw [evalPart_some]
      refine ev_binop (ev_sub (ev_ld F9 rfl (ev_int fun t10 => ev_tail_list (N9.at (.head _)) (by omega) (by omega) rfl (ev_int fun t11 => ev_addi fun t12 => Ev.pure ⟨some ((a : Int) + 1, t12), none, rfl, rfl, fun q h10 o10 g10 => ?_⟩))))
      have F10 := Fm.o F9 o10
      have N10 := Nw.o N9 o10
      refine ev_tail_slice _ _ g10 (by omega) fun t' => ⟨.inK B (kb.trans' F10.keep) rfl, Ev.call (law_bare_C B (kb.trans' F10.keep) (R.le (by decide)) (Nat.lt_of_le_of_lt (slice_len x _ _) hz) fun h11 t11 o11 => ?_)⟩
      have F11 := Fm.o F10 o11
      have N11 := Nw.o N10 o11
      refine ev_newTuple (by simp) (by simp) fun T h12 o12 d12 g12 => ?_
      have F12 := Fm.o F11 o12
      have N12 := Nw.o N11 o12
      have eb : readS x = some (bareS (Txt.slice x none (some (a : Int))), bareS (Txt.slice x (some ((a : Int) + 1)) none)) := by unfold readS; rw [← ep]
      refine p _ _ (Only.of_kp F12.keep) (by rw [eb]; exact ⟨T, _, _, rfl, g12⟩) fun b e => ?_
      cases e
      cases hT : h.get? T with
      | none => rfl
      | some o => rw [F11.keep _ _ hT] at d12; cases d12
end Mine
open PySem PySem.W PyProof.Rows PySem.Calls
set_option maxRecDepth 100000
set_option maxHeartbeats 4000000
set_option linter.unusedVariables false
namespace Mine
variable {w : World} {A : Around} {Bh : Heap}
/-! ## a new pair -/
/-- a pair made behind the heap h -/
noncomputable def IsPairN (h h' : Heap) (o : Addr) (x y : Value) : Prop := ∃ d, h'.get? o = some (pairO d x y) ∧ h'.get? d = some dictO0 ∧ h.get? o = none ∧ h.get? d = none
theorem IsPairN.pair {h h' : Heap} {o : Addr} {x y : Value} (p : IsPairN h h' o x y) : IsPair h' o x y := let ⟨d, a, b, _⟩ := p; ⟨d, a, b⟩
theorem IsPairN.old {h0 h h' : Heap} {o : Addr} {x y : Value} (k : Kp h0 h) (p : IsPairN h h' o x y) : IsPairN h0 h' o x y := by
  obtain ⟨d, a, b, c, e⟩ := p
  have up : ∀ {z : Addr}, h.get? z = none → h0.get? z = none := fun {z} q => by
    cases hc : h0.get? z with
    | none => rfl
    | some ob => rw [k _ _ hc] at q; cases q
  exact ⟨d, a, b, up c, up e⟩
theorem ev_collect_tup {h : Heap} {a : Addr} {xs : List Value} (ha : h.get? a = some (TO xs)) (hz : xs.length < 1000) {P : List Value → Heap → Prop} (p : ∀ h', Only [] h h' → P xs h') : Ev (model pw w) A (collect (.ref a)) h P := by
  intro E Q s hs hQ
  subst hs
  exact PySem.wpAny_collect_seq a (.inr rfl) ha rfl rfl (fun h' k => hQ _ h' s.toks (p h' fun b o _ e => k b o e)) (Nat.le_trans (Nat.le_of_lt (by simpa using hz)) (by decide))
theorem cev_tupNew (B : Base w Bh) {h : Heap} (kb : Kp Bh h) {t : Addr} {x y : Value} (ht : h.get? t = some (TO [x, y])) {P : Value → Heap → Prop} (p : ∀ o h', Only [] h h' → IsPairN h h' o x y → P (.ref o) h') :
    CEv (model pw w) A (.call (.builtin "tuple.__new__") ⟨[.ref 203, .ref t], []⟩) h P := by
  have X := B.X.keeps kb
  refine cev_builtin (b := Builtin.«tuple.__new__») (by decide +kernel) (entryFor_of_tree (by kernel_rfl)) ?_
  refine Ev.looks (Looks.of_peek X (r := ()) (by kernel_rfl)) ?_
  unfold Builtin.«tuple.__new__»
  refine Ev.bind (Ev.looks (Looks.of_peek X (r := true) (by kernel_rfl)) ?_)
  simp only [Bool.not_true, Bool.false_eq_true, if_false]
  refine Ev.bind (Ev.looks (Looks.of_peek X (r := true) (by kernel_rfl)) ?_)
  simp only [Bool.not_true, Bool.false_eq_true, if_false]
  show Ev _ _ (Bind.madeHere "tuple.__new__" (.ref 203) >>= _) _ _
  refine Ev.bind (Ev.looks (Looks.of_peek X (r := ()) (by kernel_rfl)) ?_)
  refine Ev.bind (Ev.looks (Looks.of_peek X (r := some (.builtin "object.__init__")) (by kernel_rfl)) ?_)
  rw [if_pos (by decide)]
  refine Ev.bind (Ev.eq (t' := pure ()) (by rfl) (Ev.pure ?_))
  refine Ev.bind (Ev.eq (t' := pure ()) (by rfl) (Ev.pure ?_))
  rw [if_neg (by decide)]
  refine Ev.bind (ev_collect_tup ht (by simp) fun h1 o1 => Ev.bind (Ev.pure (Ev.bind (Ev.alloc ?_))))
  have X2 : (K w.params).In (h1.push dictO0) := X.keeps fun b o e => Heap.get?_push_of_some _ (o1 b o (by simp) e)
  have en : newObj (.ref 203) (.seq [x, y].toArray) (some h1.objs.size) = newObjAsIs (.ref 203) (.seq [x, y].toArray) (some h1.objs.size) := by
    unfold newObj
    show (if (2 : Nat) > sizeLine then _ else _) = _
    rw [if_neg (by decide)]
  rw [en]
  unfold newObjAsIs
  refine Ev.bind (Ev.bind (Ev.alloc ?_))
  have X3 : (K w.params).In ((h1.push dictO0).push (pairO h1.objs.size x y)) := X2.keeps fun b o e => Heap.get?_push_of_some _ e
  refine Ev.bind (Ev.looks (Looks.of_peek X3 (r := false) (by kernel_rfl)) ?_)
  refine Ev.pure (Ev.pure ⟨_, rfl, p _ _ (o1.trans (only_push.trans only_push)) ⟨h1.objs.size, Heap.get?_push_size _ rfl, Heap.get?_push_of_some _ (Heap.get?_push_size _ rfl), ?_, ?_⟩⟩)
  · cases hc : h.get? (h1.push dictO0).objs.size with
    | none => rfl
    | some o =>
      have := Heap.lt_size (only_push (h := h1) (o := dictO0) _ _ nin0 (o1 _ _ nin0 hc))
      exact absurd this (Nat.lt_irrefl _)
  · cases hc : h.get? h1.objs.size with
    | none => rfl
    | some o => exact absurd (Heap.lt_size (o1 _ _ nin0 hc)) (Nat.lt_irrefl _)
/-- `Pair.__new__` -/
theorem pairNew_C (B : Base w Bh) {h : Heap} (kb : Kp Bh h) (room : Room A 3) {x y : Value} {P : Value → Heap → Prop} (p : ∀ o h', Only [] h h' → IsPairN h h' o x y → P (.ref o) h') :
    CEv (model pw w) A (.call (.ref 130) ⟨[.ref 203, x, y], []⟩) h P := by
  refine CEv.fn B kb (n := 2) room (fa := 130) (c := 129) [("_cls", .ref 203), ("name", x), ("value", y)] [] rfl rfl rfl rfl rfl rfl rfl (fun s hs => BindsTo.of_eq (by rfl)) rfl rfl (fun _ q => nomatch q) ?_
  intro L h₁ R k1 F N
  have kg := kb.trans' k1
  refine ev_cons (ev_doc (ev_cons (ev_return ?_)))
  refine ev_mcall (he := by rfl) (hc := by rfl) ?_
  refine ev_bi B kg (.type "tuple") (by rfl) (by rfl) ?_
  with_reducible refine ev_method_type (v := .builtin "tuple.__new__") F ty_tuple stub_tuple ?fc ?h ?_
  case fc => kernel_rfl
  case h => rfl
  refine ev_ld F (v := .ref 203) rfl (ev_tuple (ev_ld F (v := x) rfl (ev_ld F (v := y) rfl (ev_newTuple (by simp) (by simp) fun t h2 o2 d2 g2 => ?_))))
  refine ⟨.builtin, Ev.call (cev_tupNew B (kg.trans' o2.kp) g2 fun o h3 o3 ip => p o h3 (fun b ob q e => o3 _ _ q (o2 _ _ q (k1 _ _ e))) (ip.old (k1.trans' o2.kp)))⟩
end Mine
open PySem PySem.W PyProof.Rows PySem.Calls
set_option maxRecDepth 100000
set_option maxHeartbeats 4000000
set_option linter.unusedVariables false
namespace Mine
variable {w : World} {A : Around} {Bh : Heap}
/-! ## a call of the class Pair -/
noncomputable abbrev tcC (rest : List Value) : Code := .builtin "type.__call__" ⟨.ref 203 :: rest, []⟩
theorem tc_weight (rest : List Value) : (tcC rest).weight = 1 := by kernel_rfl
theorem tc_units (rest : List Value) : (tcC rest).cUnits = 1 := by kernel_rfl
theorem Room.tc {n : Nat} {rest : List Value} (r : Room A (n + 1)) : Room (A.under (tcC rest)) n := by
  refine ⟨?_, ?_, r.handled⟩
  · show A.depth + (tcC rest).weight + n < 1000
    rw [tc_weight]; have := r.depth; omega
  · show A.units + (tcC rest).cUnits + 40 * n < 9900
    rw [tc_units]; have := r.units; omega
theorem looks_opS {M : Model} {h : Heap} (st : StOk h) {C : Addr} : Looks M h (opaqueClassAbove (.ref C)) none := by
  obtain ⟨mc, ns, _, e⟩ := st
  have L : Looks M h (nsGet cStatics "thirdparty.any") none := fun A Q E s k q => wpAny_nsGet (ns.keeps k) (by rw [e]; exact q)
  exact Looks.andThen (a := false) (L.andThen .now) (by show Looks M h (if (!false) = true then pure none else _) none; rw [if_pos (show (!false) = true from rfl)]; exact .now)
/-- a name of a class of the text, by a descriptor -/
theorem cls_bindS {KF : Frag} {prog : Program} {E : Value → Shared → Prop} {s : Shared} {name : Str} {C : Addr} {g a obj tp : Value} {expr : Bool} {Q : Value → Shared → Prop} (X : KF.In s.heap) (st : StOk s.heap) (ht : typeIn KF (.ref C) = some (.type "type"))
    (hga : findIn KF (.type "type") "__getattribute__" = some (some (.builtin "type.__getattribute__"))) (hi : subIn KF (.type "type") (.type "type") = some true) (e : findCls KF (.ref C) (.type "type") name = some (.get g a obj tp))
    (h : wpAny (model prog w) A.in1 (call g [a, obj, tp]) (fun v s' => wpAny (model prog w) A (handedOut v) Q E s') (fun _ _ => False) { s with toks := s.toks + 1 }) : wpAny (model prog w) A (getAttr (.ref C) name expr) Q E s :=
  cls_open X (looks_opS st) (looks_typeIn X ht) hga (looks_hook X (r := none) rfl) hi e (wpAny_bind (wpAny_holding (wpAny_mono h (fun _ _ z => wpAny_pure z) fun _ _ z => z)))
theorem code_pairCall (B : Base w Bh) {rest : List Value} {R : Result → Shared → Prop} {s : Shared} (kb : Kp Bh s.heap)
    (hn : wpAny (model pw w) (A.under (tcC rest)) (call (.ref 130) (.ref 203 :: rest)) (fun obj s' => ∃ o x y, obj = .ref o ∧ Kp s.heap s'.heap ∧ IsPair s'.heap o x y ∧ ∀ tk, R (.ok (.ret (.ref o))) { s' with toks := tk }) (fun e s' => R (.error e) s') { s with toks := s.toks + 1 }) :
    codeAny (model pw w) A (.call (.ref 203) ⟨rest, []⟩) R s := by
  have X := B.X.keeps kb
  refine codeAny_of_tree ?_
  show wpAny _ _ (callAny (.ref 203) _) _ _ _
  refine wpAny_bind (wpAny_load (X 203 _ rfl) ?_)
  show wpAny _ _ (callAny.viaDunder (.ref 203) _) _ _ _
  unfold callAny.viaDunder
  refine wpAny_bind ((Looks.of_peek X (r := some (.builtin "type.__call__")) (by kernel_rfl)).here ?_)
  dsimp only
  refine wpAny_bind ((Looks.of_peek X (r := (.builtin "type.__call__", [.ref 203])) (by kernel_rfl)).here ?_)
  refine wpAny_bind (wpAny_pure ?_)
  refine wpAny_pure (a := Fin.again (.call (.builtin "type.__call__") ⟨.ref 203 :: rest, []⟩)) (And.intro rfl ?_)
  refine codeAny_call_builtin_at (Code.quiet_builtin _ (by decide +kernel)) PySem.F.entry_type_call (check_slot (by decide +kernel) (by decide +kernel) (n := "__call__") (owner := "type") (Looks.of_peek X (by kernel_rfl)) (tc_args _ _ _) ?_)
  unfold Builtin.«type.__call__»
  show wpAny _ (A.under (tcC rest)) (mroOf (.ref 203) >>= _) _ _ _
  refine wpAny_bind ((Looks.of_peek X (r := [.ref 203, .ref 180, .type "tuple", .type "object"]) (by kernel_rfl)).here ?_)
  show wpAny _ (A.under (tcC rest)) (Bind.madeBy (.ref 203) >>= _) _ _ _
  refine wpAny_bind ((Looks.of_peek X (r := none) (by kernel_rfl)).here ?_)
  show wpAny _ (A.under (tcC rest)) (getAttr (.ref 203) "__new__" >>= _) _ _ _
  refine wpAny_bind ?_
  refine cls_bindS (g := .builtin "staticmethod.__get__") (a := .ref 181) (obj := .none) (tp := .ref 203) X (B.st.keeps kb) (by kernel_rfl) (by kernel_rfl) (by kernel_rfl) (by kernel_rfl) (wpAny_call (sm_get (f := .ref 130) (rest := []) (s := { s with toks := s.toks + 1 }) X (by kernel_rfl) ?_))
  refine handed_on rfl ?_
  refine wpAny_bind (wpAny_holding (wpAny_mono hn (fun obj s' q => ?_) fun _ _ e => e))
  obtain ⟨o, x, y, rfl, k, ip, q⟩ := q
  have X' := X.keeps k
  obtain ⟨d, I⟩ := ip.inst
  have L : Looks (model pw w) s'.heap (isInstance (.ref o) (.ref 203)) true := by
    unfold isInstance
    exact I.type.andThen (looks_subIn X' (by kernel_rfl))
  refine wpAny_bind (L.here ?_)
  simp only [Bool.not_true, Bool.false_eq_true, if_false]
  refine wpAny_bind (wpAny_holding ?_)
  unfold callSpecial?
  refine wpAny_bind (wpAny_bind (I.type.here ((looks_findIn X' (r := some (.builtin "object.__init__")) (by kernel_rfl)).here ?_)))
  refine wpAny_holding ?_
  rw [oi_bind]
  refine wpAny_bind (wpAny_pure (wpAny_bind ?_))
  have oi : CEv (model pw w) (A.under (tcC rest)) (.call (.builtin "object.__init__") ⟨.ref o :: rest, []⟩) s'.heap fun v h' => v = .none ∧ h' = s'.heap := by
    refine cev_sub oi_plain entry_oi oi_split (by first | exact .inl (by decide +kernel) | exact .inr (by decide +kernel)) ?_ ?_ ?_
    · unfold isInstance
      exact I.type.andThen (looks_subIn X' (by kernel_rfl))
    · unfold argsOk; kernel_rfl
    · unfold Builtin.«object.__init__»
      cases rest with
      | nil =>
        show Ev _ _ (ret .none) _ _
        exact ev_ret ⟨rfl, rfl⟩
      | cons z zs =>
        show Ev _ _ (typeOf (.ref o) >>= _) _ _
        refine Ev.bind (Ev.looks I.type ?_)
        refine Ev.bind (Ev.looks (looks_findIn X' (r := some (.builtin "object.__init__")) (by kernel_rfl)) ?_)
        refine Ev.bind (Ev.looks (Looks.of_peek X' (r := none) (by kernel_rfl)) ?_)
        show Ev _ _ (ret .none) _ _
        exact ev_ret ⟨rfl, rfl⟩
  refine wpAny_call (oi _ _ rfl fun v h' tk e => ?_)
  obtain ⟨rfl, rfl⟩ := e
  refine wpAny_pure (wpAny_pure ?_)
  exact q tk
end Mine
open PySem PySem.W PyProof.Rows PySem.Calls
set_option maxRecDepth 100000
set_option maxHeartbeats 4000000
set_option linter.unusedVariables false
namespace Mine
variable {w : World} {A : Around} {Bh : Heap}
theorem strsFrom_is : ∀ (l : List Str) (n : Nat), All2 StrIs (strsFrom n l) l
  | [], _ => .nil
  | x :: l, n => .cons ⟨_, rfl⟩ (strsFrom_is l _)
theorem ev_split {x y : Str} {t u v : Tok} {h : Heap} {P : Value → Heap → Prop} (hx : x.length < 60) (hy : y.length ≠ 0) (hp : (Txt.splitMax x y 1).length < 60)
    (p : ∀ D h' ys, Only [] h h' → h.get? D = none → h'.get? D = some (LO ys 0) → All2 StrIs ys (Txt.splitMax x y 1) → P (.ref D) h') : Ev (model pw w) A (call (.builtin "str.split") [.str x t, .str y u, .int 1 v]) h P := by
  intro E Q s hs hQ
  subst hs
  have hk : (decide ((1 : Int) < -(2 ^ 63 : Int)) || decide ((1 : Int) ≥ 2 ^ 63)) = false := by decide
  have hy' : (y.length == 0) = false := by simpa using hy
  cases h1 : (decide (x.length < y.length) || decide (Builtin.Str.strKind x < Builtin.Str.strKind y)) with
  | true =>
    refine call_meets PySem.F.slot_str_split (PySem.typeIs_str _ _ _) PySem.F.entry_str_split (PySem.F.args_str_split_3 _ _ _) (PySem.meets_str_split_max_cannot_occur x y 1 t u v hk h1) ?_
    refine hQ _ _ s.toks (p _ _ [.str x t] only_push (Heap.get?_none_of_le (Nat.le_refl _)) (Heap.get?_push_size _ rfl) ?_)
    unfold Txt.splitMax
    rw [if_pos h1]
    exact .cons ⟨_, rfl⟩ .nil
  | false =>
    cases h2 : (Builtin.Str.occurrences x y 0 x.length (PySem.limitOf x 1)).isEmpty with
    | true =>
      refine call_meets PySem.F.slot_str_split (PySem.typeIs_str _ _ _) PySem.F.entry_str_split (PySem.F.args_str_split_3 _ _ _) (PySem.meets_str_split_max_not_found x y 1 t u v hk h1 hy' h2) ?_
      refine hQ _ _ s.toks (p _ _ [.str x t] only_push (Heap.get?_none_of_le (Nat.le_refl _)) (Heap.get?_push_size _ rfl) ?_)
      unfold Txt.splitMax
      rw [if_neg (by rw [h1]; simp), if_pos h2]
      exact .cons ⟨_, rfl⟩ .nil
    | false =>
      have ep : Txt.splitMax x y 1 = Builtin.Str.partsBetween x (Builtin.Str.occurrences x y 0 x.length (PySem.limitOf x 1)) y.length := by
        unfold Txt.splitMax
        rw [if_neg (by rw [h1]; simp), if_neg (by rw [h2]; simp)]
      rw [ep] at hp
      refine call_meets PySem.F.slot_str_split (PySem.typeIs_str _ _ _) PySem.F.entry_str_split (PySem.F.args_str_split_3 _ _ _) (PySem.meets_str_split_sep_max x y 1 t u v hk h1 hy' h2 (Nat.le_trans (Nat.le_of_lt hx) (show 60 ≤ sizeLine by decide)) (Nat.le_trans (Nat.le_of_lt hp) (show 60 ≤ sizeLine by decide))) ?_
      refine hQ _ _ _ (p _ _ (strsFrom s.toks _) only_push (Heap.get?_none_of_le (Nat.le_refl _)) (Heap.get?_push_size _ rfl) ?_)
      rw [ep]
      exact strsFrom_is _ _
theorem all2_of {α β : Type} {R : α → β → Prop} : ∀ {xs : List α} {ys : List β}, xs.length = ys.length → (∀ (j : Nat) x y, xs[j]? = some x → ys[j]? = some y → R x y) → All2 R xs ys
  | [], [], _, _ => .nil
  | x :: xs, y :: ys, h, k => .cons (k 0 x y rfl rfl) (all2_of (by simpa using h) fun j a b ha hb => k (j + 1) a b (by simpa using ha) (by simpa using hb))
theorem All2.get {α β : Type} {R : α → β → Prop} {xs : List α} {ys : List β} (a : All2 R xs ys) : ∀ {i : Nat} {x : α}, xs[i]? = some x → ∃ y, ys[i]? = some y ∧ R x y := by
  induction a with
  | nil => intro i x e; simp at e
  | @cons x0 y0 xs ys r a ih =>
    intro i x e
    cases i with
    | zero => simp at e; subst e; exact ⟨y0, rfl, r⟩
    | succ i => simpa using ih (by simpa using e)
end Mine
open PySem PySem.W PyProof.Rows PySem.Calls
set_option maxRecDepth 100000
set_option maxHeartbeats 4000000
set_option linter.unusedVariables false
namespace Mine
variable {w : World} {A : Around} {Bh : Heap}
/-! ## map(str.strip, a list) -/
theorem mro_map : mroOf (.type "map") = pure [.type "map", .type "object"] := by rw [mroOf_type]; kernel_rfl
theorem lookup_map_new : typeLookup (.type "map") "__new__" = pure (some (.builtin "map.__new__")) := by rw [typeLookup_type, builtinLookup_eq_fast]; kernel_rfl
theorem slot_map_init : Slot "map" "__init__" "object.__init__" :=
  .of (owner := "object") (n := "__init__") (by rw [typeLookup_type, builtinLookup_eq_fast]; kernel_rfl) (by decide +kernel) (by decide +kernel) (by decide +kernel)
    (by first | exact .inl (by decide +kernel) | exact .inr (by decide +kernel)) (by rw [isSubtype_type]; kernel_rfl)
theorem slot_map_next : Slot "map" "__next__" "map.__next__" :=
  .of (owner := "map") (n := "__next__") (by rw [typeLookup_type, builtinLookup_eq_fast]; kernel_rfl) (by decide +kernel) (by decide +kernel) (by decide +kernel)
    (by first | exact .inl (by decide +kernel) | exact .inr (by decide +kernel)) (by rw [isSubtype_type]; kernel_rfl)
theorem slot_map_iter : Slot "map" "__iter__" "map.__iter__" :=
  .of (owner := "map") (n := "__iter__") (by rw [typeLookup_type, builtinLookup_eq_fast]; kernel_rfl) (by decide +kernel) (by decide +kernel) (by decide +kernel)
    (by first | exact .inl (by decide +kernel) | exact .inr (by decide +kernel)) (by rw [isSubtype_type]; kernel_rfl)
theorem entry_map_next : entryFor table "map.__next__" = some Builtin.«map.__next__» := entryFor_of_tree (by kernel_rfl)
theorem entry_map_iter : entryFor table "map.__iter__" = some Builtin.«dict_keyiterator.__iter__» :=
  entryFor_alias (id' := "dict_keyiterator.__iter__") (by kernel_rfl) (by first | rfl | decide +kernel | (unfold String.splitOn; simp +decide [String.splitOnAux])) (by decide +kernel) (by kernel_rfl)
theorem args_map_next (a : Value) : argsOk "map.__next__" ⟨[a], []⟩ := by unfold argsOk; kernel_rfl
theorem args_map_iter (a : Value) : argsOk "map.__iter__" ⟨[a], []⟩ := by unfold argsOk; kernel_rfl
theorem called_map : TypeCalled "map" "map.__new__" "object.__init__" :=
  ⟨by decide +kernel, by decide +kernel, ⟨_, _, mro_map⟩, madeBy_type mro_map lookup_map_new (by decide +kernel), by decide +kernel, by rw [isSubtype_type]; kernel_rfl, slot_map_init⟩
theorem typeCall_map_2 (a b : Value) : checkTypeCall "map" ⟨[a, b], []⟩ = pure () := by kernel_rfl
theorem newCall_map_2 (a b : Value) : checkBuiltinCall "map.__new__" ⟨[.type "map", a, b], []⟩ = pure () := by kernel_rfl
theorem entry_map_new : entryFor table "map.__new__" = some Builtin.«map.__new__» := entryFor_of_tree (by kernel_rfl)
theorem sub_map : isSubtype (.type "map") (.type "map") = pure true := by rw [isSubtype_type]; kernel_rfl
noncomputable abbrev mapO (T : Addr) (f : Value) : Obj := { cls := .type "map", dict := none, data := .fields #[.ref T, f], slots := #[] }
noncomputable abbrev liO (l : Addr) (i : Nat) : Obj := { cls := .type "list_iterator", data := .fields #[.ref l, .int i 0] }
theorem meets_map_new (f : Value) (l : Addr) (xs : Array Value) :
    Meets (Builtin.«map.__new__» ⟨[.type "map", f, .ref l], []⟩) (fun _ R s => s.heap.IsList l xs ∧
      R (.ok (.ret (.ref (s.heap.objs.size + 2)))) { s with heap := ((s.heap.push (liO l 0)).push (TO [.ref s.heap.objs.size])).push (mapO (s.heap.objs.size + 1) f) }) :=
  .of_wp fun prog w A R s h => by
    obtain ⟨hp, g, d, tk, os⟩ := s; obtain ⟨hl1, h⟩ := h
    have hsub := sub_map
    have hL1 : Heap.IsList (Shared.heap ⟨hp, g, d, tk, os⟩) l xs := hl1
    wp_walk using wpAny_pyIter_list hL1
    have e : ((hp.push (liO l 0)).push (TO [.ref hp.objs.size])).objs.size = hp.objs.size + 2 := by rw [Heap.size_push, Heap.size_push]
    have e1 : (hp.push (liO l 0)).objs.size = hp.objs.size + 1 := by rw [Heap.size_push]
    refine ⟨.ref (hp.objs.size + 2), ?_, ?_⟩
    · exact congrArg (fun z => PySem.Fin.done (.ret (.ref z))) e
    · refine Eq.mp ?_ h
      show R _ { heap := ((hp.push (liO l 0)).push (TO [.ref hp.objs.size])).push (mapO (hp.objs.size + 1) f), gens := g, drawn := d, toks := tk, os := os } = R _ { heap := ((hp.push (liO l 0)).push (TO [.ref hp.objs.size])).push (mapO (hp.push (liO l 0)).objs.size f), gens := g, drawn := d, toks := tk, os := os }
      rw [e1]
theorem ev_map {f : Value} {l : Addr} {xs : List Value} {n : Nat} {h : Heap} {P : Value → Heap → Prop} (hl : h.get? l = some (LO xs n))
    (p : ∀ M T I h', Only [] h h' → h'.get? M = some (mapO T f) → h'.get? T = some (TO [.ref I]) → h'.get? I = some (liO l 0) → h.get? M = none → h.get? T = none → h.get? I = none → M ≠ I → P (.ref M) h') :
    Ev (model pw w) A (call (.type "map") [f, .ref l]) h P := by
  intro E Q s hs hQ
  subst hs
  have s1 : (s.heap.push (liO l 0)).objs.size = s.heap.objs.size + 1 := Heap.size_push ..
  have s2 : ((s.heap.push (liO l 0)).push (TO [.ref s.heap.objs.size])).objs.size = s.heap.objs.size + 2 := by rw [Heap.size_push, s1]
  have g3 : (((s.heap.push (liO l 0)).push (TO [.ref s.heap.objs.size])).push (mapO (s.heap.objs.size + 1) f)).get? (s.heap.objs.size + 2) = some (mapO (s.heap.objs.size + 1) f) := by rw [← s2]; exact Heap.get?_push_size _ rfl
  have g2 : (((s.heap.push (liO l 0)).push (TO [.ref s.heap.objs.size])).push (mapO (s.heap.objs.size + 1) f)).get? (s.heap.objs.size + 1) = some (TO [.ref s.heap.objs.size]) := by rw [← s1]; exact Heap.get?_push_of_some _ (Heap.get?_push_size _ rfl)
  refine callType_new called_map (by decide) (typeCall_map_2 _ _) (newCall_map_2 _ _) (fun obj => PySem.F.args_object_init_3 obj _ _) entry_map_new (meets_map_new f l xs.toArray) ⟨PySem.IsL.isList (n := n) hl, ⟨_, g3, rfl⟩, ?_⟩
  exact hQ _ _ s.toks (p (s.heap.objs.size + 2) (s.heap.objs.size + 1) s.heap.objs.size _ (only_push.trans (only_push.trans only_push)) g3 g2 (Heap.get?_push_of_some _ (Heap.get?_push_of_some _ (Heap.get?_push_size _ rfl))) (Heap.get?_none_of_le (Nat.le_add_right _ _)) (Heap.get?_none_of_le (Nat.le_add_right _ _)) (Heap.get?_none_of_le (Nat.le_refl _)) (Nat.ne_of_gt (Nat.lt_add_of_pos_right (by decide))))
end Mine
open PySem PySem.W PyProof.Rows PySem.Calls
set_option maxRecDepth 100000
set_option maxHeartbeats 4000000
set_option linter.unusedVariables false
namespace Mine
variable {w : World} {A : Around} {Bh : Heap}
theorem ev_nextOf_item {I l : Addr} {i : Nat} {xs : List Value} {n : Nat} {x : Value} {o : Obj} {h : Heap} {P : Value → Heap → Prop} (ho : h.get? I = some o) (st : LSt l i o) (hl : h.get? l = some (LO xs n)) (hx : xs[i]? = some x)
    (p : ∀ h' o', Only [I] h h' → h'.get? I = some o' → LSt l (i + 1) o' → P x h') : Ev (model pw w) A (Builtin.SmallTypes.nextOf (.ref I)) h P := by
  intro E Q s hs hQ
  subst hs
  obtain ⟨hc, hd⟩ := st
  have hT : s.TypeIs (.ref I) "list_iterator" := ⟨o, ho, hc⟩
  have hx' : xs.toArray[i]? = some x := by simpa using hx
  unfold Builtin.SmallTypes.nextOf
  refine wpAny_bind (wpAny_callSpecial?_slot (name := Str.ofString "__next__") hT slot_listiter_next (wpAny_call_entry slot_listiter_next hT entry_listiter_next ?_ (args_listiter_next _)))
  show wpAny _ _ (field (.ref I) 0 >>= _) _ _ s
  refine wpAny_bind (wpAny_field ho hd (x := .ref l) rfl ?_)
  show wpAny _ _ (if (Value.ref l == Value.none) = true then _ else _) _ _ s
  rw [if_neg (show ¬ ((Value.ref l == Value.none) = true) from Bool.false_ne_true)]
  show wpAny _ _ (field (.ref I) 1 >>= _) _ _ s
  refine wpAny_bind (wpAny_field ho hd (x := .int i 0) rfl ?_)
  show wpAny _ _ (seqItems? (.ref l) >>= _) _ _ s
  refine wpAny_bind (wpAny_seqItems hl rfl ?_)
  simp only [Int.toNat_natCast, hx']
  refine wpAny_bind (wpAny_setField ho hd (by simp) (wpAny_pure ⟨x, rfl, wpAny_pure (hQ _ _ s.toks (p _ _ only_update (Heap.get?_update_self _ ho (Obj.isFreed_of_fields (Obj.data_mapFields hd _))) ⟨(Obj.cls_mapFields ..).trans hc, ?_⟩))⟩))
  rw [Obj.data_mapFields hd]; simp [rawInt]
theorem nextOf_end (hh : A.handled = none) {I l : Addr} {i : Nat} {xs : List Value} {n : Nat} {o : Obj} {E Q : Value → Shared → Prop} {s : Shared} (ho : s.heap.get? I = some o) (st : LSt l i o) (hl : s.heap.get? l = some (LO xs n)) (hx : xs[i]? = none)
    (hE : ∀ h' e oe, Only [I] s.heap h' → h'.get? e = some oe → oe.cls = .type "StopIteration" → E (.ref e) { s with heap := h' }) : wpAny (model pw w) A (Builtin.SmallTypes.nextOf (.ref I)) Q E s := by
  obtain ⟨hc, hd⟩ := st
  have hT : s.TypeIs (.ref I) "list_iterator" := ⟨o, ho, hc⟩
  have hx' : xs.toArray[i]? = none := by simpa using hx
  unfold Builtin.SmallTypes.nextOf
  refine wpAny_bind (wpAny_callSpecial?_slot (name := Str.ofString "__next__") hT slot_listiter_next (wpAny_call_entry slot_listiter_next hT entry_listiter_next ?_ (args_listiter_next _)))
  show wpAny _ _ (field (.ref I) 0 >>= _) _ _ s
  refine wpAny_bind (wpAny_field ho hd (x := .ref l) rfl ?_)
  show wpAny _ _ (if (Value.ref l == Value.none) = true then _ else _) _ _ s
  rw [if_neg (show ¬ ((Value.ref l == Value.none) = true) from Bool.false_ne_true)]
  show wpAny _ _ (field (.ref I) 1 >>= _) _ _ s
  refine wpAny_bind (wpAny_field ho hd (x := .int i 0) rfl ?_)
  show wpAny _ _ (seqItems? (.ref l) >>= _) _ _ s
  refine wpAny_bind (wpAny_seqItems hl rfl ?_)
  simp only [Int.toNat_natCast, hx']
  refine wpAny_bind (wpAny_rule (wpAny_bind (wpAny_setField ho hd (by simp) ?_)))
  show wpAny _ _ (newExc (.type "StopIteration") [] >>= _) _ _ _
  refine wpAny_bind ?_
  simp only [newExc, newTuple]
  refine wpAny_bind (wpAny_newObj_type ?_ (by size_fits))
  refine wpAny_bind (m := firstArgMember _ _) (wpAny_of_eq (a := Value.none) (by first | rfl | (simp only [firstArgMember]; rfl)) ?_)
  refine wpAny_newObj_type ?_ (by size_fits)
  simp only [raiseNew]
  refine wpAny_bind (wpAny_handled ?_)
  rw [show A.in1.handled = none from hh]
  refine wpAny_bind (wpAny_pure (wpAny_throw ?_))
  refine hE _ _ _ (only_of_ext (((Heap.SameBut.update ..).extBut.push _).push _)) (Heap.get?_push_size _ rfl) rfl
end Mine
open PySem PySem.W PyProof.Rows PySem.Calls
set_option maxRecDepth 100000
set_option maxHeartbeats 4000000
set_option linter.unusedVariables false
namespace Mine
variable {w : World} {A : Around} {Bh : Heap}
/-! ## next on map(str.strip, list), collecting it -/
noncomputable def MSt (M T I l : Addr) (xs : List Value) (n : Nat) (i : Nat) (s : Shared) : Prop :=
  s.heap.get? M = some (mapO T (.builtin "str.strip")) ∧ s.heap.get? T = some (TO [.ref I]) ∧ (∃ o, s.heap.get? I = some o ∧ LSt l i o) ∧ s.heap.get? l = some (LO xs n)
noncomputable def Stripped (xs : List Value) (i : Nat) (v : Value) : Prop := ∃ x t u, xs[i]? = some (.str x t) ∧ v = .str (Txt.strip x) u
theorem walks_map (hh : A.handled = none) {M T I l : Addr} {xs : List Value} {n : Nat} (hMI : M ≠ I) (hTI : T ≠ I) (hlI : l ≠ I) (hx : ∀ v ∈ xs, ∃ x t, v = .str x t ∧ x.length ≤ sizeLine) :
    WalksS pw w A M [M, T, I, l] [I] (fun a b => b = a) xs.length (Stripped xs) (MSt M T I l xs n) where
  sub := by intro b hb; simp at hb; subst hb; simp
  grefl := fun _ => rfl
  gtrans := fun _ _ _ h1 h2 => h2.trans h1
  frame := by
    intro i s h' tk ⟨a, b, ⟨o, c, d⟩, e⟩ _ hk
    exact ⟨hk _ (by simp) _ a, hk _ (by simp) _ b, ⟨o, hk _ (by simp) _ c, d⟩, hk _ (by simp) _ e⟩
  item := by
    intro i s Q E hi ⟨a, b, ⟨o, c, d⟩, e⟩ hQ
    have hT : s.TypeIs (.ref M) "map" := ⟨_, a, rfl⟩
    obtain ⟨x, t, hv, hsz⟩ := hx xs[i] (List.getElem_mem hi)
    have hget : xs[i]? = some (.str x t) := by rw [List.getElem?_eq_getElem hi, hv]
    refine wpAny_with_toks (Nat.le_refl s.toks) ?_
    unfold pyNext
    refine wpAny_bind (wpAny_attempt (wpAny_callSpecial?_slot (name := Str.ofString "__next__") hT slot_map_next (wpAny_call_entry slot_map_next hT entry_map_next ?_ (args_map_next _))))
    show wpAny _ _ (field (.ref M) 0 >>= _) _ _ s
    refine wpAny_bind (wpAny_field a rfl (x := .ref T) rfl ?_)
    show wpAny _ _ (seqItems? (.ref T) >>= _) _ _ s
    refine wpAny_bind (wpAny_seqItems b rfl ?_)
    show wpAny _ _ (forIn #[Value.ref I] #[] _ >>= _) _ _ _
    simp only [List.forIn_toArray, List.forIn_cons, List.forIn_nil]
    refine wpAny_bind (wpAny_bind (wpAny_bind (wpAny_holding ?_)))
    refine ev_nextOf_item c d e hget (P := fun v h' => v = .str x t ∧ ∃ o', Only [I] s.heap h' ∧ h'.get? I = some o' ∧ LSt l (i + 1) o') (fun h' o' k2 ho' st' => ⟨rfl, o', k2, ho', st'⟩) _ _ s rfl ?_
    rintro v h' tk ⟨rfl, o', k2, ho', st'⟩
    refine wpAny_pure (wpAny_pure ?_)
    have a' := k2 _ _ (nin1 hMI) a
    show wpAny _ _ (field (.ref M) 1 >>= _) _ _ _
    refine wpAny_bind (wpAny_field a' rfl (x := .builtin "str.strip") rfl ?_)
    refine wpAny_bind (wpAny_holding ?_)
    refine SC.strip (x := x) (t := t) (hsz := hsz) fun u k => ?_
    refine wpAny_bind (wpAny_letGo ?_)
    refine wpAny_pure ⟨_, rfl, wpAny_pure fun htk => (hQ _ _ ⟨x, t, u, hget, rfl⟩ ⟨a', k2 _ _ (nin1 hTI) b, ⟨o', ho', st'⟩, k2 _ _ (nin1 hlI) e⟩ ⟨k2, rfl, rfl, rfl, htk⟩)⟩
  done := by
    intro s Q E ⟨a, b, ⟨o, c, d⟩, e⟩ hQ
    have hT : s.TypeIs (.ref M) "map" := ⟨_, a, rfl⟩
    refine wpAny_with_toks (Nat.le_refl s.toks) ?_
    unfold pyNext
    refine wpAny_bind (wpAny_attempt (wpAny_callSpecial?_slot (name := Str.ofString "__next__") hT slot_map_next (wpAny_call_entry slot_map_next hT entry_map_next ?_ (args_map_next _))))
    show wpAny _ _ (field (.ref M) 0 >>= _) _ _ s
    refine wpAny_bind (wpAny_field a rfl (x := .ref T) rfl ?_)
    show wpAny _ _ (seqItems? (.ref T) >>= _) _ _ s
    refine wpAny_bind (wpAny_seqItems b rfl ?_)
    show wpAny _ _ (forIn #[Value.ref I] #[] _ >>= _) _ _ _
    simp only [List.forIn_toArray, List.forIn_cons, List.forIn_nil]
    refine wpAny_bind (wpAny_bind (wpAny_bind (wpAny_holding ?_)))
    refine nextOf_end (A := A.in1) hh c d e (by simp) ?_
    intro h' ex oe k2 hex hcls
    refine wpAny_bind (wpAny_isInstance (T := "StopIteration") (b := true) ⟨_, hex, hcls⟩ isSubtype_stop ?_)
    exact wpAny_pure fun htk => hQ _ ⟨k2, rfl, rfl, rfl, htk⟩
  self := by
    intro i s Q E ⟨a, b, ⟨o, c, d⟩, e⟩ hQ
    have hT : s.TypeIs (.ref M) "map" := ⟨_, a, rfl⟩
    refine wpAny_pyIter_slot hT slot_map_iter (wpAny_call_entry slot_map_iter hT entry_map_iter ?_ (args_map_iter _))
    show wpAny _ _ (ret (.ref M)) _ _ s
    exact wpAny_pure ⟨_, rfl, "map", _, hT, slot_map_next.lookup, hQ⟩
end Mine
open PySem PySem.W PyProof.Rows PySem.Calls
set_option maxRecDepth 100000
set_option maxHeartbeats 4000000
set_option linter.unusedVariables false
namespace Mine
variable {w : World} {A : Around} {Bh : Heap}
theorem map_no_len : typeLookup (.type "map") "__len__" = pure none := by rw [typeLookup_type, builtinLookup_eq_fast]; kernel_rfl
theorem map_no_hint : typeLookup (.type "map") "__length_hint__" = pure none := by rw [typeLookup_type, builtinLookup_eq_fast]; kernel_rfl
theorem collect_map {E : Value → Shared → Prop} {s : Shared} {I : Addr} {fp wr : List Addr} {G : Array GenState → Array GenState → Prop} {n : Nat} {P : Nat → Value → Prop} {St : Nat → Shared → Prop}
    {Q : List Value → Shared → Prop} (W : WalksS pw w A.in1 I fp wr G n P St) (hT : ∀ i s, St i s → s.TypeIs (.ref I) "map") (hst : St 0 s) (hfp : ∀ b ∈ fp, b < s.heap.objs.size) (hI : I ∈ fp)
    (hQ : ∀ s' acc, Moved wr G s s' → ItemsOf P acc n → Q acc.toList s') (hn : n ≤ sizeLine) : wpAny (model pw w) A (collect (.ref I)) Q E s := by
  have hSf : s.heap.objs.size ∉ fp := fun hm => Nat.lt_irrefl _ (hfp _ hm)
  have hSI : s.heap.objs.size ≠ I := fun e => hSf (e ▸ hI)
  unfold collect
  refine wpAny_bind (wpAny_runValue (codeAny_builtin F.entry_proto_collect ?_))
  rw [Around.under_plainId F.plain_proto_collect _]
  show wpAny _ A.in1 (newList [] >>= fun l => again (.builtin "list.__iadd__" ⟨[l, .ref I], []⟩)) _ _ s
  refine wpAny_bind (wpAny_newObj_type ?_)
  refine wpAny_pure ⟨plainId_quiet F.plain_list_iadd _, codeAny_builtin F.entry_list_iadd ?_⟩
  rw [Around.under_plainId F.plain_list_iadd _]
  have hst₁ := W.frame 0 s (s.heap.push { cls := .type "list", data := .seq ([] : List Value).toArray }) s.toks hst (Nat.le_refl _) fun b _ o e => Heap.get?_push_of_some _ e
  show wpAny _ A.in1 (Builtin.List.listExtendWith (.ref s.heap.objs.size) (.ref I) (.ref s.heap.objs.size)) _ _ _
  unfold Builtin.List.listExtendWith
  refine wpAny_bind (wpAny_typeOf (hT 0 _ hst₁) ?_)
  have h1 : Builtin.List.listSameRef (.ref s.heap.objs.size) (.ref I) = false := by simp [Builtin.List.listSameRef, hSI]
  have h2 : (Value.type "map" == Value.type "list") = false := by decide
  have h3 : (Value.type "map" == Value.type "tuple") = false := by decide
  simp only [h1, h2, h3, Bool.or_false, Bool.false_eq_true, if_false]
  refine wpAny_bind (W.self 0 _ _ _ hst₁ ?_)
  refine wpAny_bind (wpAny_holding ?_)
  unfold Builtin.List.listLengthHint
  refine wpAny_bind (wpAny_specialOf (hT 0 _ hst₁) map_no_len ?_)
  show wpAny _ A.in1 (specialOf (Value.ref I) (Str.ofString "__length_hint__") >>= _) _ _ _
  refine wpAny_bind (wpAny_specialOf (hT 0 _ hst₁) map_no_hint ?_)
  refine wpAny_pure ?_
  show wpAny _ A.in1 (rule "list.extend.makes-room" >>= fun _ => Builtin.List.listTouch (.ref s.heap.objs.size) >>= fun _ =>
    again (.builtin "list.extend.loop" ⟨[.ref s.heap.objs.size, .ref I, .ref s.heap.objs.size], []⟩)) _ _ _
  refine wpAny_bind (wpAny_rule ?_)
  have hS₁ : (s.heap.push { cls := .type "list", data := .seq ([] : List Value).toArray }).get? s.heap.objs.size = some { cls := .type "list", data := .seq ([] : List Value).toArray } := Heap.get?_push_size _ rfl
  refine wpAny_bind ?_
  show wpAny _ A.in1 (updateSeq s.heap.objs.size (·.push .none) >>= fun _ => updateSeq s.heap.objs.size (·.pop)) _ _ _
  refine wpAny_bind (wpAny_updateSeq hS₁ rfl ?_)
  have hS₂ := Heap.get?_update_self (Obj.mapSeq (·.push Value.none)) hS₁ rfl
  refine wpAny_updateSeq hS₂ rfl ?_
  have hS₃ := Heap.get?_update_self (Obj.mapSeq (·.pop)) hS₂ rfl
  have oth : ∀ b o, b ≠ s.heap.objs.size → (s.heap.push { cls := .type "list", data := .seq ([] : List Value).toArray }).get? b = some o →
      (((s.heap.push { cls := .type "list", data := .seq ([] : List Value).toArray }).update s.heap.objs.size (Obj.mapSeq (·.push Value.none))).update s.heap.objs.size (Obj.mapSeq (·.pop))).get? b = some o :=
    fun b o hb e => (Heap.get?_update_other _ _ (Ne.symm hb)).trans ((Heap.get?_update_other _ _ (Ne.symm hb)).trans e)
  refine wpAny_pure ⟨plainId_quiet F.plain_extend_loop _, codeAny_extend_loopS W hn _ hSf _ n 0 _ _ _ rfl (Nat.zero_le _)
    (W.frame 0 ({ s with heap := s.heap.push { cls := .type "list", data := .seq ([] : List Value).toArray } } : Shared) _ s.toks hst₁ (Nat.le_refl _) fun b hb o e => oth b o (fun h => hSf (h ▸ hb)) e) hS₃ (ItemsOf.nil P) fun s' acc' c' hm hS' hacc => ?_⟩
  show wpAny _ A (load s.heap.objs.size >>= _) _ _ s'
  refine wpAny_bind (wpAny_load hS' ?_)
  refine wpAny_pure (hQ s' acc' (Moved.drop_new (o := { cls := .type "list", data := .seq ([] : List Value).toArray }) (tk := s.toks) (Moved.trans W.gtrans ((Moved.refl W.grefl).then_heap (by first | exact Nat.le_refl _ | exact Nat.le_succ _ | omega) fun b o hb e => ?_) hm) (Nat.le_refl _)) hacc)
  exact oth b o (fun h => hb (h ▸ List.mem_cons_self)) e
theorem ev_collect_map (hh : A.handled = none) {M T I l : Addr} {xs : List Value} {n : Nat} {h : Heap} {o : Obj} {P : List Value → Heap → Prop} (hMI : M ≠ I) (hTI : T ≠ I) (hlI : l ≠ I) (hx : ∀ v ∈ xs, ∃ x t, v = .str x t ∧ x.length ≤ sizeLine) (hn : xs.length ≤ sizeLine)
    (a : h.get? M = some (mapO T (.builtin "str.strip"))) (b : h.get? T = some (TO [.ref I])) (c : h.get? I = some o) (d : LSt l 0 o) (e : h.get? l = some (LO xs n))
    (p : ∀ ys h', Only [I] h h' → ys.length = xs.length → (∀ j v, ys[j]? = some v → Stripped xs j v) → P ys h') : Ev (model pw w) A (collect (.ref M)) h P := by
  intro E Q s hs hQ
  subst hs
  refine wpAny_with_toks (Nat.le_refl s.toks) ?_
  refine collect_map (walks_map (A := A.in1) hh hMI hTI hlI hx (n := n)) (fun i s st => ⟨_, st.1, rfl⟩) ⟨a, b, ⟨o, c, d⟩, e⟩ ?_ (by simp) ?_ hn
  · intro b' hb
    simp at hb
    rcases hb with rfl | rfl | rfl | rfl
    · exact Heap.lt_size a
    · exact Heap.lt_size b
    · exact Heap.lt_size c
    · exact Heap.lt_size e
  · intro s' acc hm ha htk
    have := hQ acc.toList s'.heap s'.toks (p _ _ hm.heap (by rw [Array.length_toList]; exact ha.1) (fun j v hj => ha.2 j v (by simpa using hj)))
    have es : ({ s with heap := s'.heap, toks := s'.toks } : Shared) = s' := by
      obtain ⟨h1, h2, h3, h4, h5⟩ := s'
      have g1 := hm.gens; have g2 := hm.drawn; have g3 := hm.os
      simp at g1 g2 g3
      simp [g1, g2, g3]
    rwa [es] at this
end Mine
open PySem PySem.W PyProof.Rows PySem.Calls
set_option maxRecDepth 100000
set_option maxHeartbeats 4000000
set_option linter.unusedVariables false
namespace Mine
variable {w : World} {A : Around} {Bh : Heap}
/-! ## a call with one starred argument -/
theorem map_iterable {s : Shared} {M : Addr} {o : Obj} (ho : s.heap.get? M = some o) (hc : o.cls = .type "map") {E : Value → Shared → Prop} {Q : List Value → Shared → Prop}
    (x : wpAny (model pw w) A (collect (.ref M)) Q E s) : StarOf (model pw w) A E (.ref M) Q s := by
  unfold StarOf notIterableAtAll
  exact wpAny_bind (wpAny_specialOf ⟨o, ho, hc⟩ slot_map_iter.lookup (wpAny_pure ⟨rfl, x⟩))
theorem ev_getAttr_strip {h : Heap} {expr : Bool} {P : Value → Heap → Prop} (p : P (.builtin "str.strip") h) : Ev (model pw w) A (getAttr (.type "str") "strip" expr) h P := by
  intro E Q s hs hQ
  subst hs
  have hst : Manifest.isStub "str" = false := by decide +kernel
  have hstub : opaqueClassAbove (.type "str") = pure none := by unfold opaqueClassAbove; dsimp only; rw [hst]; rfl
  have ht : typeOf (.type "str") = pure (.type "type") := by kernel_rfl
  have L0 : Looks (model pw w) s.heap (typeOf (.type "str")) (.type "type") := Looks.of_pure ht
  have hg : findIn [] (.type "type") "__getattribute__" = some (some (.builtin "type.__getattribute__")) := type_tga
  have LO : Looks (model pw w) s.heap (opaqueClassAbove (.type "str")) none := Looks.of_pure hstub
  have X : Frag.In [] s.heap := fun _ _ e => nomatch e
  refine cls_open (K := []) (r := .val (.builtin "str.strip")) X LO L0 hg (looks_hook X (r := none) (by rfl)) (by show subIn [] _ _ = _; rfl) (by kernel_rfl)
    (wpAny_pure (by show wpAny _ _ (handedOut (.builtin "str.strip")) _ _ _; rw [handedOut_of (by kernel_rfl)]; exact wpAny_pure (hQ _ _ _ p)))
theorem ev_getMethod_split {h : Heap} {x : Str} {t : Tok} {pl : Sem Bool} {P : Value × List Value → Heap → Prop} (p : P (.builtin "str.split", [.str x t]) h) : Ev (model pw w) A (getMethod (.str x t) "split" pl) h P := by
  intro E Q s hs hQ
  subst hs
  exact PySem.GM.split (hQ _ _ s.toks p)
noncomputable def EvStar (M : Model) (A : Around) (v : Value) (h : Heap) (P : List Value → Heap → Prop) : Prop :=
  ∀ (E : Value → Shared → Prop) (Q : List Value → Shared → Prop) (s : Shared), s.heap = h → (∀ a h' tk, P a h' → Q a { s with heap := h', toks := tk }) → StarOf M A E v Q s
theorem ev_star_map {M : Addr} {o : Obj} {h : Heap} {P : List Value → Heap → Prop} (ho : h.get? M = some o) (hc : o.cls = .type "map") (x : Ev (model pw w) A (collect (.ref M)) h P) : EvStar (model pw w) A (.ref M) h P := by
  intro E Q s hs hQ
  subst hs
  exact map_iterable ho hc (x _ _ s rfl hQ)
end Mine
open PySem PySem.W PyProof.Rows PySem.Calls
set_option maxRecDepth 100000
set_option maxHeartbeats 4000000
set_option linter.unusedVariables false
namespace Mine
variable {w : World} {A : Around} {Bh : Heap}
/-! ## the book: an object of FreezableDefaultDict -/
noncomputable abbrev bookO (dd : Addr) (es : Array DictEntry) (ep : Nat) : Obj := ⟨.ref 108, some dd, .dict es ep, #[some (.type "list")]⟩
theorem slot_dd_init : Slot "collections.defaultdict" "__init__" "collections.defaultdict.__init__" :=
  .of (owner := "collections.defaultdict") (n := "__init__") (by rw [typeLookup_type, builtinLookup_eq_fast]; kernel_rfl) (by decide +kernel) (by decide +kernel) (by decide +kernel)
    (by first | exact .inl (by decide +kernel) | exact .inr (by decide +kernel)) (by rw [isSubtype_type]; kernel_rfl)
theorem entry_dd_init : entryFor table "collections.defaultdict.__init__" = some Builtin.«collections.defaultdict.__init__» := entryFor_of_tree (by kernel_rfl)
theorem entry_dict_new' : entryFor table "dict.__new__" = some Builtin.«dict.__new__» := entryFor_of_tree (by kernel_rfl)
theorem entry_dict_init' : entryFor table "dict.__init__" = some Builtin.«dict.__init__» := entryFor_of_tree (by kernel_rfl)
theorem none_of_kp' {g h : Heap} {a : Addr} (k : Kp g h) (e : h.get? a = none) : g.get? a = none := by
  cases q : g.get? a with
  | none => rfl
  | some o => rw [k _ _ q] at e; cases e
/-- a builtin's code run as it is -/
theorem cev_direct {id : String} {args : Args} {b : Builtin} {h : Heap} {P : Value → Heap → Prop} (hq : plainId id = true) (hb : entryFor table id = some b)
    (x : Ev (model pw w) A.in1 (b args) h fun fin h2 => ∃ v, fin = .done (.ret v) ∧ P v h2) : CEv (model pw w) A (.builtin id args) h P := by
  intro R s hs hQ
  refine codeAny_builtin hb ?_
  rw [Around.under_plainId hq _]
  refine x _ _ s hs fun fin h' tk z => ?_
  obtain ⟨v, rfl, p⟩ := z
  exact hQ v h' tk p
theorem book_inst {h : Heap} (X : (K w.params).In h) {a : Addr} {o : Obj} (ho : h.get? a = some o) (hc : o.cls = .ref 108) {T : Value} {r : Bool} (e : subIn (K w.params) (.ref 108) T = some r) : Looks (model pw w) h (isInstance (.ref a) T) r := by
  unfold isInstance
  refine ((Looks.ld (part := none) ho).andThen ?_).andThen (looks_subIn X e)
  rw [hc]
  exact .now
theorem book_type {h : Heap} {a : Addr} {o : Obj} (ho : h.get? a = some o) (hc : o.cls = .ref 108) : Looks (model pw w) h (typeOf (.ref a)) (.ref 108) := by
  refine (Looks.ld (part := none) ho).andThen ?_
  rw [hc]
  exact .now
theorem cev_dictNew (B : Base w Bh) {h : Heap} (kb : Kp Bh h) {P : Value → Heap → Prop} (p : ∀ a dd h', 353 < a → Only [] h h' → h.get? a = none → h.get? dd = none → a ≠ dd → h'.get? a = some ⟨.ref 108, some dd, .dict #[] 0, #[]⟩ → h'.get? dd = some dictO0 → P (.ref a) h') :
    CEv (model pw w) A (.call (.builtin "dict.__new__") ⟨[.ref 108, .type "list"], []⟩) h P := by
  have X := B.X.keeps kb
  refine cev_builtin (b := Builtin.«dict.__new__») (by decide +kernel) entry_dict_new' ?_
  refine Ev.looks (Looks.of_peek X (r := ()) (by kernel_rfl)) ?_
  unfold Builtin.«dict.__new__»
  refine Ev.bind (Ev.looks (Looks.of_peek X (r := true) (by kernel_rfl)) ?_)
  simp only [Bool.not_true, Bool.false_eq_true, if_false]
  refine Ev.bind (Ev.looks (Looks.of_peek X (r := true) (by kernel_rfl)) ?_)
  simp only [Bool.not_true, Bool.false_eq_true, if_false]
  refine Ev.bind (Ev.looks (Looks.of_peek X (r := [.ref 108, .type "collections.defaultdict", .type "dict", .type "object"]) (by kernel_rfl)) ?_)
  rw [if_neg (by decide)]
  refine Ev.bind (Ev.alloc ?_)
  have X2 : (K w.params).In (h.push dictO0) := X.keeps fun b o e => Heap.get?_push_of_some _ e
  have en : newObj (.ref 108) (.dict #[]) (some h.objs.size) = newObjAsIs (.ref 108) (.dict #[]) (some h.objs.size) := by
    unfold newObj
    show (if (0 : Nat) > sizeLine + 1 then _ else _) = _
    rw [if_neg (by decide)]
  rw [en]
  unfold newObjAsIs
  refine Ev.bind (Ev.bind (Ev.alloc ?_))
  have X3 : (K w.params).In ((h.push dictO0).push ⟨.ref 108, some h.objs.size, .dict #[] 0, #[]⟩) := X2.keeps fun b o e => Heap.get?_push_of_some _ e
  refine Ev.bind (Ev.looks (Looks.of_peek X3 (r := false) (by kernel_rfl)) ?_)
  have hsz : (h.push dictO0).objs.size = h.objs.size + 1 := Heap.size_push ..
  refine Ev.pure (Ev.pure ⟨_, rfl, p _ h.objs.size _ (by rw [hsz]; exact Nat.lt_succ_of_lt (Heap.lt_size (X 353 _ rfl))) (only_push.trans only_push) ?_ (Heap.get?_none_of_le (Nat.le_refl _)) ?_ (Heap.get?_push_size _ rfl) (Heap.get?_push_of_some _ (Heap.get?_push_size _ rfl))⟩)
  · rw [hsz]; exact Heap.get?_none_of_le (Nat.le_succ _)
  · rw [hsz]; exact Nat.succ_ne_self _
theorem cev_ddInit (B : Base w Bh) {h : Heap} (kb : Kp Bh h) {a dd : Addr} (ha : h.get? a = some ⟨.ref 108, some dd, .dict #[] 0, #[]⟩) {P : Value → Heap → Prop} (p : ∀ h', Only [a] h h' → h'.get? a = some (bookO dd #[] 0) → Kp Bh h' → P .none h') (hBa : Bh.get? a = none) :
    CEv (model pw w) A (.call (.builtin "collections.defaultdict.__init__") ⟨[.ref a, .type "list"], []⟩) h P := by
  have X := B.X.keeps kb
  refine cev_sub (owner := "collections.defaultdict") (n := "__init__") (by decide +kernel) entry_dd_init (by decide +kernel) (by first | exact .inl (by decide +kernel) | exact .inr (by decide +kernel)) (book_inst X ha rfl (by kernel_rfl)) (by unfold argsOk; kernel_rfl) ?_
  unfold Builtin.«collections.defaultdict.__init__»
  show Ev _ _ (if (Value.type "list" != Value.none) = true then _ else _) _ _
  rw [if_pos (by decide)]
  refine Ev.bind (Ev.looks (Looks.of_peek X (r := some (.builtin "type.__call__")) (by kernel_rfl)) ?_)
  simp only [Option.isNone_some, Bool.false_eq_true, if_false]
  refine Ev.bind ?_
  unfold slotAt
  refine Ev.bind (Ev.loadPart ha (Ev.pure ?_))
  refine Ev.bind ?_
  unfold Builtin.Collections_defaultdict.setFactory
  unfold slotAt
  refine Ev.bind (Ev.bind (Ev.loadPart ha (Ev.pure ?_)))
  show Ev _ _ (if (some (Option.getD (Option.join (#[] : Array (Option Value))[0]?) Value.none) != some (Value.type "list")) = true then _ else _) _ _
  rw [if_pos (by decide)]
  refine Ev.bind ?_
  unfold slotLetsGo
  refine Ev.pure ?_
  unfold setSlotAt
  rw [if_neg (by decide)]
  refine Ev.updatePart ha ?_
  simp only [List.head?_cons]
  have g1 : (h.update a fun o => { o with slots := (o.slots ++ Array.replicate (0 + 1 - o.slots.size) none).setIfInBounds 0 (some (.type "list")) }).get? a = some (bookO dd #[] 0) := Heap.get?_update_self _ ha rfl
  have o1 : Only [a] h (h.update a fun o => { o with slots := (o.slots ++ Array.replicate (0 + 1 - o.slots.size) none).setIfInBounds 0 (some (.type "list")) }) := only_update
  generalize (h.update a fun o => { o with slots := (o.slots ++ Array.replicate (0 + 1 - o.slots.size) none).setIfInBounds 0 (some (.type "list")) }) = h1 at g1 o1 ⊢
  have kb1 : Kp Bh h1 := fun b o e => o1 b o (fun q => by rw [List.mem_singleton.mp q, hBa] at e; cases e) (kb _ _ e)
  have X1 := B.X.keeps kb1
  refine Ev.bind (Ev.holding (Ev.runValue (cev_direct (by decide +kernel) entry_dict_init' ?_)))
  unfold Builtin.«dict.__init__» Builtin.Dict.selfAndRest Builtin.Dict.notOrdered
  rw [if_pos (by decide)]
  refine Ev.bind (Ev.bind ?_)
  show Ev _ _ (typeOf (.ref a) >>= _) _ _
  refine Ev.bind (Ev.looks (book_type g1 rfl) ?_)
  rw [if_pos (by decide)]
  refine Ev.bind (Ev.looks (book_inst X1 g1 rfl (r := false) (by kernel_rfl)) ?_)
  simp only [Bool.false_eq_true, if_false]
  refine Ev.pure (Ev.bind (Ev.pure (Ev.pure ?_)))
  show Ev _ _ (Builtin.Dict.updateCommon "dict.__init__" "dict" a [] []) _ _
  unfold Builtin.Dict.updateCommon Builtin.Dict.addKeywords
  refine Ev.bind (Ev.pure (Ev.pure ⟨_, rfl, Ev.pure ⟨_, rfl, p h1 o1 g1 kb1⟩⟩))
noncomputable abbrev tcB : Code := .builtin "type.__call__" ⟨[.ref 108, .type "list"], []⟩
/-- `FreezableDefaultDict(list)` -/
theorem cev_bookNew (B : Base w Bh) {h : Heap} (kb : Kp Bh h) {P : Value → Heap → Prop} (p : ∀ a dd h', 353 < a → Only [] h h' → h.get? a = none → h.get? dd = none → a ≠ dd → h'.get? a = some (bookO dd #[] 0) → h'.get? dd = some dictO0 → P (.ref a) h') :
    CEv (model pw w) A (.call (.ref 108) ⟨[.type "list"], []⟩) h P := by
  intro R s hs hQ
  subst hs
  have X := B.X.keeps kb
  refine codeAny_of_tree ?_
  show wpAny _ _ (callAny (.ref 108) _) _ _ _
  refine wpAny_bind (wpAny_load (X 108 _ rfl) ?_)
  show wpAny _ _ (callAny.viaDunder (.ref 108) _) _ _ _
  unfold callAny.viaDunder
  refine wpAny_bind ((Looks.of_peek X (r := some (.builtin "type.__call__")) (by kernel_rfl)).here ?_)
  dsimp only
  refine wpAny_bind ((Looks.of_peek X (r := (.builtin "type.__call__", [.ref 108])) (by kernel_rfl)).here ?_)
  refine wpAny_bind (wpAny_pure ?_)
  refine wpAny_pure (a := Fin.again (.call (.builtin "type.__call__") ⟨[.ref 108, .type "list"], []⟩)) (And.intro rfl ?_)
  refine codeAny_call_builtin_at (Code.quiet_builtin _ (by decide +kernel)) PySem.F.entry_type_call (check_slot (by decide +kernel) (by decide +kernel) (n := "__call__") (owner := "type") (Looks.of_peek X (by kernel_rfl)) (tc_args _ _ _) ?_)
  unfold Builtin.«type.__call__»
  show wpAny _ (A.under tcB) (mroOf (.ref 108) >>= _) _ _ _
  refine wpAny_bind ((Looks.of_peek X (r := [.ref 108, .type "collections.defaultdict", .type "dict", .type "object"]) (by kernel_rfl)).here ?_)
  show wpAny _ (A.under tcB) (Bind.madeBy (.ref 108) >>= _) _ _ _
  refine wpAny_bind ((Looks.of_peek X (r := some "dict.__new__") (by kernel_rfl)).here ?_)
  refine wpAny_bind (wpAny_pure (wpAny_bind (wpAny_holding ?_)))
  have z : Ev (model pw w) (A.under tcB) (call (.builtin "dict.__new__") [.ref 108, .type "list"]) s.heap fun obj h1 => ∃ a dd, obj = .ref a ∧ 353 < a ∧ Only [] s.heap h1 ∧ s.heap.get? a = none ∧ s.heap.get? dd = none ∧ a ≠ dd ∧ h1.get? a = some ⟨.ref 108, some dd, .dict #[] 0, #[]⟩ ∧ h1.get? dd = some dictO0 :=
    Ev.call (cev_dictNew B kb fun a dd h1 lt o n1 n2 n3 g1 g2 => ⟨a, dd, rfl, lt, o, n1, n2, n3, g1, g2⟩)
  refine z _ _ _ rfl fun obj h1 tk q => ?_
  obtain ⟨a, dd, rfl, lt, o1, n1, n2, n3, g1, g2⟩ := q
  have kb1 := kb.trans' o1.kp
  have X1 := B.X.keeps kb1
  refine wpAny_bind ((book_inst X1 g1 rfl (r := true) (by kernel_rfl)).here ?_)
  simp only [Bool.not_true, Bool.false_eq_true, if_false]
  refine wpAny_bind (wpAny_holding ?_)
  unfold callSpecial?
  refine wpAny_bind (wpAny_bind ((book_type g1 rfl).here ((looks_findIn X1 (r := some (.builtin "collections.defaultdict.__init__")) (by kernel_rfl)).here ?_)))
  refine wpAny_holding ?_
  rw [slot_dd_init.bind]
  refine wpAny_bind (wpAny_pure (wpAny_bind ?_))
  have ka : Bh.get? a = none := none_of_kp' kb n1
  have z2 : Ev (model pw w) (A.under tcB) (call (.builtin "collections.defaultdict.__init__") [.ref a, .type "list"]) h1 fun v h2 => v = .none ∧ Only [a] h1 h2 ∧ h2.get? a = some (bookO dd #[] 0) :=
    Ev.call (cev_ddInit B kb1 g1 (fun h2 o2 g3 kb2 => ⟨rfl, o2, g3⟩) ka)
  refine z2 _ _ _ rfl fun v h2 tk2 q => ?_
  obtain ⟨rfl, o2, g3⟩ := q
  refine wpAny_pure (wpAny_pure ?_)
  have na : ∀ {b o}, s.heap.get? b = some o → b ≠ a := fun e q => by rw [q, n1] at e; cases e
  exact hQ _ h2 tk2 (p a dd h2 lt (fun b o _ e => o2 _ _ (nin1 (na e)) (o1 _ _ nin0 e)) n1 n2 n3 g3 (o2 _ _ (nin1 n3.symm) g2))
end Mine
open PySem PySem.W PyProof.Rows PySem.Calls
set_option maxRecDepth 100000
set_option maxHeartbeats 1000000
set_option linter.unusedVariables false
namespace Mine
/-! ## trees that run somewhere above the claim's caller -/
noncomputable def Cal (Γ : Ctx) : Prop := ∃ x ∈ Γ.below, x.1.isCaller = true
theorem Cal.enter {Γ : Ctx} (h : Cal Γ) (c : Code) (hd : Option Value) (p : Pos) : Cal (Γ.enter c hd p) := let ⟨x, hx, e⟩ := h; ⟨x, .tail _ hx, e⟩
noncomputable def wpC {α : Type} (M : Model) (A : Around) (t : Sem α) (Q : α → Shared → Prop) (E : Value → Shared → Prop) (s : Shared) : Prop :=
  ∀ Γ p, Γ.In A → Cal Γ → Sem.wp M Γ t (fun a _ s' => Q a s') (fun e _ s' => E e s') p s
noncomputable def codeC (M : Model) (A : Around) (c : Code) (R : Result → Shared → Prop) (s : Shared) : Prop := ∀ Γ p, Γ.code = c → Γ.Below A → Cal Γ → wpCode M Γ R p s
section
variable {α β : Type} {M : Model} {A : Around} {E : Value → Shared → Prop} {s : Shared}
theorem wpC.of {t : Sem α} {Q : α → Shared → Prop} (h : wpAny M A t Q E s) : wpC M A t Q E s := fun Γ p hΓ _ => h Γ p hΓ
theorem wpC.mono {t : Sem α} {Q Q' : α → Shared → Prop} {E' : Value → Shared → Prop} (h : wpC M A t Q E s) (hQ : ∀ a s, Q a s → Q' a s) (hE : ∀ e s, E e s → E' e s) : wpC M A t Q' E' s :=
  fun Γ p hΓ hC => Sem.wp_mono M Γ t (fun a _ s => hQ a s) (fun e _ s => hE e s) p s (h Γ p hΓ hC)
theorem wpC.bind {m : Sem α} {f : α → Sem β} {Q : β → Shared → Prop} (h : wpC M A m (fun a s' => wpC M A (f a) Q E s') E s) : wpC M A (m >>= f) Q E s := fun Γ p hΓ hC => by
  rw [Sem.wp_bind']
  exact Sem.wp_mono M Γ m (fun a p' s' h' => h' Γ p' hΓ hC) (fun _ _ _ h' => h') p s (h Γ p hΓ hC)
theorem wpC.holding {vs : List Value} {m : Sem α} {Q : α → Shared → Prop} (h : wpC M A m Q E s) : wpC M A (holding vs m) Q E s := fun Γ p hΓ hC => by rw [Sem.wp_holding]; exact h Γ p hΓ hC
theorem wpC.keep {vs : List Value} {m : Sem α} {Q : α → Shared → Prop} (h : wpC M A m Q E s) : wpC M A (m.keep vs) Q E s := fun Γ p hΓ hC => by rw [Sem.wp_keep]; exact h Γ p hΓ hC
theorem wpC.onRaise {m : Sem α} {k : Value → Sem Unit} {Q : α → Shared → Prop} (h : wpC M A m Q (fun e s' => wpC M A (k e) (fun _ s'' => E e s'') E s') s) : wpC M A (m.onRaise k) Q E s := fun Γ p hΓ hC => by
  rw [Sem.wp_onRaise]
  exact Sem.wp_mono M Γ m (fun _ _ _ h' => h') (fun e p' s' h' => h' Γ p' hΓ hC) p s (h Γ p hΓ hC)
theorem wpC.attempt {m : Sem α} {Q : Except Value α → Shared → Prop} (h : wpC M A m (fun a => Q (.ok a)) (fun e => Q (.error e)) s) : wpC M A m.attempt Q E s := fun Γ p hΓ hC => by
  rw [Sem.wp_attempt]; exact h Γ p hΓ hC
theorem wpC.run {c : Code} {h : Option Value} {Q : Flow → Shared → Prop} (hc : codeC M (A.mark h) c (fun r s' => match r with | .ok f => Q f s' | .error e => E e s') s) (hnb : h ≠ some byPass := by intro x; cases x) : wpC M A (run c h) Q E s :=
  fun Γ p hΓ hC => by rw [Sem.wp_run]; exact hc _ p rfl (hΓ.enter c h p hnb) (hC.enter c h p)
theorem wpC.call {f : Value} {pos : List Value} {kw : List (Str × Value)} {Q : Value → Shared → Prop} (hc : codeC M A (.call f ⟨pos, kw⟩) (fun r s' => match r with | .ok (.ret v) => Q v s' | .ok _ => False | .error e => E e s') s) :
    wpC M A (call f pos kw) Q E s := fun Γ p hΓ hC => by
  show Sem.wp M Γ (runValue (.call f ⟨pos, kw⟩)) _ _ p s
  rw [Sem.wp_runValue]; exact hc _ p rfl (hΓ.enter _ none p (by intro x; cases x)) (hC.enter _ none p)
theorem codeC.of_tree {c : Code} {R : Result → Shared → Prop} (h : wpC M (A.under c) (M.den c) (fun fin s' => match fin with | .done f => R (.ok f) s' | .again c' => c'.quiet = true ∧ codeC M A c' R s') (fun e s' => R (.error e) s') s) : codeC M A c R s := fun Γ p hc hΓ hC => by
  rw [wpCode_iff_wp, hc]
  refine Sem.wp_mono M Γ _ (fun fin p' s' h' => ?_) (fun _ _ _ h' => h') p s (h Γ p (hc ▸ hΓ.in) hC)
  cases fin with
  | done f => exact h'
  | again c' => exact ⟨h'.1, h'.2 (Γ.goto c') p' rfl (hΓ.goto c') hC⟩
theorem codeC.loop {c : Code} {R : Result → Shared → Prop} (hq : c.quiet = true) (I : Nat → Shared → Prop)
    (turn : ∀ n s, I n s → wpC M (A.under c) (M.den c) (fun fin s' => match fin with | .done f => R (.ok f) s' | .again c' => c' = c ∧ ∃ m, m < n ∧ I m s') (fun e s' => R (.error e) s') s) (n : Nat) (h : I n s) : codeC M A c R s := by
  induction n using Nat.strongRecOn generalizing s with
  | ind n ih =>
    refine codeC.of_tree ((turn n s h).mono (fun fin s' hf => ?_) fun _ _ h' => h')
    cases fin with
    | done f => exact hf
    | again c' => obtain ⟨rfl, m, hm, hI⟩ := hf; exact ⟨hq, ih m hm hI⟩
end
/-- what follows a step that is told for any stack -/
theorem wpC.first {α β : Type} {M : Model} {A : Around} {E : Value → Shared → Prop} {s : Shared} {m : Sem α} {f : α → Sem β} {Q : β → Shared → Prop} (h : wpAny M A m (fun a s' => wpC M A (f a) Q E s') E s) : wpC M A (m >>= f) Q E s := wpC.bind (wpC.of h)
section
variable {M : Model} {A : Around} {E : Value → Shared → Prop} {s : Shared} {env : Env}
theorem wpC.execs_cons {st : Stmt} {rest : List Stmt} {Q : Flow → Shared → Prop} (h : wpC M A (exec st env) (fun f s' => match f with | .next => wpC M A (execs rest env) Q E s' | f => Q f s') E s) : wpC M A (execs (st :: rest) env) Q E s := by
  rw [PySem.execs_cons]
  refine wpC.bind (h.mono (fun f s' h' => ?_) fun _ _ h' => h')
  cases f <;> first | exact h' | exact wpC.of (wpAny_pure h')
theorem wpC.Return_some {e : Expr} {pos : Pos} {Q : Flow → Shared → Prop} (h : wpC M A (eval e env) (fun v => Q (.ret v)) E s) : wpC M A (exec (.Return (some e) pos) env) Q E s := fun Γ p hΓ hC => by
  simp only [exec_Return_some, Sem.wp_bind', Sem.wp_cmd_standAt, Sem.wp_pure']; exact h Γ _ hΓ hC
theorem wpC.Try_except {prog : Program} {w : World} {body orelse : List Stmt} {h₀ : ExceptHandler} {hs : List ExceptHandler} {pos : Pos} {Q : Flow → Shared → Prop}
    (h : wpC (model prog w) A (execs body env) (fun f s₁ => match f with | .next => wpC (model prog w) A (execs orelse env) Q E s₁ | f => Q f s₁)
      (fun e s₁ => wpAny (model prog w) A (noteFrame e env) (fun _ s₂ => wpAny (model prog w) A (setFlight e none) (fun _ s₃ => wpAny (model prog w) A (handleBy e env (h₀ :: hs)) Q E s₃) E s₂) E s₁) s) :
    wpC (model prog w) A (exec (.Try body (h₀ :: hs) orelse [] pos) env) Q E s := by
  rw [arm_exec_Try]
  refine wpC.first (wpAny_standAt ?_)
  unfold tryStmt
  simp only [List.isEmpty_nil, if_true, List.isEmpty_cons, Bool.false_and, Bool.false_eq_true, if_false]
  refine wpC.bind (wpC.attempt (h.mono (fun f s₁ h₁ => ?_) fun e s₁ h₁ => ?_))
  · cases f <;> first | exact h₁ | exact wpC.of (wpAny_pure h₁)
  · exact wpC.of (wpAny_bind (wpAny_mono h₁ (fun _ _ h₂ => wpAny_bind h₂) fun _ _ x => x))
theorem wpC.callWith {f : Value} {first : List Value} {pos : Pos} {Q : Value → Shared → Prop} {args : List (Bool × Sem Value)} {keywords : List (Option Str × Sem Value)}
    (h : wpAny M A (evalArgs f true args keywords) (fun a s₁ => Keeps M s₁.heap f ∧ wpC M A (PySem.call f (first ++ a.pos) a.kw) Q E s₁) E s) : wpC M A (callWith pos f first args keywords) Q E s := by
  unfold PySem.callWith
  refine wpC.first (wpAny_holding (wpAny_mono h (fun a s₁ h₁ => ?_) fun _ _ x => x))
  obtain ⟨⟨k, hk, L⟩, hc⟩ := h₁
  refine wpC.first (wpAny_standAt ?_)
  dsimp only
  refine wpC.first (L.here ?_)
  have tail : ∀ {t : Sem Value}, wpC M A t Q E s₁ → wpC M A (t >>= fun r => PySem.holding [r] point >>= fun _ => pure r) Q E s₁ :=
    fun ht => wpC.bind (ht.mono (fun r s₂ hr => wpC.of (wpAny_bind (wpAny_holding (wpAny_point (wpAny_pure hr))))) fun _ _ x => x)
  have marked (mk : Value) : wpC M A (callMarked mk f (first ++ a.pos) a.kw) Q E s₁ := by unfold callMarked; exact wpC.keep hc
  have oper (vs : List Value) : wpC M A (operate vs (PySem.call f (first ++ a.pos) a.kw)) Q E s₁ := by
    unfold PySem.operate
    refine wpC.bind (wpC.holding (hc.mono (fun r s₂ hr => wpC.first (fun Γ p' hΓ => ?_)) fun _ _ x => x))
    rw [Sem.wp_release]
    exact wpC.of (wpAny_pure hr)
  rcases hk with rfl | rfl | rfl <;> cases (args.any (fun x => x.1) || keywords.any fun x => x.1.isNone) <;> dsimp only <;> first | exact tail hc | exact tail (marked _) | exact tail (oper _) | (split <;> first | exact tail hc | exact tail (marked _))
end
end Mine
open PySem PySem.W PyProof.Rows PySem.Calls
set_option maxRecDepth 100000
set_option maxHeartbeats 1000000
set_option linter.unusedVariables false
namespace Mine
/-! ## the statement, from a call that knows the claim's caller below it -/
noncomputable abbrev Γc : Ctx := ⟨.builtin "claim.caller" {}, none, none, [], none⟩
theorem cal_enter (c : Code) (p : Pos) : Cal (Γc.enter c none p) := ⟨(.builtin "claim.caller" {}, p), .head _, rfl⟩
/-- the thread of a claim, its call told by a post R -/
theorem wp_thread {prog : Program} {w : World} {name : Str} {vs : List Value} {s : Shared} {mg : Str → Option Value} {f : Value} {R : Result → Shared → Prop} (hg : s.heap.Ns mainGlobals mg) (hf : mg name = some f)
    (h : codeC (model prog w) callerA (.call f ⟨vs, []⟩) (fun r s' => match r with | .ok (.ret v) => R (.ok (.ret v)) s' | .ok _ => False | .error e => R (.error e) s') s) :
    Sem.wp (model prog w) Γc (callStub name vs).cur (Sem.finPost (model prog w) Γc R) (fun e _ s' => R (.error e) s') default s := by
  show Sem.wp (model prog w) Γc (nsGet mainNs name >>= _) _ _ default s
  rw [Sem.wp_bind']
  refine (wpAny_nsGet (M := model prog w) (A := callerA) (E := fun e s' => R (.error e) s') (Q := fun r s' => ∀ p, Sem.wp (model prog w) Γc (match r with
      | some f => do PySem.ret (← PySem.call f vs)
      | none => unsupported "claim.caller:no-such-global") (Sem.finPost (model prog w) Γc R) (fun e _ s' => R (.error e) s') p s') hg ?_) Γc default caller_in |> fun z => Sem.wp_mono _ _ _ (fun _ p' _ x => x p') (fun _ _ _ x => x) _ _ z
  rw [hf]
  intro p
  show Sem.wp (model prog w) Γc (runValue (.call f ⟨vs, []⟩) >>= fun v => PySem.ret v) _ _ p s
  rw [Sem.wp_bind', Sem.wp_runValue]
  refine wpCode_mono (fun r s' q => ?_) (h _ p rfl (caller_in.enter _ none p (by intro x; cases x)) (cal_enter _ p))
  rcases r with e | (_ | _ | _ | v) <;> exact q
theorem callFrom_c {c : ClaimW} {name : Str} {w : World} {s : Shared} {free : Addr → Prop} {gens : Prop} {kept : Heap → Prop} (hz : s.asleep) (hgens : s.gens = #[])
    (hspec : ∀ args, c.pre args = true → WData.layableAll args = true → ∀ ord : List DictEntry → List DictEntry, (∀ l, (ord l).Perm l) →
      ∃ vs s₁ mg f, layAllW c.records (classAt s.heap) w.params ord args s = some (vs, s₁) ∧ s₁.heap.Ns mainGlobals mg ∧ mg name = some f ∧
        codeC (model c.prog w) callerA (.call f ⟨vs, []⟩) (fun r s' => match r with
          | .ok (.ret v) => c.Ends s args vs s₁ (.ok (.ret v)) s' ∧ s'.os = s.os ∧ AllBare s'.gens ∧ kept s'.heap
          | .ok _ => False
          | .error e => c.Ends s args vs s₁ (.error e) s' ∧ s'.os = s.os ∧ AllBare s'.gens ∧ kept s'.heap) s₁) : c.CallFrom (callStub name) w free gens kept s := by
  intro args hpre hlay ord hord
  obtain ⟨vs, s₁, mg, f, hlaid, hns, hf, hcode⟩ := hspec args hpre hlay ord hord
  have hal := layAllW_rest _ _ _ hlaid
  obtain ⟨k, r, s'', s', hsched, hrun, hfo, hcase, hos, hkp⟩ := wp_halts_full (M := model c.prog w) (R := fun r s' => c.Ends s args vs s₁ r s' ∧ s'.os = s.os ∧ kept s'.heap) (Shared.asleep_of_life hal.2.2.2 hz)
    (wp_thread (R := fun r s' => (c.Ends s args vs s₁ r s' ∧ s'.os = s.os ∧ kept s'.heap) ∧ leftWithCleanup s'.gens = false) hns hf (fun Γ p e hb hc => wpCode_mono (fun r s' q => by
      rcases r with e | (_ | _ | _ | v)
      · exact ⟨⟨q.1, q.2.1, q.2.2.2⟩, leftWithCleanup_false_of_bare q.2.2.1⟩
      · exact q
      · exact q
      · exact q
      · exact ⟨⟨q.1, q.2.1, q.2.2.2⟩, leftWithCleanup_false_of_bare q.2.2.1⟩) (hcode Γ p e hb hc)))
  obtain ⟨eh, _, _, eo, _⟩ := Shared.forget_eq hfo
  have hcase := hcase.congr eh
  rw [← eh] at hkp
  rw [← eo] at hos
  have hlife : s'.heap.life = s.heap.life := (runN_life _ _ _ hrun).trans hal.2.2.2
  refine ⟨vs, s₁, hlaid, k, _, s', hsched, ?_, (fun _ i x hx => by rw [hgens] at hx; simp at hx), hkp, by rw [hlife], Shared.rest_eq hos⟩
  rcases hcase with ⟨v, rfl, d1, d2, d3, d4, d5⟩ | ⟨e, ob, cls, rfl, d1, d2, d3, d4, d5⟩
  · exact .inl ⟨v, rfl, d1, d2, d3, fun b o y _ => d4 b o y, d5⟩
  · exact .inr ⟨e, ob, cls, rfl, d1, d2, d3, d4, fun b o y _ => d5 b o y⟩
/-- `holds_open`, its call told under the claim's caller -/
theorem holds_c {r : OpenRow} {q : Program} {loose : List Str} {Xt : Shared → Bool} {XP : (Str → Option Value) → Heap → Prop} {α : Type} {Yf : Shared → α} {Ya : World → α} {YP : World → Heap → Prop} {d : DefRec} {kwd : List (Str × Expr)} {N : Nat}
    (left : LeftO r.prog q loose Xt Yf Ya N) (hY : ∀ w s, Yf s = Ya w → YP w s.heap) (hYk : ∀ w h h', YP w h → Kp h h' → YP w h')
    (hX : ∀ s, Xt s = true → XP (s.heap.nsMap mainGlobals) s.heap) (hXk : ∀ mg h h', XP mg h → Kp h h' → XP mg h')
    (hdef : defOf q r.name = some (d, kwd)) (hp : r.prog.theDef r.name = some (d.params, d.body, d.scope)) (hk : kwWritten? d.params.kwonlyargs d.params.kw_defaults = some kwd) (hRf : ∀ s, Xt s = true → RecFacts r.records s.heap) (hwr : (!r.writes || r.records.isEmpty) = true)
    (k1 : r.wellSaid = true) (ok : (chainsOk q && opensWell r.prog && (frees r.toRowW && r.within.isEmpty)) = true) (hb : r.prog.bare) (hw : r.toRowW.promised)
    (call : ∀ (w : World) (s₀ s₁ : Shared) (mg mb : Str → Option Value), Ground q loose r.records XP w s₀ mg mb s₁.heap → YP w s₁.heap → ∀ (a : Addr) (o : Obj) (pm cd doc dV kV : Value), s₁.heap.get? a = some o →
      o.data = .func { docDef d.name d.params d.body d.scope pm cd doc with defaults := dV, kwdefaults := kV } → s₁.heap.CodeRec cd d.name → Dflts mg s₁.heap d.params kwd dV kV → mg d.name = some (.ref a) → s₁.gens = #[] →
      ∀ (args : List WData) (vals : List Value) (as : List Addr), r.toRowW.claim.pre args = true → WData.layableAll args = true → ReadsAllW r.records (classAt s₀.heap) s₁.heap vals args as → WellAll w.params s₁.heap vals args → (∀ a ∈ as, (a == sysModules) = false) →
        codeC (model r.prog w) callerA (.call (.ref a) ⟨vals, []⟩) (fun res s' => match res with
          | .ok (.ret v) => GoodWG r.toRowW.claim (classAt s₀.heap) (ExcName.means s₀.heap) args s₁ (.ok (.ret v)) s'
          | .ok _ => False
          | .error e => GoodWG r.toRowW.claim (classAt s₀.heap) (ExcName.means s₀.heap) args s₁ (.error e) s') s₁) : r.Holds := by
  obtain ⟨ok, k5⟩ := Bool.and_eq_true_iff.mp ok
  obtain ⟨hch, o1⟩ := Bool.and_eq_true_iff.mp ok
  obtain ⟨k5, k6⟩ := Bool.and_eq_true_iff.mp k5
  obtain ⟨hsame, hu, ha, hap, hm⟩ := frees_parts k5
  refine ⟨k1, hw, ⟨hb, o1, by show r.toRowW.makers.map _ = []; rw [hm]; rfl⟩, hw.witness, fun w => ⟨(left.behind hX hch w).1, fun s' hs' => ?_⟩⟩
  obtain ⟨s₀, hf, hg0, s, hT, hz, hgens, hg, G00, y⟩ := (left.behind (XP := fun mg h => XP mg h ∧ RecFacts r.records h) (fun s hs => ⟨hX s hs, hRf s hs⟩) hch w).2 s' hs'
  have G0 : Ground q loose [] XP w s (s.heap.nsMap mainGlobals) (s.heap.nsMap builtinsNs) s.heap := ⟨G00.T, G00.B, G00.D, G00.TE, G00.TD, G00.W, G00.X.1, G00.cls, G00.has, G00.apart, G00.once, G00.K⟩
  have RF := G00.X.2
  have hT' := hT
  refine ⟨s₀, hf, hg0, s, hT, fun n hn => ?_, RF.1, RF.2.1, ?_⟩
  · obtain rfl : n = r.name := by split at hn <;> simp_all
    exact pinned_of_view hg G0 hdef hp hk
  have hgens : s.gens = #[] := Array.eq_empty_of_size_eq_zero (beq_iff_eq.mp hgens)
  have G : Ground q loose r.records XP w s _ _ s.heap := RF.ground G0
  refine callFrom_c (c := r.toRowW.claim) hz hgens fun args hpre hlay ord hord => ?_
  obtain ⟨⟨vs, s₁⟩, hlaid⟩ := Option.isSome_iff_exists.mp (layAllW_isSome (P := w.params) (ord := ord) G.has args r.args s (pre_splitW hpre).1)
  have keeps := layAllW_keeps _ _ _ hlaid
  have hal := layAllW_rest _ _ _ hlaid
  obtain ⟨as, hrd, hin, hold⟩ := reads_layAllW hord _ _ _ hlaid hlay s₁.heap (fun _ _ e => e)
  have L : Laid r.records w s s₁ args vs as := ⟨⟨ord, hord, hlaid⟩, hrd, hin, hold, keeps, hal.1.trans hgens, hal.2.2.1⟩
  have G₁ := G.keeps hXk keeps
  obtain ⟨a, o, pm, cd, doc, dV, kV, h1, h2, h3, h4, h5⟩ := G₁.fn hdef
  have h := call w s s₁ _ _ G₁ (hYk _ _ _ (hY w s y) keeps) a o pm cd doc dV kV h2 h3 h4 h5 (defOf_name hdef ▸ h1) L.gens args vs as hpre hlay L.reads L.well (L.low G.low)
  have hi := ident_freeW hu ha hap
  have hwi : r.toRowW.claim.within = [] := List.isEmpty_iff.mp k6
  refine ⟨vs, s₁, _, .ref a, hlaid, G₁.T.g, h1, fun Γ p e hb hc => wpCode_mono (fun res s' g => ?_) (h Γ p e hb hc)⟩
  rcases res with e | (_ | _ | _ | v)
  · have z := g.laid (c := r.toRowW.claim) hsame hwi hi L
    exact ⟨z.1, z.2.1, z.2.2, fun q => ⟨namesKept_of hT' hg r.keeps keeps g.2.1.old, noTable hwr q⟩⟩
  · exact g
  · exact g
  · exact g
  · have z := g.laid (c := r.toRowW.claim) hsame hwi hi L
    exact ⟨z.1, z.2.1, z.2.2, fun q => ⟨namesKept_of hT' hg r.keeps keeps g.2.1.old, noTable hwr q⟩⟩
end Mine
open PySem PySem.W PyProof.Rows PySem.Calls
set_option maxRecDepth 100000
set_option maxHeartbeats 1000000
set_option linter.unusedVariables false
namespace Mine
variable {w : World} {A : Around} {Bh : Heap}
/-! ## the binder refuses: a TypeError; the mark in the statics is not laid under the claim's caller -/
structure Refused (h h' : Heap) (e t : Addr) (v : Value) : Prop where
  only : Only [] h h'
  e0 : h.get? e = none
  t0 : h.get? t = none
  he : h'.get? e = some { cls := .type "TypeError", data := .fields #[.ref t, .none, .none, .none, .bool false, .none] }
  ht : h'.get? t = some { cls := .type "tuple", data := .seq #[v] }
theorem wp_refuses {α : Type} {M : Model} {msg : String} {E : Value → Shared → Prop} {Q : α → Shared → Prop} {s : Shared} (hh : A.handled = none) (hm : (msg : Str).length ≤ sizeLine)
    (p : ∀ h' tk e t v, Refused s.heap h' e t v → E (.ref e) { s with heap := h', toks := tk }) : wpC M A (theBinderRefuses msg : Sem α) Q E s := by
  unfold theBinderRefuses
  refine wpC.first (wpAny_mkStr (wpC.first ?_) hm)
  unfold newExc newTuple
  refine wpAny_bind (wpAny_newObj_type ?_)
  refine wpAny_bind (m := firstArgMember _ _) (wpAny_of_eq (a := Value.none) (by simp only [firstArgMember, plainExc_TypeError.first]; rfl) ?_)
  rw [plainExc_TypeError.own]
  refine wpAny_newObj_type ?_
  have o1 : Only [] s.heap ((s.heap.push { cls := .type "tuple", data := .seq #[.str msg s.toks] }).push { cls := .type "TypeError", data := .fields #[.ref s.heap.objs.size, .none, .none, .none, .bool false, .none] }) := only_push.trans only_push
  have e1 := Heap.get?_push_size (h := s.heap.push { cls := .type "tuple", data := .seq #[.str msg s.toks] }) (o := { cls := .type "TypeError", data := .fields #[.ref s.heap.objs.size, .none, .none, .none, .bool false, .none] }) rfl
  have t1 : ((s.heap.push { cls := .type "tuple", data := .seq #[.str msg s.toks] }).push { cls := .type "TypeError", data := .fields #[.ref s.heap.objs.size, .none, .none, .none, .bool false, .none] }).get? s.heap.objs.size = some { cls := .type "tuple", data := .seq #[.str msg s.toks] } := Heap.get?_push_of_some _ (Heap.get?_push_size _ rfl)
  have e0 : s.heap.get? (s.heap.push { cls := .type "tuple", data := .seq #[.str msg s.toks] }).objs.size = none := Heap.get?_none_of_le (by rw [Heap.size_push]; exact Nat.le_succ _)
  have t0 : s.heap.get? s.heap.objs.size = none := Heap.get?_none_of_le (Nat.le_refl _)
  generalize (s.heap.push { cls := .type "tuple", data := .seq #[.str msg s.toks] }).objs.size = e at e1 e0 ⊢
  generalize s.heap.objs.size = t at e1 t1 t0 o1 ⊢
  show wpC M A (markTheRefusal [] (.ref e) >>= fun _ => raiseNew (.ref e)) Q E { s with heap := (s.heap.push { cls := .type "tuple", data := .seq #[.str msg s.toks] }).push { cls := .type "TypeError", data := .fields #[.ref t, .none, .none, .none, .bool false, .none] }, toks := s.toks + 1 }
  generalize (s.heap.push { cls := .type "tuple", data := .seq #[.str msg s.toks] }).push { cls := .type "TypeError", data := .fields #[.ref t, .none, .none, .none, .bool false, .none] } = h1 at e1 t1 o1 ⊢
  have fin : ∀ tk, wpAny M A (raiseNew (.ref e) : Sem α) Q E { s with heap := h1, toks := tk } := fun tk => by
    unfold raiseNew
    refine wpAny_bind (wpAny_handled ?_)
    rw [hh]
    first
      | refine wpAny_throw ?_
      | refine wpAny_bind (wpAny_pure (wpAny_throw ?_))
    exact p h1 tk e t _ ⟨o1, e0, t0, e1, t1⟩
  refine wpC.bind (fun Γ p' hΓ hC => ?_)
  unfold markTheRefusal
  rw [Sem.wp_bind']
  show Sem.wp M Γ (if pythonCodeMadeTheCall [] (((Γ.code, p') :: Γ.below).map (·.1)) = true then _ else _) _ _ p' _
  have hc : pythonCodeMadeTheCall [] (((Γ.code, p') :: Γ.below).map (·.1)) = false := by
    obtain ⟨x, hx, e⟩ := hC
    unfold pythonCodeMadeTheCall
    simp only [Bool.and_eq_false_iff, Bool.not_eq_false']
    exact .inl (.inl (List.any_eq_true.mpr ⟨x.1, List.mem_map_of_mem (.tail _ hx), e⟩))
  rw [if_neg (by rw [hc]; exact Bool.false_ne_true)]
  exact wpC.of (fin _)
end Mine
open PySem PySem.W PyProof.Rows PySem.Calls
set_option maxRecDepth 100000
set_option maxHeartbeats 1000000
set_option linter.unusedVariables false
namespace Mine
variable {w : World} {A : Around} {Bh : Heap}
theorem codeC.call_function {prog : Program} {R : Result → Shared → Prop} {s : Shared} {a : Addr} {args : Args} {o : Obj} {fd : FuncData} {body : List Stmt} (hroom : A.depth < recursionLimit) (ho : s.heap.get? a = some o)
    (hd' : o.data = .func fd) (hco : fd.scope.isCoroutine = false) (hgen : fd.scope.isGenerator = false) (hbody : fd.body = .stmts body) (hcd : s.heap.CodeRec fd.code fd.qualname)
    (h : wpC (model prog w) A.in1 (bindArgs fd args) (fun binds s₁ => wpAny (model prog w) A.in1 (newFunctionEnv fd.scope fd.globals fd.closure binds (fd.qualname ++ ".<locals>.") (some a) fd.code none fd.builtins)
        (fun env s₂ => s₂.heap.NoLimit ∧ codeC (model prog w) A (.func body env) R s₂) (fun e s' => R (.error e) s') s₁) (fun e s' => R (.error e) s') s) : codeC (model prog w) A (.call (.ref a) args) R s := by
  refine codeC.of_tree ?_
  show wpC _ A.in1 (callAny (.ref a) args) _ _ s
  simp only [callAny]
  refine wpC.first (wpAny_load ho ?_)
  obtain ⟨c, oc, vs, tq, hc, hoc, hdc, hq⟩ := hcd
  simp only [hd', callFunction, hco, hgen, hbody, hc]
  rw [hc] at h
  refine wpC.first (m := field (.ref c) 1) (wpAny_field hoc hdc hq (wpC.first (wpAny_pure ?_)))
  exact wpC.bind (h.mono (fun binds s₁ h₁ => wpC.first (wpAny_mono h₁ (fun env s₂ h₂ => wpC.first (wpAny_enterFrame h₂.1 hroom (wpC.of (wpAny_pure (And.intro rfl h₂.2))))) fun _ _ h' => h')) fun _ _ h' => h')
theorem new_refused (B : Base w Bh) {s : Shared} (kb : Kp Bh s.heap) (hh : A.handled = none) (room : A.depth < recursionLimit) {v : Value} {R : Result → Shared → Prop}
    (p : ∀ h' tk e t u, Refused s.heap h' e t u → R (.error (.ref e)) { s with heap := h', toks := tk }) : codeC (model pw w) A (.call (.ref 130) ⟨[.ref 203, v], []⟩) R s := by
  refine codeC.call_function room (kb _ _ (B.X 130 _ rfl)) rfl rfl rfl rfl ⟨129, _, _, _, rfl, kb _ _ (B.X 129 _ rfl), rfl, rfl⟩ ?_
  show wpC _ _ (rule "call.bind.missing-positional" >>= fun _ => _) _ _ _
  refine wpC.first (wpAny_rule ?_)
  show wpC _ _ ((theBinderRefuses _ : Sem PUnit) >>= fun _ => _) _ _ _
  refine wpC.bind (wp_refuses hh ?_ fun h' tk e t u r => p h' tk e t u r)
  exact Nat.le_trans (Nat.le_of_eq (m := 62) (by kernel_rfl)) (by rw [sizeLine_eq]; decide)
end Mine
open PySem PySem.W PyProof.Rows PySem.Calls
set_option maxRecDepth 100000
set_option maxHeartbeats 1000000
set_option linter.unusedVariables false
namespace Mine
variable {w : World} {A : Around} {Bh : Heap}
/-! ## a call of a def of the text that may raise -/
theorem code_fn (B : Base w Bh) {s : Shared} (kb : Kp Bh s.heap) {n : Nat} (room : Room A (n + 1)) {fa c : Addr} {st : Stmt} {qual name : Str} {params : Arguments} {body : List Stmt} {deco : List Expr} {ret : Option Expr} {tp : List TypeParam} {scope : Scope} {ts : Option Scope} {bind : Str} {pos : Pos}
    {cl : List (Str × Addr)} {dV kV doc pm ct : Value} {an : Option Addr} {vs : Array Value} {t : Tok} {args : Args} {R : Result → Shared → Prop} (binds : List (Str × Value))
    (hf : (K w.params).lookup fa = some ⟨.type "function", none, .func (fdOf st qual cl dV kV doc pm an (.ref c) ct), #[]⟩) (hc : (K w.params).lookup c = some ⟨.type "code", none, .fields vs, #[]⟩) (hq : vs[1]? = some (.str qual t))
    (hst : st = .FunctionDef name params body deco ret tp scope ts bind pos) (hk : scope.kind = .function) (hco : scope.isCoroutine = false) (hgen : scope.isGenerator = false)
    (hbind : BindsTo s (fdOf st qual cl dV kV doc pm an (.ref c) ct) args binds) (hcell : cellFree scope.names = true) (hloc : allLocal scope.names binds = true)
    (hb : ∀ L h₁ tk, Room (A.deeper (fenv scope cl qual L fa (.ref c))) n → Kp s.heap h₁ → s.heap.get? L = none → h₁.Ns L (fun x => binds.reverse.lookup x) →
      wpC (model pw w) (A.deeper (fenv scope cl qual L fa (.ref c))) (execs body (fenv scope cl qual L fa (.ref c))) (fun f s' => R (.ok (.ret (flowV f))) s')
        (fun e s' => wpAny (model pw w) (A.deeper (fenv scope cl qual L fa (.ref c))) (leaving (fenv scope cl qual L fa (.ref c)) e) (fun _ s'' => R (.error e) s'') (fun e' s'' => R (.error e') s'') s') { s with heap := h₁, toks := tk }) :
    codeC (model pw w) A (.call (.ref fa) args) R s := by
  subst hst
  have hcd : s.heap.CodeRec (.ref c) qual := ⟨c, _, vs, t, rfl, kb _ _ (B.X c _ hc), rfl, hq⟩
  refine codeC.call_function (fd := fdOf (.FunctionDef name params body deco ret tp scope ts bind pos) qual cl dV kV doc pm an (.ref c) ct) (body := body) room.lim (kb _ _ (B.X fa _ hf)) rfl hco hgen rfl hcd (wpC.of (hbind _ _ _ _ ?_))
  refine wpAny_newFunctionEnv (cellFree_of hcell) (allLocal_of hloc) (fun h₀ hns₀ hsb₀ => ⟨(B.nolim.keeps kb).fresh _ hsb₀, ?_⟩) hk
  have hk₁ : Kp s.heap h₀ := fun b o e => hsb₀.extBut b o (Nat.ne_of_lt (Heap.lt_size e)) (Heap.get?_push_of_some _ e)
  refine codeC.of_tree ?_
  show wpC _ (A.deeper (fenv scope cl qual s.heap.objs.size fa (.ref c))) (do point; match ← (execs body (fenv scope cl qual s.heap.objs.size fa (.ref c))).onRaise (leaving (fenv scope cl qual s.heap.objs.size fa (.ref c))) with | .ret v => PySem.ret v | _ => PySem.ret .none) _ _ _
  refine wpC.first (wpAny_point (wpC.bind (wpC.onRaise ((hb s.heap.objs.size h₀ _ (room.deeper _) hk₁ (Heap.get?_none_of_le (Nat.le_refl _)) hns₀).mono (fun f s' q => ?_) fun _ _ q => wpC.of q))))
  cases f <;> exact wpC.of (wpAny_pure q)
theorem wp_mcall {M : Model} {E : Value → Shared → Prop} {env : Env} {o : Expr} {name : Str} {apos pos : Pos} {es : List Expr} {pl : Sem Bool} {s : Shared} {Q : Value → Shared → Prop} (G : Value → List Value → Heap → Prop)
    (x : Ev M A (eval o env) s.heap fun ov h1 => Ev M A (getMethod ov name pl) h1 fun fx h2 => EvL M A env es h2 fun vs h3 => Keeps M h3 fx.1 ∧ G fx.1 (fx.2 ++ vs) h3)
    (k : ∀ f vs h3 tk, G f vs h3 → wpC M A (call f vs) Q E { s with heap := h3, toks := tk })
    (he : starEach es env = plainEach env es := by rfl) (hc : eval (.Call (.Attribute o name apos) es [] pos) env = (do
      let ov ← eval o env
      standAt apos.atName
      let (f, first) ← holding [ov] (getMethod ov name pl)
      callWith pos f first (backTo pos (starEach es env)) (backToKw pos (keywordEach [] env))) := by rfl) : wpC M A (eval (.Call (.Attribute o name apos) es [] pos) env) Q E s := by
  rw [hc]
  refine wpC.first (x E _ s rfl fun ov h1 t1 y => wpC.first (wpAny_standAt (wpC.first (wpAny_holding (y _ _ _ rfl fun fx h2 t2 z => ?_)))))
  obtain ⟨f, first⟩ := fx
  show wpC M A (callWith pos f first (backTo pos (starEach es env)) []) Q E _
  rw [he]
  refine wpC.callWith ?_
  have z' : wpAny M A (spliced (backTo pos (plainEach env es))) (fun vs s₁ => Keeps M s₁.heap f ∧ wpC M A (call f (first ++ vs) []) Q E s₁) E { s with heap := h2, toks := t2 } :=
    ev_spliced z _ _ _ rfl fun vs h3 tk y => ⟨y.1, k _ _ _ _ y.2⟩
  cases es with
  | nil => exact evalArgs_nil3 ⟨(show Keeps M h2 f ∧ G f (first ++ []) h2 from z).1, k _ _ _ _ (show Keeps M h2 f ∧ G f (first ++ []) h2 from z).2⟩
  | cons e es => exact evalArgs_plain z'
theorem star_callC {M : Model} {env : Env} {func e : Expr} {sp pos : Pos} {Q : Value → Shared → Prop} {E : Value → Shared → Prop} {s : Shared}
    (x : wpAny M A (eval func env) (fun f s1 => wpAny M A (eval e env) (fun v s2 => StarOf M A E v (fun vs s3 => Keeps M s3.heap f ∧ wpC M A (call f vs) Q E s3) s2) E s1) E s)
    (he : starEach [.Starred e sp] env = [(true, eval e env)] := by rfl)
    (hc : eval (.Call func [.Starred e sp] [] pos) env = (do callWith pos (← eval func env) [] (backTo pos (starEach [.Starred e sp] env)) (backToKw pos (keywordEach [] env))) := by rfl) :
    wpC M A (eval (.Call func [.Starred e sp] [] pos) env) Q E s := by
  rw [hc]
  refine wpC.first (wpAny_mono x (fun f s1 y => ?_) fun _ _ z => z)
  show wpC M A (callWith pos f [] (backTo pos (starEach [.Starred e sp] env)) []) Q E s1
  rw [he]
  exact wpC.callWith (ks_lone y)
/-! ## the frames below, a raise in flight -/
noncomputable def Stk (h : Heap) (l : List Env) : Prop := ∀ env ∈ l, env.scope.kind ≠ .module ∧ ∃ L m, env.frame = some L ∧ h.Ns L m
noncomputable abbrev frs (l : List Env) : List Addr := l.filterMap (·.frame)
theorem frs_mem {l : List Env} {env : Env} {L : Addr} (he : env ∈ l) (hf : env.frame = some L) : L ∈ frs l := List.mem_filterMap.mpr ⟨env, he, hf⟩
theorem stk_fun {h base : Heap} : ∀ {l : List Env}, Stk h l → (∀ L ∈ frs l, base.get? L = none) → h.FunFrames base l
  | [], _, _ => trivial
  | env :: l, S, hb => by
    obtain ⟨hk, L, m, hf, ⟨o, es, ep, ho, hd, _⟩⟩ := S env (.head _)
    refine ⟨hk, ⟨L, o, hf, hb L (frs_mem (.head _) hf), ho, fun vs q => by rw [hd] at q; cases q⟩, stk_fun (fun e he => S e (.tail _ he)) fun L' hL' => ?_⟩
    obtain ⟨e, he, hf'⟩ := List.mem_filterMap.mp hL'
    exact hb L' (frs_mem (.tail _ he) hf')
theorem stk_cons {h h3 : Heap} {outer : List Env} {env : Env} {L : Addr} {m : Str → Option Value} (S : Stk h outer) (k : Kp h h3) (hk : env.scope.kind ≠ .module) (hf : env.frame = some L) (ns : h3.Ns L m) : Stk h3 (env :: outer) := fun env' he => by
  rcases List.mem_cons.mp he with rfl | he
  · exact ⟨hk, L, m, hf, ns⟩
  · obtain ⟨a, L', m', b, ns'⟩ := S env' he
    exact ⟨a, L', m', b, ns'.keeps k⟩
structure Thrown (h : Heap) (outer : List Env) (base h' : Heap) (e : Addr) : Prop where
  fl : ∃ a0, Heap.FlyingW base outer e (.type "TypeError") a0 h'
  kp : ∀ b o, b ∉ frs outer → h.get? b = some o → base.get? b = some o
  ns : ∀ L m, h.Ns L m → h'.Ns L m
/-- a frame is left by a fresh TypeError -/
theorem thrown {M : Model} {h h4 h5 : Heap} {outer : List Env} {env : Env} {L e t : Addr} {u : Value} {m : Str → Option Value} {E : Value → Shared → Prop} {Q : Unit → Shared → Prop} {s : Shared} (hs : s.heap = h5) (fr : A.frames = some (env :: outer)) (S : Stk h outer) (k4 : Kp h h4) (hk : env.scope.kind ≠ .module) (hf : env.frame = some L)
    (nL : h.get? L = none) (nsL : h4.Ns L m) (r : Refused h4 h5 e t u) (p : ∀ h' base, Thrown h outer base h' e → Q () { s with heap := h' }) : wpAny M A (leaving env (.ref e)) Q E s := by
  subst hs
  have fr0 : ∀ {b : Addr} {o : Obj}, h4.get? b = some o → b ∉ [e, t] := fun ho q => by
    rcases List.mem_cons.mp q with rfl | q
    · rw [r.e0] at ho; cases ho
    · rw [List.mem_singleton.mp q, r.t0] at ho; cases ho
  have k5 : Kp h4 (hideAll s.heap [e, t]) := fun b o ho => hideAll_get _ (r.only.kp _ _ ho) (fr0 ho)
  have hx : Heap.MadeExcOf (hideAll s.heap [e, t]) s.heap e (.type "TypeError") [u] := ⟨hide_kp, hideAll_none _ (.head _), t, r.he, hideAll_none _ (.tail _ (.head _)), r.ht⟩
  refine wpAny_leaves_madeW (base := hideAll s.heap ([e, t] ++ L :: frs outer)) fr hf (fun b o q => hideAll_get _ (of_hideAll _ q) fun z => by rw [hideAll_none _ (List.mem_append_left _ z)] at q; cases q)
    (stk_fun (stk_cons (h := h) S (k4.trans' k5) hk hf (nsL.keeps k5)) fun L' hL' => hideAll_none _ (List.mem_append_right _ (by
      obtain ⟨e', he', hf'⟩ := List.mem_filterMap.mp hL'
      rcases List.mem_cons.mp he' with rfl | he'
      · rw [hf] at hf'; rw [Option.some.inj hf']; exact .head _
      · exact .tail _ (frs_mem he' hf')))) hx fun h' t' fl _ _ up => p h' _ ⟨⟨_, fl⟩, fun b o nb ho => ?_, fun L' m ns => up.ns (ns.keeps (k4.trans' r.only.kp))⟩
  have h4b := k4 _ _ ho
  refine hideAll_get _ (r.only.kp _ _ h4b) fun q => ?_
  rcases List.mem_append.mp q with q | q
  · exact fr0 h4b q
  · rcases List.mem_cons.mp q with q | q
    · rw [q, nL] at ho; cases ho
    · exact nb q
end Mine
open PySem PySem.W PyProof.Rows PySem.Calls
set_option maxRecDepth 100000
set_option maxHeartbeats 1000000
set_option linter.unusedVariables false
namespace Mine
variable {w : World} {A : Around} {Bh : Heap}
theorem codeC.call_builtin {prog : Program} {R : Result → Shared → Prop} {s : Shared} {id : String} {args : Args} {b : Builtin} (hq : (Code.builtin id args).quiet = true) (hb : entryFor table id = some b)
    (h : wpAny (model prog w) A.in1 (checkBuiltinCall id args) (fun _ s₁ => wpC (model prog w) (A.under (.builtin id args)) (b args) (fun fin s' => match fin with | .done f => R (.ok f) s' | .again c' => c'.quiet = true ∧ codeC (model prog w) A c' R s') (fun e s' => R (.error e) s') s₁)
      (fun e s' => R (.error e) s') s) : codeC (model prog w) A (.call (.builtin id) args) R s := by
  refine codeC.of_tree ?_
  show wpC _ A.in1 (do checkBuiltinCall id args; again (.builtin id args)) _ _ s
  refine wpC.first (wpAny_mono h (fun _ s₁ h₁ => wpC.of (wpAny_pure (And.intro hq (codeC.of_tree ?_)))) fun _ _ h' => h')
  show wpC _ _ (match entryFor table id with | some b => b args | none => unsupported ((withoutEnding? id "#data").getD id)) _ _ s₁
  rw [hb]; exact h₁
/-- the class Pair called, its `__new__` raises -/
theorem pair_refused (B : Base w Bh) {rest : List Value} {R : Result → Shared → Prop} {s : Shared} (kb : Kp Bh s.heap)
    (hn : wpC (model pw w) (A.under (tcC rest)) (call (.ref 130) (.ref 203 :: rest)) (fun _ _ => False) (fun e s' => R (.error e) s') { s with toks := s.toks + 1 }) : codeC (model pw w) A (.call (.ref 203) ⟨rest, []⟩) R s := by
  have X := B.X.keeps kb
  refine codeC.of_tree ?_
  show wpC _ _ (callAny (.ref 203) _) _ _ _
  refine wpC.first (wpAny_load (X 203 _ rfl) ?_)
  show wpC _ _ (callAny.viaDunder (.ref 203) _) _ _ _
  unfold callAny.viaDunder
  refine wpC.first ((Looks.of_peek X (r := some (.builtin "type.__call__")) (by kernel_rfl)).here ?_)
  dsimp only
  refine wpC.first ((Looks.of_peek X (r := (.builtin "type.__call__", [.ref 203])) (by kernel_rfl)).here ?_)
  refine wpC.first (wpAny_pure ?_)
  refine wpC.of (wpAny_pure (a := Fin.again (.call (.builtin "type.__call__") ⟨.ref 203 :: rest, []⟩)) (And.intro rfl ?_))
  refine codeC.call_builtin (Code.quiet_builtin _ (by decide +kernel)) PySem.F.entry_type_call (check_slot (by decide +kernel) (by decide +kernel) (n := "__call__") (owner := "type") (Looks.of_peek X (by kernel_rfl)) (tc_args _ _ _) ?_)
  unfold Builtin.«type.__call__»
  show wpC _ (A.under (tcC rest)) (mroOf (.ref 203) >>= _) _ _ _
  refine wpC.first ((Looks.of_peek X (r := [.ref 203, .ref 180, .type "tuple", .type "object"]) (by kernel_rfl)).here ?_)
  show wpC _ (A.under (tcC rest)) (Bind.madeBy (.ref 203) >>= _) _ _ _
  refine wpC.first ((Looks.of_peek X (r := none) (by kernel_rfl)).here ?_)
  show wpC _ (A.under (tcC rest)) (getAttr (.ref 203) "__new__" >>= _) _ _ _
  refine wpC.first ?_
  refine cls_bindS (g := .builtin "staticmethod.__get__") (a := .ref 181) (obj := .none) (tp := .ref 203) X (B.st.keeps kb) (by kernel_rfl) (by kernel_rfl) (by kernel_rfl) (by kernel_rfl) (wpAny_call (sm_get (f := .ref 130) (rest := []) (s := { s with toks := s.toks + 1 }) X (by kernel_rfl) ?_))
  refine handed_on rfl ?_
  exact wpC.bind (wpC.holding (hn.mono (fun obj s' q => q.elim) fun _ _ e => e))
/-- `Pair.parse` -/
theorem parse_code (B : Base w Bh) {s : Shared} (kb : Kp Bh s.heap) (room : Room A 7) {x : Str} {t : Tok} {l : List Str} (hx : x.length < 60) (hl : Txt.splitMax x "=" 1 = l) (hs : ∀ y ∈ l, y.length ≤ 60) {R : Result → Shared → Prop} {outer : List Env} (fr : A.frames = some outer) (S : Stk s.heap outer)
    (hc : (∃ a b, l = [a, b]) ∨ ∃ a, l = [a])
    (ok : ∀ a b, l = [a, b] → ∀ o h' tk t u, Only [] s.heap h' → IsPairN s.heap h' o (.str (Txt.strip a) t) (.str (Txt.strip b) u) → R (.ok (.ret (.ref o))) { s with heap := h', toks := tk })
    (no : ∀ a, l = [a] → ∀ h' tk e base, Thrown s.heap outer base h' e → R (.error (.ref e)) { s with heap := h', toks := tk }) :
    codeC (model pw w) A (.call (.ref 197) ⟨[.ref 203, .str x t], []⟩) R s := by
  refine code_fn B kb (n := 6) room (fa := 197) (c := 196) [("cls", .ref 203), ("text", .str x t)] rfl rfl rfl rfl rfl rfl rfl (BindsTo.of_eq (by rfl)) rfl rfl ?_
  intro L h₁ tk Rm k1 nL ns1
  have kb1 := kb.trans' k1
  have hn : l.length < 60 := by rcases hc with ⟨a, b, rfl⟩ | ⟨a, rfl⟩ <;> simp
  have F : Fm s.heap L h₁ _ := ⟨ns1, k1, nL⟩
  refine wpC.execs_cons (wpC.Return_some (star_callC ((?_ : Ev (model pw w) _ _ h₁ fun f h => f = .ref 203 ∧ h = h₁) _ _ _ rfl fun f h2 t2 q => ?_)))
  · exact ev_ld F rfl ⟨rfl, rfl⟩
  obtain ⟨rfl, q⟩ := q
  replace q := q.symm
  subst q
  refine (?_ : Ev (model pw w) _ _ h₁ fun v h2 => EvStar (model pw w) _ v h2 fun vs h3 => Only [] h₁ h3 ∧ All2 StrIs vs (l.map Txt.strip)) _ _ _ rfl fun v h2 t2 z => z _ _ _ rfl fun vs h3 t3 y => ⟨.inK B (kb1.trans' y.1.kp) rfl, ?_⟩
  · refine ev_call (ev_bi B kb1 (.type "map") (by rfl) (by rfl) (ev_attr (ev_bi B kb1 (.type "str") (by rfl) (by rfl) (ev_getAttr_strip ?_))))
    refine ev_mcall (he := by rfl) (hc := by rfl) ?_
    refine ev_ld F (v := .str x t) rfl (ev_getMethod_split (ev_str fun t1 => ev_int fun t2 => ⟨.builtin, ev_split hx (by decide) (by rw [hl]; exact hn) fun D h4 ys o4 d4 g4 a4 => ?_⟩))
    rw [hl] at a4
    refine ⟨Keeps.type, ev_map g4 fun M T I h5 o5 gM gT gI nM nT nI MI => ?_⟩
    have ly := a4.len
    have TI : T ≠ I := fun q => by rw [q, gI] at gT; exact absurd (congrArg Obj.cls (Option.some.inj gT)) (by simp)
    have DI : D ≠ I := fun q => by rw [q, nI] at g4; cases g4
    refine ev_star_map gM rfl (ev_collect_map Rm.handled MI TI DI (fun v hv => ?_) (by rw [sizeLine_eq]; omega) gM gT gI ⟨rfl, rfl⟩ (o5 _ _ nin0 g4) fun vs h6 o6 len al => ⟨?_, ?_⟩)
    · obtain ⟨i, hi, e⟩ := List.getElem_of_mem hv
      obtain ⟨y, hy, ⟨t', rfl⟩⟩ := a4.get (List.getElem?_eq_some_iff.mpr ⟨hi, e⟩)
      refine ⟨y, t', rfl, Nat.le_trans (hs y (List.mem_of_getElem? hy)) (by rw [sizeLine_eq]; decide)⟩
    · intro b ob _ e
      refine o6 _ _ ?_ (o5 _ _ nin0 (o4 _ _ nin0 e))
      simp only [List.mem_singleton]
      exact fun q => by rw [q] at e; rw [o4 _ _ nin0 e] at nI; cases nI
    · refine all2_of (by rw [len, ly, List.length_map]) fun j v y hv hy => ?_
      obtain ⟨x', t', u', e1, rfl⟩ := al j v hv
      obtain ⟨y', hy', ⟨t'', e2⟩⟩ := a4.get e1
      rw [List.getElem?_map, hy'] at hy
      obtain rfl := Option.some.inj hy
      cases e2
      exact ⟨u', rfl⟩
  obtain ⟨o3, av⟩ := y
  have kb3 := kb1.trans' o3.kp
  rcases hc with ⟨a, b, rfl⟩ | ⟨a, rfl⟩
  · obtain ⟨v1, v2, rfl, ⟨u1, rfl⟩, ⟨u2, rfl⟩⟩ : ∃ v1 v2, vs = [v1, v2] ∧ StrIs v1 (Txt.strip a) ∧ StrIs v2 (Txt.strip b) := by
      cases av with
      | cons r1 r2 => cases r2 with
        | cons r2 r3 => cases r3 with
          | nil => exact ⟨_, _, rfl, r1, r2⟩
    refine wpC.of (wpAny_call (code_pairCall B kb3 (Ev.call (pairNew_C B kb3 (Room.tc (Rm.le (m := 4) (by omega))) (P := fun v h' => ∃ o, v = .ref o ∧ Only [] h3 h' ∧ IsPairN h3 h' o (.str (Txt.strip a) u1) (.str (Txt.strip b) u2)) fun o h' oo ip => ⟨o, rfl, oo, ip⟩) _ _ _ rfl fun v h' tk' q => ?_)))
    obtain ⟨o, rfl, oo, ip⟩ := q
    refine ⟨o, _, _, rfl, oo.kp, ip.pair, fun tk2 => ?_⟩
    exact ok a b rfl o h' tk2 u1 u2 (Only.of_kp (k1.trans' (o3.kp.trans' oo.kp))) (ip.old (k1.trans' o3.kp))
  · obtain ⟨v1, rfl⟩ : ∃ v1, vs = [v1] := by
      cases av with
      | cons r1 r2 => cases r2 with
        | nil => exact ⟨_, rfl⟩
    refine wpC.call (pair_refused B kb3 (wpC.call ?_))
    have R4 := Room.tc (rest := [v1]) (Rm.le (m := 5) (by omega))
    refine new_refused B kb3 R4.handled R4.lim fun h' tk' e t' u r => ?_
    exact thrown rfl (Around.frames_deeper fr) S (k1.trans' o3.kp) (show ScopeKind.function ≠ ScopeKind.module by decide) rfl nL (ns1.keeps o3.kp) r fun h'' base th => no a rfl h'' tk' e base th
end Mine
open PySem PySem.W PyProof.Rows PySem.Calls
set_option maxRecDepth 100000
set_option maxHeartbeats 1000000
set_option linter.unusedVariables false
namespace Mine
variable {w : World} {A : Around} {Bh : Heap}
/-! ## `_law_parsed` -/
noncomputable def parsedS (x : Str) : Option (Str × Str) := match Txt.splitMax x "=" 1 with
  | [a, b] => some (Txt.strip a, Txt.strip b)
  | _ => none
/-- what `_law_parsed` gives, made behind h0 -/
noncomputable def OptN (h0 h : Heap) (v : Value) : Option (Str × Str) → Prop
  | none => v = .none
  | some p => ∃ o t u, v = .ref o ∧ IsPairN h0 h o (.str p.1 t) (.str p.2 u)
theorem ev_getParse (B : Base w Bh) {h : Heap} (kb : Kp Bh h) {pl : Sem Bool} {P : Value × List Value → Heap → Prop} (p : ∀ q h', Only [] h h' → h'.get? q = some (methodObj (.ref 197) (.ref 203)) → P (.ref q, []) h') :
    Ev (model pw w) A (getMethod (.ref 203) "parse" pl) h P := by
  intro E Q s hs hQ
  subst hs
  have X := B.X.keeps kb
  refine method_cls X (by kernel_rfl) ?_
  refine cls_bindS (g := .builtin "classmethod.__get__") (a := .ref 199) (obj := .none) (tp := .ref 203) X (B.st.keeps kb) (by kernel_rfl) (by kernel_rfl) (by kernel_rfl) (by kernel_rfl) (wpAny_call (cm_get (f := .ref 197) (rest := [.bool false]) (s := { s with toks := s.toks + 1 }) X (by kernel_rfl) ?_))
  refine handed_on rfl ?_
  exact hQ _ _ _ (p _ _ only_push (Heap.get?_push_size _ rfl))
noncomputable def EvC {α : Type} (M : Model) (A : Around) (t : Sem α) (h : Heap) (P : α → Heap → Prop) : Prop :=
  ∀ (E : Value → Shared → Prop) (Q : α → Shared → Prop) (s : Shared), s.heap = h → (∀ a h' tk, P a h' → Q a { s with heap := h', toks := tk }) → wpC M A t Q E s
noncomputable def CEvC (M : Model) (A : Around) (c : Code) (h : Heap) (P : Value → Heap → Prop) : Prop :=
  ∀ (R : Result → Shared → Prop) (s : Shared), s.heap = h → (∀ v h' tk, P v h' → R (.ok (.ret v)) { s with heap := h', toks := tk }) → codeC M A c R s
theorem method_callC {prog : Program} {R : Result → Shared → Prop} {s : Shared} {p : Addr} {f self : Value} {pos : List Value} {kw : List (Str × Value)} (ho : s.heap.get? p = some (methodObj f self)) (h : codeC (model prog w) A (.call f ⟨self :: pos, kw⟩) R s) : codeC (model prog w) A (.call (.ref p) ⟨pos, kw⟩) R s := by
  obtain ⟨hh, g, dr, t, os⟩ := s
  refine codeC.of_tree ?_
  show wpC _ _ (callAny (.ref p) _) _ _ _
  dsimp only at ho
  refine wpC.first (wpAny_load ho ?_)
  cases f <;> exact wpC.of (wpAny_pure ⟨rfl, h⟩)
theorem law_parsed_C {g h : Heap} (X : (K w.params).In g) (bl : ∃ mb, g.Ns builtinsNs mb ∧ ∀ x : Str, x ≠ "__name__" → mb x = bootBuiltins x) (st : StOk g) (kg : Kp g h) {outer : List Env} (fr : A.frames = some outer) (S : Stk h outer) (g0 : ∀ b ∈ frs outer, g.get? b = none) (room : Room A 9)
    {x : Str} {t : Tok} {l : List Str} (hx : x.length < 60) (hl : Txt.splitMax x "=" 1 = l) (hs : ∀ y ∈ l, y.length ≤ 60) (hc : (∃ a b, l = [a, b]) ∨ ∃ a, l = [a]) {P : Value → Heap → Prop}
    (p : ∀ v h', Only (frs outer) h h' → (∀ L m, h.Ns L m → h'.Ns L m) → OptN h h' v (parsedS x) → P v h') :
    CEvC (model pw w) A (.call (.ref 299) ⟨[.str x t], []⟩) h P := by
  intro R s hs' hQ
  subst hs'
  have Bg : Base w g := ⟨X, st, bl⟩
  refine code_fn Bg kg (n := 8) room (fa := 299) (c := 298) [("line", .str x t)] rfl rfl rfl rfl rfl rfl rfl (BindsTo.of_eq (by rfl)) rfl rfl ?_
  intro L h₁ tk Rm k1 nL ns1
  have F : Fm s.heap L h₁ _ := ⟨ns1, k1, nL⟩
  have kg1 := kg.trans' k1
  refine wpC.execs_cons (wpC.Try_except (wpC.execs_cons (wpC.Return_some (wp_mcall (fun f vs h3 => ∃ q, f = .ref q ∧ h3.get? q = some (methodObj (.ref 197) (.ref 203)) ∧ vs = [.str x t] ∧ Only [] h₁ h3) ?_ ?_))))
  · refine ev_glob Bg kg1 (.ref 203) rfl (ev_getParse Bg kg1 fun q h2 o2 g2 => ?_)
    have F2 := Fm.o F o2
    exact ev_ld F2 (v := .str x t) rfl ⟨keeps_M (K := K w.params) (by kernel_rfl) h2 ⟨g2, X.keeps (kg1.trans' o2.kp)⟩, q, rfl, g2, rfl, o2⟩
  rintro f vs h3 tk3 ⟨q, rfl, hq, rfl, o3⟩
  have k3 := k1.trans' o3.kp
  refine wpC.call (method_callC hq (parse_code Bg (kg.trans' k3) (Rm.le (by decide)) hx hl hs (Around.frames_deeper fr) (stk_cons S k3 (show ScopeKind.function ≠ ScopeKind.module by decide) rfl (ns1.keeps o3.kp)) hc (fun a b e o h' tk' t' u' oo ip => ?_) fun a e h' tk' ex base th => ?_))
  · refine hQ _ _ _ (p _ _ (fun b ob nb hb => oo _ _ nin0 (k3 _ _ hb)) (fun L' m ns => ns.keeps (k3.trans' oo.kp)) ?_)
    unfold parsedS
    rw [hl, e]
    exact ⟨o, t', u', rfl, ip.old k3⟩
  · obtain ⟨a0, fl⟩ := th.fl
    refine wpAny_looks_onW (Around.frames_deeper fr) rfl fl fun h4 held up4 => wpAny_landsW held fun h5 fl5 up5 => ?_
    have kp : ∀ b o, b ∉ frs outer → s.heap.get? b = some o → base.get? b = some o := fun b o nb hb => th.kp b o (fun z => by
      obtain ⟨e', he', hf'⟩ := List.mem_filterMap.mp z
      rcases List.mem_cons.mp he' with rfl | he'
      · rw [← Option.some.inj (show some L = some b from hf'), nL] at hb; cases hb
      · exact nb (frs_mem he' hf')) (k3 _ _ hb)
    have kgb : Kp g base := fun b o hb => kp b o (fun z => by rw [g0 b z] at hb; cases hb) (kg _ _ hb)
    have Bb : Base w base := ⟨X.keeps kgb, st.keeps kgb, let ⟨mb, a, b⟩ := bl; ⟨mb, a.keeps kgb, b⟩⟩
    refine wpAny_handleBy_builtin (X := "TypeError") (T := "TypeError") (b := true) (by rw [isSubtype_type]; kernel_rfl) (by rw [isSubtype_type]; kernel_rfl) (by rw [isSubtype_type]; kernel_rfl) ?_
    obtain ⟨ob, hob, hoc⟩ := fl5.there
    refine (?_ : Ev (model pw w) _ _ h5 fun c h6 => c = .type "TypeError" ∧ h6 = h5) _ _ _ rfl fun c h6 tk6 q => ?_
    · exact ev_bi Bb fl5.1 (.type "TypeError") rfl rfl ⟨rfl, rfl⟩
    obtain ⟨rfl, q⟩ := q
    replace q := q.symm
    subst q
    refine ⟨rfl, ⟨ob, hob, hoc⟩, ?_⟩
    refine if_p rfl ?_
    refine lands_againW fl5 fun h6 fl6 up6 => wpAny_execs_cons (wpAny_Return_some ((?_ : Ev (model pw w) _ _ h6 fun v h7 => v = .none ∧ h7 = h6) _ _ _ rfl fun v h7 tk7 q => ?_))
    · exact ev_none ⟨rfl, rfl⟩
    obtain ⟨rfl, q⟩ := q
    replace q := q.symm
    subst q
    refine hQ _ _ _ (p _ _ (fun b ob nb hb => fl6.1 _ _ (kp b ob nb hb)) (fun L' m ns => up6.ns (up5.ns (up4.ns (th.ns L' m (ns.keeps k3))))) ?_)
    unfold parsedS
    rw [hl, e]
    rfl
end Mine
open PySem PySem.W PyProof.Rows PySem.Calls
set_option maxRecDepth 100000
set_option maxHeartbeats 4000000
set_option linter.unusedVariables false
namespace Mine
variable {w : World} {A : Around}
/-! ## comprehensions over lists: what a turn does, told by a function of the item -/
theorem kp_hid {g h : Heap} {X : List Addr} (k : Kp g h) (n : ∀ x ∈ X, g.get? x = none) : Kp g (hideAll h X) := kp_hide k n
theorem fev_list {elt target iter : Expr} {gens : List Comprehension} {scope : Scope} {pos : Pos} {depth : Nat} {acc : Value} {cenv : Env} {ifs : List Expr} {emit : Sem Unit} {I : Addr} {gi h : Heap} {n : Nat} {V : Nat → Value → Prop} {St : Nat → Obj → Prop} {c : String} {P : Heap → Prop}
    (hg : gens[depth]? = some ⟨target, iter, ifs, 0⟩)
    (ht : compTurn (.ListComp elt gens scope pos) depth (.ref I) acc cenv = (do
      standAt iter.pos
      match ← pyNext (.ref I) with
      | none => pure (.done .next)
      | some v =>
        letOwnedTupleGo target (.ref I) v
        assign target cenv v
        let mut ok := true
        for c in ifs do
          if ok then ok ← isTrue c cenv (eval c cenv)
        if ok then emit
        again (.compLoop (.ListComp elt gens scope pos) depth (.ref I) acc cenv)))
    (T : Itr w A I gi n V St c) (J : Nat → Obj → Heap → Prop) (hJ : ∀ i o h, J i o h → Kp gi h ∧ h.get? I = some o)
    (step : ∀ i o h v h' o', i < n → J i o h → V i v → Only [I] h h' → h'.get? I = some o' → o'.cls = .type c → Ev (model pw w) A (letOwnedTupleGo target (.ref I) v) h' fun _ h2 => Ev (model pw w) A (assign target cenv v) h2 fun _ h3 =>
      Ev (model pw w) A (compTests' ifs cenv) h3 fun ok h4 => if ok then Ev (model pw w) A emit h4 fun _ h5 => J (i + 1) o' h5 else J (i + 1) o' h4)
    (fin : ∀ o h h', J n o h → Only [I] h h' → P h') {o : Obj} (st : St 0 o) (h0 : J 0 o h) : FEv w A (.compStart (.ListComp elt gens scope pos) depth (.ref I) acc cenv) h P := by
  refine fev_start hg (fun q => T.self (hJ _ _ _ h0).2 st q) ?_
  refine fev_loop ht (fun d h => ∃ i o, i ≤ n ∧ d = n - i ∧ J i o h ∧ St i o) (fun d h1 => ?_) n ⟨0, o, Nat.zero_le _, by omega, h0, st⟩
  rintro ⟨i, o1, hi, rfl, j1, st1⟩
  obtain ⟨k1, k2⟩ := hJ _ _ _ j1
  by_cases hlt : i < n
  · refine T.item hlt k1 k2 st1 fun v h2 o2 hv ho hI st2 => ?_
    refine (step i o1 h1 v h2 o2 hlt j1 hv ho hI (T.cls st2)).mono fun _ h3 x => x.mono fun _ h4 x => x.mono fun ok h5 x => ?_
    cases ok with
    | false =>
      simp only [Bool.false_eq_true, if_false] at x ⊢
      exact ⟨n - (i + 1), by omega, i + 1, o2, by omega, rfl, x, st2⟩
    | true =>
      simp only [if_true] at x ⊢
      exact x.mono fun _ h6 x => ⟨n - (i + 1), by omega, i + 1, o2, by omega, rfl, x, st2⟩
  · obtain rfl : i = n := by omega
    exact T.done k1 k2 st1 fun h2 ho => fin o1 h1 h2 j1 ho
noncomputable def NewIn (Y : List Addr) (h h' G : Heap) : Prop := ∀ b o, h.get? b = none → b ∉ Y → h'.get? b = some o → G.get? b = some o
theorem NewIn.back {Y Z : List Addr} {h h' h'' G : Heap} (x : NewIn Y h h'' G) (o : Only Z h' h'') (k : ∀ b ∈ Z, b ∈ Y) : NewIn Y h h' G := fun b ob e1 e2 e3 => x b ob e1 e2 (o b ob (fun q => e2 (k b q)) e3)
/-- what stays fixed in a comprehension -/
structure CSt (h1 : Heap) (T Z : List Addr) (Φ : Heap → Prop) (C D : Addr) : Prop where
  hC : h1.get? C = none
  hD : h1.get? D = none
  hDC : D ≠ C
  hT : ∀ t ∈ T, ∃ o, h1.get? t = some o
  hΦ : ∀ a h h', h1.get? a = none → a ∉ Z → Only [a] h h' → Φ h → Φ h'
  hDZ : D ∉ Z
theorem CSt.nT {h1 : Heap} {T Z : List Addr} {Φ : Heap → Prop} {C D a : Addr} (S : CSt h1 T Z Φ C D) (ha : h1.get? a = none) : a ∉ T := fun q => by
  obtain ⟨o, e⟩ := S.hT a q
  rw [ha] at e; cases e
noncomputable def Ex (X Y : List Addr) (h : Heap) : Prop := ∀ x ∈ X, x ∈ Y ∨ ∃ o, h.get? x = some o
structure CJ {β : Type} (h1 gE : Heap) (T : List Addr) (Φ : Heap → Prop) (C D : Addr) (X : List Addr) (R' : Heap → Value → β → Prop) (Km : (Str → Option Value) → Prop) (bs : List β) (h : Heap) : Prop where
  only : Only T h1 h
  phi : Φ h
  fr : ∃ m, h.Ns C m ∧ Km m
  acc : ∃ ys k, h.get? D = some (LO ys k) ∧ ∀ G, Kp gE G → NewIn X h1 h G → SeqL R' G ys bs
  ex : Ex X (C :: T) h
section
variable {β : Type} {h1 gE h h' : Heap} {T Z : List Addr} {Φ : Heap → Prop} {C D I : Addr} {X : List Addr} {R' : Heap → Value → β → Prop} {Km Km' : (Str → Option Value) → Prop} {bs : List β}
theorem ns_only {Y : List Addr} {m : Str → Option Value} (x : Only Y h h') (n : C ∉ Y) (s : h.Ns C m) : h'.Ns C m := by
  obtain ⟨o, es, ep, ho, r⟩ := s
  exact ⟨o, es, ep, x _ _ n ho, r⟩
theorem Ex.only {X Y Z : List Addr} (e : Ex X Y h) (x : Only Z h h') (k : ∀ z ∈ Z, z ∈ Y ∨ ∃ o, h'.get? z = some o) : Ex X Y h' := fun b hb => by
  by_cases hz : b ∈ Z
  · exact k b hz
  · exact (e b hb).imp id fun ⟨o, ho⟩ => ⟨o, x _ _ hz ho⟩
theorem CJ.step (S : CSt h1 T Z Φ C D) (hCX : ∀ b ∈ C :: T, b ∈ X) (j : CJ h1 gE T Φ C D X R' Km bs h) {m' : Str → Option Value} (F : Fm (hideAll h (C :: T)) C h' m') (km : Km' m') (φ : Φ h') : CJ h1 gE T Φ C D X R' Km' bs h' := by
  have o : Only (C :: T) h h' := F.only
  obtain ⟨ys, k, hD, hr⟩ := j.acc
  refine ⟨fun b ob hb e => o b ob (fun q => ?_) (j.only b ob hb e), φ, ⟨m', F.ns, km⟩, ⟨ys, k, o _ _ (fun q => ?_) hD, fun G k1 k2 => hr G k1 (k2.back o hCX)⟩, j.ex.only o fun z hz => .inl hz⟩
  · rcases List.mem_cons.mp q with rfl | q
    · rw [S.hC] at e; cases e
    · exact hb q
  · rcases List.mem_cons.mp q with q | q
    · exact S.hDC q
    · exact S.nT S.hD q
/-- another object, of the comprehension's own, changes -/
theorem CJ.other (S : CSt h1 T Z Φ C D) (j : CJ h1 gE T Φ C D X R' Km bs h) {a : Addr} (ha : h1.get? a = none) (haZ : a ∉ Z) (haX : a ∈ X) (aC : a ≠ C) (aD : a ≠ D) (o : Only [a] h h') (hs : ∃ o, h'.get? a = some o) : CJ h1 gE T Φ C D X R' Km bs h' := by
  obtain ⟨ys, k, hD, hr⟩ := j.acc
  obtain ⟨m, ns, km⟩ := j.fr
  refine ⟨fun b ob hb e => o b ob (fun q => ?_) (j.only b ob hb e), S.hΦ _ _ _ ha haZ o j.phi, ⟨m, ns_only o (by simpa using aC.symm) ns, km⟩, ⟨ys, k, o _ _ (by simpa using aD.symm) hD, fun G k1 k2 => hr G k1 (k2.back o (by simpa using haX))⟩, j.ex.only o fun z hz => ?_⟩
  · rw [List.mem_singleton.mp q, ha] at e; cases e
  · rw [List.mem_singleton.mp hz]; exact .inr hs
theorem CJ.push (S : CSt h1 T Z Φ C D) (j : CJ h1 gE T Φ C D X R' Km bs h) {ys : List Value} {k : Nat} {y : Value} {b : β} (hDX : D ∈ X) (hD : h.get? D = some (LO ys k)) (o : Only [D] h h') (hD' : h'.get? D = some (LO (ys ++ [y]) (k + 1))) (ry : ∀ G, Kp gE G → NewIn X h1 h G → R' G y b) : CJ h1 gE T Φ C D X R' Km (bs ++ [b]) h' := by
  obtain ⟨ys', k', hD2, hr⟩ := j.acc
  rw [hD] at hD2
  have e1 : ys = ys' := by
    have := Option.some.inj hD2
    injection this with _ _ e _
    injection e with e
    simpa using e
  subst e1
  obtain ⟨m, ns, km⟩ := j.fr
  have hu : ∀ {G}, NewIn X h1 h' G → NewIn X h1 h G := fun x => x.back o (allc hDX alln)
  refine ⟨fun b ob hb e => o b ob (fun q => ?_) (j.only b ob hb e), S.hΦ _ _ _ S.hD S.hDZ o j.phi, ⟨m, ns_only o (nin1 S.hDC.symm) ns, km⟩, ⟨_, _, hD', fun G k1 k2 => (hr G k1 (hu k2)).snoc (ry G k1 (hu k2))⟩, j.ex.only o fun z hz => ?_⟩
  · rw [List.mem_singleton.mp q, S.hD] at e; cases e
  · rw [List.mem_singleton.mp hz]; exact .inr ⟨_, hD'⟩
/-- one more hidden object, that no item speaks of, since it is new -/
theorem CJ.more (j : CJ h1 gE T Φ C D X R' Km bs h) (S : CSt h1 T Z Φ C D) {a : Addr} (ha : h.get? a = none) (o : Only [] h h') (hs : ∃ o, h'.get? a = some o) : CJ h1 gE T Φ C D (a :: X) R' Km bs h' := by
  obtain ⟨ys, n, hD, hr⟩ := j.acc
  obtain ⟨m, ns, km⟩ := j.fr
  have ha1 : h1.get? a = none ∨ a ∈ T := by
    by_cases q : a ∈ T
    · exact .inr q
    · refine .inl ?_
      cases e : h1.get? a with
      | none => rfl
      | some ob => rw [j.only _ _ q e] at ha; cases ha
  have ku : ∀ {G}, NewIn (a :: X) h1 h' G → NewIn X h1 h G := fun x b ob e1 e2 e3 => x b ob e1 (fun q => by
    rcases List.mem_cons.mp q with rfl | q
    · rw [ha] at e3; cases e3
    · exact e2 q) (o _ _ nin0 e3)
  refine ⟨fun b ob hb e => o _ _ nin0 (j.only b ob hb e), ?_, ⟨m, ns_only o (by simp) ns, km⟩, ⟨ys, n, o _ _ nin0 hD, fun G k1 k2 => hr G k1 (ku k2)⟩, fun x hx => ?_⟩
  · exact S.hΦ D _ _ S.hD S.hDZ (o.sub sub0) j.phi
  · rcases List.mem_cons.mp hx with rfl | hx
    · exact .inr hs
    · exact (j.ex x hx).imp id fun ⟨ob, e⟩ => ⟨ob, o _ _ nin0 e⟩
end
theorem none_of_only {T : List Addr} {h h' : Heap} {b : Addr} (e : h'.get? b = none) (n : b ∉ T) (o : Only T h h') : h.get? b = none := by
  cases q : h.get? b with
  | none => rfl
  | some ob => rw [o _ _ n q] at e; cases e
/-- one turn of the innermost clause -/
noncomputable def LStep {α β : Type} (w : World) (A : Around) (h1 gE : Heap) (T : List Addr) (Φ : Heap → Prop) (cenv : Env) (target elt : Expr) (ifs : List Expr) (Km : (Str → Option Value) → Prop) (R : Heap → Value → α → Prop) (R' : Heap → Value → β → Prop) (f : α → List β) (as : List α) : Prop :=
  ∀ a v h m, a ∈ as → R gE v a → Only T h1 h → Kp gE h → Fm (hideAll h (cenv.locals :: T)) cenv.locals h m → Km m → Φ h →
    Ev (model pw w) A (assign target cenv v) h fun _ h2 => Ev (model pw w) A (compTests' ifs cenv) h2 fun ok h3 =>
      if ok then Ev (model pw w) A (eval elt cenv) h3 fun y h4 => ∃ b m', f a = [b] ∧ Fm (hideAll h (cenv.locals :: T)) cenv.locals h4 m' ∧ Km m' ∧ Φ h4 ∧ ∀ G, Kp gE G → NewIn (cenv.locals :: T) h h4 G → R' G y b
      else ∃ m', f a = [] ∧ Fm (hideAll h (cenv.locals :: T)) cenv.locals h3 m' ∧ Km m' ∧ Φ h3
noncomputable def OwnOk (w : World) (A : Around) (target : Expr) : Prop := ∀ {h : Heap} {I : Addr} {o : Obj} {v : Value} {P : Unit → Heap → Prop}, h.get? I = some o → o.cls = .type "list_iterator" → P () h → Ev (model pw w) A (letOwnedTupleGo target (.ref I) v) h P
theorem ownName {x : Str} {px : Pos} : OwnOk w A (.Name x px) := fun _ _ p => ev_own_name p
theorem ownTuple {elts : List Expr} {k : Nat} {px : Pos} : OwnOk w A (.Tuple elts k px) := fun ho hc p => ev_own_tuple ho hc (by decide) p
section
variable {α β : Type} {h1 gE : Heap} {T Z : List Addr} {Φ : Heap → Prop} {D : Addr} {R : Heap → Value → α → Prop} {R' : Heap → Value → β → Prop} {Km : (Str → Option Value) → Prop} {f : α → List β}
theorem fev_last {elt target iter : Expr} {gens : List Comprehension} {scope : Scope} {pos : Pos} {depth : Nat} {cenv : Env} {ifs : List Expr} {X : List Addr} (S : CSt h1 T Z Φ cenv.locals D) (own : OwnOk w A target) (hg : gens[depth]? = some ⟨target, iter, ifs, 0⟩)
    {I : Addr} (ht : compTurn (.ListComp elt gens scope pos) depth (.ref I) (.ref D) cenv = (do
      standAt iter.pos
      match ← pyNext (.ref I) with
      | none => pure (.done .next)
      | some v =>
        letOwnedTupleGo target (.ref I) v
        assign target cenv v
        let mut ok := true
        for c in ifs do
          if ok then ok ← isTrue c cenv (eval c cenv)
        if ok then (do let _ ← call (.builtin "list.append") [.ref D, ← eval elt cenv])
        again (.compLoop (.ListComp elt gens scope pos) depth (.ref I) (.ref D) cenv)))
    (hh : A.handled = none) (hX' : ∀ b ∈ cenv.locals :: D :: T, b ∈ X) (nI : I ∉ X) (gX' : ∀ x ∈ X, gE.get? x = none) (kE : Kp gE h1) (hI1 : h1.get? I = none) (IC : I ≠ cenv.locals) (ID : I ≠ D) (IZ : I ∉ Z)
    {hs : Heap} {l : Addr} {xs : List Value} {n : Nat} {as : List α} (hl : (hideAll hs (I :: cenv.locals :: D :: T)).get? l = some (LO xs n)) (hr : SeqL R gE xs as) {o : Obj} (hI : hs.get? I = some o) (st : LSt l 0 o) {bs : List β} (hz : bs.length + (as.flatMap f).length < 64)
    (step : LStep w A h1 gE T Φ cenv target elt ifs Km R R' f as) (j0 : CJ h1 gE T Φ cenv.locals D (I :: X) R' Km bs hs) {P : Heap → Prop}
    (fin : ∀ h', Only (I :: cenv.locals :: D :: T) hs h' → CJ h1 gE T Φ cenv.locals D X R' Km (bs ++ as.flatMap f) h' → P h') : FEv w A (.compStart (.ListComp elt gens scope pos) depth (.ref I) (.ref D) cenv) hs P := by
  have gI : gE.get? I = none := by
    cases e : gE.get? I with
    | none => rfl
    | some o => rw [kE _ _ e] at hI1; cases hI1
  have gX : ∀ x ∈ I :: X, gE.get? x = none := fun x hx => by
    rcases List.mem_cons.mp hx with rfl | hx
    · exact gI
    · exact gX' x hx
  have hX : ∀ b ∈ I :: cenv.locals :: D :: T, b ∈ I :: X := fun b hb => by
    rcases List.mem_cons.mp hb with rfl | hb
    · exact .head _
    · exact .tail _ (hX' b hb)
  have gT : ∀ t ∈ T, gE.get? t = none := fun t q => gX t (hX t (by simp [q]))
  have kEh : ∀ {h}, Only T h1 h → Kp gE h := fun {h} x b ob e => x _ _ (fun q => by rw [gT b q] at e; cases e) (kE _ _ e)
  have IT : I ∉ T := S.nT hI1
  have DT : D ∉ T := S.nT S.hD
  have hCX : ∀ b ∈ cenv.locals :: T, b ∈ I :: X := fun b q => hX b (by rcases List.mem_cons.mp q with rfl | q <;> simp [*])
  have lx : xs.length = as.length := hr.len
  refine fev_list hg ht (Itr.list (g := hideAll hs (I :: cenv.locals :: D :: T)) hh hl) (fun i o' h => Only (I :: cenv.locals :: D :: T) hs h ∧ h.get? I = some o' ∧ CJ h1 gE T Φ cenv.locals D (I :: X) R' Km (bs ++ (as.take i).flatMap f) h) (fun i o' h x => ⟨?_, x.2.1⟩) ?_ ?_ st ⟨Only.refl, hI, by simpa using j0⟩
  · intro b ob e
    exact x.1 _ _ (fun q => by rw [hideAll_none _ q] at e; cases e) (of_hideAll _ e)
  · rintro i o1 h v h2 o2 hi ⟨x1, x2, x3⟩ hv o12 g2 c2
    obtain ⟨a, ha⟩ : ∃ a, as[i]? = some a := ⟨_, List.getElem?_eq_getElem (by omega)⟩
    obtain ⟨v', hv', rv⟩ := hr.at ha
    rw [hv] at hv'
    obtain rfl := Option.some.inj hv'
    have j2 := x3.other S hI1 IZ (hX I (by simp)) IC ID o12 ⟨o2, g2⟩
    obtain ⟨m, ns, km⟩ := j2.fr
    obtain ⟨ys, k, hD, hry⟩ := j2.acc
    have x12 : Only (I :: cenv.locals :: D :: T) hs h2 := x1.trans (o12.sub (subc (.head _) sub0))
    have et : as.take (i + 1) = as.take i ++ [a] := by rw [List.take_add_one, ha]; rfl
    have hzz : bs.length + ((as.take i).flatMap f).length + (f a).length < 64 := by
      have e : as = as.take (i + 1) ++ as.drop (i + 1) := (List.take_append_drop _ _).symm
      have := congrArg (fun z => (z.flatMap f).length) e
      simp only [et, List.flatMap_append, List.length_append, List.flatMap_cons, List.flatMap_nil, List.append_nil] at this
      omega
    have Fs : Fm (hideAll h2 (cenv.locals :: T)) cenv.locals h2 m := ⟨ns, fun b ob e => of_hideAll _ e, hideAll_none _ (.head _)⟩
    have keepI : ∀ {h3 m3}, Fm (hideAll h2 (cenv.locals :: T)) cenv.locals h3 m3 → h3.get? I = some o2 := fun F3 => F3.keep _ _ (hideAll_get _ g2 (by simp [IC, IT]))
    have keepD : ∀ {h3 m3}, Fm (hideAll h2 (cenv.locals :: T)) cenv.locals h3 m3 → h3.get? D = some (LO ys k) := fun F3 => F3.keep _ _ (hideAll_get _ hD (by simp [S.hDC, DT]))
    refine own g2 c2 ((step a v h2 m (List.mem_of_getElem? ha) rv j2.only (kEh j2.only) Fs km j2.phi).mono fun _ h3 y => y.mono fun ok h4 y => ?_)
    cases ok with
    | false =>
      simp only [Bool.false_eq_true, if_false] at y ⊢
      obtain ⟨m', fa, F4, km', φ4⟩ := y
      exact ⟨x12.trans (F4.only.sub (by simp; grind)), keepI F4, by rw [et]; simpa [fa] using j2.step S hCX F4 km' φ4⟩
    | true =>
      simp only [if_true] at y ⊢
      refine ev_emit (ys := ys) (n := k) (by have := (hry (hideAll h2 (I :: X)) (kp_hid (kEh j2.only) gX) fun b ob e1 e2 e3 => hideAll_get _ e3 e2).len; rw [this, List.length_append]; omega) (y.mono fun yv h5 y => ?_)
      obtain ⟨b, m', fa, F5, km', φ5, ry⟩ := y
      have j5 := j2.step S hCX F5 km' φ5
      refine ⟨keepD F5, fun h6 o6 g6 => ⟨(x12.trans (F5.only.sub (by simp; grind))).trans (o6.sub (subc (.tail _ (.tail _ (.head _))) sub0)), o6 _ _ (nin1 ID) (keepI F5), ?_⟩⟩
      have z := j5.push S (hX D (by simp)) (keepD F5) o6 g6 (fun G k1 k2 => ry G k1 fun b ob e1 e2 e3 => k2 b ob (none_of_only e1 (fun q => e2 (.tail _ q)) j2.only) (fun q => ?_) e3)
      · rw [et]
        simpa [fa, List.append_assoc] using z
      · rcases j2.ex b q with q | ⟨ob', q⟩
        · exact e2 q
        · rw [q] at e1; cases e1
  · rintro o1 h h2 ⟨x1, x2, x3⟩ o12
    rw [List.take_of_length_le (by omega)] at x3
    obtain ⟨ys, k, hD, hry⟩ := x3.acc
    obtain ⟨m, ns, km⟩ := x3.fr
    refine fin h2 (x1.trans (o12.sub (by simp))) ⟨fun b ob hb e => o12 b ob (fun q => ?_) (x3.only b ob hb e), S.hΦ _ _ _ hI1 IZ o12 x3.phi, ⟨m, ns_only o12 (by simpa using IC.symm) ns, km⟩, ⟨ys, k, o12 _ _ (by simpa using ID.symm) hD, fun G k1 k2 => hry G k1 fun b ob e1 e2 e3 => k2 b ob e1 (fun q => e2 (.tail _ q)) (o12 _ _ (fun q => e2 (by simp at q; simp [q])) e3)⟩, fun x hx => ?_⟩
    · rw [List.mem_singleton.mp q, hI1] at e; cases e
    · exact (x3.ex x (.tail _ hx)).imp id fun ⟨ob, e⟩ => ⟨ob, o12 _ _ (fun q => nI (by rw [List.mem_singleton.mp q] at hx; exact hx)) e⟩
end
end Mine
open PySem PySem.W PyProof.Rows PySem.Calls
set_option maxRecDepth 100000
set_option maxHeartbeats 4000000
set_option linter.unusedVariables false
namespace Mine
variable {w : World} {A : Around}
section
variable {α β : Type} {h1 gE : Heap} {T : List Addr} {Φ : Heap → Prop} {R : Heap → Value → α → Prop} {R' : Heap → Value → β → Prop} {f : α → List β} {L : Addr} {mE : Str → Option Value} {led : List (Addr × Obj)}
noncomputable abbrev TrueM : (Str → Option Value) → Prop := fun _ => True
noncomputable abbrev ExprPost (P : Value → Heap → Prop) : Addr → Addr → Heap → Prop := fun D C h4 => ∃ m, h4.Ns C m ∧ ∀ h5, Only [C] h4 h5 → P (.ref D) h5
noncomputable abbrev AsgPost (w : World) (A : Around) (env : Env) (yn : Str) (P : Flow → Heap → Prop) : Addr → Addr → Heap → Prop := fun D C h4 => Ev (model pw w) A (storeName env yn (.ref D)) h4 fun _ h5 => ∃ m, h5.Ns C m ∧ ∀ h6, Only [C] h5 h6 → P .next h6
theorem ev_lc {elt target iter : Expr} {ifs : List Expr} {rest : List Comprehension} {scope : Scope} {pos : Pos} {env : Env} {cl : List (Str × Addr)} {h : Heap} {P : Value → Heap → Prop}
    (x : Ev (model pw w) A (eval iter env) h fun xv h1 => Ev (model pw w) A (pyIter xv) h1 fun it h2 => CompAt w A (.ListComp elt (⟨target, iter, ifs, 0⟩ :: rest) scope pos) scope env cl it h2 (ExprPost P))
    (hclos : closureFor scope env = pure cl := by rfl) (hkind : scope.kind = .function := by rfl) (hnames : localsOk scope.names scope.names = true := by rfl) (hs : ∀ x, foldedSetIterable iter env x = pure x := by intro _; rfl) :
    Ev (model pw w) A (eval (.ListComp elt (⟨target, iter, ifs, 0⟩ :: rest) scope pos) env) h P := ev_comp x hclos hkind hnames hs
theorem ev_alc {elt target iter : Expr} {ifs : List Expr} {rest : List Comprehension} {scope : Scope} {pos spos py : Pos} {yn : Str} {env : Env} {cl : List (Str × Addr)} {h : Heap} {P : Flow → Heap → Prop}
    (x : Ev (model pw w) A (eval iter env) h fun xv h1 => Ev (model pw w) A (pyIter xv) h1 fun it h2 => CompAt w A (.ListComp elt (⟨target, iter, ifs, 0⟩ :: rest) scope pos) scope env cl it h2 (AsgPost w A env yn P))
    (hsw : swapsWith (.ListComp elt (⟨target, iter, ifs, 0⟩ :: rest) scope pos) (some (.Name yn py)) spos.line env = pure true := by rfl)
    (hclos : closureFor scope env = pure cl := by rfl) (hkind : scope.kind = .function := by rfl) (hnames : localsOk scope.names scope.names = true := by rfl) (hs : ∀ x, foldedSetIterable iter env x = pure x := by intro _; rfl) :
    Ev (model pw w) A (exec (.Assign [.Name yn py] (.ListComp elt (⟨target, iter, ifs, 0⟩ :: rest) scope pos) spos) env) h P := ev_assign_comp x hsw hclos hkind hnames hs
theorem none_of_kp {g h : Heap} {a : Addr} (k : Kp g h) (e : h.get? a = none) : g.get? a = none := by
  cases q : g.get? a with
  | none => rfl
  | some o => rw [k _ _ q] at e; cases e
theorem lcomp1_at {elt target iter : Expr} {ifs : List Expr} {scope : Scope} {pos : Pos} {env : Env} {cl : List (Str × Addr)} {l : Addr} {xs : List Value} {n : Nat} {as : List α} {X0 : List Addr} (own : OwnOk w A target) (hh : A.handled = none)
    (kE : Kp gE h1) (hX0 : ∀ x ∈ X0, gE.get? x = none ∧ ∃ o, h1.get? x = some o) (hT : ∀ t ∈ T, t ∈ X0) (hΦ : ∀ a h h', h1.get? a = none → Only [a] h h' → Φ h → Φ h') (hΦ0 : ∀ h h', Only [] h h' → Φ h → Φ h') (φ : Φ h1)
    (hl : h1.get? l = some (LO xs n)) (hlT : l ∉ T) (hr : SeqL R gE xs as) (hz : (as.flatMap f).length < 64)
    (step : ∀ C, h1.get? C = none → LStep w A h1 gE T Φ (cenvc scope cl C env) target elt ifs TrueM R R' f as) {Q : Addr → Addr → Heap → Prop}
    (fin : ∀ D C h4, CSt h1 T [] Φ C D → CJ h1 gE T Φ C D (C :: D :: X0) R' TrueM (as.flatMap f) h4 → Q D C h4) :
    Ev (model pw w) A (pyIter (.ref l)) h1 fun it h2 => CompAt w A (.ListComp elt [⟨target, iter, ifs, 0⟩] scope pos) scope env cl it h2 Q := by
  refine ev_iter_list hl fun I h2 o o2 d2 g2 st => ?_
  intro D C h3 o3 d1 dD c1 dc ns nc nd
  have d0 : h1.get? D = none := none_of_kp o2.kp d1
  have c0 : h1.get? C = none := none_of_kp o2.kp c1
  have IC : I ≠ C := fun e => by rw [e, c1] at g2; cases g2
  have ID : I ≠ D := fun e => by rw [e, d1] at g2; cases g2
  have S : CSt h1 T [] Φ C D := ⟨c0, d0, dc, fun t ht => (hX0 t (hT t ht)).2, fun a h h' ha _ => hΦ a h h' ha, by simp⟩
  have o13 : Only [] h1 h3 := o2.trans o3
  have gX : ∀ x ∈ C :: D :: X0, gE.get? x = none := fun x hx => by
    rcases List.mem_cons.mp hx with rfl | hx
    · exact none_of_kp kE c0
    · rcases List.mem_cons.mp hx with rfl | hx
      · exact none_of_kp kE d0
      · exact (hX0 x hx).1
  have nI : I ∉ C :: D :: X0 := fun q => by
    rcases List.mem_cons.mp q with q | q
    · exact IC q
    · rcases List.mem_cons.mp q with q | q
      · exact ID q
      · obtain ⟨o', e⟩ := (hX0 I q).2
        rw [d2] at e; cases e
  have hX' : ∀ b ∈ C :: D :: T, b ∈ C :: D :: X0 := fun b hb => by
    simp only [List.mem_cons] at hb ⊢
    rcases hb with q | q | q
    · exact .inl q
    · exact .inr (.inl q)
    · exact .inr (.inr (hT b q))
  have lI : l ∉ I :: C :: D :: T := fun q => by
    simp only [List.mem_cons] at q
    rcases q with rfl | rfl | rfl | q
    · rw [d2] at hl; cases hl
    · rw [c0] at hl; cases hl
    · rw [d0] at hl; cases hl
    · exact hlT q
  refine fev_last (X := C :: D :: X0) S own rfl (by rfl) hh hX' nI gX kE d2 IC ID (by simp) (hideAll_get _ (o13 _ _ (by simp) hl) lI) hr (o3 _ _ (by simp) g2) st (bs := []) (by simpa using hz) (step C c0)
    ⟨o13.sub sub0, hΦ0 _ _ o13 φ, ⟨_, ns, trivial⟩, ⟨[], 0, dD, fun _ _ _ => .nil⟩, fun x hx => ?_⟩ fun h4 _ j => fin D C h4 S j
  rcases List.mem_cons.mp hx with rfl | hx
  · exact .inr ⟨_, o3 _ _ nin0 g2⟩
  · rcases List.mem_cons.mp hx with rfl | hx
    · exact .inl (.head _)
    · rcases List.mem_cons.mp hx with rfl | hx
      · exact .inr ⟨_, dD⟩
      · obtain ⟨o', e⟩ := (hX0 x hx).2
        exact .inr ⟨o', o13 _ _ nin0 e⟩
theorem led_x0 (F : Fm gE L h1 mE) (N : Nw gE L h1 led) : ∀ x ∈ L :: led.map (·.1), gE.get? x = none ∧ ∃ o, h1.get? x = some o := fun x hx => by
  rcases List.mem_cons.mp hx with rfl | hx
  · obtain ⟨o, _, _, ho, _⟩ := F.ns
    exact ⟨F.off, o, ho⟩
  · obtain ⟨p, hp, rfl⟩ := List.mem_map.mp hx
    exact ⟨(N p hp).2.2, _, (N p hp).1⟩
/-- behind a comprehension, in the frame that holds it -/
theorem crs_after {C D : Addr} {h4 : Heap} {bs : List β} {Km : (Str → Option Value) → Prop} (F : Fm gE L h1 mE) (N : Nw gE L h1 led) (S : CSt h1 [] [] Φ C D) (j : CJ h1 gE [] Φ C D (C :: D :: L :: led.map (·.1)) R' Km bs h4) :
    ∃ ys k, Fm gE L h4 mE ∧ Nw gE L h4 ((D, LO ys k) :: led) ∧ ∀ h5 m5 led', Only (L :: C :: led.map (·.1)) h4 h5 → h5.Ns L m5 → (∀ p ∈ led', p.1 ∈ led.map (·.1) ∧ h5.get? p.1 = some p.2) →
      Fm (hideAll h5 (L :: D :: led.map (·.1))) L h5 m5 ∧ Nw (hideAll h5 (L :: D :: led.map (·.1))) L h5 ((D, LO ys k) :: led') ∧ Kp gE (hideAll h5 (L :: D :: led.map (·.1))) ∧ SeqL R' (hideAll h5 (L :: D :: led.map (·.1))) ys bs ∧ ∀ G, Kp gE G → NewIn [D] h1 h5 G → SeqL R' G ys bs := by
  obtain ⟨ys, k, hD, hr⟩ := j.acc
  have F4 := Fm.o F j.only
  have N4 := Nw.o N j.only
  have x0 := led_x0 F N
  have DL : D ≠ L := fun e => by
    obtain ⟨o, ho⟩ := (x0 L (.head _)).2
    rw [← e, S.hD] at ho; cases ho
  have gD : gE.get? D = none := none_of_kp F.keep S.hD
  have gC : gE.get? C = none := none_of_kp F.keep S.hC
  refine ⟨ys, k, F4, N4.cons hD DL gD, fun h5 m5 led' o5 ns5 l5 => ?_⟩
  have xl : ∀ b ∈ led.map (·.1), gE.get? b = none ∧ ∃ o, h1.get? b = some o := fun b hb => x0 b (.tail _ hb)
  have DX : D ∉ L :: C :: led.map (·.1) := fun q => by
    rcases List.mem_cons.mp q with q | q
    · exact DL q
    · rcases List.mem_cons.mp q with q | q
      · exact S.hDC q
      · obtain ⟨o, ho⟩ := (xl D q).2
        rw [S.hD] at ho; cases ho
  have D5 : h5.get? D = some (LO ys k) := o5 _ _ DX hD
  have q5 : ∀ G, Kp gE G → NewIn [D] h1 h5 G → SeqL R' G ys bs := fun G k1 k2 => hr G k1 fun b ob e1 e2 e3 => k2 b ob e1 (fun q => e2 (by simp at q; simp [q])) (o5 b ob (fun q => e2 (by simp only [List.mem_cons] at q ⊢; rcases q with q | q | q <;> simp [q])) e3)
  have kN : Kp gE (hideAll h5 (L :: D :: led.map (·.1))) := kp_hid (fun b ob e => o5 _ _ (fun q => by
    rcases List.mem_cons.mp q with rfl | q
    · rw [F.off] at e; cases e
    · rcases List.mem_cons.mp q with rfl | q
      · rw [gC] at e; cases e
      · rw [(xl b q).1] at e; cases e) (F4.keep _ _ e)) fun x hx => by
      rcases List.mem_cons.mp hx with rfl | hx
      · exact F.off
      · rcases List.mem_cons.mp hx with rfl | hx
        · exact gD
        · exact (x0 x (.tail _ hx)).1
  refine ⟨⟨ns5, fun b ob e => of_hideAll _ e, hideAll_none _ (.head _)⟩, fun p hp => ?_, kN, q5 _ kN fun b ob e1 e2 e3 => hideAll_get _ e3 fun q => ?_, q5⟩
  · rcases List.mem_cons.mp hp with rfl | hp
    · exact ⟨D5, DL, hideAll_none _ (by simp)⟩
    · obtain ⟨q1, q2⟩ := l5 p hp
      obtain ⟨p', hp', e'⟩ := List.mem_map.mp q1
      exact ⟨q2, e' ▸ (N p' hp').2.1, hideAll_none _ (.tail _ (.tail _ q1))⟩
  · rcases List.mem_cons.mp q with rfl | q
    · obtain ⟨o, ho⟩ := (x0 _ (.head _)).2
      rw [ho] at e1; cases e1
    · rcases List.mem_cons.mp q with rfl | q
      · exact e2 (.head _)
      · obtain ⟨o, ho⟩ := (x0 b (.tail _ q)).2
        rw [ho] at e1; cases e1
/-- a comprehension as an expression -/
theorem crs_expr {C D : Addr} {h4 : Heap} {bs : List β} {Km : (Str → Option Value) → Prop} (F : Fm gE L h1 mE) (N : Nw gE L h1 led) (S : CSt h1 [] [] Φ C D) (j : CJ h1 gE [] Φ C D (C :: D :: L :: led.map (·.1)) R' Km bs h4) {P : Value → Heap → Prop}
    (fin : ∀ D h5 ys k gN, h1.get? D = none → Only [] h1 h5 → Kp gE gN → Fm gN L h5 mE → Nw gN L h5 ((D, LO ys k) :: led) → SeqL R' gN ys bs → (∀ G, Kp gE G → NewIn [D] h1 h5 G → SeqL R' G ys bs) → P (.ref D) h5) :
    ExprPost P D C h4 := by
  obtain ⟨ys, k, F4, N4, z⟩ := crs_after F N S j
  obtain ⟨m, ns, _⟩ := j.fr
  have CL : C ≠ L := fun e => by
    obtain ⟨o, ho⟩ := ((led_x0 F N) L (.head _)).2
    rw [← e, S.hC] at ho; cases ho
  have C6 : ∀ p ∈ led, p.1 ≠ C := fun p hp e => by
    have q := (N p hp).1
    rw [e, S.hC] at q; cases q
  refine ⟨m, ns, fun h5 o5 => ?_⟩
  obtain ⟨F5, N5, k5, r5, q5⟩ := z h5 mE led (o5.sub (subc (.tail _ (.head _)) sub0)) (ns_only o5 (nin1 CL.symm) F4.ns) fun p hp => ⟨List.mem_map_of_mem hp, o5 _ _ (nin1 (C6 p hp)) (N4 p (.tail _ hp)).1⟩
  refine fin D h5 ys k _ S.hD (fun b ob _ e => o5 _ _ (fun q => ?_) (j.only b ob (by simp) e)) k5 F5 N5 r5 q5
  rw [List.mem_singleton.mp q, S.hC] at e; cases e
/-- a comprehension bound to a name -/
theorem crs_assign {C D : Addr} {h4 : Heap} {bs : List β} {Km : (Str → Option Value) → Prop} {env : Env} {yn : Str} (F : Fm gE env.locals h1 mE) (N : Nw gE env.locals h1 led) (S : CSt h1 [] [] Φ C D) (j : CJ h1 gE [] Φ C D (C :: D :: env.locals :: led.map (·.1)) R' Km bs h4) {P : Flow → Heap → Prop}
    (hk : env.scope.kind = .function) (hl : env.kindOf yn = some .local)
    (fin : ∀ D h5 ys k gN, h1.get? D = none → Kp gE gN → Fm gN env.locals h5 (upd yn (.ref D) mE) → Nw gN env.locals h5 ((D, LO ys k) :: led) → SeqL R' gN ys bs → (∀ G, Kp gE G → NewIn [D] h1 h5 G → SeqL R' G ys bs) → P .next h5) :
    AsgPost w A env yn P D C h4 := by
  obtain ⟨ys, k, F4, N4, z⟩ := crs_after F N S j
  obtain ⟨m, ns, _⟩ := j.fr
  have CL : C ≠ env.locals := fun e => by
    obtain ⟨o, ho⟩ := ((led_x0 F N) env.locals (.head _)).2
    rw [← e, S.hC] at ho; cases ho
  intro E Q s hs' hQ
  subst hs'
  refine wpAny_storeName_local hl F4.ns (fun h5 hn5 hs5 => hQ _ _ (s.toks + 1) ⟨m, ns.sameBut hs5 CL, fun h6 o6 => ?_⟩) (by rw [hk]; rfl)
  have o5 : Only [env.locals] s.heap h5 := only_of_same hs5
  have C6 : ∀ p ∈ led, p.1 ≠ C := fun p hp e => by
    have q := (N p hp).1
    rw [e, S.hC] at q; cases q
  obtain ⟨F6, N6, k6, r6, q6⟩ := z h6 (upd yn (.ref D) mE) led ((o5.sub (by simp)).trans (o6.sub (by simp))) (ns_only o6 (by simpa using CL.symm) hn5) fun p hp => ⟨List.mem_map_of_mem hp, o6 _ _ (by simpa using C6 p hp) (o5 _ _ (by simpa using (N p hp).2.1) (N4 p (.tail _ hp)).1)⟩
  exact fin D h6 ys k _ S.hD k6 F6 N6 r6 q6
theorem lcomp1 {elt target iter : Expr} {ifs : List Expr} {scope : Scope} {pos : Pos} {env : Env} {cl : List (Str × Addr)} {l : Addr} {xs : List Value} {n : Nat} {as : List α} (own : OwnOk w A target) (hh : A.handled = none) (F : Fm gE L h1 mE) (N : Nw gE L h1 led)
    (hl : h1.get? l = some (LO xs n)) (hr : SeqL R gE xs as) (hz : (as.flatMap f).length < 64)
    (step : ∀ C, h1.get? C = none → LStep w A h1 gE [] (fun _ => True) (cenvc scope cl C env) target elt ifs TrueM R R' f as) {P : Value → Heap → Prop}
    (fin : ∀ D h5 ys k gN, h1.get? D = none → Only [] h1 h5 → Kp gE gN → Fm gN L h5 mE → Nw gN L h5 ((D, LO ys k) :: led) → SeqL R' gN ys (as.flatMap f) → (∀ G, Kp gE G → NewIn [D] h1 h5 G → SeqL R' G ys (as.flatMap f)) → P (.ref D) h5) (hL : env.locals = L := by rfl) :
    Ev (model pw w) A (pyIter (.ref l)) h1 fun it h2 => CompAt w A (.ListComp elt [⟨target, iter, ifs, 0⟩] scope pos) scope env cl it h2 (ExprPost P) := by
  subst hL
  exact lcomp1_at own hh F.keep (led_x0 F N) alln (fun _ _ _ _ _ x => x) (fun _ _ _ x => x) trivial hl (by simp) hr hz step fun D C h4 S j => crs_expr F N S j fin
end
end Mine
open PySem PySem.W PyProof.Rows PySem.Calls
set_option maxRecDepth 100000
set_option maxHeartbeats 4000000
set_option linter.unusedVariables false
namespace Mine
variable {w : World} {A : Around}
/-! ## comprehensions of two clauses -/
theorem compTurn_two (elt target iter target2 iter2 : Expr) (ifs ifs2 : List Expr) (scope : Scope) (pos : Pos) (it acc : Value) (cenv : Env) :
    compTurn (.ListComp elt [⟨target, iter, ifs, 0⟩, ⟨target2, iter2, ifs2, 0⟩] scope pos) 0 it acc cenv = (do
      standAt iter.pos
      match ← pyNext it with
      | none => pure (.done .next)
      | some v =>
        letOwnedTupleGo target it v
        assign target cenv v
        let mut ok := true
        for c in ifs do
          if ok then ok ← isTrue c cenv (eval c cenv)
        if ok then (do
          let x ← eval iter2 cenv
          standAt iter2.pos
          let x ← foldedSetIterable iter2 cenv x
          let _ ← runOwn (.compStart (.ListComp elt [⟨target, iter, ifs, 0⟩, ⟨target2, iter2, ifs2, 0⟩] scope pos) 1 (← holding [x] (pyIter x)) acc cenv) cenv)
        again (.compLoop (.ListComp elt [⟨target, iter, ifs, 0⟩, ⟨target2, iter2, ifs2, 0⟩] scope pos) 0 it acc cenv)) := by
  unfold compTurn
  show (standAt iter.pos >>= fun _ => pyNext it >>= _) = (standAt iter.pos >>= fun _ => pyNext it >>= _)
  congr 1; funext _
  congr 1; funext r
  cases r with
  | none => rfl
  | some v =>
    show (letOwnedTupleGo target it v >>= fun _ => assign target cenv v >>= fun _ => _ >>= _) = (letOwnedTupleGo target it v >>= fun _ => assign target cenv v >>= fun _ => _ >>= _)
    congr 1; funext _
    congr 1; funext _
    congr 1; funext ok
    cases ok with
    | false => rfl
    | true =>
      show (eval iter2 cenv >>= fun x => standAt iter2.pos >>= fun _ => foldedSetIterable iter2 cenv x >>= fun x => _ >>= fun i => _ >>= fun _ => _) = ((eval iter2 cenv >>= fun x => standAt iter2.pos >>= fun _ => foldedSetIterable iter2 cenv x >>= fun x => _ >>= fun i => _ >>= fun _ => _) >>= fun _ => _)
      simp only [bind_assoc]
      rfl
noncomputable def OStep {α α2 β : Type} (w : World) (A : Around) (h1 gE : Heap) (cenv : Env) (target iter2 target2 elt : Expr) (ifs2 : List Expr) (R : Heap → Value → α → Prop) (R2 : Heap → Value → α2 → Prop) (R' : Heap → Value → β → Prop) (f : α → List β) (as : List α) : Prop :=
  ∀ a v h m, a ∈ as → R gE v a → Only [] h1 h → Kp gE h → Fm (hideAll h [cenv.locals]) cenv.locals h m →
    Ev (model pw w) A (assign target cenv v) h fun _ h2 => Ev (model pw w) A (eval iter2 cenv) h2 fun xv h4 => ∃ l2 xs2 n2 as2 f2 Km m4, xv = .ref l2 ∧ h4.get? l2 = some (LO xs2 n2) ∧ ((∃ o, h1.get? l2 = some o) ∨ h.get? l2 = none) ∧ SeqL R2 gE xs2 as2 ∧
      Fm (hideAll h [cenv.locals]) cenv.locals h4 m4 ∧ Km m4 ∧ f a = as2.flatMap f2 ∧ LStep w A h1 gE [] (fun _ => True) cenv target2 elt ifs2 Km R2 R' f2 as2
section
variable {α α2 β : Type} {h1 gE : Heap} {R : Heap → Value → α → Prop} {R2 : Heap → Value → α2 → Prop} {R' : Heap → Value → β → Prop} {f : α → List β} {L : Addr} {mE : Str → Option Value} {led : List (Addr × Obj)}
theorem lcomp2_at {elt target iter target2 iter2 : Expr} {ifs2 : List Expr} {scope : Scope} {pos : Pos} {env : Env} {cl : List (Str × Addr)} {l : Addr} {xs : List Value} {n : Nat} {as : List α} {X0 : List Addr} (own : OwnOk w A target) (own2 : OwnOk w A target2) (hh : A.handled = none)
    (kE : Kp gE h1) (hX0 : ∀ x ∈ X0, gE.get? x = none ∧ ∃ o, h1.get? x = some o)
    (hl : h1.get? l = some (LO xs n)) (hr : SeqL R gE xs as) (hz : (as.flatMap f).length < 64)
    (hs2 : ∀ (cenv : Env) x, foldedSetIterable iter2 cenv x = pure x)
    (step : ∀ C, h1.get? C = none → OStep w A h1 gE (cenvc scope cl C env) target iter2 target2 elt ifs2 R R2 R' f as) {Q : Addr → Addr → Heap → Prop}
    (fin : ∀ D C h4, CSt h1 [] [] (fun _ => True) C D → CJ h1 gE [] (fun _ => True) C D (C :: D :: X0) R' TrueM (as.flatMap f) h4 → Q D C h4) :
    Ev (model pw w) A (pyIter (.ref l)) h1 fun it h2 => CompAt w A (.ListComp elt [⟨target, iter, [], 0⟩, ⟨target2, iter2, ifs2, 0⟩] scope pos) scope env cl it h2 Q := by
  refine ev_iter_list hl fun I h2 o o2 d2 g2 st => ?_
  intro D C h3 o3 d1 dD c1 dc ns nc nd
  have d0 : h1.get? D = none := none_of_kp o2.kp d1
  have c0 : h1.get? C = none := none_of_kp o2.kp c1
  have IC : I ≠ C := fun e => by rw [e, c1] at g2; cases g2
  have ID : I ≠ D := fun e => by rw [e, d1] at g2; cases g2
  have S : CSt h1 [] [] (fun _ => True) C D := ⟨c0, d0, dc, by simp, fun _ _ _ _ _ _ x => x, by simp⟩
  have o13 : Only [] h1 h3 := o2.trans o3
  have gX : ∀ x ∈ I :: C :: D :: X0, gE.get? x = none := fun x hx => by
    rcases List.mem_cons.mp hx with rfl | hx
    · exact none_of_kp kE d2
    · rcases List.mem_cons.mp hx with rfl | hx
      · exact none_of_kp kE c0
      · rcases List.mem_cons.mp hx with rfl | hx
        · exact none_of_kp kE d0
        · exact (hX0 x hx).1
  have nI : I ∉ C :: D :: X0 := fun q => by
    rcases List.mem_cons.mp q with q | q
    · exact IC q
    · rcases List.mem_cons.mp q with q | q
      · exact ID q
      · obtain ⟨o', e⟩ := (hX0 I q).2
        rw [d2] at e; cases e
  have kEh : ∀ {h}, Only [] h1 h → Kp gE h := fun x => kE.trans' x.kp
  have lx := hr.len
  have hCX : ∀ b ∈ [C], b ∈ I :: C :: D :: X0 := by simp
  have step' := step C c0
  refine fev_list (target := target) (iter := iter) (ifs := []) (emit := (do
        let x ← eval iter2 (cenvc scope cl C env)
        standAt iter2.pos
        let x ← foldedSetIterable iter2 (cenvc scope cl C env) x
        let _ ← runOwn (.compStart (.ListComp elt [⟨target, iter, [], 0⟩, ⟨target2, iter2, ifs2, 0⟩] scope pos) 1 (← holding [x] (pyIter x)) (.ref D) (cenvc scope cl C env)) (cenvc scope cl C env))) rfl (compTurn_two ..)
    (Itr.list (g := hideAll h1 []) hh hl) (fun i o' h => h.get? I = some o' ∧ CJ h1 gE [] (fun _ => True) C D (I :: C :: D :: X0) R' TrueM ((as.take i).flatMap f) h) (fun i o' h x => ⟨x.2.only.kp, x.1⟩) ?_ ?_ st ⟨o3 _ _ nin0 g2, o13.sub sub0, trivial, ⟨_, ns, trivial⟩, ⟨[], 0, dD, fun _ _ _ => .nil⟩, fun x hx => ?_⟩
  · rintro i o1 h v h2' o2' hi ⟨x2, x3⟩ hv o12 gI2 cI2
    obtain ⟨a, ha⟩ : ∃ a, as[i]? = some a := ⟨_, List.getElem?_eq_getElem (by omega)⟩
    obtain ⟨v', hv', rv⟩ := hr.at ha
    rw [hv] at hv'
    obtain rfl := Option.some.inj hv'
    have j2 := x3.other S d2 (by simp) (.head _) IC ID o12 ⟨o2', gI2⟩
    obtain ⟨m, ns2, km⟩ := j2.fr
    have et : as.take (i + 1) = as.take i ++ [a] := by rw [List.take_add_one, ha]; rfl
    have hzz : ((as.take i).flatMap f).length + (f a).length < 64 := by
      have e : as = as.take (i + 1) ++ as.drop (i + 1) := (List.take_append_drop _ _).symm
      have := congrArg (fun z => (z.flatMap f).length) e
      simp only [et, List.flatMap_append, List.length_append, List.flatMap_cons, List.flatMap_nil, List.append_nil] at this
      omega
    have Fs : Fm (hideAll h2' [C]) C h2' m := ⟨ns2, fun b ob e => of_hideAll _ e, hideAll_none _ (.head _)⟩
    refine own gI2 cI2 ((step' a v h2' m (List.mem_of_getElem? ha) rv j2.only (kEh j2.only) Fs).mono fun _ h3' y => ev_tests0 ?_)
    refine ift ?_
    refine ev_inner (y.mono fun xv h4 y => ?_) (hs2 _)
    obtain ⟨l2, xs2, n2, as2, f2, Km, m4, rfl, hl2, hln, hr2, F4, km4, fa, step2⟩ := y
    have F4' : Fm (hideAll h2' [C]) C h4 m4 := F4
    have j4 := j2.step S hCX F4' km4 trivial
    have I4 : h4.get? I = some o2' := F4'.keep _ _ (hideAll_get _ gI2 (nin1 IC))
    obtain ⟨ys2, k2, hD2, hry2⟩ := j2.acc
    have D4 : h4.get? D = some (LO ys2 k2) := F4'.keep _ _ (hideAll_get _ hD2 (nin1 dc))
    have exC : ∃ o, h2'.get? C = some o := by obtain ⟨o, _, _, ho, _⟩ := ns2; exact ⟨o, ho⟩
    have l2C : l2 ≠ C := fun e => by
      rcases hln with ⟨o', q⟩ | q
      · rw [e, c0] at q; cases q
      · obtain ⟨o', q'⟩ := exC
        rw [e, q'] at q; cases q
    have l2D : l2 ≠ D := fun e => by
      rcases hln with ⟨o', q⟩ | q
      · rw [e, d0] at q; cases q
      · rw [e, hD2] at q; cases q
    refine ev_iter_list hl2 fun I2 h5 oi o5 di gi sti => ?_
    have j5 := j4.more S di o5 ⟨oi, gi⟩
    have I2n : I2 ∉ I :: C :: D :: X0 := fun q => by
      rcases j4.ex I2 q with q | ⟨ob, q⟩
      · rw [List.mem_singleton] at q
        obtain ⟨o', _, _, ho, _⟩ := F4'.ns
        rw [← q, di] at ho; cases ho
      · rw [di] at q; cases q
    have I21 : h1.get? I2 = none := none_of_kp j4.only.kp di
    have I2C : I2 ≠ C := fun e => I2n (by simp [e])
    have I2D : I2 ≠ D := fun e => I2n (by simp [e])
    have l2I : l2 ≠ I2 := fun e => by rw [← e, hl2] at di; cases di
    have hX' : ∀ b ∈ C :: D :: ([] : List Addr), b ∈ I :: C :: D :: X0 := fun b hb => by
      simp only [List.mem_cons, List.not_mem_nil, or_false] at hb ⊢
      rcases hb with q | q <;> simp [q]
    refine fev_last (X := I :: C :: D :: X0) S own2 rfl (by rfl) hh hX' I2n gX kE I21 I2C I2D (by simp) (l := l2) (xs := xs2) (n := n2) (hideAll_get _ (o5 _ _ nin0 hl2) ?_) hr2 gi sti (by rw [← fa]; exact hzz) step2 j5 fun h6 o6 j6 => ⟨?_, ?_⟩
    · simp only [List.mem_cons, List.not_mem_nil, or_false, not_or]
      exact ⟨l2I, l2C, l2D⟩
    · exact o6 _ _ (by simp only [List.mem_cons, List.not_mem_nil, or_false, not_or]; exact ⟨fun e => I2n (by simp [e]), IC, ID⟩) (o5 _ _ nin0 I4)
    · obtain ⟨m6, ns6, _⟩ := j6.fr
      refine ⟨j6.only, trivial, ⟨m6, ns6, trivial⟩, ?_, j6.ex⟩
      rw [et, List.flatMap_append]
      simpa [fa] using j6.acc
  · rintro o1 h h2' ⟨x2, x3⟩ o12
    rw [List.take_of_length_le (by omega)] at x3
    obtain ⟨ys, k, hD, hry⟩ := x3.acc
    obtain ⟨m, ns2, km⟩ := x3.fr
    refine fin D C h2' S ⟨fun b ob hb e => o12 b ob (fun q => ?_) (x3.only b ob hb e), trivial, ⟨m, ns_only o12 (nin1 IC.symm) ns2, trivial⟩, ⟨ys, k, o12 _ _ (nin1 ID.symm) hD, fun G k1 k2 => hry G k1 fun b ob e1 e2 e3 => k2 b ob e1 (fun q => e2 (.tail _ q)) (o12 _ _ (fun q => e2 (by rw [List.mem_singleton.mp q]; exact .head _)) e3)⟩, fun x hx => ?_⟩
    · rw [List.mem_singleton.mp q, d2] at e; cases e
    · exact (x3.ex x (.tail _ hx)).imp id fun ⟨ob, e⟩ => ⟨ob, o12 _ _ (fun q => nI (by rw [List.mem_singleton.mp q] at hx; exact hx)) e⟩
  · rcases List.mem_cons.mp hx with rfl | hx
    · exact .inr ⟨_, o3 _ _ nin0 g2⟩
    · rcases List.mem_cons.mp hx with rfl | hx
      · exact .inl (.head _)
      · rcases List.mem_cons.mp hx with rfl | hx
        · exact .inr ⟨_, dD⟩
        · obtain ⟨o', e⟩ := (hX0 x hx).2
          exact .inr ⟨o', o13 _ _ nin0 e⟩
theorem lcomp2 {elt target iter target2 iter2 : Expr} {ifs2 : List Expr} {scope : Scope} {pos : Pos} {env : Env} {cl : List (Str × Addr)} {l : Addr} {xs : List Value} {n : Nat} {as : List α} (own : OwnOk w A target) (own2 : OwnOk w A target2) (hh : A.handled = none) (F : Fm gE L h1 mE) (N : Nw gE L h1 led)
    (hl : h1.get? l = some (LO xs n)) (hr : SeqL R gE xs as) (hz : (as.flatMap f).length < 64)
    (step : ∀ C, h1.get? C = none → OStep w A h1 gE (cenvc scope cl C env) target iter2 target2 elt ifs2 R R2 R' f as) {P : Value → Heap → Prop}
    (fin : ∀ D h5 ys k gN, h1.get? D = none → Only [] h1 h5 → Kp gE gN → Fm gN L h5 mE → Nw gN L h5 ((D, LO ys k) :: led) → SeqL R' gN ys (as.flatMap f) → (∀ G, Kp gE G → NewIn [D] h1 h5 G → SeqL R' G ys (as.flatMap f)) → P (.ref D) h5)
    (hs2 : ∀ (cenv : Env) x, foldedSetIterable iter2 cenv x = pure x := by intro _ _; rfl) (hL : env.locals = L := by rfl) :
    Ev (model pw w) A (pyIter (.ref l)) h1 fun it h2 => CompAt w A (.ListComp elt [⟨target, iter, [], 0⟩, ⟨target2, iter2, ifs2, 0⟩] scope pos) scope env cl it h2 (ExprPost P) := by
  subst hL
  exact lcomp2_at own own2 hh F.keep (led_x0 F N) hl hr hz hs2 step fun D C h4 S j => crs_expr F N S j fin
theorem lcomp2a {elt target iter target2 iter2 : Expr} {ifs2 : List Expr} {scope : Scope} {pos : Pos} {env : Env} {cl : List (Str × Addr)} {l : Addr} {xs : List Value} {n : Nat} {as : List α} {yn : Str} (own : OwnOk w A target) (own2 : OwnOk w A target2) (hh : A.handled = none) (F : Fm gE L h1 mE) (N : Nw gE L h1 led)
    (hl : h1.get? l = some (LO xs n)) (hr : SeqL R gE xs as) (hz : (as.flatMap f).length < 64)
    (step : ∀ C, h1.get? C = none → OStep w A h1 gE (cenvc scope cl C env) target iter2 target2 elt ifs2 R R2 R' f as) {P : Flow → Heap → Prop}
    (fin : ∀ D h5 ys k gN, h1.get? D = none → Kp gE gN → Fm gN L h5 (upd yn (.ref D) mE) → Nw gN L h5 ((D, LO ys k) :: led) → SeqL R' gN ys (as.flatMap f) → (∀ G, Kp gE G → NewIn [D] h1 h5 G → SeqL R' G ys (as.flatMap f)) → P .next h5)
    (hs2 : ∀ (cenv : Env) x, foldedSetIterable iter2 cenv x = pure x := by intro _ _; rfl) (hk : env.scope.kind = .function := by rfl) (hlo : env.kindOf yn = some .local := by rfl) (hL : env.locals = L := by rfl) :
    Ev (model pw w) A (pyIter (.ref l)) h1 fun it h2 => CompAt w A (.ListComp elt [⟨target, iter, [], 0⟩, ⟨target2, iter2, ifs2, 0⟩] scope pos) scope env cl it h2 (AsgPost w A env yn P) := by
  subst hL
  exact lcomp2_at own own2 hh F.keep (led_x0 F N) hl hr hz hs2 step fun D C h4 S j => crs_assign F N S j hk hlo fin
end
end Mine
open PySem PySem.W PyProof.Rows PySem.Calls
set_option maxRecDepth 100000
set_option maxHeartbeats 4000000
set_option linter.unusedVariables false
namespace Mine
variable {w : World} {A : Around} {Bh : Heap}
theorem Fm.weak {g g' h : Heap} {L : Addr} {m : Str → Option Value} (k : Kp g' g) (F : Fm g L h m) : Fm g' L h m := ⟨F.ns, k.trans' F.keep, none_of_kp k F.off⟩
theorem Nw.weak {g g' h : Heap} {L : Addr} {led : List (Addr × Obj)} (k : Kp g' g) (N : Nw g L h led) : Nw g' L h led := fun p hp => ⟨(N p hp).1, (N p hp).2.1, none_of_kp k (N p hp).2.2⟩
theorem kp_all {h : Heap} : Kp h (hideAll h []) := fun _ _ e => e
theorem NewIn.first {h h1 h' G : Heap} {Y : List Addr} (x : NewIn Y h h' G) (k : Kp h h1) : NewIn Y h1 h' G := fun b o e1 e2 e3 => x b o (none_of_kp k e1) e2 e3
theorem ev_isnot_none {prog : Program} {v : Value} {h : Heap} {P : Value → Heap → Prop} (p : P (.bool (!(v == .none))) h) : Ev (model prog w) A (compareOp .IsNot v .none) h P := by
  intro E Q s hs hQ; subst hs; exact PyProof.Rows.isnot_none_gen (hQ _ _ s.toks p)
/-- a call of a def of the text, seen from a small ground -/
theorem CEv.fng {h : Heap} (B : Base w Bh) (kb : Kp Bh h) {n : Nat} (room : Room A (n + 1)) {gi : Heap} (kgi : Kp gi h) {fa c : Addr} {st : Stmt} {qual name : Str} {params : Arguments} {body : List Stmt} {deco : List Expr} {ret : Option Expr} {tp : List TypeParam} {scope : Scope} {ts : Option Scope} {bind : Str} {pos : Pos}
    {cl : List (Str × Addr)} {dV kV doc pm ct : Value} {an : Option Addr} {vs : Array Value} {t : Tok} {args : Args} {P : Value → Heap → Prop} (binds : List (Str × Value))
    (hf : (K w.params).lookup fa = some ⟨.type "function", none, .func (fdOf st qual cl dV kV doc pm an (.ref c) ct), #[]⟩) (hc : (K w.params).lookup c = some ⟨.type "code", none, .fields vs, #[]⟩) (hq : vs[1]? = some (.str qual t))
    (hst : st = .FunctionDef name params body deco ret tp scope ts bind pos) (hk : scope.kind = .function) (hco : scope.isCoroutine = false) (hgen : scope.isGenerator = false)
    (hbind : ∀ s : Shared, s.heap = h → BindsTo s (fdOf st qual cl dV kV doc pm an (.ref c) ct) args binds)
    (hcell : cellFree scope.names = true) (hloc : allLocal scope.names binds = true)
    (hb : ∀ L h₁, Room (A.deeper (fenv scope cl qual L fa (.ref c))) n → Kp h h₁ → h.get? L = none → Fm gi L h₁ (fun x => binds.reverse.lookup x) → Nw gi L h₁ [] →
      Ev (model pw w) (A.deeper (fenv scope cl qual L fa (.ref c))) (execs body (fenv scope cl qual L fa (.ref c))) h₁ fun f h' => P (flowV f) h') :
    CEv (model pw w) A (.call (.ref fa) args) h P :=
  CEv.fn B kb room binds [] hf hc hq hst hk hco hgen hbind hcell hloc (fun _ q => nomatch q) fun L h₁ R k F N => hb L h₁ R k F.off (F.weak (kgi.trans' kp_all)) Nw.nil
theorem CEv.fngc {h : Heap} (B : Base w Bh) (kb : Kp Bh h) {n : Nat} (room : Room A (n + 1)) {gi : Heap} (kgi : Kp gi h) {fa c : Addr} {st : Stmt} {qual name : Str} {params : Arguments} {body : List Stmt} {deco : List Expr} {ret : Option Expr} {tp : List TypeParam} {scope : Scope} {ts : Option Scope} {bind : Str} {pos : Pos}
    {dV kV doc pm ct : Value} {an : Option Addr} {vs : Array Value} {t : Tok} {vals : List Value} {P : Value → Heap → Prop} (binds : List (Str × Value))
    (hf : (K w.params).lookup fa = some ⟨.type "function", none, .func (fdOf st qual [] dV kV doc pm an (.ref c) ct), #[]⟩) (hc : (K w.params).lookup c = some ⟨.type "code", none, .fields vs, #[]⟩) (hq : vs[1]? = some (.str qual t))
    (hst : st = .FunctionDef name params body deco ret tp scope ts bind pos) (hk : scope.kind = .function) (hco : scope.isCoroutine = false) (hgen : scope.isGenerator = false)
    (hbind : ∀ s : Shared, s.heap = h → BindsTo s (fdOf st qual [] dV kV doc pm an (.ref c) ct) ⟨vals, []⟩ binds)
    (hloc : ∀ L, bindsOk scope.names (cellsFrom (nx L) scope.names []) binds = true)
    (hb : ∀ L h₁, Room (A.deeper (fenvc scope qual L fa c)) n → Kp h h₁ → h.get? L = none → Fm gi L h₁ (bindL (kindIn scope) binds fun _ => none) →
      (∀ x a, (cellsFrom (nx L) scope.names []).lookup x = some a → ∃ o, h₁.get? a = some o ∧ o.data = .cell (bindC (kindIn scope) binds (fun _ => none) x) ∧ L < a ∧ h.get? a = none ∧ a ≠ L ∧ gi.get? a = none) →
      Ev (model pw w) (A.deeper (fenvc scope qual L fa c)) (execs body (fenvc scope qual L fa c)) h₁ fun f h' => P (flowV f) h') :
    CEv (model pw w) A (.call (.ref fa) ⟨vals, []⟩) h P :=
  CEv.fnc B kb room binds [] hf hc hq hst hk hco hgen hbind hloc (fun _ q => nomatch q) fun L h₁ R k F N CC => hb L h₁ R k F.off (F.weak (kgi.trans' kp_all)) fun x a e => by
    obtain ⟨o, h1, h2, h3, h4⟩ := CC x a e
    exact ⟨o, h1, h2, h3, h4, Nat.ne_of_gt h3, none_of_kp kgi h4⟩
/-! ## `_law_good` -/
theorem law_good_C {γ : Type} {R : Heap → Value → Option γ → Prop} {R' : Heap → Value → γ → Prop} (hn : ∀ h v o, R h v o → (v == .none) = o.isNone) (hs : ∀ h v p, R h v (some p) → R' h v p) (B : Base w Bh) {h : Heap} (kb : Kp Bh h) (room : Room A 1)
    {l : Addr} {xs : List Value} {n : Nat} {as : List (Option γ)} (hl : h.get? l = some (LO xs n)) {gi : Heap} (kgi : Kp gi h) (hr : SeqL R gi xs as) (hz : xs.length < 60) {P : Value → Heap → Prop}
    (p : ∀ D h' ys k, Only [] h h' → h.get? D = none → h'.get? D = some (LO ys k) → SeqL R' gi ys (as.flatMap Option.toList) → P (.ref D) h') :
    CEv (model pw w) A (.call (.ref 304) ⟨[.ref l], []⟩) h P := by
  refine CEv.fng B kb (n := 0) room kgi (fa := 304) (c := 303) [("pairs", .ref l)] rfl rfl rfl rfl rfl rfl rfl (fun s hs => BindsTo.of_eq (by rfl)) rfl rfl ?_
  intro L h₁ Rm k1 nL F N
  have hle : (as.flatMap Option.toList).length ≤ as.length := by
    clear hr hz p
    induction as with
    | nil => simp
    | cons a as ih => cases a <;> simp at ih ⊢ <;> omega
  refine ev_cons (ev_return (ev_lc (ev_ld F rfl (lcomp1 (R := R) (R' := fun _ v b => R' gi v b) (f := Option.toList) ownName Rm.handled F N (k1 _ _ hl) hr (by have := hr.len; omega) ?_ ?_))))
  · intro C c0 a v h2 m ha rv o kE F2 km _
    refine ev_asg_name (ev_st F2 Nw.nil fun h3 F3 N3 => ev_tests1 (ev_isTrue_compare (ev_ld F3 rfl (ev_none (ev_isnot_none (ev_truthy_bool ?_))))))
    rw [hn _ _ _ rv]
    cases a with
    | none =>
      simp only [Option.isNone_none, Bool.not_true, Bool.false_eq_true, if_false]
      exact ⟨_, rfl, F3, trivial, trivial⟩
    | some q =>
      simp only [Option.isNone_some, Bool.not_false, if_true]
      exact ev_ld F3 rfl ⟨q, _, rfl, F3, trivial, trivial, fun G _ _ => hs _ _ _ rv⟩
  · intro D h5 ys k gN d0 o5 kN F5 N5 r5 _
    refine p D h5 ys k (fun b ob _ e => o5 _ _ nin0 (k1 _ _ e)) (none_of_kp k1 d0) (N5.at (.head _)) r5
end Mine
open PySem PySem.W PyProof.Rows PySem.Calls
set_option maxRecDepth 100000
set_option maxHeartbeats 4000000
set_option linter.unusedVariables false
namespace Mine
variable {w : World} {A : Around} {Bh : Heap}
/-! ## for over a list, the iterator out of sight -/
theorem gev_list {target : Expr} {body : List Stmt} {env : Env} (own : OwnOk w A target) (hh : A.handled = none) {g h1 : Heap} {m1 : Str → Option Value} {led1 : List (Addr × Obj)} (F : Fm g env.locals h1 m1) (N : Nw g env.locals h1 led1) {I l : Addr} {xs : List Value} {n : Nat} (hl : g.get? l = some (LO xs n))
    {i0 : Nat} (hi0 : i0 ≤ xs.length) {o : Obj} (hI : h1.get? I = some o) (gI : g.get? I = none) (IL : I ≠ env.locals) (Iled : ∀ p ∈ led1, p.1 ≠ I) (st : LSt l i0 o) (K : Nat → (Str → Option Value) → List (Addr × Obj) → Prop) (k0 : K i0 m1 led1) {P : Flow → Heap → Prop}
    (step : ∀ i v h m led gT, xs[i]? = some v → Kp g gT → Fm gT env.locals h m → Nw gT env.locals h led → K i m led → Ev (model pw w) A (assign target env v) h fun _ h3 => Ev (model pw w) A (execs body env) h3 fun f h4 => match f with
      | .next | .cont => ∃ m' led', Fm gT env.locals h4 m' ∧ Nw gT env.locals h4 led' ∧ K (i + 1) m' led'
      | _ => False)
    (fin : ∀ h m led, Fm g env.locals h m → Nw g env.locals h led → K xs.length m led → P .next h) : GEv w A (.forLoop target (.ref I) body [] env) h1 P := by
  refine gev_for (fun k h => ∃ i o m led, i ≤ xs.length ∧ k = xs.length - i ∧ Fm g env.locals h m ∧ Nw g env.locals h led ∧ h.get? I = some o ∧ (∀ p ∈ led, p.1 ≠ I) ∧ LSt l i o ∧ K i m led) (fun k h2 => ?_) (xs.length - i0) ⟨i0, o, m1, led1, hi0, rfl, F, N, hI, Iled, st, k0⟩
  rintro ⟨i, o2, m, led, hi, rfl, F2, N2, hI2, Il2, st2, k2⟩
  have T := Itr.list (w := w) (A := A) (I := I) hh hl
  have keepF : ∀ {h'}, Only [I] h2 h' → Fm g env.locals h' m ∧ Nw g env.locals h' led := fun {h'} o' => after F2 N2 o' (by simpa using ⟨gI, IL⟩) fun p hp => ⟨o' _ _ (by simpa using Il2 p hp) (N2 p hp).1, .inr hp⟩
  by_cases hlt : i < xs.length
  · refine T.item hlt F2.keep hI2 st2 fun v h3 o3 hv o23 hI3 st3 => ?_
    obtain ⟨F3, N3⟩ := keepF o23
    obtain ⟨kT, FT, NT⟩ := reground F3 N3
    refine own hI3 (T.cls st3) ((step i v h3 m led _ hv kT FT NT k2).mono fun _ h4 x => x.mono fun f h5 x => ?_)
    have nI : I ∉ env.locals :: led.map (·.1) := fun q => by
      rcases List.mem_cons.mp q with q | q
      · exact IL q
      · obtain ⟨p, hp, e⟩ := List.mem_map.mp q
        exact Il2 p hp e
    have kI : ∀ {m'}, Fm (hideAll h3 (env.locals :: led.map (·.1))) env.locals h5 m' → h5.get? I = some o3 := fun F => F.keep _ _ (hideAll_get _ hI3 nI)
    have nl : ∀ {led'}, Nw (hideAll h3 (env.locals :: led.map (·.1))) env.locals h5 led' → ∀ p ∈ led', p.1 ≠ I := fun N p hp e => by
      have := (N p hp).2.2
      rw [e, hideAll_get _ hI3 nI] at this; cases this
    cases f with
    | next => obtain ⟨m', led', F', N', k'⟩ := x; exact ⟨xs.length - (i + 1), by omega, i + 1, o3, m', led', by omega, rfl, F'.weak kT, N'.weak kT, kI F', nl N', st3, k'⟩
    | cont => obtain ⟨m', led', F', N', k'⟩ := x; exact ⟨xs.length - (i + 1), by omega, i + 1, o3, m', led', by omega, rfl, F'.weak kT, N'.weak kT, kI F', nl N', st3, k'⟩
    | brk => exact x.elim
    | ret v => exact x.elim
  · obtain rfl : i = xs.length := by omega
    refine T.done F2.keep hI2 st2 fun h3 o23 => ?_
    obtain ⟨F3, N3⟩ := keepF o23
    exact ev_nil (fin h3 m led F3 N3 k2)
theorem ev_for_list {target : Expr} {body : List Stmt} {env : Env} (own : OwnOk w A target) (hh : A.handled = none) {g h1 : Heap} {m1 : Str → Option Value} {led1 : List (Addr × Obj)} (F : Fm g env.locals h1 m1) (N : Nw g env.locals h1 led1) {l : Addr} {xs : List Value} {n : Nat} (hl : g.get? l = some (LO xs n))
    (K : Nat → (Str → Option Value) → List (Addr × Obj) → Prop) (k0 : K 0 m1 led1) {P : Flow → Heap → Prop}
    (step : ∀ i v h m led gT, xs[i]? = some v → Kp g gT → Fm gT env.locals h m → Nw gT env.locals h led → K i m led → Ev (model pw w) A (assign target env v) h fun _ h3 => Ev (model pw w) A (execs body env) h3 fun f h4 => match f with
      | .next | .cont => ∃ m' led', Fm gT env.locals h4 m' ∧ Nw gT env.locals h4 led' ∧ K (i + 1) m' led'
      | _ => False)
    (fin : ∀ h m led, Fm g env.locals h m → Nw g env.locals h led → K xs.length m led → P .next h) : Ev (model pw w) A (pyIter (.ref l)) h1 fun it h2 => GEv w A (.forLoop target it body [] env) h2 P := by
  refine ev_iter_list (F.keep _ _ hl) fun I h2 o o2 d2 g2 st => ?_
  have F2 := Fm.o F o2
  have N2 := Nw.o N o2
  refine gev_list own hh F2 N2 hl (Nat.zero_le _) g2 (none_of_kp F.keep d2) (fun e => ?_) (fun p hp e => ?_) st K k0 step fin
  · obtain ⟨ob, _, _, ho, _⟩ := F.ns
    rw [← e, d2] at ho; cases ho
  · have := (N p hp).1
    rw [e, d2] at this; cases this
/-! ## tuples of texts -/
noncomputable def cS (x : Str) : Tp := [aS x]
noncomputable def cP (p : Str × Str) : Tp := [aS p.1, aS p.2]
noncomputable def cT (p : Str × Str × Str) : Tp := [aS p.1, aS p.2.1, aS p.2.2]
noncomputable def SR (_ : Heap) (v : Value) (x : Str) : Prop := StrIs v x
noncomputable def PR (h : Heap) (v : Value) (p : Str × Str) : Prop := TupR [0, 0] h v (cP p)
noncomputable def TR (h : Heap) (v : Value) (p : Str × Str × Str) : Prop := TupR [0, 0, 0] h v (cT p)
theorem atR_str {v : Value} {x : Str} (r : AtR v (aS x)) : StrIs v x := by
  cases hv : v with
  | str y t =>
    subst hv
    generalize ha : aS x = a at r
    cases r
    exact ⟨t, by rw [aS_inj ha]⟩
  | _ =>
    subst hv
    generalize ha : aS x = a at r
    cases r
    all_goals (simp [aS, aI] at ha)
theorem PR.get {h : Heap} {v : Value} {p : Str × Str} (r : PR h v p) : ∃ a t u, v = .ref a ∧ h.get? a = some (TO [.str p.1 t, .str p.2 u]) := by
  obtain ⟨a, xs, rfl, ho, ra, _⟩ := r
  cases ra with
  | cons r1 ra => cases ra with
    | cons r2 ra => cases ra with
      | nil =>
        obtain ⟨t, rfl⟩ := atR_str r1
        obtain ⟨u, rfl⟩ := atR_str r2
        exact ⟨a, t, u, rfl, ho⟩
theorem PR.mk {h : Heap} {a : Addr} {x y : Str} {t u : Tok} (ho : h.get? a = some (TO [.str x t, .str y u])) : PR h (.ref a) (x, y) := ⟨a, _, rfl, ho, .cons (.s _ _) (.cons (.s _ _) .nil), rfl⟩
theorem TR.mk {h : Heap} {a : Addr} {x y z : Str} {t u v : Tok} (ho : h.get? a = some (TO [.str x t, .str y u, .str z v])) : TR h (.ref a) (x, y, z) := ⟨a, _, rfl, ho, .cons (.s _ _) (.cons (.s _ _) (.cons (.s _ _) .nil)), rfl⟩
theorem PR.up {h h' : Heap} {v : Value} {p : Str × Str} (k : Kp h h') (r : PR h v p) : PR h' v p := by
  obtain ⟨a, xs, e, ho, q⟩ := r
  exact ⟨a, xs, e, k _ _ ho, q⟩
theorem TR.up {h h' : Heap} {v : Value} {p : Str × Str × Str} (k : Kp h h') (r : TR h v p) : TR h' v p := by
  obtain ⟨a, xs, e, ho, q⟩ := r
  exact ⟨a, xs, e, k _ _ ho, q⟩
noncomputable def sortC {γ : Type} (c : γ → Tp) (l : List γ) : List γ := l.mergeSort fun a b => !tpO.blt (c b) (c a)
theorem srt_map {γ : Type} (c : γ → Tp) (l : List γ) : srt (O := tpO) (l.map c) = (sortC c l).map c := by
  unfold sortC srt
  exact (List.map_mergeSort (f := c) (r := fun a b => !tpO.blt (c b) (c a)) (s := fun a b => !tpO.blt b a) (l := l) (fun a _ b _ => rfl)).symm
theorem sortC_perm {γ : Type} (c : γ → Tp) (l : List γ) : (sortC c l).Perm l := List.mergeSort_perm _ _
theorem sortC_len {γ : Type} (c : γ → Tp) (l : List γ) : (sortC c l).length = l.length := (sortC_perm c l).length_eq
theorem ev_sortC (S : SItem w) {γ : Type} (c : γ → Tp) {R : Heap → Value → γ → Prop} (hR : ∀ h v b, R h v b ↔ S.I.R h v (c b)) {gi h : Heap} {l : Addr} {vs : List Value} {bs : List γ} {n : Nat} (room : Room A 3) (kg : Kp gi h) (hl : h.get? l = some (LO vs n)) (hr : SeqL R gi vs bs) (h64 : vs.length < 64)
    {P : Value → Heap → Prop} (p : ∀ D h' ys k, Only [] h h' → h.get? D = none → h'.get? D = some (LO ys k) → SeqL R gi ys (sortC c bs) → P (.ref D) h') : Ev (model pw w) A (call (.builtin "sorted") [.ref l]) h P := by
  refine ev_sorted S room kg hl (as := bs.map c) (All2.map_r c (All2.imp (fun v b r => (hR gi v b).mp r) hr)) h64 fun D h' ys k o d g r => p D h' ys k o d g ?_
  rw [srt_map] at r
  exact All2.imp (fun v b r => (hR gi v b).mpr r) (All2.of_map_r c r)
theorem strsAre_all {vs : List Value} {as : List Str} (a : All2 StrIs vs as) : StrsAre vs as := by
  induction a with
  | nil => exact .nil
  | cons r _ ih =>
    obtain ⟨t, rfl⟩ := r
    exact .cons _ t ih
theorem ev_notin_list {prog : Program} {l : Addr} {vs : List Value} {ys : List Str} {n : Nat} {k : Str} {t : Tok} {h : Heap} {P : Value → Heap → Prop} (hl : h.get? l = some (LO vs n)) (a : All2 StrIs vs ys) (p : P (.bool (!(ys.any (· == k)))) h) :
    Ev (model prog w) A (compareOp .NotIn (.str k t) (.ref l)) h P := by
  intro E Q s hs hQ
  subst hs
  exact notin_list_strs (PySem.IsL.isList (n := n) hl) (strsAre_all a) (hQ _ _ s.toks p)
/-! ## `_law_due_names` -/
noncomputable def addName (acc : List Str) (p : Str × Str) : List Str := if acc.any (· == p.1) then acc else acc ++ [p.1]
noncomputable def namesOf (as : List (Str × Str)) : List Str := as.foldl addName []
theorem due_names_C (B : Base w Bh) {h : Heap} (kb : Kp Bh h) (room : Room A 1) {l : Addr} {xs : List Value} {n : Nat} {as : List (Str × Str)} (hl : h.get? l = some (LO xs n)) {gi : Heap} (kgi : Kp gi h) (hr : SeqL PR gi xs as) (hz : xs.length < 60) {P : Value → Heap → Prop}
    (p : ∀ D h' ys k, Only [] h h' → h.get? D = none → h'.get? D = some (LO ys k) → All2 StrIs ys (namesOf as) → P (.ref D) h') :
    CEv (model pw w) A (.call (.ref 343) ⟨[.ref l], []⟩) h P := by
  refine CEv.fng B kb (n := 0) room kp_all (fa := 343) (c := 342) [("left", .ref l)] rfl rfl rfl rfl rfl rfl rfl (fun s hs => BindsTo.of_eq (by rfl)) rfl rfl ?_
  intro L h₁ Rm k1 nL F N
  refine ev_cons (ev_assign (ev_list (ev_newList (by simp) fun D h2 o2 d2 g2 => ?_)))
  have F2 := Fm.o F o2
  have N2 := Nw.o N o2
  have DL : D ≠ L := fun e => by
    obtain ⟨o, _, _, ho, _⟩ := F.ns
    rw [← e, d2] at ho; cases ho
  refine ev_st F2 (N2.cons g2 DL (none_of_kp F.keep d2)) fun h3 F3 N3 => ?_
  refine ev_cons (ev_for (ev_ld F3 rfl (ev_for_list ownTuple Rm.handled F3 N3 (l := l) (xs := xs) (n := n) hl (fun i m led => ∃ ys k, led = [(D, LO ys k)] ∧ m "names" = some (.ref D) ∧ All2 StrIs ys ((as.take i).foldl addName []) ∧ ys.length ≤ i) ⟨[], 0, rfl, rfl, .nil, Nat.le_refl _⟩ ?_ ?_)))
  · rintro i v h4 m led gT hv kT F4 N4 ⟨ys, k, rfl, m1, a4, z4⟩
    have hi : i < xs.length := (List.getElem?_eq_some_iff.mp hv).1
    obtain ⟨a, ha⟩ : ∃ a, as[i]? = some a := ⟨_, List.getElem?_eq_getElem (by rw [← hr.len]; exact hi)⟩
    obtain ⟨v', hv', rv⟩ := hr.at ha
    rw [hv] at hv'
    obtain rfl := Option.some.inj hv'
    obtain ⟨x, t, u, rfl, hx⟩ := (rv.up (kgi.trans' kp_all)).get
    have et : (as.take (i + 1)).foldl addName [] = addName ((as.take i).foldl addName []) a := by rw [List.take_add_one, ha]; simp
    refine ev_asg_two Rm.handled (F4.keep _ _ (kT _ _ hx)) fun h5 o5 => ?_
    have F5 := Fm.o F4 o5
    have N5 := Nw.o N4 o5
    refine ev_asg_name (ev_st F5 N5 fun h6 F6 N6 => ev_asg_name (ev_st F6 N6 fun h7 F7 N7 => ?_))
    refine ev_cons (ev_if (ev_isTrue_compare (ev_ld F7 (v := .str a.1 t) rfl (ev_ld F7 (v := .ref D) m1 (ev_notin_list (N7.at (.head _)) a4 (ev_truthy_bool ?_))))))
    have e : addName ((as.take i).foldl addName []) a = if ((as.take i).foldl addName []).any (· == a.1) then (as.take i).foldl addName [] else (as.take i).foldl addName [] ++ [a.1] := rfl
    cases hc : ((as.take i).foldl addName []).any (· == a.1) with
    | true =>
      rw [hc] at e
      exact ev_nil (ev_nil ⟨_, _, F7, N7, ys, k, rfl, m1, by rw [et, e]; exact a4, by omega⟩)
    | false =>
      rw [hc] at e
      refine ev_cons (ev_expr (ev_mcall (ev_ld F7 (v := .ref D) m1 (ev_method_list (N7.at (.head _)) PySem.slot_list_append (ev_ld F7 (v := .str a.1 t) rfl ⟨.builtin, ev_append (N7.at (.head _)) (by omega) fun h8 o8 g8 => ev_nil (ev_nil ?_)⟩)))))
      have F8 := Fm.o1 F7 N7 o8
      have N8 := Nw.o1 N7 o8 g8 alln
      exact ⟨_, _, F8, N8, ys ++ [.str a.1 t], k + 1, rfl, m1, by rw [et, e]; exact All2.snoc a4 ⟨t, rfl⟩, by simp; omega⟩
  · rintro h4 m led F4 N4 ⟨ys, k, rfl, m1, a4, z4⟩
    refine ev_cons (ev_return (ev_ld F4 m1 ?_))
    refine p D h4 ys k (Only.of_kp F4.keep) (none_of_kp k1 d2) (N4.at (.head _)) ?_
    rw [List.take_of_length_le (by rw [hr.len]; exact Nat.le_refl _)] at a4
    exact a4
end Mine
open PySem PySem.W PyProof.Rows PySem.Calls
set_option maxRecDepth 100000
set_option maxHeartbeats 4000000
set_option linter.unusedVariables false
namespace Mine
variable {w : World} {A : Around} {Bh : Heap}
theorem Fm.new {h h' : Heap} {C X : Addr} {m : Str → Option Value} (F : Fm (hideAll h [C]) C h' m) (d : h'.get? X = none) : h.get? X = none ∧ X ∉ [C] := by
  have hX : X ∉ [C] := fun q => by
    obtain ⟨o, _, _, ho, _⟩ := F.ns
    rw [← List.mem_singleton.mp q, d] at ho; cases ho
  exact ⟨none_of_only d hX F.only, hX⟩
theorem Fm.kpC {h1 h h' : Heap} {C : Addr} {m : Str → Option Value} (F : Fm (hideAll h [C]) C h' m) (k : Kp h1 h) (c : h1.get? C = none) : Kp h1 h' := fun b o e => F.keep _ _ (hideAll_get _ (k _ _ e) fun q => by
  rw [List.mem_singleton.mp q, c] at e; cases e)
theorem ev_asg_PR {env : Env} {n1 n2 : Str} {px1 px2 px : Pos} {k : Nat} (hh : A.handled = none) {g h : Heap} {m : Str → Option Value} {led : List (Addr × Obj)} (F : Fm g env.locals h m) (N : Nw g env.locals h led) {v : Value} {p : Str × Str} (r : PR h v p) {P : Unit → Heap → Prop}
    (q : ∀ h' t u, Fm g env.locals h' (upd n2 (.str p.2 u) (upd n1 (.str p.1 t) m)) → Nw g env.locals h' led → P () h')
    (hk : env.scope.kind = .function := by rfl) (l1 : env.kindOf n1 = some .local := by rfl) (l2 : env.kindOf n2 = some .local := by rfl) : Ev (model pw w) A (assign (.Tuple [.Name n1 px1, .Name n2 px2] k px) env v) h P := by
  obtain ⟨x, t, u, rfl, hx⟩ := r.get
  refine ev_asg_two hh hx fun h1 o1 => ?_
  have F1 := Fm.o F o1
  have N1 := Nw.o N o1
  exact ev_asg_name (ev_st F1 N1 (fun h2 F2 N2 => ev_asg_name (ev_st F2 N2 (fun h3 F3 N3 => q h3 t u F3 N3) hk l2)) hk l1)
/-- a new tuple of three texts, as an element -/
theorem ev_triple {cenv : Env} {e1 e2 e3 : Expr} {k : Nat} {px : Pos} {h0 h : Heap} {m : Str → Option Value} {x y z : Str} {t u v : Tok} {P : Value → Heap → Prop} (F : Fm (hideAll h0 [cenv.locals]) cenv.locals h m)
    (q : EvL (model pw w) A cenv [e1, e2, e3] h fun vs h' => vs = [.str x t, .str y u, .str z v] ∧ h' = h)
    (p : ∀ T h', Fm (hideAll h0 [cenv.locals]) cenv.locals h' m → (∀ gE G, Kp gE G → NewIn [cenv.locals] h0 h' G → TR G (.ref T) (x, y, z)) → P (.ref T) h')
    (he : starEach [e1, e2, e3] cenv = plainEach cenv [e1, e2, e3] := by rfl) : Ev (model pw w) A (eval (.Tuple [e1, e2, e3] k px) cenv) h P := by
  refine ev_tuple ?_ he
  refine Ev.mono q fun v1 h1 q1 => Ev.mono q1 fun v2 h2 q2 => Ev.mono q2 fun v3 h3 q3 => ?_
  obtain ⟨e, rfl⟩ := q3
  refine ev_newTuple (by simp) (by simp) fun T h4 o4 d4 g4 => ?_
  have F4 := Fm.o F o4
  rw [e] at g4
  obtain ⟨n1, n2⟩ := F.new d4
  exact p T h4 F4 fun gE G k1 k2 => TR.mk (k2 T _ n1 n2 g4)
noncomputable def rowsOf (as bs : List (Str × Str)) : List (Str × Str × Str) := (sortC cP as).flatMap fun p => (sortC cP bs).flatMap fun q => if q.1 == p.1 then [(p.1, p.2, q.2)] else []
/-! ## `_law_due_rows` -/
theorem due_rows_C (B : Base w Bh) {h : Heap} (kb : Kp Bh h) (room : Room A 5) {l r : Addr} {xs ys : List Value} {n k : Nat} {as bs : List (Str × Str)} (hl : h.get? l = some (LO xs n)) (hr : h.get? r = some (LO ys k)) {gi : Heap} (kgi : Kp gi h) (ra : SeqL PR gi xs as) (rb : SeqL PR gi ys bs) (ha : as.length < 60) (hb : bs.length < 60)
    (hz : (rowsOf as bs).length < 64) {P : Value → Heap → Prop} (p : ∀ D h' zs k, Only [] h h' → h.get? D = none → h'.get? D = some (LO zs k) → (∀ G, Kp gi G → NewIn [D] h h' G → SeqL TR G zs (rowsOf as bs)) → P (.ref D) h') :
    CEv (model pw w) A (.call (.ref 326) ⟨[.ref l, .ref r], []⟩) h P := by
  refine CEv.fngc B kb (n := 4) room kgi (fa := 326) (c := 325) [("left", .ref l), ("right", .ref r)] rfl rfl rfl rfl rfl rfl rfl (fun s hs => BindsTo.of_eq (by rfl)) (fun L => by rfl) ?_
  intro L h₁ Rm k1 nL F CC
  obtain ⟨oc, hc, dc, _, nc, cL, cg⟩ := CC "right" (nx L) (by rfl)
  have N : Nw gi L h₁ [(nx L, oc)] := Nw.nil.cons hc cL cg
  refine ev_cons (ev_return (ev_lc (cl := [("right", nx L)]) (ev_call (ev_bi B (kb.trans' k1) (.builtin "sorted") (by rfl) (by rfl) (ev_ld F rfl ⟨.builtin, ev_sortC (tupS w [0]) cP (fun _ _ _ => Iff.rfl) (Rm.le (by decide)) (kgi.trans' k1) (k1 _ _ hl) ra (by have := ra.len; omega) fun D1 h2 ys1 n1 o2 d2 g2 r2 => ?_⟩)))))
  have F2 := Fm.o F o2
  have N2 := Nw.o N o2
  refine lcomp2 (R := PR) (R2 := PR) (R' := TR) ownTuple ownTuple Rm.handled F2 N2 g2 r2 hz ?_ ?_
  · intro C c0 a v h3 m ha' rv o3 kE F3
    have cC : nx L ≠ C := fun e => by rw [← e, N2.at (.head _)] at c0; cases c0
    refine ev_asg_PR Rm.handled F3 Nw.nil (rv.up kE) fun h4 t u F4 N4 => ?_
    have kh : Kp h₁ h4 := o2.kp.trans' (F4.kpC o3.kp c0)
    refine ev_call (ev_bi B ((kb.trans' k1).trans' kh) (.builtin "sorted") (by rfl) (by rfl) (ev_ldc (kh _ _ hc) dc ⟨.builtin, ev_sortC (tupS w [0]) cP (fun _ _ _ => Iff.rfl) (Rm.le (by decide)) ((kgi.trans' k1).trans' kh) (kh _ _ (k1 _ _ hr)) rb (by have := rb.len; omega) fun D2 h5 ys2 n2 o5 d5 g5 r5 => ?_⟩))
    have F5 := Fm.o F4 o5
    have N5 := Nw.o N4 o5
    refine ⟨D2, ys2, n2, sortC cP bs, fun q => if q.1 == a.1 then [(a.1, a.2, q.2)] else [], fun m => m "name" = some (.str a.1 t) ∧ m "one" = some (.str a.2 u), _, rfl, g5, .inr (F4.new d5).1, r5, F5, ⟨rfl, rfl⟩, rfl, ?_⟩
    intro q v2 h6 m6 hq rq o6 kE6 F6 km _
    refine ev_asg_PR Rm.handled F6 Nw.nil (rq.up kE6) fun h7 t7 u7 F7 N7 => ?_
    refine ev_tests1 (ev_isTrue_compare (ev_ld F7 rfl (ev_ld F7 (v := .str a.1 t) km.1 (ev_eqs (ev_truthy_bool ?_)))))
    cases hq' : q.1 == a.1 with
    | false =>
      refine iff0 ?_
      exact ⟨_, by simp [hq'], F7, km, trivial⟩
    | true =>
      refine ift ?_
      exact ev_triple F7 (ev_ld F7 (v := .str a.1 t) km.1 (ev_ld F7 (v := .str a.2 u) km.2 (ev_ld F7 rfl ⟨rfl, rfl⟩))) fun T h8 F8 r8 => ⟨_, _, by simp [hq'], F8, km, trivial, r8 _⟩
  · intro D h5 zs n5 gN d0 o5 kN F5 N5 _ r5
    exact p D h5 zs n5 (fun b o _ e => o5 _ _ nin0 (o2 _ _ nin0 (k1 _ _ e))) (none_of_kp (k1.trans' o2.kp) d0) (N5.at (.head _)) fun G e1 e2 => r5 G e1 (e2.first (k1.trans' o2.kp))
end Mine
open PySem PySem.W PyProof.Rows PySem.Calls
set_option maxRecDepth 100000
set_option maxHeartbeats 1000000
set_option linter.unusedVariables false
namespace Mine
variable {w : World} {A : Around} {Bh : Heap}
/-! ## comprehensions whose elements need to know the claim's caller -/
section
variable {α β : Type} {M : Model} {h : Heap}
theorem EvC.of {t : Sem α} {P : α → Heap → Prop} (x : Ev M A t h P) : EvC M A t h P := fun E Q s hs hQ => wpC.of (x E Q s hs hQ)
theorem EvC.mono {t : Sem α} {P P' : α → Heap → Prop} (x : EvC M A t h P) (k : ∀ a h', P a h' → P' a h') : EvC M A t h P' := fun E Q s hs hQ => x E Q s hs fun a h' tk p => hQ a h' tk (k a h' p)
theorem EvC.bind {t : Sem α} {f : α → Sem β} {P : β → Heap → Prop} (x : EvC M A t h fun a h' => EvC M A (f a) h' P) : EvC M A (t >>= f) h P :=
  fun E Q s hs hQ => wpC.bind (x E _ s hs fun a h' tk y => y E Q _ rfl fun b h'' tk' p => hQ b h'' tk' p)
theorem EvC.first {t : Sem α} {f : α → Sem β} {P : β → Heap → Prop} (x : Ev M A t h fun a h' => EvC M A (f a) h' P) : EvC M A (t >>= f) h P := EvC.bind (.of x)
theorem EvC.call {f : Value} {pos : List Value} {kw : List (Str × Value)} {P : Value → Heap → Prop} (x : CEvC M A (.call f ⟨pos, kw⟩) h P) : EvC M A (PySem.call f pos kw) h P :=
  fun E Q s hs hQ => wpC.call (x _ s hs fun v h' tk p => hQ v h' tk p)
theorem evC_call {env : Env} {func : Expr} {es : List Expr} {pos : Pos} {P : Value → Heap → Prop} (x : Ev M A (eval func env) h fun f h1 => EvL M A env es h1 fun vs h2 => Keeps M h2 f ∧ EvC M A (PySem.call f vs) h2 P)
    (he : starEach es env = plainEach env es := by rfl) (hc : eval (.Call func es [] pos) env = (do callWith pos (← eval func env) [] (backTo pos (starEach es env)) (backToKw pos (keywordEach [] env))) := by rfl) : EvC M A (eval (.Call func es [] pos) env) h P := by
  rw [hc]
  refine EvC.first (x.mono fun f h1 y => ?_)
  intro E Q s hs hQ
  rw [he]
  refine wpC.callWith ?_
  have z : wpAny M A (spliced (backTo pos (plainEach env es))) (fun vs s₁ => Keeps M s₁.heap f ∧ wpC M A (PySem.call f ([] ++ vs) []) Q E s₁) E s :=
    ev_spliced y _ _ s hs fun vs h1 tk y => ⟨y.1, y.2 _ _ _ rfl fun v h2 tk2 p => hQ _ _ _ p⟩
  cases es with
  | nil => exact evalArgs_nil3 (by
      obtain ⟨k, y⟩ := (y : Keeps M h1 f ∧ EvC M A (PySem.call f []) h1 P)
      subst hs
      exact ⟨k, y _ _ s rfl fun v h2 tk2 p => hQ v h2 tk2 p⟩)
  | cons e es => exact evalArgs_plain z
end
theorem wpC.standIf {α : Type} {M : Model} {E : Value → Shared → Prop} {s : Shared} {c : Prop} [Decidable c] {pos : Pos} {k : PUnit → Sem α} {Q : α → Shared → Prop} (h : wpC M A (k ()) Q E s) : wpC M A (if c then (standAt pos >>= k) else k ()) Q E s := by
  split
  · exact wpC.first (wpAny_standAt h)
  · exact h
theorem wpC.comprehension {M : Model} {E : Value → Shared → Prop} {s : Shared} {env : Env} {e : Expr} {scope : Scope} {pos : Pos} {newAcc first : Sem Value} {g : Comprehension} {gs : List Comprehension} {cl : List (Str × Addr)} {use : Option (Value → Sem Unit)} {Q : Value → Shared → Prop}
    (hcl : clausesOf e = g :: gs) (hs : ∀ x, foldedSetIterable g.iter env x = pure x) (hclos : closureFor scope env = pure cl) (hkind : scope.kind = .function) (hnames : ∀ x ∈ scope.names, x.2 = .local → scope.names.lookup x.1 = some .local)
    (h : wpAny M A first (fun x s₁ => wpAny M A (pyIter x) (fun it s₂ => wpAny M A newAcc (fun acc s₃ => wpAny M A (newFunctionEnv scope env.globals cl [] env.qual none .none (some env)) (fun cenv s₄ =>
      codeC M A (.compStart e 0 it acc { cenv with scope := relabel scope env }) (fun r s' => match r, use with
        | .ok _, none => ∃ m, s'.heap.Ns cenv.locals m ∧ ∀ h', Heap.SameBut cenv.locals s'.heap h' → Q acc { s' with heap := h' }
        | .ok _, some u => wpAny M A (u acc) (fun _ s'' => ∃ m, s''.heap.Ns cenv.locals m ∧ ∀ h', Heap.SameBut cenv.locals s''.heap h' → Q .none { s'' with heap := h' }) E s'
        | .error _, _ => False) s₄) E s₃) E s₂) E s₁) E s) :
    wpC M A (PySem.comprehension e scope env pos newAcc false first use) Q E s := by
  unfold PySem.comprehension
  rw [hclos, hcl]
  refine wpC.first (wpAny_mono h (fun x s₁ h₁ => wpC.first (wpAny_standAt (wpC.first (wpAny_of_eq (hs x) (wpC.first (wpAny_holding (wpAny_mono h₁ (fun it s₂ h₂ => ?_) fun _ _ h' => h'))))))) fun _ _ h' => h')
  refine wpC.standIf (wpC.first (wpAny_mono h₂ (fun acc s₃ h₃ => wpC.first (wpAny_pure (wpC.first (wpAny_mono h₃ (fun cenv s₄ h₄ => ?_) fun _ _ h' => h')))) fun _ _ h' => h'))
  dsimp only
  have hv : ∀ x ∈ (scope.names.filter fun x => (x.2 == .local || x.2 == .cell) && x.1 != (".0" : Str)).reverse, x.2 = .local →
      Env.kindOf { cenv with scope := relabel scope env } x.1 = some .local := fun x hx hl => lookup_relabel_local (hnames x (List.mem_filter.mp (List.mem_reverse.mp hx)).1 hl)
  have hv' : ∀ x ∈ (scope.names.filter fun x => (x.2 == .local || x.2 == .cell) && x.1 != (".0" : Str)).reverse.drop 1 ++ (scope.names.filter fun x => (x.2 == .local || x.2 == .cell) && x.1 != (".0" : Str)).reverse.take 1,
      x.2 = .local → Env.kindOf { cenv with scope := relabel scope env } x.1 = some .local := fun x hx hl => by
    rcases List.mem_append.mp hx with h1 | h1
    · exact hv x (List.mem_of_mem_drop h1) hl
    · exact hv x (List.mem_of_mem_take h1) hl
  refine wpC.holding (wpC.bind (wpC.attempt (wpC.holding (wpC.run fun Γ p e hb hc => wpCode_mono (fun r s' hr => ?_) (h₄ Γ p e hb hc)))))
  cases r with
  | ok f =>
    cases use with
    | none =>
      obtain ⟨m, hn, hr⟩ := hr
      exact wpC.first (wpAny_holding (wpAny_comp_letGo (cenv := { cenv with scope := relabel scope env }) hkind _ s' m hv hn fun h' m' _ hs' => wpC.of (wpAny_pure (hr h' hs'))))
    | some u =>
      refine wpC.first (wpAny_rule (wpC.first (wpAny_holding (wpAny_mono hr (fun _ s'' hr' => ?_) fun _ _ h' => h'))))
      obtain ⟨m, hn, hr'⟩ := hr'
      exact wpC.first (wpAny_comp_letGo (cenv := { cenv with scope := relabel scope env }) hkind _ s'' m hv' hn fun h' m' _ hs' => wpC.of (wpAny_pure (hr' h' hs')))
  | error x => cases use <;> exact hr.elim
/-- a code's heap: no raise -/
noncomputable def FEvC (w : World) (A : Around) (c : Code) (h : Heap) (P : Heap → Prop) : Prop :=
  ∀ (R : Result → Shared → Prop) (s : Shared), s.heap = h → (∀ h' tk, P h' → R (.ok .next) { s with heap := h', toks := tk }) → codeC (model pw w) A c R s
noncomputable def CompAtC (w : World) (A : Around) (e : Expr) (scope : Scope) (env : Env) (cl : List (Str × Addr)) (it : Value) (h2 : Heap) (P : Addr → Addr → Heap → Prop) : Prop :=
  ∀ D C h3, Only [] h2 h3 → h2.get? D = none → h3.get? D = some (LO [] 0) → h2.get? C = none → D ≠ C → h3.Ns C (fun _ => none) →
    FEvC w A (.compStart e 0 it (.ref D) (cenvc scope cl C env)) h3 (P D C)
theorem compC_open {e : Expr} {scope : Scope} {env : Env} {cl : List (Str × Addr)} {it : Value} {h2 : Heap} {P : Addr → Addr → Heap → Prop} (z : CompAtC w A e scope env cl it h2 P) :
    Ev (model pw w) A (newList []) h2 fun acc h3 => Ev (model pw w) A (newFunctionEnv scope env.globals cl [] env.qual none .none (some env)) h3 fun cenv h4 => ∃ D C, acc = .ref D ∧ cenv = newEnv scope C env.globals (cellsFrom (nx C) scope.names cl) env.qual none .none (some env) builtinsNs ∧
      FEvC w A (.compStart e 0 it (.ref D) (cenvc scope cl C env)) h4 (P D C) := by
  refine ev_newList (by simp) fun D h3 o3 d1 d2 => ?_
  refine ev_newCompEnv fun C h4 o4 c1 c2 c3 c4 => ⟨D, C, rfl, rfl, z D C h4 (o3.trans o4) d1 (o4.kp _ _ d2) (none_of_kp' o3.kp c1) (fun q => ?_) c2⟩
  rw [q] at d2; rw [d2] at c1; cases c1
theorem evC_comp {elt target iter : Expr} {ifs : List Expr} {rest : List Comprehension} {scope : Scope} {pos : Pos} {env : Env} {cl : List (Str × Addr)} {h : Heap} {P : Value → Heap → Prop}
    (x : Ev (model pw w) A (eval iter env) h fun xv h1 => Ev (model pw w) A (pyIter xv) h1 fun it h2 => CompAtC w A (.ListComp elt (⟨target, iter, ifs, 0⟩ :: rest) scope pos) scope env cl it h2 fun D C h4 => ∃ m, h4.Ns C m ∧ ∀ h5, Only [C] h4 h5 → P (.ref D) h5)
    (hclos : closureFor scope env = pure cl := by rfl) (hkind : scope.kind = .function := by rfl) (hnames : localsOk scope.names scope.names = true := by rfl) (hs : ∀ x, foldedSetIterable iter env x = pure x := by intro _; rfl) :
    EvC (model pw w) A (eval (.ListComp elt (⟨target, iter, ifs, 0⟩ :: rest) scope pos) env) h P := by
  intro E Q s hs' hQ
  rw [eval_ListComp]
  refine wpC.comprehension (use := none) rfl hs hclos hkind (localsOk_of hnames) (x _ _ s hs' fun xv h1 tk1 y => y _ _ _ rfl fun it h2 tk2 z => compC_open z _ _ _ rfl fun acc h3 tk3 y => y _ _ _ rfl fun cenv h4 tk4 y => ?_)
  obtain ⟨D, C, rfl, rfl, y⟩ := y
  refine y _ _ rfl fun h5 tk5 p => ?_
  obtain ⟨m, hm, p⟩ := p
  exact ⟨m, hm, fun h6 hs6 => hQ _ h6 tk5 (p h6 (only_of_same hs6))⟩
theorem evC_assign_comp {elt target iter : Expr} {ifs : List Expr} {rest : List Comprehension} {scope : Scope} {pos spos py : Pos} {yn : Str} {env : Env} {cl : List (Str × Addr)} {h : Heap} {P : Flow → Heap → Prop}
    (x : Ev (model pw w) A (eval iter env) h fun xv h1 => Ev (model pw w) A (pyIter xv) h1 fun it h2 => CompAtC w A (.ListComp elt (⟨target, iter, ifs, 0⟩ :: rest) scope pos) scope env cl it h2 fun D C h4 => Ev (model pw w) A (storeName env yn (.ref D)) h4 fun _ h5 => ∃ m, h5.Ns C m ∧ ∀ h6, Only [C] h5 h6 → P .next h6)
    (hsw : swapsWith (.ListComp elt (⟨target, iter, ifs, 0⟩ :: rest) scope pos) (some (.Name yn py)) spos.line env = pure true := by rfl)
    (hclos : closureFor scope env = pure cl := by rfl) (hkind : scope.kind = .function := by rfl) (hnames : localsOk scope.names scope.names = true := by rfl) (hs : ∀ x, foldedSetIterable iter env x = pure x := by intro _; rfl) :
    EvC (model pw w) A (exec (.Assign [.Name yn py] (.ListComp elt (⟨target, iter, ifs, 0⟩ :: rest) scope pos) spos) env) h P := by
  intro E Q s hs' hQ
  rw [exec_Assign_Name_used _ _ _ _ hsw]
  refine wpC.first (wpAny_standAt (wpC.bind ?_))
  show wpC _ A (do let _ ← comprehension (.ListComp elt (⟨target, iter, ifs, 0⟩ :: rest) scope pos) scope env _ (newList []) false (eval iter env) (some (assign (.Name yn py) env))) _ _ s
  refine wpC.bind (wpC.mono (Q := fun _ s' => Q .next s') ?_ (fun _ s' hq => wpC.of (wpAny_pure (wpC.of (wpAny_pure hq)))) fun _ _ e => e)
  refine wpC.comprehension (use := some (assign (.Name yn py) env)) rfl hs hclos hkind (localsOk_of hnames) (x _ _ s hs' fun xv h1 tk1 y => y _ _ _ rfl fun it h2 tk2 z => compC_open z _ _ _ rfl fun acc h3 tk3 y => y _ _ _ rfl fun cenv h4 tk4 y => ?_)
  obtain ⟨D, C, rfl, rfl, y⟩ := y
  refine y _ _ rfl fun h5 tk5 p => ?_
  refine ev_asg_name p _ _ _ rfl fun _ h6 tk6 q => ?_
  obtain ⟨m, hm, q⟩ := q
  exact ⟨m, hm, fun h7 hs7 => hQ _ h7 tk6 (q h7 (only_of_same hs7))⟩
end Mine
open PySem PySem.W PyProof.Rows PySem.Calls
set_option maxRecDepth 100000
set_option maxHeartbeats 1000000
set_option linter.unusedVariables false
namespace Mine
variable {w : World} {A : Around} {Bh : Heap}
theorem fevC_start {elt : Expr} {gens : List Comprehension} {scope : Scope} {pos : Pos} {depth : Nat} {it acc : Value} {cenv : Env} {target iter : Expr} {ifs : List Expr} {h : Heap} {P : Heap → Prop} (hg : gens[depth]? = some ⟨target, iter, ifs, 0⟩)
    (hi : ∀ {Q : Value → Heap → Prop}, Q it h → Ev (model pw w) A (pyIter it) h Q) (x : FEvC w A (.compLoop (.ListComp elt gens scope pos) depth it acc cenv) h P) : FEvC w A (.compStart (.ListComp elt gens scope pos) depth it acc cenv) h P := by
  intro R s hs hQ
  refine codeC.of_tree ?_
  show wpC _ _ ((compStart (.ListComp elt gens scope pos) depth it acc cenv).onRaise (fun x => do noteFrame x cenv; standAt theWindowsPlace)) _ _ s
  refine wpC.onRaise (wpC.mono (E := fun _ _ => False) ?_ (fun _ _ q => q) fun _ _ q => q.elim)
  unfold compStart
  have hc : (clausesOf (.ListComp elt gens scope pos))[depth]? = some ⟨target, iter, ifs, 0⟩ := hg
  rw [hc]
  show wpC _ _ (ask >>= _) _ _ s
  refine wpC.first (wpAny_askSetting ?_)
  split
  · first
      | exact wpC.first (wpAny_pure (wpC.of (wpAny_pure (And.intro rfl (x R s hs hQ)))))
      | exact wpC.of (wpAny_pure (And.intro rfl (x R s hs hQ)))
  · refine wpC.first (wpAny_rule ?_)
    show wpC _ _ (standAt iter.pos >>= _) _ _ s
    refine wpC.first (wpAny_standAt (wpC.first (hi (Q := fun v h' => v = it ∧ h' = h) ⟨rfl, rfl⟩ _ _ s hs fun v h' tk e => ?_)))
    obtain ⟨rfl, rfl⟩ := e
    exact wpC.of (wpAny_pure ⟨rfl, x R _ rfl fun h' tk p => hQ h' tk p⟩)
/-- a loop of a comprehension without tests -/
theorem fevC_loop {elt : Expr} {scope : Scope} {pos : Pos} {it : Value} {D : Addr} {cenv : Env} {target iter : Expr} {h : Heap} {P : Heap → Prop} (I : Nat → Heap → Prop)
    (turn : ∀ n h, I n h → Ev (model pw w) A (pyNext it) h fun r h1 => match r with
      | none => P h1
      | some v => Ev (model pw w) A (letOwnedTupleGo target it v) h1 fun _ h2 => Ev (model pw w) A (assign target cenv v) h2 fun _ h3 => EvC (model pw w) A (eval elt cenv) h3 fun y h4 => ∃ ys k, h4.get? D = some (LO ys k) ∧ ys.length < 64 ∧
        ∀ h5, Only [D] h4 h5 → h5.get? D = some (LO (ys ++ [y]) (k + 1)) → ∃ m, m < n ∧ I m h5) (n : Nat) (h0 : I n h) : FEvC w A (.compLoop (.ListComp elt [⟨target, iter, [], 0⟩] scope pos) 0 it (.ref D) cenv) h P := by
  intro R s hs hQ
  refine codeC.loop rfl (fun k s' => ∃ h' tk, s' = { s with heap := h', toks := tk } ∧ I k h') (fun k s' hI => ?_) n ⟨s.heap, s.toks, rfl, hs ▸ h0⟩
  obtain ⟨h', tk, rfl, hI⟩ := hI
  show wpC _ A ((compTurn (.ListComp elt [⟨target, iter, [], 0⟩] scope pos) 0 it (.ref D) cenv).onRaise (fun x => do noteFrame x cenv; theTreesLotGoes x)) _ _ _
  refine wpC.onRaise (wpC.mono (E := fun _ _ => False) ?_ (fun _ _ q => q) fun _ _ q => q.elim)
  have ht : compTurn (.ListComp elt [⟨target, iter, [], 0⟩] scope pos) 0 it (.ref D) cenv = (do
      standAt iter.pos
      match ← pyNext it with
      | none => pure (.done .next)
      | some v =>
        letOwnedTupleGo target it v
        assign target cenv v
        let mut ok := true
        for c in ([] : List Expr) do
          if ok then ok ← isTrue c cenv (eval c cenv)
        if ok then (do let _ ← call (.builtin "list.append") [.ref D, ← eval elt cenv])
        again (.compLoop (.ListComp elt [⟨target, iter, [], 0⟩] scope pos) 0 it (.ref D) cenv)) := rfl
  rw [ht]
  refine wpC.first (wpAny_standAt (wpC.first (turn k h' hI _ _ _ rfl fun r h1 tk1 y => ?_)))
  cases r with
  | none => exact wpC.of (wpAny_pure (hQ _ tk1 y))
  | some v =>
    refine wpC.first (y _ _ _ rfl fun _ h2 tk2 y => wpC.first (y _ _ _ rfl fun _ h3 tk3 y => wpC.first ?_))
    rw [List.forIn_nil]
    refine wpAny_pure (wpC.bind ?_)
    refine wpC.bind (y _ _ _ rfl fun v h4 tk4 y => ?_)
    obtain ⟨ys, n', g4, hz, y⟩ := y
    refine wpC.first (ev_append (P := fun _ h5 => ∃ m, m < k ∧ I m h5) g4 hz (fun h5 o5 g5 => y h5 o5 g5) _ _ _ rfl fun _ h5 tk5 q => ?_)
    obtain ⟨m, hm, hi⟩ := q
    exact wpC.of (wpAny_pure (wpC.of (wpAny_pure ⟨rfl, m, hm, h5, tk5, rfl, hi⟩)))
end Mine
open PySem PySem.W PyProof.Rows PySem.Calls
set_option maxRecDepth 100000
set_option maxHeartbeats 4000000
set_option linter.unusedVariables false
namespace Mine
variable {w : World} {A : Around} {Bh : Heap}
/-! ## raises -/
noncomputable def Er {α : Type} (M : Model) (A : Around) (t : Sem α) (h : Heap) (P : Value → Heap → Prop) : Prop :=
  ∀ (E : Value → Shared → Prop) (Q : α → Shared → Prop) (s : Shared), s.heap = h → (∀ e h' tk, P e h' → E e { s with heap := h', toks := tk }) → wpAny M A t Q E s
section
variable {α β : Type} {M : Model} {h : Heap} {P : Value → Heap → Prop}
theorem Er.bind {t : Sem α} {f : α → Sem β} (x : Er M A t h P) : Er M A (t >>= f) h P := fun E Q s hs hE => wpAny_bind (x E _ s hs hE)
theorem Er.after {t : Sem α} {f : α → Sem β} (x : Ev M A t h fun a h' => Er M A (f a) h' P) : Er M A (t >>= f) h P :=
  fun E Q s hs hE => wpAny_bind (x E _ s hs fun a h' tk y => y E Q _ rfl hE)
theorem Er.holding {vs : List Value} {t : Sem α} (x : Er M A t h P) : Er M A (holding vs t) h P := fun E Q s hs hE => wpAny_holding (x E Q s hs hE)
theorem Ev.caught {t : Sem α} {P : Except Value α → Heap → Prop} (x : Er M A t h fun e h' => P (.error e) h') : Ev M A t.attempt h P :=
  fun E Q s hs hQ => wpAny_attempt (wpAny_mono (x _ (fun _ _ => False) s hs fun e h' tk p => hQ _ h' tk p) (fun _ _ f => f.elim) fun _ _ y => y)
end
theorem Er.call {id : String} {pos : List Value} {b : Builtin} {h : Heap} {P : Value → Heap → Prop} (hq : plainId id = true) (hb : entryFor table id = some b)
    (x : Ev (model pw w) A.in1 (checkBuiltinCall id ⟨pos, []⟩) h fun _ h1 => Er (model pw w) A.in1 (b ⟨pos, []⟩) h1 P) : Er (model pw w) A (call (.builtin id) pos) h P := by
  intro E Q s hs hE
  refine wpAny_call (codeAny_call_builtin hq hb (x _ _ s hs fun _ h1 tk1 y => y _ _ _ rfl fun e h2 tk2 z => ?_))
  exact hE e h2 tk2 z
/-! ## `getattr(book, '_frozen', dflt)` -/
theorem book_at {h : Heap} {bk dd : Addr} {es : Array DictEntry} {ep : Nat} {od : Obj} (hb : h.get? bk = some (bookO dd es ep)) (hd : h.get? dd = some od) : InstAt h bk (bookO dd es ep) 108 (some od) := ⟨hb, rfl, rfl, hd⟩
theorem entry_dd_ga : entryFor table "collections.defaultdict.__getattribute__" = some Builtin.«object.__getattribute__» := entryFor_alias (id' := "object.__getattribute__") (by kernel_rfl) (by decide +kernel) (by decide +kernel) (by kernel_rfl)
theorem slot_dd_ga : Slot "collections.defaultdict" "__getattribute__" "collections.defaultdict.__getattribute__" :=
  .of (owner := "collections.defaultdict") (n := "__getattribute__") (by rw [typeLookup_type, builtinLookup_eq_fast]; kernel_rfl) (by decide +kernel) (by decide +kernel) (by decide +kernel)
    (by first | exact .inl (by decide +kernel) | exact .inr (by decide +kernel)) (by rw [isSubtype_type]; kernel_rfl)
/-- the look-up of an attribute of the book, whole -/
theorem ev_getattr3 (B : Base w Bh) {h : Heap} (kb : Kp Bh h) {bk dd : Addr} {es : Array DictEntry} {ep : Nat} {od : Obj} (hb : h.get? bk = some (bookO dd es ep)) (hd : h.get? dd = some od) {t : Tok} {dflt : Value} {P : Value → Heap → Prop}
    (x : Ev (model pw w) A.in1 (getAttrBy (.ref bk) (.str "_frozen" t) false).attempt h fun r h1 => (∃ v, r = .ok v ∧ P v h1) ∨ ∃ e, r = .error e ∧ Looks (model pw w) h1 (isInstance e (.type "AttributeError")) true ∧ P dflt h1) :
    CEv (model pw w) A (.call (.builtin "getattr") ⟨[.ref bk, .str "_frozen" t, dflt], []⟩) h P := by
  have X := B.X.keeps kb
  refine cev_builtin (b := Builtin.«getattr») (by decide +kernel) (entryFor_of_tree (by kernel_rfl)) ?_
  refine Ev.looks (Looks.of_peek X (r := ()) (by kernel_rfl)) ?_
  unfold Builtin.«getattr»
  refine Ev.bind (Ev.eq (t' := pure [.ref bk, .str "_frozen" t, dflt]) rfl (Ev.pure ?_))
  refine Ev.bind (Ev.eq (t' := pure ()) rfl (Ev.pure ?_))
  refine Ev.bind (Ev.eq (t' := pure none) (by kernel_rfl) (Ev.pure ?_))
  refine Ev.bind ?_
  show Ev _ _ (isInstance (.ref bk) (.type "module") >>= _) _ _
  refine Ev.bind (Ev.looks (book_inst X hb rfl (r := false) (by kernel_rfl)) (Ev.pure ?_))
  rw [if_neg (by decide)]
  refine Ev.bind (Ev.bind (x.mono fun r h1 z => ?_))
  rcases z with ⟨v, rfl, p⟩ | ⟨e, rfl, he, p⟩
  · exact Ev.pure (ev_ret p)
  · refine Ev.bind (Ev.looks he ?_)
    rw [if_pos rfl]
    exact Ev.pure (ev_ret p)
theorem args_dd_ga {a b : Value} : argsOk "collections.defaultdict.__getattribute__" ⟨[a, b], []⟩ := by unfold argsOk; kernel_rfl
theorem check_dd_ga {M : Model} {bk : Addr} {x : Value} {h : Heap} {P : Unit → Heap → Prop} (hi : Looks M h (isInstance (.ref bk) (.type "collections.defaultdict")) true) (p : P () h) :
    Ev M A (checkBuiltinCall "collections.defaultdict.__getattribute__" ⟨[.ref bk, x], []⟩) h P :=
  @ev_check_sub A M "collections.defaultdict.__getattribute__" "collections.defaultdict" "__getattribute__" (.ref bk) [x] [] h P (by decide +kernel) (.inl (by decide +kernel)) hi args_dd_ga p
theorem ev_frozen_not (B : Base w Bh) {h : Heap} (kb : Kp Bh h) (hh : A.handled = none) {bk dd : Addr} {es : Array DictEntry} {ep : Nat} (hb : h.get? bk = some (bookO dd es ep)) (hd : h.get? dd = some dictO0) {t : Tok} {P : Except Value Value → Heap → Prop}
    (p : ∀ h' e, Kp h h' → Looks (model pw w) h' (isInstance (.ref e) (.type "AttributeError")) true → P (.error (.ref e)) h') :
    Ev (model pw w) A (getAttrBy (.ref bk) (.str "_frozen" t) false).attempt h P := by
  have X := B.X.keeps kb
  have I := book_at hb hd
  refine Ev.caught ?_
  unfold getAttrBy
  refine Er.holding (Er.after (Ev.looks I.type (Er.after (Ev.looks (looks_findIn X (r := some (.builtin "collections.defaultdict.__getattribute__")) (by kernel_rfl)) ?_))))
  show Er _ _ (getAttrByItsOwn _ _ _ _ _ _) _ _
  unfold getAttrByItsOwn
  refine Er.after (Ev.looks (r := none) (looks_findIn X (by kernel_rfl)) ?_)
  refine Er.after (Ev.caught (Er.holding ?_))
  show Er _ _ (boundAndCalled _ _ _) _ _
  unfold boundAndCalled
  rw [slot_dd_ga.bind]
  refine Er.after (Ev.pure (Er.call (b := Builtin.«object.__getattribute__») (by decide +kernel) entry_dd_ga ?_))
  refine check_dd_ga (book_inst X hb rfl (by kernel_rfl)) ?_
  unfold Builtin.«object.__getattribute__»
  refine Er.after (Ev.eq (t' := pure (.ref bk, [.str "_frozen" t])) rfl (Ev.pure ?_))
  refine Er.after (Ev.eq (t' := pure (Str.ofString "_frozen")) rfl (Ev.pure ?_))
  refine Er.after (Ev.looks I.type (Er.after (Ev.looks (r := .missing) (looks_find X I (by kernel_rfl)) ?_)))
  show Er _ _ (Builtin.ObjectAttr.noSuchAttribute _ _) _ _
  unfold Builtin.ObjectAttr.noSuchAttribute
  refine Er.after (Ev.looks (r := "FreezableDefaultDict") ?_ ?_)
  · unfold typeNameOfCut shownTypeOf
    refine Looks.andThen (a := .ref 108) (Looks.andThen I.type ?_) (Looks.of_peek X (by kernel_rfl))
    show Looks _ _ (if (Value.ref 108 == Value.type "builtin_function_or_method") = true then _ else _) _
    rw [if_neg (by decide)]
    exact .now
  intro E Q s hs hE
  subst hs
  refine wpAny_raiseAttrError hh (fun h' tk e x => hE _ h' tk ?_) (attrMsg_fits (by decide +kernel) (by decide +kernel))
  obtain ⟨t1, u1, he⟩ := x.there
  have l1 : Looks (model pw w) h' (isInstance (.ref e) (.type "AttributeError")) true := by
    unfold isInstance
    refine ((Looks.ld (part := none) he).andThen .now).andThen ?_
    exact .of_pure sub_AttributeError
  show Er _ _ (getattributeRaised _ _ _ _ _ _ _) _ _
  unfold getattributeRaised
  refine Er.after (Ev.looks l1 ?_)
  rw [if_pos rfl]
  refine Er.after (Ev.eq (t' := pure none) rfl (Ev.pure ?_))
  show Er _ _ (throw (Value.ref e)) _ _
  exact fun E Q s hs hE => by subst hs; exact wpAny_throw (hE _ _ s.toks (p _ e x.keeps l1))
end Mine
open PySem PySem.W PyProof.Rows PySem.Calls
set_option maxRecDepth 100000
set_option maxHeartbeats 1000000
set_option linter.unusedVariables false
namespace Mine
variable {w : World} {A : Around} {Bh : Heap}
/-! ## trees that ask what code runs (`super()`) -/
noncomputable def EvAt {α : Type} (M : Model) (A : Around) (c : Code) (t : Sem α) (h : Heap) (P : α → Heap → Prop) : Prop :=
  ∀ (E : Value → Shared → Prop) (Q : α → Shared → Prop) (s : Shared), s.heap = h → (∀ a h' tk, P a h' → Q a { s with heap := h', toks := tk }) → _root_.PySem.wpAt M A c t Q E s
section
variable {α β : Type} {M : Model} {c : Code} {h : Heap}
theorem EvAt.of {t : Sem α} {P : α → Heap → Prop} (x : Ev M A t h P) : EvAt M A c t h P := fun E Q s hs hQ => _root_.PySem.wpAt_of_wpAny (x E Q s hs hQ)
theorem EvAt.bind {t : Sem α} {f : α → Sem β} {P : β → Heap → Prop} (x : EvAt M A c t h fun a h' => EvAt M A c (f a) h' P) : EvAt M A c (t >>= f) h P :=
  fun E Q s hs hQ => _root_.PySem.wpAt_bind (x E _ s hs fun a h' tk y => y E Q _ rfl fun b h'' tk' p => hQ b h'' tk' p)
theorem EvAt.first {t : Sem α} {f : α → Sem β} {P : β → Heap → Prop} (x : EvAt M A c t h fun a h' => Ev M A (f a) h' P) : EvAt M A c (t >>= f) h P :=
  EvAt.bind (fun E Q s hs hQ => x E Q s hs fun a h' tk y => hQ a h' tk (.of y))
theorem EvAt.later {t : Sem α} {f : α → Sem β} {P : β → Heap → Prop} (x : Ev M A t h fun a h' => EvAt M A c (f a) h' P) : EvAt M A c (t >>= f) h P := EvAt.bind (.of x)
theorem EvAt.holding {vs : List Value} {t : Sem α} {P : α → Heap → Prop} (x : EvAt M A c t h P) : EvAt M A c (holding vs t) h P := fun E Q s hs hQ => ks_wpAt_holding (x E Q s hs hQ)
end
section
variable {M : Model} {c : Code} {h : Heap} {env : Env}
theorem evAt_ret {e : Expr} {pos : Pos} {P : Flow → Heap → Prop} (x : EvAt M A c (eval e env) h (KRet P)) : EvAt M A c (execs [.Return (some e) pos] env) h P :=
  fun E Q s hs hQ => ks_wpAt_execs_cons (ks_wpAt_Return_some (x E _ s hs fun v h' tk p => hQ _ h' tk p))
theorem evAt_call {func : Expr} {es : List Expr} {pos : Pos} {P : Value → Heap → Prop} (x : EvAt M A c (eval func env) h (KCa M A env es P))
    (he : starEach es env = plainEach env es := by rfl) (hc : eval (.Call func es [] pos) env = (do callWith pos (← eval func env) [] (backTo pos (starEach es env)) (backToKw pos (keywordEach [] env))) := by rfl) :
    EvAt M A c (eval (.Call func es [] pos) env) h P := by
  rw [hc]
  exact EvAt.first (fun E Q s hs hQ => x E Q s hs fun f h1 tk y => hQ f h1 tk (ev_callWith (by simpa using y) he))
/-- three arguments, the last one asks what code runs; the callee a builtin -/
theorem evAt_call3 {func e1 e2 e3 : Expr} {pos : Pos} {id : String} {P : Value → Heap → Prop}
    (x : Ev M A (eval func env) h fun f h1 => f = .builtin id ∧ Ev M A (eval e1 env) h1 fun a h2 => Ev M A (eval e2 env) h2 fun b h3 => EvAt M A c (eval e3 env) h3 fun d h4 => Ev M A (call (.builtin id) [a, b, d]) h4 P)
    (hc : eval (.Call func [e1, e2, e3] [] pos) env = (do callWith pos (← eval func env) [] [(false, eval e1 env), (false, eval e2 env), (false, eval e3 env)] []) := by rfl) :
    EvAt M A c (eval (.Call func [e1, e2, e3] [] pos) env) h P := by
  rw [hc]
  refine EvAt.later (x.mono fun f h1 y => ?_)
  obtain ⟨rfl, y⟩ := y
  unfold callWith
  refine EvAt.first (EvAt.holding ?_)
  unfold evalArgs
  show EvAt M A c (spliced [(false, eval e1 env), (false, eval e2 env), (false, eval e3 env)] >>= _) _ _
  unfold spliced
  refine EvAt.first (EvAt.later (y.mono fun a h2 y => ?_))
  refine EvAt.later (Ev.pure (EvAt.first (EvAt.holding ?_)))
  unfold spliced
  refine EvAt.later (y.mono fun b h3 y => ?_)
  refine EvAt.later (Ev.pure (EvAt.first (EvAt.holding ?_)))
  unfold spliced
  refine EvAt.first (fun E Q s hs hQ => y E Q s hs fun d h4 tk y => hQ d h4 tk ?_)
  refine Ev.bind (Ev.pure (Ev.bind (Ev.holding (Ev.pure ?_))))
  refine Ev.pure (Ev.pure (Ev.pure (Ev.bind (Ev.pure (Ev.holding ?_)))))
  refine Ev.bind (Ev.pure (Ev.bind (Ev.pure (Ev.pure ?_))))
  refine Ev.bind (Ev.standAt (Ev.bind (Ev.pure ?_)))
  exact Ev.bind (y.mono fun r h5 p => Ev.bind (Ev.holding (Ev.point (Ev.pure p))))
theorem evAt_attr {prog : Program} {value : Expr} {attr : Str} {pos : Pos} {P : Value → Heap → Prop} (x : EvAt (model prog w) A c (attributeBase value attr env (eval value env)) h fun o h1 => Ev (model prog w) A (getAttr o attr true) h1 P)
    (he : eval (.Attribute value attr pos) env = (do
      let o ← attributeBase value attr env (eval value env)
      standAt pos.atName
      let r ← holding [o] (getAttr o attr true)
      letTemporaryGo value o r
      pure r) := by with_unfolding_all rfl) : EvAt (model prog w) A c (eval (.Attribute value attr pos) env) h P := by
  rw [he]
  refine EvAt.first (fun E Q s hs hQ => x E Q s hs fun o h1 tk y => hQ o h1 tk ?_)
  refine Ev.bind (Ev.standAt (Ev.bind (Ev.holding (y.mono fun r h2 p => ?_))))
  exact Ev.bind (fun E Q s hs hQ => by subst hs; exact wpAny_letTemporaryGo (hQ _ _ s.toks (Ev.pure p)))
end
/-- a call of a def of the text that asks what code runs -/
theorem CEv.fnAt {A : Around} {h : Heap} (B : Base w Bh) (kb : Kp Bh h) {n : Nat} (room : Room A (n + 1)) {fa c : Addr} {st : Stmt} {qual name : Str} {params : Arguments} {body : List Stmt} {deco : List Expr} {ret : Option Expr} {tp : List TypeParam} {scope : Scope} {ts : Option Scope} {bind : Str} {pos : Pos}
    {cl : List (Str × Addr)} {dV kV doc pm ct : Value} {an : Option Addr} {vs : Array Value} {t : Tok} {args : Args} {P : Value → Heap → Prop} (binds : List (Str × Value))
    (hf : (K w.params).lookup fa = some ⟨.type "function", none, .func (fdOf st qual cl dV kV doc pm an (.ref c) ct), #[]⟩) (hc : (K w.params).lookup c = some ⟨.type "code", none, .fields vs, #[]⟩) (hq : vs[1]? = some (.str qual t))
    (hst : st = .FunctionDef name params body deco ret tp scope ts bind pos) (hk : scope.kind = .function) (hco : scope.isCoroutine = false) (hgen : scope.isGenerator = false)
    (hbind : ∀ s : Shared, s.heap = h → BindsTo s (fdOf st qual cl dV kV doc pm an (.ref c) ct) args binds)
    (hcell : cellFree scope.names = true) (hloc : allLocal scope.names binds = true)
    (hb : ∀ L h₁, Room (A.deeper (fenv scope cl qual L fa (.ref c))) n → Kp h h₁ → Fm h L h₁ (fun x => binds.reverse.lookup x) →
      EvAt (model pw w) (A.deeper (fenv scope cl qual L fa (.ref c))) (.func body (fenv scope cl qual L fa (.ref c))) (execs body (fenv scope cl qual L fa (.ref c))) h₁ fun f h' => P (flowV f) h') :
    CEv (model pw w) A (.call (.ref fa) args) h P := by
  intro R s hs hQ
  subst hs
  subst hst
  have hcd : s.heap.CodeRec (.ref c) qual := ⟨c, _, vs, t, rfl, kb _ _ (B.X c _ hc), rfl, hq⟩
  refine ks_codeAny_call_defAt (fd := fdOf (.FunctionDef name params body deco ret tp scope ts bind pos) qual cl dV kV doc pm an (.ref c) ct) (body := body) (binds := binds) room.lim (kb _ _ (B.X fa _ hf)) rfl (B.nolim.keeps kb) hcd rfl
    (hbind s rfl) (cellFree_of hcell) (allLocal_of hloc) (fun h₁ hns hk₁ => ?_) hco hgen hk
  have z := hb s.heap.objs.size h₁ (room.deeper _) hk₁ ⟨hns, hk₁, Heap.get?_none_of_le (Nat.le_refl _)⟩
  exact z _ _ _ rfl fun f h' tk p => by
    cases f <;> exact hQ _ h' _ p
end Mine
open PySem PySem.W PyProof.Rows PySem.Calls
set_option maxRecDepth 100000
set_option maxHeartbeats 1000000
set_option linter.unusedVariables false
namespace Mine
variable {w : World} {A : Around} {Bh : Heap}
theorem ev_slot {prog : Program} {T : String} {name : Str} {id : String} {b : Builtin} {self : Value} {rest : List Value} {h : Heap} {P : Value → Heap → Prop} (sl : Slot T name id) (hT : ∀ s : Shared, s.heap = h → s.TypeIs self T) (hb : entryFor table id = some b)
    (ha : argsOk id ⟨self :: rest, []⟩) (x : Ev (model prog w) A.in1 (b ⟨self :: rest, []⟩) h fun fin h2 => ∃ v, fin = .done (.ret v) ∧ P v h2) : Ev (model prog w) A (call (.builtin id) (self :: rest)) h P := by
  intro E Q s hs hQ
  refine wpAny_call_entry sl (hT s hs) hb (x _ _ s hs fun fin h2 tk z => ?_) ha
  obtain ⟨v, rfl, p⟩ := z
  exact ⟨v, rfl, hQ v h2 tk p⟩
theorem ev_field {M : Model} {a : Addr} {o : Obj} {vs : Array Value} {i : Nat} {v : Value} {h : Heap} {P : Value → Heap → Prop} (ho : h.get? a = some o) (hd : o.data = .fields vs) (hi : vs[i]? = some v) (p : P v h) : Ev M A (field (.ref a) i) h P := by
  intro E Q s hs hQ
  subst hs
  exact wpAny_field ho hd hi (hQ _ _ s.toks p)
/-! ## `super().__missing__` on the book -/
noncomputable abbrev bmO (bk : Addr) : Obj := { cls := .type "builtin_function_or_method", data := .fields #[.builtin "collections.defaultdict.__missing__", .ref bk] }
theorem slot_mget : Slot "method_descriptor" "__get__" "method_descriptor.__get__" := .of (owner := "method_descriptor") (n := "__get__") (by rw [typeLookup_type, builtinLookup_eq_fast]; kernel_rfl) (by decide +kernel) (by decide +kernel) (by decide +kernel)
  (by first | exact .inl (by decide +kernel) | exact .inr (by decide +kernel)) (by rw [isSubtype_type]; kernel_rfl)
theorem entry_mget : entryFor table "method_descriptor.__get__" = some Builtin.«method_descriptor.__get__» := entryFor_of_tree (by kernel_rfl)
theorem type_miss : typeOf (.builtin "collections.defaultdict.__missing__") = pure (.type "method_descriptor") := by show builtinType _ = _; rw [builtinType_eq_fast]; kernel_rfl
theorem ev_bound (B : Base w Bh) {h : Heap} (kb : Kp Bh h) {bk dd : Addr} {es : Array DictEntry} {ep : Nat} (hb : h.get? bk = some (bookO dd es ep)) {P : Value → Heap → Prop} (p : ∀ q h', Only [] h h' → h.get? q = none → h'.get? q = some (bmO bk) → P (.ref q) h') :
    Ev (model pw w) A (call (.builtin "method_descriptor.__get__") [.builtin "collections.defaultdict.__missing__", .ref bk, .ref 108]) h P := by
  have X := B.X.keeps kb
  refine ev_slot slot_mget (fun s _ => type_miss) entry_mget (by unfold argsOk; kernel_rfl) ?_
  unfold Builtin.«method_descriptor.__get__»
  refine Ev.bind (Ev.eq (t' := pure (.builtin "collections.defaultdict.__missing__", some (.ref bk), some (.ref 108))) rfl (Ev.pure ?_))
  show Ev _ _ (if (Manifest.toldItsClass.contains "collections.defaultdict.__missing__") = true then _ else _) _ _
  rw [if_neg (by decide +kernel)]
  refine Ev.bind (Ev.bind (Ev.eq (t' := pure (Str.ofString "__missing__", .type "collections.defaultdict")) (by kernel_rfl) (Ev.pure ?_)))
  refine Ev.bind (Ev.looks (book_inst X hb rfl (r := true) (by kernel_rfl)) ?_)
  rw [if_neg (by decide)]
  refine Ev.pure (Ev.bind ?_)
  intro E Q s hs hQ
  subst hs
  refine wpAny_newObj_type (hQ _ (s.heap.push (bmO bk)) s.toks ?_) (by size_fits)
  exact ev_ret (p _ _ only_push (Heap.get?_none_of_le (Nat.le_refl _)) (Heap.get?_push_size _ rfl))
theorem ev_superMiss (B : Base w Bh) {h : Heap} (kb : Kp Bh h) {bk dd so : Addr} {es : Array DictEntry} {ep : Nat} (hb : h.get? bk = some (bookO dd es ep)) (hso : h.get? so = some (ks_superObj 108 bk 108)) (hne : bk ≠ 108) {P : Value → Heap → Prop}
    (p : ∀ q h', Only [] h h' → h.get? q = none → h'.get? q = some (bmO bk) → P (.ref q) h') : Ev (model pw w) A (getAttr (.ref so) "__missing__" true) h P := by
  have X := B.X.keeps kb
  have hT : ∀ s : Shared, s.heap = h → s.TypeIs (.ref so) "super" := fun s hs => by subst hs; exact ⟨_, hso, rfl⟩
  have tso : Looks (model pw w) h (typeOf (.ref so)) (.type "super") := (Looks.ld (part := none) hso).andThen .now
  unfold getAttr getAttrBy
  refine Ev.bind (Ev.mkText fun tk => Ev.holding (Ev.bind (Ev.looks tso (Ev.bind (Ev.eq F.ks_slot_super_ga.lookup (Ev.pure ?_))))))
  show Ev _ _ (getAttrByItsOwn _ _ _ _ _ _) _ _
  unfold getAttrByItsOwn
  refine Ev.bind (Ev.eq (t' := pure none) rfl (Ev.pure ?_))
  refine Ev.bind (Ev.attempt (Ev.holding ?_))
  show Ev _ _ (boundAndCalled _ _ _) _ _
  unfold boundAndCalled
  rw [F.ks_slot_super_ga.bind]
  refine Ev.bind (Ev.pure (ev_slot (rest := [.str "__missing__" tk]) F.ks_slot_super_ga hT F.ks_entry_super_ga (F.ks_gaArgs_super _ _) ?_))
  unfold Builtin.«super.__getattribute__»
  refine Ev.bind (Ev.eq (t' := pure (some (Str.ofString "__missing__"))) rfl (Ev.pure ?_))
  refine Ev.bind (Ev.eq (t' := pure (some (Str.ofString "__missing__"))) rfl (Ev.pure ?_))
  refine Ev.bind (ev_field (v := .ref 108) hso rfl rfl (Ev.bind (ev_field (v := .ref bk) hso rfl rfl (Ev.bind (ev_field (v := .ref 108) hso rfl rfl ?_)))))
  rw [if_neg (by decide +kernel)]
  refine Ev.bind ?_
  unfold notOfAnOpaqueClass
  refine Ev.bind (Ev.looks (looks_opS (B.st.keeps kb)) (Ev.pure ?_))
  dsimp only
  rw [if_neg (by decide)]
  refine Ev.bind (Ev.looks (Looks.of_peek X (r := [.ref 108, .type "collections.defaultdict", .type "dict", .type "object"]) (by kernel_rfl)) ?_)
  rw [show List.drop 1 (List.dropWhile (fun x => x != Value.ref 108) [.ref 108, .type "collections.defaultdict", .type "dict", .type "object"]) = [.type "collections.defaultdict", .type "dict", .type "object"] from by decide, List.forIn_cons]
  refine Ev.bind (Ev.bind (Ev.bind (Ev.looks (Looks.of_peek X (r := some (.builtin "collections.defaultdict.__missing__")) (by kernel_rfl)) ?_)))
  refine Ev.bind (Ev.eq type_miss (Ev.pure (Ev.bind (Ev.eq slot_mget.lookup (Ev.pure ?_)))))
  rw [if_neg (by simpa using hne)]
  refine Ev.bind (Ev.holding (ev_bound B kb hb fun q h' o n e => Ev.bind (Ev.pure (Ev.pure (Ev.pure (Ev.pure ⟨_, rfl, ?_⟩))))))
  exact Ev.pure (p q h' o n e)
end Mine
open PySem PySem.W PyProof.Rows PySem.Calls
set_option maxRecDepth 100000
set_option maxHeartbeats 1000000
set_option linter.unusedVariables false
namespace Mine
variable {w : World} {A : Around} {Bh : Heap}
/-! ## iter(a list), zip(a range of two, a list iterator) -/
theorem ev_iterCall {prog : Program} {l : Addr} {h : Heap} {P : Value → Heap → Prop} (x : Ev (model prog w) A.in1 (pyIter (.ref l)) h P) : Ev (model prog w) A (call (.builtin "iter") [.ref l]) h P := by
  intro E Q s hs hQ
  subst hs
  refine call_function_entry (by decide +kernel) (by decide +kernel) kdk_entry_iter (kdk_args_iter _) ?_
  unfold Builtin.«iter»
  refine wpAny_bind (m := someArgs "iter" 1 2 _) (wpAny_of_eq (a := [Value.ref l]) (by first | rfl | kernel_rfl!) ?_)
  show wpAny _ _ (pyIter (.ref l) >>= _) _ _ _
  exact wpAny_bind (x _ _ _ rfl fun v h' tk p => wpAny_pure ⟨_, rfl, hQ v h' tk p⟩)
noncomputable abbrev zipO (TI TT : Addr) (f0 : Value) : Obj := { cls := .type "zip", dict := none, data := .fields #[f0, .bool false, .bool false, .ref TI, .ref TT], slots := #[] }
structure ZSt (z TI TT i1 i2 l : Addr) (xs : List Value) (n : Nat) (f0 : Value) (i : Nat) (h : Heap) : Prop where
  z : h.get? z = some (zipO TI TT f0)
  ti : h.get? TI = some (TO [.ref i1, .ref i2])
  tt : ∃ a b, h.get? TT = some (TO [a, b])
  i1 : h.get? i1 = some (rangeItO (i : Int) (2 - (i : Int)) 1)
  i2 : ∃ o, h.get? i2 = some o ∧ LSt l i o
  l : h.get? l = some (LO xs n)
theorem ev_setField {a : Addr} {cls : Value} {vs : Array Value} {k : Nat} {x : Value} {h : Heap} {P : Unit → Heap → Prop} (ho : h.get? a = some { cls := cls, dict := none, data := .fields vs, slots := #[] }) (hk : k < vs.size)
    (p : ∀ h', Only [a] h h' → h'.get? a = some { cls := cls, dict := none, data := .fields (vs.setIfInBounds k x), slots := #[] } → P () h') : Ev (model pw w) A (setField (.ref a) k x) h P := by
  intro E Q s hs hQ
  subst hs
  exact wpAny_setField_rec ho hk fun h' e sb => hQ _ h' s.toks (p h' (only_of_same sb) e)
theorem ev_seqItems {M : Model} {a : Addr} {xs : List Value} {h : Heap} {P : Option (Array Value) → Heap → Prop} (ho : h.get? a = some (TO xs)) (p : P (some xs.toArray) h) : Ev M A (seqItems? (.ref a)) h P := by
  intro E Q s hs hQ
  subst hs
  exact wpAny_seqItems ho rfl (hQ _ _ s.toks p)
theorem ev_setPair {T : Addr} {a b x : Value} {k : Nat} {h : Heap} {P : Unit → Heap → Prop} (ho : h.get? T = some (TO [a, b])) (p : ∀ h', Only [T] h h' → h'.get? T = some (TO ([a, b].set k x)) → P () h') :
    Ev (model pw w) A (updateSeq T (·.setIfInBounds k x)) h P := by
  intro E Q s hs hQ
  subst hs
  refine wpAny_updateSeq ho rfl (hQ _ _ s.toks (p _ only_update ?_))
  rw [Heap.get?_update_self _ ho rfl]
  simp [Obj.mapSeq]
theorem Ev.letGo {M : Model} {removed keep : List Value} {h : Heap} {P : Unit → Heap → Prop} (p : P () h) : Ev M A (letGo removed keep) h P := by
  intro E Q s hs hQ
  subst hs
  exact wpAny_letGo (hQ _ _ s.toks p)
theorem ev_nextOf_range {I : Addr} {x left : Int} {h : Heap} {P : Value → Heap → Prop} (ho : h.get? I = some (rangeItO x left 1)) (hl : 0 < left) (p : ∀ h' t, Only [I] h h' → h'.get? I = some (rangeItO (x + 1) (left - 1) 1) → P (.int x t) h') :
    Ev (model pw w) A (Builtin.SmallTypes.nextOf (.ref I)) h P := by
  intro E Q s hs hQ
  subst hs
  have hT : s.TypeIs (.ref I) "range_iterator" := ⟨_, ho, rfl⟩
  unfold Builtin.SmallTypes.nextOf
  refine wpAny_bind (wpAny_callSpecial?_slot (name := Str.ofString "__next__") hT PySem.F.slot_range_iterator_next
    (call_meets PySem.F.slot_range_iterator_next hT PySem.F.entry_range_iterator_next (PySem.F.args_range_iterator_next_1 _) (AutoRange.range_iterator___next___range_iterator_1 I x left 1 (by omega)) ⟨ho, ?_⟩))
  exact wpAny_pure (hQ _ _ (s.toks + 1) (p _ _ (only_update.trans only_update) (Heap.get?_update_self _ (Heap.get?_update_self _ ho rfl) rfl)))
theorem nextOf_range_end (hh : A.handled = none) {I : Addr} {x left : Int} {E Q : Value → Shared → Prop} {s : Shared} (ho : s.heap.get? I = some (rangeItO x left 1)) (hl : left ≤ 0)
    (hE : ∀ h' e oe, Only [I] s.heap h' → h'.get? e = some oe → oe.cls = .type "StopIteration" → E (.ref e) { s with heap := h' }) : wpAny (model pw w) A (Builtin.SmallTypes.nextOf (.ref I)) Q E s := by
  have hT : s.TypeIs (.ref I) "range_iterator" := ⟨_, ho, rfl⟩
  unfold Builtin.SmallTypes.nextOf
  refine wpAny_bind (wpAny_callSpecial?_slot (name := Str.ofString "__next__") hT PySem.F.slot_range_iterator_next (wpAny_call_entry PySem.F.slot_range_iterator_next hT PySem.F.entry_range_iterator_next ?_ (PySem.F.args_range_iterator_next_1 _)))
  show wpAny _ _ (field (.ref I) 0 >>= _) _ _ s
  refine wpAny_bind (wpAny_field ho rfl (x := rawInt x) rfl ?_)
  show wpAny _ _ (field (.ref I) 1 >>= _) _ _ s
  refine wpAny_bind (wpAny_field ho rfl (x := rawInt left) rfl ?_)
  show wpAny _ _ (field (.ref I) 2 >>= _) _ _ s
  refine wpAny_bind (wpAny_field ho rfl (x := rawInt 1) rfl ?_)
  show wpAny _ _ (if left ≤ 0 then _ else _) _ _ s
  rw [if_pos hl]
  refine wpAny_bind (wpAny_rule ?_)
  refine wpAny_bind ?_
  show wpAny _ _ (newExc (.type "StopIteration") [] >>= _) _ _ _
  refine wpAny_bind ?_
  simp only [newExc, newTuple]
  refine wpAny_bind (wpAny_newObj_type ?_ (by size_fits))
  refine wpAny_bind (m := firstArgMember _ _) (wpAny_of_eq (a := Value.none) (by first | rfl | (simp only [firstArgMember]; rfl)) ?_)
  refine wpAny_newObj_type ?_ (by size_fits)
  simp only [raiseNew]
  refine wpAny_bind (wpAny_handled ?_)
  rw [show A.in1.handled = none from hh]
  refine wpAny_bind (wpAny_pure (wpAny_throw ?_))
  refine hE _ _ _ (fun b o hb e => Heap.get?_push_of_some _ (Heap.get?_push_of_some _ e)) (Heap.get?_push_size _ rfl) rfl
theorem ev_zip_item {z TI TT i1 i2 l : Addr} {xs : List Value} {n i : Nat} {x : Value} {h : Heap} {P : Option Value → Heap → Prop} (ap : [z, TI, TT, i1, i2, l].Nodup) (S : ZSt z TI TT i1 i2 l xs n .none i h) (hi : i < 2) (hx : xs[i]? = some x)
    (p : ∀ T h' t, Only [z, TT, i1, i2] h h' → h.get? T = none → h'.get? T = some (TO [.int i t, x]) → ZSt z TI TT i1 i2 l xs n (rawInt T) (i + 1) h' → P (some (.ref T)) h') : Ev (model pw w) A (pyNext (.ref z)) h P := by
  obtain ⟨hz, hti, ⟨a, b, htt⟩, hi1, ⟨o2, hi2, st⟩, hl⟩ := S
  simp only [List.nodup_cons, List.mem_cons, List.not_mem_nil, or_false, not_or, not_false_eq_true, List.nodup_nil, and_true] at ap
  obtain ⟨⟨n1, n2, n3, n4, n5⟩, ⟨n6, n7, n8, n9⟩, ⟨n10, n11, n12⟩, ⟨n13, n14⟩, n15⟩ := ap
  have body : Ev (model pw w) A.in1 (Builtin.«zip.__next__» ⟨[.ref z], []⟩) h fun fin h' => ∃ v, fin = .done (.ret v) ∧ P (some v) h' := by
    show Ev _ _ (field (.ref z) 2 >>= _) _ _
    refine Ev.bind (ev_field hz rfl (v := .bool false) rfl ?_)
    show Ev _ _ (field (.ref z) 3 >>= _) _ _
    refine Ev.bind (ev_field hz rfl (v := .ref TI) rfl ?_)
    refine Ev.bind (ev_seqItems hti ?_)
    show Ev _ _ (Builtin.SmallTypes.ownedTupleIsFree (.ref z) >>= _) _ _
    refine Ev.bind ?_
    unfold Builtin.SmallTypes.ownedTupleIsFree
    refine Ev.bind (ev_field hz rfl (v := .none) rfl (Ev.pure ?_))
    simp only [if_true]
    refine Ev.bind (Ev.rule ?_)
    refine Ev.bind (ev_field hz rfl (v := .ref TT) rfl ?_)
    refine Ev.bind (ev_setField hz (by simp) fun h1 o1 z1 => ?_)
    refine Ev.bind ?_
    simp only [List.zipIdx_cons, List.zipIdx_nil, List.forIn_cons, List.forIn_nil]
    refine Ev.bind (Ev.bind (Ev.onRaise ?_))
    show Ev _ _ (Builtin.SmallTypes.nextOf (.ref i1) >>= _) _ _
    refine Ev.bind (ev_nextOf_range (o1 _ _ (by simp; exact Ne.symm n3) hi1) (by omega) fun h2 t2 o2' e2 => Ev.pure ?_)
    refine Ev.bind (ev_seqItems (o2' _ _ (by simp; exact n10) (o1 _ _ (by simp; exact Ne.symm n2) htt)) ?_)
    refine Ev.bind (ev_setPair (o2' _ _ (by simp; exact n10) (o1 _ _ (by simp; exact Ne.symm n2) htt)) fun h3 o3 e3 => ?_)
    refine Ev.bind (Ev.letGo (Ev.pure ?_))
    refine Ev.bind (Ev.bind (Ev.onRaise ?_))
    show Ev _ _ (Builtin.SmallTypes.nextOf (.ref i2) >>= _) _ _
    have hi2' : h3.get? i2 = some o2 := o3 _ _ (by simp; exact Ne.symm n11) (o2' _ _ (by simp; exact Ne.symm n13) (o1 _ _ (by simp; exact Ne.symm n4) hi2))
    have hl3 : h3.get? l = some (LO xs n) := o3 _ _ (by simp; exact Ne.symm n12) (o2' _ _ (by simp; exact Ne.symm n14) (o1 _ _ (by simp; exact Ne.symm n5) hl))
    refine Ev.bind (ev_nextOf_item hi2' st hl3 hx fun h4 o4' o4 e4 st4 => Ev.pure ?_)
    have tt4 : h4.get? TT = some (TO [.int i t2, b]) := o4 _ _ (by simp; exact n11) e3
    refine Ev.bind (ev_seqItems tt4 ?_)
    refine Ev.bind (ev_setPair tt4 fun h5 o5 e5 => ?_)
    refine Ev.bind (Ev.letGo (Ev.pure (Ev.pure ?_)))
    refine Ev.bind (ev_seqItems e5 ?_)
    have z5 : h5.get? z = some (zipO TI TT .ellipsis) := o5 _ _ (by simp; exact n2) (o4 _ _ (by simp; exact n4) (o3 _ _ (by simp; exact n2) (o2' _ _ (by simp; exact n3) z1)))
    refine Ev.bind (ev_newTuple (by simp) (by simp) fun T h6 o6 t6 e6 => ?_)
    refine Ev.bind ?_
    unfold Builtin.SmallTypes.ownedTupleHandOut
    have zT : T ≠ z := fun q => by rw [q, z5] at t6; cases t6
    refine Ev.bind (ev_setField (o6 _ _ (by simp) z5) (by simp) fun h7 o7 z7 => ?_)
    refine ev_setField z7 (by simp) fun h8 o8 z8 => Ev.pure ⟨_, rfl, ?_⟩
    have ks : ∀ {y : Addr} {oy : Obj}, y ≠ z → h5.get? y = some oy → h8.get? y = some oy := fun n e => o8 _ _ (nin1 n) (o7 _ _ (nin1 n) (o6 _ _ nin0 e))
    have oall : Only [z, TT, i1, i2] h h5 := fun y oy ny e => by
      simp only [List.mem_cons, List.not_mem_nil, or_false, not_or] at ny
      exact o5 _ _ (nin1 ny.2.1) (o4 _ _ (nin1 ny.2.2.2) (o3 _ _ (nin1 ny.2.1) (o2' _ _ (nin1 ny.2.2.1) (o1 _ _ (nin1 ny.1) e))))
    refine p T h8 t2 (fun y oy ny e => ks (by simp at ny; exact ny.1) (oall y oy ny e)) ?_ (o8 _ _ (nin1 zT) (o7 _ _ (nin1 zT) e6)) ⟨z8, ks (Ne.symm n1) (oall _ _ (by simp; exact ⟨Ne.symm n1, n6, n7, n8⟩) hti), ⟨_, _, ks (Ne.symm n2) e5⟩, ?_, ⟨_, ks (Ne.symm n4) (o5 _ _ (by simp; exact Ne.symm n11) e4), st4⟩, ks (Ne.symm n5) (oall _ _ (by simp; exact ⟨Ne.symm n5, Ne.symm n12, Ne.symm n14, Ne.symm n15⟩) hl)⟩
    · cases hc : h.get? T with
      | none => rfl
      | some o =>
        by_cases q : T ∈ [z, TT, i1, i2]
        · simp only [List.mem_cons, List.not_mem_nil, or_false] at q
          rcases q with q | q | q | q
          · exact absurd q zT
          · rw [q, e5] at t6; cases t6
          · rw [q, o5 _ _ (by simp; exact Ne.symm n10) (o4 _ _ (by simp; exact n13) (o3 _ _ (by simp; exact Ne.symm n10) e2))] at t6; cases t6
          · rw [q, o5 _ _ (by simp; exact Ne.symm n11) e4] at t6; cases t6
        · rw [oall _ _ q hc] at t6; cases t6
    · have := ks (Ne.symm n3) (o5 _ _ (by simp; exact Ne.symm n10) (o4 _ _ (by simp; exact n13) (o3 _ _ (by simp; exact Ne.symm n10) e2)))
      rw [this]
      congr 1
      show rangeItO _ _ _ = rangeItO _ _ _
      congr 1 <;> omega
  intro E Q s hs hQ
  subst hs
  have hT : s.TypeIs (.ref z) "zip" := ⟨_, hz, rfl⟩
  unfold pyNext
  refine wpAny_bind (wpAny_attempt (wpAny_callSpecial?_slot (name := Str.ofString "__next__") hT PySem.F.slot_zip_next
    (wpAny_call_entry PySem.F.slot_zip_next hT PySem.F.entry_zip_next (body _ _ _ rfl fun fin h' tk q => ?_) (PySem.F.args_zip_next_1 _))))
  obtain ⟨v, rfl, q⟩ := q
  exact ⟨v, rfl, wpAny_pure (hQ _ h' tk q)⟩
theorem ev_zip_end (hh : A.handled = none) {z TI TT i1 i2 l : Addr} {xs : List Value} {n : Nat} {h : Heap} {P : Option Value → Heap → Prop} (ap : [z, TI, TT, i1, i2, l].Nodup) (S : ZSt z TI TT i1 i2 l xs n .none 2 h)
    (p : ∀ h', Only [z, i1] h h' → P none h') : Ev (model pw w) A (pyNext (.ref z)) h P := by
  obtain ⟨hz, hti, ⟨a, b, htt⟩, hi1, ⟨o2, hi2, st⟩, hl⟩ := S
  simp only [List.nodup_cons, List.mem_cons, List.not_mem_nil, or_false, not_or, not_false_eq_true, List.nodup_nil, and_true] at ap
  obtain ⟨⟨n1, n2, n3, n4, n5⟩, _⟩ := ap
  intro E Q s hs hQ
  subst hs
  have hT : s.TypeIs (.ref z) "zip" := ⟨_, hz, rfl⟩
  unfold pyNext
  refine wpAny_bind (wpAny_attempt (wpAny_callSpecial?_slot (name := Str.ofString "__next__") hT PySem.F.slot_zip_next
    (wpAny_call_entry PySem.F.slot_zip_next hT PySem.F.entry_zip_next ?_ (PySem.F.args_zip_next_1 _))))
  show wpAny _ _ (field (.ref z) 2 >>= _) _ _ _
  refine wpAny_bind (wpAny_field hz rfl (x := .bool false) rfl ?_)
  show wpAny _ _ (field (.ref z) 3 >>= _) _ _ _
  refine wpAny_bind (wpAny_field hz rfl (x := .ref TI) rfl ?_)
  refine wpAny_bind (wpAny_seqItems hti rfl ?_)
  show wpAny _ _ (Builtin.SmallTypes.ownedTupleIsFree (.ref z) >>= _) _ _ _
  refine wpAny_bind ?_
  unfold Builtin.SmallTypes.ownedTupleIsFree
  refine wpAny_bind (wpAny_field hz rfl (x := .none) rfl (wpAny_pure ?_))
  simp only [if_true]
  refine wpAny_bind (wpAny_rule ?_)
  refine wpAny_bind (wpAny_field hz rfl (x := .ref TT) rfl ?_)
  refine wpAny_bind (wpAny_setField_rec hz (by simp) fun h1 z1 s1 => ?_)
  have o1 := only_of_same s1
  refine wpAny_bind ?_
  simp only [List.zipIdx_cons, List.zipIdx_nil, List.forIn_cons, List.forIn_nil]
  refine wpAny_bind (wpAny_bind (wpAny_onRaise ?_))
  show wpAny _ _ (Builtin.SmallTypes.nextOf (.ref i1) >>= _) _ _ _
  refine wpAny_bind (nextOf_range_end (A := A.in1) hh (I := i1) (x := ((2 : Nat) : Int)) (left := (2 : Int) - ((2 : Nat) : Int)) (o1 _ _ (by simp; exact Ne.symm n3) hi1) (by decide) fun h2 e oe o2' he hc => ?_)
  have z2 : h2.get? z = some (zipO TI TT .ellipsis) := o2' _ _ (by simp; exact n3) z1
  have ez : e ≠ z := fun q => by rw [q, z2] at he; cases he; simp at hc
  refine wpAny_setField_rec z2 (by simp) fun h3 _ s3 => ?_
  have o3 := only_of_same s3
  refine wpAny_bind (wpAny_isInstance (T := "StopIteration") (b := true) ⟨oe, o3 _ _ (nin1 ez) he, hc⟩ isSubtype_stop ?_)
  refine wpAny_pure (hQ _ h3 s.toks (p h3 fun y oy ny q => ?_))
  simp only [List.mem_cons, List.not_mem_nil, or_false, not_or] at ny
  exact o3 _ _ (nin1 ny.1) (o2' _ _ (nin1 ny.2) (o1 _ _ (nin1 ny.1) q))
theorem ev_zip_go {elts : List Expr} {k : Nat} {pos : Pos} {z TI TT i1 i2 l T : Addr} {xs : List Value} {n i : Nat} {h : Heap} {P : Unit → Heap → Prop} (ap : [z, TI, TT, i1, i2, l].Nodup) (S : ZSt z TI TT i1 i2 l xs n (rawInt T) i h)
    (p : ∀ h', Only [z] h h' → ZSt z TI TT i1 i2 l xs n .none i h' → P () h') : Ev (model pw w) A (letOwnedTupleGo (.Tuple elts k pos) (.ref z) (.ref T)) h P := by
  obtain ⟨hz, hti, ⟨a, b, htt⟩, hi1, ⟨o2, hi2, st⟩, hl⟩ := S
  simp only [List.nodup_cons, List.mem_cons, List.not_mem_nil, or_false, not_or, not_false_eq_true, List.nodup_nil, and_true] at ap
  obtain ⟨⟨n1, n2, n3, n4, n5⟩, _⟩ := ap
  intro E Q s hs hQ
  subst hs
  refine wpAny_letOwnedTupleGo_zip hz fun h' z' s' => hQ _ h' s.toks (p h' (only_of_same s') ?_)
  have o := only_of_same s'
  exact ⟨z', o _ _ (by simp; exact Ne.symm n1) hti, ⟨_, _, o _ _ (by simp; exact Ne.symm n2) htt⟩, o _ _ (by simp; exact Ne.symm n3) hi1, ⟨_, o _ _ (by simp; exact Ne.symm n4) hi2, st⟩, o _ _ (by simp; exact Ne.symm n5) hl⟩
end Mine
open PySem PySem.W PyProof.Rows PySem.Calls
set_option maxRecDepth 100000
set_option maxHeartbeats 1000000
set_option linter.unusedVariables false
namespace Mine
variable {w : World} {A : Around} {Bh : Heap}
noncomputable abbrev zR (h : Heap) (I2 : Addr) : Heap := (((h.push (rangeItO 0 2 1)).push (TO [.ref h.objs.size, .ref I2])).push (TO [.none, .none])).push (zipO (h.objs.size + 1) (h.objs.size + 2) .none)
theorem meets_zipR (r I2 l : Addr) (i : Nat) (t u v : Tok) :
    Meets (Builtin.«zip.__new__» ⟨[.type "zip", .ref r, .ref I2], []⟩) (fun _ R s => s.heap.get? r = some (rangeO 0 2 1 t u v) ∧ s.heap.IsListIter I2 l i ∧
      R (.ok (.ret (.ref (s.heap.objs.size + 3)))) { s with heap := zR s.heap I2 }) :=
  .of_wp fun prog w A R s h => by
    obtain ⟨hp, g, d, tk, os⟩ := s; obtain ⟨hr, hl, h⟩ := h
    have hsub := sub_zip
    have hr' : IsRange (Shared.heap ⟨hp, g, d, tk, os⟩) r 0 2 1 t u v := hr
    have hs2 : Builtin.Range.small 0 2 1 = true := by decide
    have hL2 : Heap.IsListIter (Shared.heap ⟨hp.push { cls := .type "range_iterator", data := .fields #[rawInt 0, rawInt (Builtin.Range.rangeSize 0 2 1), rawInt 1] }, g, d, tk, os⟩) I2 l i := by
      obtain ⟨o, ho, z⟩ := hl
      exact ⟨o, Heap.get?_push_of_some _ ho, z⟩
    wp_walk using wpAny_pyIter_range hr' hs2, wpAny_pyIter_listiter hL2
    have e1 : (hp.push (rangeItO 0 2 1)).objs.size = hp.objs.size + 1 := by rw [Heap.size_push]
    have e2 : ((hp.push (rangeItO 0 2 1)).push (TO [.ref hp.objs.size, .ref I2])).objs.size = hp.objs.size + 2 := by rw [Heap.size_push, e1]
    have e3 : (((hp.push (rangeItO 0 2 1)).push (TO [.ref hp.objs.size, .ref I2])).push (TO [.none, .none])).objs.size = hp.objs.size + 3 := by rw [Heap.size_push, e2]
    refine ⟨.ref (hp.objs.size + 3), congrArg (fun z => PySem.Fin.done (.ret (.ref z))) e3, ?_⟩
    refine Eq.mp ?_ h
    show R _ { heap := (((hp.push (rangeItO 0 2 1)).push (TO [.ref hp.objs.size, .ref I2])).push (TO [.none, .none])).push (zipO (hp.objs.size + 1) (hp.objs.size + 2) .none), gens := g, drawn := d, toks := tk, os := os } =
      R _ { heap := (((hp.push (rangeItO 0 2 1)).push (TO [.ref hp.objs.size, .ref I2])).push (TO [.none, .none])).push (zipO (hp.push (rangeItO 0 2 1)).objs.size ((hp.push (rangeItO 0 2 1)).push (TO [.ref hp.objs.size, .ref I2])).objs.size .none), gens := g, drawn := d, toks := tk, os := os }
    rw [e1, e2]
theorem nodup6 {N I l : Nat} (h1 : I < N) (h2 : l < N) (h3 : I ≠ l) : [N + 3, N + 1, N + 2, N, I, l].Nodup := by
  have n : ∀ {a b : Nat}, b < a → N + a ≠ N + b := fun h => Nat.ne_of_gt (Nat.add_lt_add_left h N)
  have i : ∀ {a b : Nat}, b < N → N + a ≠ b := fun h => Nat.ne_of_gt (Nat.lt_of_lt_of_le h (Nat.le_add_right ..))
  exact .cons (allc (n (by decide)) (allc (n (by decide)) (allc (n (b := 0) (by decide)) (allc (i h1) (allc (i h2) alln))))) (.cons (allc (n (by decide)).symm (allc (n (b := 0) (by decide)) (allc (i h1) (allc (i h2) alln))))
    (.cons (allc (n (b := 0) (by decide)) (allc (i h1) (allc (i h2) alln))) (.cons (allc (Nat.ne_of_gt h1) (allc (Nat.ne_of_gt h2) alln)) (.cons (allc h3 alln) (.cons alln .nil)))))
theorem ev_zipNew {r I2 l : Addr} {xs : List Value} {n : Nat} {t u v : Tok} {o : Obj} {h : Heap} {P : Value → Heap → Prop} (hr : h.get? r = some (rangeO 0 2 1 t u v)) (hI : h.get? I2 = some o) (st : LSt l 0 o) (hl : h.get? l = some (LO xs n)) (hIl : I2 ≠ l)
    (p : ∀ z TI TT i1 h', Only [] h h' → h.get? z = none → h.get? TT = none → h.get? i1 = none → [z, TI, TT, i1, I2, l].Nodup → ZSt z TI TT i1 I2 l xs n .none 0 h' → P (.ref z) h') : Ev (model pw w) A (call (.type "zip") [.ref r, .ref I2]) h P := by
  intro E Q s hs hQ
  subst hs
  have s1 : (s.heap.push (rangeItO 0 2 1)).objs.size = s.heap.objs.size + 1 := Heap.size_push ..
  have s2 : ((s.heap.push (rangeItO 0 2 1)).push (TO [.ref s.heap.objs.size, .ref I2])).objs.size = s.heap.objs.size + 2 := by rw [Heap.size_push, s1]
  have s3 : (((s.heap.push (rangeItO 0 2 1)).push (TO [.ref s.heap.objs.size, .ref I2])).push (TO [.none, .none])).objs.size = s.heap.objs.size + 3 := by rw [Heap.size_push, s2]
  have g3 : (zR s.heap I2).get? (s.heap.objs.size + 3) = some (zipO (s.heap.objs.size + 1) (s.heap.objs.size + 2) .none) := by rw [← s3]; exact Heap.get?_push_size _ rfl
  have g2 : (zR s.heap I2).get? (s.heap.objs.size + 2) = some (TO [.none, .none]) := by rw [← s2]; exact Heap.get?_push_of_some _ (Heap.get?_push_size _ rfl)
  have g1 : (zR s.heap I2).get? (s.heap.objs.size + 1) = some (TO [.ref s.heap.objs.size, .ref I2]) := by rw [← s1]; exact Heap.get?_push_of_some _ (Heap.get?_push_of_some _ (Heap.get?_push_size _ rfl))
  have g0 : (zR s.heap I2).get? s.heap.objs.size = some (rangeItO 0 2 1) := Heap.get?_push_of_some _ (Heap.get?_push_of_some _ (Heap.get?_push_of_some _ (Heap.get?_push_size _ rfl)))
  have ol : Only [] s.heap (zR s.heap I2) := only_push.trans (only_push.trans (only_push.trans only_push))
  have il := Heap.lt_size hI
  have ll := Heap.lt_size hl
  refine callType_new PySem.F.called_zip (by decide) (PySem.F.typeCall_zip_2 _ _) (PySem.F.newCall_zip_2 _ _) (fun obj => PySem.F.args_object_init_3 obj _ _) PySem.F.entry_zip_new (meets_zipR r I2 l 0 t u v) ⟨hr, ⟨o, hI, st⟩, ⟨_, g3, rfl⟩, ?_⟩
  refine hQ _ _ s.toks (p (s.heap.objs.size + 3) (s.heap.objs.size + 1) (s.heap.objs.size + 2) s.heap.objs.size _ ol (Heap.get?_none_of_le (by omega)) (Heap.get?_none_of_le (by omega)) (Heap.get?_none_of_le (by omega)) ?_ ⟨g3, g1, ⟨_, _, g2⟩, g0, ⟨o, ol _ _ nin0 hI, st⟩, ol _ _ nin0 hl⟩)
  exact nodup6 il ll hIl
end Mine
open PySem PySem.W PyProof.Rows PySem.Calls
set_option maxRecDepth 100000
set_option maxHeartbeats 1000000
set_option linter.unusedVariables false
namespace Mine
variable {w : World} {A : Around} {Bh : Heap}
theorem fm_here {h : Heap} {C : Addr} {m : Str → Option Value} (ns : h.Ns C m) : Fm (hideAll h [C]) C h m := ⟨ns, hide_kp, hideAll_none _ (.head _)⟩
noncomputable def ZItem (W : List Addr) (h : Heap) (xs : List Value) (h' : Heap) (j : Nat) (v : Value) : Prop := ∃ T t x, v = .ref T ∧ xs[j]? = some x ∧ T ∉ W ∧ h.get? T = none ∧ h'.get? T = some (TO [x, .int j t])
inductive ZLoop (h : Heap) (z TI TT i1 i2 l C D : Addr) (xs : List Value) (n : Nat) (d : Nat) (h' : Heap) : Prop
  | mk {i : Nat} {ys : List Value} {k : Nat} {m : Str → Option Value} (hi : i ≤ 2) (hd : d = 2 - i) (o : Only [z, TT, i1, i2, C, D] h h') (S : ZSt z TI TT i1 i2 l xs n .none i h') (ns : h'.Ns C m) (hD : h'.get? D = some (LO ys k)) (len : ys.length = i)
    (al : ∀ j v, ys[j]? = some v → ZItem [z, TT, i1, i2, C, D] h xs h' j v) : ZLoop h z TI TT i1 i2 l C D xs n d h'
theorem ZSt.keep {z TI TT i1 I l : Addr} {xs : List Value} {n : Nat} {v : Value} {k : Nat} {h h' : Heap} (S : ZSt z TI TT i1 I l xs n v k h) (o : ∀ y ∈ [z, TI, TT, i1, I, l], ∀ ob, h.get? y = some ob → h'.get? y = some ob) : ZSt z TI TT i1 I l xs n v k h' := by
  obtain ⟨a1, a2, ⟨_, _, a3⟩, a4, ⟨_, a5, a6⟩, a7⟩ := S
  exact ⟨o _ (.head _) _ a1, o _ (.tail _ (.head _)) _ a2, ⟨_, _, o _ (.tail _ (.tail _ (.head _))) _ a3⟩, o _ (.tail _ (.tail _ (.tail _ (.head _)))) _ a4, ⟨_, o _ (.tail _ (.tail _ (.tail _ (.tail _ (.head _))))) _ a5, a6⟩, o _ (.tail _ (.tail _ (.tail _ (.tail _ (.tail _ (.head _)))))) _ a7⟩
theorem ZSt.ne {z TI TT i1 I l X : Addr} {xs : List Value} {n : Nat} {v : Value} {k : Nat} {h : Heap} (S : ZSt z TI TT i1 I l xs n v k h) (hX : h.get? X = none) : ∀ y ∈ [z, TI, TT, i1, I, l], y ≠ X := by
  obtain ⟨a1, a2, ⟨_, _, a3⟩, a4, ⟨_, a5, a6⟩, a7⟩ := S
  have ne : ∀ {a : Addr} {o : Obj}, h.get? a = some o → a ≠ X := fun e q => by rw [q, hX] at e; cases e
  exact allc (ne a1) (allc (ne a2) (allc (ne a3) (allc (ne a4) (allc (ne a5) (allc (ne a7) alln)))))
theorem len_two {α : Type} : ∀ {l : List α}, l.length = 2 → ∃ a b, l = [a, b]
  | [a, b], _ => ⟨a, b, rfl⟩
/-- `[(elem, i) for i, elem in zip(range(2), it)]` -/
theorem fev_zip2 {p1 p2 p3 p4 p5 p6 pos : Pos} {k1 k2 : Nat} {iter : Expr} {scope : Scope} {cenv : Env} {D z TI TT i1 i2 l : Addr} {xs : List Value} {n : Nat} {h : Heap} {m : Str → Option Value} (hh : A.handled = none) (ap : [z, TI, TT, i1, i2, l].Nodup)
    (S : ZSt z TI TT i1 i2 l xs n .none 0 h) (h2 : 2 ≤ xs.length) (ns : h.Ns cenv.locals m) (hD : h.get? D = some (LO [] 0)) (nC : ∀ y ∈ [z, TI, TT, i1, i2, l], y ≠ cenv.locals) (nD : ∀ y ∈ [z, TI, TT, i1, i2, l], y ≠ D) (nCD : cenv.locals ≠ D)
    (hk : cenv.scope.kind = .function) (l1 : cenv.kindOf "i" = some .local) (l2 : cenv.kindOf "elem" = some .local) {P : Heap → Prop}
    (fin : ∀ h' T0 T1 t0 t1 k m' x0 x1 o, Only [z, TT, i1, i2, cenv.locals, D] h h' → h'.get? D = some (LO [.ref T0, .ref T1] k) → xs[0]? = some x0 → xs[1]? = some x1 → h'.get? T0 = some (TO [x0, .int 0 t0]) → h'.get? T1 = some (TO [x1, .int 1 t1]) →
      h.get? T0 = none → h.get? T1 = none → h'.get? i2 = some o → LSt l 2 o → h'.Ns cenv.locals m' → P h') :
    FEv w A (.compLoop (.ListComp (.Tuple [.Name "elem" p1, .Name "i" p2] k1 p3) [⟨.Tuple [.Name "i" p4, .Name "elem" p5] k2 p6, iter, [], 0⟩] scope pos) 0 (.ref z) (.ref D) cenv) h P := by
  obtain ⟨Z, hZ⟩ : ∃ Z : Nat → Heap → Prop, ∀ d h', Z d h' ↔ ZLoop h z TI TT i1 i2 l cenv.locals D xs n d h' := ⟨_, fun _ _ => Iff.rfl⟩
  have cz := nC z (.head _)
  have cT := nC TT (.tail _ (.tail _ (.head _)))
  have c1 := nC i1 (.tail _ (.tail _ (.tail _ (.head _))))
  have c2 := nC i2 (.tail _ (.tail _ (.tail _ (.tail _ (.head _)))))
  have dz := nD z (.head _)
  have dT := nD TT (.tail _ (.tail _ (.head _)))
  have d1 := nD i1 (.tail _ (.tail _ (.tail _ (.head _))))
  have d2 := nD i2 (.tail _ (.tail _ (.tail _ (.tail _ (.head _)))))
  refine fev_loop (emit := do let _ ← call (.builtin "list.append") [.ref D, ← eval (.Tuple [.Name "elem" p1, .Name "i" p2] k1 p3) cenv]) rfl Z ?_ 2 ((hZ _ _).2 ⟨Nat.zero_le _, rfl, Only.refl, S, ns, hD, rfl, fun j v q => nomatch q⟩)
  intro d h' hz
  obtain @⟨i, ys, k, m', jhi, jhd, jo, jS, jns, jhD, jlen, jal⟩ := (hZ _ _).1 hz
  by_cases hlt : i < 2
  · obtain ⟨x, hx⟩ : ∃ x, xs[i]? = some x := ⟨_, List.getElem?_eq_getElem (by omega)⟩
    refine ev_zip_item ap jS hlt hx fun T h2 t o2 fT gT S2 => ?_
    refine ev_zip_go ap S2 fun h3 o3 S3 => ?_
    have Tz : T ≠ z := fun q => by rw [q, jS.z] at fT; cases fT
    have o13 : Only [z, TT, i1, i2, cenv.locals, D] h' h3 := (o2.sub (subc (.head _) (subc (.tail _ (.head _)) (subc (.tail _ (.tail _ (.head _))) (subc (.tail _ (.tail _ (.tail _ (.head _)))) sub0))))).trans (o3.sub (subc (.head _) sub0))
    have C3 : h3.Ns cenv.locals m' := ns_only (Y := [z, TT, i1, i2]) (o2.trans (o3.sub (subc (.head _) sub0))) (ninc cz.symm (ninc cT.symm (ninc c1.symm (nin1 c2.symm)))) jns
    have F3 := fm_here C3
    refine ev_asg_two hh (o3 _ _ (nin1 Tz) gT) fun h4 o4 => ?_
    have F4 := Fm.o F3 o4
    refine ev_asg_name (ev_st F4 Nw.nil (fun h5 F5 _ => ev_asg_name (ev_st F5 Nw.nil (fun h6 F6 _ => ?_) hk l2)) hk l1)
    refine ev_tests0 ?_
    refine ift ?_
    have o36 : Only [cenv.locals] h3 h6 := F6.only
    have o16 : Only [z, TT, i1, i2, cenv.locals, D] h' h6 := o13.trans (o36.sub (subc (.tail _ (.tail _ (.tail _ (.tail _ (.head _))))) sub0))
    have D3 : h3.get? D = some (LO ys k) := o3 _ _ (nin1 dz.symm) (o2 _ _ (ninc dz.symm (ninc dT.symm (ninc d1.symm (nin1 d2.symm)))) jhD)
    have S6 : ZSt z TI TT i1 i2 l xs n .none (i + 1) h6 := S3.keep fun y hy _ e => o36 _ _ (nin1 (nC _ hy)) e
    have D6 : h6.get? D = some (LO ys k) := o36 _ _ (nin1 nCD.symm) D3
    refine ev_emit (ys := ys) (n := k) (jlen ▸ Nat.lt_trans hlt (by decide)) (ev_tuple (ev_ld F6 (v := x) rfl (ev_ld F6 (v := .int i t) rfl (ev_newTuple (by simp) (by simp) fun T2 h7 o7 fT2 g7 => ⟨o7 _ _ nin0 D6, fun h8 o8 g8 => ?_⟩) hk l1) hk l2))
    have dn := S6.ne fT2
    have TW : T2 ∉ [z, TT, i1, i2, cenv.locals, D] := ninc (dn z (.head _)).symm (ninc (dn TT (.tail _ (.tail _ (.head _)))).symm (ninc (dn i1 (.tail _ (.tail _ (.tail _ (.head _))))).symm (ninc (dn i2 (.tail _ (.tail _ (.tail _ (.tail _ (.head _)))))).symm (ninc (fun q => by
      obtain ⟨o, _, _, ho, _⟩ := F6.ns
      rw [← q, fT2] at ho; cases ho) (nin1 fun q => by rw [← q, fT2] at D6; cases D6)))))
    have o18 : Only [z, TT, i1, i2, cenv.locals, D] h' h8 := (o16.trans (o7.sub sub0)).trans (o8.sub (subc (.tail _ (.tail _ (.tail _ (.tail _ (.tail _ (.head _)))))) sub0))
    have k8 : ∀ {y : Addr} {oy : Obj}, y ≠ D → h6.get? y = some oy → h8.get? y = some oy := fun n e => o8 _ _ (nin1 n) (o7 _ _ nin0 e)
    refine ⟨2 - (i + 1), jhd ▸ Nat.sub_lt_sub_left hlt (Nat.lt_succ_self i), (hZ _ _).2 ⟨hlt, rfl, jo.trans o18, S6.keep fun y hy _ e => k8 (nD _ hy) e, ns_only (Y := [D]) ((o7.sub sub0).trans o8) (nin1 nCD) F6.ns, g8, by rw [List.length_append, jlen]; rfl, fun j v q => ?_⟩⟩
    rcases Nat.lt_or_ge j i with hj | hj
    · rw [List.getElem?_append_left (by rw [jlen]; exact hj)] at q
      obtain ⟨T', t', x', rfl, b1, b2, b3, b4⟩ := jal j v q
      exact ⟨T', t', x', rfl, b1, b2, b3, o18 _ _ b2 b4⟩
    · rw [List.getElem?_append_right (by rw [jlen]; exact hj), jlen] at q
      obtain rfl : j = i := by
        rcases Nat.lt_or_ge (j - i) 1 with z | z
        · omega
        · rw [List.getElem?_eq_none (by simpa using z)] at q; cases q
      simp only [Nat.sub_self, List.getElem?_cons_zero, Option.some.injEq] at q
      refine ⟨T2, t, x, q.symm, hx, TW, none_of_only ?_ TW (jo.trans o16), o8 _ _ (nin1 fun q => TW (q ▸ (.tail _ (.tail _ (.tail _ (.tail _ (.tail _ (.head _)))))))) g7⟩
      exact fT2
  · obtain rfl : i = 2 := Nat.le_antisymm jhi (Nat.not_lt.mp hlt)
    refine ev_zip_end hh ap jS fun h4 o4 => ?_
    have o5 : Only [z, TT, i1, i2, cenv.locals, D] h' h4 := o4.sub (subc (.head _) (subc (.tail _ (.tail _ (.head _))) sub0))
    obtain ⟨y0, y1, rfl⟩ := len_two jlen
    obtain ⟨T0, t0, x0, rfl, a1, a2, a3, a4⟩ := jal 0 y0 rfl
    obtain ⟨T1, t1, x1, rfl, b1, b2, b3, b4⟩ := jal 1 y1 rfl
    obtain ⟨oi, hoi, sti⟩ := jS.i2
    simp only [List.nodup_cons, List.mem_cons, List.not_mem_nil, or_false, not_or, not_false_eq_true, List.nodup_nil, and_true] at ap
    obtain ⟨⟨n1, n2, n3, n4, n5⟩, ⟨n6, n7, n8, n9⟩, ⟨n10, n11, n12⟩, ⟨n13, n14⟩, n15⟩ := ap
    refine fin h4 T0 T1 t0 t1 k m' x0 x1 oi (jo.trans o5) (o4 _ _ (ninc dz.symm (nin1 d1.symm)) jhD) a1 b1 (o5 _ _ a2 a4) (o5 _ _ b2 b4) a3 b3 (o4 _ _ (ninc (Ne.symm n4) (nin1 (Ne.symm n13))) hoi) sti
      (ns_only (Y := [z, i1]) o4 (ninc cz.symm (nin1 c1.symm)) jns)
end Mine
open PySem PySem.W PyProof.Rows PySem.Calls
set_option maxRecDepth 100000
set_option maxHeartbeats 1000000
set_option linter.unusedVariables false
namespace Mine
variable {w : World} {A : Around} {Bh : Heap}
theorem IsPairN.only {B h h' : Heap} {W : List Addr} (hW : ∀ a ∈ W, B.get? a ≠ none) (o : Only W h h') {p : Addr} {x y : Value} (r : IsPairN B h p x y) : IsPairN B h' p x y := by
  obtain ⟨d, a, b, c, e⟩ := r
  exact ⟨d, o _ _ (fun q => hW _ q c) a, o _ _ (fun q => hW _ q e) b, c, e⟩
theorem OptN.only {B h h' : Heap} {W : List Addr} (hW : ∀ a ∈ W, B.get? a ≠ none) (o : Only W h h') {v : Value} {b : Option (Str × Str)} (r : OptN B h v b) : OptN B h' v b := by
  cases b with
  | none => exact r
  | some p =>
    obtain ⟨a, t, u, rfl, ip⟩ := r
    exact ⟨a, t, u, rfl, ip.only hW o⟩
theorem OptN.old {B B' h : Heap} (hx : ∀ z, B'.get? z = none → B.get? z = none) {v : Value} {b : Option (Str × Str)} (r : OptN B' h v b) : OptN B h v b := by
  cases b with
  | none => exact r
  | some p =>
    obtain ⟨a, t, u, rfl, d, e1, e2, e3, e4⟩ := r
    exact ⟨a, t, u, rfl, d, e1, e2, hx _ e3, hx _ e4⟩
theorem ns_some {h : Heap} {L : Addr} {m : Str → Option Value} (ns : h.Ns L m) : h.get? L ≠ none := fun q => by
  obtain ⟨o, _, _, ho, _⟩ := ns
  rw [q] at ho; cases ho
structure EJ {β : Type} (h3 : Heap) (L C D I l : Addr) (mL : Str → Option Value) (bs : List β) (R : Heap → Value → β → Prop) (N : Nat) (d : Nat) (h : Heap) (i : Nat) (ys : List Value) (k : Nat) (m : Str → Option Value) (o : Obj) : Prop where
  hi : i ≤ N
  hd : d = N - i
  only : Only [L, C, D, I] h3 h
  nsL : h.Ns L mL
  nsC : h.Ns C m
  hD : h.get? D = some (LO ys k)
  len : ys.length = i
  al : All2 (R h) ys (bs.take i)
  hI : h.get? I = some o
  st : LSt l i o
theorem fevC_each {β : Type} {elt iter : Expr} {x : Str} {px : Pos} {scope : Scope} {pos : Pos} {cenv : Env} (hh : A.handled = none) {h3 : Heap} {L D I l : Addr} {xs : List Value} {n : Nat} {mL m0 : Str → Option Value} {oI : Obj} (nd : [L, cenv.locals, D, I].Nodup)
    (hI : h3.get? I = some oI) (st : LSt l 0 oI) (hl : h3.get? l = some (LO xs n)) (nl : l ∉ [L, cenv.locals, D, I]) (hD : h3.get? D = some (LO [] 0)) (nsL : h3.Ns L mL) (nsC : h3.Ns cenv.locals m0) (hz : xs.length < 64) {bs : List β} (len : bs.length = xs.length)
    {R : Heap → Value → β → Prop} (hR : ∀ h h' v b, Only [L, cenv.locals, D, I] h h' → R h v b → R h' v b) (hk : cenv.scope.kind = .function) (lx : cenv.kindOf x = some .local)
    (step : ∀ (i : Nat) v b h m, xs[i]? = some v → bs[i]? = some b → Only [L, cenv.locals, D, I] h3 h → h.Ns L mL → h.Ns cenv.locals m → m x = some v → (∀ z, h.get? z = none → h3.get? z = none) → EvC (model pw w) A (eval elt cenv) h fun y h' => Only [L] h h' ∧ h'.Ns L mL ∧ R h' y b) {P : Heap → Prop}
    (fin : ∀ h ys k m, Only [L, cenv.locals, D, I] h3 h → h.Ns L mL → h.Ns cenv.locals m → h.get? D = some (LO ys k) → All2 (R h) ys bs → P h) :
    FEvC w A (.compLoop (.ListComp elt [⟨.Name x px, iter, [], 0⟩] scope pos) 0 (.ref I) (.ref D) cenv) h3 P := by
  simp only [List.nodup_cons, List.mem_cons, List.not_mem_nil, or_false, not_or, not_false_eq_true, List.nodup_nil, and_true] at nd nl
  obtain ⟨⟨LC, LD, LI⟩, ⟨CD, CI⟩, DI⟩ := nd
  obtain ⟨lL, lC, lD, lI⟩ := nl
  refine fevC_loop (fun d h => ∃ i ys k m o, EJ h3 L cenv.locals D I l mL bs R xs.length d h i ys k m o) (fun d h => ?_) xs.length ⟨0, [], 0, m0, oI, Nat.zero_le _, rfl, Only.refl, nsL, nsC, hD, rfl, .nil, hI, st⟩
  rintro ⟨i, ys, k, m, o, J⟩
  have lh : h.get? l = some (LO xs n) := J.only _ _ (by simp [lL, lC, lD, lI]) hl
  have T : Itr w A I (hideAll h [I]) xs.length (fun i v => xs[i]? = some v) (LSt l) "list_iterator" := Itr.list hh (hideAll_get _ lh (nin1 lI))
  by_cases hlt : i < xs.length
  · refine T.item hlt hide_kp J.hI J.st fun v h1 o1 hv oI1 gI1 st1 => ev_own_name ?_
    have C1 := ns_only (Y := [I]) oI1 (nin1 CI) J.nsC
    refine ev_asg_name (ev_st (fm_here C1) Nw.nil (fun h2 F2 _ => ?_) hk lx)
    have o12 : Only [cenv.locals] h1 h2 := F2.only
    have L2 := ns_only (Y := [cenv.locals]) o12 (nin1 LC) (ns_only (Y := [I]) oI1 (nin1 LI) J.nsL)
    have oh2 : Only [L, cenv.locals, D, I] h h2 := (oI1.sub (fun b q => by simp at q; simp [q])).trans (o12.sub (fun b q => by simp at q; simp [q]))
    obtain ⟨b, hb⟩ : ∃ b, bs[i]? = some b := ⟨_, List.getElem?_eq_getElem (by omega)⟩
    have D2 : h2.get? D = some (LO ys k) := o12 _ _ (nin1 (Ne.symm CD)) (oI1 _ _ (nin1 DI) J.hD)
    have I2 : h2.get? I = some o1 := o12 _ _ (nin1 (Ne.symm CI)) gI1
    refine (step i v b h2 _ hv hb (J.only.trans oh2) L2 F2.ns (by simp [upd]) fun z hz => ?_).mono fun y h4 z => ?_
    · cases e : h3.get? z with
      | none => rfl
      | some ob =>
        by_cases q : z ∈ [L, cenv.locals, D, I]
        · simp only [List.mem_cons, List.not_mem_nil, or_false] at q
          rcases q with rfl | rfl | rfl | rfl
          · exact absurd hz (ns_some L2)
          · exact absurd hz (ns_some F2.ns)
          · rw [D2] at hz; cases hz
          · rw [I2] at hz; cases hz
        · rw [(J.only.trans oh2) _ _ q e] at hz; cases hz
    obtain ⟨o4, nL4, r4⟩ := z
    have D4 : h4.get? D = some (LO ys k) := o4 _ _ (nin1 (Ne.symm LD)) D2
    refine ⟨ys, k, D4, by have := J.len; omega, fun h5 o5 g5 => ⟨xs.length - (i + 1), by have := J.hd; omega, i + 1, ys ++ [y], k + 1, upd x v m, o1, ?_⟩⟩
    have oh4 : Only [L, cenv.locals, D, I] h h4 := oh2.trans (o4.sub (subc (.head _) sub0))
    have o45 : Only [L, cenv.locals, D, I] h4 h5 := o5.sub (subc (.tail _ (.tail _ (.head _))) sub0)
    have tk : bs.take (i + 1) = bs.take i ++ [b] := by rw [List.take_add_one, hb]; rfl
    refine ⟨by omega, rfl, J.only.trans (oh4.trans o45), ns_only (Y := [D]) o5 (nin1 LD) nL4, ns_only (Y := [D]) o5 (nin1 CD) (ns_only (Y := [L]) o4 (nin1 (Ne.symm LC)) F2.ns), g5, by simp [J.len], ?_, o5 _ _ (nin1 (Ne.symm DI)) (o4 _ _ (nin1 (Ne.symm LI)) I2), st1⟩
    rw [tk]
    exact All2.snoc (All2.imp (fun v b r => hR _ _ _ _ (oh4.trans o45) r) J.al) (hR _ _ _ _ o45 r4)
  · obtain rfl : i = xs.length := by have := J.hi; omega
    refine T.done hide_kp J.hI J.st fun h1 o1 => ?_
    have oh : Only [L, cenv.locals, D, I] h h1 := o1.sub (subc (.tail _ (.tail _ (.tail _ (.head _)))) sub0)
    have al := J.al
    rw [List.take_of_length_le (by omega)] at al
    exact fin h1 ys k m (J.only.trans oh) (ns_only (Y := [I]) o1 (nin1 LI) J.nsL) (ns_only (Y := [I]) o1 (nin1 CI) J.nsC) (o1 _ _ (nin1 DI) J.hD) (All2.imp (fun v b r => hR _ _ _ _ oh r) al)
end Mine
open PySem PySem.W PyProof.Rows PySem.Calls
set_option maxRecDepth 100000
set_option maxHeartbeats 1000000
set_option linter.unusedVariables false
namespace Mine
variable {w : World} {A : Around} {Bh : Heap}
/-- a call of a def of the text that has cells of its own, under the claim's caller -/
theorem CEvC.fnc {h : Heap} (B : Base w Bh) (kb : Kp Bh h) {n : Nat} (room : Room A (n + 1)) {fa c : Addr} {st : Stmt} {qual name : Str} {params : Arguments} {body : List Stmt} {deco : List Expr} {ret : Option Expr} {tp : List TypeParam} {scope : Scope} {ts : Option Scope} {bind : Str} {pos : Pos}
    {dV kV doc pm ct : Value} {an : Option Addr} {vs : Array Value} {t : Tok} {vals : List Value} {P : Value → Heap → Prop} (binds : List (Str × Value))
    (hf : (K w.params).lookup fa = some ⟨.type "function", none, .func (fdOf st qual [] dV kV doc pm an (.ref c) ct), #[]⟩) (hc : (K w.params).lookup c = some ⟨.type "code", none, .fields vs, #[]⟩) (hq : vs[1]? = some (.str qual t))
    (hst : st = .FunctionDef name params body deco ret tp scope ts bind pos) (hk : scope.kind = .function) (hco : scope.isCoroutine = false) (hgen : scope.isGenerator = false)
    (hbind : ∀ s : Shared, s.heap = h → BindsTo s (fdOf st qual [] dV kV doc pm an (.ref c) ct) ⟨vals, []⟩ binds)
    (hloc : ∀ L, bindsOk scope.names (cellsFrom (nx L) scope.names []) binds = true)
    (hb : ∀ L h₁, Room (A.deeper (fenvc scope qual L fa c)) n → Kp h h₁ → Fm (hideAll h []) L h₁ (bindL (kindIn scope) binds fun _ => none) →
      (∀ x a, (cellsFrom (nx L) scope.names []).lookup x = some a → ∃ o, h₁.get? a = some o ∧ o.data = .cell (bindC (kindIn scope) binds (fun _ => none) x) ∧ L < a ∧ h.get? a = none) →
      EvC (model pw w) (A.deeper (fenvc scope qual L fa c)) (execs body (fenvc scope qual L fa c)) h₁ fun f h' => P (flowV f) h') :
    CEvC (model pw w) A (.call (.ref fa) ⟨vals, []⟩) h P := by
  intro R s hs hQ
  subst hs
  subst hst
  have hcd : s.heap.CodeRec (.ref c) qual := ⟨c, _, vs, t, rfl, kb _ _ (B.X c _ hc), rfl, hq⟩
  refine codeC.call_function (fd := fdOf (.FunctionDef name params body deco ret tp scope ts bind pos) qual [] dV kV doc pm an (.ref c) ct) (body := body) room.lim (kb _ _ (B.X fa _ hf)) rfl hco hgen rfl hcd (wpC.of ?_)
  refine hbind s rfl _ _ _ _ ?_
  refine wpAny_newFunctionEnv_cells hk (bindsOk_of (hloc _)) fun env he s' x => ?_
  subst he
  obtain ⟨h₁, tk, rfl⟩ := x.toInCall.same
  refine ⟨B.nolim.keeps fun b o e => x.toInCall.keep b o (kb b o e), ?_⟩
  refine codeC.of_tree ?_
  have z := hb s.heap.objs.size h₁ (room.deeper _) (fun b o e => x.toInCall.keep b o e) ⟨x.toInCall.ns, fun b o e => x.toInCall.keep b o (of_hideAll _ e), Heap.get?_none_of_le (Nat.le_of_eq (hideAll_size _ _))⟩
    (fun y a e => by
      obtain ⟨o, ho, hd⟩ := x.cell y a e
      have := x.above y a (mem_of_lookup e)
      exact ⟨o, ho, hd, this, Heap.get?_none_of_le (Nat.le_of_lt this)⟩)
  show wpC _ (A.deeper (fenv scope (cellsFrom (s.heap.objs.size + 1) scope.names []) qual s.heap.objs.size fa (.ref c))) (do point; match ← (execs body (fenv scope (cellsFrom (s.heap.objs.size + 1) scope.names []) qual s.heap.objs.size fa (.ref c))).onRaise (leaving (fenv scope (cellsFrom (s.heap.objs.size + 1) scope.names []) qual s.heap.objs.size fa (.ref c))) with | .ret v => PySem.ret v | _ => PySem.ret .none) _ _ _
  refine wpC.first (wpAny_point (wpC.bind (wpC.onRaise (wpC.mono (E := fun _ _ => False) (z _ _ _ rfl fun f h' tk' p => ?_) (fun _ _ q => q) fun _ _ q => q.elim))))
  cases f <;> exact wpC.of (wpAny_pure (hQ _ h' _ p))
end Mine
open PySem PySem.W PyProof.Rows PySem.Calls
set_option maxRecDepth 100000
set_option maxHeartbeats 1000000
set_option linter.unusedVariables false
namespace Mine
variable {w : World} {A : Around} {Bh : Heap}
noncomputable def NestR {β : Type} (R : Heap → Value → β → Prop) (B h : Heap) (v : Value) (b : List β) : Prop := ∃ l ys k, v = .ref l ∧ h.get? l = some (LO ys k) ∧ B.get? l = none ∧ All2 (R h) ys b
/-- two comprehensions, one in the other, over a list of lists, bound to a name -/
theorem evC_nest {α β : Type} {elt : Expr} {x1 x2 yn ln : Str} {p2 p3 p4 p5 py spos pos1 pos2 : Pos} {scope1 scope2 : Scope} {env : Env} (hh : A.handled = none) {h1 : Heap} {L l : Addr} {mL : Str → Option Value} (hL : env.locals = L) (nsL : h1.Ns L mL)
    {ls : List Value} {n : Nat} {ass : List (List α)} {R0 : Value → α → Prop} (hln : mL ln = some (.ref l)) (hl : h1.get? l = some (LO ls n)) (lL : l ≠ L) (hz : ls.length < 64) (items : All2 (fun v as => ∃ a ys k, v = .ref a ∧ h1.get? a = some (LO ys k) ∧ a ≠ L ∧ ys.length < 64 ∧ All2 R0 ys as) ls ass)
    {f : α → β} {R : Heap → Heap → Value → β → Prop} (hRo : ∀ W B h h' v b, Only W h h' → (∀ a ∈ W, B.get? a ≠ none) → R B h v b → R B h' v b) (hRw : ∀ B B' h v b, (∀ z, B'.get? z = none → B.get? z = none) → R B' h v b → R B h v b)
    (step : ∀ C1 C2 h m v a, Only [L] h1 h → h.Ns L mL → h.Ns C2 m → m x2 = some v → R0 v a → C2 ≠ L → EvC (model pw w) A (eval elt (cenvc scope2 [] C2 (cenvc scope1 [] C1 env))) h fun y h' => Only [L] h h' ∧ h'.Ns L mL ∧ R h h' y (f a))
    {P : Flow → Heap → Prop} (fin : ∀ h' T vs k, Only [L] h1 h' → h'.Ns L (upd yn (.ref T) mL) → h1.get? T = none → h'.get? T = some (LO vs k) → All2 (NestR (R h1) h1 h') vs (ass.map (·.map f)) → P .next h')
    (hsw : swapsWith (.ListComp (.ListComp elt [⟨.Name x2 p2, .Name x1 p3, [], 0⟩] scope2 pos2) [⟨.Name x1 p4, .Name ln p5, [], 0⟩] scope1 pos1) (some (.Name yn py)) spos.line env = pure true)
    (hc1 : closureFor scope1 env = pure []) (hk1 : scope1.kind = .function) (hn1 : localsOk scope1.names scope1.names = true) (hs1 : ∀ x, foldedSetIterable (.Name ln p5) env x = pure x)
    (hc2 : ∀ C, closureFor scope2 (cenvc scope1 [] C env) = pure []) (hk2 : scope2.kind = .function) (hn2 : localsOk scope2.names scope2.names = true) (hs2 : ∀ C x, foldedSetIterable (.Name x1 p3) (cenvc scope1 [] C env) x = pure x)
    (hk : env.scope.kind = .function) (ky : env.kindOf yn = some .local) (kl : env.kindOf ln = some .local) (dl : (ln == ("__debug__" : Str)) = false) (d1 : (x1 == ("__debug__" : Str)) = false)
    (kk1 : ∀ C, (cenvc scope1 [] C env).scope.kind = .function) (lx1 : ∀ C, (cenvc scope1 [] C env).kindOf x1 = some .local)
    (kk2 : ∀ C C', (cenvc scope2 [] C' (cenvc scope1 [] C env)).scope.kind = .function) (lx2 : ∀ C C', (cenvc scope2 [] C' (cenvc scope1 [] C env)).kindOf x2 = some .local) :
    EvC (model pw w) A (exec (.Assign [.Name yn py] (.ListComp (.ListComp elt [⟨.Name x2 p2, .Name x1 p3, [], 0⟩] scope2 pos2) [⟨.Name x1 p4, .Name ln p5, [], 0⟩] scope1 pos1) spos) env) h1 P := by
  subst hL
  refine evC_assign_comp (cl := []) (ev_ld (fm_here nsL) hln ?_ hk kl dl) hsw hc1 hk1 hn1 hs1
  refine ev_iter_list hl fun I h2 oI o2 d2 g2 st => ?_
  intro D C h3 o3 dD gD dC DC nsC
  refine fevC_start rfl (fun q => (Itr.list (g := hideAll h1 []) hh hl).self (o3 _ _ nin0 g2) st q) ?_
  have o13 := o2.trans o3
  have IC : I ≠ C := fun e => by rw [e, dC] at g2; cases g2
  have ID : I ≠ D := fun e => by rw [e, dD] at g2; cases g2
  have new : ∀ {b : Addr}, h1.get? b ≠ none → b ≠ C ∧ b ≠ D ∧ b ≠ I := fun {b} q => ⟨fun e => q (by rw [e]; exact none_of_kp o2.kp dC), fun e => q (by rw [e]; exact none_of_kp o2.kp dD), fun e => q (by rw [e, d2])⟩
  have gL := ns_some nsL
  obtain ⟨LC, LD, LI⟩ := new gL
  obtain ⟨lC, lD, lI⟩ := new (b := l) (by rw [hl]; simp)
  have nsL3 := nsL.keeps o13.kp
  have g3 : h3.get? I = some oI := o3 _ _ nin0 g2
  refine fevC_each (bs := ass.map (·.map f)) (R := fun h v b => NestR (R h3) h3 h v b ∧ ∀ x, v = .ref x → x ∉ [env.locals, C, D, I]) hh (nd := ?_) g3 st (o13 _ _ nin0 hl) ?_ gD nsL3 nsC hz ?_ ?_ (kk1 C) (lx1 C) ?_ ?_
  · simp only [List.nodup_cons, List.mem_cons, List.not_mem_nil, or_false, not_or, not_false_eq_true, List.nodup_nil, and_true]
    exact ⟨⟨LC, LD, LI⟩, ⟨DC.symm, IC.symm⟩, ID.symm⟩
  · simp only [List.mem_cons, List.not_mem_nil, or_false, not_or]
    exact ⟨lL, lC, lD, lI⟩
  · rw [List.length_map]; exact items.len.symm
  · rintro h h' v b o ⟨⟨a, ys, k, rfl, ga, na, al⟩, na'⟩
    refine ⟨⟨a, ys, k, rfl, o _ _ (na' _ rfl) ga, na, All2.imp (fun v b r => hRo _ _ _ _ _ _ o (fun c hc => ?_) r) al⟩, na'⟩
    simp only [List.mem_cons, List.not_mem_nil, or_false] at hc
    rcases hc with rfl | rfl | rfl | rfl
    · exact ns_some nsL3
    · exact ns_some nsC
    · rw [gD]; simp
    · rw [g3]; simp
  · intro i v b h m hv hb o hL hC hm hg
    rw [List.getElem?_map] at hb
    obtain ⟨as, ha, rfl⟩ := Option.map_eq_some_iff.mp hb
    obtain ⟨as', ha', a, ys, k, rfl, ga, aL, az, al⟩ := items.get hv
    rw [ha] at ha'
    obtain rfl := Option.some.inj ha'
    obtain ⟨aC, aD, aI⟩ := new (b := a) (by rw [ga]; simp)
    have gah : h.get? a = some (LO ys k) := o _ _ (by simp only [List.mem_cons, List.not_mem_nil, or_false, not_or]; exact ⟨aL, aC, aD, aI⟩) (o13 _ _ nin0 ga)
    refine evC_comp (cl := []) (ev_ld (fm_here hC) hm ?_ (kk1 C) (lx1 C) d1) (hc2 C) hk2 hn2 (hs2 C)
    refine ev_iter_list gah fun I2 h4 oI2 o4 d4 g4 st2 => ?_
    intro D2 C2 h5 o5 dD2 gD2 dC2 DC2 nsC2
    refine fevC_start rfl (fun q => (Itr.list (g := hideAll h []) hh gah).self (o5 _ _ nin0 g4) st2 q) ?_
    have o45 := o4.trans o5
    have IC2 : I2 ≠ C2 := fun e => by rw [e, dC2] at g4; cases g4
    have ID2 : I2 ≠ D2 := fun e => by rw [e, dD2] at g4; cases g4
    have new2 : ∀ {b : Addr}, h.get? b ≠ none → b ≠ C2 ∧ b ≠ D2 ∧ b ≠ I2 := fun {b} q => ⟨fun e => q (by rw [e]; exact none_of_kp o4.kp dC2), fun e => q (by rw [e]; exact none_of_kp o4.kp dD2), fun e => q (by rw [e, d4])⟩
    obtain ⟨LC2, LD2, LI2⟩ := new2 (ns_some hL)
    obtain ⟨aC2, aD2, aI2⟩ := new2 (b := a) (by rw [gah]; simp)
    have nsL5 := hL.keeps o45.kp
    have g5 : h5.get? I2 = some oI2 := o5 _ _ nin0 g4
    have h1h : Only [env.locals] h1 h := fun b ob nb e => by
      obtain ⟨z1, z2, z3⟩ := new (b := b) (by rw [e]; simp)
      exact o _ _ (by simp only [List.mem_cons, List.not_mem_nil, or_false, not_or] at nb ⊢; exact ⟨nb, z1, z2, z3⟩) (o13 _ _ nin0 e)
    have back5 : ∀ z, h5.get? z = none → h3.get? z = none := fun z e => hg z (none_of_kp o45.kp e)
    refine fevC_each (bs := as.map f) (R := R h5) hh (nd := ?_) g5 st2 (o45 _ _ nin0 gah) ?_ gD2 nsL5 nsC2 az ?_ ?_ (kk2 C C2) (lx2 C C2) ?_ ?_
    · simp only [List.nodup_cons, List.mem_cons, List.not_mem_nil, or_false, not_or, not_false_eq_true, List.nodup_nil, and_true]
      exact ⟨⟨LC2, LD2, LI2⟩, ⟨DC2.symm, IC2.symm⟩, ID2.symm⟩
    · simp only [List.mem_cons, List.not_mem_nil, or_false, not_or]
      exact ⟨aL, aC2, aD2, aI2⟩
    · rw [List.length_map]; exact al.len.symm
    · intro h h' v b o r
      refine hRo _ _ _ _ _ _ o (fun c hc => ?_) r
      simp only [List.mem_cons, List.not_mem_nil, or_false] at hc
      rcases hc with rfl | rfl | rfl | rfl
      · exact ns_some nsL5
      · exact ns_some nsC2
      · rw [gD2]; simp
      · rw [g5]; simp
    · intro j u b' h6 m6 hu hb' o6 hL6 hC6 hm6 hg6
      rw [List.getElem?_map] at hb'
      obtain ⟨c, hc, rfl⟩ := Option.map_eq_some_iff.mp hb'
      obtain ⟨c', hc', r0⟩ := al.get hu
      rw [hc] at hc'
      obtain rfl := Option.some.inj hc'
      refine (step C C2 h6 m6 u c (fun b ob nb e => ?_) hL6 hC6 hm6 r0 LC2.symm).mono fun y h7 z => ⟨z.1, z.2.1, hRw _ _ _ _ _ hg6 z.2.2⟩
      have e' := h1h _ _ nb e
      obtain ⟨z1, z2, z3⟩ := new2 (b := b) (by rw [e']; simp)
      exact o6 _ _ (by simp only [List.mem_cons, List.not_mem_nil, or_false, not_or] at nb ⊢; exact ⟨nb, z1, z2, z3⟩) (o45 _ _ nin0 e')
    · intro h6 zs k6 m6 o6 hL6 hC6 gD6 al6
      refine ⟨m6, hC6, fun h7 o7 => ?_⟩
      have D27 : h7.get? D2 = some (LO zs k6) := o7 _ _ (nin1 DC2) gD6
      have hh7 : Only [env.locals] h h7 := fun b ob nb e => by
        obtain ⟨z1, z2, z3⟩ := new2 (b := b) (by rw [e]; simp)
        exact o7 _ _ (nin1 z1) (o6 _ _ (by simp only [List.mem_cons, List.not_mem_nil, or_false, not_or] at nb ⊢; exact ⟨nb, z1, z2, z3⟩) (o45 _ _ nin0 e))
      have dDh : h.get? D2 = none := none_of_kp o4.kp dD2
      refine ⟨hh7, ns_only (Y := [C2]) o7 (nin1 LC2) hL6, ⟨D2, zs, k6, rfl, D27, hg _ dDh, All2.imp (fun v b r => hRw _ _ _ _ _ back5 (hRo [C2] _ _ _ _ _ o7 (fun c hc => by rw [List.mem_singleton.mp hc]; exact ns_some nsC2) r)) al6⟩, fun x e => ?_⟩
      obtain rfl : D2 = x := by injection e
      have q3 := hg _ dDh
      simp only [List.mem_cons, List.not_mem_nil, or_false, not_or]
      exact ⟨fun e => LD2 e.symm, fun e => ns_some nsC (e ▸ q3), fun e => (by rw [← e, q3] at gD; cases gD), fun e => (by rw [← e, q3] at g3; cases g3)⟩
  · intro h ys k m o hL hC gDh al
    refine ev_st (fm_here hL) Nw.nil (fun h4 F4 _ => ?_) hk ky
    have o4 : Only [env.locals] h h4 := F4.only
    refine ⟨m, ns_only (Y := [env.locals]) o4 (nin1 LC.symm) hC, fun h5 o5 => ?_⟩
    have o15 : Only [env.locals] h1 h5 := fun b ob nb e => by
      obtain ⟨z1, z2, z3⟩ := new (b := b) (by rw [e]; simp)
      have nb' : b ≠ env.locals := by simpa using nb
      exact o5 _ _ (nin1 z1) (o4 _ _ nb (o _ _ (by simp only [List.mem_cons, List.not_mem_nil, or_false, not_or]; exact ⟨nb', z1, z2, z3⟩) (o13 _ _ nin0 e)))
    refine fin h5 D ys k o15 (ns_only (Y := [C]) o5 (nin1 LC) F4.ns) (none_of_kp o2.kp dD) (o5 _ _ (nin1 DC) (o4 _ _ (nin1 LD.symm) gDh)) (All2.imp (fun v b r => ?_) al)
    obtain ⟨⟨a, zs, j, rfl, ga, na, ala⟩, na'⟩ := r
    have nx := na' a rfl
    simp only [List.mem_cons, List.not_mem_nil, or_false, not_or] at nx
    refine ⟨a, zs, j, rfl, o5 _ _ (by simpa using nx.2.1) (o4 _ _ (by simpa using nx.1) ga), none_of_kp o13.kp na, All2.imp (fun v b r => hRw _ _ _ _ _ (fun z e => none_of_kp o13.kp e) (hRo [env.locals, C] h3 h h5 _ _ ((o4.sub (by simp)).trans (o5.sub (by simp))) (fun c hc => ?_) r)) ala⟩
    simp only [List.mem_cons, List.not_mem_nil, or_false] at hc
    rcases hc with rfl | rfl
    · exact ns_some nsL3
    · exact ns_some nsC
end Mine
open PySem PySem.W PyProof.Rows PySem.Calls
set_option maxRecDepth 100000
set_option maxHeartbeats 1000000
set_option linter.unusedVariables false
namespace Mine
variable {w : World} {A : Around} {Bh : Heap}
/-- a comprehension over a range, its target a cell -/
theorem fev_cellrange {β : Type} {elt iter : Expr} {x : Str} {px : Pos} {scope : Scope} {pos : Pos} {cenv : Env} (hh : A.handled = none) {h3 : Heap} {C D I q : Addr} (hC : cenv.locals = C) {n : Nat} {m0 : Str → Option Value} (nd : [C, D, I, q].Nodup)
    (hI : h3.get? I = some (rangeItO (0 + (0 : Nat) * 1) ((n : Int) - (0 : Nat)) 1)) (hD : h3.get? D = some (LO [] 0)) (nsC : h3.Ns C m0) (hq : h3.get? q = some (cellN none)) (hx : cenv.cells.lookup x = some q) (kx : cenv.kindOf x = some .cell) (hk : cenv.scope.kind = .function)
    {bs : List β} (len : bs.length = n) (hz : n < 64) {R : Heap → Value → β → Prop} (hR : ∀ h h' v b, Only [C, D, I, q] h h' → R h v b → R h' v b)
    (step : ∀ (i : Nat) b h t oq, bs[i]? = some b → Only [C, D, I, q] h3 h → h.Ns C m0 → h.get? q = some oq → oq.data = .cell (some (.int i t)) → h.get? D ≠ none → h.get? I ≠ none → Ev (model pw w) A (eval elt cenv) h fun y h' => Only [] h h' ∧ R h' y b) {P : Heap → Prop}
    (fin : ∀ h ys k, Only [C, D, I, q] h3 h → h.Ns C m0 → h.get? D = some (LO ys k) → All2 (R h) ys bs → P h) :
    FEv w A (.compStart (.ListComp elt [⟨.Name x px, iter, [], 0⟩] scope pos) 0 (.ref I) (.ref D) cenv) h3 P := by
  simp only [List.nodup_cons, List.mem_cons, List.not_mem_nil, or_false, not_or, not_false_eq_true, List.nodup_nil, and_true] at nd
  obtain ⟨⟨CD, CI, Cq⟩, ⟨DI, Dq⟩, Iq⟩ := nd
  subst hC
  refine fev_list (target := .Name x px) (ifs := []) rfl (by rfl) (Itr.range (g := hideAll h3 [cenv.locals, D, I, q]) hh 0 1 n)
    (fun i o h => Only [cenv.locals, D, I, q] h3 h ∧ h.get? I = some o ∧ h.Ns cenv.locals m0 ∧ (∃ oq v, h.get? q = some oq ∧ oq.data = .cell v) ∧ ∃ ys k, h.get? D = some (LO ys k) ∧ All2 (R h) ys (bs.take i)) (fun i o h j => ⟨fun b ob e => ?_, j.2.1⟩) ?_ ?_ rfl ⟨Only.refl, hI, nsC, ⟨_, _, hq, rfl⟩, [], 0, hD, .nil⟩
  · exact j.1 _ _ (fun z => by rw [hideAll_none _ z] at e; cases e) (of_hideAll _ e)
  · rintro i o h v h1 o1 hi ⟨j1, j2, j3, ⟨oq, vq, j4, j5⟩, ys, k, j6, j7⟩ hv o2 g2 _
    obtain ⟨t, rfl⟩ := hv
    have nq : h1.get? q = some oq := o2 _ _ (by simpa using Ne.symm Iq) j4
    have nC := ns_only (Y := [I]) o2 (by simpa using CI) j3
    have nD : h1.get? D = some (LO ys k) := o2 _ _ (by simpa using DI) j6
    refine ev_own_name (ev_asg_name (ev_stc nq j5 (fun h3' oq3 o3 g3 d3 => ?_) hx hk kx))
    refine ev_tests0 ?_
    simp only [if_true]
    obtain ⟨b, hb⟩ : ∃ b, bs[i]? = some b := ⟨_, List.getElem?_eq_getElem (by omega)⟩
    have o13 : Only [cenv.locals, D, I, q] h h3' := (o2.sub (fun b z => by simp at z; simp [z])).trans (o3.sub (fun b z => by simp at z; simp [z]))
    have e : (0 : Int) + (i : Int) * 1 = i := by omega
    rw [e] at d3
    have I3 : h3'.get? I = some o1 := o3 _ _ (by simpa using Iq) g2
    have D3 : h3'.get? D = some (LO ys k) := o3 _ _ (by simpa using Dq) nD
    have C3 := ns_only (Y := [q]) o3 (by simpa using Cq) nC
    refine ev_emit (by have := j7.len; rw [this, List.length_take]; omega) ((step i b h3' t oq3 hb (j1.trans o13) C3 g3 d3 (by rw [D3]; simp) (by rw [I3]; simp)).mono fun y h4 z => ⟨z.1 _ _ (by simp) D3, fun h5 o5 g5 => ?_⟩)
    obtain ⟨o4, r4⟩ := z
    have o45 : Only [cenv.locals, D, I, q] h3' h5 := (o4.sub (by simp)).trans (o5.sub (fun b z => by simp at z; simp [z]))
    have C5 := ns_only (Y := [D]) o5 (by simpa using CD) (ns_only (Y := []) o4 (by simp) C3)
    refine ⟨(j1.trans o13).trans o45, o5 _ _ (by simpa using Ne.symm DI) (o4 _ _ (by simp) I3), C5, ⟨oq3, _, o5 _ _ (by simpa using Ne.symm Dq) (o4 _ _ (by simp) g3), d3⟩, _, _, g5, ?_⟩
    rw [show bs.take (i + 1) = bs.take i ++ [b] from by rw [List.take_add_one, hb]; rfl]
    exact All2.snoc (All2.imp (fun v b r => hR _ _ _ _ (o13.trans o45) r) j7) (hR _ _ _ _ (o5.sub (fun b z => by simp at z; simp [z])) r4)
  · rintro o h h' ⟨j1, j2, j3, j4, ys, k, j6, j7⟩ o2
    have o2' : Only [cenv.locals, D, I, q] h h' := o2.sub (fun b z => by simp at z; simp [z])
    rw [List.take_of_length_le (by omega)] at j7
    exact fin h' ys k (j1.trans o2') (ns_only (Y := [I]) o2 (by simpa using CI) j3) (o2 _ _ (by simpa using DI) j6) (All2.imp (fun v b r => hR _ _ _ _ o2' r) j7)
end Mine
open PySem PySem.W PyProof.Rows PySem.Calls
set_option maxRecDepth 100000
set_option maxHeartbeats 1000000
set_option linter.unusedVariables false
namespace Mine
variable {w : World} {A : Around} {Bh : Heap}
/-- `super()` in `__missing__` -/
theorem evAt_super (B : Base w Bh) {h g : Heap} (kb : Kp Bh h) {body : List Stmt} {scope : Scope} {qual : Str} {L : Addr} {m : Str → Option Value} {p0 p1 : Pos} {attr : Str} {whole : Sem Value} {bk dd : Addr} {es : Array DictEntry} {ep : Nat} (hb : h.get? bk = some (bookO dd es ep)) (F : Fm g L h m) (hv : m "self" = some (.ref bk)) {P : Value → Heap → Prop}
    (hk : scope.kind = .function) (h1 : scope.names.lookup ("super" : Str) = some .globalImplicit) (h2 : scope.names.lookup ("__class__" : Str) = some .free) (h3 : scope.names.lookup ("self" : Str) = some .local) (h4 : (attr == ("__class__" : Str)) = false)
    (p : ∀ so h', Only [] h h' → h.get? so = none → h'.get? so = some (ks_superObj 108 bk 108) → P (.ref so) h') :
    EvAt (model pw w) A (.func body (fenv scope [("__class__", 86)] qual L 98 (.ref 97))) (attributeBase (.Call (.Name "super" p0) [] [] p1) attr (fenv scope [("__class__", 86)] qual L 98 (.ref 97)) whole) h P := by
  intro E Q s hs hQ
  have X := B.X.keeps kb
  subst hs
  obtain ⟨hh, gg, d, t, os⟩ := s
  obtain ⟨mb, hmb, hb'⟩ := B.bl
  refine ks_wpAt_super_base (env := fenv scope [("__class__", 86)] qual L 98 (.ref 97)) h1 h2 h4 rfl (X 98 _ rfl) rfl rfl rfl (X 97 _ rfl) rfl rfl rfl rfl ?_
  refine ks_loadName_global hk h1 (loadGlobal_builtin (env := fenv scope [("__class__", 86)] qual L 98 (.ref 97)) (B.gl.keeps kb) (x := "super") rfl (hmb.keeps kb) ((hb' "super" (by decide)).trans (show bootBuiltins "super" = some (.type "super") from rfl)) ⟨rfl, ?_⟩)
  refine wpAny_loadName_free hk h2 rfl ⟨_, X 86 _ rfl, rfl⟩ ?_
  refine wpAny_loadName_local hk h3 F.ns hv ?_
  refine ks_wpAny_isType_cls (X 108 _ rfl) rfl ⟨rfl, ?_⟩
  refine ks_wpAny_call_super (X 108 _ rfl) rfl hb rfl (fun c e => by cases e) (looks_subIn X (by kernel_rfl)) (fun h' e k => ?_)
  exact hQ _ h' t (p _ h' (Only.of_kp k) (Heap.get?_none_of_le (Nat.le_refl _)) e)
theorem keeps_bm {M : Model} {h : Heap} {q bk : Addr} (e : h.get? q = some (bmO bk)) : Keeps M h (.ref q) := by
  refine ⟨.machine, .inr (.inl rfl), (Looks.ld (part := none) e).andThen ?_⟩
  show Looks _ _ (if (Value.type "builtin_function_or_method" != Value.type "method") = true then _ else _) _
  rw [if_pos (by decide)]
  show Looks _ _ (pure (if (Value.type "builtin_function_or_method" == Value.type "builtin_function_or_method" || Value.type "builtin_function_or_method" == Value.type "method-wrapper") = true then _ else _)) _
  rw [if_pos (by decide)]
  exact .now
/-- `book.__missing__(key)`: what getattr gives is called -/
theorem cev_miss (B : Base w Bh) {h : Heap} (kb : Kp Bh h) {n : Nat} (room : Room A (n + 1)) {bk dd : Addr} {es : Array DictEntry} {ep : Nat} (hb : h.get? bk = some (bookO dd es ep)) (hne : bk ≠ 108) {key : Value} {P : Value → Heap → Prop}
    (x : ∀ A' h1 t q, Room A' n → Only [] h h1 → h1.get? q = some (bmO bk) → CEv (model pw w) A' (.call (.builtin "getattr") ⟨[.ref bk, .str "_frozen" t, .ref q], []⟩) h1 fun f h2 => Kp h1 h2 ∧ Keeps (model pw w) h2 f ∧ CEv (model pw w) A' (.call f ⟨[key], []⟩) h2 P) :
    CEv (model pw w) A (.call (.ref 98) ⟨[.ref bk, key], []⟩) h P := by
  refine CEv.fnAt B kb room (fa := 98) (c := 97) [("self", .ref bk), ("key", key)] rfl rfl rfl rfl rfl rfl rfl (fun s hs => BindsTo.of_eq (by rfl)) rfl rfl ?_
  intro L h₁ R k1 F
  refine evAt_ret (evAt_call (evAt_call3 (id := "getattr") ?_))
  refine ev_bi B (kb.trans' k1) (.builtin "getattr") rfl rfl ⟨rfl, ev_ld F rfl (ev_str fun t => evAt_attr ?_)⟩
  refine evAt_super B (kb.trans' k1) (k1 _ _ hb) F rfl rfl rfl rfl rfl (by decide) fun so h2 o2 n2 e2 => ?_
  have k2 := k1.trans' o2.kp
  refine ev_superMiss B (kb.trans' k2) (k2 _ _ hb) e2 hne fun q h3 o3 n3 e3 => Ev.call ?_
  refine (x _ h3 t q R (Only.of_kp (k2.trans' o3.kp)) e3).mono fun f h4 z => ?_
  obtain ⟨k4, kp, c⟩ := z
  have k5 := k2.trans' (o3.kp.trans' k4)
  refine ev_ld (F.o (Only.of_kp (o2.kp.trans' (o3.kp.trans' k4)))) rfl ⟨kp, Ev.call (c.mono fun v h' p => p)⟩
end Mine
open PySem PySem.W PyProof.Rows PySem.Calls
set_option maxRecDepth 100000
set_option maxHeartbeats 1000000
set_option linter.unusedVariables false
namespace Mine
variable {w : World} {A : Around} {Bh : Heap}
/-! ## `list()` -/
theorem check_list_new0 : checkBuiltinCall "list.__new__" ⟨[.type "list"], []⟩ = pure () := by kernel_rfl
theorem ctype_list0 : checkTypeCall "list" ⟨[], []⟩ = pure () := by kernel_rfl
theorem args_list_init1 (a : Value) : argsOk "list.__init__" ⟨[a], []⟩ := by unfold argsOk; kernel_rfl
theorem ev_list0 {prog : Program} {h : Heap} {P : Value → Heap → Prop} (p : ∀ a n h', Only [] h h' → h.get? a = none → h'.get? a = some (LO [] n) → P (.ref a) h') : Ev (model prog w) A (call (.type "list") []) h P := by
  intro E Q s hs hQ
  subst hs
  refine callType_codes (Q₁ := fun obj s₁ => obj = .ref s.heap.objs.size ∧ s₁ = { s with heap := s.heap.push { cls := .type "list", data := .seq #[] } }) F.called_list ctype_list0 F.entry_list_init ?_ fun obj s₁ h₁ => ?_
  · refine codeAny_of_tree ?_
    show wpAny _ A.in1.in1 (do checkBuiltinCall "list.__new__" ⟨[.type "list"], []⟩; again (.builtin "list.__new__" ⟨[.type "list"], []⟩)) _ _ s
    refine wpAny_bind (wpAny_of_eq check_list_new0 (wpAny_pure ⟨plainId_quiet F.plain_list_new _, codeAny_builtin_stack F.entry_list_new rfl fun p st => ?_⟩))
    rw [Around.under_plainId F.plain_list_new _]
    have hsub := sub_list_self
    have hown := owner_list_new
    obtain ⟨hp, g, d, tk, os⟩ := s
    simp only [hown]
    wp_walk
    exact ⟨rfl, rfl⟩
  · obtain ⟨rfl, rfl⟩ := h₁
    have hS : (s.heap.push { cls := .type "list", data := .seq #[] }).get? s.heap.objs.size = some { cls := .type "list", data := .seq #[] } := Heap.get?_push_size _ rfl
    refine ⟨⟨_, hS, rfl⟩, args_list_init1 _, ?_⟩
    show wpAny _ A.in1.in1 (do let old ← Builtin.List.listItems (.ref s.heap.objs.size); Builtin.List.listUpdate (.ref s.heap.objs.size) (fun _ => #[]); letGo old.toList.reverse; ret .none) _ _ _
    refine wpAny_bind ?_
    unfold Builtin.List.listItems
    refine wpAny_bind (wpAny_seqItems hS rfl (wpAny_pure ?_))
    show wpAny _ _ (updateSeq s.heap.objs.size (fun _ => #[]) >>= fun _ => letGo (#[] : Array Value).toList.reverse >>= fun _ => ret .none) _ _ _
    refine wpAny_bind (wpAny_updateSeq hS rfl (wpAny_bind (wpAny_letGo (wpAny_pure ⟨rfl, ?_⟩))))
    refine hQ _ _ s.toks (p _ 0 _ ?_ (Heap.get?_none_of_le (Nat.le_refl _)) (Heap.get?_update_self _ hS rfl))
    exact fun b o _ e => (Heap.get?_update_other _ _ (Nat.ne_of_gt (Heap.lt_size e))).trans (Heap.get?_push_of_some _ e)
end Mine
open PySem PySem.W PyProof.Rows PySem.Calls
set_option maxRecDepth 100000
set_option maxHeartbeats 1000000
set_option linter.unusedVariables false
namespace Mine
variable {w : World} {A : Around} {Bh : Heap}
/-! ## the book's entries: name, token, the list's address -/
noncomputable def enE (w : World) (x : Str × Nat × Addr) : DictEntry := ⟨hashStr w x.1, .str x.1 x.2.1, .ref x.2.2⟩
noncomputable abbrev bkO (w : World) (dd : Addr) (xs : List (Str × Nat × Addr)) (ep : Nat) : Obj := bookO dd (xs.map (enE w)).toArray ep
theorem bk_keys {xs : List (Str × Nat × Addr)} : KeysOf (PySem.strKind pw w) (xs.map (enE w)).toArray := by
  intro e he
  obtain ⟨x, hx, rfl⟩ := List.mem_map.mp (Array.mem_def.mp he)
  exact ⟨x.1, by simp [PySem.strKind, enE, PySem.Value.isStrOf], rfl⟩
theorem ev_bookFind {h : Heap} {bk dd : Addr} {xs : List (Str × Nat × Addr)} {ep : Nat} (hb : h.get? bk = some (bkO w dd xs ep)) {k : Str} {t : Tok} {P : Option Nat → Heap → Prop}
    (p1 : ∀ i x, xs[i]? = some x → x.1 = k → P (some i) h) (p2 : (∀ x ∈ xs, x.1 ≠ k) → P none h) : Ev (model pw w) A (dictFind bk (.str k t) (hashStr w k)) h P := by
  intro E Q s hs hQ
  subst hs
  refine wpAny_dictFind_of (knd := PySem.strKind pw w) (k := k) (by simp [PySem.strKind, PySem.Value.isStrOf]) hb rfl bk_keys (hQ _ s.heap s.toks ?_)
  have e : ((xs.map (enE w)).toArray.findIdx? fun e => (PySem.strKind pw w).is k e.key) = xs.findIdx? fun x => x.1 == k := by
    rw [List.findIdx?_toArray, List.findIdx?_map]
    rfl
  rw [e]
  cases q : xs.findIdx? fun x => x.1 == k with
  | none =>
    exact p2 fun x hx e => by
      have := List.findIdx?_eq_none_iff.mp q x hx
      simp [e] at this
  | some i =>
    obtain ⟨hi, hk, _⟩ := List.findIdx?_eq_some_iff_getElem.mp q
    exact p1 i xs[i] (List.getElem?_eq_getElem hi) (by simpa using hk)
theorem Ev.pyHash {k : Str} {t : Tok} {h : Heap} {P : Int → Heap → Prop} (p : P (hashStr w k) h) : Ev (model pw w) A (pyHash (.str k t)) h P := by
  intro E Q s hs hQ
  subst hs
  exact wpAny_pyHash_str (hQ _ s.heap (s.toks + 1) p)
theorem ev_entries {M : Model} {h : Heap} {a : Addr} {part : Option Value} {o : Obj} {es : Array DictEntry} {ep : Nat} (ho : h.get? a = some o) (hd : o.data = .dict es ep) {P : Array DictEntry → Heap → Prop} (p : P es h) : Ev M A (dictEntries a part) h P := by
  intro E Q s hs hQ
  subst hs
  exact wpAny_dictEntries ho hd (hQ _ _ s.toks p)
theorem ev_bookGet {h : Heap} {bk dd : Addr} {xs : List (Str × Nat × Addr)} {ep : Nat} (hb : h.get? bk = some (bkO w dd xs ep)) {k : Str} {t : Tok} {P : Option Value → Heap → Prop}
    (p1 : ∀ x ∈ xs, x.1 = k → P (some (.ref x.2.2)) h) (p2 : (∀ x ∈ xs, x.1 ≠ k) → P none h) : Ev (model pw w) A (dictGet bk (.str k t)) h P := by
  unfold dictGet
  refine Ev.holding (Ev.bind (Ev.pyHash (Ev.bind (ev_bookFind hb (fun i x hi e => ?_) fun n => Ev.pure (p2 n)))))
  refine Ev.bind (ev_entries hb rfl (Ev.pure ?_))
  have e2 : ((xs.map (enE w)).toArray[i]?).map (·.val) = some (.ref x.2.2) := by simp [hi, enE]
  rw [e2]
  exact p1 x (List.mem_of_getElem? hi) e
theorem entry_getitem' : entryFor table "dict.__getitem__" = some Builtin.«dict.__getitem__» := entryFor_of_tree (by kernel_rfl)
/-- `book[key]` -/
theorem cev_bookItem (B : Base w Bh) {h : Heap} (kb : Kp Bh h) {bk dd : Addr} {xs : List (Str × Nat × Addr)} {ep : Nat} {od : Obj} (hlt : 353 < bk) (hb : h.get? bk = some (bkO w dd xs ep)) (hd : h.get? dd = some od) {k : Str} {t : Tok} {P : Value → Heap → Prop}
    (p1 : ∀ x ∈ xs, x.1 = k → P (.ref x.2.2) h) (p2 : (∀ x ∈ xs, x.1 ≠ k) → CEv (model pw w) A.in1 (.call (.ref 98) ⟨[.ref bk, .str k t], []⟩) h P) :
    CEv (model pw w) A (.call (.builtin "dict.__getitem__") ⟨[.ref bk, .str k t], []⟩) h P := by
  have X := B.X.keeps kb
  refine cev_sub (owner := "dict") (n := "__getitem__") (by decide +kernel) entry_getitem' (by decide +kernel) (by first | exact .inl (by decide +kernel) | exact .inr (by decide +kernel)) (book_inst X hb rfl (by kernel_rfl)) (by unfold argsOk; kernel_rfl) ?_
  unfold Builtin.«dict.__getitem__»
  refine Ev.bind (Ev.eq (t' := pure (bk, .str k t)) rfl (Ev.pure (Ev.bind (ev_bookGet hb (fun x hx e => ev_ret (p1 x hx e)) fun n => ?_))))
  have e : Builtin.Dict.missed bk (.str k t) = pure none := by
    unfold Builtin.Dict.missed
    rw [if_neg (by show ¬ (bk == sysModules) = true; simp [sysModules]; exact Nat.ne_of_gt (Nat.lt_trans (by decide) hlt))]
  refine Ev.bind (Ev.eq e (Ev.pure ?_))
  refine Ev.bind (Ev.looks (book_type hb rfl) ?_)
  rw [if_pos (by decide)]
  refine Ev.bind ?_
  intro E Q s hs hQ
  subst hs
  refine special_fn X (book_at hb hd) (by kernel_rfl) (by kernel_rfl) (wpAny_call (p2 n _ s rfl fun v h' tk p => hQ _ h' tk ?_))
  exact Ev.bind (Ev.rule (Ev.bind (Ev.pure (Ev.pure ⟨_, rfl, p⟩))))
end Mine
open PySem PySem.W PyProof.Rows PySem.Calls
set_option maxRecDepth 100000
set_option maxHeartbeats 1000000
set_option linter.unusedVariables false
namespace Mine
variable {w : World} {A : Around} {Bh : Heap}
theorem Ev.borrow {M : Model} {f : Value} {pos : List Value} {h : Heap} {P : Value → Heap → Prop} (x : Ev M A (PySem.call f pos) h P) : Ev M A (callBorrowed f pos) h P := by
  intro E Q s hs hQ Γ p hΓ
  have z := x E Q s hs hQ Γ p hΓ
  unfold PySem.call at z
  rw [Sem.wp_runValue] at z
  unfold callBorrowed
  rw [Sem.wp_call]
  refine Eq.mp (congrArg (fun R => wpCode M (Γ.enter (.call f ⟨pos, []⟩) none p) R p s) ?_) z
  funext r s'
  cases r with
  | error e => simp
  | ok fl => cases fl <;> simp
theorem cev_again {id : String} {args : Args} {b : Builtin} {h : Heap} {P : Value → Heap → Prop} (hq : plainId id = true) (hb : entryFor table id = some b)
    (x : Ev (model pw w) A.in1 (b args) h fun fin h2 => ∃ c, fin = .again c ∧ c.quiet = true ∧ CEv (model pw w) A c h2 P) : CEv (model pw w) A (.builtin id args) h P := by
  intro R s hs hQ
  refine codeAny_builtin hb ?_
  rw [Around.under_plainId hq _]
  refine x _ _ s hs fun fin h' tk z => ?_
  obtain ⟨c, rfl, q, y⟩ := z
  exact ⟨q, y _ _ rfl hQ⟩
theorem entry_ddm : entryFor table "collections.defaultdict.__missing__" = some Builtin.«collections.defaultdict.__missing__» := entryFor_of_tree (by kernel_rfl)
theorem entry_sd : entryFor table "dict.setdefault" = some Builtin.«dict.setdefault» := entryFor_of_tree (by kernel_rfl)
theorem cev_setdefault (B : Base w Bh) {h : Heap} (kb : Kp Bh h) {bk dd a : Addr} {xs : List (Str × Nat × Addr)} {ep : Nat} (hlt : 353 < bk) (hb : h.get? bk = some (bkO w dd xs ep)) {k : Str} {t : Tok} (n : ∀ x ∈ xs, x.1 ≠ k) (hz : xs.length < 64) {P : Value → Heap → Prop}
    (p : ∀ h', Only [bk] h h' → h'.get? bk = some (bkO w dd (xs ++ [(k, t, a)]) (ep + 1)) → P (.ref a) h') : CEv (model pw w) A (.builtin "dict.setdefault" ⟨[.ref bk, .str k t, .ref a], []⟩) h P := by
  have X := B.X.keeps kb
  refine cev_direct (by decide +kernel) entry_sd ?_
  unfold Builtin.«dict.setdefault»
  refine Ev.bind ?_
  unfold Builtin.Dict.keyAndDefault Builtin.Dict.notOrdered
  rw [if_pos (by decide)]
  refine Ev.bind (Ev.bind ?_)
  show Ev _ _ (typeOf (.ref bk)) _ _
  refine Ev.looks (book_type hb rfl) ?_
  rw [if_pos (by decide)]
  refine Ev.bind (Ev.looks (book_inst X hb rfl (r := false) (by kernel_rfl)) ?_)
  rw [if_neg (by decide)]
  refine Ev.pure (Ev.bind (Ev.eq (t' := pure ()) rfl (Ev.pure (Ev.bind (Ev.eq (t' := pure (.ref bk, [.str k t, .ref a])) rfl (Ev.pure ?_))))))
  refine Ev.bind (Ev.eq (t' := pure bk) rfl (Ev.pure (Ev.pure ?_)))
  dsimp only
  rw [if_neg (by simp [sysModules]; exact Nat.ne_of_gt (Nat.lt_trans (by decide) hlt))]
  refine Ev.bind ?_
  unfold dictSetDefault
  refine Ev.holding (Ev.bind (Ev.pyHash (Ev.bind (ev_bookFind hb (fun i x hi e => absurd e (n x (List.mem_of_getElem? hi))) fun _ => ?_))))
  refine Ev.bind (Ev.rule (Ev.bind ?_))
  intro E Q s hs hQ
  subst hs
  refine wpAny_updateDictKeys hb rfl (hQ () _ s.toks (Ev.pure (ev_ret (p _ only_update ?_)))) (by simp; exact Nat.le_trans (Nat.le_of_lt hz) (by decide))
  refine (Heap.get?_update_self _ hb rfl).trans ?_
  simp [Obj.mapDictKeys, enE, PySem.strKind]
theorem ddm_bound {bk : Addr} {k : Str} {t : Tok} : ∃ sig, Manifest.signature? "collections.defaultdict.__missing__" = some sig ∧ builtinKind "collections.defaultdict.__missing__" = some .method ∧
    Bind.checkArgs "collections.defaultdict.__missing__" { sig with full := s!"{(Str.ofString "FreezableDefaultDict").toString}.{Bind.lastOf "collections.defaultdict.__missing__"}" } ⟨[.ref bk, .str k t], []⟩ = pure () :=
  ⟨_, rfl, by kernel_rfl, by kernel_rfl⟩
theorem ev_checkBound (B : Base w Bh) {h : Heap} (kb : Kp Bh h) {bk dd : Addr} {xs : List (Str × Nat × Addr)} {ep : Nat} (hb : h.get? bk = some (bkO w dd xs ep)) {k : Str} {t : Tok} {P : Unit → Heap → Prop} (p : P () h) :
    Ev (model pw w) A (checkBoundCall "collections.defaultdict.__missing__" ⟨[.ref bk, .str k t], []⟩) h P := by
  have X := B.X.keeps kb
  obtain ⟨sig, e1, e2, e3⟩ := ddm_bound (bk := bk) (k := k) (t := t)
  unfold checkBoundCall
  rw [e1, e2]
  dsimp only
  rw [if_neg (by decide)]
  refine Ev.bind (Ev.looks (book_inst X hb rfl (r := false) (by kernel_rfl)) ?_)
  rw [if_neg (by decide +kernel)]
  refine Ev.bind ?_
  unfold isType
  refine Ev.bind (Ev.loadPart hb (Ev.pure ?_))
  rw [if_neg (by exact Bool.false_ne_true)]
  refine Ev.bind (Ev.looks (book_type hb rfl) ?_)
  refine Ev.bind (Ev.looks (looks_clsIn X (C := 108) rfl) ?_)
  refine Ev.bind (Ev.looks (Looks.of_peek X (r := .type "type") (by kernel_rfl)) ?_)
  rw [if_pos (by decide)]
  exact Ev.eq e3 (Ev.pure p)
theorem cev_boundMiss (B : Base w Bh) {h : Heap} (kb : Kp Bh h) {bk dd q : Addr} {xs : List (Str × Nat × Addr)} {ep : Nat} (hlt : 353 < bk) (hb : h.get? bk = some (bkO w dd xs ep)) (hq : h.get? q = some (bmO bk)) (hBb : Bh.get? bk = none) {k : Str} {t : Tok} (n : ∀ x ∈ xs, x.1 ≠ k) (hz : xs.length < 64)
    {P : Value → Heap → Prop} (p : ∀ a m h', Only [bk] h h' → h.get? a = none → h'.get? a = some (LO [] m) → h'.get? bk = some (bkO w dd (xs ++ [(k, t, a)]) (ep + 1)) → P (.ref a) h') :
    CEv (model pw w) A (.call (.ref q) ⟨[.str k t], []⟩) h P := by
  intro R s hs hQ
  subst hs
  have X := B.X.keeps kb
  refine codeAny_of_tree ?_
  show wpAny _ _ (callAny (.ref q) _) _ _ _
  unfold callAny
  refine wpAny_bind (wpAny_load hq ?_)
  dsimp only
  rw [if_pos (by decide)]
  show wpAny _ _ (if (Value.type "builtin_function_or_method" != Value.type "method") = true then _ else _) _ _ _
  rw [if_pos (by decide)]
  refine wpAny_bind (wpAny_mono (Q := fun _ s' => ∃ tk, s' = { s with toks := tk }) (E := fun _ _ => False) ?_ (fun _ s' e => ?_) fun _ _ f => f.elim)
  · exact ev_checkBound B kb hb (P := fun _ h' => h' = s.heap) rfl _ _ s rfl fun _ h' tk e => ⟨tk, by rw [e]⟩
  obtain ⟨tk0, rfl⟩ := e
  refine wpAny_pure ⟨Code.quiet_builtin _ (by decide +kernel), ?_⟩
  refine cev_again (by decide +kernel) entry_ddm ?_ R _ rfl hQ
  unfold Builtin.«collections.defaultdict.__missing__»
  refine Ev.bind (Ev.eq (t' := pure (.ref bk, .str k t)) rfl (Ev.pure ?_))
  refine Ev.bind ?_
  unfold Builtin.Collections_defaultdict.factory? slotAt
  refine Ev.bind (Ev.bind (Ev.loadPart hb (Ev.pure (Ev.pure ?_))))
  show Ev _ _ (callOutOfASlot (.type "list") >>= _) _ _
  unfold callOutOfASlot
  refine Ev.bind (Ev.bind (Ev.eq (t' := pure true) rfl (Ev.pure ?_)))
  rw [if_pos rfl]
  refine Ev.borrow (ev_list0 fun a m h1 o1 n1 e1 => ?_)
  refine Ev.pure ⟨_, rfl, Code.quiet_builtin _ (by decide +kernel), ?_⟩
  have k1 := o1.kp
  refine cev_setdefault B (kb.trans' k1) hlt (k1 _ _ hb) n hz fun h2 o2 e2 => p a m h2 (Only.trans (Only.of_kp k1) o2) n1 ?_ e2
  exact o2 _ _ (fun q => by rw [List.mem_singleton.mp q, hb] at n1; cases n1) e1
end Mine
open PySem PySem.W PyProof.Rows PySem.Calls
set_option maxRecDepth 100000
set_option maxHeartbeats 1000000
set_option linter.unusedVariables false
namespace Mine
variable {w : World} {A : Around} {Bh : Heap}
/-- `book[key]`, by the class's slot -/
theorem ev_bookTail (B : Base w Bh) {h : Heap} (kb : Kp Bh h) {value slice : Expr} {bk dd : Addr} {xs : List (Str × Nat × Addr)} {ep : Nat} (hb : h.get? bk = some (bkO w dd xs ep)) {k : Str} {t : Tok} {P : Value → Heap → Prop}
    (x : CEv (model pw w) A (.call (.builtin "dict.__getitem__") ⟨[.ref bk, .str k t], []⟩) h P)
    (hs : subscripted slice false (.ref bk) (.str k t) = operate [.ref bk, .str k t] (getItem (.ref bk) (.str k t)) := by with_unfolding_all rfl) : Ev (model pw w) A (subscriptTail value slice (.ref bk) (.str k t)) h P := by
  have X := B.X.keeps kb
  have ty := book_type (w := w) hb rfl
  unfold subscriptTail
  refine Ev.bind ?_
  unfold getitemInPython specialOf
  refine Ev.bind (Ev.bind (Ev.looks ty (Ev.looks (looks_findIn X (r := some (.builtin "dict.__getitem__")) (by kernel_rfl)) ?_)))
  refine Ev.pure ?_
  rw [hs]
  refine Ev.bind (Ev.operate ?_)
  have fin : ∀ {r h2}, P r h2 → Ev (model pw w) A (letTemporaryGo value (.ref bk) r >>= fun _ => pure r) h2 P := fun p => Ev.bind (fun E Q s hs hQ => by subst hs; exact wpAny_letTemporaryGo (hQ _ _ s.toks (Ev.pure p)))
  unfold getItem sequenceKey
  refine Ev.holding (Ev.bind (Ev.bind (Ev.looks ty (Ev.bind (Ev.looks (anyM_none X (by kernel_rfl)) ?_)))))
  rw [if_pos (show (!false) = true from rfl)]
  refine Ev.pure (Ev.bind ?_)
  unfold callSpecial? specialOf
  refine Ev.bind (Ev.bind (Ev.looks ty (Ev.looks (looks_findIn X (r := some (.builtin "dict.__getitem__")) (by kernel_rfl)) ?_)))
  refine Ev.holding ?_
  rw [F.slot_dict_getitem.bind]
  exact Ev.bind (Ev.pure (Ev.bind (Ev.call (x.mono fun v h2 p => Ev.pure (Ev.pure (fin p))))))
/-- `book[key]` on a book that is not frozen -/
theorem ev_bookOpen (B : Base w Bh) {h : Heap} (kb : Kp Bh h) (room : Room A 3) {value slice : Expr} {bk dd : Addr} {xs : List (Str × Nat × Addr)} {ep : Nat} (hlt : 353 < bk) (hBb : Bh.get? bk = none) (hb : h.get? bk = some (bkO w dd xs ep)) (hd : h.get? dd = some dictO0) (hz : xs.length < 64) {k : Str} {t : Tok} {P : Value → Heap → Prop}
    (p1 : ∀ x ∈ xs, x.1 = k → P (.ref x.2.2) h) (p2 : (∀ x ∈ xs, x.1 ≠ k) → ∀ a m h', Only [bk] h h' → h.get? a = none → h'.get? a = some (LO [] m) → h'.get? bk = some (bkO w dd (xs ++ [(k, t, a)]) (ep + 1)) → P (.ref a) h')
    (hs : subscripted slice false (.ref bk) (.str k t) = operate [.ref bk, .str k t] (getItem (.ref bk) (.str k t)) := by with_unfolding_all rfl) : Ev (model pw w) A (subscriptTail value slice (.ref bk) (.str k t)) h P := by
  refine ev_bookTail B kb hb (cev_bookItem B kb hlt hb hd p1 fun n => ?_) hs
  refine cev_miss B kb (n := 1) room.in1 hb (Nat.ne_of_gt (Nat.lt_trans (by decide) hlt)) fun A' h1 t1 q R o1 e1 => ?_
  have k1 := o1.kp
  refine ev_getattr3 B (kb.trans' k1) (k1 _ _ hb) (k1 _ _ hd) (ev_frozen_not B (kb.trans' k1) R.in1.handled (k1 _ _ hb) (k1 _ _ hd) fun h2 e k2 l => .inr ⟨_, rfl, l, k2, keeps_bm (k2 _ _ e1), ?_⟩)
  have k3 := k1.trans' k2
  refine cev_boundMiss B (kb.trans' k3) hlt (k3 _ _ hb) (k2 _ _ e1) hBb n hz fun a m h3 o3 n3 e3 e4 => p2 n a m h3 (Only.trans (Only.of_kp k3) o3) (none_of_kp' k3 n3) e3 e4
end Mine
open PySem PySem.W PyProof.Rows PySem.Calls
set_option maxRecDepth 100000
set_option maxHeartbeats 1000000
set_option linter.unusedVariables false
namespace Mine
variable {w : World} {A : Around} {Bh : Heap}
/-! ## `book._frozen = ...` -/
noncomputable abbrev dictO1 (hs : Int) (t : Tok) (ep : Nat) (v : Value) : Obj := ⟨.type "dict", none, .dict #[⟨hs, .str "_frozen" t, v⟩] ep, #[]⟩
theorem ev_setFrozen (B : Base w Bh) {h : Heap} (kb : Kp Bh h) {bk dd : Addr} {es : Array DictEntry} {ep : Nat} (hb : h.get? bk = some (bookO dd es ep)) (hd : h.get? dd = some dictO0) {v : Value} {P : Unit → Heap → Prop}
    (p : ∀ hs t ep h', Only [dd] h h' → h'.get? dd = some (dictO1 hs t ep v) → P () h') : Ev (model pw w) A (setAttr (.ref bk) "_frozen" v) h P := by
  have X := B.X.keeps kb
  have I := book_at hb hd
  have SF := PySem.F.store_object
  unfold setAttr
  refine Ev.bind (Ev.mkText fun tk => Ev.bind ?_)
  unfold callSpecial? specialOf
  refine Ev.bind (Ev.bind (Ev.looks I.type (Ev.looks (looks_findIn X (r := some (.builtin "object.__setattr__")) (by kernel_rfl)) ?_)))
  refine Ev.holding ?_
  rw [SF.slot.bind]
  refine Ev.bind (Ev.pure (Ev.bind (Ev.call ?_)))
  refine cev_sub (self := .ref bk) (rest := [.str "_frozen" tk, v]) SF.slot.plain SF.entry SF.split (.inl (by decide +kernel)) (book_inst X hb rfl (by kernel_rfl)) (SF.args _ _ _) ?_
  rw [osa_eq]
  refine Ev.bind ?_
  unfold Builtin.ObjectAttr.refuseIfOverridden
  refine Ev.bind (Ev.looks I.type ?_)
  refine Ev.bind (Ev.looks (Looks.of_peek X (r := [.ref 108, .type "collections.defaultdict", .type "dict", .type "object"]) (by kernel_rfl)) ?_)
  refine Ev.looks (Looks.of_peek X (r := ()) (by kernel_rfl)) ?_
  refine Ev.bind (Ev.looks I.type (Ev.bind (Ev.looks (looks_findIn X (r := none) (by kernel_rfl)) ?_)))
  refine Ev.bind (Ev.eq (t' := pure none) rfl (Ev.pure ?_))
  show Ev _ _ (Builtin.ObjectAttr.storeInOwnDict _ _ _ _ _ _) _ _
  unfold Builtin.ObjectAttr.storeInOwnDict
  refine Ev.bind (Ev.eq (t' := pure ()) rfl (Ev.pure ?_))
  rw [if_neg (by decide)]
  refine Ev.bind (Ev.bind (Ev.loadPart hb (Ev.bind (Ev.looks (looks_clsIn X (C := 108) rfl) ?_))))
  refine Ev.pure ?_
  refine Ev.bind (Ev.pure (Ev.bind (Ev.bind ?_)))
  unfold strHash
  refine Ev.bind (Ev.ask (Ev.pure (Ev.bind (Ev.mkText fun tk2 => Ev.bind (Ev.loadPart hd ?_)))))
  dsimp only
  rw [if_neg (by rw [aRefKeyMayBeTheName_at]; simp)]
  refine Ev.updatePart hd ?_
  generalize (if (Str.ofString "_frozen").cps.isEmpty = true then (0 : Int) else _) = hs0
  have g1 := Heap.get?_update_self (Obj.putName "_frozen" hs0 (.str "_frozen" tk2) v) hd rfl
  have o1 : Only [dd] h (h.update dd (Obj.putName "_frozen" hs0 (.str "_frozen" tk2) v)) := only_update
  generalize h.update dd (Obj.putName "_frozen" hs0 (.str "_frozen" tk2) v) = h1 at g1 o1 ⊢
  refine Ev.bind (fun E Q s hs hQ => by
    subst hs
    exact wpAny_lookBehind g1 (pastItsLine_dict (by exact Nat.le_add_left 1 sizeLine)) (hQ () _ s.toks (ev_ret (Ev.pure (Ev.pure (p hs0 tk2 1 _ o1 g1))))))
end Mine
open PySem PySem.W PyProof.Rows PySem.Calls
set_option maxRecDepth 100000
set_option maxHeartbeats 1000000
set_option linter.unusedVariables false
namespace Mine
variable {w : World} {A : Around} {Bh : Heap}
/-! ## freeze -/
theorem ev_assign_attr {M : Model} {env : Env} {o : Expr} {attr : Str} {pos' pos : Pos} {value : Expr} {h : Heap} {P : Flow → Heap → Prop}
    (x : Ev M A (eval value env) h fun v h1 => Ev M A (eval o env) h1 fun ov h2 => Ev M A (setAttr ov attr v) h2 fun _ => P .next)
    (hs : swapsWith value (some (.Attribute o attr pos')) pos.line env = pure false := by rfl) : Ev M A (exec (.Assign [.Attribute o attr pos'] value pos) env) h P :=
  fun E Q s e hQ Γ p hΓ => ks_wpAt_Assign_Attr (c := Γ.code) (_root_.PySem.wpAt_of_wpAny (x E _ s e fun v h1 tk y => y E _ _ rfl fun ov h2 tk2 z => z E _ _ rfl fun _ h3 tk3 p => hQ _ h3 tk3 p)) hs Γ p rfl hΓ
noncomputable def lamE : Expr := match methAt 4 2 with
  | .FunctionDef _ _ [.Assign _ e _] _ _ _ _ _ _ _ => e
  | _ => default
noncomputable def lamA : Arguments := match lamE with | .Lambda a _ _ _ => a | _ => default
noncomputable def lamB : Expr := match lamE with | .Lambda _ b _ _ => b | _ => default
noncomputable def lamS : Scope := match lamE with | .Lambda _ _ s _ => s | _ => default
noncomputable abbrev lamQ : Str := (Str.ofString "FreezableDefaultDict.freeze" ++ ".<locals>.") ++ "<lambda>"
noncomputable abbrev lamO (w : World) (cell c' : Addr) (ctv : Value) : Obj := kla_obj "<lambda>" lamQ lamA lamB lamS [("self", cell)] ((mgl w.params "__name__").getD .none) c' ctv
structure Frz (w : World) (h : Heap) (bk dd lam : Addr) : Prop where
  own : ∃ hs t ep, h.get? dd = some (dictO1 hs t ep (.ref lam))
  fn : ∃ cell c' ctv oc, h.get? lam = some (lamO w cell c' ctv) ∧ h.CodeRec (.ref c') lamQ ∧ h.get? cell = some oc ∧ oc.data = .cell (some (.ref bk))
theorem Frz.up {h h' : Heap} {bk dd lam : Addr} (k : Kp h h') (f : Frz w h bk dd lam) : Frz w h' bk dd lam := by
  obtain ⟨⟨hs, t, ep, e⟩, cell, c', ctv, oc, e1, e2, e3, e4⟩ := f
  exact ⟨⟨hs, t, ep, k _ _ e⟩, cell, c', ctv, oc, k _ _ e1, e2.keeps k, k _ _ e3, e4⟩
theorem cev_freeze (B : Base w Bh) {h : Heap} (kb : Kp Bh h) (room : Room A 1) (hT : h.get? 100 = some (tabObj #[])) (hBT : Bh.get? 100 = none) (hBM : h.BuiltinsAt (mgl w.params) 100) {bk dd : Addr} {es : Array DictEntry} {ep : Nat} (hb : h.get? bk = some (bookO dd es ep)) (hd : h.get? dd = some dictO0)
    {P : Value → Heap → Prop} (p : ∀ lam h', Only [100, dd] h h' → (∃ ps, h'.get? 100 = some (tabObj ps)) → Frz w h' bk dd lam → P .none h') : CEv (model pw w) A (.call (.ref 105) ⟨[.ref bk], []⟩) h P := by
  refine CEv.fnc B kb (n := 0) room (fa := 105) (c := 104) [("self", .ref bk)] [] rfl rfl rfl rfl rfl rfl rfl (fun s hs => BindsTo.of_eq (by rfl)) (fun L => rfl) (fun _ q => nomatch q) ?_
  intro L h₁ R k1 F N C
  obtain ⟨oc, hc, hcd, hlt, hcn⟩ := C "self" (nx L) rfl
  refine ev_cons (ev_assign_attr ?_)
  have X1 := B.X.keeps (kb.trans' k1)
  intro E Q s hs hQ
  subst hs
  obtain ⟨bm, ob, b1, b2, b3, b4, b5, b6⟩ := hBM
  refine kla_eval rfl (kla_makeFunction (mg := mgl w.params) (clos := [("self", nx L)]) (c := 104) (P := 100) (ps := #[]) rfl rfl (B.gl.keeps (kb.trans' k1)) rfl ⟨_, _, _, _, _, _, _, _, _, X1 104 _ rfl, rfl, rfl, rfl, rfl, rfl, rfl, rfl, rfl, by decide⟩ (k1 _ _ hT) trivial rfl (by decide) ⟨bm, ob, b1, b2, b3, b4, k1 _ _ b5, b6⟩ fun c' ctv h2 tk x1 x2 x3 x4 x5 => hQ _ _ tk ?_)
  have n1 : ∀ {b o}, h.get? b = some o → o ≠ tabObj #[] → b ≠ 100 := fun e ne q => by rw [q, hT] at e; exact ne (Option.some.inj e).symm
  have lam : (h2.push (lamO w (nx L) c' ctv)).get? h2.objs.size = some (lamO w (nx L) c' ctv) := Heap.get?_push_size _ rfl
  have up : ∀ b o, b ≠ 100 → s.heap.get? b = some o → (h2.push (lamO w (nx L) c' ctv)).get? b = some o := fun b o n e => Heap.get?_push_of_some _ (x1 b o n e)
  have x4' := x4.keeps (h' := h2.push (lamO w (nx L) c' ctv)) fun b o e => Heap.get?_push_of_some _ e
  have x5' : ∃ ps, (h2.push (lamO w (nx L) c' ctv)).get? 100 = some (tabObj ps) := ⟨_, Heap.get?_push_of_some _ x5⟩
  change Ev _ _ _ (h2.push (lamO w (nx L) c' ctv)) _
  generalize h2.objs.size = la at lam ⊢
  generalize h2.push (lamO w (nx L) c' ctv) = h3 at lam up x4' x5' ⊢
  obtain ⟨ps, x5'⟩ := x5'
  have hc3 := up _ _ (fun q => by rw [q, hT] at hcn; cases hcn) hc
  have hb3 := up _ _ (n1 hb (by simp)) (k1 _ _ hb)
  have hd3 := up _ _ (n1 hd (by simp)) (k1 _ _ hd)
  have kb3 : Kp Bh h3 := fun b o e => up b o (fun q => by rw [q, hBT] at e; cases e) (k1 _ _ (kb _ _ e))
  refine ev_ldc hc3 hcd (ev_setFrozen B kb3 hb3 hd3 fun hs t ep4 h4 o4 e4 => ev_nil (p la h4 (fun b o n e => o4 _ _ (fun q => n (by simp at q; simp [q])) (up _ _ (fun q => n (by simp [q])) (k1 _ _ e))) ⟨ps, o4 _ _ (fun q => n1 hd (by simp) (List.mem_singleton.mp q).symm) x5'⟩ ⟨⟨hs, t, ep4, e4⟩, nx L, c', ctv, oc, ?_, ?_, ?_, hcd⟩))
  · exact o4 _ _ (fun q => by rw [List.mem_singleton.mp q, hd3] at lam; exact absurd (show some (Value.type "dict") = some (Value.type "function") from congrArg (·.map (·.cls)) lam) (by decide)) lam
  · obtain ⟨c2, o2, vs, t2, y1, y2, y3, y4⟩ := x4'
    exact ⟨c2, o2, vs, t2, y1, o4 _ _ (fun q => by rw [List.mem_singleton.mp q, hd3] at y2; cases y2; cases y3) y2, y3, y4⟩
  · exact o4 _ _ (fun q => by rw [List.mem_singleton.mp q, hd3] at hc3; cases hc3; cases hcd) hc3
end Mine
open PySem PySem.W PyProof.Rows PySem.Calls
set_option maxRecDepth 100000
set_option maxHeartbeats 1000000
set_option linter.unusedVariables false
namespace Mine
variable {w : World} {A : Around} {Bh : Heap}
/-! ## the frozen book -/
theorem cev_builtinA {id : String} {args : Args} {b : Builtin} {h : Heap} {P : Value → Heap → Prop} (hq : plainId id = true) (hb : entryFor table id = some b)
    (x : Ev (model pw w) A.in1 (checkBuiltinCall id args) h fun _ h1 => Ev (model pw w) A.in1 (b args) h1 fun fin h2 => ∃ c, fin = .again c ∧ c.quiet = true ∧ CEv (model pw w) A c h2 P) : CEv (model pw w) A (.call (.builtin id) args) h P := by
  intro R s hs hQ
  refine codeAny_call_builtin hq hb (x _ _ s hs fun _ h1 tk1 y => y _ _ _ rfl fun fin h2 tk2 z => ?_)
  obtain ⟨c, rfl, q, y⟩ := z
  exact ⟨q, y _ _ rfl hQ⟩
theorem ev_bookGa (B : Base w Bh) {h : Heap} (kb : Kp Bh h) {bk dd : Addr} {es : Array DictEntry} {ep : Nat} {od : Obj} (hb : h.get? bk = some (bookO dd es ep)) (hd : h.get? dd = some od) {name : Str} {t : Tok} {fill ex : Bool} {f : Builtin.ObjectAttr.Found} {P : Value → Heap → Prop}
    (hf : findObj (K w.params) 108 (some od) name = some f) (x : Ev (model pw w) A.in1 (match f with | .value v => ret v | .bind g a => Builtin.ObjectAttr.bindTo g a (.ref bk) (.ref 108) | .missing => unsupported "no") h fun fin h2 => ∃ v, fin = .done (.ret v) ∧ handedIn v = true ∧ P v h2)
    (hm : f ≠ .missing) : Ev (model pw w) A (getAttrBy (.ref bk) (.str name t) fill ex) h P := by
  have X := B.X.keeps kb
  have I := book_at hb hd
  unfold getAttrBy
  refine Ev.holding (Ev.bind (Ev.looks I.type (Ev.bind (Ev.looks (looks_findIn X (r := some (.builtin "collections.defaultdict.__getattribute__")) (by kernel_rfl)) ?_))))
  show Ev _ _ (getAttrByItsOwn _ _ _ _ _ _) _ _
  unfold getAttrByItsOwn
  refine Ev.bind (Ev.looks (r := none) (looks_findIn X (by kernel_rfl)) ?_)
  refine Ev.bind (Ev.attempt (Ev.holding ?_))
  have eg : callGetattribute (.ref bk) (.str name t) (.builtin "collections.defaultdict.__getattribute__") ex = boundAndCalled (.builtin "collections.defaultdict.__getattribute__") (.ref bk) (.str name t) := by
    unfold callGetattribute
    rw [if_neg (by show ¬ ((ex && false) = true); simp)]
  rw [eg]
  unfold boundAndCalled
  rw [slot_dd_ga.bind]
  refine Ev.bind (Ev.pure (Ev.call (cev_builtin (b := Builtin.«object.__getattribute__») (by decide +kernel) entry_dd_ga ?_)))
  refine check_dd_ga (book_inst X hb rfl (by kernel_rfl)) ?_
  unfold Builtin.«object.__getattribute__»
  refine Ev.bind (Ev.eq (t' := pure (.ref bk, [.str name t])) rfl (Ev.pure ?_))
  refine Ev.bind (Ev.eq (t' := pure name) rfl (Ev.pure ?_))
  refine Ev.bind (Ev.looks I.type (Ev.bind (Ev.looks (looks_find X I hf) ?_)))
  cases f with
  | missing => exact absurd rfl hm
  | value v0 =>
    refine x.mono fun fin h2 z => ?_
    obtain ⟨v, e, hv, p⟩ := z
    exact ⟨v, e, by show Ev _ _ (handedOut v) _ _; rw [handedOut_of hv]; exact Ev.pure p⟩
  | bind g a =>
    refine x.mono fun fin h2 z => ?_
    obtain ⟨v, e, hv, p⟩ := z
    exact ⟨v, e, by show Ev _ _ (handedOut v) _ _; rw [handedOut_of hv]; exact Ev.pure p⟩
theorem type_df : typeOf (.builtin "collections.defaultdict.default_factory") = pure (.type "member_descriptor") := by show builtinType _ = _; rw [builtinType_eq_fast]; kernel_rfl
theorem args_mget (a b c : Value) : argsOk "member_descriptor.__get__" ⟨[a, b, c], []⟩ := by unfold argsOk; kernel_rfl
theorem isi_df {M : Model} {h : Heap} : Looks M h (isInstance (.builtin "collections.defaultdict.default_factory") (.type "member_descriptor")) true := by
  unfold isInstance
  exact (Looks.of_pure type_df).andThen (Looks.of_pure (by rw [isSubtype_type]; kernel_rfl))
/-- `book.default_factory` -/
theorem ev_factory (B : Base w Bh) {h : Heap} (kb : Kp Bh h) {bk dd : Addr} {es : Array DictEntry} {ep : Nat} (hb : h.get? bk = some (bookO dd es ep)) {P : Value → Heap → Prop} (p : P (.type "list") h) :
    Ev (model pw w) A (call (.builtin "member_descriptor.__get__") [.builtin "collections.defaultdict.default_factory", .ref bk, .ref 108]) h P := by
  have X := B.X.keeps kb
  refine Ev.call (cev_builtinA (b := Builtin.«member_descriptor.__get__») (by decide +kernel) (entryFor_of_tree (by kernel_rfl)) ?_)
  refine @ev_check_sub _ _ "member_descriptor.__get__" "member_descriptor" "__get__" (.builtin "collections.defaultdict.default_factory") [.ref bk, .ref 108] [] h _ (by decide +kernel) (.inl (by decide +kernel)) isi_df (args_mget _ _ _) ?_
  unfold Builtin.«member_descriptor.__get__» Builtin.Getset_descriptor.descrGet
  refine Ev.bind (Ev.eq (t' := pure (.builtin "collections.defaultdict.default_factory", some (.ref bk), some (.ref 108))) rfl (Ev.pure ?_))
  show Ev _ _ (Builtin.Getset_descriptor.descrCheckInstance _ _ >>= fun _ => again _) _ _
  unfold Builtin.Getset_descriptor.descrCheckInstance
  refine Ev.bind (Ev.bind (Ev.eq (t' := pure (Str.ofString "default_factory", .type "collections.defaultdict")) (by kernel_rfl) (Ev.pure ?_)))
  refine Ev.bind (Ev.looks (book_inst X hb rfl (r := true) (by kernel_rfl)) ?_)
  rw [if_neg (by decide)]
  refine Ev.pure (Ev.pure ⟨_, rfl, Code.quiet_builtin _ (by decide +kernel), ?_⟩)
  refine cev_direct (b := Builtin.«collections.defaultdict.default_factory») (by decide +kernel) (entryFor_of_tree (by kernel_rfl)) ?_
  unfold Builtin.«collections.defaultdict.default_factory»
  refine Ev.bind ?_
  unfold Builtin.Collections_defaultdict.factory? slotAt
  exact Ev.bind (Ev.bind (Ev.loadPart hb (Ev.pure (Ev.pure (ev_ret p)))))
end Mine
open PySem PySem.W PyProof.Rows PySem.Calls
set_option maxRecDepth 100000
set_option maxHeartbeats 1000000
set_option linter.unusedVariables false
namespace Mine
variable {w : World} {A : Around} {Bh : Heap}
theorem ev_method_factory (B : Base w Bh) {h : Heap} (kb : Kp Bh h) {bk dd lam : Addr} {es : Array DictEntry} {ep : Nat} (hb : h.get? bk = some (bookO dd es ep)) {hs : Int} {t : Tok} {ep2 : Nat} (hd : h.get? dd = some (dictO1 hs t ep2 (.ref lam))) {pl : Sem Bool} {P : Value × List Value → Heap → Prop} (p : P (.type "list", []) h) :
    Ev (model pw w) A (getMethod (.ref bk) "default_factory" pl) h P := by
  have X := B.X.keeps kb
  have ty := book_type (w := w) hb rfl
  unfold getMethod specialOf
  refine Ev.bind (Ev.bind (Ev.looks ty (Ev.looks (looks_findIn X (r := some (.builtin "collections.defaultdict.__getattribute__")) (by kernel_rfl)) ?_)))
  dsimp only
  rw [if_neg (by decide +kernel)]
  refine Ev.bind (Ev.bind (Ev.looks ty (Ev.looks (looks_findIn X (r := none) (by kernel_rfl)) ?_)))
  rw [if_neg (by decide)]
  refine Ev.bind (Ev.bind (Ev.looks ty (Ev.looks (looks_findIn X (r := some (.builtin "collections.defaultdict.default_factory")) (by kernel_rfl)) ?_)))
  refine Ev.bind (Ev.eq type_df (Ev.pure ?_))
  rw [if_pos (by decide)]
  refine Ev.bind ?_
  unfold getAttr
  refine Ev.bind (Ev.mkText fun tk => ev_bookGa B kb hb hd (f := .bind (.builtin "member_descriptor.__get__") (.builtin "collections.defaultdict.default_factory")) (by kernel_rfl) ?_ (by simp))
  show Ev _ _ (holding _ (call _ _) >>= ret) _ _
  exact Ev.bind (Ev.holding (ev_factory B kb hb (Ev.pure ⟨_, rfl, rfl, Ev.pure p⟩)))
theorem cev_lam (B : Base w Bh) {h : Heap} (kb : Kp Bh h) (room : Room A 2) {bk dd lam : Addr} {es : Array DictEntry} {ep : Nat} (hb : h.get? bk = some (bookO dd es ep)) (f : Frz w h bk dd lam) {key : Value} {P : Value → Heap → Prop}
    (p : ∀ a n h', Only [] h h' → h.get? a = none → h'.get? a = some (LO [] n) → P (.ref a) h') : CEv (model pw w) A (.call (.ref lam) ⟨[key], []⟩) h P := by
  intro R s hs hQ
  subst hs
  obtain ⟨⟨hs, t, ep2, e0⟩, cell, c', ctv, oc, e1, e2, e3, e4⟩ := f
  refine kla_callFunE room.lim e1 rfl rfl rfl rfl e2 ?_
  refine (BindsTo.of_eq (binds := [("key", key)]) (by rfl)) _ _ _ _ ?_
  refine wpAny_newFunctionEnv (show ∀ x ∈ lamS.names, x.2 ≠ .cell from cellFree_of rfl) (fun x hx => by rw [List.mem_singleton.mp hx]; rfl) (fun h₀ hns₀ hsb₀ => ⟨(B.nolim.keeps kb).fresh _ hsb₀, ?_⟩) rfl
  refine kla_codeExpr ?_
  have k0 : Kp s.heap h₀ := fun b o e => hsb₀.extBut b o (Nat.ne_of_lt (Heap.lt_size e)) (Heap.get?_push_of_some _ e)
  have kb0 := kb.trans' k0
  have z : Ev (model pw w) (A.deeper (newEnv lamS s.heap.objs.size mainGlobals [("self", cell)] (lamQ ++ ".<locals>.") (some lam) (.ref c') none builtinsNs)) (eval lamB (newEnv lamS s.heap.objs.size mainGlobals [("self", cell)] (lamQ ++ ".<locals>.") (some lam) (.ref c') none builtinsNs)) h₀ P := by
    show Ev _ _ (eval (.Call (.Attribute (.Name "self" _) "default_factory" _) [] [] _) _) _ _
    refine ev_mcall (he := by rfl) (hc := by rfl) ?_
    refine ev_ldf (k0 _ _ e3) e4 (ev_method_factory B kb0 (k0 _ _ hb) (k0 _ _ e0) ⟨Keeps.type, ?_⟩)
    exact ev_list0 fun a n h' o na ea => p a n h' (Only.trans (Only.of_kp k0) o) (none_of_kp' k0 na) ea
  exact z _ _ _ rfl fun v h' tk q => hQ v h' tk q
/-- `book[key]` on the frozen book -/
theorem ev_bookFrozen (B : Base w Bh) {h : Heap} (kb : Kp Bh h) (room : Room A 4) {value slice : Expr} {bk dd lam : Addr} {xs : List (Str × Nat × Addr)} {ep : Nat} (hlt : 353 < bk) (hb : h.get? bk = some (bkO w dd xs ep)) (f : Frz w h bk dd lam) {k : Str} {t : Tok} {P : Value → Heap → Prop}
    (p1 : ∀ x ∈ xs, x.1 = k → P (.ref x.2.2) h) (p2 : (∀ x ∈ xs, x.1 ≠ k) → ∀ a m h', Only [] h h' → h.get? a = none → h'.get? a = some (LO [] m) → P (.ref a) h')
    (hs : subscripted slice false (.ref bk) (.str k t) = operate [.ref bk, .str k t] (getItem (.ref bk) (.str k t)) := by with_unfolding_all rfl) : Ev (model pw w) A (subscriptTail value slice (.ref bk) (.str k t)) h P := by
  obtain ⟨⟨hsh, t0, ep2, e0⟩, fn⟩ := id f
  refine ev_bookTail B kb hb (cev_bookItem B kb hlt hb e0 p1 fun n => ?_) hs
  refine cev_miss B kb (n := 2) room.in1 hb (Nat.ne_of_gt (Nat.lt_trans (by decide) hlt)) fun A' h1 t1 q R o1 e1 => ?_
  have k1 := o1.kp
  obtain ⟨cell, c', ctv, oc, l1, _⟩ := fn
  refine ev_getattr3 B (kb.trans' k1) (k1 _ _ hb) (k1 _ _ e0) (Ev.attempt (ev_bookGa B (kb.trans' k1) (k1 _ _ hb) (k1 _ _ e0) (f := .value (.ref lam)) (by kernel_rfl) ?_ (by simp)))
  refine ev_ret ⟨rfl, .inl ⟨_, rfl, fun b o e => e, Keeps.fn (k1 _ _ l1) rfl, ?_⟩⟩
  exact cev_lam B (kb.trans' k1) R (k1 _ _ hb) (f.up k1) fun a m h2 o2 n2 e2 => p2 n a m h2 (Only.trans o1 o2) (none_of_kp' k1 n2) e2
end Mine
open PySem PySem.W PyProof.Rows PySem.Calls
set_option maxRecDepth 100000
set_option maxHeartbeats 1000000
set_option linter.unusedVariables false
namespace Mine
variable {w : World} {A : Around} {Bh : Heap}
/-! ## list(book) -/
noncomputable abbrev kiO (bk : Addr) (i n ep : Nat) : Obj := { cls := .type "dict_keyiterator", data := .fields #[.ref bk, .int i 0, .int n 0, .int ep 0] }
theorem bk_ne {bk : Addr} (hlt : 353 < bk) : (bk == sysModules) = false := by
  simp [sysModules]; exact Nat.ne_of_gt (Nat.lt_trans (by decide) hlt)
theorem ev_sgr {α : Type} {M : Model} {c : Bool} {t : Sem α} {k : Value → Sem α} {a : α} {h : Heap} {P : α → Heap → Prop} (e : t = pure a) (p : P a h) : Ev M A (if c = true then t else t.tryCatch k) h P := by
  subst e
  cases c
  · exact Ev.tryCatch (Ev.pure p)
  · exact Ev.pure p
theorem type_ki {M : Model} {h : Heap} {I bk : Addr} {i n ep : Nat} (e : h.get? I = some (kiO bk i n ep)) : Looks M h (typeOf (.ref I)) (.type "dict_keyiterator") := (Looks.ld (part := none) e).andThen .now
theorem ev_iterBook (B : Base w Bh) {h : Heap} (kb : Kp Bh h) {bk dd : Addr} {xs : List (Str × Nat × Addr)} {ep : Nat} (hlt : 353 < bk) (hb : h.get? bk = some (bkO w dd xs ep)) {P : Value → Heap → Prop}
    (p : P (.ref h.objs.size) (h.push (kiO bk 0 xs.length ep))) : Ev (model pw w) A (pyIter (.ref bk)) h P := by
  have X := B.X.keeps kb
  have ty := book_type (w := w) hb rfl
  unfold pyIter specialOf
  refine Ev.bind (Ev.bind (Ev.looks ty (Ev.looks (looks_findIn X (r := some (.builtin "dict.__iter__")) (by kernel_rfl)) ?_)))
  dsimp only
  refine Ev.bind ?_
  unfold callSpecialIfBoundUnlessNone? bindSpecialIfBound? specialOf
  refine Ev.holding (Ev.bind (Ev.bind (Ev.bind (Ev.looks ty (Ev.looks (looks_findIn X (r := some (.builtin "dict.__iter__")) (by kernel_rfl)) ?_)))))
  dsimp only
  rw [F.slot_dict_iter.bind]
  refine Ev.bind (Ev.ask (ev_sgr rfl ?_))
  dsimp only
  rw [if_neg (by decide)]
  refine Ev.bind (Ev.call ?_)
  refine cev_sub (owner := "dict") (n := "__iter__") (by decide +kernel) F.entry_dict_iter (by decide +kernel) (.inl (by decide +kernel)) (book_inst X hb rfl (by kernel_rfl)) (F.args_dict_iter_1 _) ?_
  unfold Builtin.«dict.__iter__»
  refine Ev.bind ?_
  unfold Builtin.Dict.dictSlotNone Builtin.Dict.notOrdered
  rw [if_pos (by decide)]
  refine Ev.bind ?_
  show Ev _ _ (typeOf (.ref bk) >>= _) _ _
  refine Ev.bind (Ev.looks ty ?_)
  rw [if_pos (by decide)]
  refine Ev.bind (Ev.looks (book_inst X hb rfl (r := false) (by kernel_rfl)) ?_)
  rw [if_neg (by decide)]
  refine Ev.pure (Ev.bind (Ev.eq (t' := pure (.ref bk, [])) rfl (Ev.pure (Ev.pure ?_))))
  refine Ev.bind (Ev.eq (t' := pure bk) rfl (Ev.pure (Ev.bind ?_)))
  unfold Builtin.Dict.showsAll
  rw [if_neg (by rw [bk_ne hlt]; decide)]
  refine Ev.pure (Ev.bind (ev_entries hb rfl (Ev.bind ?_)))
  unfold dictEpoch
  refine Ev.bind (Ev.loadPart hb (Ev.pure (Ev.bind ?_)))
  intro E Q s hs hQ
  subst hs
  have e : (xs.map (enE w)).toArray.size = xs.length := by simp
  rw [e]
  refine wpAny_newObj_type (hQ _ (s.heap.push (kiO bk 0 xs.length ep)) s.toks ?_) (by size_fits)
  refine ev_ret (Ev.pure ?_)
  refine Ev.bind (Ev.bind (Ev.looks (type_ki (Heap.get?_push_size _ rfl)) (Ev.eq F.slot_dict_keyiterator_next.lookup (Ev.pure (Ev.pure p)))))
theorem entry_dlen : entryFor table "dict.__len__" = some Builtin.«dict.__len__» := entryFor_of_tree (by kernel_rfl)
theorem cev_lenBook (B : Base w Bh) {h : Heap} (kb : Kp Bh h) {bk dd : Addr} {xs : List (Str × Nat × Addr)} {ep : Nat} (hlt : 353 < bk) (hz : xs.length < 64) (hb : h.get? bk = some (bkO w dd xs ep)) {P : Value → Heap → Prop} (p : ∀ t, P (.int xs.length t) h) :
    CEv (model pw w) A (.call (.builtin "len") ⟨[.ref bk], []⟩) h P := by
  have X := B.X.keeps kb
  have ty := book_type (w := w) hb rfl
  refine cev_builtin (b := Builtin.«len») (by decide +kernel) (entryFor_of_tree (by kernel_rfl)) ?_
  refine Ev.looks (Looks.of_peek X (r := ()) (by kernel_rfl)) ?_
  unfold Builtin.«len»
  refine Ev.bind (Ev.eq (t' := pure (.ref bk)) rfl (Ev.pure (Ev.bind ?_)))
  unfold callSpecial? specialOf
  refine Ev.bind (Ev.bind (Ev.looks ty (Ev.looks (looks_findIn X (r := some (.builtin "dict.__len__")) (by kernel_rfl)) ?_)))
  refine Ev.holding ?_
  rw [F.slot_dict_len.bind]
  refine Ev.bind (Ev.pure (Ev.bind (Ev.call ?_)))
  refine cev_sub (owner := "dict") (n := "__len__") (by decide +kernel) entry_dlen (by decide +kernel) (.inl (by decide +kernel)) (book_inst X hb rfl (by kernel_rfl)) (by unfold argsOk; kernel_rfl) ?_
  unfold Builtin.«dict.__len__»
  refine Ev.bind ?_
  unfold Builtin.Dict.dictSlotNone Builtin.Dict.notOrdered
  rw [if_neg (by decide)]
  refine Ev.bind (Ev.pure (Ev.bind (Ev.eq (t' := pure (.ref bk, [])) rfl (Ev.pure (Ev.pure ?_)))))
  refine Ev.bind (Ev.eq (t' := pure bk) rfl (Ev.pure (Ev.bind ?_)))
  unfold dictSize
  refine Ev.bind (ev_entries hb rfl (Ev.pure (Ev.bind ?_)))
  unfold Builtin.Dict.pendingCount
  rw [if_neg (by rw [bk_ne hlt]; decide)]
  have e : (((xs.map (enE w)).toArray.size : Nat) : Int) + ((0 : Nat) : Int) = xs.length := by simp
  refine Ev.pure ?_
  rw [e]
  unfold retInt
  refine Ev.bind (Ev.mkInt fun t => Ev.pure ⟨_, rfl, Ev.pure ?_⟩)
  refine Ev.bind (Ev.holding (Ev.eq (t' := pure (xs.length : Int)) rfl (Ev.pure (Ev.bind ?_))))
  refine fun E Q s hs hQ => wpAny_letGo ?_
  subst hs
  refine hQ () s.heap s.toks ?_
  rw [if_neg (by omega), if_neg (by omega)]
  exact Ev.bind (Ev.mkInt fun t => Ev.pure ⟨_, rfl, p t⟩)
end Mine
open PySem PySem.W PyProof.Rows PySem.Calls
set_option maxRecDepth 100000
set_option maxHeartbeats 1000000
set_option linter.unusedVariables false
namespace Mine
variable {w : World} {A : Around} {Bh : Heap}
theorem ev_hintBook (B : Base w Bh) {h : Heap} (kb : Kp Bh h) {bk dd : Addr} {xs : List (Str × Nat × Addr)} {ep : Nat} (hlt : 353 < bk) (hz : xs.length < 64) (hb : h.get? bk = some (bkO w dd xs ep)) {P : Bool → Heap → Prop} (p : ∀ b, P b h) :
    Ev (model pw w) A (Builtin.List.listLengthHint (.ref bk)) h P := by
  have X := B.X.keeps kb
  have ty := book_type (w := w) hb rfl
  unfold Builtin.List.listLengthHint specialOf
  refine Ev.bind (Ev.bind (Ev.looks ty (Ev.looks (looks_findIn X (r := some (.builtin "dict.__len__")) (by kernel_rfl)) ?_)))
  generalize hid : ("dict.__len__" : String) = id0
  dsimp only
  rw [show splitId id0 = some ("dict", "__len__") from by subst hid; decide +kernel]
  dsimp only
  refine Ev.bind (Ev.looks (book_inst X hb rfl (r := true) (by kernel_rfl)) ?_)
  rw [if_neg (by decide)]
  subst hid
  rw [if_pos (by decide +kernel)]
  refine Ev.bind (Ev.looks ty ?_)
  refine Ev.bind (Ev.call (cev_lenBook B kb hlt hz hb fun t => Ev.bind (Ev.eq (t' := pure (some (xs.length : Int))) rfl (Ev.pure (Ev.pure (p _))))))
theorem ev_tnw {prog : Program} {h : Heap} {I bk : Addr} {i n ep : Nat} (hI : h.get? I = some (kiO bk i n ep)) {P : String → Heap → Prop} (p : P "dict_keyiterator" h) : Ev (model prog w) A (typeNameOfWhole (.ref I)) h P := by
  intro E Q s hs hQ
  subst hs
  exact wpAny_typeNameOfWhole_keyiter ⟨_, hI, rfl⟩ (hQ _ s.heap s.toks p)
theorem ev_one {prog : Program} {h : Heap} {I bk : Addr} {i n ep : Nat} {types : List String} (hI : h.get? I = some (kiO bk i n ep)) {P : Bool → Heap → Prop} (p : P (types.any fun t => [Value.type "dict_keyiterator", Value.type "object"].contains (.type t)) h) : Ev (model prog w) A (Builtin.Dict_items.isOneOf (.ref I) types) h P := by
  intro E Q s hs hQ
  subst hs
  exact wpAny_isOneOf_keyiter ⟨_, hI, rfl⟩ (hQ _ s.heap s.toks p)
theorem ev_nextKey {prog : Program} {h : Heap} {bk dd I : Addr} {xs : List (Str × Nat × Addr)} {ep i : Nat} (hb : h.get? bk = some (bkO w dd xs ep)) (hI : h.get? I = some (kiO bk i xs.length ep)) {x : Str × Nat × Addr} (hx : xs[i]? = some x) {P : Option Value → Heap → Prop}
    (p : ∀ h', Only [I] h h' → h'.get? I = some (kiO bk (i + 1) xs.length ep) → P (some (.str x.1 x.2.1)) h') : Ev (model prog w) A (pyNext (.ref I)) h P := by
  unfold pyNext
  refine Ev.bind (Ev.attempt ?_)
  unfold callSpecial? specialOf
  refine Ev.bind (Ev.bind (Ev.looks (type_ki hI) (Ev.eq F.slot_dict_keyiterator_next.lookup (Ev.pure ?_))))
  refine Ev.holding ?_
  rw [F.slot_dict_keyiterator_next.bind]
  refine Ev.bind (Ev.pure (Ev.bind (ev_slot F.slot_dict_keyiterator_next (fun s hs => by subst hs; exact ⟨_, hI, rfl⟩) F.entry_dict_keyiterator_next (F.args_dict_keyiterator_next_1 _) ?_)))
  unfold Builtin.«dict_keyiterator.__next__»
  show Ev _ _ (Builtin.Dict_items.slot0 "__next__" _ >>= _) _ _
  refine Ev.bind (Ev.eq (t' := pure (.ref I)) rfl (Ev.pure ?_))
  refine Ev.bind (Ev.bind ?_)
  show Ev _ _ (typeNameOfWhole (.ref I) >>= fun n => pure (if Builtin.Dict_items.ownsTuple n then 2 else 0)) _ _
  refine Ev.bind (ev_tnw hI (Ev.pure ?_))
  rw [if_neg (by decide)]
  refine Ev.bind ?_
  unfold fieldsOf
  refine Ev.bind (Ev.loadPart hI (Ev.pure ?_))
  show Ev _ _ (if (Value.ref bk == Value.none) = true then _ else _) _ _
  rw [if_neg (by exact Bool.false_ne_true)]
  refine Ev.bind (Ev.eq (t' := pure bk) rfl (Ev.pure (Ev.bind (ev_entries hb rfl ?_))))
  have e : (xs.map (enE w)).toArray.size = xs.length := by simp
  rw [e, if_neg (by simp)]
  refine Ev.bind (Ev.eq (t' := pure bk) rfl (Ev.pure (Ev.bind ?_)))
  unfold dictEpoch
  refine Ev.bind (Ev.loadPart hb (Ev.pure ?_))
  rw [if_neg (by simp)]
  refine Ev.pure ?_
  dsimp only
  rw [if_neg (by omega), show (xs.map (enE w)).toArray[(i : Int).toNat]? = some (enE w x) by simp [hx]]
  refine Ev.bind ?_
  show Ev _ _ (typeNameOfWhole (.ref I) >>= fun n => pure (if Builtin.Dict_items.ownsTuple n then 2 else 0)) _ _
  refine Ev.bind (ev_tnw hI (Ev.pure (Ev.bind (ev_one hI ?_))))
  rw [if_neg (by decide), if_neg (by decide)]
  refine Ev.bind ?_
  have g1 := Heap.get?_update_self (Obj.mapFields (·.setIfInBounds 1 (rawInt ((i : Int) + 1)))) hI rfl
  have o1 : Only [I] h (h.update I (Obj.mapFields (·.setIfInBounds 1 (rawInt ((i : Int) + 1))))) := only_update
  intro E Q s hs hQ
  subst hs
  refine wpAny_setField hI rfl (by simp) (hQ () _ s.toks ?_)
  generalize s.heap.update I (Obj.mapFields (·.setIfInBounds 1 (rawInt ((i : Int) + 1)))) = h1 at g1 o1 ⊢
  have g2 : h1.get? I = some (kiO bk (i + 1) xs.length ep) := by rw [g1]; simp [Obj.mapFields, rawInt]
  refine Ev.bind (Ev.holding ?_)
  show Ev _ _ (Builtin.Dict_items.isOneOf (.ref I) _ >>= _) _ _
  refine Ev.bind (ev_one g2 ?_)
  rw [if_pos (by decide)]
  exact Ev.pure (ev_ret (Ev.pure (Ev.pure (p h1 o1 g2))))
theorem er_slot {prog : Program} {T : String} {name : Str} {id : String} {b : Builtin} {self : Value} {rest : List Value} {h : Heap} {P : Value → Heap → Prop} (sl : Slot T name id) (hT : ∀ s : Shared, s.heap = h → s.TypeIs self T) (hb : entryFor table id = some b)
    (ha : argsOk id ⟨self :: rest, []⟩) (x : Er (model prog w) A.in1 (b ⟨self :: rest, []⟩) h P) : Er (model prog w) A (call (.builtin id) (self :: rest)) h P := by
  intro E Q s hs hE
  exact wpAny_call (codeAny_call_builtin sl.plain hb (sl.check _ _ _ _ _ _ _ _ (hT s hs) ha (x _ _ s hs fun e h2 tk z => hE e h2 tk z)))
theorem ev_endKey {prog : Program} {h : Heap} {bk dd I : Addr} {xs : List (Str × Nat × Addr)} {ep : Nat} (hh : A.handled = none) (hb : h.get? bk = some (bkO w dd xs ep)) (hI : h.get? I = some (kiO bk xs.length xs.length ep)) {P : Option Value → Heap → Prop}
    (p : ∀ h', Only [I] h h' → P none h') : Ev (model prog w) A (pyNext (.ref I)) h P := by
  unfold pyNext
  refine Ev.bind (Ev.caught ?_)
  unfold callSpecial? specialOf
  refine Er.after (Ev.bind (Ev.looks (type_ki hI) (Ev.eq F.slot_dict_keyiterator_next.lookup (Ev.pure ?_))))
  refine Er.holding ?_
  rw [F.slot_dict_keyiterator_next.bind]
  refine Er.after (Ev.pure (Er.bind (er_slot F.slot_dict_keyiterator_next (fun s hs => by subst hs; exact ⟨_, hI, rfl⟩) F.entry_dict_keyiterator_next (F.args_dict_keyiterator_next_1 _) ?_)))
  unfold Builtin.«dict_keyiterator.__next__»
  show Er _ _ (Builtin.Dict_items.slot0 "__next__" _ >>= _) _ _
  refine Er.after (Ev.eq (t' := pure (.ref I)) rfl (Ev.pure ?_))
  refine Er.after (Ev.bind ?_)
  show Ev _ _ (typeNameOfWhole (.ref I) >>= fun n => pure (if Builtin.Dict_items.ownsTuple n then 2 else 0)) _ _
  refine Ev.bind (ev_tnw hI (Ev.pure ?_))
  rw [if_neg (by decide)]
  refine Ev.bind ?_
  unfold fieldsOf
  refine Ev.bind (Ev.loadPart hI (Ev.pure ?_))
  show Ev _ _ (if (Value.ref bk == Value.none) = true then _ else _) _ _
  rw [if_neg (by exact Bool.false_ne_true)]
  refine Ev.bind (Ev.eq (t' := pure bk) rfl (Ev.pure (Ev.bind (ev_entries hb rfl ?_))))
  have e : (xs.map (enE w)).toArray.size = xs.length := by simp
  rw [e, if_neg (by simp)]
  refine Ev.bind (Ev.eq (t' := pure bk) rfl (Ev.pure (Ev.bind ?_)))
  unfold dictEpoch
  refine Ev.bind (Ev.loadPart hb (Ev.pure ?_))
  rw [if_neg (by simp)]
  refine Ev.pure ?_
  dsimp only
  rw [if_neg (by omega), show (xs.map (enE w)).toArray[(xs.length : Int).toNat]? = none by simp]
  refine Er.after ?_
  show Ev _ _ (typeNameOfWhole (.ref I) >>= fun n => pure (if Builtin.Dict_items.ownsTuple n then 2 else 0)) _ _
  refine Ev.bind (ev_tnw hI (Ev.pure ?_))
  rw [if_neg (by decide)]
  refine Er.after ?_
  intro E Q s hs hQ
  subst hs
  refine wpAny_setField hI rfl (by simp) (hQ () _ s.toks ?_)
  have o1 : Only [I] s.heap (s.heap.update I (Obj.mapFields (·.setIfInBounds 0 .none))) := only_update
  generalize s.heap.update I (Obj.mapFields (·.setIfInBounds 0 .none)) = h1 at o1 ⊢
  intro E2 Q2 s2 hs2 hE
  subst hs2
  refine wpAny_bind ?_
  simp only [newExc, newTuple]
  refine wpAny_bind (wpAny_newObj_type ?_ (by size_fits))
  refine wpAny_bind (m := firstArgMember _ _) (wpAny_of_eq (a := Value.none) (by first | rfl | (simp only [firstArgMember]; rfl)) ?_)
  refine wpAny_newObj_type ?_ (by size_fits)
  simp only [raiseNew]
  refine wpAny_bind (wpAny_handled ?_)
  rw [show A.in1.handled = none from hh]
  refine wpAny_bind (wpAny_pure (wpAny_throw (hE _ _ s2.toks ?_)))
  refine Ev.bind ?_
  intro E3 Q3 s3 hs3 hQ3
  refine wpAny_isInstance (T := "StopIteration") (b := true) ⟨_, by rw [hs3]; exact Heap.get?_push_size _ rfl, rfl⟩ isSubtype_stop (hQ3 _ _ s3.toks ?_)
  dsimp only
  rw [if_pos rfl, hs3]
  exact Ev.pure (p _ (o1.trans ((only_push.trans only_push).sub fun b q => nomatch q)))
end Mine
open PySem PySem.W PyProof.Rows PySem.Calls
set_option maxRecDepth 100000
set_option maxHeartbeats 1000000
set_option linter.unusedVariables false
namespace Mine
variable {w : World} {A : Around} {Bh : Heap}
noncomputable abbrev BkIt (w : World) (bk dd I : Addr) (xs : List (Str × Nat × Addr)) (ep i : Nat) (h : Heap) : Prop := h.get? I = some (kiO bk i xs.length ep) ∧ h.get? bk = some (bkO w dd xs ep)
noncomputable abbrev KeyAt (xs : List (Str × Nat × Addr)) (i : Nat) (v : Value) : Prop := ∃ x, xs[i]? = some x ∧ v = .str x.1 x.2.1
theorem walks_book (hh : A.handled = none) {bk dd I : Addr} {xs : List (Str × Nat × Addr)} {ep : Nat} (hne : bk ≠ I) : Walks pw w A I [I, bk] [I] xs.length (KeyAt xs) (BkIt w bk dd I xs ep) where
  sub := fun b hb => by simp at hb; simp [hb]
  frame := fun _ _ _ st hk => ⟨hk I (by simp) _ st.1, hk bk (by simp) _ st.2⟩
  item := fun i s Q E hi st hQ =>
    ev_nextKey st.2 st.1 (List.getElem?_eq_getElem hi) (P := fun r h' => ∃ x h2, xs[i]? = some x ∧ r = some (.str x.1 x.2.1) ∧ h2 = h' ∧ BkIt w bk dd I xs ep (i + 1) h2 ∧ Only [I] s.heap h2)
      (fun h' o e => ⟨_, h', List.getElem?_eq_getElem hi, rfl, rfl, ⟨e, o _ _ (nin1 hne) st.2⟩, o⟩) E Q s rfl
      fun r h' tk ⟨x, h2, hx, er, eh, st', o⟩ => by
        subst er; subst eh
        exact hQ _ _ tk ⟨x, hx, rfl⟩ st' o
  done := fun s Q E st hQ => ev_endKey hh st.2 st.1 (P := fun r h' => r = none ∧ Only [I] s.heap h') (fun h' o => ⟨rfl, o⟩) E Q s rfl fun r h' tk ⟨er, o⟩ => by subst er; exact hQ h' tk o
  self := fun i s Q E st hQ => wpAny_pyIter_keyiter ⟨_, st.1, rfl, rfl⟩ hQ
theorem ev_listBook (B : Base w Bh) {h : Heap} (kb : Kp Bh h) (hh : A.handled = none) {bk dd : Addr} {xs : List (Str × Nat × Addr)} {ep : Nat} (hlt : 353 < bk) (hz : xs.length < 64) (hb : h.get? bk = some (bkO w dd xs ep)) {P : Value → Heap → Prop}
    (p : ∀ D h' vs c, Only [] h h' → h.get? D = none → h'.get? D = some (LO vs c) → ItemsOf (KeyAt xs) vs.toArray xs.length → P (.ref D) h') : Ev (model pw w) A (call (.type "list") [.ref bk]) h P := by
  intro E Q s hs hQ
  subst hs
  have hzz : xs.length ≤ sizeLine := by rw [sizeLine_eq]; omega
  refine callType_codes (Q₁ := fun obj s₁ => obj = .ref s.heap.objs.size ∧ s₁ = { s with heap := s.heap.push { cls := .type "list", data := .seq #[] } }) F.called_list (F.typeCall_list_1 _) F.entry_list_init
    (code_list_new _ ⟨rfl, rfl⟩) fun obj s₁ h₁ => ?_
  obtain ⟨rfl, rfl⟩ := h₁
  have hS : (s.heap.push { cls := .type "list", data := .seq #[] }).get? s.heap.objs.size = some { cls := .type "list", data := .seq #[] } := Heap.get?_push_size _ rfl
  have hbS : bk ≠ s.heap.objs.size := Nat.ne_of_lt (Heap.lt_size hb)
  refine ⟨⟨_, hS, rfl⟩, F.args_list_init_2 _ _, ?_⟩
  show wpAny _ A.in1.in1 (do let old ← Builtin.List.listItems (.ref s.heap.objs.size); Builtin.List.listUpdate (.ref s.heap.objs.size) (fun _ => #[]); letGo old.toList.reverse; Builtin.List.listExtendWith (.ref s.heap.objs.size) (.ref bk) .none) _ _ _
  refine wpAny_bind ?_
  unfold Builtin.List.listItems
  refine wpAny_bind (wpAny_seqItems hS rfl (wpAny_pure ?_))
  show wpAny _ _ (updateSeq s.heap.objs.size (fun _ => #[]) >>= fun _ => letGo (#[] : Array Value).toList.reverse >>= fun _ => Builtin.List.listExtendWith (.ref s.heap.objs.size) (.ref bk) .none) _ _ _
  refine wpAny_bind (wpAny_updateSeq hS rfl (wpAny_bind (wpAny_letGo ?_)))
  have hS2 := Heap.get?_update_self (Obj.mapSeq (fun _ => (#[] : Array Value))) hS rfl
  have k2 : Only [] s.heap ((s.heap.push { cls := .type "list", data := .seq #[] }).update s.heap.objs.size (Obj.mapSeq (fun _ => (#[] : Array Value)))) :=
    fun b o _ e => (Heap.get?_update_other _ _ (Nat.ne_of_gt (Heap.lt_size e))).trans (Heap.get?_push_of_some _ e)
  have nS : s.heap.get? s.heap.objs.size = none := Heap.get?_none_of_le (Nat.le_refl _)
  generalize s.heap.objs.size = S at hS2 k2 hbS nS ⊢
  dsimp only
  generalize (s.heap.push { cls := .type "list", data := .seq #[] }).update S (Obj.mapSeq (fun _ => (#[] : Array Value))) = h2 at hS2 k2 ⊢
  have kb2 := kb.trans' k2.kp
  have hb2 := k2.kp _ _ hb
  unfold Builtin.List.listExtendWith
  refine wpAny_bind ((book_type (w := w) hb2 rfl).here ?_)
  rw [if_neg (by simp [Builtin.List.listSameRef]; exact fun q => hbS q.symm)]
  refine wpAny_bind (ev_iterBook B kb2 hlt hb2 (P := fun v h3 => v = .ref h2.objs.size ∧ h3 = h2.push (kiO bk 0 xs.length ep)) ⟨rfl, rfl⟩ _ _ _ rfl fun v h3 tk3 z => ?_)
  obtain ⟨rfl, rfl⟩ := z
  have hI : (h2.push (kiO bk 0 xs.length ep)).get? h2.objs.size = some (kiO bk 0 xs.length ep) := Heap.get?_push_size _ rfl
  have k3 : ∀ b o, h2.get? b = some o → (h2.push (kiO bk 0 xs.length ep)).get? b = some o := fun b o e => Heap.get?_push_of_some _ e
  have hIS : S ≠ h2.objs.size := Nat.ne_of_lt (Heap.lt_size hS2)
  have hbI : bk ≠ h2.objs.size := Nat.ne_of_lt (Heap.lt_size hb2)
  have nI : s.heap.get? h2.objs.size = none := by
    cases q : s.heap.get? h2.objs.size with
    | none => rfl
    | some o => exact absurd (Heap.lt_size (k2.kp _ _ q)) (Nat.lt_irrefl _)
  have hb3 := k3 _ _ hb2
  have hS3 := k3 _ _ hS2
  have k23 : ∀ b o, s.heap.get? b = some o → (h2.push (kiO bk 0 xs.length ep)).get? b = some o := fun b o e => k3 _ _ (k2.kp _ _ e)
  generalize h2.objs.size = I at hI hIS hbI nI ⊢
  generalize h2.push (kiO bk 0 xs.length ep) = h3 at hI hb3 hS3 k23 ⊢
  refine wpAny_bind (wpAny_holding (ev_hintBook B (fun b o e => k23 _ _ (kb _ _ e)) hlt hz hb3 (P := fun _ h4 => h4 = h3) (fun _ => rfl) _ _ _ rfl fun b h4 tk4 e => ?_))
  subst e
  have key : ∀ (c₁ tk : Nat) (h5 : Heap), h5.get? I = some (kiO bk 0 xs.length ep) → h5.get? bk = some (bkO w dd xs ep) → (∀ b o, s.heap.get? b = some o → h5.get? b = some o) → h5.get? S = some { cls := .type "list", data := .seq #[] c₁ } → 
      codeAny (model pw w) A.in1 (.builtin "list.extend.loop" ⟨[.ref S, .ref I, .none], []⟩) (wants (fun r s₂ => r = .none ∧ Q (.ref S) s₂) E) { s with heap := h5, toks := tk } := by
    intro c₁ tk h5 g1 g2 g3 g4
    refine codeAny_extend_loopS (walks_book (ep := ep) (dd := dd) (A := A.in1.in1) hh hbI).toS hzz S (by simp; exact ⟨hIS, fun q => hbS q.symm⟩) .none xs.length 0 _ #[] c₁ rfl (Nat.zero_le _) ⟨g1, g2⟩ g4 (ItemsOf.nil _) fun s' acc' c' hm hS' hacc => ?_
    rw [Moved.eq_with hm]
    refine ⟨rfl, hQ _ s'.heap s'.toks (p S s'.heap acc'.toList c' (fun b o _ e => hm.heap b o (fun q => ?_) (g3 _ _ e)) nS (by simpa using hS') (by simpa using hacc))⟩
    simp at q
    rcases q with rfl | rfl
    · rw [nS] at e; cases e
    · rw [nI] at e; cases e
  refine wpAny_ite_split (fun _ => ?_) (fun _ => wpAny_pure ⟨plainId_quiet F.plain_extend_loop _, key _ _ _ hI hb3 k23 hS3⟩)
  refine wpAny_bind (wpAny_rule (wpAny_bind ?_))
  show wpAny _ _ (updateSeq S (·.push .none) >>= fun _ => updateSeq S (·.pop)) _ _ _
  refine wpAny_bind (wpAny_updateSeq hS3 rfl ?_)
  have hS4 := Heap.get?_update_self (Obj.mapSeq (·.push Value.none)) hS3 rfl
  refine wpAny_updateSeq (hz := by seq_fits) hS4 rfl ?_
  have hS5 := Heap.get?_update_self (Obj.mapSeq (·.pop)) hS4 rfl
  have oth : ∀ b o, b ≠ S → h4.get? b = some o → ((h4.update S (Obj.mapSeq (·.push Value.none))).update S (Obj.mapSeq (·.pop))).get? b = some o := fun b o hb e => (Heap.get?_update_other _ _ (Ne.symm hb)).trans ((Heap.get?_update_other _ _ (Ne.symm hb)).trans e)
  exact wpAny_pure ⟨plainId_quiet F.plain_extend_loop _, key _ _ _ (oth _ _ hIS.symm hI) (oth _ _ hbS hb3) (fun b o e => oth _ _ (fun q => by rw [q, nS] at e; cases e) (k23 _ _ e)) hS5⟩
end Mine
open PySem PySem.W PyProof.Rows PySem.Calls
set_option maxRecDepth 100000
set_option maxHeartbeats 4000000
set_option linter.unusedVariables false
namespace Mine
variable {w : World} {A : Around} {Bh : Heap}
/-! ## lists joined, cut; items of tuples -/
theorem ev_addl {prog : Program} {l b : Addr} {xs ys : List Value} {n k : Nat} {h : Heap} {P : Value → Heap → Prop} (hl : h.get? l = some (LO xs n)) (hb : h.get? b = some (LO ys k)) (hz : xs.length + ys.length < 1000)
    (p : ∀ D h', Only [] h h' → h.get? D = none → h'.get? D = some (LO (xs ++ ys) 0) → P (.ref D) h') : Ev (model prog w) A (binaryOp .Add (.ref l) (.ref b)) h P := by
  intro E Q s hs hQ
  subst hs
  refine PySem.P.add_list hl hb (hQ _ _ s.toks (p _ _ only_push (Heap.get?_none_of_le (Nat.le_refl _)) ?_)) (by simp; exact Nat.le_trans (Nat.le_of_lt hz) (by decide))
  rw [Heap.get?_push_size _ rfl]
  simp
theorem ev_extend {prog : Program} {l b : Addr} {xs ys : List Value} {n k : Nat} {h : Heap} {P : Value → Heap → Prop} (hl : h.get? l = some (LO xs n)) (hb : h.get? b = some (LO ys k)) (hz : xs.length + ys.length < 1000)
    (p : ∀ h' n', Only [l] h h' → h'.get? l = some (LO (xs ++ ys) n') → P .none h') : Ev (model prog w) A (call (.builtin "list.extend") [.ref l, .ref b]) h P := by
  intro E Q s hs hQ
  subst hs
  have hs1 : 1000 ≤ sizeLine := by decide
  refine call_meets PySem.F.slot_list_extend ⟨_, hl, rfl⟩ PySem.F.entry_list_extend (PySem.F.args_list_extend_2 _ _) (PySem.AutoSeq1.list_extend_list_list_0 l xs.toArray n b ys.toArray k ?_ (by simp; omega) (by simp; omega)) ⟨hl, hb, ?_⟩
  · have : Builtin.List.listTooLong (xs.toArray.size + ys.toArray.size) = false := by
      unfold Builtin.List.listTooLong
      simp
      omega
    rw [this]; simp
  · obtain ⟨c, hc⟩ : ∃ c, (s.heap.update l (Obj.mapSeq fun x => x ++ ys.toArray)).get? l = some (seqObj "list" (xs.toArray ++ ys.toArray) c) := ⟨_, get?_update_seq hl _⟩
    refine hQ _ _ s.toks (p _ c only_update ?_)
    rw [hc]
    simp [PySem.W.listOf, seqObj]
theorem ev_item_tup {prog : Program} {value slice : Expr} {t : Addr} {xs : List Value} {i : Nat} {u : Tok} {x : Value} {h : Heap} {P : Value → Heap → Prop} (ht : h.get? t = some (TO xs)) (hi : i < 1000) (hx : xs[i]? = some x) (p : P x h)
    (hs : subscripted slice false (.ref t) (.int i u) = operate [.ref t, .int i u] (getItem (.ref t) (.int i u)) := by with_unfolding_all rfl) : Ev (model prog w) A (subscriptTail value slice (.ref t) (.int i u)) h P := by
  refine ev_tail (T := "tuple") (fun s hs => by subst hs; exact ⟨_, ht, rfl⟩) PySem.F.slot_tuple_getitem.lookup ?_ hs
  intro E Q s hs' hQ
  subst hs'
  have hlt : i < xs.length := (List.getElem?_eq_some_iff.mp hx).1
  refine PyProof.Rows.getItem_tuple (j := i) (x := x) ⟨_, ht, rfl, 0, rfl⟩ (by omega) (by omega) ?_ (by simpa using hx) (hQ _ _ s.toks p)
  unfold seqIndex?
  simp
  omega
theorem ev_tail_lslice0 {prog : Program} {value slice : Expr} {l a : Addr} {xs : List Value} {k : Nat} {u : Tok} {h : Heap} {P : Value → Heap → Prop} (hl : h.IsList l xs.toArray) (ha : h.get? a = some (sliceO none (some ((k : Int), u)))) (hz : xs.length < 1000)
    (p : ∀ D h', Only [] h h' → h.get? D = none → h'.get? D = some (LO (xs.take k) 0) → P (.ref D) h')
    (hs : subscripted slice false (.ref l) (.ref a) = operate [.ref a, .ref l] (getItem (.ref l) (.ref a)) := by with_unfolding_all rfl) : Ev (model prog w) A (subscriptTail value slice (.ref l) (.ref a)) h P := by
  refine ev_tail (T := "list") (fun s hs => by subst hs; obtain ⟨o, ho, hc, _⟩ := hl; exact ⟨o, ho, hc⟩) slot_list_getitem.lookup ?_ hs
  intro E Q s hs' hQ
  subst hs'
  refine wpAny_getItem_list_slice (lo := none) (hi := some (k : Int)) (st := none) hl ⟨_, ha, rfl, rfl⟩ .none (.int _ _) .none (by simp) (hQ _ _ s.toks (p _ _ only_push (Heap.get?_none_of_le (Nat.le_refl _)) ?_)) (by simp; exact Nat.le_trans (Nat.le_of_lt hz) (by decide))
  rw [Heap.get?_push_size _ rfl]
  have e : (xs.drop 0).take (clipAt xs.toArray.size (k : Int) - 0) = xs.take k := by
    rw [clipAt_nat, List.drop_zero, Nat.sub_zero, List.size_toArray]
    exact List.take_eq_take_iff.mpr (Nat.min_eq_left (Nat.min_le_right _ _))
  rw [slicePick_plain]
  show some (LO ((xs.drop 0).take (clipAt xs.toArray.size (k : Int) - 0)) 0) = _
  rw [e]
theorem ev_tail_lslice {prog : Program} {value slice : Expr} {l a : Addr} {xs : List Value} {n k : Nat} {u : Tok} {h : Heap} {P : Value → Heap → Prop} (hl : h.get? l = some (LO xs n)) (ha : h.get? a = some (sliceO none (some ((k : Int), u)))) (hz : xs.length < 1000)
    (p : ∀ D h', Only [] h h' → h.get? D = none → h'.get? D = some (LO (xs.take k) 0) → P (.ref D) h')
    (hs : subscripted slice false (.ref l) (.ref a) = operate [.ref a, .ref l] (getItem (.ref l) (.ref a)) := by with_unfolding_all rfl) : Ev (model prog w) A (subscriptTail value slice (.ref l) (.ref a)) h P :=
  ev_tail_lslice0 (PySem.IsL.isList (n := n) hl) ha hz p hs
noncomputable def aloneOf (as bs : List (Str × Str)) : List (Str × Str) := sortC cP (as.filter (fun p => !((bs.map (·.1)).any (· == p.1))) ++ bs.filter (fun p => !((as.map (·.1)).any (· == p.1))))
/-! ## `_law_due_alone` -/
theorem SeqL.append {α : Type} {R : Heap → Value → α → Prop} {h : Heap} {xs ys : List Value} {as bs : List α} (a : SeqL R h xs as) (b : SeqL R h ys bs) : SeqL R h (xs ++ ys) (as ++ bs) := by
  induction a with
  | nil => exact b
  | cons r _ ih => exact .cons r ih
theorem flat_one {α β : Type} {f : α → β} : ∀ {as : List α}, as.flatMap (fun a => [f a]) = as.map f
  | [] => rfl
  | a :: as => by rw [List.flatMap_cons, flat_one]; rfl
theorem flat_filter {α : Type} {f : α → Bool} : ∀ {as : List α}, as.flatMap (fun a => if f a then [a] else []) = as.filter f
  | [] => rfl
  | a :: as => by rw [List.flatMap_cons, flat_filter, List.filter_cons]; cases f a <;> rfl
theorem due_alone_C (B : Base w Bh) {h : Heap} (kb : Kp Bh h) (room : Room A 5) {l r : Addr} {xs ys : List Value} {n k : Nat} {as bs : List (Str × Str)} (hl : h.get? l = some (LO xs n)) (hr : h.get? r = some (LO ys k)) {gi : Heap} (kgi : Kp gi h) (ra : SeqL PR gi xs as) (rb : SeqL PR gi ys bs) (ha : as.length < 30) (hb : bs.length < 30)
    {P : Value → Heap → Prop} (p : ∀ D h' zs k, Only [] h h' → h.get? D = none → h'.get? D = some (LO zs k) → SeqL PR gi zs (aloneOf as bs) → P (.ref D) h') :
    CEv (model pw w) A (.call (.ref 331) ⟨[.ref l, .ref r], []⟩) h P := by
  refine CEv.fngc B kb (n := 4) room kp_all (fa := 331) (c := 330) [("left", .ref l), ("right", .ref r)] rfl rfl rfl rfl rfl rfl rfl (fun s hs => BindsTo.of_eq (by rfl)) (fun L => by rfl) ?_
  intro L h₁ Rm k1 nL F CC
  obtain ⟨oc1, hc1, dc1, _, nc1, cL1, cg1⟩ := CC "lefts" (nx L) (by rfl)
  obtain ⟨oc2, hc2, dc2, _, nc2, cL2, cg2⟩ := CC "rights" (nx L + 1) (by rfl)
  have N : Nw (hideAll h []) L h₁ [(nx L, oc1), (nx L + 1, oc2)] := (Nw.nil.cons hc2 cL2 cg2).cons hc1 cL1 cg1
  have kgh : Kp gi (hideAll h []) := kgi.trans' kp_all
  have nn : ∀ {a b : Addr} {o : Obj} {h : Heap}, h.get? a = some o → h.get? b = none → b ≠ a := fun e1 e2 q => by rw [q, e1] at e2; cases e2
  refine ev_cons (ev_assign (ev_lc (cl := []) (ev_ld F rfl ?_)))
  refine lcomp1 (R := fun _ v p => PR gi v p) (R' := SR) (f := fun p => [p.1]) ownTuple Rm.handled F N (k1 _ _ hl) ra (by rw [flat_one, List.length_map]; omega) ?_ ?_
  · intro C c0 a v h3 m ha' rv o3 kE F3 km _
    refine ev_asg_PR Rm.handled F3 Nw.nil (rv.up (kgh.trans' kE)) fun h4 t u F4 N4 => ev_tests0 ?_
    refine ift ?_
    exact ev_ld F4 rfl ⟨a.1, _, rfl, F4, trivial, trivial, fun _ _ _ => ⟨t, rfl⟩⟩
  intro D1 h2 zs1 n1 g1 d1 o1 kg1 F2 N2 r1 _
  rw [flat_one] at r1
  have D1c := nn hc1 d1
  have D1d := nn hc2 d1
  refine ev_stc (N2.at (.tail _ (.head _))) dc1 fun h3 oc3 o3 g3 d3 => ?_
  have F3 := Fm.o1 F2 (N2.sub (news' := [(nx L, oc1), (D1, LO zs1 n1), (nx L + 1, oc2)]) (by simp)) o3
  have N3 := Nw.o1 (N2.sub (news' := [(nx L, oc1), (D1, LO zs1 n1), (nx L + 1, oc2)]) (by simp)) o3 g3 (by simpa using D1c)
  refine ev_cons (ev_assign (ev_lc (cl := []) (ev_ld F3 rfl ?_)))
  refine lcomp1 (R := fun _ v p => PR gi v p) (R' := SR) (f := fun p => [p.1]) ownTuple Rm.handled F3 N3 (F3.keep _ _ (kg1 _ _ hr)) rb (by rw [flat_one, List.length_map]; omega) ?_ ?_
  · intro C c0 a v h4 m ha' rv o4 kE F4 km _
    refine ev_asg_PR Rm.handled F4 Nw.nil (rv.up ((kgh.trans' kg1).trans' kE)) fun h5 t u F5 N5 => ev_tests0 ?_
    refine ift ?_
    exact ev_ld F5 rfl ⟨a.1, _, rfl, F5, trivial, trivial, fun _ _ _ => ⟨t, rfl⟩⟩
  intro D2 h4 zs2 n2 g4 d4 o4 kg4 F4 N4 r4 _
  rw [flat_one] at r4
  have D2c := nn (N3.at (.head _)) d4
  have D2d := nn (N3.at (.tail _ (.tail _ (.head _)))) d4
  have D2D := nn (N3.at (.tail _ (.head _))) d4
  refine ev_stc (N4.at (.tail _ (.tail _ (.tail _ (.head _))))) dc2 fun h5 oc5 o5 g5 d5 => ?_
  have F5 := Fm.o1 F4 (N4.sub (news' := [(nx L + 1, oc2), (D2, LO zs2 n2), (nx L, oc3), (D1, LO zs1 n1)]) (by simp)) o5
  have N5 := Nw.o1 (N4.sub (news' := [(nx L + 1, oc2), (D2, LO zs2 n2), (nx L, oc3), (D1, LO zs1 n1)]) (by simp)) o5 g5 (by simpa using ⟨D2d, D1d⟩)
  obtain ⟨kR, FR, NR⟩ := reground F5 Nw.nil
  have kh : Kp (hideAll h []) (hideAll h5 [L]) := (kg1.trans' kg4).trans' kR
  have kB : Kp Bh h5 := kb.trans' (kp_all.trans' (kh.trans' FR.keep))
  have inR : ∀ {a o}, h5.get? a = some o → a ≠ L → (hideAll h5 [L]).get? a = some o := fun e n => hideAll_get _ e (nin1 n)
  have cR : (hideAll h5 [L]).get? (nx L + 1) = some oc5 := inR g5 cL2
  have lR : (hideAll h5 [L]).get? (nx L) = some oc3 := inR (N5.at (.tail _ (.tail _ (.head _)))) cL1
  have D2R : (hideAll h5 [L]).get? D2 = some (LO zs2 n2) := inR (N5.at (.tail _ (.head _))) (N5 _ (.tail _ (.head _))).2.1
  have D1R : (hideAll h5 [L]).get? D1 = some (LO zs1 n1) := inR (N5.at (.tail _ (.tail _ (.tail _ (.head _))))) (N5 _ (.tail _ (.tail _ (.tail _ (.head _))))).2.1
  refine ev_cons (ev_return (ev_call (ev_bi B kB (.builtin "sorted") (by rfl) (by rfl) (ev_binop ?_))))
  refine ev_lc (cl := [("rights", nx L + 1)]) (ev_ld FR rfl ?_)
  refine lcomp1 (R := fun _ v p => PR gi v p) (R' := fun _ v p => PR gi v p) (f := fun p => if !((bs.map (·.1)).any (· == p.1)) then [p] else []) ownName Rm.handled FR NR (FR.keep _ _ (kh _ _ hl)) ra (by rw [flat_filter]; have := List.length_filter_le (fun p => !((bs.map (·.1)).any (· == p.1))) as; omega) ?_ ?_
  · intro C c0 a v h6 m ha' rv o6 kE F6 km _
    obtain ⟨x, t, u, rfl, hx⟩ := rv.get
    refine ev_asg_name (ev_st F6 Nw.nil fun h7 F7 N7 => ev_tests1 (ev_isTrue_compare (ev_sub (ev_ld F7 rfl (ev_int fun _ => ?_)))))
    have k7 : Kp h5 h7 := F7.kpC o6.kp c0
    refine ev_item_tup (i := 0) (k7 _ _ (FR.keep _ _ (kh _ _ (kgh _ _ hx)))) (by decide) rfl (ev_ldc (k7 _ _ g5) d5 (ev_notin_list (k7 _ _ (FR.keep _ _ D2R)) r4 (ev_truthy_bool ?_)))
    cases hq : (bs.map (·.1)).any (· == a.1) with
    | true =>
      refine iff0 ?_
      exact ⟨_, by simp [hq], F7, trivial, trivial⟩
    | false =>
      refine ift ?_
      exact ev_ld F7 rfl ⟨a, _, by simp [hq], F7, trivial, trivial, fun _ _ _ => rv⟩
  intro D3 h6 zs3 n3 g6 d6 o6 kg6 F6 N6 r6 _
  rw [flat_filter] at r6
  refine ev_lc (cl := [("lefts", nx L)]) (ev_ld F6 rfl ?_)
  refine lcomp1 (R := fun _ v p => PR gi v p) (R' := fun _ v p => PR gi v p) (f := fun p => if !((as.map (·.1)).any (· == p.1)) then [p] else []) ownName Rm.handled F6 N6 (F6.keep _ _ (kg6 _ _ (kh _ _ hr))) rb (by rw [flat_filter]; have := List.length_filter_le (fun p => !((as.map (·.1)).any (· == p.1))) bs; omega) ?_ ?_
  · intro C c0 a v h7 m ha' rv o7 kE F7 km _
    obtain ⟨x, t, u, rfl, hx⟩ := rv.get
    refine ev_asg_name (ev_st F7 Nw.nil fun h8 F8 N8 => ev_tests1 (ev_isTrue_compare (ev_sub (ev_ld F8 rfl (ev_int fun _ => ?_)))))
    have k8 : Kp h6 h8 := F8.kpC o7.kp c0
    refine ev_item_tup (i := 0) (k8 _ _ (F6.keep _ _ (kg6 _ _ (kh _ _ (kgh _ _ hx))))) (by decide) rfl (ev_ldc (k8 _ _ (F6.keep _ _ (kg6 _ _ lR))) d3 (ev_notin_list (k8 _ _ (F6.keep _ _ (kg6 _ _ D1R))) r1 (ev_truthy_bool ?_)))
    cases hq : (as.map (·.1)).any (· == a.1) with
    | true =>
      refine iff0 ?_
      exact ⟨_, by simp [hq], F8, trivial, trivial⟩
    | false =>
      refine ift ?_
      exact ev_ld F8 rfl ⟨a, _, by simp [hq], F8, trivial, trivial, fun _ _ _ => rv⟩
  intro D4 h7 zs4 n4 g7 d7 o7 kg7 F7 N7 r7 _
  rw [flat_filter] at r7
  have e1 := r6.len
  have e2 := r7.len
  have b1 := List.length_filter_le (fun p => !((bs.map (·.1)).any (· == p.1))) as
  have b2 := List.length_filter_le (fun p => !((as.map (·.1)).any (· == p.1))) bs
  refine ev_addl (N7.at (.tail _ (.head _))) (N7.at (.head _)) (by omega) fun D5 h8 o8 d8 g8 => ⟨.builtin, ?_⟩
  have k8 : Kp (hideAll h []) h8 := ((kh.trans' (kg6.trans' kg7)).trans' F7.keep).trans' o8.kp
  refine ev_sortC (tupS w [0]) cP (fun _ _ _ => Iff.rfl) (Rm.le (by decide)) (kgh.trans' k8) g8 (r6.append r7) (by simp; omega) fun D6 h9 zs9 n9 o9 d9 g9 r9 => ?_
  exact p D6 h9 zs9 n9 (Only.of_kp (kp_all.trans' (k8.trans' o9.kp))) (none_of_kp (kp_all.trans' k8) d9) g9 r9
end Mine
open PySem PySem.W PyProof.Rows PySem.Calls
set_option maxRecDepth 100000
set_option maxHeartbeats 4000000
set_option linter.unusedVariables false
namespace Mine
variable {w : World} {A : Around} {Bh : Heap}
theorem CJ.chg {β : Type} {h1 gE h h' : Heap} {T Z : List Addr} {Φ Φ' : Heap → Prop} {C D : Addr} {X : List Addr} {R' : Heap → Value → β → Prop} {Km Km' : (Str → Option Value) → Prop} {bs : List β} (S : CSt h1 T Z Φ C D) (j : CJ h1 gE T Φ C D X R' Km bs h) {Y : List Addr} (o : Only Y h h')
    (hY : ∀ y ∈ Y, h1.get? y = none ∧ y ∈ X ∧ y ≠ D ∧ (y = C ∨ ∃ o, h'.get? y = some o)) {m' : Str → Option Value} (ns : h'.Ns C m') (km : Km' m') (φ : Φ' h') : CJ h1 gE T Φ' C D X R' Km' bs h' := by
  obtain ⟨ys, k, hD, hr⟩ := j.acc
  refine ⟨fun b ob hb e => o b ob (fun q => ?_) (j.only b ob hb e), φ, ⟨m', ns, km⟩, ⟨ys, k, o _ _ (fun q => (hY D q).2.2.1 rfl) hD, fun G k1 k2 => hr G k1 (k2.back o fun y hy => (hY y hy).2.1)⟩, fun x hx => ?_⟩
  · rw [(hY b q).1] at e; cases e
  · by_cases q : x ∈ Y
    · rcases (hY x q).2.2.2 with q | q
      · exact .inl (by simp [q])
      · exact .inr q
    · exact (j.ex x hx).imp id fun ⟨ob, e⟩ => ⟨ob, o _ _ q e⟩
theorem sr_iff (h : Heap) (v : Value) (x : Str) : SR h v x ↔ (strS w).I.R h v (cS x) := by
  constructor
  · rintro ⟨t, rfl⟩
    exact ⟨x, t, rfl, rfl⟩
  · rintro ⟨y, t, rfl, e⟩
    have : aS x = aS y := (List.cons.inj e).1
    exact ⟨t, by rw [aS_inj this]⟩
theorem SeqL.take {α : Type} {R : Heap → Value → α → Prop} {h : Heap} {xs : List Value} {as : List α} (a : SeqL R h xs as) : ∀ k, SeqL R h (xs.take k) (as.take k) := by
  induction a with
  | nil => intro k; simp; exact .nil
  | cons r _ ih => intro k; cases k with
    | zero => exact .nil
    | succ k => exact .cons r (ih k)
noncomputable def valsFor (as : List (Str × Str)) (x : Str) : List Str := as.flatMap fun p => if p.1 == x then [p.2] else []
noncomputable def fewOf (as bs : List (Str × Str)) : List (Str × Str × Str) := bs.flatMap fun q => ((sortC cS (valsFor as q.1)).take 2).flatMap fun one => [(q.1, one, q.2)]
theorem valsFor_len (x : Str) : ∀ as, (valsFor as x).length ≤ as.length := by
  intro as
  induction as with
  | nil => simp [valsFor]
  | cons a as ih =>
    unfold valsFor at ih ⊢
    rw [List.flatMap_cons, List.length_append, List.length_cons]
    have : (if (a.1 == x) = true then [a.2] else []).length ≤ 1 := by split <;> simp
    omega
/-! ## `_law_due_few` -/
theorem due_few_C (B : Base w Bh) {h : Heap} (kb : Kp Bh h) (room : Room A 5) {l r : Addr} {xs ys : List Value} {n k : Nat} {as bs : List (Str × Str)} (hl : h.get? l = some (LO xs n)) (hr : h.get? r = some (LO ys k)) {gi : Heap} (kgi : Kp gi h) (ra : SeqL PR gi xs as) (rb : SeqL PR gi ys bs) (ha : as.length < 30)
    (hz : (fewOf as bs).length < 64) {P : Value → Heap → Prop} (p : ∀ D h' zs k, Only [] h h' → h.get? D = none → h'.get? D = some (LO zs k) → (∀ G, Kp gi G → NewIn [D] h h' G → SeqL TR G zs (fewOf as bs)) → P (.ref D) h') :
    CEv (model pw w) A (.call (.ref 336) ⟨[.ref l, .ref r], []⟩) h P := by
  refine CEv.fngc B kb (n := 4) room kgi (fa := 336) (c := 335) [("left", .ref l), ("right", .ref r)] rfl rfl rfl rfl rfl rfl rfl (fun s hs => BindsTo.of_eq (by rfl)) (fun L => by rfl) ?_
  intro L h₁ Rm k1 nL F CC
  obtain ⟨oc, hc, dc, _, nc, cL, cg⟩ := CC "left" (nx L) (by rfl)
  have N : Nw gi L h₁ [(nx L, oc)] := Nw.nil.cons hc cL cg
  have kB := kb.trans' k1
  have kE := kgi.trans' k1
  refine ev_cons (ev_return (ev_lc (cl := [("left", nx L)]) (ev_ld F rfl ?_)))
  refine ev_iter_list (k1 _ _ hr) fun I h2 o o2 d2 g2 st => ?_
  intro D C h3 o3 d1 dD c1 dc' ns nc nd
  have c0 : h₁.get? C = none := none_of_kp o2.kp c1
  have d0 : h₁.get? D = none := none_of_kp o2.kp d1
  obtain ⟨qc1, qc2⟩ : h3.get? (nx C) = some (cellN none) ∧ h2.get? (nx C) = none := by
    rcases nc "name" (nx C) (.head _) with q | q
    · exact absurd (Prod.mk.inj (List.mem_singleton.mp q)).1 (by decide)
    · exact ⟨q.1, q.2.1⟩
  have qD : nx C ≠ D := by
    rcases nd "name" (nx C) (.head _) with q | q
    · exact absurd (Prod.mk.inj (List.mem_singleton.mp q)).1 (by decide)
    · exact q
  have q0 : h₁.get? (nx C) = none := none_of_kp o2.kp qc2
  have o13 := o2.trans o3
  have IC : I ≠ C := fun e => by rw [e, c1] at g2; cases g2
  have ID : I ≠ D := fun e => by rw [e, d1] at g2; cases g2
  have Iq : I ≠ nx C := fun e => by rw [e, qc2] at g2; cases g2
  have x0 := led_x0 F N
  have gX : ∀ x ∈ I :: (nx C) :: C :: D :: L :: [(nx L, oc)].map (·.1), gi.get? x = none := fun x hx => by
    simp only [List.map_cons, List.map_nil, List.mem_cons] at hx
    rcases hx with rfl | rfl | rfl | rfl | hx
    · exact none_of_kp kE d2
    · exact none_of_kp kE q0
    · exact none_of_kp kE c0
    · exact none_of_kp kE d0
    · exact (x0 x (by simpa using hx)).1
  have S : CSt h₁ [] [] (fun _ => True) C D := ⟨c0, d0, dc', by simp, fun _ _ _ _ _ _ x => x, by simp⟩
  have cC : nx L ≠ C := fun e => by rw [← e, N.at (.head _)] at c0; cases c0
  have cq : nx L ≠ nx C := fun e => by rw [← e, N.at (.head _)] at q0; cases q0
  have lx := rb.len
  refine fev_list (target := .Tuple [.Name "name" _, .Name "other" _] 0 _) (ifs := []) rfl (compTurn_two ..) (Itr.list (g := hideAll h₁ []) Rm.handled (k1 _ _ hr))
    (fun i o' h => h.get? I = some o' ∧ CJ h₁ gi [] (fun _ => True) C D (I :: (nx C) :: C :: D :: L :: [(nx L, oc)].map (·.1)) TR TrueM (fewOf as (bs.take i)) h ∧ ∃ oq v, h.get? (nx C) = some oq ∧ oq.data = .cell v) (fun i o' h x => ⟨x.2.1.only.kp, x.1⟩) ?_ ?_ st
    ⟨o3 _ _ nin0 g2, ⟨o13, trivial, ⟨_, ns, trivial⟩, ⟨[], 0, dD, fun _ _ _ => .nil⟩, fun x hx => ?_⟩, _, _, qc1, rfl⟩
  · rintro i o1 h3' v h4 o4 hi ⟨x2, x3, oq, vq, x4, x5⟩ hv o34 gI4 cI4
    obtain ⟨a, ha'⟩ : ∃ a, bs[i]? = some a := ⟨_, List.getElem?_eq_getElem (by omega)⟩
    obtain ⟨v', hv', rv⟩ := rb.at ha'
    rw [hv] at hv'
    obtain rfl := Option.some.inj hv'
    have j4 := x3.other S d2 (by simp) (.head _) IC ID o34 ⟨o4, gI4⟩
    have q4 : h4.get? (nx C) = some oq := o34 _ _ (nin1 Iq.symm) x4
    obtain ⟨m, ns4, _⟩ := j4.fr
    have kE4 := kE.trans' j4.only.kp
    have F4 : Fm (hideAll h4 [C, nx C]) C h4 m := ⟨ns4, fun b ob e => of_hideAll _ e, hideAll_none _ (.head _)⟩
    have N4 : Nw (hideAll h4 [C, nx C]) C h4 [(nx C, oq)] := Nw.nil.cons q4 (Nat.succ_ne_self C) (hideAll_none _ (by simp))
    refine ownTuple gI4 cI4 ?_
    obtain ⟨x, t, u, rfl, hx⟩ := rv.get
    refine ev_asg_two Rm.handled (kE4 _ _ hx) fun h5 o5 => ?_
    have F5 := Fm.o F4 o5
    have N5 := Nw.o N4 o5
    refine ev_asg_name (ev_stc (N5.at (.head _)) x5 fun h6 oq6 o6 g6 d6 => ?_)
    have F6 := Fm.o1 F5 N5 o6
    have N6 := Nw.o1 N5 o6 g6 alln
    refine ev_asg_name (ev_st F6 N6 fun h7 F7 N7 => ev_tests0 ?_)
    refine ift ?_
    have k7 : Kp h₁ h7 := fun b ob e => F7.keep _ _ (hideAll_get _ (j4.only _ _ nin0 e) (fun q => by
      rcases List.mem_cons.mp q with q | q
      · rw [q, c0] at e; cases e
      · rw [List.mem_singleton.mp q, q0] at e; cases e))
    refine ev_inner (ev_sub (ev_call (ev_bi B (kB.trans' k7) (.builtin "sorted") (by rfl) (by rfl) (ev_lc (cl := [("name", nx C)]) (ev_ldc (k7 _ _ hc) dc ?_))))) (by intro _; rfl)
    refine lcomp1 (R := fun _ v p => PR gi v p) (R' := SR) (f := fun p => if p.1 == a.1 then [p.2] else []) ownTuple Rm.handled F7 N7 (k7 _ _ (k1 _ _ hl)) ra (by have := valsFor_len a.1 as; unfold valsFor at this; omega) ?_ ?_
    · intro C' c0' b v' h8 m8 hb' rv' o8 kE8 F8 km _
      refine ev_asg_PR Rm.handled F8 Nw.nil (rv'.up (kE.trans' (k7.trans' o8.kp))) fun h9 t' u' F9 N9 => ?_
      refine ev_tests1 (ev_isTrue_compare (ev_ld F9 rfl (ev_ldc (F9.kpC o8.kp c0' _ _ (N7.at (.head _))) d6 (ev_eqs (ev_truthy_bool ?_)))))
      cases hq : b.1 == a.1 with
      | false =>
        refine iff0 ?_
        exact ⟨_, by simp [hq], F9, trivial, trivial⟩
      | true =>
        refine ift ?_
        exact ev_ld F9 rfl ⟨b.2, _, by simp [hq], F9, trivial, trivial, fun _ _ _ => ⟨u', rfl⟩⟩
    intro D8 h8 zs8 n8 g8 d8 o8 kg8 F8 N8 r8 _
    have e8 := r8.len
    have b8 := valsFor_len a.1 as
    refine ⟨.builtin, ev_sortC (strS w) cS sr_iff (Rm.le (by decide)) F8.keep (N8.at (.head _)) r8 (by unfold valsFor at b8; omega) fun D9 h9 zs9 n9 o9 d9 g9 r9 => ?_⟩
    have F9 := Fm.o F8 o9
    have N9 := Nw.o N8 o9
    refine ev_slice ?_
    rw [evalPart_none, evalPart_some]
    refine Ev.pure (ev_int fun t2 => ⟨none, some (((2 : Nat) : Int), t2), rfl, rfl, fun sl h10 o10 g10 => ?_⟩)
    have F10 := Fm.o F9 o10
    have N10 := Nw.o N9 o10
    refine ev_tail_lslice (o10 _ _ nin0 g9) g10 (by have := r9.len; rw [sortC_len] at this; unfold valsFor at b8; omega) fun D11 h11 o11 d11 g11 => ?_
    have F11 := Fm.o F10 o11
    have N11 := Nw.o N10 o11
    replace F11 := F11.weak kg8
    replace F10 := F10.weak kg8
    have I11 : h11.get? I = some o4 := F11.keep _ _ (hideAll_get _ gI4 (ninc (IC) (ninc (Iq) nin0)))
    have k411 : Only [C, nx C] h4 h11 := F11.only
    have q11 : h11.get? (nx C) = some oq6 := N11.at (.tail _ (.head _))
    have S' : CSt h₁ [] [nx C] (fun h => ∃ o, h.get? (nx C) = some o ∧ o.data = .cell (some (.str a.1 t))) C D := ⟨c0, d0, dc', by simp, fun b h h' _ hb o x => by
      obtain ⟨ob, x1, x2⟩ := x
      exact ⟨ob, o _ _ (by simpa using fun q : nx C = b => hb (by simp [q])) x1, x2⟩, by simpa using qD.symm⟩
    have j11 : CJ h₁ gi [] (fun h => ∃ o, h.get? (nx C) = some o ∧ o.data = .cell (some (.str a.1 t))) C D (I :: (nx C) :: C :: D :: L :: [(nx L, oc)].map (·.1)) TR (fun m => m "other" = some (.str a.2 u)) (fewOf as (bs.take i)) h11 :=
      j4.chg S k411 (fun y hy => ?_) F11.ns rfl ⟨_, q11, d6⟩
    · refine ev_iter_list g11 fun I2 h12 oi o12 di gi2 sti => ?_
      have j12 := j11.more S' di o12 ⟨oi, gi2⟩
      have ex2 : ∀ {b o}, h11.get? b = some o → I2 ≠ b := fun e q => by rw [← q, di] at e; cases e
      have exC : ∃ o, h11.get? C = some o := by obtain ⟨o, _, _, ho, _⟩ := F11.ns; exact ⟨o, ho⟩
      obtain ⟨ocC, hC11⟩ := exC
      obtain ⟨ysD, kD, hD11, _⟩ := j11.acc
      have I2n : I2 ∉ I :: (nx C) :: C :: D :: L :: [(nx L, oc)].map (·.1) := fun q => by
        rcases j11.ex I2 q with q | ⟨ob, q⟩
        · exact ex2 hC11 (List.mem_singleton.mp q)
        · exact ex2 q rfl
      have lne : ∀ b o, h11.get? b = some o → b ≠ D11 → D11 ≠ b := fun _ _ _ n => n.symm
      have D11C : D11 ≠ C := fun e => by
        obtain ⟨o, _, _, ho, _⟩ := (show h10.Ns C _ from F10.ns)
        rw [← e, d11] at ho; cases ho
      have D11D : D11 ≠ D := fun e => by
        obtain ⟨y', k', hD4, _⟩ := j4.acc
        have := F10.keep _ _ (hideAll_get _ hD4 (ninc (dc') (ninc (qD.symm) nin0)))
        rw [← e, d11] at this; cases this
      have e11 := r9.len
      rw [sortC_len] at e11
      have hX' : ∀ b ∈ C :: D :: ([] : List Addr), b ∈ I :: (nx C) :: C :: D :: L :: [(nx L, oc)].map (·.1) := fun b hb => by
        simp only [List.mem_cons, List.not_mem_nil, or_false] at hb ⊢
        rcases hb with q | q <;> simp [q]
      have et : bs.take (i + 1) = bs.take i ++ [a] := by rw [List.take_add_one, ha']; rfl
      have hzz : (fewOf as (bs.take i)).length + ((sortC cS (valsFor as a.1)).take 2).length < 64 := by
        have e : bs = bs.take (i + 1) ++ bs.drop (i + 1) := (List.take_append_drop _ _).symm
        have := congrArg (fun z => (fewOf as z).length) e
        simp only [et] at this
        unfold fewOf at this hz ⊢
        simp only [List.flatMap_append, List.length_append, List.flatMap_cons, List.flatMap_nil, List.append_nil] at this
        rw [flat_one, List.length_map] at this
        omega
      refine fev_last (X := I :: (nx C) :: C :: D :: L :: [(nx L, oc)].map (·.1)) (R := SR) (f := fun one => [(a.1, one, a.2)]) S' ownName rfl (by rfl) Rm.handled hX' I2n (fun x hx => gX x hx) kE (none_of_kp j11.only.kp di) (ex2 hC11) (ex2 hD11) (nin1 (ex2 q11)) (l := D11) (hideAll_get _ (o12 _ _ nin0 g11) (ninc ((ex2 g11).symm) (ninc (D11C) (ninc (D11D) nin0)))) (r9.take 2) gi2 sti
        (by rw [flat_one, List.length_map]; exact hzz) ?_ j12 fun h13 o13' j13 => ?_
      · have qC : nx C ∉ [C] := fun q => Nat.succ_ne_self C (List.mem_singleton.mp q)
        intro one v' h14 m14 hone rone o14 kE14 F14 km ⟨oq14, q14, dq14⟩
        refine ev_asg_name (ev_st F14 Nw.nil fun h15 F15 N15 => ev_tests0 ?_)
        refine ift ?_
        obtain ⟨t1, rfl⟩ := rone
        have qc : h15.get? (nx C) = some oq14 := F15.keep _ _ (hideAll_get _ q14 qC)
        exact ev_triple F15 (ev_ldc qc dq14 (ev_ld F15 rfl (ev_ld F15 (v := .str a.2 u) km ⟨rfl, rfl⟩))) fun T h16 F16 r16 => ⟨_, _, rfl, F16, km, ⟨oq14, F16.keep _ _ (hideAll_get _ q14 qC), dq14⟩, r16 _⟩
      · refine ⟨o13' _ _ (by simp; exact ⟨fun e => I2n (by simp [e]), IC, ID⟩) (o12 _ _ nin0 I11), ?_, ?_⟩
        · obtain ⟨m13, ns13, _⟩ := j13.fr
          refine ⟨j13.only, trivial, ⟨m13, ns13, trivial⟩, ?_, j13.ex⟩
          have ef : fewOf as (bs.take (i + 1)) = fewOf as (bs.take i) ++ ((sortC cS (valsFor as a.1)).take 2).flatMap fun one => [(a.1, one, a.2)] := by
            rw [et]; unfold fewOf; simp
          rw [ef]
          exact j13.acc
        · obtain ⟨oq13, q13, dq13⟩ := j13.phi
          exact ⟨oq13, _, q13, dq13⟩
    · simp only [List.mem_cons, List.not_mem_nil, or_false] at hy
      rcases hy with rfl | rfl
      · exact ⟨c0, by simp, dc'.symm, .inl rfl⟩
      · exact ⟨q0, by simp, qD, .inr ⟨_, q11⟩⟩
  · rintro o1 h4 h5 ⟨x2, x3, oq, vq, x4, x5⟩ o45
    rw [List.take_of_length_le (by omega)] at x3
    have Iq' : I ∉ (nx C) :: C :: D :: L :: [(nx L, oc)].map (·.1) := fun q => by
      simp only [List.map_cons, List.map_nil, List.mem_cons] at q
      rcases q with q | q | q | q
      · exact Iq q
      · exact IC q
      · exact ID q
      · obtain ⟨o', e⟩ := (x0 I (by simpa using q)).2
        rw [d2] at e; cases e
    obtain ⟨ysD, kD, hD4, hry⟩ := x3.acc
    obtain ⟨m4, ns4, _⟩ := x3.fr
    have j5 : CJ h₁ gi [] (fun _ => True) C D (C :: D :: L :: [(nx L, oc)].map (·.1)) TR TrueM (fewOf as bs) h5 := by
      refine ⟨fun b ob hb e => o45 b ob (fun q => ?_) (x3.only b ob hb e), trivial, ⟨m4, ns_only o45 (nin1 IC.symm) ns4, trivial⟩, ⟨ysD, kD, o45 _ _ (nin1 ID.symm) hD4, fun G k1 k2 => hry G k1 fun b ob e1 e2 e3 => k2 b ob e1 (fun q => e2 (.tail _ (.tail _ q))) (o45 _ _ (fun q => e2 (by rw [List.mem_singleton.mp q]; exact .head _)) e3)⟩, fun x hx => ?_⟩
      · rw [List.mem_singleton.mp q, d2] at e; cases e
      · exact (x3.ex x (.tail _ (.tail _ hx))).imp id fun ⟨ob, e⟩ => ⟨ob, o45 _ _ (fun q => Iq' (by rw [List.mem_singleton.mp q] at hx; exact .tail _ hx)) e⟩
    exact crs_expr F N S j5 fun D' h6 ys' k' gN d6 o6 kN F6 N6 _ r6 => p D' h6 ys' k' (fun b o _ e => o6 _ _ nin0 (k1 _ _ e)) (none_of_kp k1 d6) (N6.at (.head _)) fun G e1 e2 => r6 G e1 (e2.first k1)
  · simp only [List.map_cons, List.map_nil, List.mem_cons] at hx
    rcases hx with rfl | rfl | rfl | rfl | hx
    · exact .inr ⟨_, o3 _ _ nin0 g2⟩
    · exact .inr ⟨_, qc1⟩
    · exact .inl (.head _)
    · exact .inr ⟨_, dD⟩
    · obtain ⟨o', e⟩ := (x0 x (by simpa using hx)).2
      exact .inr ⟨o', o13 _ _ nin0 e⟩
end Mine
open PySem PySem.W PyProof.Rows
set_option maxRecDepth 100000
set_option maxHeartbeats 4000000
set_option linter.unusedVariables false
namespace Mine
/-! ## the join, plain -/
noncomputable def joinR (SA SB : List (Str × Str)) : List (Str × Str × Str) := SA.flatMap fun p => SB.flatMap fun q => if q.1 == p.1 then [(p.1, p.2, q.2)] else []
noncomputable def unF (SA SB : List (Str × Str)) : List (Str × Str) := SA.filter (fun p => !((SB.map (·.1)).any (· == p.1))) ++ SB.filter (fun p => !((SA.map (·.1)).any (· == p.1)))
theorem flat_nil {α β : Type} {f : α → List β} : ∀ {l : List α}, (∀ a ∈ l, f a = []) → l.flatMap f = []
  | [], _ => rfl
  | a :: l, h => by rw [List.flatMap_cons, h a (.head _), flat_nil fun b hb => h b (.tail _ hb)]; rfl
theorem flat_congr {α β : Type} {f g : α → List β} : ∀ {l : List α}, (∀ a ∈ l, f a = g a) → l.flatMap f = l.flatMap g
  | [], _ => rfl
  | a :: l, h => by rw [List.flatMap_cons, List.flatMap_cons, h a (.head _), flat_congr fun b hb => h b (.tail _ hb)]
theorem joinR_step {nm : Str} {vs ws : List Str} {SA SB : List (Str × Str)} (hA : ∀ p ∈ SA, p.1 ≠ nm) (hB : ∀ q ∈ SB, q.1 ≠ nm) :
    joinR (vs.map (fun v => (nm, v)) ++ SA) (ws.map (fun v => (nm, v)) ++ SB) = (vs.flatMap fun one => ws.flatMap fun other => [(nm, one, other)]) ++ joinR SA SB := by
  unfold joinR
  rw [List.flatMap_append]
  congr 1
  · rw [List.flatMap_map]
    refine flat_congr fun v _ => ?_
    rw [List.flatMap_append, List.flatMap_map, flat_nil (l := SB) fun q hq => by rw [if_neg]; simpa using hB q hq, List.append_nil]
    exact flat_congr fun u _ => by simp
  · refine flat_congr fun p hp => ?_
    rw [List.flatMap_append, List.flatMap_map, flat_nil (l := ws) fun q _ => by rw [if_neg]; simpa using (hA p hp).symm, List.nil_append]
theorem cP_inj {p q : Str × Str} (h : cP p = cP q) : p = q := by
  unfold cP at h
  have h1 := (List.cons.inj h).1
  have h2 := (List.cons.inj (List.cons.inj h).2).1
  exact Prod.ext (aS_inj h1) (aS_inj h2)
theorem map_cP_inj : ∀ {a b : List (Str × Str)}, a.map cP = b.map cP → a = b
  | [], [], _ => rfl
  | [], _ :: _, h => by simp at h
  | _ :: _, [], h => by simp at h
  | x :: a, y :: b, h => by
    rw [List.map_cons, List.map_cons] at h
    rw [cP_inj (List.cons.inj h).1, map_cP_inj (List.cons.inj h).2]
theorem srt_append {V F : List Tp} (hV : Asc (O := tpO) V) (h : ∀ v ∈ V, ∀ f ∈ F, tpO.blt f v = false) : srt (O := tpO) (V ++ F) = V ++ srt (O := tpO) F := by
  refine srt_of (O := tpO) (((srt_perm (O := tpO) F).append_left V)) ?_
  exact List.pairwise_append.mpr ⟨hV, srt_asc (O := tpO) F, fun v hv f hf => h v hv f ((srt_perm (O := tpO) F).mem_iff.mp hf)⟩
theorem any_name {nm x : Str} (h : x ≠ nm) (ws : List Str) (SB : List (Str × Str)) : (((ws.map (fun v => (nm, v)) ++ SB).map (·.1)).any (· == x)) = ((SB.map (·.1)).any (· == x)) := by
  rw [List.map_append, List.any_append]
  have : ((ws.map (fun v => (nm, v))).map (·.1)).any (· == x) = false := by
    rw [List.any_eq_false]
    intro y hy
    simp at hy
    obtain ⟨_, rfl⟩ := hy
    simpa using h.symm
  rw [this, Bool.false_or]
theorem any_nm {nm : Str} (ws : List Str) {SB : List (Str × Str)} (hB : ∀ q ∈ SB, q.1 ≠ nm) : (((ws.map (fun v => (nm, v)) ++ SB).map (·.1)).any (· == nm)) = !ws.isEmpty := by
  rw [List.map_append, List.any_append]
  have : (SB.map (·.1)).any (· == nm) = false := by
    rw [List.any_eq_false]
    intro y hy
    obtain ⟨q, hq, rfl⟩ := List.mem_map.mp hy
    simpa using hB q hq
  rw [this, Bool.or_false]
  cases ws <;> simp
theorem filter_part {nm : Str} {vs ws : List Str} {SA SB : List (Str × Str)} (hA : ∀ p ∈ SA, p.1 ≠ nm) (hB : ∀ q ∈ SB, q.1 ≠ nm) :
    (vs.map (fun v => (nm, v)) ++ SA).filter (fun p => !(((ws.map (fun v => (nm, v)) ++ SB).map (·.1)).any (· == p.1))) = (if ws.isEmpty then vs.map (fun v => (nm, v)) else []) ++ SA.filter (fun p => !((SB.map (·.1)).any (· == p.1))) := by
  rw [List.filter_append]
  congr 1
  · cases hw : ws.isEmpty
    · rw [if_neg (by simp), List.filter_eq_nil_iff]
      intro p hp
      obtain ⟨v, _, rfl⟩ := List.mem_map.mp hp
      rw [any_nm ws hB, hw]; simp
    · rw [if_pos rfl, List.filter_eq_self]
      intro p hp
      obtain ⟨v, _, rfl⟩ := List.mem_map.mp hp
      rw [any_nm ws hB, hw]; simp
  · refine List.filter_congr fun p hp => ?_
    rw [any_name (hA p hp)]
theorem cP_lt {p q : Str × Str} (h : aS p.1 < aS q.1) : tpO.blt (cP q) (cP p) = false := by
  have : cP p < cP q := List.Lex.rel h
  exact decide_eq_false (List.not_lt.mpr (List.le_of_lt this))
theorem unF_step {nm : Str} {vs ws : List Str} {SA SB : List (Str × Str)} (hA : ∀ p ∈ SA, aS nm < aS p.1) (hB : ∀ q ∈ SB, aS nm < aS q.1) (aV : Asc (O := tpO) ((vs.map (fun v => (nm, v))).map cP)) (aW : Asc (O := tpO) ((ws.map (fun v => (nm, v))).map cP)) :
    sortC cP (unF (vs.map (fun v => (nm, v)) ++ SA) (ws.map (fun v => (nm, v)) ++ SB)) = (if vs.isEmpty || ws.isEmpty then (vs ++ ws).map (fun v => (nm, v)) else []) ++ sortC cP (unF SA SB) := by
  have hA' : ∀ p ∈ SA, p.1 ≠ nm := fun p hp e => by have := hA p hp; rw [e] at this; exact absurd this (List.lt_irrefl _)
  have hB' : ∀ p ∈ SB, p.1 ≠ nm := fun p hp e => by have := hB p hp; rw [e] at this; exact absurd this (List.lt_irrefl _)
  refine map_cP_inj ?_
  rw [← srt_map, List.map_append, ← srt_map]
  have eV : (if vs.isEmpty || ws.isEmpty then (vs ++ ws).map (fun v => (nm, v)) else []) = (if ws.isEmpty then vs.map (fun v => (nm, v)) else []) ++ (if vs.isEmpty then ws.map (fun v => (nm, v)) else []) := by
    cases vs <;> cases ws <;> simp
  have aVW : Asc (O := tpO) ((if vs.isEmpty || ws.isEmpty then (vs ++ ws).map (fun v => (nm, v)) else []).map cP) := by
    cases vs with
    | nil => simpa using aW
    | cons v vs => cases ws with
      | nil => simpa using aV
      | cons w ws => simp; exact List.Pairwise.nil
  rw [← srt_append aVW]
  · refine srt_perm_eq ?_
    rw [← List.map_append]
    refine List.Perm.map _ ?_
    unfold unF
    rw [filter_part hA' hB', filter_part hB' hA', eV]
    simp only [List.append_assoc]
    refine List.Perm.append_left _ ?_
    rw [← List.append_assoc, ← List.append_assoc]
    exact List.Perm.append_right _ List.perm_append_comm
  · intro v hv f hf
    obtain ⟨p, hp, rfl⟩ := List.mem_map.mp hv
    obtain ⟨q, hq, rfl⟩ := List.mem_map.mp hf
    have e1 : p.1 = nm := by
      split at hp
      · obtain ⟨x, _, rfl⟩ := List.mem_map.mp hp; rfl
      · cases hp
    refine cP_lt ?_
    rw [e1]
    unfold unF at hq
    rcases List.mem_append.mp hq with hq | hq
    · exact hA q (List.mem_filter.mp hq).1
    · exact hB q (List.mem_filter.mp hq).1
theorem split_run {nm : Str} : ∀ {vs : List Str} {SA : List (Str × Str)} {T : List Tp}, SA.map cP = vs.map (pr nm) ++ T → ∃ SA', SA = vs.map (fun v => (nm, v)) ++ SA' ∧ T = SA'.map cP
  | [], SA, T, h => ⟨SA, rfl, by simpa using h.symm⟩
  | v :: vs, [], T, h => by simp at h
  | v :: vs, p :: SA, T, h => by
    rw [List.map_cons, List.map_cons, List.cons_append] at h
    obtain ⟨SA', e1, e2⟩ := split_run (List.cons.inj h).2
    have : p = (nm, v) := cP_inj (List.cons.inj h).1
    exact ⟨SA', by rw [this, e1]; rfl, e2⟩
theorem heap_head {as : List Tp} (h : IsH as) : as[0]? = (srt (O := tpO) as)[0]? := by
  cases as with
  | nil => simp [srt]
  | cons b r =>
    have hm : ∀ x ∈ b :: r, tpO.blt x b = false := h.min rfl
    rw [srt_cons (O := tpO) (List.Perm.refl _) fun a ha => hm a (.tail _ ha)]
    rfl
theorem name_le {p q : Str × Str} (h : tpO.blt (cP q) (cP p) = false) : ¬ aS q.1 < aS p.1 := fun k => by
  have h' : ¬ cP q < cP p := of_decide_eq_false h
  exact h' (List.Lex.rel k)
theorem names_gt {nm : Str} {SA : List (Str × Str)} (hs : Asc (O := tpO) (SA.map cP)) (h0 : ∀ p, SA[0]? = some p → p.1 ≠ nm ∧ ¬ aS p.1 < aS nm) : ∀ p ∈ SA, aS nm < aS p.1 := by
  cases SA with
  | nil => intro p hp; cases hp
  | cons b r =>
    obtain ⟨h1, h2⟩ := h0 b rfl
    have lt0 : aS nm < aS b.1 := by
      rcases List.le_iff_lt_or_eq.mp (List.not_lt.mp h2) with q | q
      · exact q
      · exact absurd (aS_inj q).symm h1
    intro p hp
    rcases List.mem_cons.mp hp with rfl | hp
    · exact lt0
    · have := (List.pairwise_cons.mp (show Asc (O := tpO) (cP b :: r.map cP) from hs)).1 (cP p) (List.mem_map_of_mem hp)
      rcases List.le_iff_lt_or_eq.mp (List.not_lt.mp (name_le this)) with q | q
      · exact List.lt_trans lt0 q
      · rw [← q]; exact lt0
theorem any_perm {a b : List (Str × Str)} (p : a.Perm b) (x : Str) : (a.map (·.1)).any (· == x) = (b.map (·.1)).any (· == x) := by
  rw [Bool.eq_iff_iff, List.any_eq_true, List.any_eq_true]
  constructor
  · rintro ⟨y, hy, e⟩; exact ⟨y, (p.map _).mem_iff.mp hy, e⟩
  · rintro ⟨y, hy, e⟩; exact ⟨y, (p.map _).mem_iff.mpr hy, e⟩
theorem unF_perm {a a' b b' : List (Str × Str)} (p : a.Perm a') (q : b.Perm b') : (unF a b).Perm (unF a' b') := by
  unfold unF
  have e1 : (fun p : Str × Str => !((b.map (·.1)).any (· == p.1))) = fun p => !((b'.map (·.1)).any (· == p.1)) := funext fun x => by rw [any_perm q]
  have e2 : (fun p : Str × Str => !((a.map (·.1)).any (· == p.1))) = fun p => !((a'.map (·.1)).any (· == p.1)) := funext fun x => by rw [any_perm p]
  rw [e1, e2]
  exact (p.filter _).append (q.filter _)
theorem sortC_perm_eq {a b : List (Str × Str)} (p : a.Perm b) : sortC cP a = sortC cP b := by
  refine map_cP_inj ?_
  rw [← srt_map, ← srt_map]
  exact srt_perm_eq (p.map _)
theorem alone_sorted (as bs : List (Str × Str)) : sortC cP (unF (sortC cP as) (sortC cP bs)) = aloneOf as bs := sortC_perm_eq (unF_perm (sortC_perm _ _) (sortC_perm _ _))
end Mine
open PySem PySem.W PyProof.Rows PySem.Calls
set_option maxRecDepth 100000
set_option maxHeartbeats 4000000
set_option linter.unusedVariables false
namespace Mine
variable {w : World} {A : Around} {Bh : Heap}
/-! ## list(a list), min of texts, a tuple's iterator -/
theorem ev_listOf {prog : Program} {l : Addr} {xs : List Value} {n : Nat} {h : Heap} {P : Value → Heap → Prop} (hl : h.get? l = some (LO xs n)) (hz : xs.length < 1000)
    (p : ∀ D h' k, Only [] h h' → h.get? D = none → h'.get? D = some (LO xs k) → P (.ref D) h') : Ev (model prog w) A (call (.type "list") [.ref l]) h P := by
  intro E Q s hs hQ
  subst hs
  exact call_list_seq l (.inl rfl) hl rfl rfl (fun h' c k g => hQ _ h' s.toks (p _ h' c (fun b o _ e => k b o e) (Heap.get?_none_of_le (Nat.le_refl _)) g)) (by simp; exact Nat.le_trans (Nat.le_of_lt hz) (by decide))
noncomputable def TSt (t : Addr) (i : Nat) (o : Obj) : Prop := o.cls = .type "tuple_iterator" ∧ o.data = .fields #[.ref t, .int i 0]
theorem Itr.tuple (hh : A.handled = none) {g : Heap} {t I : Addr} {xs : List Value} (hl : g.get? t = some (TO xs)) (hne : t ≠ I) : Itr w A I g xs.length (fun i v => xs[i]? = some v) (TSt t) "tuple_iterator" where
  item := by
    intro i h o P hi k ho st p E Q s hs hQ
    subst hs
    refine (Walks.tuple hh I t hne xs.toArray).item i s _ E (by simpa using hi) ⟨⟨o, ho, st⟩, _, k _ _ hl, rfl, 0, rfl⟩ fun v h' tk hv st' hk => ?_
    obtain ⟨⟨o', ho', st''⟩, _⟩ := st'
    exact hQ _ h' tk (p v h' o' (by simpa using hv) (fun b ob hb e => hk b ob hb e) ho' st'')
  done := by
    intro h o P k ho st p E Q s hs hQ
    subst hs
    exact (Walks.tuple hh I t hne xs.toArray).done s _ E ⟨⟨o, ho, by rw [List.size_toArray]; exact st⟩, _, k _ _ hl, rfl, 0, rfl⟩ fun h' tk hk => hQ _ h' tk (p h' fun b ob hb e => hk b ob hb e)
  self := by
    intro i h o P ho st p E Q s hs hQ
    subst hs
    exact wpAny_pyIter_tupleiter ⟨o, ho, st⟩ (hQ _ _ s.toks p)
  cls := fun st => st.1
noncomputable def minOf (ss : List Str) : Str := ss.getD (argBest (fun i j => decide ((ss.getD i "").cps.toList < (ss.getD j "").cps.toList)) (ss.length - 1)) ""
theorem ev_min_strs (hh : A.handled = none) {l : Addr} {xs : List Value} {ss : List Str} {n : Nat} {h : Heap} {P : Value → Heap → Prop} (hl : h.get? l = some (LO xs n)) (a : All2 StrIs xs ss) (hne : ss ≠ [])
    (p : ∀ h' t, Only [] h h' → P (.str (minOf ss) t) h') : Ev (model pw w) A (call (.builtin "min") [.ref l]) h P := by
  intro E Q s hs hQ
  subst hs
  have hlt : l < s.heap.objs.size := Heap.lt_size hl
  have hlen := a.len
  have hpos : 0 < ss.length := List.length_pos_iff.mpr hne
  refine call_min_walk (wpAny_pyIter_list (PySem.IsL.isList (n := n) hl) ?_)
  have val : ∀ (i : Nat) (v : Value), xs.toArray[i]? = some v → ∃ t, v = Value.str (ss.getD i "") t := fun i v hv => by
    have hv' : xs[i]? = some v := by simpa using hv
    have : ∀ {xs : List Value} {ss : List Str}, All2 StrIs xs ss → ∀ {i : Nat} {v : Value}, xs[i]? = some v → ∃ t, v = Value.str (ss.getD i "") t := by
      intro xs ss a
      induction a with
      | nil => intro i v e; simp at e
      | cons r _ ih =>
        intro i v e
        cases i with
        | zero => simp at e; subst e; obtain ⟨t, e⟩ := r; exact ⟨t, by simpa using e⟩
        | succ i => simpa using ih (by simpa using e)
    exact this a hv'
  refine ⟨_, _, _, _, _, _, fun i j => decide ((ss.getD i "").cps.toList < (ss.getD j "").cps.toList), rfl, Walks.list (A := A.in1) hh s.heap.objs.size l (Nat.ne_of_lt hlt) xs.toArray, ⟨⟨_, Heap.get?_push_size _ rfl, rfl, rfl⟩, (PySem.IsL.isList (n := n) hl).push _⟩, fun b hb => ?_, by simp; omega, ?_, fun v h' tk hv hk => ?_⟩
  · show b < (s.heap.push _).objs.size
    rw [Heap.size_push]
    simp at hb
    rcases hb with rfl | rfl
    · exact Nat.lt_succ_self _
    · exact Nat.lt_succ_of_lt hlt
  · intro i j vi vj s' Q' E' hi hj q
    obtain ⟨t, rfl⟩ := val i vi hi
    obtain ⟨u, rfl⟩ := val j vj hj
    exact PyProof.Rows.lt_str (A := A.in1) (by simpa using q)
  · obtain ⟨t, rfl⟩ := val _ v hv
    have e : xs.toArray.size - 1 = ss.length - 1 := by simp [hlen]
    rw [e]
    refine hQ _ h' tk (p h' t fun b o _ q => ?_)
    refine hk b o (fun hm => ?_) (Heap.get?_push_of_some _ q)
    rw [List.mem_singleton.mp hm] at q
    exact absurd (Heap.lt_size q) (Nat.lt_irrefl _)
theorem minOf2 (x y : Str) : minOf [x, y] = if y.cps.toList < x.cps.toList then y else x := by
  show [x, y].getD (if decide (y.cps.toList < x.cps.toList) = true then 1 else 0) "" = _
  by_cases h : y.cps.toList < x.cps.toList
  · rw [if_pos (by simpa using h), if_pos h]; rfl
  · rw [if_neg (by simpa using h), if_neg h]; rfl
/-! ## data read off the heap -/
noncomputable def dP (p : Str × Str) : PyData := .tuple [.str p.1, .str p.2]
noncomputable def dT (p : Str × Str × Str) : PyData := .tuple [.str p.1, .str p.2.1, .str p.2.2]
theorem reads_str {h : Heap} {v : Value} {x : Str} (r : StrIs v x) : Reads h v (.str x) [] := by obtain ⟨t, rfl⟩ := r; exact .str x t
theorem reads_strs {h : Heap} {xs : List Value} {ss : List Str} (x : All2 StrIs xs ss) : ReadsAll h xs (ss.map .str) [] := by
  induction x with
  | nil => exact .nil
  | cons r _ ih => exact ReadsAll.cons (as := []) (bs := []) (reads_str r) ih
theorem TR.get {h : Heap} {v : Value} {p : Str × Str × Str} (r : TR h v p) : ∃ a xs, v = .ref a ∧ h.get? a = some (TO xs) ∧ All2 StrIs xs [p.1, p.2.1, p.2.2] := by
  obtain ⟨a, xs, rfl, ho, ra, _⟩ := r
  refine ⟨a, xs, rfl, ho, ?_⟩
  cases ra with
  | cons r1 ra => cases ra with
    | cons r2 ra => cases ra with
      | cons r3 ra => cases ra with
        | nil => exact .cons (atR_str r1) (.cons (atR_str r2) (.cons (atR_str r3) .nil))
theorem reads_PR {h : Heap} {v : Value} {p : Str × Str} (r : PR h v p) : Reads h v (dP p) [] := by
  obtain ⟨a, t, u, rfl, ho⟩ := r.get
  exact .tuple ho rfl rfl (reads_strs (ss := [p.1, p.2]) (.cons ⟨t, rfl⟩ (.cons ⟨u, rfl⟩ .nil)))
theorem reads_TR {h : Heap} {v : Value} {p : Str × Str × Str} (r : TR h v p) : Reads h v (dT p) [] := by
  obtain ⟨a, xs, rfl, ho, ra⟩ := r.get
  exact .tuple ho rfl rfl (reads_strs ra)
theorem reads_all {β : Type} {R : Heap → Value → β → Prop} {d : β → PyData} {h : Heap} (k : ∀ v b, R h v b → Reads h v (d b) []) {xs : List Value} {bs : List β} (x : SeqL R h xs bs) : ReadsAll h xs (bs.map d) [] := by
  induction x with
  | nil => exact .nil
  | cons r _ ih => exact ReadsAll.cons (as := []) (bs := []) (k _ _ r) ih
theorem reads_list {β : Type} {R : Heap → Value → β → Prop} {d : β → PyData} {h : Heap} {D : Addr} {xs : List Value} {n : Nat} {bs : List β} (k : ∀ v b, R h v b → Reads h v (d b) []) (hD : h.get? D = some (LO xs n)) (r : SeqL R h xs bs) : Reads h (.ref D) (.list (bs.map d)) [D] :=
  .list hD rfl rfl (reads_all k r)
end Mine
open PySem PySem.W PyProof.Rows PySem.Calls
set_option maxRecDepth 100000
set_option maxHeartbeats 4000000
set_option linter.unusedVariables false
namespace Mine
variable {w : World} {A : Around} {Bh : Heap}
theorem ev_iter_tuple {prog : Program} {h : Heap} {t : Addr} {xs : List Value} (ht : h.get? t = some (TO xs)) {P : Value → Heap → Prop}
    (p : ∀ I h' o, Only [] h h' → h.get? I = none → h'.get? I = some o → TSt t 0 o → P (.ref I) h') : Ev (model prog w) A (pyIter (.ref t)) h P := by
  intro E Q s hs hQ
  subst hs
  exact wpAny_pyIter_tuple ⟨_, ht, rfl, 0, rfl⟩ (hQ _ _ s.toks (p _ _ _ only_push (Heap.get?_none_of_le (Nat.le_refl _)) (Heap.get?_push_size _ rfl) ⟨rfl, rfl⟩))
noncomputable def hd1 (SA : List (Str × Str)) : List Str := (SA[0]?.map (·.1)).toList
theorem hd1_len (SA : List (Str × Str)) : (hd1 SA).length ≤ 1 := by cases SA <;> simp [hd1]
/-- a heap of pairs, and its pairs in order -/
noncomputable def HeapOf (Bh gi : Heap) (xs : List Value) (SA : List (Str × Str)) : Prop := ∃ as, SeqL (PairR Bh) gi xs as ∧ IsH as ∧ srt (O := tpO) as = SA.map cP
theorem HeapOf.len {gi : Heap} {xs : List Value} {SA : List (Str × Str)} (x : HeapOf Bh gi xs SA) : xs.length = SA.length := by
  obtain ⟨as, r, _, e⟩ := x
  have := (srt_perm (O := tpO) as).length_eq
  rw [e, List.length_map] at this
  rw [r.len, this]
theorem HeapOf.first {gi : Heap} {x : Value} {xs : List Value} {SA : List (Str × Str)} (h : HeapOf Bh gi (x :: xs) SA) : ∃ p d n t v u SA', SA = (n, v) :: SA' ∧ x = .ref p ∧ IsPair gi p (.str n t) (.str v u) ∧ d = () := by
  obtain ⟨as, r, hp, e⟩ := h
  cases r with
  | @cons _ a _ as r rs =>
    obtain ⟨_, p, n, t, v, u, rfl, ip, rfl⟩ := (r : PairR Bh gi x a)
    have e0 := heap_head hp
    rw [e] at e0
    cases SA with
    | nil => simp at e0
    | cons q SA =>
      have e1 : pr n v = cP q := by simpa using e0
      have e2 : (n, v) = q := cP_inj (show cP (n, v) = cP q from e1)
      subst e2
      exact ⟨p, (), n, t, v, u, SA, rfl, rfl, ip, rfl⟩
theorem two_turn {gi h : Heap} {l1 l2 : Addr} {xs1 xs2 : List Value} {n1 n2 : Nat} {SA SB : List (Str × Str)} (g1 : h.get? l1 = some (LO xs1 n1)) (g2 : h.get? l2 = some (LO xs2 n2)) (H1 : HeapOf Bh gi xs1 SA) (H2 : HeapOf Bh gi xs2 SB) {i : Nat} {v : Value} (hi : i < 2) (hv : [Value.ref l1, Value.ref l2][i]? = some v) :
    ∃ lx xx nxx SX, v = .ref lx ∧ h.get? lx = some (LO xx nxx) ∧ HeapOf Bh gi xx SX ∧ (([hd1 SA, hd1 SB].take (i + 1)).flatMap id) = (([hd1 SA, hd1 SB].take i).flatMap id) ++ hd1 SX ∧ (([hd1 SA, hd1 SB].take i).flatMap id).length ≤ 1 := by
  match i, hi, hv with
  | 0, _, hv => exact ⟨l1, xs1, n1, SA, (Option.some.inj hv).symm, g1, H1, by simp, by simp⟩
  | 1, _, hv => exact ⟨l2, xs2, n2, SB, (Option.some.inj hv).symm, g2, H2, by simp, by simp [hd1_len]⟩
theorem fresh_notin {g h : Heap} {L D : Addr} {m : Str → Option Value} {led : List (Addr × Obj)} (F : Fm g L h m) (N : Nw g L h led) (d : h.get? D = none) : D ∉ L :: led.map (·.1) := fun q => by
  obtain ⟨o, e⟩ := (led_x0 F N D q).2
  rw [d] at e; cases e
/-- a new pair of texts, as an element -/
theorem ev_double {cenv : Env} {e1 e2 : Expr} {k : Nat} {px : Pos} {h0 h : Heap} {m : Str → Option Value} {x y : Str} {t u : Tok} {P : Value → Heap → Prop} (F : Fm (hideAll h0 [cenv.locals]) cenv.locals h m)
    (q : EvL (model pw w) A cenv [e1, e2] h fun vs h' => vs = [.str x t, .str y u] ∧ h' = h)
    (p : ∀ T h', Fm (hideAll h0 [cenv.locals]) cenv.locals h' m → (∀ gE G, Kp gE G → NewIn [cenv.locals] h0 h' G → PR G (.ref T) (x, y)) → P (.ref T) h')
    (he : starEach [e1, e2] cenv = plainEach cenv [e1, e2] := by rfl) : Ev (model pw w) A (eval (.Tuple [e1, e2] k px) cenv) h P := by
  refine ev_tuple ?_ he
  refine Ev.mono q fun v1 h1 q1 => Ev.mono q1 fun v2 h2 q2 => ?_
  obtain ⟨e, rfl⟩ := q2
  refine ev_newTuple (by simp) (by simp) fun T h4 o4 d4 g4 => ?_
  have F4 := Fm.o F o4
  rw [e] at g4
  obtain ⟨n1, n2⟩ := F.new d4
  exact p T h4 F4 fun gE G k1 k2 => PR.mk (k2 T _ n1 n2 g4)
theorem asc_head {SA : List (Str × Str)} (hA : Asc (O := tpO) (SA.map cP)) {nm : Str} (h : ∀ q, SA[0]? = some q → ¬ aS q.1 < aS nm) : ∀ p ∈ SA, ¬ aS p.1 < aS nm := by
  cases SA with
  | nil => intro p hp; cases hp
  | cons b r =>
    intro p hp
    rcases List.mem_cons.mp hp with rfl | hp
    · exact h _ rfl
    · have := (List.pairwise_cons.mp (show Asc (O := tpO) (cP b :: r.map cP) from hA)).1 (cP p) (List.mem_map_of_mem hp)
      intro q
      rcases List.le_iff_lt_or_eq.mp (List.not_lt.mp (name_le this)) with k | k
      · exact h b rfl (List.lt_trans k q)
      · exact h b rfl (by rw [k]; exact q)
theorem min_le {SA SB : List (Str × Str)} (hA : Asc (O := tpO) (SA.map cP)) (hB : Asc (O := tpO) (SB.map cP)) (hne : hd1 SA ++ hd1 SB ≠ []) :
    (∀ p ∈ SA, ¬ aS p.1 < aS (minOf (hd1 SA ++ hd1 SB))) ∧ (∀ p ∈ SB, ¬ aS p.1 < aS (minOf (hd1 SA ++ hd1 SB))) ∧ ((∃ p, SA[0]? = some p ∧ p.1 = minOf (hd1 SA ++ hd1 SB)) ∨ ∃ p, SB[0]? = some p ∧ p.1 = minOf (hd1 SA ++ hd1 SB)) := by
  have iff : ∀ x y : Str, (y.cps.toList < x.cps.toList) ↔ aS y < aS x := fun x y => by simp [aS, List.cons_lt_cons_iff]
  cases SA with
  | nil => cases SB with
    | nil => simp [hd1] at hne
    | cons b r =>
      have e : minOf (hd1 [] ++ hd1 (b :: r)) = b.1 := rfl
      rw [e]
      exact ⟨(by simp), asc_head hB fun q hq => by simp at hq; subst hq; exact List.lt_irrefl _, .inr ⟨b, rfl, rfl⟩⟩
  | cons a s => cases SB with
    | nil =>
      have e : minOf (hd1 (a :: s) ++ hd1 []) = a.1 := rfl
      rw [e]
      exact ⟨asc_head hA fun q hq => by simp at hq; subst hq; exact List.lt_irrefl _, (by simp), .inl ⟨a, rfl, rfl⟩⟩
    | cons b r =>
      have e : minOf (hd1 (a :: s) ++ hd1 (b :: r)) = if b.1.cps.toList < a.1.cps.toList then b.1 else a.1 := minOf2 _ _
      rw [e]
      by_cases q : b.1.cps.toList < a.1.cps.toList
      · rw [if_pos q]
        have q' := (iff _ _).mp q
        exact ⟨asc_head hA fun p hp => by simp at hp; subst hp; exact fun k => List.lt_irrefl _ (List.lt_trans k q'), asc_head hB fun p hp => by simp at hp; subst hp; exact List.lt_irrefl _, .inr ⟨b, rfl, rfl⟩⟩
      · rw [if_neg q]
        have q' : ¬ aS b.1 < aS a.1 := fun k => q ((iff _ _).mpr k)
        exact ⟨asc_head hA fun p hp => by simp at hp; subst hp; exact List.lt_irrefl _, asc_head hB fun p hp => by simp at hp; subst hp; exact q', .inl ⟨a, rfl, rfl⟩⟩
/-- what a run leaves -/
theorem run_split {gi : Heap} {as as' : List Tp} {SA : List (Str × Str)} {vs : List Str} {nm : Str} {xs' : List Value} (e : srt (O := tpO) as = SA.map cP) (hmin : ∀ p ∈ SA, ¬ aS p.1 < aS nm) (r : SeqL (PairR Bh) gi xs' as') (hp : IsH as')
    (s : srt (O := tpO) as = vs.map (pr nm) ++ srt (O := tpO) as') (t : ∀ b, as'[0]? = some b → b.head? ≠ some (aS nm)) :
    ∃ SA', SA = vs.map (fun v => (nm, v)) ++ SA' ∧ HeapOf Bh gi xs' SA' ∧ (∀ p ∈ SA', aS nm < aS p.1) ∧ Asc (O := tpO) ((vs.map (fun v => (nm, v))).map cP) ∧ (∀ p, SA'[0]? = some p → p.1 ≠ nm) := by
  rw [e] at s
  obtain ⟨SA', e1, e2⟩ := split_run s
  have hs : Asc (O := tpO) (SA.map cP) := e ▸ srt_asc (O := tpO) as
  rw [e1, List.map_append] at hs
  have hs' := List.pairwise_append.mp hs
  have hh : ∀ p, SA'[0]? = some p → p.1 ≠ nm := fun p hp0 q => by
    have h0 := heap_head hp
    rw [e2] at h0
    have h1 : as'[0]? = some (cP p) := by rw [h0]; simp [hp0]
    exact t _ h1 (by simp [cP, q])
  refine ⟨SA', e1, ⟨as', r, hp, e2⟩, names_gt hs'.2.1 fun p hp0 => ⟨hh p hp0, ?_⟩, hs'.1, hh⟩
  exact hmin p (by rw [e1]; exact List.mem_append_right _ (List.mem_of_getElem? hp0))
theorem lc_heads {p1 p2 p3 p4 p5 p6 p7 p8 pos : Pos} {iter : Expr} {scope : Scope} {env : Env} (B : Base w Bh) (Rm : Room A 9) {g h14 gi : Heap} {m : Str → Option Value} {led : List (Addr × Obj)} (F14 : Fm g env.locals h14 m) (N14 : Nw g env.locals h14 led) (kBg : Kp Bh g) (kgi : Kp gi g)
    {T l1 l2 : Addr} {xs1 xs2 : List Value} {n1 n2 : Nat} {SA SB : List (Str × Str)} (g14 : h14.get? T = some (TO [.ref l1, .ref l2])) (g1 : h14.get? l1 = some (LO xs1 n1)) (g2 : h14.get? l2 = some (LO xs2 n2)) (H1 : HeapOf Bh gi xs1 SA) (H2 : HeapOf Bh gi xs2 SB)
    (hk : ∀ C, (cenvc scope [] C env).scope.kind = .function) (lh : ∀ C, (cenvc scope [] C env).kindOf "heap" = some .local) {P : Value → Heap → Prop}
    (fin : ∀ D h5 ys k gN, Kp g gN → Fm gN env.locals h5 m → Nw gN env.locals h5 ((D, LO ys k) :: led) → SeqL SR gN ys (hd1 SA ++ hd1 SB) → P (.ref D) h5) :
    Ev (model pw w) A (pyIter (.ref T)) h14 fun it h2 => CompAt w A (.ListComp (.Attribute (.Subscript (.Name "heap" p1) (.Constant (.int 0) 0 p2) p3) "name" p4) [⟨.Name "heap" p5, iter, [.Compare (.Name "heap" p6) [.NotEq] [.List [] p7] p8], 0⟩] scope pos) scope env [] it h2 (ExprPost P) := by
  have nn' : ∀ {a b : Addr} {o : Obj} {h : Heap}, h.get? a = some o → h.get? b = none → a ≠ b := fun e1 e2 q => by rw [← q, e1] at e2; cases e2
  refine ev_iter_tuple g14 fun I h15 oi o15 di gI0 st => ?_
  intro D C h16 o16 d1 dD c1 dc ns nc nd
  have d0 : h14.get? D = none := none_of_kp o15.kp d1
  have c0 : h14.get? C = none := none_of_kp o15.kp c1
  have IC : I ≠ C := nn' gI0 c1
  have ID : I ≠ D := nn' gI0 d1
  have S : CSt h14 [] [] (fun _ => True) C D := ⟨c0, d0, dc, alln, fun _ _ _ _ _ _ x => x, nin0⟩
  have x0 := led_x0 F14 N14
  have o146 : Only [] h14 h16 := o15.trans o16
  have nI : ∀ {b : Addr} {o : Obj}, h14.get? b = some o → b ≠ I := fun e q => by rw [q, di] at e; cases e
  obtain ⟨Y, hY⟩ : ∃ Y : List Addr, Y = C :: D :: env.locals :: led.map (·.1) := ⟨_, rfl⟩
  have mC : C ∈ Y := hY ▸ .head _
  have mD : D ∈ Y := hY ▸ .tail _ (.head _)
  have gY : ∀ x ∈ Y, g.get? x = none := hY ▸ allc (none_of_kp F14.keep c0) (allc (none_of_kp F14.keep d0) fun x hx => (x0 x hx).1)
  have eY : ∀ x ∈ Y, x = C ∨ ∃ o, h16.get? x = some o := hY ▸ allc (.inl rfl) (allc (.inr ⟨_, dD⟩) fun x hx => .inr (let ⟨o, e⟩ := (x0 x hx).2; ⟨o, o146 _ _ nin0 e⟩))
  have In : I ∉ Y := hY ▸ ninc IC (ninc ID fun q => let ⟨_, e⟩ := (x0 I q).2; nI e rfl)
  have hCX : ∀ b ∈ [C], b ∈ I :: Y := subc (.tail _ mC) sub0
  refine fev_list (ifs := [_]) (emit := (do let _ ← call (.builtin "list.append") [.ref D, ← eval _ _])) rfl (by rfl) (Itr.tuple (g := hideAll h14 []) Rm.handled g14 (nn' g14 di))
    (fun i o' h => h.get? I = some o' ∧ CJ h14 g [] (fun _ => True) C D (I :: Y) SR TrueM (([hd1 SA, hd1 SB].take i).flatMap id) h) (fun i o' h x => ⟨x.2.only.kp, x.1⟩) ?_ ?_ st
    ⟨o16 _ _ nin0 gI0, o146, trivial, ⟨_, ns, trivial⟩, ⟨[], 0, dD, fun _ _ _ => .nil⟩, fun x hx => ?_⟩
  · rintro i oi1 h17 v h18 oi2 hi ⟨x2, x3⟩ hv o178 gI2 cI2
    obtain ⟨lx, xx, nxx, SX, rfl, hlx, hHx, hout, hol⟩ := two_turn g1 g2 H1 H2 hi hv
    have j18 := x3.other S di nin0 (.head _) IC ID o178 ⟨_, gI2⟩
    obtain ⟨m18, ns18, _⟩ := j18.fr
    obtain ⟨ysD, kD, hD18, hrD⟩ := j18.acc
    have k18 : Kp h14 h18 := j18.only.kp
    have Fs : Fm (hideAll h18 [C]) C h18 m18 := ⟨ns18, fun b ob e => of_hideAll _ e, hideAll_none _ (.head _)⟩
    have kgE : Kp g (hideAll h18 (I :: Y)) := kp_hid (F14.keep.trans' k18) (allc (none_of_kp F14.keep di) gY)
    have lD : ysD.length ≤ 1 := by
      rw [(hrD _ kgE fun b o e1 e2 e3 => hideAll_get _ e3 e2).len]; exact hol
    refine ev_own_name (ev_asg_name (ev_st Fs Nw.nil (fun h19 F19 N19 => ev_tests1 (ev_isTrue_compare (ev_ld F19 rfl (ev_list (ev_newList (by simp) fun E h20 o20 d20 g20 => ?_)) (hk C) (lh C)))) (hk C) (lh C)))
    have F20 := Fm.o F19 o20
    have k20 : Kp h14 h20 := F20.kpC k18 c0
    refine ev_ne_nil (Rm.le (by decide)) (k20 _ _ hlx) g20 (ev_truthy_bool ?_)
    have keep20 : ∀ {b ob h m}, Fm (hideAll h18 [C]) C h m → h18.get? b = some ob → b ≠ C → h.get? b = some ob := fun F e n => F.keep _ _ (hideAll_get _ e (nin1 n))
    cases xx with
    | nil =>
      obtain rfl : SX = [] := List.length_eq_zero_iff.mp hHx.len.symm
      refine iff0 ?_
      exact ⟨keep20 F20 gI2 IC, by rw [hout]; simpa [hd1] using j18.step S hCX F20 trivial trivial⟩
    | cons x xx =>
      obtain ⟨pp, _, nm, tt, vv, uu, SX', rfl, rfl, ip, _⟩ := hHx.first
      refine ift ?_
      refine ev_emit (ys := ysD) (n := kD) (by omega) (ev_attr (ev_sub (ev_ld F20 rfl (ev_int fun _ => ev_tail_list (k20 _ _ hlx) (by decide) (by decide) rfl ?_) (hk C) (lh C))))
      refine ev_name B ((kBg.trans' F14.keep).trans' k20) (Rm.le (by decide)) (ip.up ((kgi.trans' F14.keep).trans' k20)) rfl fun h21 o21 => ?_
      have F21 := Fm.o F20 o21
      have j21 := j18.step S hCX F21 trivial trivial (Km' := TrueM)
      refine ⟨keep20 F21 hD18 dc, fun h22 o22 g22 => ⟨o22 _ _ (nin1 ID) (keep20 F21 gI2 IC), ?_⟩⟩
      rw [hout]
      exact j21.push S (.tail _ mD) (keep20 F21 hD18 dc) o22 g22 fun _ _ _ => ⟨tt, rfl⟩
  · rintro oi1 h17 h18 ⟨x2, x3⟩ o178
    obtain ⟨ysD, kD, hD, hrD⟩ := x3.acc
    obtain ⟨m17, ns17, _⟩ := x3.fr
    have j18 : CJ h14 g [] (fun _ => True) C D Y SR TrueM (hd1 SA ++ hd1 SB) h18 := by
      refine ⟨fun b ob hb e => o178 b ob (fun q => ?_) (x3.only b ob hb e), trivial, ⟨m17, ns_only o178 (nin1 IC.symm) ns17, trivial⟩, ⟨ysD, kD, o178 _ _ (nin1 ID.symm) hD, fun G k1 k2 => by simpa using hrD G k1 fun b ob e1 e2 e3 => k2 b ob e1 (fun q => e2 (.tail _ q)) (o178 _ _ (fun q => e2 (by rw [List.mem_singleton.mp q]; exact .head _)) e3)⟩, fun x hx => ?_⟩
      · rw [List.mem_singleton.mp q, di] at e; cases e
      · exact (x3.ex x (.tail _ hx)).imp id fun ⟨ob, e⟩ => ⟨ob, o178 _ _ (fun q => In (by rw [List.mem_singleton.mp q] at hx; exact hx)) e⟩
    exact crs_expr F14 N14 S (hY ▸ j18) fun D' h19 ys' k' gN d19 o19 kN F19 N19 r19 _ => fin D' h19 ys' k' gN kN F19 N19 r19
  · rcases List.mem_cons.mp hx with rfl | hx
    · exact .inr ⟨_, o16 _ _ nin0 gI0⟩
    · exact (eY x hx).elim (fun q => .inl (q ▸ .head _)) .inr
theorem nodup6L {a b c d e f : Addr} (h1 : a ≠ b ∧ a ≠ c ∧ a ≠ d ∧ a ≠ e ∧ a ≠ f) (h2 : b ≠ c ∧ b ≠ d ∧ b ≠ e ∧ b ≠ f) (h3 : c ≠ d ∧ c ≠ e ∧ c ≠ f) (h4 : d ≠ e ∧ d ≠ f) (h5 : e ≠ f) : [a, b, c, d, e, f].Nodup := by
  obtain ⟨a1, a2, a3, a4, a5⟩ := h1
  obtain ⟨b1, b2, b3, b4⟩ := h2
  exact .cons (allc a1 (allc a2 (allc a3 (allc a4 (allc a5 alln))))) (.cons (allc b1 (allc b2 (allc b3 (allc b4 alln)))) (.cons (allc h3.1 (allc h3.2.1 (allc h3.2.2 alln))) (.cons (allc h4.1 (allc h4.2 alln)) (.cons (allc h5 alln) (.cons alln .nil)))))
inductive HI (Bh gi g0 : Heap) (L l1 l2 lr la c1 c2 : Addr) (totR : List (Str × Str × Str)) (totA : List (Str × Str)) (d : Nat) (h : Heap) : Prop
  | mk {g : Heap} {m : Str → Option Value} {xs1 xs2 zs us : List Value} {n1 n2 kr ka : Nat} {o1 o2 : Obj} {SA SB : List (Str × Str)} {rows : List (Str × Str × Str)} {alone : List (Str × Str)} (kg : Kp g0 g) (F : Fm g L h m)
    (N : Nw g L h [(l1, LO xs1 n1), (l2, LO xs2 n2), (lr, LO zs kr), (la, LO us ka), (c1, o1), (c2, o2)]) (m1 : m "ones" = some (.ref l1)) (m2 : m "others" = some (.ref l2)) (m3 : m "rows" = some (.ref lr)) (m4 : m "alone" = some (.ref la))
    (d1 : ∃ v, o1.data = .cell v) (d2 : ∃ v, o2.data = .cell v) (h1 : HeapOf Bh gi xs1 SA) (h2 : HeapOf Bh gi xs2 SB) (r3 : SeqL TR g zs rows) (r4 : SeqL PR g us alone) (e3 : rows ++ joinR SA SB = totR) (e4 : alone ++ sortC cP (unF SA SB) = totA)
    (z1 : SA.length < 30) (z2 : SB.length < 30) (hd : d = SA.length + SB.length) : HI Bh gi g0 L l1 l2 lr la c1 c2 totR totA d h
theorem law_by_heaps_C (B : Base w Bh) {h : Heap} (kb : Kp Bh h) (room : Room A 10) {l r : Addr} {xs ys : List Value} {n k : Nat} {pa pb : List (Str × Str)} (hl : h.get? l = some (LO xs n)) (hr : h.get? r = some (LO ys k)) {gi : Heap} (kgi : Kp gi h)
    (ra : SeqL (PairR Bh) gi xs (pa.map cP)) (rb : SeqL (PairR Bh) gi ys (pb.map cP)) (ha : pa.length < 30) (hb : pb.length < 30) (hz : (rowsOf pa pb).length < 64) {P : Value → Heap → Prop}
    (p : ∀ v h' as, Only [] h h' → Reads h' v (.tuple [.list ((rowsOf pa pb).map dT), .list ((aloneOf pa pb).map dP)]) as → P v h') :
    CEv (model pw w) A (.call (.ref 316) ⟨[.ref l, .ref r], []⟩) h P := by
  refine CEv.fngc B kb (n := 9) room kp_all (fa := 316) (c := 315) [("left", .ref l), ("right", .ref r)] rfl rfl rfl rfl rfl rfl rfl (fun s hs => BindsTo.of_eq (by rfl)) (fun L => by rfl) ?_
  intro L h₁ Rm k1 nL F CC
  obtain ⟨oc1, hc1, dc1, _, nc1, cL1, cg1⟩ := CC "name" (nx L) (by rfl)
  obtain ⟨oc2, hc2, dc2, _, nc2, cL2, cg2⟩ := CC "there" (nx L + 1) (by rfl)
  have N : Nw (hideAll h []) L h₁ [(nx L, oc1), (nx L + 1, oc2)] := (Nw.nil.cons hc2 cL2 cg2).cons hc1 cL1 cg1
  have nn : ∀ {a b : Addr} {o : Obj} {h : Heap}, h.get? a = some o → h.get? b = none → b ≠ a := fun e1 e2 q => by rw [q, e1] at e2; cases e2
  have nn' : ∀ {a b : Addr} {o : Obj} {h : Heap}, h.get? a = some o → h.get? b = none → a ≠ b := fun e1 e2 q => by rw [← q, e1] at e2; cases e2
  have nnL : ∀ {g h : Heap} {m : Str → Option Value} {b : Addr}, Fm g L h m → h.get? b = none → b ≠ L := fun F e q => by
    obtain ⟨o, _, _, ho, _⟩ := F.ns
    rw [← q, e] at ho; cases ho
  have hle := ra.len
  have hle2 := rb.len
  simp only [List.length_map] at hle hle2
  have kgh : Kp gi (hideAll h []) := kgi.trans' kp_all
  have kbh : Kp Bh (hideAll h []) := kb.trans' kp_all
  refine ev_cons (ev_assign (ev_list (ev_newList (by simp) fun l1 h2 o2 d2 g2 => ?_)))
  have F2 := Fm.o F o2
  have N2 := Nw.o N o2
  refine ev_st F2 (N2.cons g2 (nnL F d2) (none_of_kp F.keep d2)) fun h3 F3 N3 => ?_
  have l1c1 := nn hc1 d2
  have l1c2 := nn hc2 d2
  have b1 : Bh.get? l1 = none := none_of_kp (kbh.trans' F.keep) d2
  have i1 : gi.get? l1 = none := none_of_kp (kgh.trans' F.keep) d2
  refine ev_cons (ev_for (ev_ld F3 rfl (ev_for_list ownName Rm.handled F3 N3 (l := l) (xs := xs) (n := n) hl (fun i m led => ∃ ys k as, led = [(l1, LO ys k), (nx L, oc1), (nx L + 1, oc2)] ∧ m "ones" = some (.ref l1) ∧ m "right" = some (.ref r) ∧ SeqL (PairR Bh) gi ys as ∧ IsH as ∧ as.Perm ((pa.map cP).take i)) ⟨[], 0, [], rfl, rfl, rfl, .nil, IsHeap.nil, by simp⟩ ?_ ?_)))
  · rintro i v h4 m led gT hv kT F4 N4 ⟨ys, k, as, rfl, m1, m2, r4, hp4, pe4⟩
    have hi : i < xs.length := (List.getElem?_eq_some_iff.mp hv).1
    obtain ⟨a, ha'⟩ : ∃ a, (pa.map cP)[i]? = some a := ⟨_, List.getElem?_eq_getElem (by rw [← ra.len]; exact hi)⟩
    obtain ⟨v', hv', rv⟩ := ra.at ha'
    rw [hv] at hv'
    obtain rfl := Option.some.inj hv'
    have hz4 : ys.length ≤ i := by rw [r4.len, pe4.length_eq, List.length_take]; exact Nat.min_le_left _ _
    refine ev_asg_name (ev_st F4 N4 fun h5 F5 N5 => ?_)
    have kB : Kp Bh h5 := (kbh.trans' kT).trans' F5.keep
    refine ev_cons (ev_expr (ev_call (ev_glob B kB (.ref 213) rfl (ev_ld F5 (v := .ref l1) m1 (ev_ld F5 rfl ⟨.inK B kB rfl, Ev.call (heappush_C (pairI B) B kB (Rm.le (by decide)) (N5.at (.head _)) b1 (by omega) ((kgh.trans' kT).trans' F5.keep) i1 r4 rv fun h6 xs6 n6 o6 g6 r6 => ev_nil ?_)⟩)))))
    have F6 := Fm.o1 F5 N5 o6
    have N6 := Nw.o1 N5 o6 g6 (allc (l1c1.symm) (allc (l1c2.symm) alln))
    obtain ⟨q1, q2⟩ := hpush_heap (O := tpO) (a := a) hp4
    refine ⟨_, _, F6, N6, xs6, n6, _, rfl, m1, m2, r6, q1, q2.trans ?_⟩
    rw [List.take_add_one, ha']
    exact pe4.append_right [a]
  rintro h4 m led F4 N4 ⟨zs, k4, as, rfl, m1, m2, r4, hp4, pe4⟩
  rw [List.take_of_length_le (by rw [ra.len]; exact Nat.le_refl _)] at pe4
  refine ev_cons (ev_assign (ev_call (ev_bi B (kbh.trans' F4.keep) (.type "list") rfl rfl (ev_ld F4 m2 ⟨.type, ev_listOf (F4.keep _ _ hr) (by omega) fun l2 h5 k5 o5 d5 g5 => ?_⟩))))
  have F5 := Fm.o F4 o5
  have N5 := Nw.o N4 o5
  have l2n : ∀ p ∈ [(l1, LO zs k4), (nx L, oc1), (nx L + 1, oc2)], l2 ≠ p.1 := fun p hp => nn (N4.at hp) d5
  have b2 : Bh.get? l2 = none := none_of_kp (kbh.trans' F4.keep) d5
  have i2 : gi.get? l2 = none := none_of_kp (kgh.trans' F4.keep) d5
  refine ev_st F5 (N5.cons g5 (nnL F4 d5) (none_of_kp F4.keep d5)) fun h6 F6 N6 => ?_
  have kB6 := kbh.trans' F6.keep
  refine ev_cons (ev_expr (ev_call (ev_glob B kB6 (.ref 227) rfl (ev_ld F6 rfl ⟨.inK B kB6 rfl, Ev.call (heapify_C (pairI B) B kB6 (Rm.le (by decide)) (N6.at (.head _)) b2 (by omega) (kgh.trans' F6.keep) i2 rb fun h7 ys7 n7 o7 g7 r7 => ?_)⟩))))
  have F7 := Fm.o1 F6 N6 o7
  have N7 := Nw.o1 N6 o7 g7 (fun p hp => (l2n p hp).symm)
  obtain ⟨q1, q2⟩ := heapify_heap (O := tpO) (pb.map cP)
  rw [← hfy_eq] at q1 q2
  refine ev_cons (ev_assign (ev_list (ev_newList (by simp) fun lr h8 o8 d8 g8 => ?_)))
  have F8 := Fm.o F7 o8
  have N8 := Nw.o N7 o8
  refine ev_st F8 (N8.cons g8 (nnL F7 d8) (none_of_kp F7.keep d8)) fun h9 F9 N9 => ?_
  refine ev_cons (ev_assign (ev_list (ev_newList (by simp) fun la h10 o10 d10 g10 => ?_)))
  have F10 := Fm.o F9 o10
  have N10 := Nw.o N9 o10
  refine ev_st F10 (N10.cons g10 (nnL F9 d10) (none_of_kp F9.keep d10)) fun h11 F11 N11 => ?_
  have lrn : ∀ p ∈ [(l2, LO ys7 n7), (l1, LO zs k4), (nx L, oc1), (nx L + 1, oc2)], lr ≠ p.1 := fun p hp => nn (N7.at hp) d8
  have lan : ∀ p ∈ [(lr, LO [] 0), (l2, LO ys7 n7), (l1, LO zs k4), (nx L, oc1), (nx L + 1, oc2)], la ≠ p.1 := fun p hp => nn (N9.at hp) d10
  have ndL : [l1, l2, lr, la, nx L, nx L + 1].Nodup := by
    have a1 := l2n _ (.head _)
    have a2 := l2n _ (.tail _ (.head _))
    have a3 := l2n _ (.tail _ (.tail _ (.head _)))
    have b1 := lrn _ (.head _)
    have b2 := lrn _ (.tail _ (.head _))
    have b3 := lrn _ (.tail _ (.tail _ (.head _)))
    have b4 := lrn _ (.tail _ (.tail _ (.tail _ (.head _))))
    have c1 := lan _ (.head _)
    have c2 := lan _ (.tail _ (.head _))
    have c3 := lan _ (.tail _ (.tail _ (.head _)))
    have c4 := lan _ (.tail _ (.tail _ (.tail _ (.head _))))
    have c5 := lan _ (.tail _ (.tail _ (.tail _ (.tail _ (.head _)))))
    exact nodup6L ⟨a1.symm, b2.symm, c3.symm, l1c1, l1c2⟩ ⟨b1.symm, c2.symm, a2, a3⟩ ⟨c1.symm, b3, b4⟩ ⟨c4, c5⟩ (Nat.succ_ne_self (nx L)).symm
  have e1 : srt (O := tpO) as = (sortC cP pa).map cP := by rw [← srt_map]; exact srt_perm_eq pe4
  have e2 : srt (O := tpO) (hfy (pairI B).lt ((pb.map cP).length / 2) (pb.map cP)) = (sortC cP pb).map cP := by rw [← srt_map]; exact srt_perm_eq q2
  obtain ⟨I, hI⟩ : ∃ I : Nat → Heap → Prop, ∀ d h', I d h' ↔ HI Bh gi (hideAll h []) L l1 l2 lr la (nx L) (nx L + 1) (rowsOf pa pb) (aloneOf pa pb) d h' := ⟨_, fun _ _ => Iff.rfl⟩
  have J0 : I ((sortC cP pa).length + (sortC cP pb).length) h11 := (hI _ _).2
    ⟨fun _ _ e => e, F11, (((((Nw.nil.add N11 (.tail _ (.tail _ (.tail _ (.tail _ (.tail _ (.head _))))))).add N11 (.tail _ (.tail _ (.tail _ (.tail _ (.head _)))))).add N11 (.head _)).add N11 (.tail _ (.head _))).add N11 (.tail _ (.tail _ (.head _)))).add N11 (.tail _ (.tail _ (.tail _ (.head _)))), m1, rfl, rfl, rfl, ⟨_, dc1⟩, ⟨_, dc2⟩, ⟨as, r4, hp4, e1⟩, ⟨_, r7, q1, e2⟩, .nil, .nil, rfl, by rw [List.nil_append]; exact alone_sorted pa pb, by rw [sortC_len]; exact ha, by rw [sortC_len]; exact hb, rfl⟩
  refine ev_cons (Ev.mono (P := fun f h' => f = .next ∧ I 0 h') ?_ ?_)
  · refine ev_while I ?_ _ J0
    intro d h12 hi
    obtain @⟨g, m, xs1, xs2, zs', us, n1, n2, kr, ka, o1, o2, SA, SB, rows, alone, jkg, F, N, jm1, jm2, jm3, jm4, jd1, jd2, jh1, jh2, jr3, jr4, je3, je4, z1, z2, rfl⟩ := (hI _ _).1 hi
    have L1 := jh1.len
    have L2 := jh2.len
    refine Ev.mono (P := fun b h13 => b = (!xs1.isEmpty || !xs2.isEmpty) ∧ Only [] h12 h13) ?_ ?_
    · refine ev_isTrue_or (ev_isTrue_compare (ev_ld F jm1 (ev_list (ev_newList (by simp) fun E h13 o13 d13 g13 => ?_))))
      have F13 := Fm.o F o13
      have N13 := Nw.o N o13
      refine ev_ne_nil (Rm.le (by decide)) (N13.at (.head _)) g13 (ev_truthy_bool ?_)
      cases xs1 with
      | cons _ _ => exact ⟨rfl, o13⟩
      | nil =>
        refine iff0 ?_
        refine ev_isTrue_compare (ev_ld F13 jm2 (ev_list (ev_newList (by simp) fun E h14 o14 d14 g14 => ?_)))
        have F14 := Fm.o F13 o14
        have N14 := Nw.o N13 o14
        exact ev_ne_nil (Rm.le (by decide)) (N14.at (.tail _ (.head _))) g14 (ev_truthy_bool ⟨rfl, o13.trans o14⟩)
    rintro b h13 ⟨rfl, o13⟩
    have F13 := Fm.o F o13
    have N13 := Nw.o N o13
    by_cases hE : xs1 = [] ∧ xs2 = []
    · obtain ⟨rfl, rfl⟩ := hE
      refine iff0 ?_
      obtain rfl : SA = [] := List.length_eq_zero_iff.mp L1.symm
      obtain rfl : SB = [] := List.length_eq_zero_iff.mp L2.symm
      exact ev_nil ⟨rfl, (hI _ _).2 ⟨jkg, F13, N13, jm1, jm2, jm3, jm4, jd1, jd2, jh1, jh2, jr3, jr4, je3, je4, z1, z2, rfl⟩⟩
    have hT : (!xs1.isEmpty || !xs2.isEmpty) = true := by
      cases xs1 <;> cases xs2 <;> simp at hE ⊢
    rw [hT]
    refine ift ?_
    -- name = min(...)
    have hns : hd1 SA ++ hd1 SB ≠ [] := by
      intro q
      rcases List.append_eq_nil_iff.mp q with ⟨q1, q2⟩
      refine hE ⟨?_, ?_⟩
      · cases SA with
        | nil => exact List.length_eq_zero_iff.mp L1
        | cons p SA => simp [hd1] at q1
      · cases SB with
        | nil => exact List.length_eq_zero_iff.mp L2
        | cons p SB => simp [hd1] at q2
    refine ev_cons (Ev.mono (P := fun f h' => f = .next ∧ ∃ g' o1' t, Kp g g' ∧ o1'.data = .cell (some (.str (minOf (hd1 SA ++ hd1 SB)) t)) ∧ Fm g' L h' m ∧ Nw g' L h' [(l1, LO xs1 n1), (l2, LO xs2 n2), (lr, LO zs' kr), (la, LO us ka), (nx L, o1'), (nx L + 1, o2)]) ?_ ?_)
    · have kB13 : Kp Bh h13 := kbh.trans' (jkg.trans' F13.keep)
      refine ev_assign (ev_call (ev_bi B kB13 (.builtin "min") (by rfl) (by rfl) (ev_lc (cl := []) (ev_tuple (ev_ld F13 jm1 (ev_ld F13 jm2 (ev_newTuple (by simp) (by simp) fun T h14 o14 d14 g14 => ?_)))))))
      have F14 := Fm.o F13 o14
      have N14 := Nw.o N13 o14
      refine lc_heads B Rm F14 N14 (kbh.trans' jkg) (kgh.trans' jkg) g14 (N14.at (.head _)) (N14.at (.tail _ (.head _))) jh1 jh2 (fun _ => rfl) (fun _ => rfl) fun D' h19 ys' k' gN kN F19 N19 r19 => ⟨.builtin, ev_min_strs Rm.handled (N19.at (.head _)) r19 hns fun h20 t20 o20 => ?_⟩
      have F20 := Fm.o F19 o20
      have N20 := Nw.o N19 o20
      obtain ⟨v1, hv1⟩ := jd1
      refine ev_stc (N20.at (.tail _ (.tail _ (.tail _ (.tail _ (.tail _ (.head _))))))) hv1 fun h21 o21' o21 g21 d21 => ⟨rfl, ?_⟩
      have F21 := Fm.put F20 N20.tl 4 rfl o21
      have N21 := Nw.put1 N20.tl ndL 4 rfl o21 g21
      exact ⟨gN, o21', t20, kN, d21, F21, N21⟩
    rintro f h14 ⟨rfl, g14, oc14, tn, kg14, d14, F14, N14⟩
    obtain ⟨as1, r1, hp1, e1⟩ := jh1
    obtain ⟨as2, r2, hp2, e2⟩ := jh2
    obtain ⟨mA, mB, mH⟩ := min_le (e1 ▸ srt_asc (O := tpO) as1) (e2 ▸ srt_asc (O := tpO) as2) hns
    generalize hnm : minOf (hd1 SA ++ hd1 SB) = nm at *
    have kg0 : Kp (hideAll h []) g14 := jkg.trans' kg14
    have kB14 := kbh.trans' (kg0.trans' F14.keep)
    refine ev_cons (ev_assign (ev_call (ev_glob B kB14 (.ref 311) rfl (ev_ld F14 jm1 (ev_ldc (N14.at (.tail _ (.tail _ (.tail _ (.tail _ (.head _)))))) d14 ⟨.inK B kB14 rfl, Ev.call (law_run_C B kB14 (Rm.le (by decide)) (N14.at (.head _)) b1 (by omega) (kgh.trans' (kg0.trans' F14.keep)) i1 r1 hp1 fun D1 h15 xs1' n1' as1' ys1 k1' vs o15 g15 r15 hp15 dd15 gd15 a15 s15 t15 => ?_)⟩)))))
    have F15 := Fm.put F14 N14 0 rfl o15
    have N15 := Nw.put1 N14 ndL 0 rfl o15 g15
    obtain ⟨k16, F16, N16⟩ := reground F15 N15
    have D1g := hideAll_get _ gd15 (fresh_notin F14 N14 dd15)
    refine ev_st F16 N16 fun h17 F17 N17 => ?_
    have kg17 := kg0.trans' k16
    have kB17 := kbh.trans' (kg17.trans' F17.keep)
    refine ev_cons (ev_assign (ev_call (ev_glob B kB17 (.ref 311) rfl (ev_ld F17 (v := .ref l2) jm2 (ev_ldc (N17.at (.tail _ (.tail _ (.tail _ (.tail _ (.head _)))))) d14 ⟨.inK B kB17 rfl, Ev.call (law_run_C B kB17 (Rm.le (by decide)) (N17.at (.tail _ (.head _))) b2 (by omega) (kgh.trans' (kg17.trans' F17.keep)) i2 r2 hp2 fun D2 h18 xs2' n2' as2' ys2 k2' ws o18 g18 r18 hp18 dd18 gd18 a18 s18 t18 => ?_)⟩)))))
    have F18 := Fm.put F17 N17 1 rfl o18
    have N18 := Nw.put1 N17 ndL 1 rfl o18 g18
    obtain ⟨k19, F19, N19⟩ := reground F18 N18
    have D2g := hideAll_get _ gd18 (fresh_notin F17 N17 dd18)
    obtain ⟨v2, hv2⟩ := jd2
    refine ev_stc (N19.at (.tail _ (.tail _ (.tail _ (.tail _ (.tail _ (.head _))))))) hv2 fun h20 o20' o20 g20 d20 => ?_
    have F20 := Fm.put F19 N19 5 rfl o20
    have N20 := Nw.put1 N19 ndL 5 rfl o20 g20
    have D1g' := k19 _ _ D1g
    -- rows
    obtain ⟨SA', eA, HA', gtA, ascV, hdA⟩ := run_split e1 mA r15 hp15 s15 t15
    obtain ⟨SB', eB, HB', gtB, ascW, hdB⟩ := run_split e2 mB r18 hp18 s18 t18
    have ej := joinR_step (nm := nm) (vs := vs) (ws := ws) (SA := SA') (SB := SB') (fun p hp q => List.lt_irrefl _ (q ▸ gtA p hp)) (fun p hp q => List.lt_irrefl _ (q ▸ gtB p hp))
    rw [← eA, ← eB] at ej
    have eu := unF_step (nm := nm) (vs := vs) (ws := ws) (SA := SA') (SB := SB') gtA gtB ascV ascW
    rw [← eA, ← eB] at eu
    have zj : (vs.flatMap fun one => ws.flatMap fun other => [(nm, one, other)]).length + rows.length < 64 := by
      have := congrArg List.length je3
      rw [ej, List.length_append, List.length_append] at this
      omega
    have kg20 := kg17.trans' k19
    have m3' : (upd "here" (.ref D1) m) "rows" = some (.ref lr) := jm3
    refine ev_cons (ev_expr (ev_mcall (ev_ld F20 m3' (ev_method_list (N20.at (.tail _ (.tail _ (.head _)))) PySem.F.slot_list_extend (ev_lc (cl := [("there", nx L + 1), ("name", nx L)]) (ev_ld F20 rfl ?_))))))
    refine lcomp2 (R := SR) (R2 := SR) (R' := TR) (as := vs) (f := fun one => ws.flatMap fun other => [(nm, one, other)]) ownName ownName Rm.handled F20 N20 (F20.keep _ _ D1g') a15 (by omega) ?_ ?_
    · intro C c0 a v h21 m21 ha' rv o21 kE F21
      obtain ⟨t, rfl⟩ := rv
      refine ev_asg_name (ev_st F21 Nw.nil fun h22 F22 N22 => ?_)
      have k22 : Kp h20 h22 := F22.kpC o21.kp c0
      refine ev_ldc (k22 _ _ g20) d20 ⟨D2, ys2, k2', ws, fun other => [(nm, a, other)], fun m => m "one" = some (.str a t), _, rfl, k22 _ _ (F20.keep _ _ D2g), .inl ⟨_, F20.keep _ _ D2g⟩, a18, F22, rfl, rfl, ?_⟩
      intro b v2 h23 m23 hb' rv2 o23 kE23 F23 km _
      obtain ⟨t2, rfl⟩ := rv2
      refine ev_asg_name (ev_st F23 Nw.nil fun h24 F24 N24 => ev_tests0 ?_)
      refine ift ?_
      exact ev_triple F24 (ev_ldc (F24.kpC o23.kp c0 _ _ (N20.at (.tail _ (.tail _ (.tail _ (.tail _ (.head _))))))) d14 (ev_ld F24 (v := .str a t) km (ev_ld F24 rfl ⟨rfl, rfl⟩))) fun T h25 F25 r25 => ⟨_, _, rfl, F25, km, trivial, r25 _⟩
    intro D3 h21 zs3 k3 g21 d21 o21 kg21 F21 N21 r21 _
    have lr3 := r21.len
    have rs3 : SeqL TR g21 zs' rows := jr3.imp fun v b r => r.up (((kg14.trans' k16).trans' k19).trans' kg21)
    have lr4 := rs3.len
    refine ⟨.builtin, ev_extend (N21.at (.tail _ (.tail _ (.tail _ (.head _))))) (N21.at (.head _)) (by omega) fun h22 kr' o22 g22 => ?_⟩
    have F22 := Fm.put F21 N21.tl 2 rfl o22
    have N22 := Nw.put1 N21.tl ndL 2 rfl o22 g22
    have D1h := F22.keep _ _ (kg21 _ _ D1g')
    have D2h := F22.keep _ _ (kg21 _ _ D2g)
    have kg22 := kg20.trans' kg21
    -- alone
    refine ev_cons (ev_if (Ev.mono (P := fun b h23 => b = (vs.isEmpty || ws.isEmpty) ∧ Only [] h22 h23) ?_ ?_))
    · have emp : ∀ {ys : List Value} {vs : List Str}, All2 StrIs ys vs → ys.isEmpty = vs.isEmpty := fun a => by cases a <;> rfl
      refine ev_isTrue_or (ev_isTrue_compare (ev_ld F22 rfl (ev_list (ev_newList (by simp) fun E h23 o23 d23 g23 => ?_))))
      have F23 := Fm.o F22 o23
      have N23 := Nw.o N22 o23
      refine ev_eq_nil (Rm.le (by decide)) (o23 _ _ nin0 D1h) g23 (ev_truthy_bool ?_)
      rw [emp a15]
      cases vs.isEmpty with
      | true => exact ⟨rfl, o23⟩
      | false =>
        refine iff0 ?_
        refine ev_isTrue_compare (ev_ldc (N23.at (.tail _ (.tail _ (.tail _ (.tail _ (.tail _ (.head _))))))) d20 (ev_list (ev_newList (by simp) fun E h24 o24 d24 g24 => ?_)))
        have F24 := Fm.o F23 o24
        have N24 := Nw.o N23 o24
        refine ev_eq_nil (Rm.le (by decide)) (o24 _ _ nin0 (o23 _ _ nin0 D2h)) g24 (ev_truthy_bool ?_)
        rw [emp a18]
        exact ⟨rfl, o23.trans o24⟩
    rintro b h23 ⟨rfl, o23⟩
    have F23 := Fm.o F22 o23
    have N23 := Nw.o N22 o23
    have hpos : 0 < vs.length + ws.length := by
      rcases Nat.eq_zero_or_pos (vs.length + ws.length) with q | q
      · exfalso
        obtain rfl : vs = [] := List.length_eq_zero_iff.mp (by omega)
        obtain rfl : ws = [] := List.length_eq_zero_iff.mp (by omega)
        simp only [List.map_nil, List.nil_append] at eA eB
        subst eA eB
        rcases mH with ⟨p, hp, e⟩ | ⟨p, hp, e⟩
        · exact hdA p hp e
        · exact hdB p hp e
      · exact q
    have zA := congrArg List.length eA
    have zB := congrArg List.length eB
    simp only [List.length_append, List.length_map] at zA zB
    have m4' : (upd "here" (.ref D1) m) "alone" = some (.ref la) := jm4
    have e3' : (rows ++ (vs.flatMap fun one => ws.flatMap fun other => [(nm, one, other)])) ++ joinR SA' SB' = rowsOf pa pb := by rw [List.append_assoc, ← ej]; exact je3
    have r3' : SeqL TR g21 (zs' ++ zs3) (rows ++ (vs.flatMap fun one => ws.flatMap fun other => [(nm, one, other)])) := rs3.append r21
    have r4' : SeqL PR g21 us alone := jr4.imp fun v b r => r.up (((kg14.trans' k16).trans' k19).trans' kg21)
    cases hb : (vs.isEmpty || ws.isEmpty) with
    | false =>
      rw [hb] at eu
      simp only [Bool.false_eq_true, if_false, List.nil_append] at eu ⊢
      exact ev_nil (ev_nil ⟨SA'.length + SB'.length, by omega, (hI _ _).2 ⟨kg22, F23, N23, jm1, jm2, jm3, jm4, ⟨_, d14⟩, ⟨_, d20⟩, HA', HB', r3', r4', e3', by rw [← eu]; exact je4, by omega, by omega, rfl⟩⟩)
    | true =>
      rw [hb] at eu
      simp only [if_true] at eu ⊢
      have D1h' := o23 _ _ nin0 D1h
      have D2h' := o23 _ _ nin0 D2h
      have la1 := a15.len
      have la2 := a18.len
      have laM := N23.at (.tail _ (.tail _ (.tail _ (.head _))))
      have thM := N23.at (.tail _ (.tail _ (.tail _ (.tail _ (.tail _ (.head _))))))
      refine ev_cons (ev_expr (ev_mcall (ev_ld F23 m4' (ev_method_list laM PySem.F.slot_list_extend (ev_lc (cl := [("name", nx L)]) (ev_binop (ev_ld F23 rfl (ev_ldc thM d20 (ev_addl D1h' D2h' (by omega) fun D4 h24 o24 d24 g24 => ?_)))))))))
      have F24 := Fm.o F23 o24
      have N24 := Nw.o N23 o24
      refine lcomp1 (R := SR) (R' := PR) (as := vs ++ ws) (f := fun v => [(nm, v)]) ownName Rm.handled F24 N24 g24 (SeqL.append (R := SR) (h := g21) a15 a18) (by rw [flat_one, List.length_map, List.length_append]; omega) ?_ ?_
      · intro C c0 a v h25 m25 ha' rv o25 kE F25 km _
        obtain ⟨t, rfl⟩ := rv
        refine ev_asg_name (ev_st F25 Nw.nil fun h26 F26 N26 => ev_tests0 ?_)
        refine ift ?_
        exact ev_double F26 (ev_ldc (F26.kpC o25.kp c0 _ _ (N24.at (.tail _ (.tail _ (.tail _ (.tail _ (.head _))))))) d14 (ev_ld F26 rfl ⟨rfl, rfl⟩)) fun T h27 F27 r27 => ⟨_, _, rfl, F27, trivial, trivial, r27 _⟩
      intro D5 h25 zs5 k5 g25 d25 o25 kg25 F25 N25 r25 _
      have lr5 := r25.len
      rw [flat_one, List.length_map, List.length_append] at lr5
      have le4 := (r4'.len)
      have z4 : alone.length ≤ 60 := by
        have := congrArg List.length je4
        rw [List.length_append, sortC_len] at this
        have z5 : (aloneOf pa pb).length ≤ pa.length + pb.length := by
          unfold aloneOf
          rw [sortC_len, List.length_append]
          exact Nat.add_le_add (List.length_filter_le _ _) (List.length_filter_le _ _)
        omega
      refine ⟨.builtin, ev_extend (N25.at (.tail _ (.tail _ (.tail _ (.tail _ (.head _)))))) (N25.at (.head _)) (by omega) fun h26 ka' o26 g26 => ?_⟩
      have F26 := Fm.put F25 N25.tl 3 rfl o26
      have N26 := Nw.put1 N25.tl ndL 3 rfl o26 g26
      exact ev_nil (ev_nil ⟨SA'.length + SB'.length, by omega, (hI _ _).2 ⟨kg22.trans' kg25, F26, N26, jm1, jm2, jm3, jm4, ⟨_, d14⟩, ⟨_, d20⟩, HA', HB', r3'.imp fun v b r => r.up kg25, (r4'.imp fun v b r => r.up kg25).append r25, e3', by rw [flat_one, List.append_assoc, ← eu]; exact je4, by omega, by omega, rfl⟩⟩)
  · rintro f h12 ⟨rfl, hi⟩
    obtain @⟨g, m, xs1, xs2, zs', us, n1, n2, kr, ka, o1, o2, SA, SB, rows, alone, jkg, jF, jN, jm1, jm2, jm3, jm4, jd1, jd2, jh1, jh2, jr3, jr4, je3, je4, z1, z2, hd⟩ := (hI _ _).1 hi
    obtain rfl : SA = [] := List.length_eq_zero_iff.mp (by omega)
    obtain rfl : SB = [] := List.length_eq_zero_iff.mp (by omega)
    refine ev_cons (ev_return (ev_tuple (ev_ld jF jm3 (ev_ld jF jm4 (ev_newTuple (by simp) (by simp) fun T h13 o13 d13 g13 => ?_)))))
    have F13 := jF.o o13
    have N13 := jN.o o13
    have er := je3
    have ea := je4
    simp only [joinR, unF, sortC, List.flatMap_nil, List.append_nil, List.filter_nil, List.mergeSort_nil] at er ea
    refine p _ _ _ (Only.of_kp (kp_all.trans' (jkg.trans' F13.keep))) (.tuple g13 rfl rfl (ReadsAll.cons (reads_list (fun v b => reads_TR) (N13.at (.tail _ (.tail _ (.head _)))) ?_) (ReadsAll.cons (reads_list (fun v b => reads_PR) (N13.at (.tail _ (.tail _ (.tail _ (.head _))))) ?_) .nil)))
    · rw [← er]; exact jr3.imp fun v b r => r.up F13.keep
    · rw [← ea]; exact jr4.imp fun v b r => r.up F13.keep
end Mine
open PySem PySem.W PyProof.Rows PySem.Calls
set_option maxRecDepth 100000
set_option maxHeartbeats 1000000
set_option linter.unusedVariables false
namespace Mine
variable {w : World} {A : Around} {Bh : Heap}
/-! ## the book's entries with their lists -/
structure Ent where
  nm : Str
  tk : Nat
  ad : Addr
  vs : List Value
  ct : Nat
  as : List Tp
noncomputable def Ent.key (e : Ent) : Str × Nat × Addr := (e.nm, e.tk, e.ad)
noncomputable def Ent.obj (e : Ent) : Addr × Obj := (e.ad, LO e.vs e.ct)
structure EntOk (Bh gi : Heap) (pa : List (Str × Str)) (e : Ent) : Prop where
  b : Bh.get? e.ad = none
  g : gi.get? e.ad = none
  r : SeqL StrR gi e.vs e.as
  hp : IsH e.as
  pm : e.as.Perm ((valsFor pa e.nm).map cS)
structure BkM (Bh gi : Heap) (pa : List (Str × Str)) (ns : List Str) (es : List Ent) : Prop where
  ok : ∀ e ∈ es, EntOk Bh gi pa e
  nm : es.map (·.nm) = ns
  nd : (es.map (·.ad)).Nodup
theorem valsFor_snoc (pa : List (Str × Str)) (k v y : Str) : valsFor (pa ++ [(k, v)]) y = valsFor pa y ++ if k == y then [v] else [] := by
  simp [valsFor]
theorem namesOf_snoc (pa : List (Str × Str)) (p : Str × Str) : namesOf (pa ++ [p]) = addName (namesOf pa) p := by
  simp [namesOf]
theorem names_aux : ∀ (pa : List (Str × Str)) (acc : List Str), acc.Nodup → (pa.foldl addName acc).Nodup ∧ ∀ x, x ∈ pa.foldl addName acc ↔ x ∈ acc ∨ ∃ v, (x, v) ∈ pa := by
  intro pa
  induction pa with
  | nil => intro acc h; simpa using h
  | cons p pa ih =>
    intro acc h
    have step : (addName acc p).Nodup ∧ ∀ x, x ∈ addName acc p ↔ x ∈ acc ∨ x = p.1 := by
      unfold addName
      by_cases q : acc.any (· == p.1) = true
      · rw [if_pos q]
        obtain ⟨y, hy, e⟩ := List.any_eq_true.mp q
        have e := eq_of_beq e
        exact ⟨h, fun x => ⟨.inl, fun z => z.elim id fun z => by rw [z, ← e]; exact hy⟩⟩
      · rw [if_neg q]
        have n : p.1 ∉ acc := fun m => q (List.any_eq_true.mpr ⟨p.1, m, by simp⟩)
        refine ⟨List.nodup_append.mpr ⟨h, by simp, fun a ha b hb e => n (by simp at hb; rw [← hb, ← e]; exact ha)⟩, fun x => by simp⟩
    obtain ⟨a, b⟩ := ih (addName acc p) step.1
    refine ⟨a, fun x => (b x).trans ?_⟩
    rw [step.2]
    obtain ⟨p1, p2⟩ := p
    constructor
    · rintro ((z | z) | ⟨v, z⟩)
      · exact .inl z
      · exact .inr ⟨p2, by simp [z]⟩
      · exact .inr ⟨v, .tail _ z⟩
    · rintro (z | ⟨v, z⟩)
      · exact .inl (.inl z)
      · rcases List.mem_cons.mp z with z | z
        · exact .inl (.inr (Prod.mk.inj z).1)
        · exact .inr ⟨v, z⟩
theorem names_nodup (pa : List (Str × Str)) : (namesOf pa).Nodup := (names_aux pa [] List.nodup_nil).1
theorem names_mem (pa : List (Str × Str)) (x : Str) : x ∈ namesOf pa ↔ ∃ v, (x, v) ∈ pa := ((names_aux pa [] List.nodup_nil).2 x).trans (by simp)
theorem vals_none {pa : List (Str × Str)} {k : Str} (h : k ∉ namesOf pa) : valsFor pa k = [] := by
  unfold valsFor
  refine List.flatMap_eq_nil_iff.mpr fun p hp => ?_
  rw [if_neg (fun e => h ((names_mem pa k).mpr ⟨p.2, by rw [← eq_of_beq e]; exact hp⟩))]
theorem BkM.nil {Bh gi : Heap} : BkM Bh gi [] [] [] := ⟨(fun _ h => nomatch h), rfl, List.nodup_nil⟩
/-- one pair more: the list of its name, changed -/
noncomputable def putEnt (es : List Ent) (k : Str) (e' : Ent) : List Ent := es.map fun e => if e.nm == k then e' else e
theorem BkM.new {Bh gi : Heap} {pa : List (Str × Str)} {es : List Ent} (M : BkM Bh gi pa (namesOf pa) es) {k v : Str} (hk : k ∉ namesOf pa) {t : Nat} {a : Addr} {m : Nat} (b : Bh.get? a = none) (g : gi.get? a = none) (na : a ∉ es.map (·.ad)) :
    BkM Bh gi pa (namesOf (pa ++ [(k, v)])) (es ++ [⟨k, t, a, [], m, []⟩]) := by
  refine ⟨fun e he => ?_, ?_, ?_⟩
  · rcases List.mem_append.mp he with he | he
    · exact M.ok e he
    · rw [List.mem_singleton.mp he]
      exact ⟨b, g, .nil, IsHeap.nil, by show [].Perm ((valsFor pa k).map cS); rw [vals_none hk]; exact .nil⟩
  · rw [namesOf_snoc, addName, if_neg (fun q => hk (by obtain ⟨y, hy, e⟩ := List.any_eq_true.mp q; have e : y = k := eq_of_beq e; rw [← e]; exact hy)), List.map_append, M.nm]
    rfl
  · rw [List.map_append]
    exact List.nodup_append.mpr ⟨M.nd, by simp, fun x hx y hy e => na (by simp at hy; rw [← hy, ← e]; exact hx)⟩
theorem BkM.same {Bh gi : Heap} {pa : List (Str × Str)} {es : List Ent} (M : BkM Bh gi pa (namesOf pa) es) {k v : Str} (hk : k ∈ namesOf pa) : BkM Bh gi pa (namesOf (pa ++ [(k, v)])) es :=
  ⟨M.ok, by rw [namesOf_snoc, addName, if_pos (List.any_eq_true.mpr ⟨k, hk, by simp⟩)]; exact M.nm, M.nd⟩
theorem BkM.put {Bh gi : Heap} {pa : List (Str × Str)} {ns : List Str} {es : List Ent} (M : BkM Bh gi pa ns es) (nn : ns.Nodup) {e e' : Ent} (he : e ∈ es) {k v : Str} (hk : e.nm = k) (h1 : e'.nm = k) (h2 : e'.ad = e.ad) (h3 : SeqL StrR gi e'.vs e'.as) (h4 : IsH e'.as) (h5 : e'.as.Perm (e.as ++ [cS v])) :
    BkM Bh gi (pa ++ [(k, v)]) ns (putEnt es k e') := by
  have nd : (es.map (·.nm)).Nodup := M.nm ▸ nn
  have uniq : ∀ f ∈ es, f.nm = k → f = e := by
    have : ∀ (l : List Ent), (l.map (·.nm)).Nodup → ∀ f ∈ l, ∀ e ∈ l, f.nm = e.nm → f = e := by
      intro l
      induction l with
      | nil => intro _ f hf; cases hf
      | cons a l ih =>
        intro nd f hf e he q
        rw [List.map_cons, List.nodup_cons] at nd
        rcases List.mem_cons.mp hf with hf | hf <;> rcases List.mem_cons.mp he with he | he
        · exact hf.trans he.symm
        · exact absurd (List.mem_map_of_mem (f := (·.nm)) he) (by rw [← q, hf]; exact nd.1)
        · exact absurd (List.mem_map_of_mem (f := (·.nm)) hf) (by rw [q, he]; exact nd.1)
        · exact ih nd.2 f hf e he q
    exact fun f hf q => this es nd f hf e he (q.trans hk.symm)
  refine ⟨fun f hf => ?_, ?_, ?_⟩
  · obtain ⟨f0, hf0, rfl⟩ := List.mem_map.mp hf
    by_cases q : f0.nm = k
    · rw [if_pos (by simpa using q)]
      have o := M.ok e he
      refine ⟨by rw [h2]; exact o.b, by rw [h2]; exact o.g, h3, h4, h5.trans ?_⟩
      rw [h1, valsFor_snoc, if_pos (by simp), List.map_append]
      have := o.pm
      rw [hk] at this
      exact this.append_right _
    · rw [if_neg (by simpa using q)]
      have o := M.ok f0 hf0
      refine ⟨o.b, o.g, o.r, o.hp, ?_⟩
      rw [valsFor_snoc, if_neg (by simpa using fun z => q z.symm), List.append_nil]
      exact o.pm
  · rw [← M.nm]
    unfold putEnt
    rw [List.map_map]
    refine List.map_congr_left fun f hf => ?_
    by_cases q : f.nm = k
    · simp [q, h1]
    · simp [q]
  · have : (putEnt es k e').map (·.ad) = es.map (·.ad) := by
      unfold putEnt
      rw [List.map_map]
      refine List.map_congr_left fun f hf => ?_
      by_cases q : f.nm = k
      · rw [uniq f hf q]; simp [hk, h2]
      · simp [q]
    rw [this]
    exact M.nd
end Mine
open PySem PySem.W PyProof.Rows PySem.Calls
set_option maxRecDepth 100000
set_option maxHeartbeats 1000000
set_option linter.unusedVariables false
namespace Mine
variable {w : World} {A : Around} {Bh : Heap}
theorem ent_uniq : ∀ {l : List Ent}, (l.map (·.nm)).Nodup → ∀ f ∈ l, ∀ e ∈ l, f.nm = e.nm → f = e := by
  intro l
  induction l with
  | nil => intro _ f hf; cases hf
  | cons a l ih =>
    intro nd f hf e he q
    rw [List.map_cons, List.nodup_cons] at nd
    rcases List.mem_cons.mp hf with hf | hf <;> rcases List.mem_cons.mp he with he | he
    · exact hf.trans he.symm
    · exact absurd (List.mem_map_of_mem (f := (·.nm)) he) (by rw [← q, hf]; exact nd.1)
    · exact absurd (List.mem_map_of_mem (f := (·.nm)) hf) (by rw [q, he]; exact nd.1)
    · exact ih nd.2 f hf e he q
theorem ent_ads : ∀ {l : List Ent}, (l.map (·.ad)).Nodup → ∀ f ∈ l, ∀ e ∈ l, f.ad = e.ad → f = e := by
  intro l
  induction l with
  | nil => intro _ f hf; cases hf
  | cons a l ih =>
    intro nd f hf e he q
    rw [List.map_cons, List.nodup_cons] at nd
    rcases List.mem_cons.mp hf with hf | hf <;> rcases List.mem_cons.mp he with he | he
    · exact hf.trans he.symm
    · exact absurd (List.mem_map_of_mem (f := (·.ad)) he) (by rw [← q, hf]; exact nd.1)
    · exact absurd (List.mem_map_of_mem (f := (·.ad)) hf) (by rw [q, he]; exact nd.1)
    · exact ih nd.2 f hf e he q
/-- the list of one name changed -/
theorem after_put {g h h' : Heap} {L : Addr} {m : Str → Option Value} {pre : List (Addr × Obj)} {es : List Ent} {k : Str} {e e' : Ent} (F : Fm g L h m) (N : Nw g L h (pre ++ es.map Ent.obj)) (nn : (es.map (·.nm)).Nodup) (nd : (es.map (·.ad)).Nodup) (hp : ∀ p ∈ pre, p.1 ≠ e.ad)
    (he : e ∈ es) (hk : e.nm = k) (h2 : e'.ad = e.ad) (o : Only [e.ad] h h') (g' : h'.get? e.ad = some (LO e'.vs e'.ct)) : Fm g L h' m ∧ Nw g L h' (pre ++ (putEnt es k e').map Ent.obj) := by
  have ne := N e.obj (List.mem_append_right _ (List.mem_map_of_mem he))
  refine after F N o (fun a ha => ?_) fun p hp' => ?_
  · rw [List.mem_singleton.mp ha]; exact ⟨ne.2.2, ne.2.1⟩
  · rcases List.mem_append.mp hp' with q | q
    · exact ⟨o _ _ (fun z => hp p q (List.mem_singleton.mp z)) (N p (List.mem_append_left _ q)).1, .inr (List.mem_append_left _ q)⟩
    · obtain ⟨f, hf, rfl⟩ := List.mem_map.mp q
      obtain ⟨f0, hf0, rfl⟩ := List.mem_map.mp hf
      by_cases z : f0.nm = k
      · rw [if_pos (by simpa using z)]
        refine ⟨?_, .inl ?_⟩
        · show h'.get? e'.ad = _; rw [h2]; exact g'
        · show e'.ad ≠ L ∧ g.get? e'.ad = none; rw [h2]; exact ne.2
      · rw [if_neg (by simpa using z)]
        have hm := List.mem_append_right pre (List.mem_map_of_mem (f := Ent.obj) hf0)
        refine ⟨o _ _ (fun y => z ?_) (N _ hm).1, .inr hm⟩
        rw [ent_ads nd f0 hf0 e he (List.mem_singleton.mp y)]
        exact hk
theorem putEnt_ads {es : List Ent} {k : Str} {e e' : Ent} (nn : (es.map (·.nm)).Nodup) (he : e ∈ es) (hk : e.nm = k) (h2 : e'.ad = e.ad) : (putEnt es k e').map (·.ad) = es.map (·.ad) := by
  unfold putEnt
  rw [List.map_map]
  refine List.map_congr_left fun f hf => ?_
  by_cases q : f.nm = k
  · rw [ent_uniq nn f hf e he (q.trans hk.symm)]; simp [hk, h2]
  · simp [q]
theorem putEnt_keys {es : List Ent} {k : Str} {e e' : Ent} (nn : (es.map (·.nm)).Nodup) (he : e ∈ es) (hk : e.nm = k) (h2 : e'.key = e.key) : (putEnt es k e').map Ent.key = es.map Ent.key := by
  unfold putEnt
  rw [List.map_map]
  refine List.map_congr_left fun f hf => ?_
  by_cases q : f.nm = k
  · rw [ent_uniq nn f hf e he (q.trans hk.symm)]; simp [hk, h2]
  · simp [q]
/-- the ledger of the book -/
noncomputable abbrev bkLed (w : World) (c : Addr) (oc : Obj) (bk dd : Addr) (es : List Ent) (ep : Nat) : List (Addr × Obj) := [(c, oc), (100, tabObj #[]), (bk, bkO w dd (es.map Ent.key) ep), (dd, dictO0)] ++ es.map Ent.obj
/-! what the book holds for a name -/
noncomputable def unS (t : Tp) : Str := ⟨((t.headD []).drop 1).toArray⟩
theorem unS_cS (x : Str) : unS (cS x) = x := by
  cases x
  simp [unS, cS]
theorem perm_unS {as : List Tp} {vs : List Str} (p : as.Perm (vs.map cS)) : (as.map unS).Perm vs := by
  have := p.map unS
  rw [List.map_map, show unS ∘ cS = id from funext unS_cS, List.map_id] at this
  exact this
theorem seq_sr {gi : Heap} {vs : List Value} {as : List Tp} (r : SeqL StrR gi vs as) : SeqL SR gi vs (as.map unS) := by
  induction r with
  | nil => exact .nil
  | cons r _ ih =>
    obtain ⟨x, t, rfl, rfl⟩ := r
    exact All2.cons (show SR gi (.str x t) (unS [aS x]) from ⟨t, by rw [show unS [aS x] = x from unS_cS x]⟩) ih
noncomputable def bv (es : List Ent) (k : Str) : List Str := match es.find? (fun e => e.nm == k) with
  | some e => e.as.map unS
  | none => []
theorem bv_at {es : List Ent} (nn : (es.map (·.nm)).Nodup) {e : Ent} (he : e ∈ es) {k : Str} (hk : e.nm = k) : bv es k = e.as.map unS := by
  unfold bv
  cases q : es.find? (fun e => e.nm == k) with
  | none => exact absurd hk (by simpa using List.find?_eq_none.mp q e he)
  | some f =>
    have hf : f.nm = k := by simpa using List.find?_some q
    rw [ent_uniq nn f (List.mem_of_find?_eq_some q) e he (hf.trans hk.symm)]
theorem bv_none {es : List Ent} {k : Str} (h : ∀ e ∈ es, e.nm ≠ k) : bv es k = [] := by
  unfold bv
  rw [List.find?_eq_none.mpr fun e he => by simpa using h e he]
theorem bv_perm {gi : Heap} {pa : List (Str × Str)} {es : List Ent} (M : BkM Bh gi pa (namesOf pa) es) (k : Str) : (bv es k).Perm (valsFor pa k) := by
  have nn : (es.map (·.nm)).Nodup := M.nm ▸ names_nodup pa
  by_cases q : k ∈ namesOf pa
  · rw [← M.nm] at q
    obtain ⟨e, he, hk⟩ := List.mem_map.mp q
    rw [bv_at nn he hk]
    have := (M.ok e he).pm
    rw [hk] at this
    exact perm_unS this
  · rw [vals_none q, bv_none fun e he z => q (by rw [← M.nm, ← z]; exact List.mem_map_of_mem (f := (·.nm)) he)]
end Mine
open PySem PySem.W PyProof.Rows PySem.Calls
set_option maxRecDepth 100000
set_option maxHeartbeats 2000000
set_option linter.unusedVariables false
namespace Mine
variable {w : World} {A : Around} {Bh : Heap}
/-! ## `_law_by_book` -/
structure BL (w : World) (Bh gi : Heap) (c bk dd : Addr) (oc : Obj) (r : Addr) (pa : List (Str × Str)) (m : Str → Option Value) (led : List (Addr × Obj)) (es : List Ent) (ep : Nat) : Prop where
  led : led = bkLed w c oc bk dd es ep
  mr : m "right" = some (.ref r)
  M : BkM Bh gi pa (namesOf pa) es
  nd : ([c, 100, bk, dd] ++ es.map (·.ad)).Nodup
  len : es.length ≤ pa.length
theorem ev_method_freeze (B : Base w Bh) {h : Heap} (kb : Kp Bh h) {bk dd : Addr} {es : Array DictEntry} {ep : Nat} (hb : h.get? bk = some (bookO dd es ep)) (hd : h.get? dd = some dictO0) {pl : Sem Bool} {P : Value × List Value → Heap → Prop} (p : P (.ref 105, [.ref bk]) h) :
    Ev (model pw w) A (getMethod (.ref bk) "freeze" pl) h P := by
  have X := B.X.keeps kb
  have ty := book_type (w := w) hb rfl
  unfold getMethod specialOf
  refine Ev.bind (Ev.bind (Ev.looks ty (Ev.looks (looks_findIn X (r := some (.builtin "collections.defaultdict.__getattribute__")) (by kernel_rfl)) ?_)))
  dsimp only
  rw [if_neg (by decide +kernel)]
  refine Ev.bind (Ev.bind (Ev.looks ty (Ev.looks (looks_findIn X (r := none) (by kernel_rfl)) ?_)))
  rw [if_neg (by decide)]
  refine Ev.bind (Ev.bind (Ev.looks ty (Ev.looks (looks_findIn X (r := some (.ref 105)) (by kernel_rfl)) ?_)))
  refine Ev.bind (Ev.looks (Looks.of_peek X (r := .type "function") (by kernel_rfl)) ?_)
  rw [if_neg (by decide)]
  refine Ev.bind (Ev.loadPart hb (Ev.bind ?_))
  intro E Q s hs hQ
  subst hs
  refine wpAny_nsGet (m := fun _ => none) ⟨dictO0, #[], 0, hd, rfl, (fun e he => by simp at he), fun _ => rfl⟩ (hQ _ _ s.toks ?_)
  dsimp only
  rw [if_neg (by decide)]
  exact Ev.bind (Ev.rule (Ev.pure p))
theorem ev_triple2 {cenv : Env} {e1 e2 e3 : Expr} {k : Nat} {px : Pos} {h0 h : Heap} {m : Str → Option Value} {x y z : Str} {t u v : Tok} {P : Value → Heap → Prop}
    (q : EvL (model pw w) A cenv [e1, e2, e3] h fun vs h' => vs = [.str x t, .str y u, .str z v] ∧ Fm (hideAll h0 [cenv.locals]) cenv.locals h' m)
    (p : ∀ T h', Fm (hideAll h0 [cenv.locals]) cenv.locals h' m → (∀ gE G, Kp gE G → NewIn [cenv.locals] h0 h' G → TR G (.ref T) (x, y, z)) → P (.ref T) h')
    (he : starEach [e1, e2, e3] cenv = plainEach cenv [e1, e2, e3] := by rfl) : Ev (model pw w) A (eval (.Tuple [e1, e2, e3] k px) cenv) h P := by
  refine ev_tuple ?_ he
  refine Ev.mono q fun v1 h1 q1 => Ev.mono q1 fun v2 h2 q2 => Ev.mono q2 fun v3 h3 q3 => ?_
  obtain ⟨e, F⟩ := q3
  refine ev_newTuple (by simp) (by simp) fun T h4 o4 d4 g4 => ?_
  have F4 := Fm.o F o4
  rw [e] at g4
  obtain ⟨n1, n2⟩ := F.new d4
  exact p T h4 F4 fun gE G k1 k2 => TR.mk (k2 T _ n1 n2 g4)
noncomputable abbrev PaR (Bh : Heap) (h : Heap) (v : Value) (a : Str × Str) : Prop := PairR Bh h v (cP a)
structure BkS (w : World) (Bh gi gT : Heap) (L c bk dd : Addr) (oc : Obj) (pa : List (Str × Str)) (ns : List Str) (x : Str) (m : Str → Option Value) (z : Nat) (a : Value) (h : Heap) (es : List Ent) (ep : Nat) (e : Ent) : Prop where
  a : a = .ref e.ad
  F : Fm gT L h m
  N : Nw gT L h (bkLed w c oc bk dd es ep)
  M : BkM Bh gi pa ns es
  nd : ([c, 100, bk, dd] ++ es.map (·.ad)).Nodup
  len : es.length ≤ z
  me : e ∈ es
  nm : e.nm = x
theorem after_new {g h h' : Heap} {L c bk dd a : Addr} {oc : Obj} {m : Str → Option Value} {es : List Ent} {ep k7 : Nat} {k : Str} {t : Nat} (F : Fm g L h m) (N : Nw g L h (bkLed w c oc bk dd es ep)) (o : Only [bk] h h') (na : h.get? a = none) (e : h'.get? a = some (LO [] k7))
    (b : h'.get? bk = some (bkO w dd (es.map Ent.key ++ [(k, t, a)]) (ep + 1))) (nd : ([c, 100, bk, dd] ++ es.map (·.ad)).Nodup) : Fm g L h' m ∧ Nw g L h' (bkLed w c oc bk dd (es ++ [⟨k, t, a, [], k7, []⟩]) (ep + 1)) := by
  have hb := N (bk, _) (.tail _ (.tail _ (.head _)))
  obtain ⟨n1, n2⟩ := List.nodup_cons.mp nd
  obtain ⟨n3, n4⟩ := List.nodup_cons.mp n2
  obtain ⟨n5, n6⟩ := List.nodup_cons.mp n4
  refine after F N o (fun y hy => by rw [List.mem_singleton.mp hy]; exact ⟨hb.2.2, hb.2.1⟩) fun p hp => ?_
  have old : ∀ p, p ∈ bkLed w c oc bk dd es ep → p.1 ≠ bk → h'.get? p.1 = some p.2 ∧ (p.1 ≠ L ∧ g.get? p.1 = none ∨ p ∈ bkLed w c oc bk dd es ep) := fun p hp q => ⟨o _ _ (fun z => q (List.mem_singleton.mp z)) (N p hp).1, .inr hp⟩
  rcases List.mem_cons.mp hp with rfl | hp
  · exact old _ (.head _) fun q => n1 (q ▸ .tail _ (.head _))
  rcases List.mem_cons.mp hp with rfl | hp
  · exact old _ (.tail _ (.head _)) fun q => n3 (q ▸ .head _)
  rcases List.mem_cons.mp hp with rfl | hp
  · exact ⟨by rw [List.map_append]; exact b, .inl hb.2⟩
  rcases List.mem_cons.mp hp with rfl | hp
  · exact old _ (.tail _ (.tail _ (.tail _ (.head _)))) fun q => n5 (q ▸ .head _)
  obtain ⟨f, hf, rfl⟩ := List.mem_map.mp hp
  rcases List.mem_append.mp hf with hf | hf
  · refine old _ (List.mem_append_right _ (List.mem_map_of_mem hf)) fun q => n5 ?_
    rw [← q]
    exact .tail _ (List.mem_map_of_mem (f := (·.ad)) hf)
  · rw [List.mem_singleton.mp hf]
    refine ⟨e, .inl ⟨fun q => ?_, none_of_kp F.keep na⟩⟩
    obtain ⟨ob, _, _, ho, _⟩ := F.ns
    rw [← q] at ho
    have ho : h.get? a = some ob := ho
    rw [na] at ho
    cases ho
theorem rows_len {gi : Heap} {pa : List (Str × Str)} {es : List Ent} (M : BkM Bh gi pa (namesOf pa) es) : ∀ pb : List (Str × Str), (pb.flatMap fun q => (bv es q.1).flatMap fun s => [(q.1, s, q.2)]).length = (pb.flatMap fun q => valsFor pa q.1).length
  | [] => rfl
  | q :: pb => by
    rw [List.flatMap_cons, List.flatMap_cons, List.length_append, List.length_append, rows_len M pb, flat_one, List.length_map, (bv_perm M q.1).length_eq]
theorem nodup4 {a b c d : Addr} (h1 : a ≠ b) (h2 : a ≠ c) (h3 : a ≠ d) (h4 : b ≠ c) (h5 : b ≠ d) (h6 : c ≠ d) : [a, b, c, d].Nodup := by simp [*]
end Mine
open PySem PySem.W PyProof.Rows PySem.Calls
set_option maxRecDepth 100000
set_option maxHeartbeats 1000000
set_option linter.unusedVariables false
namespace Mine
variable {w : World} {A : Around} {Bh : Heap}
/-! ## nsmallest(2, a list of texts) -/
theorem ev_try {prog : Program} {env : Env} {body orelse : List Stmt} {h₀ : ExceptHandler} {hs : List ExceptHandler} {pos : Pos} {h : Heap} {P : Flow → Heap → Prop} (x : Ev (model prog w) A (execs body env) h (KSeq (model prog w) A env orelse P)) :
    Ev (model prog w) A (exec (.Try body (h₀ :: hs) orelse [] pos) env) h P :=
  fun E Q s hs hQ => wpAny_Try_except (x _ _ s hs fun f h' tk y => by
    cases f <;> first | exact y E Q _ rfl fun b h'' tk' p => hQ b h'' tk' p | exact hQ _ _ _ y)
end Mine
open PySem PySem.W PyProof.Rows PySem.Calls
set_option maxRecDepth 100000
set_option maxHeartbeats 1000000
set_option linter.unusedVariables false
namespace Mine
/-! ## the two least, plain -/
noncomputable abbrev ltS (x y : Str) : Prop := x.cps.toList < y.cps.toList
noncomputable def cN (p : Str × Nat) : Tp := [aS p.1, aI p.2]
theorem cN_lt {p q : Str × Nat} (h : tpO.blt (cN p) (cN q) = false) : ¬ ltS p.1 q.1 := by
  intro c
  have : cN p < cN q := by
    unfold cN
    exact List.Lex.rel (by simpa [List.cons_lt_cons_iff] using c)
  simp [tpO, this] at h
structure Two (ss : List Str) (a b : Str) : Prop where
  ab : ¬ ltS a b
  ex : ∃ tl, (b :: a :: tl).Perm ss ∧ ∀ y ∈ tl, ¬ ltS y a
theorem Two.skip {ss : List Str} {a b x : Str} (t : Two ss a b) (h : ¬ ltS x a) : Two (ss ++ [x]) a b := by
  obtain ⟨tl, p, q⟩ := t.ex
  refine ⟨t.ab, tl ++ [x], ?_, fun y hy => ?_⟩
  · have := p.append_right [x]
    simpa using this
  · rcases List.mem_append.mp hy with hy | hy
    · exact q y hy
    · rw [List.mem_singleton.mp hy]; exact h
theorem not_lt_trans {x y z : Str} (h1 : ¬ ltS x y) (h2 : ¬ ltS y z) : ¬ ltS x z := fun c => by
  have a1 := List.not_lt.mp h1
  have a2 := List.not_lt.mp h2
  exact absurd c (List.not_lt.mpr (List.le_trans a2 a1))
theorem Two.put {ss : List Str} {a b x a' b' : Str} (t : Two ss a b) (h : ltS x a) (hp : [a', b'].Perm [x, b]) (hab : ¬ ltS a' b') : Two (ss ++ [x]) a' b' := by
  obtain ⟨tl, p, q⟩ := t.ex
  have hx : ¬ ltS a x := fun c => List.lt_irrefl _ (List.lt_trans h c)
  have ha : ¬ ltS a a' := by
    have m : a' ∈ [x, b] := hp.mem_iff.mp (.head _)
    rcases List.mem_cons.mp m with m | m
    · rw [m]; exact hx
    · rw [List.mem_singleton.mp m]; exact t.ab
  refine ⟨hab, a :: tl, ?_, fun y hy => ?_⟩
  · have p1 : (b' :: a' :: a :: tl).Perm ([x, b] ++ (a :: tl)) := (((List.Perm.swap a' b' []).trans hp).append_right (a :: tl))
    have p2 : ([x, b] ++ (a :: tl)).Perm ((b :: a :: tl) ++ [x]) := (List.perm_append_comm (l₁ := [x]) (l₂ := b :: a :: tl))
    exact (p1.trans p2).trans (p.append_right [x])
  · rcases List.mem_cons.mp hy with rfl | hy
    · exact ha
    · exact not_lt_trans (q y hy) ha
theorem cS_blt (x y : Str) : tpO.blt (cS x) (cS y) = decide (ltS x y) := by
  have : (cS x < cS y) ↔ ltS x y := by unfold cS; simp [List.cons_lt_cons_iff]
  simp [tpO, this]
theorem map_cS_inj : ∀ {a b : List Str}, a.map cS = b.map cS → a = b
  | [], [], _ => rfl
  | [], _ :: _, h => by simp at h
  | _ :: _, [], h => by simp at h
  | x :: a, y :: b, h => by
    rw [List.map_cons, List.map_cons] at h
    rw [aS_inj (List.cons.inj (List.cons.inj h).1).1, map_cS_inj (List.cons.inj h).2]
theorem Two.end {ss : List Str} {a b : Str} (t : Two ss a b) : (sortC cS ss).take 2 = [b, a] := by
  obtain ⟨tl, p, q⟩ := t.ex
  have e1 : srt (O := tpO) (ss.map cS) = cS b :: srt (O := tpO) ((a :: tl).map cS) := srt_cons (O := tpO) (by simpa using (p.map cS).symm) fun z hz => by
    obtain ⟨y, hy, rfl⟩ := List.mem_map.mp hz
    rw [cS_blt, decide_eq_false_iff_not]
    rcases List.mem_cons.mp hy with rfl | hy
    · exact t.ab
    · exact not_lt_trans (q y hy) t.ab
  have e2 : srt (O := tpO) ((a :: tl).map cS) = cS a :: srt (O := tpO) (tl.map cS) := srt_cons (O := tpO) (by simp) fun z hz => by
    obtain ⟨y, hy, rfl⟩ := List.mem_map.mp hz
    rw [cS_blt, decide_eq_false_iff_not]
    exact q y hy
  rw [e2, srt_map, srt_map] at e1
  have : sortC cS ss = b :: a :: sortC cS tl := map_cS_inj (by rw [e1]; rfl)
  rw [this]
  rfl
/-- a heap of two, by the dual order -/
theorem two_heap {as : List Tp} {p q : Str × Nat} (h : IsHeap (O := dual tpO) as) (pm : as.Perm [cN p, cN q]) : ∃ p' q', as = [cN p', cN q'] ∧ [p', q'].Perm [p, q] ∧ tpO.blt (cN p') (cN q') = false := by
  have len := pm.length_eq
  obtain ⟨x, y, rfl⟩ : ∃ x y, as = [x, y] := by
    match as, len with
    | [x, y], _ => exact ⟨x, y, rfl⟩
  have hm := h.min (m := x) rfl y (by simp)
  have mx : x ∈ [cN p, cN q] := pm.mem_iff.mp (.head _)
  rcases List.mem_cons.mp mx with rfl | mx
  · have : y = cN q := by
      have := (List.perm_cons _).mp pm
      exact (List.cons.inj (List.perm_singleton.mp this)).1
    subst this
    exact ⟨p, q, rfl, .refl _, hm⟩
  · rw [List.mem_singleton.mp mx] at pm hm ⊢
    have : y = cN p := by
      have := (List.perm_cons _).mp (pm.trans (List.Perm.swap _ _ []))
      exact (List.cons.inj (List.perm_singleton.mp this)).1
    subst this
    exact ⟨q, p, rfl, List.Perm.swap _ _ [], hm⟩
theorem two_sort {p q : Str × Nat} (h : tpO.blt (cN p) (cN q) = false) : srt (O := tpO) [cN p, cN q] = [cN q, cN p] := by
  refine srt_of (List.Perm.swap _ _ []) ?_
  exact List.Pairwise.cons (fun a ha => by rw [List.mem_singleton.mp ha]; exact h) (List.pairwise_singleton _ _)
theorem Two.begin {x0 x1 : Str} {p q : Str × Nat} {i j : Nat} (pm : [p, q].Perm [(x0, i), (x1, j)]) (h : tpO.blt (cN p) (cN q) = false) : Two [x0, x1] p.1 q.1 := by
  refine ⟨cN_lt h, [], ?_, fun _ q => nomatch q⟩
  have := (List.Perm.swap p q []).trans pm
  simpa using this.map (·.1)
end Mine
open PySem PySem.W PyProof.Rows PySem.Calls
set_option maxRecDepth 100000
set_option maxHeartbeats 1000000
set_option linter.unusedVariables false
namespace Mine
variable {w : World} {A : Around} {Bh : Heap}
theorem ev_call_kw1 {M : Model} {env : Env} {func e e2 : Expr} {k : Str} {kp pos : Pos} {id : String} {h : Heap} {P : Value → Heap → Prop}
    (x : Ev M A (eval func env) h fun f h1 => f = .builtin id ∧ Ev M A (eval e env) h1 fun v h2 => Ev M A (eval e2 env) h2 fun kv h3 => Ev M A (call (.builtin id) [v] [(k, kv)]) h3 P)
    (hc : eval (.Call func [e] [⟨some k, e2, kp⟩] pos) env = (do callWith pos (← eval func env) [] (backTo pos (starEach [e] env)) (backToKw pos (keywordEach [⟨some k, e2, kp⟩] env))) := by rfl)
    (he : starEach [e] env = plainEach env [e] := by rfl) : Ev M A (eval (.Call func [e] [⟨some k, e2, kp⟩] pos) env) h P := by
  rw [hc]
  refine Ev.bind (x.mono fun f h1 y => ?_)
  obtain ⟨rfl, y⟩ := y
  intro E Q s hs hQ
  refine callWith_kw ?_ (by rw [he]; rfl) (by rw [he]; rfl)
  rw [he]
  have z : EvL M A env [e] h1 fun vs h2 => ∃ v, vs = [v] ∧ Ev M A (eval e2 env) h2 fun kv h3 => Ev M A (call (.builtin id) [v] [(k, kv)]) h3 P := y.mono fun v h2 q => ⟨v, rfl, q⟩
  refine ev_spliced z _ _ s hs fun vs h2 tk2 q => ?_
  obtain ⟨v, rfl, q⟩ := q
  refine kws_cons (q _ _ _ rfl fun kv h3 tk3 u => kws_nil ?_)
  exact u _ _ _ rfl fun r h4 tk4 p => hQ r h4 tk4 p
theorem Itr.from {I : Addr} {g : Heap} {n : Nat} {V : Nat → Value → Prop} {St : Nat → Obj → Prop} {c : String} (T : Itr w A I g n V St c) (k : Nat) (hk : k ≤ n) : Itr w A I g (n - k) (fun i => V (k + i)) (fun i => St (k + i)) c where
  item := fun hi kg ho st p => T.item (by omega) kg ho st p
  done := fun kg ho st p => T.done kg ho (by rw [show k + (n - k) = n by omega] at st; exact st) p
  self := fun ho st p => T.self ho st p
  cls := fun st => T.cls st
theorem ev_iterZip {z TI TT i1 i2 l : Addr} {xs : List Value} {n i : Nat} {f0 : Value} {h : Heap} {P : Value → Heap → Prop} (S : ZSt z TI TT i1 i2 l xs n f0 i h) (p : P (.ref z) h) : Ev (model pw w) A (pyIter (.ref z)) h P := by
  intro E Q s hs hQ
  subst hs
  exact wpAny_pyIter_zip S.z (hQ _ _ s.toks p)
/-! ## a text and its order -/
noncomputable def NR (h : Heap) (v : Value) (p : Str × Nat) : Prop := ∃ a t u, v = .ref a ∧ h.get? a = some (TO [.str p.1 t, .int p.2 u])
theorem NR.tup {h : Heap} {v : Value} {p : Str × Nat} (r : NR h v p) : TupR [0, 1] h v (cN p) := by
  obtain ⟨a, t, u, rfl, ho⟩ := r
  exact ⟨a, _, rfl, ho, .cons (.s _ _) (.cons (.i _ _) .nil), rfl⟩
theorem atR_int {v : Value} {n : Nat} (r : AtR v (aI n)) : ∃ t, v = .int n t := by
  generalize ha : aI n = a at r
  cases r with
  | s x t => simp [aS, aI] at ha
  | i m t => simp only [aI, List.cons.injEq, true_and, and_true] at ha; rw [ha]; exact ⟨t, rfl⟩
theorem NR.of {h : Heap} {v : Value} {p : Str × Nat} (r : TupR [0, 1] h v (cN p)) : NR h v p := by
  obtain ⟨a, xs, rfl, ho, r, _⟩ := r
  unfold cN at r
  cases r with
  | cons r1 r2 => cases r2 with
    | cons r2 r3 => cases r3 with
      | nil =>
        obtain ⟨t, rfl⟩ := atR_str r1
        obtain ⟨u, rfl⟩ := atR_int r2
        exact ⟨a, t, u, rfl, ho⟩
theorem seqN {g : Heap} {ys : List Value} {p q : Str × Nat} (r : SeqL (TupR [0, 1]) g ys [cN p, cN q]) : ∃ a b, ys = [a, b] ∧ NR g a p ∧ NR g b q := by
  cases r with
  | cons r1 r2 => cases r2 with
    | cons r2 r3 => cases r3 with
      | nil => exact ⟨_, _, rfl, NR.of r1, NR.of r2⟩
theorem ev_assign1 {prog : Program} {env : Env} {t value : Expr} {pos : Pos} {h : Heap} {P : Flow → Heap → Prop} (x : Ev (model prog w) A (eval value env) h fun v h1 => Ev (model prog w) A (assign t env v) h1 fun _ => P .next)
    (hs : swapsWithSole [t] value pos.line env = pure false := by rfl) (hw : swappedStores [t] value env = pure none := by rfl) (he : ∀ v, assignAll v ((assignEach [t] env).map (·.2)) = assign t env v := by intro _; rfl) : Ev (model prog w) A (exec (.Assign [t] value pos) env) h P := by
  intro E Q s e hQ
  refine wpAny_Assign_stores (x E _ s e fun v h1 tk y => ?_) hs hw
  rw [he]
  exact y E _ _ rfl fun _ h2 tk2 p => hQ _ h2 tk2 p
theorem Fm.fr {g h : Heap} {L a : Addr} {m : Str → Option Value} (F : Fm g L h m) (d : h.get? a = none) : a ≠ L ∧ g.get? a = none :=
  ⟨fun q => (by obtain ⟨ob, _, _, ho, _⟩ := F.ns; rw [← q, d] at ho; cases ho), none_of_kp F.keep d⟩
theorem ne_fr {h : Heap} {a b : Addr} {o : Obj} (e : h.get? a = some o) (d : h.get? b = none) : a ≠ b := fun q => by rw [q, d] at e; cases e
theorem heap2 {p q : Str × Nat} (h : tpO.blt (cN p) (cN q) = false) : IsHeap (O := dual tpO) [cN p, cN q] := by
  intro k hk _ a b ha hb
  rcases Nat.lt_or_ge k 2 with z | z
  · obtain rfl : k = 1 := by omega
    simp at ha hb
    subst ha; subst hb
    exact h
  · rw [List.getElem?_eq_none (by simpa using z)] at ha
    cases ha
theorem hfy2 {p q : Str × Nat} : ∃ p' q', hfy (flp tpO.blt) (([cN p, cN q] : List Tp).length / 2) [cN p, cN q] = [cN p', cN q'] ∧ [p', q'].Perm [p, q] ∧ tpO.blt (cN p') (cN q') = false := by
  rw [hfy_eq]
  have := heapify_heap (O := dual tpO) [cN p, cN q]
  exact two_heap this.1 this.2
theorem hrep2 {p q x : Str × Nat} (h : tpO.blt (cN p) (cN q) = false) : ∃ p' q', sup (flp tpO.blt) (cN x) 0 (([cN q] : List Tp).length + 1) (cN x :: [cN q]) 0 = [cN p', cN q'] ∧ [p', q'].Perm [x, q] ∧ tpO.blt (cN p') (cN q') = false := by
  have := hreplace_heap (O := dual tpO) (x := cN x) (heap2 h)
  exact two_heap this.1 this.2
/-- ahead of a turn -/
inductive NJ (Bh g0 : Heap) (L c R I : Addr) (oc : Obj) (ss : List Str) (o : Obj) (h : Heap) : Prop
  | mk {g : Heap} {m : Str → Option Value} {ys : List Value} {k : Nat} {p q : Str × Nat} {e : Nat} {t1 t2 : Tok} (kg : Kp g0 g) (F : Fm g L h m) (N : Nw g L h [(I, o), (c, oc), (R, LO ys k)]) (r : SeqL (TupR [0, 1]) g ys [cN p, cN q]) (pq : tpO.blt (cN p) (cN q) = false) (tw : Two ss p.1 q.1)
    (m1 : m "result" = some (.ref R)) (m2 : m "top" = some (.str p.1 t1)) (m3 : m "order" = some (.int e t2)) (m4 : m "_heapreplace" = some (.ref 234)) : NJ Bh g0 L c R I oc ss o h
end Mine
open PySem PySem.W PyProof.Rows PySem.Calls
set_option maxRecDepth 100000
set_option maxHeartbeats 1000000
set_option linter.unusedVariables false
namespace Mine
variable {w : World} {A : Around} {Bh : Heap}
theorem ZSt.up {z TI TT i1 I l : Addr} {xs : List Value} {n : Nat} {v : Value} {k : Nat} {h h' : Heap} (S : ZSt z TI TT i1 I l xs n v k h) (o : Only [] h h') : ZSt z TI TT i1 I l xs n v k h' := by
  obtain ⟨a1, a2, ⟨_, _, a3⟩, a4, ⟨_, a5, a6⟩, a7⟩ := S
  exact ⟨o _ _ nin0 a1, o _ _ nin0 a2, ⟨_, _, o _ _ nin0 a3⟩, o _ _ nin0 a4, ⟨_, o _ _ nin0 a5, a6⟩, o _ _ nin0 a7⟩
theorem take_two {α : Type} {l : List α} {a b : α} (h0 : l[0]? = some a) (h1 : l[1]? = some b) : l.take 2 = [a, b] := by
  rw [List.take_add_one, List.take_add_one, h0, h1]; rfl
theorem nsmallest_C (B : Base w Bh) {h : Heap} (kb : Kp Bh h) (room : Room A 8) {l : Addr} {xs : List Value} {n : Nat} {ss : List Str} (hl : h.get? l = some (LO xs n)) (hr : All2 StrIs xs ss) (hz : ss.length < 60) {t : Tok} {P : Value → Heap → Prop}
    (p : ∀ D h' ys k, Only [] h h' → h.get? D = none → h'.get? D = some (LO ys k) → All2 StrIs ys ((sortC cS ss).take 2) → P (.ref D) h') :
    CEv (model pw w) A (.call (.ref 275) ⟨[.int 2 t, .ref l], []⟩) h P := by
  refine CEv.fngc B kb (n := 7) room kp_all (fa := 275) (c := 274) [("n", .int 2 t), ("iterable", .ref l), ("key", .none)] rfl rfl rfl rfl rfl rfl rfl (fun s hs => by subst hs; exact BindsTo.of_defaults rfl (kb _ _ (B.X 270 _ rfl)) rfl (by rfl) (by rfl)) (fun L => by rfl) ?_
  intro L h₁ Rm k1 nL F CC
  obtain ⟨oc, hc, dc, _, nc, cL, cg⟩ := CC "key" (nx L) (by rfl)
  have N : Nw (hideAll h []) L h₁ [(nx L, oc)] := Nw.nil.cons hc cL cg
  have kB1 := kb.trans' k1
  have hle := hr.len
  refine ev_cons (ev_doc ?_)
  refine ev_cons (ev_if (ev_isTrue_compare (ev_ld F rfl (ev_int fun t1 => ev_eqi (ev_truthy_bool ?_)))))
  refine ev_nil ?_
  refine ev_cons (ev_try ?_)
  refine ev_cons (ev_assign (ev_call (ev_bi B kB1 (.builtin "len") rfl rfl (ev_ld F rfl ⟨.builtin, ev_len (k1 _ _ hl) (by omega) fun t2 => ev_st F N fun h2 F2 N2 => ev_nil ?_⟩))))
  refine ev_cons (ev_if (ev_isTrue_compare (ev_ld F2 rfl (ev_ld F2 (v := .int xs.length t2) rfl (ev_gei (ev_truthy_bool ?_))))))
  have kB2 : Kp Bh h2 := kb.trans' F2.keep
  have hl2 : h2.get? l = some (LO xs n) := F2.keep _ _ hl
  by_cases hs : (xs.length : Int) ≤ 2
  · refine if_p (by simpa using hs) ?_
    refine ev_cons (ev_return (ev_sub (ev_call_kw1 (ev_bi B kB2 (.builtin "sorted") rfl rfl ⟨rfl, ev_ld F2 rfl (ev_ldc (N2.at (.head _)) dc ?_)⟩))))
    refine ev_sortedK (strS w) .key (Rm.le (by decide)) (gi := h2) (fun _ _ e => e) hl2 (as := ss.map cS) ?_ (by omega) fun D h3 ys c o3 d3 g3 r3 => ?_
    · exact All2.map_r cS (hr.imp fun v b r => (sr_iff h2 v b).mp r)
    rw [srt_map] at r3
    have r3' : All2 StrIs ys (sortC cS ss) := (All2.of_map_r cS r3).imp fun v b r => (sr_iff (w := w) h2 v b).mpr r
    have F3 := Fm.o F2 o3
    have N3 := Nw.o N2 o3
    refine ev_slice ?_
    rw [evalPart_none, evalPart_some]
    refine Ev.pure (ev_ld F3 (v := .int 2 t) rfl ⟨none, some (2, t), rfl, rfl, fun a h4 o4 g4 => ?_⟩)
    refine ev_tail_lslice (k := 2) (o4 _ _ nin0 g3) g4 (by have := r3'.len; rw [sortC_len] at this; omega) fun D5 h5 o5 d5 g5 => ?_
    have oall : Only [] h h5 := (Only.of_kp F2.keep).trans (o3.trans (o4.trans o5))
    exact p D5 h5 _ _ oall (none_of_kp ((F2.keep.trans' o3.kp).trans' o4.kp) d5) g5 (SeqL.take (h := h5) (R := SR) r3' 2)
  · refine if_n (by simpa using hs) ?_
    refine ev_nil (ev_nil ?_)
    have h3x : 3 ≤ xs.length := by omega
    refine ev_cons (ev_if (ev_isTrue_compare (ev_ldc (N2.at (.head _)) dc (ev_none (ev_is_none (ev_truthy_bool ?_))))))
    refine ev_cons (ev_assign (ev_call (ev_bi B kB2 (.builtin "iter") rfl rfl (ev_ld F2 (v := .ref l) rfl ⟨.builtin, ev_iterCall (ev_iter_list hl2 fun I h3 oI o3 d3 gI st => ?_)⟩))))
    have F3 := Fm.o F2 o3
    have N3 := Nw.o N2 o3
    have IL : I ≠ L := fun q => by
      obtain ⟨ob, _, _, ho, _⟩ := F2.ns
      rw [← q, d3] at ho; cases ho
    have Ic : I ≠ nx L := fun q => by
      have := N2.at (.head _)
      rw [← q, d3] at this; cases this
    have nI : h.get? I = none := none_of_kp F2.keep d3
    have N3' : Nw (hideAll h []) L h3 [(I, oI), (nx L, oc)] := N3.cons gI IL (none_of_kp F2.keep d3)
    refine ev_st F3 N3' fun h4 F4 N4 => ?_
    have kB4 : Kp Bh h4 := kb.trans' F4.keep
    have hl4 : h4.get? l = some (LO xs n) := F4.keep _ _ hl
    have Il : I ≠ l := fun q => by rw [q, hl] at nI; cases nI
    refine ev_cons (ev_alc (cl := []) (ev_call (ev_bi B kB4 (.type "zip") rfl rfl (ev_call (ev_bi B kB4 (.type "range") rfl rfl (ev_ld F4 (v := .int 2 t) rfl ⟨.type, ev_range1 fun r h5 t5 u5 v5 o5 d5 g5 => ?_⟩))))))
    have F5 := Fm.o F4 o5
    have N5 := Nw.o N4 o5
    refine ev_ld F5 (v := .ref I) rfl ⟨.type, ev_zipNew g5 (N5.at (.head _)) st (o5 _ _ nin0 hl4) Il fun z TI TT i1 h6 o6 dz dT di ap S6 => ?_⟩
    have F6 := Fm.o F5 o6
    have N6 := Nw.o N5 o6
    refine ev_iterZip S6 ?_
    intro D C h7 o7 dD gD dC nDC nsC _ _
    have S7 : ZSt z TI TT i1 I l xs n .none 0 h7 := S6.up o7
    have nY := fun X (hX : h6.get? X = none) => S6.ne hX
    have F7 := Fm.o F6 o7
    have N7 := Nw.o N6 o7
    refine fev_start rfl (ev_iterZip S7) (fev_zip2 Rm.handled ap S7 (by omega) nsC gD (nY C dC) (nY D dD) nDC.symm rfl rfl rfl fun h8 T0 T1 t0 t1 kk m8 x0 x1 o8' o8 gD8 hx0 hx1 g0 g1 d0 d1 gI8 st8 ns8 => ?_)
    have nn : ∀ {a b : Addr} {o : Obj}, h7.get? a = some o → h7.get? b = none → a ≠ b := fun e d => ne_fr e d
    obtain ⟨zL, gz⟩ := F5.fr dz
    obtain ⟨tL, gt⟩ := F5.fr dT
    obtain ⟨iL, gi⟩ := F5.fr di
    obtain ⟨CL, gC⟩ := F6.fr dC
    obtain ⟨DL, gD'⟩ := F6.fr dD
    obtain ⟨T0L, gT0⟩ := F7.fr d0
    obtain ⟨T1L, gT1⟩ := F7.fr d1
    obtain ⟨oC, esC, epC, hoC, nsC8⟩ := ns8
    have c7 := N7.at (.tail _ (.head _))
    have I7 := N7.at (.head _)
    obtain ⟨L7, _, _, hL7, _⟩ := F7.ns
    obtain ⟨v0, hv0, ⟨a0, rfl⟩⟩ : ∃ s0, ss[0]? = some s0 ∧ StrIs x0 s0 := by
      obtain ⟨v, hv, r⟩ := SeqL.at (R := SR) (h := h) hr (show ss[0]? = some ss[0] from List.getElem?_eq_getElem (by omega))
      rw [hx0] at hv
      exact ⟨_, List.getElem?_eq_getElem (by omega), by rw [Option.some.inj hv]; exact r⟩
    obtain ⟨v1, hv1, ⟨a1, rfl⟩⟩ : ∃ s0, ss[1]? = some s0 ∧ StrIs x1 s0 := by
      obtain ⟨v, hv, r⟩ := SeqL.at (R := SR) (h := h) hr (show ss[1]? = some ss[1] from List.getElem?_eq_getElem (by omega))
      rw [hx1] at hv
      exact ⟨_, List.getElem?_eq_getElem (by omega), by rw [Option.some.inj hv]; exact r⟩
    obtain ⟨F8, N8⟩ := after F7 N7 (news' := [(I, o8'), (nx L, oc), (D, LO [.ref T0, .ref T1] kk), (C, oC), (T0, TO [.str v0 a0, .int 0 t0]), (T1, TO [.str v1 a1, .int 1 t1])]) o8 (allc ⟨gz, zL⟩ (allc ⟨gt, tL⟩ (allc ⟨gi, iL⟩ (allc ⟨nI, IL⟩ (allc ⟨gC, CL⟩ (allc ⟨gD', DL⟩ alln))))))
      (allc ⟨gI8, .inl ⟨IL, nI⟩⟩ (allc ⟨o8 _ _ (have c5 := N5.at (.tail _ (.head _)); ninc (ne_fr c5 dz) (ninc (ne_fr c5 dT) (ninc (ne_fr c5 di) (ninc Ic.symm (ninc (ne_fr (N6.at (.tail _ (.head _))) dC) (nin1 (ne_fr (N6.at (.tail _ (.head _))) dD))))))) c7, .inl ⟨cL, cg⟩⟩
        (allc ⟨gD8, .inl ⟨DL, gD'⟩⟩ (allc ⟨hoC, .inl ⟨CL, gC⟩⟩ (allc ⟨g0, .inl ⟨T0L, gT0⟩⟩ (allc ⟨g1, .inl ⟨T1L, gT1⟩⟩ alln))))))
    refine ev_st F8 N8 fun h9 F9 N9 => ⟨m8, ⟨oC, esC, epC, N9.at (.tail _ (.tail _ (.tail _ (.head _)))), nsC8⟩, fun h10 o10 => ?_⟩
    have DC : D ≠ C := nDC
    obtain ⟨CoC, _, _, hCo7, _⟩ := nsC
    obtain ⟨F10, N10⟩ := after F9 N9 (news' := [(I, o8'), (nx L, oc), (D, LO [.ref T0, .ref T1] kk), (T0, TO [.str v0 a0, .int 0 t0]), (T1, TO [.str v1 a1, .int 1 t1])]) o10 (allc ⟨gC, CL⟩ alln) (allc ⟨o10 _ _ (nin1 (ne_fr (N6.at (.head _)) dC)) (N9.at (.head _)), .inr (.head _)⟩ (allc ⟨o10 _ _ (nin1 (ne_fr (N6.at (.tail _ (.head _))) dC)) (N9.at (.tail _ (.head _))), .inr (.tail _ (.head _))⟩
      (allc ⟨o10 _ _ (nin1 DC) (N9.at (.tail _ (.tail _ (.head _)))), .inr (.tail _ (.tail _ (.head _)))⟩ (allc ⟨o10 _ _ (nin1 (ne_fr hCo7 d0).symm) (N9.at (.tail _ (.tail _ (.tail _ (.tail _ (.head _)))))), .inr (.tail _ (.tail _ (.tail _ (.tail _ (.head _)))))⟩
      (allc ⟨o10 _ _ (nin1 (ne_fr hCo7 d1).symm) (N9.at (.tail _ (.tail _ (.tail _ (.tail _ (.tail _ (.head _))))))), .inr (.tail _ (.tail _ (.tail _ (.tail _ (.tail _ (.head _))))))⟩ alln)))))
    have N10' : Nw (hideAll h []) L h10 [(I, o8'), (nx L, oc), (D, LO [.ref T0, .ref T1] kk)] := N10.sub (subc (.head _) (subc (.tail _ (.head _)) (subc (.tail _ (.tail _ (.head _))) sub0)))
    obtain ⟨kr, Fr, Nr⟩ := reground F10 N10'
    have tg : ∀ {T : Addr} {o : Obj}, h7.get? T = none → h10.get? T = some o → (hideAll h10 (L :: [(I, o8'), (nx L, oc), (D, LO [.ref T0, .ref T1] kk)].map (·.1))).get? T = some o := fun d e => hideAll_get _ e (ninc (ne_fr hL7 d).symm (ninc (ne_fr I7 d).symm (ninc (ne_fr c7 d).symm (nin1 (ne_fr gD d).symm))))
    have r10 : SeqL (TupR [0, 1]) (hideAll h10 (L :: [(I, o8'), (nx L, oc), (D, LO [.ref T0, .ref T1] kk)].map (·.1))) [.ref T0, .ref T1] [cN (v0, 0), cN (v1, 1)] :=
      .cons (NR.tup ⟨T0, _, _, rfl, tg d0 (N10.at (.tail _ (.tail _ (.tail _ (.head _)))))⟩) (.cons (NR.tup ⟨T1, _, _, rfl, tg d1 (N10.at (.tail _ (.tail _ (.tail _ (.tail _ (.head _))))))⟩) .nil)
    generalize hideAll h10 (L :: [(I, o8'), (nx L, oc), (D, LO [.ref T0, .ref T1] kk)].map (·.1)) = g10 at kr Fr Nr r10
    have ID : I ≠ D := ne_fr (N6.at (.head _)) dD
    have cD : nx L ≠ D := ne_fr (N6.at (.tail _ (.head _))) dD
    have nd3 : [I, nx L, D].Nodup := .cons (allc Ic (allc ID alln)) (.cons (allc cD alln) (.cons alln .nil))
    clear tg N10' F10 F9 N9 F8 N8
    have kBg : Kp Bh g10 := kb.trans' kr
    have bD : Bh.get? D = none := none_of_kp kb (gD' : h.get? D = none)
    refine ev_cons (ev_if (ev_isTrue_not (ev_isTrue_plain (ev_ld Fr (v := .ref D) rfl (ev_truthy_list (Nr.at (.tail _ (.tail _ (.head _)))) (by simp) ?_)))))
    refine ev_nil ?_
    have kB10 := kBg.trans' Fr.keep
    refine ev_cons (ev_expr (ev_call (ev_glob B kB10 (.ref 241) rfl (ev_ld Fr (v := .ref D) rfl ⟨.inK B kB10 rfl, Ev.call (heapify_max_C (tupI w [0, 1]) B kB10 (Rm.le (by decide)) (Nr.at (.tail _ (.tail _ (.head _)))) bD (by simp) Fr.keep (Nr _ (.tail _ (.tail _ (.head _)))).2.2 r10 fun h11 ys11 k11 o11 g11 r11 => ?_)⟩))))
    obtain ⟨p1, q1, e11, pm11, pq11⟩ := hfy2 (p := (v0, 0)) (q := (v1, 1))
    have e11' : hfy (flp (tupI w [0, 1]).lt) (([cN (v0, 0), cN (v1, 1)] : List Tp).length / 2) [cN (v0, 0), cN (v1, 1)] = [cN p1, cN q1] := e11
    rw [e11'] at r11
    obtain ⟨ya, yb, rfl, ⟨Ta, ta, ua, rfl, hTa⟩, rb11⟩ := seqN r11
    have F11 := Fm.put Fr Nr 2 rfl o11
    have N11 := Nw.put1 Nr nd3 2 rfl o11 g11
    have hD11 := N11.at (.tail _ (.tail _ (.head _)))
    refine ev_cons (ev_assign (ev_sub (ev_sub (ev_ld F11 (v := .ref D) rfl (ev_int fun _ => ev_tail_list hD11 (by decide) (by decide) rfl (ev_int fun _ => ev_item_tup (i := 0) (F11.keep _ _ hTa) (by decide) rfl (ev_st F11 N11 fun h12 F12 N12 => ?_)))))))
    refine ev_cons (ev_assign (ev_ld F12 (v := .int 2 t) rfl (ev_st F12 N12 fun h13 F13 N13 => ?_)))
    refine ev_cons (ev_assign (ev_glob B (kBg.trans' F13.keep) (.ref 234) rfl (ev_st F13 N13 fun h14 F14 N14 => ?_)))
    have T : Itr w _ I g10 xs.length (fun i v => xs[i]? = some v) (LSt l) "list_iterator" := Itr.list Rm.handled (kr _ _ hl)
    refine ev_cons (ev_for (ev_ld F14 (v := .ref I) rfl (T.self (N14.at (.head _)) st8 ?_)))
    obtain ⟨J, hJ⟩ : ∃ J : Nat → Obj → Heap → Prop, ∀ i o h, J i o h ↔ NJ Bh g10 L (nx L) D I oc (ss.take (2 + i)) o h := ⟨_, fun _ _ _ => Iff.rfl⟩
    refine gev_for_itr (T.from 2 (by omega)) J (fun i o h j => by obtain ⟨jk, jF, jN, _⟩ := (hJ _ _ _).1 j; exact ⟨jk.trans' jF.keep, jN.at (.head _)⟩) ?_ ?_ (o := o8') st8 ((hJ _ _ _).2 ⟨fun _ _ e => e, F14, N14, r11, pq11, ?_, rfl, rfl, rfl, rfl⟩)
    · intro i o ha v hb o' hi j hv oab gI' cI'
      obtain @⟨g, m, ys, k, p2, q2, e, tt, te, jkg, jF, jN, jr, jpq, jtw, jm1, jm2, jm3, jm4⟩ := (hJ _ _ _).1 j
      have hi2 : 2 + i < ss.length := by omega
      obtain ⟨v', hv', rv⟩ := SeqL.at (R := SR) (h := h) hr (show ss[2 + i]? = some ss[2 + i] from List.getElem?_eq_getElem hi2)
      rw [hv] at hv'
      obtain rfl := Option.some.inj hv'
      obtain ⟨x, hx⟩ : ∃ x, ss[2 + i] = x := ⟨_, rfl⟩
      rw [hx] at rv
      obtain ⟨tv, rfl⟩ := rv
      have tk : ss.take (2 + (i + 1)) = ss.take (2 + i) ++ [x] := by rw [← hx, show 2 + (i + 1) = (2 + i) + 1 by omega, List.take_add_one, List.getElem?_eq_getElem hi2]; rfl
      have hJ2 : ∀ {o h}, NJ Bh g10 L (nx L) D I oc (ss.take (2 + i) ++ [x]) o h → J (i + 1) o h := fun q => (hJ _ _ _).2 (tk ▸ q)
      have Fb := Fm.o1 jF jN oab
      have Nb := Nw.o1 jN oab gI' (allc Ic.symm (allc ID.symm alln))
      have kBJ : Kp Bh g := kBg.trans' jkg
      refine ev_own_name (ev_asg_name (ev_st Fb Nb fun hc' Fc Nc => ?_))
      refine ev_cons (ev_if (ev_isTrue_compare (ev_ld Fc (v := .str x tv) rfl (ev_ld Fc (v := .str p2.1 tt) jm2 (ev_lts (ev_truthy_bool ?_))))))
      by_cases hlt : ltS x p2.1
      · refine if_p (by simpa using hlt) ?_
        have mr : (upd "elem" (.str x tv) m) "result" = some (.ref D) := jm1
        refine ev_cons (ev_expr (ev_call (ev_ld Fc (v := .ref 234) jm4 (ev_ld Fc mr (ev_tuple (ev_ld Fc (v := .str x tv) rfl (ev_ld Fc (v := .int e te) jm3 (ev_newTuple (by simp) (by simp) fun T hd od dT gT => ?_))))))))
        have Fd := Fm.o Fc od
        have Nd := Nw.o Nc od
        obtain ⟨kd, Fe, Ne⟩ := reground Fd Nd
        obtain ⟨TL, gTg⟩ := Fc.fr dT
        have tg : (hideAll hd (L :: [(I, o'), (nx L, oc), (D, LO ys k)].map (·.1))).get? T = some (TO [.str x tv, .int e te]) := hideAll_get _ gT (ninc TL (ninc (ne_fr (Nc.at (.head _)) dT).symm (ninc (ne_fr (Nc.at (.tail _ (.head _))) dT).symm (nin1 (ne_fr (Nc.at (.tail _ (.tail _ (.head _)))) dT).symm))))
        generalize hideAll hd (L :: [(I, o'), (nx L, oc), (D, LO ys k)].map (·.1)) = ge at kd Fe Ne tg
        have kBe := kBJ.trans' kd
        have re : SeqL (tupI w [0, 1]).R ge ys (cN p2 :: [cN q2]) := jr.imp fun v b r => (tupI w [0, 1]).up kd r
        have nD := Ne _ (.tail _ (.tail _ (.head _)))
        refine ⟨.inK B (kBe.trans' Fe.keep) rfl, Ev.call (heapreplace_C (tupI w [0, 1]) B (kBe.trans' Fe.keep) (Rm.le (by decide)) nD.1 bD (by have := jr.len; simp at this; omega) Fe.keep nD.2.2 re (a := cN (x, e)) (NR.tup ⟨T, tv, te, rfl, tg⟩) fun _ hf ys2 k2 of gf rf => ?_)⟩
        obtain ⟨p3, q3, e3, pm3, pq3⟩ := hrep2 (x := (x, e)) jpq
        have e3' : sup (flp (tupI w [0, 1]).lt) (cN (x, e)) 0 (([cN q2] : List Tp).length + 1) (cN (x, e) :: [cN q2]) 0 = [cN p3, cN q3] := e3
        rw [e3'] at rf
        obtain ⟨ya', yb', rfl, ⟨Tc, tc, uc, rfl, hTc⟩, _⟩ := seqN rf
        have Ff := Fm.put Fe Ne 2 rfl of
        have Nf := Nw.put1 Ne nd3 2 rfl of gf
        have hDf := Nf.at (.tail _ (.tail _ (.head _)))
        refine ev_cons (ev_assign1 (ev_sub (ev_ld Ff mr (ev_int fun _ => ev_tail_list hDf (by decide) (by decide) rfl (ev_asg_two Rm.handled (Ff.keep _ _ hTc) fun hg og => ?_)))))
        have Fg := Fm.o Ff og
        have Ng := Nw.o Nf og
        refine ev_asg_name (ev_st Fg Ng fun hh' Fh Nh => ev_asg_name (ev_st Fh Nh fun hi' Fi Ni => ?_))
        refine ev_cons (ev_augassign (ev_ldn Fi (v := .int e te) jm3 (ev_int fun _ => ev_iaddi fun tz => ev_st Fi Ni fun hj Fj Nj => ?_)))
        have tw : Two (ss.take (2 + i) ++ [x]) p3.1 q3.1 := jtw.put hlt (by simpa using pm3.map (·.1)) (cN_lt pq3)
        exact ev_nil (ev_nil ⟨o', hJ2 (.mk (e := e + 1) (t2 := tz) (jkg.trans' kd) Fj Nj rf pq3 tw mr rfl rfl jm4), rfl⟩)
      · refine if_n (by simpa using hlt) ?_
        exact ev_nil (ev_nil ⟨o', hJ2 ⟨jkg, Fc, Nc, jr, jpq, jtw.skip hlt, jm1, jm2, jm3, jm4⟩, rfl⟩)
    · intro o ha hb j oab
      have jj := (hJ _ _ _).1 j
      rw [show 2 + (xs.length - 2) = ss.length by omega, List.take_length] at jj
      obtain @⟨g, m, ys, k, p2, q2, e, tt, te, jkg, jF, jN, jr, jpq, jtw, jm1, jm2, jm3, jm4⟩ := jj
      obtain ⟨Fb, Nb⟩ := after jF jN (news' := [(nx L, oc), (D, LO ys k)]) oab (allc (jN _ (.head _)).2.symm alln) (allc ⟨oab _ _ (nin1 Ic.symm) (jN.at (.tail _ (.head _))), .inr (.tail _ (.head _))⟩ (allc ⟨oab _ _ (nin1 ID.symm) (jN.at (.tail _ (.tail _ (.head _)))), .inr (.tail _ (.tail _ (.head _)))⟩ alln))
      have kBJ : Kp Bh g := kBg.trans' jkg
      have nD := Nb _ (.tail _ (.head _))
      refine ev_nil (ev_cons (ev_expr (ev_mcall (he := by rfl) (hc := by rfl) (ev_ld Fb (v := .ref D) jm1 (ev_method_list nD.1 slot_list_sort ⟨.builtin, ev_lsort (tupS w [1]) (Rm.le (by decide)) Fb.keep nD.1 nD.2.2 (jr : SeqL (tupS w [1]).I.R g ys [cN p2, cN q2]) (by have := jr.len; simp at this; omega) fun hc' ys2 k2 oc' gc rc => ?_⟩)))))
      have e4 : srt (O := tpO) [cN p2, cN q2] = [cN q2, cN p2] := two_sort jpq
      rw [e4] at rc
      have Fc := Fm.put Fb Nb 1 rfl oc'
      have Nc := Nw.put1 Nb (.cons (allc cD alln) (.cons alln .nil)) 1 rfl oc' gc
      refine ev_cons (ev_return (ev_lc (cl := []) (ev_ld Fc (v := .ref D) jm1 ?_)))
      have rN : SeqL NR g ys2 [q2, p2] := by
        obtain ⟨_, _, rfl, r1, r2⟩ := seqN rc
        exact .cons r1 (.cons r2 .nil)
      refine lcomp1 (R := NR) (R' := SR) (f := fun p : Str × Nat => [p.1]) ownTuple Rm.handled Fc Nc (Nc.at (.tail _ (.head _))) rN (by simp) ?_ ?_
      · intro C c0 a v hx mx _ rv ox kx Fx _ _
        obtain ⟨T, t1, u1, rfl, hT⟩ := rv
        refine ev_asg_two Rm.handled (kx _ _ hT) fun hy oy => ?_
        have Fy := Fm.o Fx oy
        refine ev_asg_name (ev_st Fy Nw.nil fun hz Fz Nz => ev_asg_name (ev_st Fz Nw.nil fun hw Fw Nw' => ev_tests0 ?_))
        refine ift ?_
        exact ev_ld Fw (v := .str a.1 t1) rfl ⟨a.1, _, rfl, Fw, trivial, trivial, fun _ _ _ => ⟨t1, rfl⟩⟩
      · intro D' h5 zs kz gN dN oN kN FN NN rz _
        have ez : (sortC cS ss).take 2 = [q2.1, p2.1] := jtw.end
        refine p D' h5 zs kz ?_ ?_ (NN.at (.head _)) (by rw [ez]; exact rz)
        · exact Only.of_kp ((kr.trans' (jkg.trans' Fc.keep)).trans' oN.kp)
        · exact none_of_kp (kr.trans' (jkg.trans' Fc.keep)) dN
    · show Two (ss.take 2) _ _
      rw [take_two hv0 hv1]
      exact Two.begin pm11 pq11
end Mine
open PySem PySem.W PyProof.Rows PySem.Calls
set_option maxRecDepth 100000
set_option maxHeartbeats 1000000
set_option linter.unusedVariables false
namespace Mine
variable {w : World} {A : Around} {Bh : Heap}
/-! ## what two comprehensions of `_law_by_book` share -/
/-- (pair.name, value, pair.value), for each value -/
theorem row_step (B : Base w Bh) {cenv : Env} {p1 p2 p3 p4 p5 p6 p7 : Pos} {k : Nat} {h1 gE : Heap} (k1 : Kp gE h1) (kB : Kp Bh gE) (Rm : Room A 4) (c0 : h1.get? cenv.locals = none) {pp : Addr} {x v : Str} {t u : Tok} (ip : IsPair gE pp (.str x t) (.str v u)) {as : List Str}
    (hk : cenv.scope.kind = .function) (lv : cenv.kindOf "value" = some .local) (lp : cenv.kindOf "pair" = some .local) :
    LStep w A h1 gE [] (fun _ => True) cenv (.Name "value" p1) (.Tuple [.Attribute (.Name "pair" p2) "name" p3, .Name "value" p4, .Attribute (.Name "pair" p5) "value" p6] k p7) [] (fun m => m "pair" = some (.ref pp)) SR TR (fun s => [(x, s, v)]) as := by
  intro s v2 h11 m11 hs rq o11 kE11 F11 km _
  obtain ⟨t2, rfl⟩ := rq
  refine ev_asg_name (ev_st F11 Nw.nil (fun h12 F12 N12 => ev_tests0 ?_) hk lv)
  simp only [if_true]
  have kE12 : Kp gE h12 := k1.trans' (F12.kpC o11.kp c0)
  refine ev_triple2 (t := t) (u := t2) (v := u) (m := upd "value" (.str s t2) m11) (ev_attr (ev_ld F12 (v := .ref pp) km (ev_name B (kB.trans' kE12) Rm (ip.up kE12) rfl fun h13 o13 => ?_) hk lp)) fun T h25 F25 r25 => ⟨_, _, rfl, F25, km, trivial, r25 _⟩
  have F13 := Fm.o F12 o13
  exact ev_ld F13 (v := .str s t2) rfl (ev_attr (ev_ld F13 (v := .ref pp) km (ev_value B ((kB.trans' kE12).trans' o13.kp) Rm (ip.up (kE12.trans' o13.kp)) rfl fun h14 o14 => ⟨rfl, (F13.o o14)⟩) hk lp)) hk lv
/-- book[pair.name] -/
theorem ev_bookName (B : Base w Bh) {gi : Heap} {pa : List (Str × Str)} {es : List Ent} (M : BkM Bh gi pa (namesOf pa) es) {bk dd lam c : Addr} {oc : Obj} {ep : Nat} (hlt : 353 < bk) {cenv : Env} {p1 p2 p3 p4 : Pos} {g h : Heap} {m : Str → Option Value} (kb : Kp Bh h) (Rm : Room A 4) (F : Fm g cenv.locals h m)
    (hc : h.get? c = some oc) (dc : oc.data = .cell (some (.ref bk))) (hb : h.get? bk = some (bkO w dd (es.map Ent.key) ep)) (fz : Frz w h bk dd lam) (he : ∀ e ∈ es, h.get? e.ad = some (LO e.vs e.ct)) {pp : Addr} {x v : Str} {t u : Tok} (ip : IsPair h pp (.str x t) (.str v u)) (hm : m "pair" = some (.ref pp))
    (l0 : cenv.cells.lookup ("book" : Str) = some c) (hk : cenv.scope.kind = .function) (lb : cenv.kindOf "book" = some .cell) (lp : cenv.kindOf "pair" = some .local) {P : Value → Heap → Prop}
    (p : ∀ a vs k h', Only [] h h' → h'.get? a = some (LO vs k) → ((∃ e ∈ es, a = e.ad) ∨ h.get? a = none) → All2 StrIs vs (bv es x) → P (.ref a) h') :
    Ev (model pw w) A (eval (.Subscript (.Name "book" p1) (.Attribute (.Name "pair" p2) "name" p3) p4) cenv) h P := by
  refine ev_sub (ev_ldc hc dc (ev_attr (ev_ld F hm (ev_name B kb (Rm.le (by decide)) ip rfl fun h9 o9 => ?_) hk lp)) l0 hk lb)
  have k9 := o9.kp
  refine ev_bookFrozen B (kb.trans' k9) (Rm.le (by decide)) hlt (k9 _ _ hb) (fz.up k9) (fun y hy hk => ?_) fun nk a2 m2 h10 o10 n10 e10 => ?_
  · obtain ⟨e, me, rfl⟩ := List.mem_map.mp hy
    refine p e.ad e.vs e.ct h9 o9 (k9 _ _ (he e me)) (.inl ⟨e, me, rfl⟩) ?_
    rw [bv_at (M.nm ▸ names_nodup _) me hk]
    exact (seq_sr (M.ok e me).r).imp fun v b r => r
  · refine p a2 [] m2 h10 (o9.trans o10) e10 (.inr (none_of_kp k9 n10)) ?_
    rw [bv_none fun e he z => nk _ (List.mem_map_of_mem (f := Ent.key) he) z]
    exact .nil
theorem Frz.but {h : Heap} {bk dd lam L : Addr} {m : Str → Option Value} (f : Frz w h bk dd lam) (ns : h.Ns L m) (hd : dd ≠ L) : Frz w (hideAll h [L]) bk dd lam := by
  obtain ⟨⟨hs, t, ep, e⟩, cell, c', ctv, oc, e1, ⟨c2, o2, vs, t2, y1, y2, y3, y4⟩, e3, e4⟩ := f
  obtain ⟨o, es, ep2, ho, hod, _⟩ := ns
  have ne : ∀ {a : Addr} {ob : Obj}, h.get? a = some ob → (∀ x y, ob.data ≠ .dict x y) → (hideAll h [L]).get? a = some ob := fun e n => hideAll_get _ e (fun q => by
    rw [List.mem_singleton.mp q, ho] at e
    exact n _ _ ((Option.some.inj e) ▸ hod))
  exact ⟨⟨hs, t, ep, hideAll_get _ e (nin1 hd)⟩, cell, c', ctv, oc, ne e1 (fun _ _ q => by cases q), ⟨c2, o2, vs, t2, y1, ne y2 (fun _ _ q => by rw [y3] at q; cases q), y3, y4⟩, ne e3 (fun _ _ q => by rw [e4] at q; cases q), e4⟩
end Mine
open PySem PySem.W PyProof.Rows PySem.Calls
set_option maxRecDepth 100000
set_option maxHeartbeats 1000000
set_option linter.unusedVariables false
namespace Mine
/-! ## the book's answer is the due one, plain -/
theorem map_inj {α β : Type} {c : α → β} (hc : ∀ x y, c x = c y → x = y) : ∀ {a b : List α}, a.map c = b.map c → a = b
  | [], [], _ => rfl
  | [], _ :: _, h => by simp at h
  | _ :: _, [], h => by simp at h
  | x :: a, y :: b, h => by
    rw [List.map_cons, List.map_cons] at h
    rw [hc _ _ (List.cons.inj h).1, map_inj hc (List.cons.inj h).2]
theorem cS_inj {x y : Str} (h : cS x = cS y) : x = y := aS_inj (List.cons.inj h).1
theorem cT_inj {p q : Str × Str × Str} (h : cT p = cT q) : p = q := by
  obtain ⟨a, b, c⟩ := p; obtain ⟨d, e, f⟩ := q
  have h1 := List.cons.inj h
  have h2 := List.cons.inj h1.2
  have h3 := List.cons.inj h2.2
  have e1 : a = d := aS_inj h1.1
  have e2 : b = e := aS_inj h2.1
  have e3 : c = f := aS_inj h3.1
  rw [e1, e2, e3]
theorem sortC_eq {α : Type} {c : α → Tp} (hc : ∀ x y, c x = c y → x = y) {a b : List α} (p : a.Perm b) : sortC c a = sortC c b :=
  map_inj hc (by rw [← srt_map, ← srt_map]; exact srt_perm_eq (O := tpO) (p.map c))
theorem flat_app {α β : Type} {f g : α → List β} : ∀ (l : List α), (l.flatMap fun a => f a ++ g a).Perm (l.flatMap f ++ l.flatMap g)
  | [] => .refl _
  | a :: l => by
    rw [List.flatMap_cons, List.flatMap_cons, List.flatMap_cons]
    have := (flat_app (f := f) (g := g) l).append_left (f a ++ g a)
    refine this.trans ?_
    rw [List.append_assoc, List.append_assoc]
    refine List.Perm.append_left _ ?_
    rw [← List.append_assoc, ← List.append_assoc]
    exact List.Perm.append_right _ List.perm_append_comm
theorem flat_swap {α β γ : Type} {f : α → β → List γ} : ∀ (l : List α) (m : List β), (l.flatMap fun a => m.flatMap fun b => f a b).Perm (m.flatMap fun b => l.flatMap fun a => f a b)
  | [], m => by
    rw [List.flatMap_nil, flat_nil fun b _ => List.flatMap_nil]
  | a :: l, m => by
    rw [List.flatMap_cons]
    refine ((flat_swap l m).append_left _).trans ?_
    have e : (m.flatMap fun b => (a :: l).flatMap fun a => f a b) = m.flatMap fun b => f a b ++ l.flatMap fun a => f a b := flat_congr fun b _ => List.flatMap_cons
    rw [e]
    exact (flat_app m).symm
theorem flat_perm {α β : Type} {f g : α → List β} : ∀ (l : List α), (∀ a ∈ l, (f a).Perm (g a)) → (l.flatMap f).Perm (l.flatMap g)
  | [], _ => .refl _
  | a :: l, h => by
    rw [List.flatMap_cons, List.flatMap_cons]
    exact (h a (.head _)).append (flat_perm l fun b hb => h b (.tail _ hb))
theorem rows_perm {Bh gi : Heap} {pa : List (Str × Str)} {es : List Ent} (M : BkM Bh gi pa (namesOf pa) es) (pb : List (Str × Str)) : (pb.flatMap fun q => (bv es q.1).flatMap fun s => [(q.1, s, q.2)]).Perm (rowsOf pa pb) := by
  have h1 : (pb.flatMap fun q => (bv es q.1).flatMap fun s => [(q.1, s, q.2)]).Perm (pb.flatMap fun q => pa.flatMap fun p => if q.1 == p.1 then [(p.1, p.2, q.2)] else []) := by
    refine flat_perm _ fun q _ => ?_
    refine (List.Perm.flatMap_right _ (bv_perm M q.1)).trans ?_
    unfold valsFor
    rw [List.flatMap_assoc]
    refine List.Perm.of_eq (flat_congr fun p _ => ?_)
    by_cases h : p.1 = q.1
    · simp [h]
    · simp [h, Ne.symm h]
  refine h1.trans ?_
  unfold rowsOf
  refine (flat_swap pb pa).trans ?_
  refine (List.Perm.flatMap_right _ (sortC_perm cP pa).symm).trans ?_
  exact flat_perm _ fun p _ => List.Perm.flatMap_right _ (sortC_perm cP pb).symm
theorem few_eq {Bh gi : Heap} {pa : List (Str × Str)} {es : List Ent} (M : BkM Bh gi pa (namesOf pa) es) (pb : List (Str × Str)) : (pb.flatMap fun q => ((sortC cS (bv es q.1)).take 2).flatMap fun s => [(q.1, s, q.2)]) = fewOf pa pb := by
  unfold fewOf
  refine flat_congr fun q _ => ?_
  rw [sortC_eq (fun _ _ => cS_inj) (bv_perm M q.1)]
theorem few_len (pa : List (Str × Str)) : ∀ pb : List (Str × Str), (fewOf pa pb).length ≤ (pb.flatMap fun q => valsFor pa q.1).length
  | [] => Nat.le_refl _
  | q :: pb => by
    have := few_len pa pb
    unfold fewOf at this ⊢
    rw [List.flatMap_cons, List.flatMap_cons, List.length_append, List.length_append, flat_one, List.length_map, List.length_take, sortC_len]
    have := Nat.min_le_right 2 (valsFor pa q.1).length
    omega
end Mine
open PySem PySem.W PyProof.Rows PySem.Calls
set_option maxRecDepth 100000
set_option maxHeartbeats 1000000
set_option linter.unusedVariables false
namespace Mine
variable {w : World} {A : Around} {Bh : Heap}
theorem by_book_C (B : Base w Bh) {h : Heap} (kb : Kp Bh h) (room : Room A 10) (hT : h.get? 100 = some (tabObj #[])) (hBM : Bh.BuiltinsAt (mgl w.params) 100) (hBT : Bh.get? 100 = none) {l r : Addr} {xs ys : List Value} {n k : Nat} {pa pb : List (Str × Str)} (hl : h.get? l = some (LO xs n)) (hr : h.get? r = some (LO ys k)) {gi : Heap} (kgi : Kp gi h) (hgT : gi.get? 100 = none)
    (ra : SeqL (PairR Bh) gi xs (pa.map cP)) (rb : SeqL (PairR Bh) gi ys (pb.map cP)) (ha : pa.length < 30) (hb : pb.length < 30) (hz : (pb.flatMap fun q => valsFor pa q.1).length < 60) {P : Value → Heap → Prop}
    (p : ∀ v h' as, Only [100] h h' → (∃ ps, h'.get? 100 = some (tabObj ps)) → Reads h' v (.tuple [.list ((sortC cT (rowsOf pa pb)).map dT), .list ((fewOf pa pb).map dT), .list ((namesOf pa).map .str)]) as → P v h') :
    CEv (model pw w) A (.call (.ref 321) ⟨[.ref l, .ref r], []⟩) h P := by
  refine CEv.fngc B kb (n := 9) room (gi := hideAll h [100]) hide_kp (fa := 321) (c := 320) [("left", .ref l), ("right", .ref r)] rfl rfl rfl rfl rfl rfl rfl (fun s hs => BindsTo.of_eq (by rfl)) (fun L => by rfl) ?_
  intro L h₁ Rm k1 nL F CC
  obtain ⟨oc, hc, dc, _, nc, cL, cg⟩ := CC "book" (nx L) (by rfl)
  have kBg : Kp Bh (hideAll h [100]) := kp_hide kb (allc hBT alln)
  have kgg : Kp gi (hideAll h [100]) := kp_hide kgi (allc hgT alln)
  have TL : (100 : Addr) ≠ L := fun q => by rw [← q, hT] at nL; cases nL
  have N : Nw (hideAll h [100]) L h₁ [(nx L, oc), (100, tabObj #[])] := (Nw.nil.cons (k1 _ _ hT) TL (hideAll_none _ (.head _))).cons hc cL cg
  have hle := ra.len
  simp only [List.length_map] at hle
  refine ev_cons (ev_assign ?_)
  refine ev_call (ev_glob B (kBg.trans' F.keep) (.ref 108) rfl ?_)
  refine ev_bi B (kBg.trans' F.keep) (.type "list") rfl rfl ⟨.inK B (kBg.trans' F.keep) rfl, Ev.call (cev_bookNew B (kBg.trans' F.keep) fun bk dd h2 lt o2 n1 n2 n3 g1 g2 => ?_)⟩
  have F2 := Fm.o F o2
  have N2 := Nw.o N o2
  have nnL : ∀ {b : Addr}, h₁.get? b = none → b ≠ L := fun e q => by
    obtain ⟨o, _, _, ho, _⟩ := F.ns
    rw [← q, e] at ho; cases ho
  have nn : ∀ {a b : Addr} {o : Obj}, h₁.get? a = some o → h₁.get? b = none → a ≠ b := fun e1 e2 q => by rw [← q, e1] at e2; cases e2
  have N3 : Nw (hideAll h [100]) L h2 [(nx L, oc), (100, tabObj #[]), (bk, bkO w dd ([].map Ent.key) 0), (dd, dictO0)] :=
    (((Nw.nil.cons g2 (nnL n2) (none_of_kp F.keep n2)).cons g1 (nnL n1) (none_of_kp F.keep n1)).cons (N2.at (.tail _ (.head _))) TL (hideAll_none _ (.head _))).cons (N2.at (.head _)) cL cg
  have cb : nx L ≠ bk := nn hc n1
  have cd : nx L ≠ dd := nn hc n2
  have tb : (100 : Addr) ≠ bk := nn (k1 _ _ hT) n1
  have td : (100 : Addr) ≠ dd := nn (k1 _ _ hT) n2
  have c100 : nx L ≠ 100 := fun q => by rw [q, hT] at nc; cases nc
  refine ev_stc (N3.at (.head _)) dc fun h3 oc' o3 g3 d3 => ?_
  have F3 := Fm.o1 F2 N3 o3
  have N4 := Nw.o1 N3 o3 g3 (fun p hp => by
    rcases List.mem_cons.mp hp with rfl | hp
    · exact c100.symm
    rcases List.mem_cons.mp hp with rfl | hp
    · exact cb.symm
    rcases List.mem_cons.mp hp with rfl | hp
    · exact cd.symm
    cases hp)
  have bkb : Bh.get? bk = none := none_of_kp (kBg.trans' F.keep) n1
  have bkl : Bh.get? bk = none := bkb
  refine ev_cons (ev_for (ev_ld F3 rfl (ev_for_list ownName Rm.handled F3 N4 (l := l) (xs := xs) (n := n) (hideAll_get _ hl (fun q => by rw [List.mem_singleton.mp q, hT] at hl; cases hl)) (fun i m led => ∃ es ep, BL w Bh gi (nx L) bk dd oc' r (pa.take i) m led es ep) ⟨[], 0, rfl, rfl, BkM.nil, ?_, by simp⟩ ?_ ?_)))
  · exact nodup4 c100 cb cd tb td n3.symm.symm
  · rintro i v h4 m led gT hv kT F4 N4 ⟨es, ep, J⟩
    obtain ⟨rfl, mr, M, nd, hlen⟩ := J
    have hi : i < xs.length := (List.getElem?_eq_some_iff.mp hv).1
    have hi2 : i < pa.length := by omega
    obtain ⟨v', hv', rv⟩ := ra.at (show (pa.map cP)[i]? = some (cP pa[i]) by simp [hi2])
    rw [hv] at hv'
    obtain rfl := Option.some.inj hv'
    obtain ⟨_, pp, x, t, v, u, rfl, ip, ec⟩ := (rv : PairR Bh gi _ _)
    have ep2 : pa[i] = (x, v) := cP_inj ec
    refine ev_asg_name (ev_st F4 N4 fun h5 F5 N5 => ?_)
    have kg5 : Kp (hideAll h [100]) h5 := kT.trans' F5.keep
    have kB : Kp Bh h5 := kBg.trans' kg5
    have ip5 := ip.up (kgg.trans' kg5)
    refine ev_cons (ev_expr (ev_call (ev_glob B kB (.ref 213) rfl (ev_sub (ev_ldc (N5.at (.head _)) d3 (ev_attr (ev_ld F5 rfl (ev_name B kB (Rm.le (by decide)) ip5 rfl fun h6 o6 => ?_))))))))
    have F6 := Fm.o F5 o6
    have N6 := Nw.o N5 o6
    have kg6 := kT.trans' F6.keep
    have nd2 : (es.map (·.ad)).Nodup := (List.nodup_append.mp nd).2.1
    have nn6 : (es.map (·.nm)).Nodup := M.nm ▸ names_nodup _
    have tk : pa.take (i + 1) = pa.take i ++ [(x, v)] := by rw [List.take_add_one, List.getElem?_eq_getElem hi2, ep2]; rfl
    have ml : es.length ≤ i := Nat.le_trans hlen (by rw [List.length_take]; exact Nat.min_le_left _ _)
    have kB6 : Kp Bh h6 := kBg.trans' kg6
    refine Ev.mono (P := fun a h7 => ∃ es2 ep2 e, BkS w Bh gi gT L (nx L) bk dd oc' (pa.take i) (namesOf (pa.take (i + 1))) x (upd "pair" (.ref pp) m) (i + 1) a h7 es2 ep2 e) ?_ fun a h7 z => ?_
    · refine ev_bookOpen B kB6 (Rm.le (by decide)) lt bkb (N6.at (.tail _ (.tail _ (.head _)))) (N6.at (.tail _ (.tail _ (.tail _ (.head _))))) (by simp; omega) (fun y hy hk => ?_) fun nk a k7 h7 o7 n7 e7 b7 => ?_
      · obtain ⟨e, he, rfl⟩ := List.mem_map.mp hy
        have hx : x ∈ namesOf (pa.take i) := by rw [← M.nm, ← hk]; exact List.mem_map_of_mem (f := (·.nm)) he
        exact ⟨es, ep, e, rfl, F6, N6, by rw [tk]; exact M.same hx, nd, Nat.le_succ_of_le ml, he, hk⟩
      · have hx : x ∉ namesOf (pa.take i) := fun q => by
          rw [← M.nm] at q
          obtain ⟨e, he, q⟩ := List.mem_map.mp q
          exact nk _ (List.mem_map_of_mem (f := Ent.key) he) q
        have fr : ∀ y ∈ [nx L, 100, bk, dd] ++ es.map (·.ad), y ≠ a := fun y hy q => by
          have hy' : y ∈ (bkLed w (nx L) oc' bk dd es ep).map (·.1) := by
            rw [List.map_append, List.map_map]
            exact hy
          obtain ⟨p, hp, rfl⟩ := List.mem_map.mp hy'
          have := (N6 p hp).1
          rw [q, n7] at this
          cases this
        obtain ⟨F7, N7⟩ := after_new (k := x) (t := t) F6 N6 o7 n7 e7 b7 nd
        exact ⟨es ++ [⟨x, t, a, [], k7, []⟩], ep + 1, _, rfl, F7, N7, by rw [tk]; exact M.new hx (none_of_kp kB6 n7) (none_of_kp (kgg.trans' kg6) n7) (fun q => fr a (List.mem_append_right _ q) rfl),
          by rw [List.map_append, ← List.append_assoc]; exact List.nodup_append.mpr ⟨nd, by simp, fun y hy b hb q => fr y hy (by simp at hb; rw [q, hb])⟩, by simp; omega, List.mem_append_right _ (List.mem_singleton.mpr rfl), rfl⟩
    obtain ⟨es2, ep2', e, rfl, F7, N7, M7, nd7, len7, me7, nm7⟩ := z
    have kg7 := kT.trans' F7.keep
    refine ev_attr (ev_ld F7 rfl (ev_value B (kBg.trans' kg7) (Rm.le (by decide)) (ip.up (kgg.trans' kg7)) rfl fun h8 o8 => ?_))
    have F8 := Fm.o F7 o8
    have N8 := Nw.o N7 o8
    have kg8 := kT.trans' F8.keep
    have ok := M7.ok e me7
    have vl : e.vs.length ≤ i := by
      rw [ok.r.len, ok.pm.length_eq, List.length_map]
      exact Nat.le_trans (valsFor_len _ _) (by rw [List.length_take]; exact Nat.min_le_left _ _)
    refine ⟨.inK B (kBg.trans' kg8) rfl, Ev.call (heappush_C (strI w) B (kBg.trans' kg8) (Rm.le (by decide)) (N8 e.obj (List.mem_append_right _ (List.mem_map_of_mem me7))).1 ok.b (by omega) (kgg.trans' kg8) ok.g ok.r (a := cS v) ⟨v, u, rfl, rfl⟩ fun h9 xs9 n9 o9 g9 r9 => ev_nil ?_)⟩
    obtain ⟨q1, q2⟩ := hpush_heap (O := tpO) (a := cS v) ok.hp
    have nn7 : (es2.map (·.nm)).Nodup := M7.nm ▸ names_nodup _
    obtain ⟨_, ad7, dj7⟩ := List.nodup_append.mp nd7
    obtain ⟨e', f1, f2, f3, f4, f5, f6⟩ : ∃ e' : Ent, e'.nm = x ∧ e'.ad = e.ad ∧ e'.key = e.key ∧ e'.vs = xs9 ∧ e'.ct = n9 ∧ e'.as = hpush (strI w).lt (cS v) e.as := ⟨⟨e.nm, e.tk, e.ad, xs9, n9, _⟩, nm7, rfl, rfl, rfl, rfl, rfl⟩
    rw [← f4] at r9
    rw [← f6] at r9
    have q1 : IsH e'.as := by rw [f6]; exact q1
    have q2 : e'.as.Perm (e.as ++ [cS v]) := by rw [f6]; exact q2
    obtain ⟨F9, N9⟩ := after_put F8 N8 nn7 ad7 (fun p hp => dj7 _ (List.mem_map_of_mem (f := (·.1)) hp) _ (List.mem_map_of_mem (f := (·.ad)) me7)) me7 nm7 f2 o9 (by rw [f4, f5]; exact g9)
    refine ⟨_, _, F9, N9, putEnt es2 x e', ep2', ?_, mr, ?_, ?_, ?_⟩
    · unfold bkLed
      rw [putEnt_keys nn7 me7 nm7 f3]
    · rw [tk]
      rw [tk] at M7
      exact M7.put (names_nodup _) me7 nm7 f1 f2 r9 q1 q2
    · rw [putEnt_ads nn7 me7 nm7 f2]
      exact nd7
    · unfold putEnt
      rw [List.length_map, List.length_take]
      omega
  · rintro h4 m led F4 N4 ⟨es, ep, J⟩
    rw [List.take_of_length_le (by omega)] at J
    obtain ⟨rfl, mr, M, nd, hlen⟩ := J
    have kB4 : Kp Bh h4 := kBg.trans' F4.keep
    refine ev_cons (ev_expr (ev_mcall (he := by rfl) (hc := by rfl) ?_))
    refine ev_ldc (N4.at (.head _)) d3 (ev_method_freeze B kB4 (N4.at (.tail _ (.tail _ (.head _)))) (N4.at (.tail _ (.tail _ (.tail _ (.head _))))) ⟨.inK B kB4 rfl, Ev.call ?_⟩)
    refine cev_freeze B kB4 (Rm.le (by decide)) (N4.at (.tail _ (.head _))) hBT (hBM.keeps kB4) (N4.at (.tail _ (.tail _ (.head _)))) (N4.at (.tail _ (.tail _ (.tail _ (.head _))))) fun lam h5 o5 ⟨ps, t5⟩ fz => ?_
    have m100 := N4 (100, tabObj #[]) (.tail _ (.head _))
    have mdd := N4 (dd, dictO0) (.tail _ (.tail _ (.tail _ (.head _))))
    obtain ⟨_, _, dj⟩ := List.nodup_append.mp nd
    have off : ∀ {y : Addr}, y ≠ 100 → y ≠ dd → y ∉ [100, dd] := fun a b q => by
      rcases List.mem_cons.mp q with q | q
      · exact a q
      · exact b (List.mem_singleton.mp q)
    obtain ⟨F5, N5⟩ := after (news' := [(nx L, oc')]) F4 N4 o5 (fun y hy => by
      rcases List.mem_cons.mp hy with rfl | hy
      · exact ⟨m100.2.2, m100.2.1⟩
      · rw [List.mem_singleton.mp hy]; exact ⟨mdd.2.2, mdd.2.1⟩) fun p hp => by
        rw [List.mem_singleton.mp hp]
        exact ⟨o5 _ _ (off c100 cd) (N4.at (.head _)), .inr (.head _)⟩
    have b5 := o5 _ _ (off tb.symm n3) (N4.at (.tail _ (.tail _ (.head _))))
    have l5 : ∀ e ∈ es, h5.get? e.ad = some (LO e.vs e.ct) := fun e he => o5 _ _ (off (dj 100 (.tail _ (.head _)) _ (List.mem_map_of_mem (f := (·.ad)) he)).symm (dj dd (.tail _ (.tail _ (.tail _ (.head _)))) _ (List.mem_map_of_mem (f := (·.ad)) he)).symm) (N4 e.obj (List.mem_append_right _ (List.mem_map_of_mem he))).1
    obtain ⟨g6, hg6⟩ : ∃ g6, g6 = hideAll h5 [L] := ⟨_, rfl⟩
    obtain ⟨kr, F6, _⟩ := reground F5 Nw.nil
    replace F6 : Fm g6 L h5 m := hg6 ▸ F6
    replace kr : Kp (hideAll h [100]) g6 := hg6 ▸ kr
    have N6 : Nw g6 L h5 [] := Nw.nil
    have bkL : bk ≠ L := nnL n1
    have ddL : dd ≠ L := nnL n2
    have put6 : ∀ {b : Addr} {o : Obj}, b ≠ L → h5.get? b = some o → g6.get? b = some o := fun n e => hg6 ▸ hideAll_get _ e (nin1 n)
    have c6 := put6 cL (N5.at (.head _))
    have t6 := put6 TL t5
    have b6 := put6 bkL b5
    have fz6 : Frz w g6 bk dd lam := hg6 ▸ fz.but F5.ns ddL
    have l6 : ∀ e ∈ es, g6.get? e.ad = some (LO e.vs e.ct) := fun e he => put6 (N4 e.obj (List.mem_append_right _ (List.mem_map_of_mem he))).2.1 (l5 e he)
    clear put6 fz b5 l5 N5 F5
    have kBr : Kp Bh g6 := kBg.trans' kr
    have hr6 : g6.get? r = some (LO ys k) := kr _ _ (hideAll_get _ hr (fun q => by rw [List.mem_singleton.mp q, hT] at hr; cases hr))
    have rb6 : SeqL (PaR Bh) g6 ys pb := All2.imp (fun v a r => (pairI B).up (kgg.trans' kr) r) (All2.of_map_r cP rb)
    have hRm : Room _ 9 := Rm
    refine ev_cons (ev_alc (cl := [("book", nx L)]) (ev_ld F6 mr ?_))
    refine lcomp2a (R := PaR Bh) (R2 := SR) (R' := TR) (as := pb) (f := fun q => (bv es q.1).flatMap fun s => [(q.1, s, q.2)]) ownName ownName Rm.handled F6 N6 (F6.keep _ _ hr6) rb6 (by rw [rows_len M]; omega) ?_ ?_
    · intro C c0 a v h7 m7 ha' rv o7 kE F7
      obtain ⟨_, pp, x, t, v', u, rfl, ip, ec⟩ := rv
      obtain rfl : a = (x, v') := cP_inj ec
      refine ev_asg_name (ev_st F7 Nw.nil fun h8 F8 N8 => ?_)
      have k8 : Kp g6 h8 := F6.keep.trans' (F8.kpC o7.kp c0)
      refine ev_bookName B M lt (kBr.trans' k8) (Rm.le (by decide)) F8 (k8 _ _ c6) d3 (k8 _ _ b6) (fz6.up k8) (fun e he => k8 _ _ (l6 e he)) (ip.up k8) rfl rfl rfl rfl rfl fun a vs k h9 o9 g9 ex rs => ?_
      exact ⟨a, vs, k, bv es x, fun s => [(x, s, v')], fun m => m "pair" = some (.ref pp), _, rfl, g9, ex.imp (fun ⟨e, he, q⟩ => ⟨_, q ▸ F6.keep _ _ (l6 e he)⟩) (fun d => (F8.new d).1), rs, (F8.o o9), rfl, rfl, row_step B F6.keep kBr (Rm.le (by decide)) c0 ip rfl rfl rfl⟩
    intro D7 h7 zs7 n7 gN d7 kN F7 N7 r7 _
    have kB7 := kBr.trans' kN
    have kp7 : Kp g6 h7 := kN.trans' F7.keep
    refine ev_cons (ev_alc (cl := [("book", nx L)]) (ev_ld F7 (v := .ref r) mr ?_))
    refine lcomp2a (R := PaR Bh) (R2 := SR) (R' := TR) (as := pb) (f := fun q => ((sortC cS (bv es q.1)).take 2).flatMap fun s => [(q.1, s, q.2)]) ownName ownName Rm.handled F7 N7 (kp7 _ _ hr6) (All2.imp (fun v a r => (pairI B).up kN r) rb6) (by rw [few_eq M]; have := few_len pa pb; omega) ?_ ?_
    · intro C c0 a v h7' m7 ha' rv o7 kE F7'
      obtain ⟨_, pp, x, t, v', u, rfl, ip, ec⟩ := rv
      obtain rfl : a = (x, v') := cP_inj ec
      refine ev_asg_name (ev_st F7' Nw.nil fun h8 F8 N8 => ?_)
      have k78 : Kp h7 h8 := F8.kpC o7.kp c0
      have k8 : Kp g6 h8 := kp7.trans' k78
      refine ev_call (ev_glob B (kBr.trans' k8) (.ref 275) rfl (ev_int fun ti => ?_))
      refine ev_bookName B M lt (kBr.trans' k8) (Rm.le (by decide)) F8 (k8 _ _ c6) d3 (k8 _ _ b6) (fz6.up k8) (fun e he => k8 _ _ (l6 e he)) (ip.up (F7.keep.trans' k78)) rfl rfl rfl rfl rfl fun a vs k h9 o9 g9 ex rs => ?_
      refine ⟨.inK B ((kBr.trans' k8).trans' o9.kp) rfl, Ev.call (nsmallest_C B ((kBr.trans' k8).trans' o9.kp) (Rm.le (by decide)) g9 rs (by
        have := (bv_perm M x).length_eq
        have := valsFor_len x pa
        omega) fun D ys2 xs2 k2 o10 d10 g10 r10 => ?_)⟩
      have F9 := Fm.o F8 (o9.trans o10)
      exact ⟨D, xs2, k2, (sortC cS (bv es x)).take 2, fun s => [(x, s, v')], fun m => m "pair" = some (.ref pp), _, rfl, g10, .inr (F8.new (none_of_kp o9.kp d10)).1, r10, F9, rfl, rfl, row_step B F7.keep kB7 (Rm.le (by decide)) c0 ip rfl rfl rfl⟩
    intro D8 h8 zs8 n8 gM d8 kM F8 N8 r8 _
    have kB8 := kB7.trans' kM
    have kp8 : Kp g6 h8 := kN.trans' (kM.trans' F8.keep)
    rw [few_eq M] at r8
    refine ev_cons (ev_return (ev_tuple (ev_call (ev_bi B (kB8.trans' F8.keep) (.builtin "sorted") rfl rfl (ev_ld F8 (v := .ref D7) rfl ⟨.builtin, ev_sortC (tupS w [0, 0]) cT (R := TR) (fun _ _ _ => Iff.rfl) (Rm.le (by decide)) F8.keep (N8.at (.tail _ (.head _))) (r7.imp fun v b r => r.up kM) (by have := r7.len; rw [rows_len M] at this; omega) fun D9 h9 zs9 n9 o9 d9 g9 r9 => ?_⟩)))))
    rw [sortC_eq (fun _ _ => cT_inj) (rows_perm M pb)] at r9
    have F9 := Fm.o F8 o9
    have N9 := Nw.o N8 o9
    refine ev_ld F9 (v := .ref D8) rfl (ev_call (ev_bi B (kB8.trans' F9.keep) (.type "list") rfl rfl (ev_ldc ((kp8.trans' o9.kp) _ _ c6) d3 ⟨Keeps.type, ev_listBook B (kB8.trans' F9.keep) Rm.handled lt (by rw [List.length_map]; omega) ((kp8.trans' o9.kp) _ _ b6) fun D10 h10 vs c10 o10 d10 g10 it => ?_⟩)))
    refine ev_newTuple (by simp) (by simp) fun T h11 o11 d11 g11 => ?_
    have o911 := o10.trans o11
    have F11 := Fm.o F9 o911
    have N11 := Nw.o N9 o911
    have nmr : All2 StrIs vs (namesOf pa) := by
      have e1 := it.1
      rw [List.size_toArray, List.length_map] at e1
      have e2 : (namesOf pa).length = es.length := by rw [← M.nm, List.length_map]
      refine all2_of (by omega) fun j v x hj hx => ?_
      obtain ⟨y, hy, rfl⟩ := it.2 j v (by simpa using hj)
      rw [← M.nm, List.getElem?_map] at hx
      rw [List.getElem?_map] at hy
      cases he : es[j]? with
      | none => rw [he] at hy; cases hy
      | some e =>
        rw [he] at hx hy
        obtain rfl := Option.some.inj hx
        obtain rfl := Option.some.inj hy
        exact ⟨_, rfl⟩
    refine p (.ref T) h11 _ ?_ ⟨ps, F11.keep _ _ (kM _ _ (kN _ _ t6))⟩ (.tuple g11 rfl rfl (ReadsAll.cons (reads_list (fun v b => reads_TR) (o911 _ _ nin0 g9) (r9.imp fun v b r => r.up F11.keep)) (ReadsAll.cons (reads_list (fun v b => reads_TR) (N11.at (.head _)) (r8.imp fun v b r => r.up F11.keep)) (ReadsAll.cons (reads_list (R := SR) (fun v b => reads_str) (o11 _ _ nin0 g10) nmr) .nil))))
    exact fun b o n e => F11.keep _ _ (kM _ _ (kN _ _ (kr _ _ (hideAll_get _ e n))))
end Mine
open PySem PySem.W PyProof.Rows PySem.Calls
set_option maxRecDepth 100000
namespace Mine
noncomputable def lineFit (x : Str) : Bool := decide (x.length < 60) && (Txt.splitMax x "=" 1).all (fun y => decide (y.length ≤ 60)) && ((Txt.splitMax x "=" 1).length == 2 || (Txt.splitMax x "=" 1).length == 1) && decide (parsedS x = readS x) && (match readS x with | none => true | some p => (PyData.str p.1).canLay0 && (PyData.str p.2).canLay0)
theorem lines_fit : ∀ i < 5, ∀ j < 5, ∀ k < 4, lineFit (lineOf i j k) = true := by decide +kernel
theorem lineAt_fit (x : Int) : lineFit (lineAt x) = true := by
  obtain ⟨i2, i3⟩ := fmod_lt x 5 (by decide)
  obtain ⟨j2, j3⟩ := fmod_lt (x.fdiv 5) 5 (by decide)
  obtain ⟨l2, l3⟩ := fmod_lt (x.fdiv 25) 4 (by decide)
  exact lines_fit _ (by omega) _ (by omega) _ (by omega)
theorem fit_at {x : Str} (h : lineFit x = true) : x.length < 60 ∧ (∀ y ∈ Txt.splitMax x "=" 1, y.length ≤ 60) ∧ ((∃ a b, Txt.splitMax x "=" 1 = [a, b]) ∨ ∃ a, Txt.splitMax x "=" 1 = [a]) ∧ parsedS x = readS x ∧ ∀ p, readS x = some p → (PyData.str p.1).canLay0 = true ∧ (PyData.str p.2).canLay0 = true := by
  unfold lineFit at h
  simp only [Bool.and_eq_true, decide_eq_true_eq, List.all_eq_true, Bool.or_eq_true, beq_iff_eq] at h
  obtain ⟨⟨⟨⟨h1, h2⟩, h3⟩, h4⟩, h5⟩ := h
  refine ⟨h1, h2, ?_, h4, fun p hp => by rw [hp] at h5; simpa using h5⟩
  generalize Txt.splitMax x "=" 1 = l at h3
  match l with
  | [a, b] => exact .inl ⟨a, b, rfl⟩
  | [a] => exact .inr ⟨a, rfl⟩
  | [] => simp at h3
  | _ :: _ :: _ :: _ => simp at h3
end Mine
open PySem PySem.W PyProof.Rows PySem.Calls
set_option linter.unusedVariables false
namespace Mine
noncomputable def OkD (n : Nat) (d : PyData) : Prop := d.canLay0 = true ∧ d.depth ≤ n
noncomputable def OkL (n : Nat) (l : List PyData) : Prop := PyData.canLayAll0 l = true ∧ PyData.depthAll l ≤ n
theorem OkL.nil {n : Nat} : OkL n [] := ⟨rfl, Nat.zero_le _⟩
theorem OkL.cons {n : Nat} {d : PyData} {l : List PyData} (a : OkD n d) (b : OkL n l) : OkL n (d :: l) := ⟨by simp [PyData.canLayAll0, a.1, b.1], by simp only [PyData.depthAll]; exact Nat.max_le.mpr ⟨a.2, b.2⟩⟩
theorem OkL.map {β : Type} {n : Nat} {d : β → PyData} : ∀ l : List β, (∀ b ∈ l, OkD n (d b)) → OkL n (l.map d)
  | [], _ => .nil
  | b :: l, k => .cons (k b (.head _)) (OkL.map l fun b h => k b (.tail _ h))
theorem OkD.str {n : Nat} {x : Str} (h : (PyData.str x).canLay0 = true) : OkD n (.str x) := ⟨h, Nat.zero_le _⟩
noncomputable abbrev okS (x : Str) : Prop := (PyData.str x).canLay0 = true
theorem OkD.list {n : Nat} {l : List PyData} (a : OkL n l) : OkD (n + 1) (.list l) := ⟨a.1, by have := a.2; simp only [PyData.depth]; omega⟩
theorem OkD.tuple {n : Nat} {l : List PyData} (a : OkL n l) : OkD (n + 1) (.tuple l) := ⟨a.1, by have := a.2; simp only [PyData.depth]; omega⟩
noncomputable def AllOk (l : List (Str × Str)) : Prop := ∀ p ∈ l, okS p.1 ∧ okS p.2
theorem okP {p : Str × Str} (h : okS p.1 ∧ okS p.2) : OkD 1 (dP p) := .tuple (.cons (.str h.1) (.cons (.str h.2) .nil))
theorem okT {p : Str × Str × Str} (h : okS p.1 ∧ okS p.2.1 ∧ okS p.2.2) : OkD 1 (dT p) := .tuple (.cons (.str h.1) (.cons (.str h.2.1) (.cons (.str h.2.2) .nil)))
theorem ok_rows {pa pb : List (Str × Str)} (a : AllOk pa) (b : AllOk pb) : ∀ p ∈ rowsOf pa pb, okS p.1 ∧ okS p.2.1 ∧ okS p.2.2 := fun p hp => by
  obtain ⟨q, hq, hp⟩ := List.mem_flatMap.mp hp
  obtain ⟨r, hr, hp⟩ := List.mem_flatMap.mp hp
  have aq := a q ((sortC_perm cP pa).mem_iff.mp hq)
  have br := b r ((sortC_perm cP pb).mem_iff.mp hr)
  split at hp
  · rw [List.mem_singleton.mp hp]; exact ⟨aq.1, aq.2, br.2⟩
  · cases hp
theorem ok_alone {pa pb : List (Str × Str)} (a : AllOk pa) (b : AllOk pb) : AllOk (aloneOf pa pb) := fun p hp => by
  rcases List.mem_append.mp ((sortC_perm cP _).mem_iff.mp hp) with q | q
  · exact a p ((List.mem_filter.mp q).1)
  · exact b p ((List.mem_filter.mp q).1)
theorem ok_few {pa pb : List (Str × Str)} (a : AllOk pa) (b : AllOk pb) : ∀ p ∈ fewOf pa pb, okS p.1 ∧ okS p.2.1 ∧ okS p.2.2 := fun p hp => by
  obtain ⟨q, hq, hp⟩ := List.mem_flatMap.mp hp
  obtain ⟨r, hr, hp⟩ := List.mem_flatMap.mp hp
  rw [List.mem_singleton.mp hp]
  obtain ⟨c, hc, hr⟩ := List.mem_flatMap.mp ((sortC_perm cS _).mem_iff.mp (List.mem_of_mem_take hr))
  split at hr
  · rw [List.mem_singleton.mp hr]; exact ⟨(b q hq).1, (a c hc).2, (b q hq).2⟩
  · cases hr
theorem ok_names {pa : List (Str × Str)} (a : AllOk pa) : ∀ x ∈ namesOf pa, okS x := by
  unfold namesOf
  suffices h : ∀ (l : List (Str × Str)) (acc : List Str), AllOk l → (∀ x ∈ acc, okS x) → ∀ x ∈ l.foldl addName acc, okS x from h pa [] a (by simp)
  intro l
  induction l with
  | nil => exact fun acc _ h => h
  | cons p l ih =>
    intro acc al h
    refine ih _ (fun q hq => al q (.tail _ hq)) fun x hx => ?_
    unfold addName at hx
    split at hx
    · exact h x hx
    · rcases List.mem_append.mp hx with q | q
      · exact h x q
      · rw [List.mem_singleton.mp q]; exact (al p (.head _)).1
theorem OkD.shaped {n : Nat} {d : PyData} (a : OkD n d) (h : n ≤ 64) : PySem.SeqAt.shaped d = true := by
  unfold PySem.SeqAt.shaped
  rw [a.1, decide_eq_true (Nat.le_trans a.2 h)]; rfl
theorem OkD.eqv {n : Nat} {d : PyData} (a : OkD n d) : PyData.eqv d d = true := PySem.SeqAt.eqv_refl d a.1
variable {w : World} {A : Around}
theorem ns_has {h : Heap} {L : Addr} {m : Str → Option Value} (ns : h.Ns L m) : h.get? L ≠ none := fun q => by
  obtain ⟨o, _, _, ho, _⟩ := ns
  rw [q] at ho; cases ho
theorem ev_ne_data {h : Heap} {a b : Value} {d : PyData} {as bs : List Addr} {n : Nat} (ra : Reads h a d as) (rb : Reads h b d bs) (o : OkD n d) (hn : n ≤ 64) (hu : A.units + 64 < cLine) {P : Value → Heap → Prop} (p : P (.bool false) h) : Ev (model pw w) A (compareOp .NotEq a b) h P := by
  intro E Q s hs hQ
  subst hs
  refine ne_dataH ra rb (o.shaped hn) (o.shaped hn) hu ?_
  rw [o.eqv]
  exact hQ _ _ s.toks p
theorem ev_eq_data {h : Heap} {a b : Value} {d : PyData} {as bs : List Addr} {n : Nat} (ra : Reads h a d as) (rb : Reads h b d bs) (o : OkD n d) (hn : n ≤ 64) (hu : A.units + 64 < cLine) {P : Value → Heap → Prop} (p : P (.bool true) h) : Ev (model pw w) A (compareOp .Eq a b) h P := by
  intro E Q s hs hQ
  subst hs
  refine eq_dataH ra rb (o.shaped hn) (o.shaped hn) hu ?_
  rw [o.eqv]
  exact hQ _ _ s.toks p
end Mine
open PySem PySem.W PyProof.Rows PySem.Calls
set_option maxRecDepth 100000
set_option linter.unusedVariables false
namespace Mine
noncomputable def drawnOf (is : List Int) : List Int := [40, 6, 50, 120, 133, 177] ++ is.take 10
noncomputable def sideOf (ds : List Int) (k : Nat) : List Str := ds.flatMap fun x => if (x.fdiv 100).fmod 2 == (k : Int) then [lineAt x] else []
theorem sideOf_len (k : Nat) : ∀ ds, (sideOf ds k).length ≤ ds.length := by
  intro ds
  induction ds with
  | nil => simp [sideOf]
  | cons a ds ih =>
    unfold sideOf at ih ⊢
    rw [List.flatMap_cons, List.length_append, List.length_cons]
    have : (if ((a.fdiv 100).fmod 2 == (k : Int)) = true then [lineAt a] else []).length ≤ 1 := by split <;> simp
    omega
theorem sideOf_fit {ds : List Int} {k : Nat} {x : Str} (h : x ∈ sideOf ds k) : lineFit x = true := by
  obtain ⟨a, _, h⟩ := List.mem_flatMap.mp h
  split at h
  · rw [List.mem_singleton.mp h]; exact lineAt_fit a
  · cases h
theorem flat_len {α β : Type} {f : α → List β} {k : Nat} : ∀ {l : List α}, (∀ x ∈ l, (f x).length ≤ k) → (l.flatMap f).length ≤ l.length * k := by
  intro l
  induction l with
  | nil => intro _; simp
  | cons a l ih =>
    intro h
    rw [List.flatMap_cons, List.length_append, List.length_cons, Nat.succ_mul]
    have := h a (.head _)
    have := ih fun x hx => h x (.tail _ hx)
    omega
theorem rows_le (pa pb : List (Str × Str)) : (rowsOf pa pb).length ≤ pa.length * pb.length := by
  unfold rowsOf
  rw [← sortC_len cP pa, ← sortC_len cP pb]
  refine flat_len fun p _ => Nat.le_trans (flat_len (k := 1) fun q _ => ?_) (by rw [Nat.mul_one]; exact Nat.le_refl _)
  split <;> simp
theorem vals_le (pa pb : List (Str × Str)) : (pb.flatMap fun q => valsFor pa q.1).length ≤ pb.length * pa.length := flat_len fun q _ => valsFor_len q.1 pa
noncomputable def goodOf (ds : List Int) (k : Nat) : List (Str × Str) := ((sideOf ds k).map readS).flatMap Option.toList
theorem goodOf_app (a b : List Int) (k : Nat) : goodOf (a ++ b) k = goodOf a k ++ goodOf b k := by unfold goodOf sideOf; simp
theorem good_le : ∀ ds : List Int, (goodOf ds 0).length + (goodOf ds 1).length ≤ ds.length := by
  intro ds
  induction ds with
  | nil => simp [goodOf, sideOf]
  | cons a ds ih =>
    have e : ∀ k, goodOf (a :: ds) k = goodOf [a] k ++ goodOf ds k := fun k => goodOf_app [a] ds k
    have o : ∀ x : Option (Str × Str), x.toList.length ≤ 1 := fun x => by cases x <;> simp
    have one : (goodOf [a] 0).length + (goodOf [a] 1).length ≤ 1 := by
      unfold goodOf sideOf
      by_cases h : (a.fdiv 100).fmod 2 = 0
      · simp [h]
      · by_cases h1 : (a.fdiv 100).fmod 2 = 1
        · simp [h1]
        · simp [h, h1]
    rw [e, e, List.length_append, List.length_append, List.length_cons]
    omega
theorem good_fix : (goodOf [40, 6, 50, 120, 133, 177] 0).length + (goodOf [40, 6, 50, 120, 133, 177] 1).length ≤ 5 := by decide +kernel
theorem good_sum (is : List Int) : (goodOf (drawnOf is) 0).length + (goodOf (drawnOf is) 1).length ≤ 15 := by
  have := good_le (is.take 10)
  have := good_fix
  have : (is.take 10).length ≤ 10 := by rw [List.length_take]; omega
  unfold drawnOf
  rw [goodOf_app, goodOf_app, List.length_append, List.length_append]
  omega
theorem mul_56 : ∀ a < 16, ∀ b < 16, a + b ≤ 15 → a * b ≤ 56 := by decide
theorem good_ok (ds : List Int) (k : Nat) : AllOk (goodOf ds k) := fun p hp => by
  obtain ⟨o, ho, hp⟩ := List.mem_flatMap.mp hp
  obtain ⟨x, hx, rfl⟩ := List.mem_map.mp ho
  cases e : readS x with
  | none => rw [e] at hp; simp at hp
  | some q =>
    rw [e] at hp
    obtain rfl : p = q := by simpa using hp
    exact (fit_at (sideOf_fit hx)).2.2.2.2 p e
theorem good_bounds (is : List Int) : (goodOf (drawnOf is) 0).length < 30 ∧ (goodOf (drawnOf is) 1).length < 30 ∧ (rowsOf (goodOf (drawnOf is) 0) (goodOf (drawnOf is) 1)).length < 60 ∧ ((goodOf (drawnOf is) 1).flatMap fun q => valsFor (goodOf (drawnOf is) 0) q.1).length < 60 := by
  have s := good_sum is
  have r := rows_le (goodOf (drawnOf is) 0) (goodOf (drawnOf is) 1)
  have v := vals_le (goodOf (drawnOf is) 0) (goodOf (drawnOf is) 1)
  have m := mul_56 (goodOf (drawnOf is) 0).length (by omega) (goodOf (drawnOf is) 1).length (by omega) s
  rw [Nat.mul_comm] at v
  exact ⟨by omega, by omega, by omega, by omega⟩
theorem parsed_is (ds : List Int) (k : Nat) : (sideOf ds k).map parsedS = (sideOf ds k).map readS := List.map_congr_left fun x hx => (fit_at (sideOf_fit hx)).2.2.2.1
end Mine
open PySem PySem.W PyProof.Rows PySem.Calls
set_option maxRecDepth 100000
set_option maxHeartbeats 1000000
set_option linter.unusedVariables false
namespace Mine
variable {w : World} {A : Around} {Bh : Heap}
theorem ev_isinst {h : Heap} {p : Addr} {x y : Value} (ip : IsPair h p x y) {P : Value → Heap → Prop} (q : P (.bool true) h) : Ev (model pw w) A (call (.builtin "isinstance") [.ref p, .ref 203]) h P := by
  intro E Q s hs hQ
  subst hs
  refine call_isinstance (S := fun _ R s => IsPair s.heap p x y ∧ R (.ok (.ret (.bool true))) s) (fun _ _ _ _ _ hs => isinstance_outer ?_ (by intro q; cases q)) ⟨ip, hQ _ _ s.toks q⟩
  obtain ⟨ip, hs⟩ := hs
  obtain ⟨d, I⟩ := ip.inst
  unfold Builtin.«isinstance.nested»
  refine wpAny_bind (I.type.at ?_)
  rw [if_pos (by decide)]
  exact wpAny_bind (wpAny_rule (wpAny_pure hs))
theorem flat_none {α β : Type} : ∀ {as : List α}, as.flatMap (fun _ => ([] : List β)) = [] := by
  intro as
  induction as with
  | nil => rfl
  | cons a as ih => simp
theorem joined_C (B : Base w Bh) {h : Heap} (kb : Kp Bh h) (room : Room A 11) (hT : h.get? 100 = some (tabObj #[])) (hBM : Bh.BuiltinsAt (mgl w.params) 100) (hBT : Bh.get? 100 = none) {l r lo ro : Addr} {xs ys us vs : List Value} {n k n' k' : Nat} {pa pb : List (Str × Str)}
    (hl : h.get? l = some (LO xs n)) (hr : h.get? r = some (LO ys k)) (hlo : h.get? lo = some (LO us n')) (hro : h.get? ro = some (LO vs k')) {gi : Heap} (kgi : Kp gi h) (hgT : gi.get? 100 = none)
    (ra : SeqL (PairR Bh) gi xs (pa.map cP)) (rb : SeqL (PairR Bh) gi ys (pb.map cP)) (da : SeqL PR gi us pa) (db : SeqL PR gi vs pb) (ha : pa.length < 30) (hb : pb.length < 30) (hz : (rowsOf pa pb).length < 60) (oka : AllOk pa) (okb : AllOk pb) (hz2 : (pb.flatMap fun q => valsFor pa q.1).length < 60) {P : Value → Heap → Prop}
    (p : ∀ h', Only [100] h h' → (∃ ps, h'.get? 100 = some (tabObj ps)) → P (.bool true) h') :
    CEv (model pw w) A (.call (.ref 348) ⟨[.ref l, .ref r, .ref lo, .ref ro], []⟩) h P := by
  refine CEv.fng B kb (n := 10) room (gi := hideAll h [100]) hide_kp (fa := 348) (c := 347) [("left", .ref l), ("right", .ref r), ("ones", .ref lo), ("others", .ref ro)] rfl rfl rfl rfl rfl rfl rfl (fun s hs => BindsTo.of_eq (by rfl)) rfl rfl ?_
  intro L h₁ Rm k1 nL F N
  have kgh : Kp gi (hideAll h [100]) := kp_hide kgi (allc hgT alln)
  have la : xs.length = pa.length := by have := ra.len; rwa [List.length_map] at this
  have lb : ys.length = pb.length := by have := rb.len; rwa [List.length_map] at this
  refine ev_cons (ev_if (ev_isTrue_compare (ev_lc (cl := []) (ev_binop (ev_ld F (v := .ref l) rfl (ev_ld F (v := .ref r) rfl (ev_addl (k1 _ _ hl) (k1 _ _ hr) (by omega) fun D1 h2 o2 d2 g2 => ?_)))))))
  have F2 := Fm.o F o2
  have N2 := Nw.o N o2
  refine lcomp1 (R := fun _ v a => PairR Bh gi v a) (R' := SR) (f := fun _ => []) ownName Rm.handled F2 N2 g2 (ra.append rb) (by rw [flat_none]; decide) ?_ ?_
  · intro C c0 a v h3 m ha rv o3 kE F3 km _
    obtain ⟨kBg, q, x, t, y, u, rfl, ip, _⟩ := rv
    refine ev_asg_name (ev_st F3 Nw.nil fun h4 F4 N4 => ev_tests1 (ev_isTrue_not (ev_isTrue_plain ?_)))
    have k24 : Kp h2 h4 := F4.kpC o3.kp c0
    have kB : Kp Bh h4 := ((kBg.trans' kgh).trans' F2.keep).trans' k24
    refine ev_call (ev_bi B kB (.builtin "isinstance") rfl rfl (ev_ld F4 (v := .ref q) rfl (ev_glob B kB (.ref 203) rfl ⟨.builtin, ev_isinst (ip.up ((kgh.trans' F2.keep).trans' k24)) (ev_truthy_bool ?_)⟩)))
    simp only [Bool.not_true, Bool.false_eq_true, if_false]
    exact ⟨_, trivial, F4, trivial, trivial⟩
  intro D3 h3 zs3 n3 gN dN o3 kN F3 N3 r3 _
  rw [flat_none] at r3
  obtain rfl : zs3 = [] := List.eq_nil_of_length_eq_zero r3.len
  have F3' := F3.weak kN
  refine ev_list (ev_newList (by simp) fun D4 h4 o4 d4 g4 => ?_)
  refine ev_ne_nil (Rm.le (by decide)) (o4 _ _ nin0 (N3.at (.head _))) g4 (ev_truthy_bool ?_)
  have F4 := Fm.o F3' o4
  refine iff0 ?_
  refine ev_nil ?_
  have o04 : Only [] h h4 := fun b o _ e => o4 _ _ nin0 (o3 _ _ nin0 (o2 _ _ nin0 (k1 _ _ e)))
  have kB4 : Kp Bh h4 := kb.trans' o04.kp
  refine ev_cons (ev_assign (ev_call (ev_glob B kB4 (.ref 326) rfl (ev_ld F4 (v := .ref lo) rfl (ev_ld F4 (v := .ref ro) rfl ⟨.inK B kB4 rfl, Ev.call (due_rows_C B kB4 (Rm.le (by decide)) (o04 _ _ nin0 hlo) (o04 _ _ nin0 hro) (kgi.trans' o04.kp) da db (by omega) (by omega) (by omega) fun D5 h5 zs5 n5 o5 d5 g5 r5 => ?_)⟩)))))
  have ne : ∀ {a : Addr} {xs : List Value} {n : Nat}, h.get? a = some (LO xs n) → a ≠ 100 := fun e q => by
    rw [q, hT] at e
    have z : (tabObj #[]).cls = Value.type "list" := congrArg Obj.cls (Option.some.inj e)
    exact absurd z (by decide)
  have L1 : L ≠ 100 := fun e => by rw [e, hT] at nL; cases nL
  have D5L : D5 ≠ L := fun e => ns_has F4.ns (e ▸ d5)
  have T5 : h5.get? 100 = some (tabObj #[]) := o5 _ _ nin0 (o04 _ _ nin0 hT)
  have D51 : D5 ≠ 100 := fun e => by rw [e, o04 _ _ nin0 hT] at d5; cases d5
  have F5 : Fm (hideAll h5 [L, D5, 100]) L h5 _ := ⟨ns_only (Y := []) o5 (by simp) F4.ns, fun b o e => of_hideAll _ e, hideAll_none _ (.head _)⟩
  have N5 : Nw (hideAll h5 [L, D5, 100]) L h5 [(100, tabObj #[]), (D5, LO zs5 n5)] := (Nw.nil.cons g5 D5L (hideAll_none _ (.tail _ (.head _)))).cons T5 L1.symm (hideAll_none _ (.tail _ (.tail _ (.head _))))
  have in5 : ∀ {b : Addr} {o : Obj}, h.get? b = some o → b ≠ 100 → (hideAll h5 [L, D5, 100]).get? b = some o := fun {b o} e n => hideAll_get _ (o5 _ _ nin0 (o04 _ _ nin0 e)) (by
    simp only [List.mem_cons, List.not_mem_nil, or_false, not_or]
    exact ⟨fun q => (by rw [q, nL] at e; cases e), fun q => (by rw [q, none_of_kp o04.kp d5] at e; cases e), n⟩)
  have kg5 : Kp gi (hideAll h5 [L, D5, 100]) := fun b o e => in5 (kgi _ _ e) fun q => by rw [q, hgT] at e; cases e
  have kB5 : Kp Bh (hideAll h5 [L, D5, 100]) := fun b o e => in5 (kb _ _ e) fun q => by rw [q, hBT] at e; cases e
  have r5' := r5 _ kg5 fun b o e1 e2 e3 => hideAll_get _ e3 (by
    simp only [List.mem_cons, List.not_mem_nil, or_false, not_or]
    exact ⟨fun q => ns_has F4.ns (q ▸ e1), by simpa using e2, fun q => by rw [q, o04 _ _ nin0 hT] at e1; cases e1⟩)
  generalize hg5 : hideAll h5 [L, D5, 100] = g5 at *
  refine ev_st F5 N5 fun h6 F6 N6 => ?_
  have kB6 := kB5.trans' F6.keep
  refine ev_cons (ev_if (ev_isTrue_compare (ev_call (ev_glob B kB6 (.ref 316) rfl (ev_ld F6 (v := .ref l) rfl (ev_ld F6 (v := .ref r) rfl ⟨.inK B kB6 rfl, Ev.call (law_by_heaps_C B kB6 (Rm.le (by decide)) (F6.keep _ _ (in5 hl (ne hl))) (F6.keep _ _ (in5 hr (ne hr))) (kg5.trans' F6.keep) ra rb ha hb (by omega) fun v h7 as7 o7 r7 => ?_)⟩))))))
  have F7 := Fm.o F6 o7
  have N7 := Nw.o N6 o7
  have kB7 := kB5.trans' F7.keep
  refine ev_tuple (ev_ld F7 (v := .ref D5) rfl (ev_call (ev_glob B kB7 (.ref 331) rfl (ev_ld F7 (v := .ref lo) rfl (ev_ld F7 (v := .ref ro) rfl ⟨.inK B kB7 rfl, Ev.call (due_alone_C B kB7 (Rm.le (by decide)) (F7.keep _ _ (in5 hlo (ne hlo))) (F7.keep _ _ (in5 hro (ne hro))) (kg5.trans' F7.keep) da db ha hb fun D8 h8 zs8 n8 o8 d8 g8 r8 => ?_)⟩)))))
  have F8 := Fm.o F7 o8
  have N8 := Nw.o N7 o8
  refine ev_newTuple (by simp) (by simp) fun T9 h9 o9 d9 g9 => ?_
  have F9 := Fm.o F8 o9
  have N9 := Nw.o N8 o9
  have g89 := N9.at (.tail _ (.head _))
  have hu : ∀ {e : Env}, (A.deeper e).units + 64 < cLine := fun {e} => by
    have := room.units
    show A.units + 3 + 64 < 9900
    omega
  refine ev_ne_data (n := 3) (Reads.keeps (o8.trans o9).kp r7) (.tuple g9 rfl rfl (ReadsAll.cons (reads_list (fun v b => reads_TR) g89 (r5'.imp fun v b r => r.up F9.keep)) (ReadsAll.cons (reads_list (fun v b => reads_PR) (o9 _ _ nin0 g8) (r8.imp fun v b r => r.up (kg5.trans' F9.keep))) .nil))) (.tuple (.cons (.list (.map _ fun b hb => okT (ok_rows oka okb b hb))) (.cons (.list (.map _ fun b hb => okP (ok_alone oka okb b hb))) .nil))) (by decide) hu (ev_truthy_bool ?_)
  refine iff0 ?_
  refine ev_nil ?_
  have kB9 := kB5.trans' F9.keep
  refine ev_cons (ev_return (ev_compare (ev_call (ev_glob B kB9 (.ref 321) rfl (ev_ld F9 (v := .ref l) rfl (ev_ld F9 (v := .ref r) rfl ⟨.inK B kB9 rfl, Ev.call (by_book_C B kB9 (Rm.le (by decide)) (N9.at (.head _)) hBM hBT (F9.keep _ _ (in5 hl (ne hl))) (F9.keep _ _ (in5 hr (ne hr))) (kg5.trans' F9.keep) hgT ra rb ha hb hz2 fun v2 h10 as10 o10 ⟨ps, t10⟩ r10 => ?_)⟩))))))
  obtain ⟨F10, N10⟩ := after (news' := [(D5, LO zs5 n5)]) F9 N9 o10 (fun b q => by rw [List.mem_singleton.mp q]; exact ⟨(N9 _ (.head _)).2.2, L1.symm⟩) fun q hq => by
    rw [List.mem_singleton.mp hq]
    exact ⟨o10 _ _ (nin1 D51) g89, .inr (.tail _ (.head _))⟩
  have kB10 := kB5.trans' F10.keep
  refine ev_tuple (ev_call (ev_bi B kB10 (.builtin "sorted") rfl rfl (ev_ld F10 (v := .ref D5) rfl ⟨.builtin, ev_sortC (tupS w [0, 0]) cT (R := TR) (fun _ _ _ => Iff.rfl) (Rm.le (by decide)) F10.keep (N10.at (.head _)) r5' (by have := r5'.len; omega) fun D11 h11 zs11 n11 o11 d11 g11 r11 => ?_⟩)))
  have F11 := Fm.o F10 o11
  have N11 := Nw.o N10 o11
  have kB11 := kB5.trans' F11.keep
  refine ev_call (ev_glob B kB11 (.ref 336) rfl (ev_ld F11 (v := .ref lo) rfl (ev_ld F11 (v := .ref ro) rfl ⟨.inK B kB11 rfl, Ev.call (due_few_C B kB11 (Rm.le (by decide)) (F11.keep _ _ (in5 hlo (ne hlo))) (F11.keep _ _ (in5 hro (ne hro))) (kg5.trans' F11.keep) da db ha (Nat.lt_of_le_of_lt (few_len pa pb) (by omega)) fun D12 h12 zs12 n12 o12 d12 g12 r12 => ?_)⟩)))
  have F12 := Fm.o F11 o12
  have N12 := Nw.o N11 o12
  have kB12 := kB5.trans' F12.keep
  refine ev_call (ev_glob B kB12 (.ref 343) rfl (ev_ld F12 (v := .ref lo) rfl ⟨.inK B kB12 rfl, Ev.call (due_names_C B kB12 (Rm.le (by decide)) (F12.keep _ _ (in5 hlo (ne hlo))) (kg5.trans' F12.keep) da (by have := da.len; omega) fun D13 h13 zs13 n13 o13 d13 g13 r13 => ?_)⟩))
  have F13 := Fm.o F12 o13
  have N13 := Nw.o N12 o13
  refine ev_newTuple (by simp) (by simp) fun T14 h14 o14 d14 g14 => ?_
  have F14 := Fm.o F13 o14
  have N14 := Nw.o N13 o14
  have o1114 := (o12.trans o13).trans o14
  have r12' := r12 h14 (kg5.trans' F14.keep) fun b o e1 e2 e3 => (o13.trans o14) _ _ nin0 e3
  refine ev_eq_data (n := 3) (Reads.keeps (o11.trans o1114).kp r10) (.tuple g14 rfl rfl (ReadsAll.cons (reads_list (fun v b => reads_TR) (o1114 _ _ nin0 g11) (r11.imp fun v b r => r.up F14.keep)) (ReadsAll.cons (reads_list (fun v b => reads_TR) ((o13.trans o14) _ _ nin0 g12) r12') (ReadsAll.cons (reads_list (R := SR) (fun v b => reads_str) (o14 _ _ nin0 g13) r13) .nil)))) 
    (.tuple (.cons (.list (.map _ fun b hb => okT (ok_rows oka okb b ((sortC_perm cT _).mem_iff.mp hb)))) (.cons (.list (.map _ fun b hb => okT (ok_few oka okb b hb))) (.cons (.list (.map _ fun b hb => .str (ok_names oka b hb))) .nil)))) (by decide) hu ?_
  refine p h14 (fun b o nb e => F14.keep _ _ (in5 e (by simpa using nb))) ⟨ps, (o11.trans o1114) _ _ (by simp) t10⟩
end Mine
open PySem PySem.W PyProof.Rows PySem.Calls
set_option maxRecDepth 100000
set_option maxHeartbeats 1000000
set_option linter.unusedVariables false
namespace Mine
variable {w : World} {A : Around} {Bh : Heap}
/-! ## a Pair beside a tuple -/
theorem tup_eq_eq (a b : Value) : Builtin.«tuple.__eq__» ⟨[a, b], []⟩ = (do
    if !(← isInstance b (.type "tuple")) then return ← ret .notImplemented
    let xs ← Builtin.Tuple.tupleItemsOf a
    let ys ← Builtin.Tuple.tupleItemsOf b
    for (x, y) in xs.toList.zip ys.toList do
      if !(← eqBool x y) then return ← ret (.bool false)
    ret (Builtin.Tuple.tupleCompareSizes .Eq xs.size ys.size)) := rfl
theorem ev_pair_eq {prog : Program} {w' : World} (B : Base w Bh) {h : Heap} (kb : Kp Bh h) (room : Room A 1) {a b : Addr} {x y : Str} {t u t' u' : Tok} (ip : IsPair h a (.str x t) (.str y u)) (hb : h.get? b = some (TO [.str x t', .str y u'])) {P : Value → Heap → Prop} (p : P (.bool true) h) :
    Ev (model prog w') A (richCompare .Eq (.ref a) (.ref b)) h P := by
  obtain ⟨d, I⟩ := ip.inst
  have X := B.X.keeps kb
  have tb : Looks (model prog w') h (typeOf (.ref b)) (.type "tuple") := (Looks.ld (part := none) hb).andThen .now
  have ib : Looks (model prog w') h (isInstance (.ref b) (.type "tuple")) true := by
    unfold isInstance
    exact tb.andThen (Looks.of_pure isSubtype_tuple_tuple)
  refine ev_rich room (id := "tuple.__eq__") (Ta := .ref 203) (Tb := .type "tuple") I.type tb (fun _ => looks_subIn X (by kernel_rfl)) (looks_findIn X (by kernel_rfl)) PySem.F.slot_tuple_eq.bind (fun {P} q => ?_) p
  refine Ev.call (cev_sub (owner := "tuple") (n := "__eq__") (by decide +kernel) PySem.F.entry_tuple_eq (by decide +kernel) (by first | exact .inl (by decide +kernel) | exact .inr (by decide +kernel)) ?_ (PySem.F.args_tuple_eq_2 _ _) ?_)
  · unfold isInstance
    exact I.type.andThen (looks_subIn X (by kernel_rfl))
  rw [tup_eq_eq]
  refine Ev.bind (Ev.looks ib ?_)
  simp only [Bool.not_true, Bool.false_eq_true, if_false]
  have items : ∀ {A' : Around} {c : Addr} {o : Obj} {zs : List Value} {m : Nat} {P : Array Value → Heap → Prop}, h.get? c = some o → o.data = .seq zs.toArray m → P zs.toArray h → Ev (model prog w') A' (Builtin.Tuple.tupleItemsOf (.ref c)) h P := by
    intro A' c o zs m P ho hd q E Q s hs hQ
    subst hs
    unfold Builtin.Tuple.tupleItemsOf
    exact wpAny_bind (wpAny_seqItems ho hd (wpAny_pure (hQ _ _ s.toks q)))
  have same : ∀ {A' : Around} {s : Str} {t u : Tok} {P : Bool → Heap → Prop}, P true h → Ev (model prog w') A' (eqBool (.str s t) (.str s u)) h P := by
    intro A' z t u P q E Q s hs hQ
    subst hs
    refine wpAny_eqBool_str (hQ _ _ s.toks ?_)
    rw [decide_eq_true rfl]; exact q
  obtain ⟨d', hp, _⟩ := ip
  refine Ev.bind (items (zs := [.str x t, .str y u]) hp rfl (Ev.bind (items (zs := [.str x t', .str y u']) hb rfl ?_)))
  show Ev _ _ (forIn [(Value.str x t, Value.str x t'), (Value.str y u, Value.str y u')] _ _ >>= _) _ _
  rw [List.forIn_cons]
  refine Ev.bind (Ev.bind (Ev.bind (same ?_)))
  simp only [Bool.not_true, Bool.false_eq_true, if_false]
  refine Ev.pure ?_
  show Ev _ _ (forIn [(Value.str y u, Value.str y u')] _ _) _ _
  rw [List.forIn_cons]
  refine Ev.bind (Ev.bind (same ?_))
  simp only [Bool.not_true, Bool.false_eq_true, if_false]
  refine Ev.pure ?_
  show Ev _ _ (forIn [] _ _) _ _
  rw [List.forIn_nil]
  refine Ev.pure ?_
  exact Ev.pure ⟨_, rfl, q⟩
/-! ## two lists whose items are equal -/
theorem code_eqloop {h : Heap} {a b : Addr} {xs ys : List Value} {n k : Nat} (ha : h.get? a = some (LO xs n)) (hb : h.get? b = some (LO ys k)) (len : xs.length = ys.length)
    (he : ∀ (i : Nat) x y, xs[i]? = some x → ys[i]? = some y → ∀ {P : Bool → Heap → Prop}, P true h → Ev (model pw w) A.in1 (eqBool x y) h P) {R : Result → Shared → Prop} (d : Nat) :
    ∀ (i : Nat) (s : Shared), xs.length - i = d → i ≤ xs.length → s.heap = h → (∀ tk, R (.ok (.ret (.bool true))) { s with heap := h, toks := tk }) →
      wpAny (model pw w) A.in1 (Builtin.«list.__eq__.loop» ⟨[.ref a, .ref b, rawInt (i : Int), rawInt 2], []⟩) (fun fin s' => match fin with | .done f => R (.ok f) s' | .again c' => c'.quiet = true ∧ codeAny (model pw w) A c' R s') (fun e s' => R (.error e) s') s := by
  induction d with
  | zero =>
    intro i s hd hi hs hR
    obtain ⟨hp, g, dr, tk, os⟩ := s
    subst hs
    wp_walk using AutoSeq1.wpAny_loadPart' ha, AutoSeq1.wpAny_loadPart' hb
    have e1 : xs.toArray[((i : Nat) : Int).toNat]? = none := by simp; omega
    have e2 : ys.toArray[((i : Nat) : Int).toNat]? = none := by simp; omega
    rw [e1, e2]
    wp_walk using AutoSeq1.wpAny_loadPart' ha, AutoSeq1.wpAny_loadPart' hb
    show R (.ok (.ret (.bool (xs.toArray.size == ys.toArray.size)))) _
    have : (xs.toArray.size == ys.toArray.size) = true := by simp [len]
    rw [this]
    exact hR _
  | succ d ih =>
    intro i s hd hi hs hR
    obtain ⟨hp, g, dr, tk, os⟩ := s
    subst hs
    wp_walk using AutoSeq1.wpAny_loadPart' ha, AutoSeq1.wpAny_loadPart' hb
    have l1 : i < xs.length := by omega
    have l2 : i < ys.length := by omega
    have e1 : xs.toArray[((i : Nat) : Int).toNat]? = some xs[i] := by simp [l1]
    have e2 : ys.toArray[((i : Nat) : Int).toNat]? = some ys[i] := by simp [l2]
    have hc : ((i : Int) + 1) = ((i + 1 : Nat) : Int) := by push_cast; rfl
    rw [e1, e2]
    refine wpAny_bind (he i _ _ (List.getElem?_eq_getElem l1) (List.getElem?_eq_getElem l2) (P := fun r h' => r = true ∧ h' = hp) ⟨rfl, rfl⟩ _ _ _ rfl fun r h' tk' q => ?_)
    obtain ⟨rfl, rfl⟩ := q
    wp_walk
    rw [hc]
    exact ⟨plainId_quiet MeetsSeq3.plain_eq_loop _, codeAny_builtin MeetsSeq3.entry_eq_loop (by
      rw [Around.under_plainId MeetsSeq3.plain_eq_loop _]
      exact ih (i + 1) _ (by omega) (by omega) rfl hR)⟩
theorem ev_lists_eq {h : Heap} (room : Room A 1) {a b : Addr} {xs ys : List Value} {n k : Nat} (ha : h.get? a = some (LO xs n)) (hb : h.get? b = some (LO ys k)) (len : xs.length = ys.length)
    (he : ∀ (i : Nat) x y, xs[i]? = some x → ys[i]? = some y → ∀ {P : Bool → Heap → Prop}, P true h → Ev (model pw w) A.in1 (eqBool x y) h P) {P : Value → Heap → Prop} (p : P (.bool true) h) : Ev (model pw w) A (richCompare .Eq (.ref a) (.ref b)) h P := by
  refine ev_rich room (looks_list ha) (looks_list hb) (fun q => by simp at q) (Looks.of_pure PySem.F.slot_list_eq.lookup) PySem.F.slot_list_eq.bind (fun q => Ev.call ?_) p
  intro R s hs hQ
  subst hs
  refine codeAny_call_builtin PySem.F.slot_list_eq.plain PySem.F.entry_list_eq ?_
  refine PySem.F.slot_list_eq.check _ _ _ _ _ _ _ _ ⟨_, ha, rfl⟩ (PySem.F.args_list_eq_2 _ _) ?_
  rw [list_eq_eq]
  have L : Looks (model pw w) s.heap (isInstance (.ref b) (.type "list")) true := by
    unfold isInstance
    exact (looks_list hb).andThen (Looks.of_pure sub_list_list)
  refine wpAny_bind (L.here ?_)
  simp only [Bool.not_true, Bool.false_eq_true, if_false]
  refine wpAny_bind ((looks_items ha).here (wpAny_bind ((looks_items hb).here ?_)))
  rw [if_neg (by simp [len])]
  refine wpAny_pure ⟨plainId_quiet MeetsSeq3.plain_eq_loop _, codeAny_builtin MeetsSeq3.entry_eq_loop ?_⟩
  rw [Around.under_plainId MeetsSeq3.plain_eq_loop _]
  exact code_eqloop ha hb len he _ 0 s rfl (Nat.zero_le _) rfl fun tk => hQ _ _ _ q
noncomputable def RdN (B h : Heap) (v : Value) (b : Option (Str × Str)) : Prop := RdR h v b ∧ ∀ a, v = .ref a → B.get? a = none
theorem ev_item_eq (B : Base w Bh) {h : Heap} (kb : Kp Bh h) (room : Room A 1) {v u : Value} {b : Option (Str × Str)} {Z Z' : Heap} (r : OptN Z h v b) (q : RdN Z' h u b) {P : Bool → Heap → Prop} (p : P true h) : Ev (model pw w) A (eqBool v u) h P := by
  cases b with
  | none =>
    obtain rfl : v = .none := r
    obtain rfl : u = .none := q.1
    unfold eqBool
    exact Ev.holding (Ev.bind (Ev.rule (Ev.pure p)))
  | some x =>
    obtain ⟨a, t, t', rfl, ip⟩ := r
    obtain ⟨⟨c, s, s', rfl, gc⟩, _⟩ := q
    exact ev_eqBool_of (fun q => ev_pair_eq B kb room ip.pair gc q) (fun _ => rfl) p
theorem ev_nest_eq (B : Base w Bh) {h : Heap} (kb : Kp Bh h) (room : Room A 4) {v u : Value} {bs : List (Option (Str × Str))} {Z1 Z2 Z3 Z4 : Heap} (r : NestR (OptN Z1) Z2 h v bs) (q : NestR (RdN Z3) Z4 h u bs) {P : Bool → Heap → Prop} (p : P true h) : Ev (model pw w) A (eqBool v u) h P := by
  obtain ⟨a, xs, n, rfl, ga, _, al⟩ := r
  obtain ⟨c, ys, k, rfl, gc, _, cl⟩ := q
  refine ev_eqBool_of (fun q => ev_lists_eq (room.le (by decide)) ga gc (by rw [al.len, cl.len]) (fun i x y hx hy P p => ?_) q) (fun _ => rfl) p
  obtain ⟨b, hb, rx⟩ := al.get hx
  obtain ⟨b', hb', ry⟩ := cl.get hy
  rw [hb] at hb'
  obtain rfl := Option.some.inj hb'
  exact ev_item_eq B kb ((room.le (m := 2) (by omega)).in1) rx ry p
theorem ev_told_eq (B : Base w Bh) {h : Heap} (kb : Kp Bh h) (room : Room A 6) {a c : Addr} {xs ys : List Value} {n k : Nat} {bs : List (List (Option (Str × Str)))} {Z1 Z2 Z3 Z4 : Heap} (ha : h.get? a = some (LO xs n)) (hc : h.get? c = some (LO ys k)) (r : All2 (NestR (OptN Z1) Z2 h) xs bs) (q : All2 (NestR (RdN Z3) Z4 h) ys bs)
    {P : Value → Heap → Prop} (p : P (.bool true) h) : Ev (model pw w) A (compareOp .Eq (.ref a) (.ref c)) h P := by
  refine ev_lists_eq (room.le (by decide)) ha hc (by rw [r.len, q.len]) (fun i x y hx hy P p => ?_) p
  obtain ⟨b, hb, rx⟩ := r.get hx
  obtain ⟨b', hb', ry⟩ := q.get hy
  rw [hb] at hb'
  obtain rfl := Option.some.inj hb'
  exact ev_nest_eq B kb ((room.le (m := 5) (by omega)).in1) rx ry p
end Mine
open PySem PySem.W PyProof.Rows PySem.Calls
set_option maxRecDepth 100000
set_option maxHeartbeats 1000000
set_option linter.unusedVariables false
namespace Mine
variable {w : World} {A : Around} {Bh : Heap}
noncomputable abbrev IR (_ : Heap) (v : Value) (i : Int) : Prop := ∃ t, v = .int i t
theorem All2.impm {β γ : Type} {R R' : β → γ → Prop} {xs : List β} {as : List γ} (x : All2 R xs as) : (∀ v a, a ∈ as → R v a → R' v a) → All2 R' xs as := by
  induction x with
  | nil => exact fun _ => .nil
  | cons r _ ih => exact fun k => .cons (k _ _ (.head _) r) (ih fun v a h => k v a (.tail _ h))
noncomputable abbrev LnR (v : Value) (x : Str) : Prop := StrIs v x ∧ lineFit x = true
theorem evC_cons {M : Model} {env : Env} {h : Heap} {st : Stmt} {rest : List Stmt} {P : Flow → Heap → Prop} (x : EvC M A (exec st env) h fun f h1 => match f with | .next => EvC M A (execs rest env) h1 P | f => P f h1) : EvC M A (execs (st :: rest) env) h P := by
  intro E Q s hs hQ
  refine wpC.execs_cons (x _ _ s hs fun f h1 tk y => ?_)
  cases f <;> first | exact hQ _ _ _ y | exact y _ _ _ rfl fun b h'' tk' p => hQ b h'' tk' p
theorem NestR.hide {β : Type} {R : Heap → Heap → Value → β → Prop} {B h : Heap} {v : Value} {b : List β} {W : List Addr} (hR : ∀ v b, R B h v b → R B (hideAll h W) v b) (r : NestR (R B) B h v b) : ∃ l ys k, v = .ref l ∧ h.get? l = some (LO ys k) ∧ SeqL (R B) (hideAll h W) ys b := by
  obtain ⟨l, ys, k, rfl, g, _, al⟩ := r
  exact ⟨l, ys, k, rfl, g, All2.imp hR al⟩
noncomputable def PairR' (h : Heap) (v : Value) (p : Str × Str) : Prop := ∃ o t u, v = .ref o ∧ IsPair h o (.str p.1 t) (.str p.2 u)
theorem OptN.hide {B h : Heap} {v : Value} {b : Option (Str × Str)} {W : List Addr} (hW : ∀ a ∈ W, B.get? a ≠ none) (r : OptN B h v b) : OptN B (hideAll h W) v b := by
  cases b with
  | none => exact r
  | some p =>
    obtain ⟨o, t, u, rfl, d, g1, g2, n1, n2⟩ := r
    exact ⟨o, t, u, rfl, d, hideAll_get _ g1 (fun q => hW _ q n1), hideAll_get _ g2 (fun q => hW _ q n2), n1, n2⟩
theorem RdN.hide {B h : Heap} {v : Value} {b : Option (Str × Str)} {W : List Addr} (hW : ∀ a ∈ W, B.get? a ≠ none) (r : RdN B h v b) : RdN B (hideAll h W) v b := by
  obtain ⟨r, q⟩ := r
  refine ⟨?_, q⟩
  cases b with
  | none => exact r
  | some p =>
    obtain ⟨a, t, u, rfl, g⟩ := r
    exact ⟨a, t, u, rfl, hideAll_get _ g (fun z => hW _ z (q a rfl))⟩
theorem All2.two {α β : Type} {R : α → β → Prop} {xs : List α} {a b : β} (x : All2 R xs [a, b]) : ∃ u v, xs = [u, v] ∧ R u a ∧ R v b := by
  cases x with
  | cons r x => cases x with
    | cons s x => cases x; exact ⟨_, _, rfl, r, s⟩
theorem law_C {h : Heap} (B : Base w Bh) (kb : Kp Bh h) (room : Room A 12) (hfr : A.frames = some []) {sc : Addr} {xs : List Value} {is : List Int} (hT : h.get? 100 = some (tabObj #[])) (hBM : Bh.BuiltinsAt (mgl w.params) 100) (hBT : Bh.get? 100 = none) (hsc : h.IsList sc xs.toArray) (hi : SeqL IR h xs is) (hz : xs.length < 64) {P : Value → Heap → Prop} (p : ∀ h', Only [100] h h' → (∃ ps, h'.get? 100 = some (tabObj ps)) → P (.bool true) h') :
    CEvC (model pw w) A (.call (.ref 353) ⟨[.ref sc], []⟩) h P := by
  refine CEvC.fnc B kb (n := 11) room (fa := 353) (c := 352) [("script", .ref sc)] rfl rfl rfl rfl rfl rfl rfl (fun s hs => BindsTo.of_eq (by rfl)) (fun L => by rfl) ?_
  intro L h₁ Rm k1 F CC
  obtain ⟨oc, hc, dc, Lc, nc⟩ := CC "drawn" (nx L) (by rfl)
  have cL : nx L ≠ L := Nat.succ_ne_self L
  have N : Nw (hideAll h ([] : List Addr)) L h₁ [(nx L, oc)] := Nw.nil.cons hc cL nc
  refine evC_cons (.of (ev_assign (ev_binop (ev_list (ev_int fun t1 => ev_int fun t2 => ev_int fun t3 => ev_int fun t4 => ev_int fun t5 => ev_int fun t6 => ev_newList (by simp) fun D1 h2 o2 d2 g2 => ?_)))))
  have F2 := Fm.o F o2
  have N2 := Nw.o N o2
  refine ev_sub (ev_ld F2 (v := .ref sc) rfl (ev_slice ?_))
  rw [evalPart_none, evalPart_some]
  refine Ev.pure (ev_int fun t7 => ⟨none, some (((10 : Nat) : Int), t7), rfl, rfl, fun sl h3 o3 g3 => ?_⟩)
  refine ev_tail_lslice0 (let ⟨o, ho, q⟩ := hsc; ⟨o, o3 _ _ nin0 (F2.keep _ _ (hideAll_get _ ho (by simp))), q⟩) g3 (by omega) fun D2 h4 o4 d4 g4 => ?_
  refine ev_addl (o4 _ _ nin0 (o3 _ _ nin0 g2)) g4 (by simp; omega) fun D3 h5 o5 d5 g5 => ?_
  have F5 := Fm.o F2 ((o3.trans o4).trans o5)
  have N5 := Nw.o N2 ((o3.trans o4).trans o5)
  refine ev_stc (N5.at (.head _)) dc fun h6 oq o6 g6 d6 => ?_
  have F6 := Fm.o1 F5 N5 o6
  have N6 := Nw.o1 N5 o6 g6 alln
  have D3c : D3 ≠ nx L := fun e => by
    have := N2.at (.head _)
    rw [e] at d5; rw [(o3.trans o4) _ _ nin0 this] at d5; cases d5
  have D3L : D3 ≠ L := fun e => by
    rw [e] at d5
    exact ns_some (ns_only (Y := []) (o3.trans o4) nin0 F2.ns) d5
  have hdr : h6.get? D3 = some (LO ([.int 40 t1, .int 6 t2, .int 50 t3, .int 120 t4, .int 133 t5, .int 177 t6] ++ xs.take 10) 0) := o6 _ _ (nin1 D3c) g5
  have rdr : SeqL IR h6 ([.int 40 t1, .int 6 t2, .int 50 t3, .int 120 t4, .int 133 t5, .int 177 t6] ++ xs.take 10) (drawnOf is) :=
    SeqL.append (R := IR) (.cons ⟨_, rfl⟩ (.cons ⟨_, rfl⟩ (.cons ⟨_, rfl⟩ (.cons ⟨_, rfl⟩ (.cons ⟨_, rfl⟩ (.cons ⟨_, rfl⟩ .nil)))))) (SeqL.take (R := IR) (h := h) hi 10)
  have ldr : (drawnOf is).length ≤ 16 := by
    unfold drawnOf; rw [List.length_append, List.length_take]; simp; omega
  generalize hvs : [.int 40 t1, .int 6 t2, .int 50 t3, .int 120 t4, .int 133 t5, .int 177 t6] ++ xs.take 10 = vs at hdr rdr
  have k6 : Kp h h6 := fun b o e => F6.keep _ _ (hideAll_get _ e (by simp))
  refine evC_cons (.of (ev_alc (cl := [("drawn", nx L)]) (ev_call (ev_bi B (kb.trans' k6) (.type "range") (by rfl) (by rfl) (ev_int fun t8 => ⟨.type, ev_range1 fun r h7 u1 u2 u3 o7 d7 g7 => ?_⟩)))))
  refine ev_iter_range (n := 2) g7 (by omega) fun I h8 o8 d8 g8 => ?_
  intro D C h9 o9 dD gD dC DC nsC NC ND
  obtain ⟨qc1, qc2⟩ : h9.get? (nx C) = some (cellN none) ∧ h8.get? (nx C) = none := by
    rcases NC "side" (nx C) (.head _) with q | q
    · exact absurd (Prod.mk.inj (List.mem_singleton.mp q)).1 (by decide)
    · exact ⟨q.1, q.2.1⟩
  have IC : I ≠ C := fun e => by rw [e, dC] at g8; cases g8
  have ID : I ≠ D := fun e => by rw [e, dD] at g8; cases g8
  have Iq : I ≠ nx C := fun e => by rw [e, qc2] at g8; cases g8
  have qD : nx C ≠ D := by
    rcases ND "side" (nx C) (.head _) with q | q
    · exact absurd (Prod.mk.inj (List.mem_singleton.mp q)).1 (by decide)
    · exact q
  have o68 := o7.trans o8
  have o69 := o68.trans o9
  have new : ∀ {b : Addr}, h6.get? b ≠ none → b ∉ [C, D, I, nx C] := fun {b} q => by
    simp only [List.mem_cons, List.not_mem_nil, or_false, not_or]
    exact ⟨fun e => q (by rw [e]; exact none_of_kp o68.kp dC), fun e => q (by rw [e]; exact none_of_kp o68.kp dD), fun e => q (by rw [e]; exact none_of_kp o7.kp d8), fun e => q (by rw [e]; exact none_of_kp o68.kp qc2)⟩
  have up : ∀ {h'}, Only [C, D, I, nx C] h9 h' → Only [] h6 h' := fun {h'} o b ob _ e => o _ _ (new (by rw [e]; simp)) (o69 _ _ nin0 e)
  have CL : L ≠ C := fun e => ns_some (F6.ns) (by rw [e]; exact none_of_kp o68.kp dC)
  refine fev_cellrange (n := 2) (q := nx C) (bs := [sideOf (drawnOf is) 0, sideOf (drawnOf is) 1]) (R := fun h v b => ∃ a ys k, v = .ref a ∧ h.get? a = some (LO ys k) ∧ a ∉ [C, D, I, nx C] ∧ a ≠ L ∧ ys.length < 64 ∧ All2 LnR ys b) Rm.handled rfl ?_ (o9 _ _ nin0 g8) gD nsC qc1 (by rfl) (by rfl) (by rfl) rfl (by omega) ?_ ?_ ?_
  · simp only [List.nodup_cons, List.mem_cons, List.not_mem_nil, or_false, not_or, not_false_eq_true, List.nodup_nil, and_true]
    exact ⟨⟨DC.symm, IC.symm, fun e => Nat.succ_ne_self C e.symm⟩, ⟨ID.symm, qD.symm⟩, Iq⟩
  · rintro h h' v b o ⟨a, ys, k, rfl, ga, na, aL, az, al⟩
    exact ⟨a, ys, k, rfl, o _ _ na ga, na, aL, az, al⟩
  · intro i b h10 t oq' hb o10 nC gq dq nD nI
    have hi2 : i < 2 := by
      have := (List.getElem?_eq_some_iff.mp hb).1
      simpa using this
    have eb : sideOf (drawnOf is) i = b := by
      rcases i with _ | _ | i
      · simpa using hb
      · simpa using hb
      · omega
    subst eb
    have u10 := up o10
    have F10 : Fm (hideAll h10 [C]) C h10 _ := fm_here nC
    refine ev_lc (cl := [("side", nx C)]) (ev_ldc (u10 _ _ nin0 g6) d6 ?_)
    refine lcomp1 (R := IR) (R' := SR) (f := fun x => if (x.fdiv 100).fmod 2 == (i : Int) then [lineAt x] else []) ownName Rm.handled F10 Nw.nil (u10 _ _ nin0 hdr) rdr (by have := sideOf_len i (drawnOf is); unfold sideOf at this; omega) ?_ ?_
    · intro C' c0 x v h11 m ha rv o11 kE F11 km _
      obtain ⟨t', rfl⟩ := rv
      refine ev_asg_name (ev_st F11 Nw.nil fun h12 F12 N12 => ev_tests1 (ev_isTrue_compare (ev_binop (ev_binop (ev_ld F12 (v := .int x t') rfl (ev_int fun _ => ev_fdivi (by decide) (by rfl) fun _ => ev_int fun _ => ev_modi (by decide) fun _ => ev_ldc (F12.kpC o11.kp c0 _ _ gq) dq (ev_eqi (ev_truthy_bool ?_))))))))
      cases hq : (x.fdiv 100).fmod 2 == (i : Int) with
      | false =>
        refine iff0 ?_
        exact ⟨_, by simp [hq], F12, trivial, trivial⟩
      | true =>
        refine ift ?_
        have kB : Kp Bh h12 := (kb.trans' (k6.trans' u10.kp)).trans' (F12.kpC o11.kp c0)
        refine ev_call (ev_glob B kB (.ref 282) rfl (ev_ld F12 (v := .int x t') rfl ⟨.inK B kB rfl, Ev.call (law_line_C B kB (Rm.le (by decide)) fun h13 t'' o13 => ?_)⟩))
        have F13 := Fm.o F12 o13
        exact ⟨lineAt x, _, by simp [hq], F13, trivial, trivial, fun _ _ _ => ⟨t'', rfl⟩⟩
    · intro D11 h11 ys k gN dN o11 kN F11 N11 r11 _
      refine ⟨o11, D11, ys, k, rfl, N11.at (.head _), ?_, fun e => ?_, by have := r11.len; have := sideOf_len i (drawnOf is); unfold sideOf at this; omega, All2.impm r11 fun v x hx r => ⟨r, sideOf_fit (k := i) hx⟩⟩
      · simp only [List.mem_cons, List.not_mem_nil, or_false, not_or]
        exact ⟨fun e => ns_some nC (e ▸ dN), fun e => nD (e ▸ dN), fun e => nI (e ▸ dN), fun e => by rw [e, gq] at dN; cases dN⟩
      · exact ns_some (ns_only (Y := []) u10 (by simp) F6.ns) (e ▸ dN)
  · intro h10 vs10 k10 o10 nC gD10 al10
    have u10 := up o10
    have L10 : h10.Ns L _ := ns_only (Y := []) u10 (by simp) F6.ns
    refine ev_st (fm_here L10) Nw.nil fun h11 F11 N11 => ⟨_, ns_only (Y := [L]) F11.only (nin1 CL.symm) nC, fun h12 o12 => ?_⟩
    have DL : D ≠ L := fun e => ns_some F6.ns (by rw [← e]; exact none_of_kp o68.kp dD)
    have k12 : ∀ b o, b ≠ L → b ≠ C → h10.get? b = some o → h12.get? b = some o := fun b o n1 n2 e => o12 _ _ (nin1 n2) (F11.only _ _ (nin1 n1) e)
    have D12 := k12 _ _ DL DC gD10
    have it12 : All2 (fun v as => ∃ a ys k, v = .ref a ∧ h12.get? a = some (LO ys k) ∧ a ≠ L ∧ ys.length < 64 ∧ All2 LnR ys as) vs10 [sideOf (drawnOf is) 0, sideOf (drawnOf is) 1] := All2.imp (fun v b r => by
      obtain ⟨a, ys, k, rfl, ga, na, aL, az, al⟩ := r
      exact ⟨a, ys, k, rfl, k12 _ _ aL (fun e => na (by simp [e])) ga, aL, az, al⟩) al10
    have L12 := ns_only (Y := [C]) o12 (nin1 CL) F11.ns
    have k12' : Kp h h12 := fun b o e => k12 _ _ (fun q => by rw [q] at e; exact absurd (hideAll_get [] e (by simp)) (by rw [F.off]; simp)) (fun q => (new (b := b) (by rw [k6 _ _ e]; simp)) (by simp [q])) (u10 _ _ nin0 (k6 _ _ e))
    have gL : h.get? L = none := by
      cases e : h.get? L with
      | none => rfl
      | some o => exact absurd (hideAll_get [] e (by simp)) (by rw [F.off]; simp)
    refine evC_cons (evC_nest (f := parsedS) (R := OptN) (R0 := LnR) (L := L) (l := D) Rm.handled rfl L12 (by rfl) D12 DL (by have := al10.len; simp at this; omega) it12 (fun W B h h' v b o k r => r.only k o) (fun B B' h v b k r => r.old k) ?_ ?_ (by rfl) (by rfl) rfl (by rfl) (by intro _; rfl) (by intro _; rfl) rfl (by rfl) (by intro _ _; rfl) (by rfl) (by rfl) (by rfl) (by decide) (by decide) (by intro _; rfl) (by intro _; rfl) (by intro _ _; rfl) (by intro _ _; rfl))
    · intro C1 C2 h13 m v x o13 L13 C13 hm r0 n2
      obtain ⟨⟨t, rfl⟩, fit⟩ := r0
      obtain ⟨f1, f2, f3, _⟩ := fit_at fit
      have kh13 : Kp h h13 := fun b o e => o13 _ _ (by simp; intro q; rw [q, gL] at e; cases e) (k12' _ _ e)
      have kB := kb.trans' kh13
      refine evC_call (ev_glob B kB (.ref 299) rfl (ev_ld (fm_here C13) hm ⟨.inK B kB rfl, EvC.call (law_parsed_C B.X B.bl B.st kB (Around.frames_deeper hfr) ?_ ?_ (Rm.le (by decide)) f1 rfl f2 f3 fun v h14 o14 ns r => ⟨o14, ns _ _ L13, r⟩)⟩))
      · intro e he
        rw [List.mem_singleton.mp he]
        exact ⟨(by intro q; cases q), L, _, rfl, L13⟩
      · intro b hb
        have : b = L := by simpa [frs] using hb
        rw [this]
        exact none_of_kp kb gL
    intro h14 Td vt kt o14 L14 nT gT alT
    have kh14 : Kp h h14 := fun b o e => o14 _ _ (by simp; intro q; rw [q, gL] at e; cases e) (k12' _ _ e)
    have it14 : All2 (fun v as => ∃ a ys k, v = .ref a ∧ h14.get? a = some (LO ys k) ∧ a ≠ L ∧ ys.length < 64 ∧ All2 LnR ys as) vs10 [sideOf (drawnOf is) 0, sideOf (drawnOf is) 1] := All2.imp (fun v b r => by
      obtain ⟨a, ys, k, rfl, ga, aL, az, al⟩ := r
      exact ⟨a, ys, k, rfl, o14 _ _ (nin1 aL) ga, aL, az, al⟩) it12
    refine evC_cons (evC_nest (f := readS) (R := RdN) (R0 := LnR) (L := L) (l := D) Rm.handled rfl L14 (by rfl) (o14 _ _ (nin1 DL) D12) DL (by have := al10.len; simp at this; omega) it14 ?_ (fun B B' h v b k r => ⟨r.1, fun a e => k _ (r.2 a e)⟩) ?_ ?_ (by rfl) (by rfl) rfl (by rfl) (by intro _; rfl) (by intro _; rfl) rfl (by rfl) (by intro _ _; rfl) (by rfl) (by rfl) (by rfl) (by decide) (by decide) (by intro _; rfl) (by intro _; rfl) (by intro _ _; rfl) (by intro _ _; rfl))
    · rintro W B h h' v b o k ⟨r, q⟩
      refine ⟨?_, q⟩
      cases b with
      | none => exact r
      | some p =>
        obtain ⟨a, t, u, rfl, g⟩ := r
        exact ⟨a, t, u, rfl, o _ _ (fun z => k a z (q a rfl)) g⟩
    · intro C1 C2 h15 m v x o15 L15 C15 hm r0 n2
      obtain ⟨⟨t, rfl⟩, fit⟩ := r0
      have kB := kb.trans' fun b o e => o15 _ _ (by simp; intro q; rw [q, gL] at e; cases e) (kh14 b o e)
      refine evC_call (ev_glob B kB (.ref 292) rfl (ev_ld (fm_here C15) hm ⟨.inK B kB rfl, .of (Ev.call (law_read_C B kB (Rm.le (by decide)) (fit_at fit).1 fun v h16 o16 r n => ⟨o16.sub sub0, ns_only (Y := []) o16 (by simp) L15, r, n⟩))⟩))
    intro h16 Ud vu ku o16 L16 nU gU alU
    have kh16 : Kp h h16 := fun b o e => o16 _ _ (by simp; intro q; rw [q, gL] at e; cases e) (kh14 _ _ e)
    have TL : Td ≠ L := fun e => ns_some L12 (e ▸ nT)
    have gT16 := o16 _ _ (nin1 TL) gT
    have alT16 : All2 (NestR (OptN h12) h12 h16) vt _ := All2.imp (fun v b r => by
      obtain ⟨a, ys, k, rfl, ga, na, al⟩ := r
      exact ⟨a, ys, k, rfl, o16 _ _ (by simp; exact fun e => ns_some L12 (e ▸ na)) ga, na, All2.imp (fun v b r => r.only (W := [L]) (allc (ns_some L12) alln) o16) al⟩) alT
    have eT : ([sideOf (drawnOf is) 0, sideOf (drawnOf is) 1].map fun l => l.map parsedS) = [sideOf (drawnOf is) 0, sideOf (drawnOf is) 1].map fun l => l.map readS := by
      simp only [List.map_cons, List.map_nil, parsed_is]
    rw [show (List.map (fun l => List.map parsedS l) [sideOf (drawnOf is) 0, sideOf (drawnOf is) 1]) = _ from eT] at alT16
    have kB16 := kb.trans' kh16
    have F16 := fm_here L16
    refine evC_cons (.of (ev_return (ev_and (ev_compare (ev_ld F16 (v := .ref Td) rfl (ev_ld F16 (v := .ref Ud) rfl (ev_told_eq B kB16 (Rm.le (by decide)) gT16 gU alT16 alU (ev_truthy_bool ?_))))))))
    refine ift ?_
    have L1 : L ≠ 100 := fun e => by rw [e, hT] at gL; cases gL
    have W12 : ∀ a ∈ [L, 100], h12.get? a ≠ none := by
      intro a ha
      simp only [List.mem_cons, List.not_mem_nil, or_false] at ha
      rcases ha with rfl | rfl
      · exact ns_some L12
      · rw [k12' _ _ hT]; simp
    have W14 : ∀ a ∈ [L, 100], h14.get? a ≠ none := by
      intro a ha
      simp only [List.mem_cons, List.not_mem_nil, or_false] at ha
      rcases ha with rfl | rfl
      · exact ns_some L14
      · rw [kh14 _ _ hT]; simp
    obtain ⟨v0, v1, rfl, r0, r1⟩ := alT16.two
    obtain ⟨w0, w1, rfl, q0, q1⟩ := alU.two
    obtain ⟨a0, ys0, n0, rfl, ga0, s0⟩ := r0.hide (W := [L, 100]) fun v b r => r.hide W12
    obtain ⟨a1, ys1, n1, rfl, ga1, s1⟩ := r1.hide (W := [L, 100]) fun v b r => r.hide W12
    obtain ⟨c0, us0, m0, rfl, gc0, z0⟩ := q0.hide (W := [L, 100]) fun v b r => r.hide W14
    obtain ⟨c1, us1, m1, rfl, gc1, z1⟩ := q1.hide (W := [L, 100]) fun v b r => r.hide W14
    have kg16 : Kp (hideAll h16 [L, 100]) h16 := fun b o e => of_hideAll _ e
    have len0 : (sideOf (drawnOf is) 0).length ≤ 16 := Nat.le_trans (sideOf_len 0 _) ldr
    have len1 : (sideOf (drawnOf is) 1).length ≤ 16 := Nat.le_trans (sideOf_len 1 _) ldr
    have hnP : ∀ h v o, OptN h12 h v o → (v == .none) = o.isNone := by
      intro h v o r
      cases o with
      | none => rw [show v = .none from r]; rfl
      | some p => obtain ⟨o, t, u, rfl, _⟩ := r; rfl
    have hsP : ∀ h v p, OptN h12 h v (some p) → PairR' h v p := fun h v p r => by
      obtain ⟨o, t, u, rfl, ip⟩ := r
      exact ⟨o, t, u, rfl, ip.pair⟩
    have hnR : ∀ h v o, RdN h14 h v o → (v == .none) = o.isNone := by
      intro h v o r
      cases o with
      | none => rw [show v = .none from r.1]; rfl
      | some p => obtain ⟨⟨a, t, u, rfl, _⟩, _⟩ := r; rfl
    have hsR : ∀ h v p, RdN h14 h v (some p) → PR h v p := fun h v p r => by
      obtain ⟨⟨a, t, u, rfl, g⟩, _⟩ := r
      exact .mk g
    refine ev_call (ev_glob B kB16 (.ref 348) rfl ?_)
    refine ev_call (ev_glob B kB16 (.ref 304) rfl (ev_sub (ev_ld F16 (v := .ref Td) rfl (ev_int fun _ => ev_tail_list gT16 (by decide) (by decide) rfl ⟨.inK B kB16 rfl, Ev.call (law_good_C hnP hsP B kB16 (Rm.le (by decide)) ga0 kg16 s0 (by have := s0.len; rw [List.length_map] at this; omega) fun D17 h17 xs17 n17 o17 d17 g17 r17 => ?_)⟩))))
    have kB17 := kB16.trans' o17.kp
    have F17 := Fm.o F16 o17
    refine ev_call (ev_glob B kB17 (.ref 304) rfl (ev_sub (ev_ld F17 (v := .ref Td) rfl (ev_int fun _ => ev_tail_list (o17 _ _ nin0 gT16) (by decide) (by decide) rfl ⟨.inK B kB17 rfl, Ev.call (law_good_C hnP hsP B kB17 (Rm.le (by decide)) (o17 _ _ nin0 ga1) (kg16.trans' o17.kp) s1 (by have := s1.len; rw [List.length_map] at this; omega) fun D18 h18 xs18 n18 o18 d18 g18 r18 => ?_)⟩))))
    have p18 := o17.trans o18
    have kB18 := kB16.trans' p18.kp
    have F18 := Fm.o F16 p18
    refine ev_call (ev_glob B kB18 (.ref 304) rfl (ev_sub (ev_ld F18 (v := .ref Ud) rfl (ev_int fun _ => ev_tail_list (p18 _ _ nin0 gU) (by decide) (by decide) rfl ⟨.inK B kB18 rfl, Ev.call (law_good_C hnR hsR B kB18 (Rm.le (by decide)) (p18 _ _ nin0 gc0) (kg16.trans' p18.kp) z0 (by have := z0.len; rw [List.length_map] at this; omega) fun D19 h19 xs19 n19 o19 d19 g19 r19 => ?_)⟩))))
    have p19 := p18.trans o19
    have kB19 := kB16.trans' p19.kp
    have F19 := Fm.o F16 p19
    refine ev_call (ev_glob B kB19 (.ref 304) rfl (ev_sub (ev_ld F19 (v := .ref Ud) rfl (ev_int fun _ => ev_tail_list (p19 _ _ nin0 gU) (by decide) (by decide) rfl ⟨.inK B kB19 rfl, Ev.call (law_good_C hnR hsR B kB19 (Rm.le (by decide)) (p19 _ _ nin0 gc1) (kg16.trans' p19.kp) z1 (by have := z1.len; rw [List.length_map] at this; omega) fun D20 h20 xs20 n20 o20 d20 g20 r20 => ?_)⟩))))
    have p20 := p19.trans o20
    have kB20 := kB16.trans' p20.kp
    obtain ⟨b1, b2, b3, b4⟩ := good_bounds is
    have kBg : Kp Bh (hideAll h16 [L, 100]) := kp_hide kB16 (by
      intro a ha
      simp only [List.mem_cons, List.not_mem_nil, or_false] at ha
      rcases ha with rfl | rfl
      · exact none_of_kp kb gL
      · exact hBT)
    have toP : ∀ {ys : List Value} {l : List (Str × Str)}, SeqL PairR' (hideAll h16 [L, 100]) ys l → SeqL (PairR Bh) (hideAll h16 [L, 100]) ys (l.map cP) := fun r => All2.map_r cP (All2.imp (fun v p r => by
      obtain ⟨o, t, u, rfl, ip⟩ := r
      exact ⟨kBg, o, _, t, _, u, rfl, ip, rfl⟩) r)
    refine ⟨.inK B kB20 rfl, Ev.call (joined_C B kB20 (Rm.le (by decide)) (p20 _ _ nin0 (kh16 _ _ hT)) hBM hBT (((o18.trans o19).trans o20) _ _ nin0 g17) ((o19.trans o20) _ _ nin0 g18) (o20 _ _ nin0 g19) g20 (kg16.trans' p20.kp) (hideAll_none _ (.tail _ (.head _))) (toP r17) (toP r18) r19 r20 b1 b2 b3 (good_ok _ _) (good_ok _ _) b4 fun h21 o21 t21 => ?_)⟩
    exact p h21 (fun b o nb e => o21 _ _ nb (p20 _ _ nin0 (kh16 _ _ e))) t21
end Mine
open PySem PySem.W PyProof.Rows PySem.Calls
set_option maxRecDepth 100000
set_option maxHeartbeats 1000000
set_option linter.unusedVariables false
namespace Mine
theorem K100 (P : Params) : (K P).lookup 100 = none := by rfl
theorem K_two (P : Params) : (K P).lookup 2 = none := by rfl
theorem inK {P : Params} {h : Heap} (X : (K2 P).In h) : (K P).In h := fun a o e => X a o (by
  show ((2, o2 P) :: K P).lookup a = some o
  rw [List.lookup_cons]
  have : (a == 2) = false := by
    cases h2 : a == 2 with
    | false => rfl
    | true => rw [eq_of_beq h2, K_two] at e; cases e
  rw [this]; exact e)
theorem inK_hide {P : Params} {h : Heap} (X : (K2 P).In h) : (K P).In (hideAll h [100]) := fun a o e => hideAll_get _ (inK X a o e) fun q => by
  rw [List.mem_singleton.mp q, K100] at e; cases e
theorem st_of {P : Params} {h : Heap} (X : (K2 P).In h) : StOk h := ⟨_, ⟨o2 P, esOf (o2 P), _, X 2 _ rfl, rfl, allStr_keys rfl, fun _ => rfl⟩, by rfl, by rfl⟩
theorem ns_hide {h : Heap} {a : Addr} {m : Str → Option Value} (n : h.Ns a m) (q : a ≠ 100) : (hideAll h [100]).Ns a m := by
  obtain ⟨o, es, ep, ho, r⟩ := n
  exact ⟨o, es, ep, hideAll_get _ ho (nin1 q), r⟩
theorem fin_law {w : World} {s₁ : Shared} {p : Program} {loose : List Str} {mean : ExcName → Option Value} {mg mb : Str → Option Value} (T : Top p loose mean mg mb s₁.heap) (KX : (K2 w.params).In s₁.heap) (hT : s₁.heap.get? 100 = some (tabObj #[])) {fa : Addr} (hm : mg (Str.ofString "law") = some (.ref fa))
    {sc : Addr} {xs : List Value} {is : List Int} (hL : s₁.heap.IsList sc xs.toArray) (hI : IntsAre xs is) (hz : is.length ≤ 63) {R : Result → Shared → Prop}
    (hR : ∀ h' tk, Only [100] s₁.heap h' → (∃ ps, h'.get? 100 = some (tabObj ps)) → R (.ok (.ret (.bool true))) { s₁ with heap := h', toks := tk }) : codeC (model pw w) callerA (.call (.ref fa) ⟨[.ref sc], []⟩) R s₁ := by
  have B : Base w (hideAll s₁.heap [100]) := ⟨inK_hide KX, (let ⟨mc, a, b⟩ := st_of KX; ⟨mc, ns_hide a (by decide), b⟩), mb, ns_hide T.b (by decide), T.builtins⟩
  have e : mg = mgl w.params := (T.g.eq_nsMap).trans ((B.gl.keeps (fun _ _ q => of_hideAll _ q)).eq_nsMap).symm
  rw [e] at hm
  obtain rfl : (353 : Addr) = fa := by
    have z : mgl w.params (Str.ofString "law") = some (.ref 353) := rfl
    rw [z] at hm
    injection hm with hm
    injection hm
  have hBM : (hideAll s₁.heap [100]).BuiltinsAt (mgl w.params) 100 := by
    obtain ⟨bm, ob, b1, b2, b3, b4, b5, b6⟩ := T.bmain
    refine ⟨bm, ob, e ▸ b1, b2, fun q => ?_, fun q => ?_, hideAll_get _ b3 fun q => ?_, b4, b5, b6⟩
    · rw [q, show s₁.heap.get? mainGlobals = _ from inK KX 3 _ rfl] at b3
      obtain rfl := Option.some.inj b3
      cases b6
    · rw [q, hT] at b3
      obtain rfl := Option.some.inj b3
      cases b6
    · rw [List.mem_singleton.mp q, hT] at b3
      obtain rfl := Option.some.inj b3
      cases b6
  have hi : SeqL IR s₁.heap xs is := by
    clear hL hz
    induction hI with
    | nil => exact .nil
    | cons _ _ _ ih => exact .cons ⟨_, rfl⟩ ih
  refine law_C (h := s₁.heap) B (fun _ _ q => of_hideAll _ q) ⟨by decide, by decide, rfl⟩ rfl hT hBM (hideAll_none _ (.head _)) hL hi (by have := hi.len; omega) (P := fun v h' => v = .bool true ∧ Only [100] s₁.heap h' ∧ ∃ ps, h'.get? 100 = some (tabObj ps)) (fun h' o g => ⟨rfl, o, g⟩) _ s₁ rfl fun v h' tk q => ?_
  obtain ⟨rfl, o, g⟩ := q
  exact hR h' tk o g
end Mine
open PySem PySem.W PyProof.Rows
set_option maxRecDepth 100000
set_option maxHeartbeats 8000000
namespace Mine
theorem final : PySem.Challenge.rw_in0192_01.Holds := by
  w_on
  refine holds_law said0 fun said => ?_
  refine holds_c (q := q) (loose := loose) (Xt := fun s => xlAt q [] s && recOk [] s) (XP := XL q []) (Yf := (kmHook K2 Kas2 (fun _ => rfl) [100]).obs) (Ya := (kmHook K2 Kas2 (fun _ => rfl) [100]).val) (YP := (kmHook K2 Kas2 (fun _ => rfl) [100]).says) left (Hook.of _) (Hook.keeps _) (fun s e => xl_of s (Bool.and_eq_true_iff.mp e).1) XL.keeps (by rfl) (by rfl) (by rfl) (fun s e => recFacts_of (Bool.and_eq_true_iff.mp e).2) (by rfl) (by first | assumption | decide +kernel) (by decide +kernel) ⟨rfl, rfl, rfl, rfl, rfl, by decide +kernel⟩ ?hw ?hc
  case hw => w_witness2
  intro w s₀ s₁ mg mb G Y fa o pm cd doc dV kV ho hd hcd hD hmg hgens args vals as hpre hlay hrd hwl hlo
  have KX := km_in_of Y
  have hT := km_tabs_of Y
  have X := (Ground.X G).1
  have V := (Ground.X G).2
  refine Ground.open G ?_
  intro T B D TE TW
  have hm : mg (Str.ofString "law") = some (.ref fa) := hmg
  clear ho hd hcd hD hmg
  wrow_args hpre hlay hrd hwl hlo
  rename_i is _ _ _ _ _ _ _ sc xs as' hL ra w1 r0 hI hr hc1 hc2
  have t0 := hT 100 (.head _)
  refine fin_law T KX t0 hm hL hI (by omega) fun h' tk ho ⟨ps, hp⟩ => ?_
  refine ⟨.inl ⟨.bool true, .bool true, [], rfl, fun _ => rfl, ?_, ?_, fun _ => ⟨.nil, by simp⟩⟩, ⟨fun b o e => ?_, fun b o e => ?_⟩, rfl, .of_eq hgens⟩
  · exact .bool true
  · wrow_post
  · by_cases hb : b = 100
    · subst hb
      rw [t0] at e
      obtain rfl := Option.some.inj e
      exact .inr (.inl ⟨⟨104, _, _, inK KX 104 _ rfl, rfl, rfl, rfl⟩, rfl, #[], ps, rfl, by rw [Array.empty_append]; exact hp⟩)
    · exact .inl (ho _ _ (by simpa using hb) e)
  · by_cases hb : b = 100
    · exact ⟨_, hb ▸ hp⟩
    · exact ⟨o, ho _ _ (by simpa using hb) e⟩
end Mine
theorem PySem.Challenge.cw_in0192_01_holds : PySem.Challenge.rw_in0192_01.Holds := by
  exact Mine.final
