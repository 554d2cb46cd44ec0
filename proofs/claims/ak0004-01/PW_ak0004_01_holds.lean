import PyProof.Rows.All
import PyProof.FactsAll.list_1
import PyProof.FactsAll.list_2
import PyProof.FactsAll.list_3
import PyProof.FactsAll.list
import PyProof.FactsAll.dict_1
import PyProof.FactsAll.dict_2
import PyProof.FactsAll.dict
import PyProof.TupleIter
import PyProof.AutoSeq1
import PyProof.DelItemList
import PyProof.MeetsDictList
import PyProof.DictValues
import PyProof.NeKinds
import PyProof.StationsW
import PyProof.FactsAll.set_4
import PyProof.IsiPairs
import PyProof.ListCopy
import PyProof.WalkInts
import PyProof.Rows.TupAssign
import PyProof.Rows.Chain
import PyProof.Rows.StrKeys3
import PyProof.Rows.StrTemp
import PyProof.Rows.TupMore
import PyProof.SliceMore
import PyProof.RulesDelMore
import PyProof.Rows.SortShell
import PyProof.Rows.SortWalk
import PyProof.SetNew
import PyProof.Rows.SetFrom
import OpenK.KMore
import KE.KDictLaws
import KE.KPop
import KE.KListMore
import KE.KDictList
import OpenK.KOwn
import KE.KRevIter
import OpenK.KApp
import Wide.FinOn
import Wide.All
import PySem.Challenge.RW_ak0004_01
set_option Elab.async false
set_option maxRecDepth 100000
set_option linter.unusedVariables false
set_option linter.unusedSimpArgs false
open PySem PySem.Calls PyProof.Rows PySem.W
namespace Mine.KT
noncomputable abbrev n : Value := .none
noncomputable abbrev s (x : String) (t : Tok) : Value := .str (Str.ofString x) t
noncomputable abbrev r (a : Addr) : Value := .ref a
noncomputable abbrev t (x : String) : Value := .type x
noncomputable abbrev b (x : String) : Value := .builtin x
noncomputable abbrev d (P : Params) (x : String) (t : Tok) (v : Value) : DictEntry := ⟨PyData.keyHash P (Str.ofString x), .str (Str.ofString x) t, v⟩
/-- a statement of a block, by its place -/
noncomputable def nth : List Stmt → Nat → Stmt
  | [], _ => .Pass default
  | st :: _, 0 => st
  | _ :: l, i + 1 => nth l i
noncomputable def inner : Stmt → List Stmt
  | .ClassDef _ _ _ b _ _ _ _ _ _ _ => b
  | _ => []
noncomputable def g (i : Nat) : Stmt := nth PySem.Challenge.pw_ak0004_01.main.body i
noncomputable def m (i j : Nat) : Stmt := nth (inner (g i)) j
noncomputable def fp : Stmt → Arguments
  | .FunctionDef _ a _ _ _ _ _ _ _ _ => a
  | _ => default
noncomputable def fb : Stmt → List Stmt
  | .FunctionDef _ _ b _ _ _ _ _ _ _ => b
  | _ => []
noncomputable def fs : Stmt → Scope
  | .FunctionDef _ _ _ _ _ _ sc _ _ _ => sc
  | _ => default
noncomputable abbrev fn (name qual : String) (st : Stmt) (gl : Addr) (dV kV doc pm : Value) (an : Option Addr) (cdv ct : Value) (bi : Addr) : Data :=
  .func ⟨Str.ofString name, Str.ofString qual, fp st, .stmts (fb st), fs st, gl, [], dV, kV, doc, pm, an, cdv, ct, bi⟩
end Mine.KT
namespace Mine
open Mine.KT in
/-- the part of the heap that the contracts read -/
noncomputable def KH : Params → Frag := fun P =>
  (nat_lit 2, ⟨n, none, (.dict #[d P "type.__subclasses__.Exception.0" 221 (.int 39 0), d P "type.__subclasses__.Exception.n" 222 (.int 4 0), d P "type.__subclasses__.Exception.1" 241 (.int 52 0), d P "type.__subclasses__.Exception.2" 261 (.int 65 0), d P "type.__subclasses__.Exception.3" 281 (.int 78 0)] 5), #[]⟩) ::
  (nat_lit 3, ⟨(t "dict"), none, (.dict #[d P "__name__" 165 (s "law_ak0004_01" 911), d P "__doc__" 166 n, d P "__package__" 167 n, d P "__loader__" 168 (b "__main__.__loader__#opaque"), d P "__spec__" 169 n, d P "__annotations__" 170 (r 6), d P "__builtins__" 171 (r 4), d P "__file__" 173 (s "/claim/cut.py" 172), d P "__cached__" 174 n, d P "_wall" 193 (r 21), d P "InvalidCommand" 224 (r 39), d P "InvalidDodoFile" 244 (r 52), d P "HoldOn" 264 (r 65), d P "InvalidTask" 284 (r 78), d P "UptodateCalculator" 333 (r 112), d P "Task" 495 (r 223), d P "result_dep" 570 (r 280), d P "matches" 585 (r 289), d P "TaskControl" 728 (r 368), d P "ExecNode" 777 (r 396), d P "TaskDispatcher" 910 (r 474), d P "_law_needs" 918 (r 483), d P "_law_longest" 924 (r 488), d P "_law_took" 933 (r 495), d P "law" 939 (r 500)] 25), #[]⟩) ::
  (nat_lit 64, ⟨(t "dict"), none, (.dict #[d P "__module__" 252 (s "doit.exceptions" 194), d P "__firstlineno__" 256 (.int 11 255), d P "__static_attributes__" 257 (r 63), d P "__weakref__" 259 (r 66), d P "__doc__" 260 n] 3), #[]⟩) ::
  (nat_lit 65, ⟨(t "type"), none, (.cls { name := .ofString "HoldOn", bases := [(t "Exception")], mro := [(r 65), (t "Exception"), (t "BaseException"), (t "object")], ns := 64, qualname := .ofString "HoldOn", hasDict := true, slotNames := [], subclasses := [], abstract := false, collection := none, hasDel := false }), #[(some (r 56)), none, (some (s "HoldOn" 245)), (some (s "HoldOn" 253)), (some (b "Exception.__new__")), (some (.bool true))]⟩) ::
  (nat_lit 77, ⟨(t "dict"), none, (.dict #[d P "__module__" 272 (s "doit.exceptions" 194), d P "__firstlineno__" 276 (.int 13 275), d P "__static_attributes__" 277 (r 76), d P "__weakref__" 279 (r 79), d P "__doc__" 280 n] 3), #[]⟩) ::
  (nat_lit 78, ⟨(t "type"), none, (.cls { name := .ofString "InvalidTask", bases := [(t "Exception")], mro := [(r 78), (t "Exception"), (t "BaseException"), (t "object")], ns := 77, qualname := .ofString "InvalidTask", hasDict := true, slotNames := [], subclasses := [], abstract := false, collection := none, hasDel := false }), #[(some (r 69)), none, (some (s "InvalidTask" 265)), (some (s "InvalidTask" 273)), (some (b "Exception.__new__")), (some (.bool true))]⟩) ::
  (nat_lit 127, ⟨(t "tuple"), none, (.seq #[] 0), #[]⟩) ::
  (nat_lit 128, ⟨(t "tuple"), none, (.seq #[] 0), #[]⟩) ::
  (nat_lit 129, ⟨(t "tuple"), none, (.seq #[] 0), #[]⟩) ::
  (nat_lit 130, ⟨(t "tuple"), none, (.seq #[(r 124), (r 125), (r 126), (r 127), (r 128), (r 129), n, (.bool false), n] 0), #[]⟩) ::
  (nat_lit 136, ⟨(t "code"), none, (.fields #[(s "__init__" 348), (s "Task.__init__" 349), (s "/claim/cut.py" 350), (.int 31 0), (.int 12 0), (.int 0 0), (.int 0 0), (.int 3 0), (r 131), (.bool true), (.int 181 0), (r 132), n, (r 133), (r 134), (r 135), (.int 363 0), (.int 31 0), (s "/claim/cut.py" 364)]), #[]⟩) ::
  (nat_lit 137, ⟨(t "function"), none, (fn "__init__" "Task.__init__" (m 9 0) 3 (r 130) n n (s "doit.task" 334) none (r 136) n 0), #[]⟩) ::
  (nat_lit 143, ⟨(t "code"), none, (.fields #[(s "_init_deps" 366), (s "Task._init_deps" 367), (s "/claim/cut.py" 368), (.int 56 0), (.int 4 0), (.int 0 0), (.int 0 0), (.int 3 0), (r 138), (.bool true), (.int 181 0), (r 139), n, (r 140), (r 141), (r 142), (.int 373 0), (.int 56 0), (s "/claim/cut.py" 374)]), #[]⟩) ::
  (nat_lit 144, ⟨(t "function"), none, (fn "_init_deps" "Task._init_deps" (m 9 1) 3 n n n (s "doit.task" 334) none (r 143) n 0), #[]⟩) ::
  (nat_lit 150, ⟨(t "code"), none, (.fields #[(s "_init_targets" 376), (s "Task._init_targets" 377), (s "/claim/cut.py" 378), (.int 68 0), (.int 2 0), (.int 0 0), (.int 0 0), (.int 3 0), (r 145), (.bool true), (.int 181 0), (r 146), n, (r 147), (r 148), (r 149), (.int 383 0), (.int 68 0), (s "/claim/cut.py" 384)]), #[]⟩) ::
  (nat_lit 151, ⟨(t "function"), none, (fn "_init_targets" "Task._init_targets" (m 9 2) 3 n n n (s "doit.task" 334) none (r 150) n 0), #[]⟩) ::
  (nat_lit 157, ⟨(t "code"), none, (.fields #[(s "_init_uptodate" 386), (s "Task._init_uptodate" 387), (s "/claim/cut.py" 388), (.int 77 0), (.int 2 0), (.int 0 0), (.int 0 0), (.int 3 0), (r 152), (.bool true), (.int 181 0), (r 153), n, (r 154), (r 155), (r 156), (.int 393 0), (.int 77 0), (s "/claim/cut.py" 394)]), #[]⟩) ::
  (nat_lit 158, ⟨(t "function"), none, (fn "_init_uptodate" "Task._init_uptodate" (m 9 3) 3 n n n (s "doit.task" 334) none (r 157) n 0), #[]⟩) ::
  (nat_lit 164, ⟨(t "code"), none, (.fields #[(s "_expand_file_dep" 396), (s "Task._expand_file_dep" 397), (s "/claim/cut.py" 398), (.int 90 0), (.int 2 0), (.int 0 0), (.int 0 0), (.int 3 0), (r 159), (.bool true), (.int 181 0), (r 160), n, (r 161), (r 162), (r 163), (.int 402 0), (.int 90 0), (s "/claim/cut.py" 403)]), #[]⟩) ::
  (nat_lit 165, ⟨(t "function"), none, (fn "_expand_file_dep" "Task._expand_file_dep" (m 9 4) 3 n n n (s "doit.task" 334) none (r 164) n 0), #[]⟩) ::
  (nat_lit 171, ⟨(t "code"), none, (.fields #[(s "_expand_task_dep" 405), (s "Task._expand_task_dep" 406), (s "/claim/cut.py" 407), (.int 98 0), (.int 2 0), (.int 0 0), (.int 0 0), (.int 3 0), (r 166), (.bool true), (.int 181 0), (r 167), n, (r 168), (r 169), (r 170), (.int 411 0), (.int 98 0), (s "/claim/cut.py" 412)]), #[]⟩) ::
  (nat_lit 172, ⟨(t "function"), none, (fn "_expand_task_dep" "Task._expand_task_dep" (m 9 5) 3 n n n (s "doit.task" 334) none (r 171) n 0), #[]⟩) ::
  (nat_lit 222, ⟨(t "dict"), none, (.dict #[d P "__module__" 343 (s "doit.task" 334), d P "__firstlineno__" 347 (.int 29 346), d P "__init__" 365 (r 137), d P "_init_deps" 375 (r 144), d P "_init_targets" 385 (r 151), d P "_init_uptodate" 395 (r 158), d P "_expand_file_dep" 404 (r 165), d P "_expand_task_dep" 413 (r 172), d P "_expand_calc_dep" 422 (r 179), d P "_extend_uptodate" 430 (r 186), d P "update_deps" 440 (r 193), d P "init_options" 448 (r 201), d P "_init_getargs" 454 (r 206), d P "save_extra_values" 461 (r 213), d P "execute" 469 (r 220), d P "__static_attributes__" 488 (r 221), d P "__dict__" 490 (r 224), d P "__weakref__" 492 (r 225), d P "__doc__" 493 n] 4), #[]⟩) ::
  (nat_lit 223, ⟨(t "type"), none, (.cls { name := .ofString "Task", bases := [(t "object")], mro := [(r 223), (t "object")], ns := 222, qualname := .ofString "Task", hasDict := true, slotNames := [], subclasses := [], abstract := false, collection := none, hasDel := false }), #[none, none, (some (s "Task" 336)), (some (s "Task" 344)), (some (b "object.__new__")), (some (.bool true))]⟩) ::
  (nat_lit 279, ⟨(t "dict"), none, (.dict #[d P "__module__" 503 (s "doit.task" 334), d P "__firstlineno__" 507 (.int 144 506), d P "__init__" 516 (r 242), d P "configure_task" 524 (r 249), d P "_result_single" 531 (r 256), d P "_result_group" 542 (r 263), d P "_get_dep_result" 551 (r 270), d P "tell" 563 (r 277), d P "__static_attributes__" 567 (r 278), d P "__doc__" 568 n] 2), #[]⟩) ::
  (nat_lit 280, ⟨(t "type"), none, (.cls { name := .ofString "result_dep", bases := [(r 112)], mro := [(r 280), (r 112), (t "object")], ns := 279, qualname := .ofString "result_dep", hasDict := true, slotNames := [], subclasses := [], abstract := false, collection := none, hasDel := false }), #[(some (r 228)), none, (some (s "result_dep" 496)), (some (s "result_dep" 504)), (some (b "object.__new__")), (some (.bool true))]⟩) ::
  (nat_lit 302, ⟨(t "code"), none, (.fields #[(s "__init__" 600), (s "TaskControl.__init__" 601), (s "/claim/cut.py" 602), (.int 201 0), (.int 2 0), (.int 0 0), (.int 0 0), (.int 3 0), (r 297), (.bool true), (.int 181 0), (r 298), n, (r 299), (r 300), (r 301), (.int 608 0), (.int 201 0), (s "/claim/cut.py" 609)]), #[]⟩) ::
  (nat_lit 303, ⟨(t "function"), none, (fn "__init__" "TaskControl.__init__" (m 14 0) 3 n n n (s "doit.control" 586) none (r 302) n 0), #[]⟩) ::
  (nat_lit 309, ⟨(t "code"), none, (.fields #[(s "_check_dep_names" 611), (s "TaskControl._check_dep_names" 612), (s "/claim/cut.py" 613), (.int 221 0), (.int 1 0), (.int 0 0), (.int 0 0), (.int 3 0), (r 304), (.bool true), (.int 181 0), (r 305), n, (r 306), (r 307), (r 308), (.int 619 0), (.int 221 0), (s "/claim/cut.py" 620)]), #[]⟩) ::
  (nat_lit 310, ⟨(t "function"), none, (fn "_check_dep_names" "TaskControl._check_dep_names" (m 14 1) 3 n n n (s "doit.control" 586) none (r 309) n 0), #[]⟩) ::
  (nat_lit 316, ⟨(t "code"), none, (.fields #[(s "set_implicit_deps" 622), (s "TaskControl.set_implicit_deps" 623), (s "/claim/cut.py" 624), (.int 232 0), (.int 2 0), (.int 0 0), (.int 0 0), (.int 3 0), (r 311), (.bool true), (.int 181 0), (r 312), n, (r 313), (r 314), (r 315), (.int 630 0), (.int 232 0), (s "/claim/cut.py" 631)]), #[]⟩) ::
  (nat_lit 317, ⟨(t "function"), none, (fn "set_implicit_deps" "TaskControl.set_implicit_deps" (m 14 2) 3 n n n (s "doit.control" 586) (some 320) (r 316) n 0), #[]⟩) ::
  (nat_lit 319, ⟨(t "staticmethod"), (some 318), (.fields #[(r 317), (.bool false)]), #[]⟩) ::
  (nat_lit 326, ⟨(t "code"), none, (.fields #[(s "add_implicit_task_dep" 645), (s "TaskControl.add_implicit_task_dep" 646), (s "/claim/cut.py" 647), (.int 243 0), (.int 3 0), (.int 0 0), (.int 0 0), (.int 3 0), (r 321), (.bool true), (.int 181 0), (r 322), n, (r 323), (r 324), (r 325), (.int 652 0), (.int 243 0), (s "/claim/cut.py" 653)]), #[]⟩) ::
  (nat_lit 327, ⟨(t "function"), none, (fn "add_implicit_task_dep" "TaskControl.add_implicit_task_dep" (m 14 3) 3 n n n (s "doit.control" 586) (some 330) (r 326) n 0), #[]⟩) ::
  (nat_lit 329, ⟨(t "staticmethod"), (some 328), (.fields #[(r 327), (.bool false)]), #[]⟩) ::
  (nat_lit 357, ⟨(t "code"), none, (.fields #[(s "process" 702), (s "TaskControl.process" 703), (s "/claim/cut.py" 704), (.int 288 0), (.int 2 0), (.int 0 0), (.int 0 0), (.int 3 0), (r 352), (.bool true), (.int 181 0), (r 353), n, (r 354), (r 355), (r 356), (.int 707 0), (.int 288 0), (s "/claim/cut.py" 708)]), #[]⟩) ::
  (nat_lit 358, ⟨(t "function"), none, (fn "process" "TaskControl.process" (m 14 7) 3 n n n (s "doit.control" 586) none (r 357) n 0), #[]⟩) ::
  (nat_lit 364, ⟨(t "code"), none, (.fields #[(s "task_dispatcher" 710), (s "TaskControl.task_dispatcher" 711), (s "/claim/cut.py" 712), (.int 294 0), (.int 1 0), (.int 0 0), (.int 0 0), (.int 3 0), (r 359), (.bool true), (.int 181 0), (r 360), n, (r 361), (r 362), (r 363), (.int 714 0), (.int 294 0), (s "/claim/cut.py" 715)]), #[]⟩) ::
  (nat_lit 365, ⟨(t "function"), none, (fn "task_dispatcher" "TaskControl.task_dispatcher" (m 14 8) 3 n n n (s "doit.control" 586) none (r 364) n 0), #[]⟩) ::
  (nat_lit 367, ⟨(t "dict"), none, (.dict #[d P "__module__" 595 (s "doit.control" 586), d P "__firstlineno__" 599 (.int 199 598), d P "__init__" 610 (r 303), d P "_check_dep_names" 621 (r 310), d P "set_implicit_deps" 644 (r 319), d P "add_implicit_task_dep" 666 (r 329), d P "_get_wild_tasks" 676 (r 337), d P "_process_filter" 690 (r 344), d P "_filter_tasks" 701 (r 351), d P "process" 709 (r 358), d P "task_dispatcher" 716 (r 365), d P "__static_attributes__" 721 (r 366), d P "__dict__" 723 (r 369), d P "__weakref__" 725 (r 370), d P "__doc__" 726 n] 4), #[]⟩) ::
  (nat_lit 368, ⟨(t "type"), none, (.cls { name := .ofString "TaskControl", bases := [(t "object")], mro := [(r 368), (t "object")], ns := 367, qualname := .ofString "TaskControl", hasDict := true, slotNames := [], subclasses := [], abstract := false, collection := none, hasDel := false }), #[none, none, (some (s "TaskControl" 588)), (some (s "TaskControl" 596)), (some (b "object.__new__")), (some (.bool true))]⟩) ::
  (nat_lit 385, ⟨(t "code"), none, (.fields #[(s "__init__" 741), (s "ExecNode.__init__" 742), (s "/claim/cut.py" 743), (.int 299 0), (.int 3 0), (.int 0 0), (.int 0 0), (.int 3 0), (r 380), (.bool true), (.int 181 0), (r 381), n, (r 382), (r 383), (r 384), (.int 747 0), (.int 299 0), (s "/claim/cut.py" 748)]), #[]⟩) ::
  (nat_lit 386, ⟨(t "function"), none, (fn "__init__" "ExecNode.__init__" (m 15 0) 3 n n n (s "doit.control" 586) none (r 385) n 0), #[]⟩) ::
  (nat_lit 392, ⟨(t "code"), none, (.fields #[(s "parent_status" 750), (s "ExecNode.parent_status" 751), (s "/claim/cut.py" 752), (.int 316 0), (.int 2 0), (.int 0 0), (.int 0 0), (.int 3 0), (r 387), (.bool true), (.int 181 0), (r 388), n, (r 389), (r 390), (r 391), (.int 755 0), (.int 316 0), (s "/claim/cut.py" 756)]), #[]⟩) ::
  (nat_lit 393, ⟨(t "function"), none, (fn "parent_status" "ExecNode.parent_status" (m 15 1) 3 n n n (s "doit.control" 586) none (r 392) n 0), #[]⟩) ::
  (nat_lit 395, ⟨(t "dict"), none, (.dict #[d P "__module__" 736 (s "doit.control" 586), d P "__firstlineno__" 740 (.int 297 739), d P "__init__" 749 (r 386), d P "parent_status" 757 (r 393), d P "__static_attributes__" 770 (r 394), d P "__dict__" 772 (r 397), d P "__weakref__" 774 (r 398), d P "__doc__" 775 n] 4), #[]⟩) ::
  (nat_lit 396, ⟨(t "type"), none, (.cls { name := .ofString "ExecNode", bases := [(t "object")], mro := [(r 396), (t "object")], ns := 395, qualname := .ofString "ExecNode", hasDict := true, slotNames := [], subclasses := [], abstract := false, collection := none, hasDel := false }), #[none, none, (some (s "ExecNode" 729)), (some (s "ExecNode" 737)), (some (b "object.__new__")), (some (.bool true))]⟩) ::
  (nat_lit 413, ⟨(t "code"), none, (.fields #[(s "__init__" 790), (s "TaskDispatcher.__init__" 791), (s "/claim/cut.py" 792), (.int 323 0), (.int 4 0), (.int 0 0), (.int 0 0), (.int 3 0), (r 408), (.bool true), (.int 181 0), (r 409), n, (r 410), (r 411), (r 412), (.int 797 0), (.int 323 0), (s "/claim/cut.py" 798)]), #[]⟩) ::
  (nat_lit 414, ⟨(t "function"), none, (fn "__init__" "TaskDispatcher.__init__" (m 16 0) 3 n n n (s "doit.control" 586) none (r 413) n 0), #[]⟩) ::
  (nat_lit 420, ⟨(t "code"), none, (.fields #[(s "_gen_node" 800), (s "TaskDispatcher._gen_node" 801), (s "/claim/cut.py" 802), (.int 333 0), (.int 3 0), (.int 0 0), (.int 0 0), (.int 3 0), (r 415), (.bool true), (.int 181 0), (r 416), n, (r 417), (r 418), (r 419), (.int 809 0), (.int 333 0), (s "/claim/cut.py" 810)]), #[]⟩) ::
  (nat_lit 421, ⟨(t "function"), none, (fn "_gen_node" "TaskDispatcher._gen_node" (m 16 1) 3 n n n (s "doit.control" 586) none (r 420) n 0), #[]⟩) ::
  (nat_lit 427, ⟨(t "code"), none, (.fields #[(s "_add_ready" 812), (s "TaskDispatcher._add_ready" 813), (s "/claim/cut.py" 814), (.int 345 0), (.int 3 0), (.int 0 0), (.int 0 0), (.int 3 0), (r 422), (.bool true), (.int 181 0), (r 423), n, (r 424), (r 425), (r 426), (.int 819 0), (.int 345 0), (s "/claim/cut.py" 820)]), #[]⟩) ::
  (nat_lit 428, ⟨(t "function"), none, (fn "_add_ready" "TaskDispatcher._add_ready" (m 16 2) 3 n n n (s "doit.control" 586) none (r 427) n 0), #[]⟩) ::
  (nat_lit 429, ⟨(t "tuple"), none, (.seq #[(.bool false)] 0), #[]⟩) ::
  (nat_lit 435, ⟨(t "code"), none, (.fields #[(s "_node_add_wait_run" 822), (s "TaskDispatcher._node_add_wait_run" 823), (s "/claim/cut.py" 824), (.int 350 0), (.int 4 0), (.int 0 0), (.int 0 0), (.int 3 0), (r 430), (.bool true), (.int 181 0), (r 431), n, (r 432), (r 433), (r 434), (.int 832 0), (.int 350 0), (s "/claim/cut.py" 833)]), #[]⟩) ::
  (nat_lit 436, ⟨(t "function"), none, (fn "_node_add_wait_run" "TaskDispatcher._node_add_wait_run" (m 16 3) 3 (r 429) n n (s "doit.control" 586) none (r 435) n 0), #[]⟩) ::
  (nat_lit 442, ⟨(t "code"), none, (.fields #[(s "_add_task" 835), (s "TaskDispatcher._add_task" 836), (s "/claim/cut.py" 837), (.int 368 0), (.int 2 0), (.int 0 0), (.int 0 0), (.int 3 0), (r 437), (.bool true), (.int 181 0), (r 438), n, (r 439), (r 440), (r 441), (.int 846 0), (.int 368 0), (s "/claim/cut.py" 847)]), #[]⟩) ::
  (nat_lit 443, ⟨(t "function"), none, (fn "_add_task" "TaskDispatcher._add_task" (m 16 4) 3 n n n (s "doit.control" 586) none (r 442) n 0), #[]⟩) ::
  (nat_lit 449, ⟨(t "code"), none, (.fields #[(s "_get_next_node" 849), (s "TaskDispatcher._get_next_node" 850), (s "/claim/cut.py" 851), (.int 406 0), (.int 3 0), (.int 0 0), (.int 0 0), (.int 3 0), (r 444), (.bool true), (.int 181 0), (r 445), n, (r 446), (r 447), (r 448), (.int 857 0), (.int 406 0), (s "/claim/cut.py" 858)]), #[]⟩) ::
  (nat_lit 450, ⟨(t "function"), none, (fn "_get_next_node" "TaskDispatcher._get_next_node" (m 16 5) 3 n n n (s "doit.control" 586) none (r 449) n 0), #[]⟩) ::
  (nat_lit 456, ⟨(t "code"), none, (.fields #[(s "_update_waiting" 860), (s "TaskDispatcher._update_waiting" 861), (s "/claim/cut.py" 862), (.int 416 0), (.int 2 0), (.int 0 0), (.int 0 0), (.int 3 0), (r 451), (.bool true), (.int 181 0), (r 452), n, (r 453), (r 454), (r 455), (.int 869 0), (.int 416 0), (s "/claim/cut.py" 870)]), #[]⟩) ::
  (nat_lit 457, ⟨(t "function"), none, (fn "_update_waiting" "TaskDispatcher._update_waiting" (m 16 6) 3 n n n (s "doit.control" 586) none (r 456) n 0), #[]⟩) ::
  (nat_lit 470, ⟨(t "code"), none, (.fields #[(s "send" 886), (s "TaskDispatcher.send" 887), (s "/claim/cut.py" 888), (.int 453 0), (.int 2 0), (.int 0 0), (.int 0 0), (.int 3 0), (r 465), (.bool true), (.int 181 0), (r 466), n, (r 467), (r 468), (r 469), (.int 892 0), (.int 453 0), (s "/claim/cut.py" 893)]), #[]⟩) ::
  (nat_lit 471, ⟨(t "function"), none, (fn "send" "TaskDispatcher.send" (m 16 8) 3 n n n (s "doit.control" 586) none (r 470) n 0), #[]⟩) ::
  (nat_lit 473, ⟨(t "dict"), none, (.dict #[d P "__module__" 785 (s "doit.control" 586), d P "__firstlineno__" 789 (.int 321 788), d P "__init__" 799 (r 414), d P "_gen_node" 811 (r 421), d P "_add_ready" 821 (r 428), d P "_node_add_wait_run" 834 (r 436), d P "_add_task" 848 (r 443), d P "_get_next_node" 859 (r 450), d P "_update_waiting" 871 (r 457), d P "_process_calc_dep_results" 885 (r 464), d P "send" 894 (r 471), d P "__static_attributes__" 903 (r 472), d P "__dict__" 905 (r 475), d P "__weakref__" 907 (r 476), d P "__doc__" 908 n] 4), #[]⟩) ::
  (nat_lit 474, ⟨(t "type"), none, (.cls { name := .ofString "TaskDispatcher", bases := [(t "object")], mro := [(r 474), (t "object")], ns := 473, qualname := .ofString "TaskDispatcher", hasDict := true, slotNames := [], subclasses := [], abstract := false, collection := none, hasDel := false }), #[none, none, (some (s "TaskDispatcher" 778)), (some (s "TaskDispatcher" 786)), (some (b "object.__new__")), (some (.bool true))]⟩) ::
  (nat_lit 482, ⟨(t "code"), none, (.fields #[(s "_law_needs" 913), (s "_law_needs" 914), (s "/claim/cut.py" 915), (.int 472 0), (.int 4 0), (.int 0 0), (.int 0 0), (.int 3 0), (r 479), (.bool true), (.int 181 0), (r 480), n, n, n, (r 481), (.int 916 0), (.int 472 0), (s "/claim/cut.py" 917)]), #[]⟩) ::
  (nat_lit 483, ⟨(t "function"), none, (fn "_law_needs" "_law_needs" (g 18) 3 n n n (s "law_ak0004_01" 911) none (r 482) n 0), #[]⟩) ::
  (nat_lit 487, ⟨(t "code"), none, (.fields #[(s "_law_longest" 919), (s "_law_longest" 920), (s "/claim/cut.py" 921), (.int 482 0), (.int 2 0), (.int 0 0), (.int 0 0), (.int 3 0), (r 484), (.bool true), (.int 181 0), (r 485), n, n, n, (r 486), (.int 922 0), (.int 482 0), (s "/claim/cut.py" 923)]), #[]⟩) ::
  (nat_lit 488, ⟨(t "function"), none, (fn "_law_longest" "_law_longest" (g 19) 3 n n n (s "law_ak0004_01" 911) none (r 487) n 0), #[]⟩) ::
  (nat_lit 494, ⟨(t "code"), none, (.fields #[(s "_law_took" 925), (s "_law_took" 926), (s "/claim/cut.py" 927), (.int 487 0), (.int 2 0), (.int 0 0), (.int 0 0), (.int 3 0), (r 489), (.bool true), (.int 181 0), (r 490), n, (r 491), (r 492), (r 493), (.int 931 0), (.int 487 0), (s "/claim/cut.py" 932)]), #[]⟩) ::
  (nat_lit 495, ⟨(t "function"), none, (fn "_law_took" "_law_took" (g 20) 3 n n n (s "law_ak0004_01" 911) none (r 494) n 0), #[]⟩) ::
  (nat_lit 499, ⟨(t "code"), none, (.fields #[(s "law" 934), (s "law" 935), (s "/claim/cut.py" 936), (.int 493 0), (.int 1 0), (.int 0 0), (.int 0 0), (.int 3 0), (r 496), (.bool true), (.int 181 0), (r 497), n, n, n, (r 498), (.int 937 0), (.int 493 0), (s "/claim/cut.py" 938)]), #[]⟩) ::
  (nat_lit 500, ⟨(t "function"), none, (fn "law" "law" (g 21) 3 n n n (s "law_ak0004_01" 911) none (r 499) n 0), #[]⟩) :: []
end Mine
-- M1
namespace Mine.Au
/-! the small proofs that rules ask for, by name -/
def tp (s : String) : Lean.Name := .str (.str (.str (.str .anonymous "Lean") "Parser") "Tactic") s
def n (k : Lean.Name) (l : Array Lean.Syntax) : Lean.Syntax := .node .none k l
def k (s : String) : Lean.Syntax := .atom .none s
def d (s : String) (v : Lean.Name) : Lean.Syntax := .ident .none s.toSubstring v []
def nul (l : Array Lean.Syntax) : Lean.Syntax := n `null l
def sq (l : Array Lean.Syntax) : Lean.Syntax := n (tp "tacticSeq") #[n (tp "tacticSeq1Indented") #[nul l]]
def ex (f a : Lean.Syntax) : Lean.Syntax := n (tp "exact") #[k "exact", n `Lean.Parser.Term.app #[f, nul #[a]]]
def rf : Lean.Syntax := n (tp "tacticRfl") #[k "rfl"]
def wu (t : Lean.Syntax) : Lean.Syntax := n (tp "withUnfoldingAll") #[k "with_unfolding_all", sq #[t]]
def er : Lean.Syntax := d "Eq.refl" `Eq.refl
def tt : Lean.Syntax := d "true" `true
def seq (s : String) (t : Lean.Syntax) : Lean.Syntax := sq #[n (tp s) #[k s, nul #[]], k ";", t]
/-- rfl -/
def a0 : Lean.Syntax := sq #[rf]
/-- decide -/
def a1 : Lean.Syntax := sq #[n (tp "decide") #[k "decide", n (tp "optConfig") #[nul #[]]]]
/-- with_unfolding_all exact Eq.refl true -/
def a2 : Lean.Syntax := sq #[wu (ex er tt)]
/-- with_unfolding_all rfl -/
def a3 : Lean.Syntax := sq #[wu rf]
/-- intros; with_unfolding_all rfl -/
def a4 : Lean.Syntax := seq "intros" (wu rf)
/-- intro; with_unfolding_all rfl -/
def a5 : Lean.Syntax := seq "intro" (wu rf)
/-- with_unfolding_all exact Eq.refl false -/
def a6 : Lean.Syntax := sq #[wu (ex er (d "false" `false))]
/-- intros; rfl -/
def a7 : Lean.Syntax := seq "intros" rf
/-- intro; rfl -/
def a8 : Lean.Syntax := seq "intro" rf
/-- simp -/
def a9 : Lean.Syntax := sq #[n (tp "simp") #[k "simp", n (tp "optConfig") #[nul #[]], nul #[], nul #[], nul #[], nul #[]]]
/-- exact Eq.refl true -/
def a10 : Lean.Syntax := sq #[ex er tt]
/-- exact nz rfl -/
def a11 : Lean.Syntax := sq #[ex (d "nz" `nz) (d "rfl" `rfl)]
/-- exact nef rfl -/
def a12 : Lean.Syntax := sq #[ex (d "nef" `nef) (d "rfl" `rfl)]
/-- k_is -/
def a13 : Lean.Syntax := sq #[n `PySem.W.tacticK_is #[k "k_is"]]
end Mine.Au
namespace Mine

/-! locations, abstract values, specs -/
noncomputable abbrev Loc := Nat × Nat
noncomputable def tmp (i : Nat) : Loc := (0, i)

inductive PV where
  | none
  | bool (b : Bool)
  | int (i : Int)
  | str (s : Str)
  | loc (l : Loc)
  | raw (v : Value)

inductive Spec where
  | inst (C : Addr) (d : Loc)
  | ns (m : Str → Option PV)
  | list (vs : List PV)
  | tup (vs : List PV)
  | dict (kvs : List (Str × PV))
  | set (S : List Str)
  | cell (v : Option PV)
  | view (d : Loc)
  | attrs (ks : List Str) (m : Str → Option PV)
  | fdict (kvs : List (Str × PV)) (ep : Nat)
  | rng (n : Nat)

noncomputable def Spec.kind : Spec → Nat
  | .inst .. => 0
  | .ns .. => 1
  | .list .. => 2
  | .tup .. => 3
  | .dict .. => 4
  | .set .. => 5
  | .cell .. => 6
  | .view .. => 7
  | .attrs .. => 8
  | .fdict .. => 4
  | .rng .. => 10

noncomputable abbrev Hp := Loc → Option Spec
noncomputable def upd (H : Hp) (l : Loc) (sp : Spec) : Hp := fun x => if x = l then some sp else H x
theorem upd_self (H : Hp) (l : Loc) (sp : Spec) : upd H l sp l = some sp := if_pos rfl
theorem upd_ne (H : Hp) {l x : Loc} (sp : Spec) (h : x ≠ l) : upd H l sp x = H x := if_neg h
/-- a stop: what stands behind it is not put in place -/
theorem bar {P : Prop} (h : P) : P := h
theorem len_succ {α : Type} {n : Nat} {l : List α} (h : l.length = n + 1) : ∃ a r, l = a :: r ∧ r.length = n := by
  cases l with
  | nil => cases h
  | cons a r => exact ⟨a, r, rfl, Nat.succ.inj h⟩
theorem nz {a : Nat} (h : Nat.beq a 0 = false) : a ≠ 0 := Nat.ne_of_beq_eq_false h
theorem nef {a b j k : Nat} (h : Nat.beq a b = false) : ((a, j) : Loc) ≠ (b, k) := fun e => Nat.ne_of_beq_eq_false h (congrArg Prod.fst e)

structure Cf where
  fz : Addr → Option Obj
  fa : List Loc
  ι : Loc → Addr
  U : Loc → Prop

structure Cf.Ext (c c' : Cf) : Prop where
  fz : c'.fz = c.fz
  fa : c'.fa = c.fa
  on : ∀ l, c.U l → c'.U l ∧ c'.ι l = c.ι l
theorem Cf.Ext.refl (c : Cf) : c.Ext c := ⟨rfl, rfl, fun _ h => ⟨h, rfl⟩⟩
theorem Cf.Ext.trans {a b c : Cf} (x : a.Ext b) (y : b.Ext c) : a.Ext c :=
  ⟨y.fz.trans x.fz, y.fa.trans x.fa, fun l h => ⟨(y.on l (x.on l h).1).1, (y.on l (x.on l h).1).2.trans (x.on l h).2⟩⟩

noncomputable def Cf.Sub (c c' : Cf) : Prop := ∀ l, c.U l → c'.U l ∧ c'.ι l = c.ι l

noncomputable def Den (c : Cf) : PV → Value → Prop
  | .none, v => v = .none
  | .bool b, v => v = .bool b
  | .int i, v => ∃ t, v = .int i t
  | .str x, v => ∃ t, v = .str x t
  | .loc l, v => v = .ref (c.ι l) ∧ c.U l
  | .raw u, v => v = u
theorem Den.sub {c c' : Cf} (x : c.Sub c') {p : PV} {v : Value} (h : Den c p v) : Den c' p v := by
  cases p <;> first | exact h | skip
  obtain ⟨h1, h2⟩ := h
  exact ⟨by rw [(x _ h2).2]; exact h1, (x _ h2).1⟩
theorem Den.ext {c c' : Cf} (x : c.Ext c') {p : PV} {v : Value} (h : Den c p v) : Den c' p v := h.sub x.on

noncomputable def DenO (c : Cf) : Option PV → Option Value → Prop
  | .none, .none => True
  | .some p, .some v => Den c p v
  | _, _ => False
theorem DenO.sub {c c' : Cf} (x : c.Sub c') {p : Option PV} {v : Option Value} (h : DenO c p v) : DenO c' p v := by
  cases p <;> cases v <;> first | exact h | exact Den.sub x h
theorem DenO.ext {c c' : Cf} (x : c.Ext c') {p : Option PV} {v : Option Value} (h : DenO c p v) : DenO c' p v := h.sub x.on
theorem DenO.some_inv {c : Cf} {p : PV} {v : Option Value} (h : DenO c (some p) v) : ∃ u, v = some u ∧ Den c p u := by
  cases v with
  | none => exact h.elim
  | some u => exact ⟨u, rfl, h⟩
theorem DenO.none_inv {c : Cf} {v : Option Value} (h : DenO c none v) : v = none := by
  cases v with
  | none => rfl
  | some u => exact h.elim

inductive DenL (c : Cf) : List PV → List Value → Prop
  | nil : DenL c [] []
  | cons {p v ps vs} : Den c p v → DenL c ps vs → DenL c (p :: ps) (v :: vs)
theorem DenL.sub {c c' : Cf} (x : c.Sub c') {ps : List PV} {vs : List Value} (h : DenL c ps vs) : DenL c' ps vs := by
  induction h with
  | nil => exact .nil
  | cons a _ ih => exact .cons (a.sub x) ih
theorem DenL.ext {c c' : Cf} (x : c.Ext c') {ps : List PV} {vs : List Value} (h : DenL c ps vs) : DenL c' ps vs := h.sub x.on
theorem DenL.length {c : Cf} {ps : List PV} {vs : List Value} (h : DenL c ps vs) : ps.length = vs.length := by
  induction h with
  | nil => rfl
  | cons a _ ih => simp [ih]
theorem DenL.append {c : Cf} {ps qs : List PV} {vs us : List Value} (h : DenL c ps vs) (g : DenL c qs us) : DenL c (ps ++ qs) (vs ++ us) := by
  induction h with
  | nil => exact g
  | cons a _ ih => exact .cons a ih
theorem DenL.get {c : Cf} {ps : List PV} {vs : List Value} (h : DenL c ps vs) {i : Nat} {p : PV} (e : ps[i]? = some p) : ∃ v, vs[i]? = some v ∧ Den c p v := by
  induction h generalizing i with
  | nil => simp at e
  | cons a _ ih =>
    cases i with
    | zero => simp at e; subst e; exact ⟨_, rfl, a⟩
    | succ i => simpa using ih (by simpa using e)
theorem DenL.take {c : Cf} {ps : List PV} {vs : List Value} (h : DenL c ps vs) (n : Nat) : DenL c (ps.take n) (vs.take n) := by
  induction h generalizing n with
  | nil => simp; exact .nil
  | cons a _ ih =>
    cases n with
    | zero => exact .nil
    | succ n => exact .cons a (ih n)
theorem DenL.drop {c : Cf} {ps : List PV} {vs : List Value} (h : DenL c ps vs) (n : Nat) : DenL c (ps.drop n) (vs.drop n) := by
  induction h generalizing n with
  | nil => simp; exact .nil
  | cons a r ih =>
    cases n with
    | zero => exact .cons a r
    | succ n => exact ih n
theorem DenL.reverse {c : Cf} {ps : List PV} {vs : List Value} (h : DenL c ps vs) : DenL c ps.reverse vs.reverse := by
  induction h with
  | nil => exact .nil
  | cons a _ ih => simp only [List.reverse_cons]; exact ih.append (.cons a .nil)

inductive DenP (c : Cf) : List (Str × PV) → List (Str × Value) → Prop
  | nil : DenP c [] []
  | cons {k p v ps vs} : Den c p v → DenP c ps vs → DenP c ((k, p) :: ps) ((k, v) :: vs)
theorem DenP.sub {c c' : Cf} (x : c.Sub c') {ps : List (Str × PV)} {vs : List (Str × Value)} (h : DenP c ps vs) : DenP c' ps vs := by
  induction h with
  | nil => exact .nil
  | cons a _ ih => exact .cons (a.sub x) ih
theorem DenP.length {c : Cf} {ps : List (Str × PV)} {vs : List (Str × Value)} (h : DenP c ps vs) : ps.length = vs.length := by
  induction h with
  | nil => rfl
  | cons a _ ih => simp [ih]

structure Ctx where
  prog : Program
  w : World
  K : Frag
  hb : Heap
  os : OsState
  p : Program
  loose : List Str
  mg : Str → Option Value
  mb : Str → Option Value
structure Ctx.Ok (C : Ctx) : Prop where
  k : C.K.In C.hb
  top : TopRead C.p C.loose C.mg C.mb C.hb
noncomputable abbrev Ctx.M (C : Ctx) : Model := model C.prog C.w
noncomputable abbrev Ctx.sk (C : Ctx) : KeyKind C.prog C.w Str := strKind C.prog C.w

noncomputable def Sat (C : Ctx) (c : Cf) (h : Heap) (a : Addr) : Spec → Prop
  | .inst cl d => h.get? a = some (instObj cl (c.ι d)) ∧ c.U d
  | .ns m => ∃ m', h.Ns a m' ∧ ∀ x, DenO c (m x) (m' x)
  | .list vs => ∃ items n, IsL h a items n ∧ DenL c vs items.toList
  | .tup vs => ∃ items n, h.get? a = some { cls := .type "tuple", data := .seq items n } ∧ DenL c vs items.toList
  | .dict kvs => ∃ kvs', h.DictOf C.sk a kvs' ∧ DenP c kvs kvs'
  | .set S => h.SetOf C.sk a (fun k => decide (k ∈ S)) S.length ∧ S.Nodup
  | .cell v => ∃ v', h.IsCell a v' ∧ DenO c v v'
  | .view d => h.IsValuesView a (c.ι d) ∧ c.U d
  | .attrs ks m => ∃ m', h.Ns1 a m' ∧ (∀ x, DenO c (m x) (m' x)) ∧ (∀ x, m x ≠ none → x ∈ ks) ∧ ks.length ≤ 1000
  | .fdict kvs ep => ∃ kvs', h.DictAt C.sk a kvs' ep ∧ DenP c kvs kvs'
  | .rng n => ∃ t u v, IsRange h a 0 n 1 t u v
theorem Sat.get {C : Ctx} {c : Cf} {h h' : Heap} {a : Addr} {sp : Spec} (x : Sat C c h a sp) (e : h'.get? a = h.get? a) : Sat C c h' a sp := by
  cases sp with
  | inst cl d => exact ⟨e.trans x.1, x.2⟩
  | ns m => obtain ⟨m', ⟨o, es, ep, ho, r⟩, y⟩ := x; exact ⟨m', ⟨o, es, ep, e.trans ho, r⟩, y⟩
  | list vs => obtain ⟨i, n, y, z⟩ := x; exact ⟨i, n, e.trans y, z⟩
  | tup vs => obtain ⟨i, n, y, z⟩ := x; exact ⟨i, n, e.trans y, z⟩
  | dict kvs => obtain ⟨k, ⟨o, es, ep, ho, r⟩, z⟩ := x; exact ⟨k, ⟨o, es, ep, e.trans ho, r⟩, z⟩
  | set S => obtain ⟨⟨o, es, ep, t, ho, r⟩, nd⟩ := x; exact ⟨⟨o, es, ep, t, e.trans ho, r⟩, nd⟩
  | cell v => obtain ⟨v', ⟨o, y, y'⟩, z⟩ := x; exact ⟨v', ⟨o, e.trans y, y'⟩, z⟩
  | view d => obtain ⟨⟨o, y, z⟩, u⟩ := x; exact ⟨⟨o, e.trans y, z⟩, u⟩
  | attrs ks m => obtain ⟨m', ⟨o, es, ep, ho, r⟩, y⟩ := x; exact ⟨m', ⟨o, es, ep, e.trans ho, r⟩, y⟩
  | fdict kvs ep => obtain ⟨k, ⟨o, es, ho, r⟩, z⟩ := x; exact ⟨k, ⟨o, es, e.trans ho, r⟩, z⟩
  | rng n => obtain ⟨t, u, v, z⟩ := x; exact ⟨t, u, v, e.trans z⟩
theorem Sat.sub {C : Ctx} {c c' : Cf} {h : Heap} {a : Addr} {sp : Spec} (x : Sat C c h a sp) (e : c.Sub c') : Sat C c' h a sp := by
  cases sp with
  | inst cl d => exact ⟨by rw [(e d x.2).2]; exact x.1, (e d x.2).1⟩
  | ns m => obtain ⟨m', y, z⟩ := x; exact ⟨m', y, fun q => (z q).sub e⟩
  | list vs => obtain ⟨i, n, y, z⟩ := x; exact ⟨i, n, y, z.sub e⟩
  | tup vs => obtain ⟨i, n, y, z⟩ := x; exact ⟨i, n, y, z.sub e⟩
  | dict kvs => obtain ⟨k, y, z⟩ := x; exact ⟨k, y, z.sub e⟩
  | set S => exact x
  | cell v => obtain ⟨v', y, z⟩ := x; exact ⟨v', y, z.sub e⟩
  | view d => exact ⟨by rw [(e d x.2).2]; exact x.1, (e d x.2).1⟩
  | attrs ks m => obtain ⟨m', y, z, k⟩ := x; exact ⟨m', y, fun q => (z q).sub e, k⟩
  | fdict kvs ep => obtain ⟨k, y, z⟩ := x; exact ⟨k, y, z.sub e⟩
  | rng n => exact x
theorem Sat.ext {C : Ctx} {c c' : Cf} {h : Heap} {a : Addr} {sp : Spec} (x : Sat C c h a sp) (e : c.Ext c') : Sat C c' h a sp := x.sub e.on
theorem Sat.there {C : Ctx} {c : Cf} {h : Heap} {a : Addr} {sp : Spec} (x : Sat C c h a sp) : ∃ o, h.get? a = some o := by
  cases sp with
  | inst cl d => exact ⟨_, x.1⟩
  | ns m => obtain ⟨m', ⟨o, es, ep, ho, r⟩, y⟩ := x; exact ⟨o, ho⟩
  | list vs => obtain ⟨i, n, y, z⟩ := x; exact ⟨_, y⟩
  | tup vs => obtain ⟨i, n, y, z⟩ := x; exact ⟨_, y⟩
  | dict kvs => obtain ⟨k, ⟨o, es, ep, ho, r⟩, z⟩ := x; exact ⟨o, ho⟩
  | set S => obtain ⟨⟨o, es, ep, t, ho, r⟩, nd⟩ := x; exact ⟨o, ho⟩
  | cell v => obtain ⟨v', ⟨o, y, y'⟩, z⟩ := x; exact ⟨o, y⟩
  | view d => obtain ⟨⟨o, y, z⟩, u⟩ := x; exact ⟨o, y⟩
  | attrs ks m => obtain ⟨m', ⟨o, es, ep, ho, r⟩, y⟩ := x; exact ⟨o, ho⟩
  | fdict kvs ep => obtain ⟨k, ⟨o, es, ho, r⟩, z⟩ := x; exact ⟨o, ho⟩
  | rng n => obtain ⟨t, u, v, z⟩ := x; exact ⟨_, z⟩

structure St (C : Ctx) (c : Cf) (H : Hp) (s : Shared) : Prop where
  base : ∀ b o, C.hb.get? b = some o → s.heap.get? b = some o
  frz : ∀ b o, c.fz b = some o → s.heap.get? b = some o
  reg : ∀ l sp, H l = some sp → Sat C c s.heap (c.ι l) sp
  used : ∀ l sp, H l = some sp → c.U l
  inj : ∀ l l' sp sp', H l = some sp → H l' = some sp' → c.ι l = c.ι l' → l = l'
  hi : ∀ l sp, H l = some sp → C.hb.objs.size ≤ c.ι l
  sepF : ∀ l sp, H l = some sp → c.fz (c.ι l) = none
  fin : ∃ n, ∀ i, n ≤ i → ¬ c.U (tmp i)
  nmd : ∀ l, l.1 ≠ 0 → c.U l → ∃ sp, H l = some sp
  fr : ∀ l, l ∈ c.fa → ∃ m, H l = some (.ns m)
  os : s.os = C.os
  gens : s.gens = #[]
  hbs : C.hb.objs.size ≤ s.heap.objs.size

theorem St.sepB {C : Ctx} {c : Cf} {H : Hp} {s : Shared} (S : St C c H s) {l : Loc} {sp : Spec} (e : H l = some sp) : C.hb.get? (c.ι l) = none := by
  cases q : C.hb.get? (c.ι l) with
  | none => rfl
  | some o =>
    have q1 : @LT.lt Nat _ (c.ι l) C.hb.objs.size := Heap.lt_size q
    have q2 : @LE.le Nat _ C.hb.objs.size (c.ι l) := S.hi l sp e
    lia
theorem St.lt {C : Ctx} {c : Cf} {H : Hp} {s : Shared} (S : St C c H s) {l : Loc} {sp : Spec} (e : H l = some sp) : @LT.lt Nat _ (c.ι l) s.heap.objs.size := by
  obtain ⟨o, ho⟩ := (S.reg l sp e).there
  exact Heap.lt_size ho
theorem St.same {C : Ctx} {c : Cf} {H : Hp} {s : Shared} (S : St C c H s) (d : Drawn) (t : Nat) : St C c H ⟨s.heap, s.gens, d, t, s.os⟩ :=
  ⟨S.base, S.frz, S.reg, S.used, S.inj, S.hi, S.sepF, S.fin, S.nmd, S.fr, S.os, S.gens, S.hbs⟩

theorem dom_upd {H : Hp} {l k : Loc} {sp q sp₀ : Spec} (hl : H l = some sp₀) (e : upd H l sp k = some q) : ∃ q', H k = some q' := by
  by_cases h : k = l
  · subst h; exact ⟨_, hl⟩
  · rw [upd_ne _ _ h] at e; exact ⟨_, e⟩
/-- one place turned, all else as it was (but for what is free) -/
theorem St.updX {C : Ctx} {c : Cf} {H : Hp} {s : Shared} (S : St C c H s) {l : Loc} {sp₀ sp : Spec} {h' : Heap} (hl : H l = some sp₀) (hs : ∀ b o, b ≠ c.ι l → s.heap.get? b = some o → h'.get? b = some o) (x : Sat C c h' (c.ι l) sp)
    (hk : sp₀.kind = sp.kind) (d : Drawn) (t : Nat) : St C c (upd H l sp) ⟨h', s.gens, d, t, s.os⟩ := by
  have reg' : ∀ k q, upd H l sp k = some q → Sat C c h' (c.ι k) q := fun k q e => by
    by_cases hkl : k = l
    · subst hkl; rw [upd_self] at e; cases e; exact x
    · rw [upd_ne _ _ hkl] at e
      have y := S.reg k q e
      obtain ⟨o, ho⟩ := y.there
      exact y.get ((hs _ o (fun z => hkl (S.inj _ _ _ _ e hl z)) ho).trans ho.symm)
  refine ⟨fun b o e => ?_, fun b o e => ?_, reg', fun k q e => ?_, fun k k' q q' e e' z => ?_, fun k q e => ?_, fun k q e => ?_, S.fin, fun k hk' u => ?_, fun k hkk => ?_, S.os, S.gens, ?_⟩
  · exact hs b o (fun z => by have := S.sepB hl; rw [← z, e] at this; cases this) (S.base b o e)
  · exact hs b o (fun z => by have := S.sepF l _ hl; rw [← z, e] at this; cases this) (S.frz b o e)
  · obtain ⟨q', e'⟩ := dom_upd hl e; exact S.used k q' e'
  · obtain ⟨q1, e1⟩ := dom_upd hl e; obtain ⟨q2, e2⟩ := dom_upd hl e'; exact S.inj _ _ _ _ e1 e2 z
  · obtain ⟨q', e'⟩ := dom_upd hl e; exact S.hi k q' e'
  · obtain ⟨q', e'⟩ := dom_upd hl e; exact S.sepF k q' e'
  · by_cases hkl : k = l
    · subst hkl; exact ⟨_, upd_self ..⟩
    · obtain ⟨q, e⟩ := S.nmd k hk' u; exact ⟨q, (upd_ne _ _ hkl).trans e⟩
  · obtain ⟨m, e2⟩ := S.fr k hkk
    by_cases hkl : k = l
    · subst hkl
      rw [hl] at e2; cases e2
      cases sp <;> first | (exact ⟨_, upd_self ..⟩) | cases hk
    · exact ⟨m, (upd_ne _ _ hkl).trans e2⟩
  · have q1 : @LT.lt Nat _ (c.ι l) h'.objs.size := by obtain ⟨o, ho⟩ := (reg' l sp (upd_self ..)).there; exact Heap.lt_size ho
    have q2 : @LE.le Nat _ C.hb.objs.size (c.ι l) := S.hi l _ hl
    show @LE.le Nat _ C.hb.objs.size h'.objs.size
    lia
theorem St.updH {C : Ctx} {c : Cf} {H : Hp} {s : Shared} (S : St C c H s) {l : Loc} {sp₀ sp : Spec} {h' : Heap} (hl : H l = some sp₀) (hs : Heap.SameBut (c.ι l) s.heap h') (x : Sat C c h' (c.ι l) sp)
    (hk : sp₀.kind = sp.kind) (d : Drawn) (t : Nat) : St C c (upd H l sp) ⟨h', s.gens, d, t, s.os⟩ :=
  S.updX hl (fun b o hb e => (hs.2 b hb).trans e) x hk d t
/-- a place that some entry holds shows that the heap has not shrunk -/
theorem St.size {C : Ctx} {c : Cf} {H : Hp} {s : Shared} (S : St C c H s) {l : Loc} {sp : Spec} (hl : H l = some sp) {h' : Heap} (hk : ∀ b o, s.heap.get? b = some o → h'.get? b = some o) : C.hb.objs.size ≤ h'.objs.size := by
  obtain ⟨o, ho⟩ := (S.reg l sp hl).there
  have q1 : @LT.lt Nat _ (c.ι l) h'.objs.size := Heap.lt_size (hk _ _ ho)
  have q2 : @LE.le Nat _ C.hb.objs.size (c.ι l) := S.hi l _ hl
  show @LE.le Nat _ _ _
  lia

noncomputable def Cf.put (c : Cf) (l : Loc) (a : Addr) : Cf := { c with ι := fun x => if x = l then a else c.ι x, U := fun x => x = l ∨ c.U x }
theorem Cf.put_ext {c : Cf} {l : Loc} {a : Addr} (h : ¬ c.U l) : c.Ext (c.put l a) :=
  ⟨rfl, rfl, fun x u => ⟨.inr u, if_neg fun e => by subst e; exact h u⟩⟩
theorem Cf.put_self (c : Cf) (l : Loc) (a : Addr) : (c.put l a).ι l = a := if_pos rfl
theorem St.new {C : Ctx} {c : Cf} {H : Hp} {s : Shared} (S : St C c H s) {l : Loc} {sp : Spec} {h' : Heap} {a : Addr} (hl : ¬ c.U l) (hk : ∀ b o, s.heap.get? b = some o → h'.get? b = some o)
    (ha : s.heap.objs.size ≤ a) (x : Sat C (c.put l a) h' a sp) (d : Drawn) (t : Nat) : St C (c.put l a) (upd H l sp) ⟨h', s.gens, d, t, s.os⟩ := by
  obtain ⟨o, ho⟩ := x.there
  have hlt : @LT.lt Nat _ a h'.objs.size := Heap.lt_size ho
  have ha : @LE.le Nat _ s.heap.objs.size a := ha
  have hbs : @LE.le Nat _ C.hb.objs.size s.heap.objs.size := S.hbs
  have X := Cf.put_ext (a := a) hl
  have old : ∀ {k}, c.U k → (c.put l a).ι k = c.ι k := fun u => (X.on _ u).2
  have ne : ∀ {k q}, H k = some q → c.ι k ≠ a := fun u e => by have q := S.lt u; rw [e] at q; lia
  have cs : ∀ {k q}, upd H l sp k = some q → (k = l ∧ q = sp) ∨ (k ≠ l ∧ H k = some q) := fun {k q} e => by
    by_cases hkl : k = l
    · subst hkl; rw [upd_self] at e; cases e; exact .inl ⟨rfl, rfl⟩
    · rw [upd_ne _ _ hkl] at e; exact .inr ⟨hkl, e⟩
  refine ⟨fun b o e => hk _ _ (S.base b o e), fun b o e => hk _ _ (S.frz b o e), fun k q e => ?_, fun k q e => ?_, fun k k' q q' e e' z => ?_, fun k q e => ?_, fun k q e => ?_, ?_, fun k hk' u => ?_, fun k hk' => ?_, S.os, S.gens, ?_⟩
  · rcases cs e with ⟨rfl, rfl⟩ | ⟨hkl, e⟩
    · rw [Cf.put_self]; exact x
    · rw [old (S.used k q e)]
      obtain ⟨o', ho'⟩ := (S.reg k q e).there
      exact ((S.reg k q e).get (by rw [ho']; exact hk _ _ ho')).ext X
  · rcases cs e with ⟨rfl, rfl⟩ | ⟨hkl, e⟩
    · exact .inl rfl
    · exact .inr (S.used k q e)
  · have f := cs e
    have f' := cs e'
    clear e e'
    rcases f with ⟨g, g2⟩ | ⟨hkl, g⟩ <;> rcases f' with ⟨g', g2'⟩ | ⟨hkl', g'⟩
    · rw [g, g']
    · have u' := S.used k' _ g'
      rw [g, Cf.put_self, old u'] at z; exact absurd z.symm (ne g')
    · have u := S.used k _ g
      rw [g', Cf.put_self, old u] at z; exact absurd z (ne g)
    · have u := S.used k _ g
      have u' := S.used k' _ g'
      rw [old u, old u'] at z; exact S.inj _ _ _ _ g g' z
  · rcases cs e with ⟨rfl, rfl⟩ | ⟨hkl, e⟩
    · rw [Cf.put_self]; exact Nat.le_trans S.hbs ha
    · rw [old (S.used k q e)]; exact S.hi k q e
  · rcases cs e with ⟨rfl, rfl⟩ | ⟨hkl, e⟩
    · rw [Cf.put_self]
      show c.fz a = none
      cases q : c.fz a with
      | none => rfl
      | some o => have q1 : @LT.lt Nat _ a s.heap.objs.size := Heap.lt_size (S.frz _ _ q); lia
    · rw [old (S.used k q e)]; exact S.sepF k q e
  · obtain ⟨n, hn⟩ := S.fin
    refine ⟨max n (l.2 + 1), fun i hi u => ?_⟩
    rcases u with e | u
    · rw [← e] at hi; simp [tmp] at hi; lia
    · exact hn i (by lia) u
  · by_cases hkl : k = l
    · subst hkl; exact ⟨_, upd_self ..⟩
    · rcases u with u | u
      · exact absurd u hkl
      · obtain ⟨q, e⟩ := S.nmd k hk' u; exact ⟨q, (upd_ne _ _ hkl).trans e⟩
  · obtain ⟨m, e2⟩ := S.fr k hk'
    exact ⟨m, (upd_ne _ _ fun e => by subst e; exact hl (S.used _ _ e2)).trans e2⟩
  · show @LE.le Nat _ C.hb.objs.size h'.objs.size
    lia

theorem St.fresh {C : Ctx} {c : Cf} {H : Hp} {s : Shared} (S : St C c H s) : ∃ i, ¬ c.U (tmp i) := let ⟨n, h⟩ := S.fin; ⟨n, h n (Nat.le_refl _)⟩

/-- a place for a new object: a fresh temporary, or a named place that is empty -/
noncomputable def Alloc (sp : Spec) (Q : PV → Hp → Prop) (H : Hp) : Prop :=
  (∀ i, H (tmp i) = none → Q (.loc (tmp i)) (upd H (tmp i) sp)) ∨ ∃ l : Loc, l.1 ≠ 0 ∧ H l = none ∧ Q (.loc l) (upd H l sp)
theorem alloc_tmp {sp : Spec} {Q : PV → Hp → Prop} {H : Hp} (h : ∀ i, H (tmp i) = none → Q (.loc (tmp i)) (upd H (tmp i) sp)) : Alloc sp Q H := .inl h
theorem St.none_of {C : Ctx} {c : Cf} {H : Hp} {s : Shared} (S : St C c H s) {l : Loc} (h : ¬ c.U l) : H l = none := by
  cases e : H l with
  | none => rfl
  | some sp => exact absurd (S.used l sp e) h
theorem St.alloc {C : Ctx} {c : Cf} {H : Hp} {s : Shared} (S : St C c H s) {sp : Spec} {Q : PV → Hp → Prop} (h : Alloc sp Q H) : ∃ l, ¬ c.U l ∧ Q (.loc l) (upd H l sp) := by
  rcases h with h | ⟨l, h0, h1, h⟩
  · obtain ⟨i, hi⟩ := S.fresh
    exact ⟨tmp i, hi, h i (S.none_of hi)⟩
  · exact ⟨l, (fun u => by obtain ⟨q, e⟩ := S.nmd l h0 u; rw [h1] at e; cases e), h⟩

/-- forgetting entries that no active frame needs -/
theorem St.forget {C : Ctx} {c : Cf} {H H' : Hp} {s : Shared} (S : St C c H s) (h : ∀ l sp, H' l = some sp → H l = some sp) (hn : ∀ l, l.1 ≠ 0 → H' l = H l) (hf : ∀ l ∈ c.fa, ∃ m, H' l = some (.ns m)) : St C c H' s :=
  ⟨S.base, S.frz, fun l sp e => S.reg l sp (h l sp e), fun l sp e => S.used l sp (h l sp e), fun l l' q q' e e' => S.inj l l' q q' (h _ _ e) (h _ _ e'), fun l q e => S.hi l q (h _ _ e), fun l q e => S.sepF l q (h _ _ e), S.fin,
    fun l hl u => by rw [hn l hl]; exact S.nmd l hl u, hf, S.os, S.gens, S.hbs⟩

/-- growth that touches nothing: the state stays -/
theorem St.grow {C : Ctx} {c : Cf} {H : Hp} {s : Shared} (S : St C c H s) {h' : Heap} (hk : ∀ b o, s.heap.get? b = some o → h'.get? b = some o) (hz : C.hb.objs.size ≤ h'.objs.size) (d : Drawn) (t : Nat) : St C c H ⟨h', s.gens, d, t, s.os⟩ :=
  ⟨fun b o e => hk _ _ (S.base b o e), fun b o e => hk _ _ (S.frz b o e), fun l sp e => by
    obtain ⟨o', ho'⟩ := (S.reg l sp e).there
    exact (S.reg l sp e).get (by rw [ho']; exact hk _ _ ho'), S.used, S.inj, S.hi, S.sepF, S.fin, S.nmd, S.fr, S.os, S.gens, hz⟩

/-! the judgments -/
structure AOK (n : Nat) (c : Cf) (A : Around) : Prop where
  handled : A.handled = none
  depth : A.depth + 10 * n < 900
  units : A.units + 100 * n < 9000
  frames : ∃ envs, A.frames = some envs ∧ envs.map (·.frame) = c.fa.map (fun l => some (c.ι l)) ∧ ∀ env ∈ envs, env.scope.kind = .function
  faU : ∀ l ∈ c.fa, c.U l
theorem AOK.ext {n : Nat} {c c' : Cf} {A : Around} (x : AOK n c A) (e : c.Ext c') : AOK n c' A :=
  ⟨x.handled, x.depth, x.units, by
    obtain ⟨envs, a, b, d⟩ := x.frames
    refine ⟨envs, a, ?_, d⟩
    rw [e.fa, b]
    exact List.map_congr_left fun l hl => by rw [(e.on l (x.faU l hl)).2], fun l hl => by rw [e.fa] at hl; exact (e.on l (x.faU l hl)).1⟩
theorem AOK.room {n : Nat} {c : Cf} {A : Around} (x : AOK n c A) : A.depth < recursionLimit := by have := x.depth; unfold recursionLimit; lia
theorem AOK.croom {n : Nat} {c : Cf} {A : Around} (x : AOK n c A) : A.units < cLine := by have := x.units; unfold cLine; lia

noncomputable abbrev XT := Cf → Value → Shared → Prop
inductive Post (C : Ctx) (c : Cf) (Q : PV → Hp → Prop) (v : Value) (s : Shared) : Prop
  | mk (p : PV) (H : Hp) (c' : Cf) (x : c.Ext c') (d : Den c' p v) (S : St C c' H s) (q : Q p H)
inductive PostL (C : Ctx) (c : Cf) (Q : List PV → Hp → Prop) (vs : List Value) (s : Shared) : Prop
  | mk (ps : List PV) (H : Hp) (c' : Cf) (x : c.Ext c') (d : DenL c' ps vs) (S : St C c' H s) (q : Q ps H)
inductive PostU (C : Ctx) (c : Cf) (Q : Hp → Prop) (s : Shared) : Prop
  | mk (H : Hp) (c' : Cf) (x : c.Ext c') (S : St C c' H s) (q : Q H)
inductive PostX (X : XT) (c : Cf) (e : Value) (s : Shared) : Prop
  | mk (c' : Cf) (x : c.Ext c') (q : X c' e s)

inductive AF where
  | next
  | brk
  | cont
  | ret (p : PV)
noncomputable def DenF (c : Cf) : AF → Flow → Prop
  | .next, f => f = .next
  | .brk, f => f = .brk
  | .cont, f => f = .cont
  | .ret p, f => ∃ v, f = .ret v ∧ Den c p v
inductive PostF (C : Ctx) (c : Cf) (Q : AF → Hp → Prop) (f : Flow) (s : Shared) : Prop
  | mk (p : AF) (H : Hp) (c' : Cf) (x : c.Ext c') (d : DenF c' p f) (S : St C c' H s) (q : Q p H)
section
variable {C : Ctx} {c c' c₀ : Cf} {s : Shared} {X : XT} {A : Around}
theorem Post.from {Q : PV → Hp → Prop} {v : Value} (x : c.Ext c') (h : Post C c' Q v s) : Post C c Q v s :=
  h.casesOn fun p H c'' y d S q => ⟨p, H, c'', x.trans y, d, S, q⟩
theorem PostU.from {Q : Hp → Prop} (x : c.Ext c') (h : PostU C c' Q s) : PostU C c Q s :=
  h.casesOn fun H c'' y S q => ⟨H, c'', x.trans y, S, q⟩
theorem PostF.from {Q : AF → Hp → Prop} {v : Flow} (x : c.Ext c') (h : PostF C c' Q v s) : PostF C c Q v s :=
  h.casesOn fun p H c'' y d S q => ⟨p, H, c'', x.trans y, d, S, q⟩
theorem PostX.from {v : Value} (x : c.Ext c') (h : PostX X c' v s) : PostX X c v s :=
  h.casesOn fun c'' y q => ⟨c'', x.trans y, q⟩
/-! what comes behind a tree -/
theorem wpP {t : Sem Value} {Q : PV → Hp → Prop} {R : Value → Shared → Prop} {E : Value → Shared → Prop} (h : wpAny C.M A t (Post C c Q) E s) (k : ∀ (v : Value) (s' : Shared) (p : PV) (H : Hp) (c' : Cf), c.Ext c' → Den c' p v → St C c' H s' → Q p H → R v s') : wpAny C.M A t R E s :=
  wpAny_mono h (fun v s h => h.casesOn fun p H c' x d S q => k v s p H c' x d S q) fun _ _ e => e
theorem wpPx {t : Sem Value} {Q : PV → Hp → Prop} {R : Value → Shared → Prop} (y : c₀.Ext c) (h : wpAny C.M A t (Post C c Q) (PostX X c) s) (k : ∀ (v : Value) (s' : Shared) (p : PV) (H : Hp) (c' : Cf), c.Ext c' → Den c' p v → St C c' H s' → Q p H → R v s') : wpAny C.M A t R (PostX X c₀) s :=
  wpAny_mono h (fun v s h => h.casesOn fun p H c' x d S q => k v s p H c' x d S q) fun _ _ e => e.from y
theorem wpP0 {t : Sem Value} {Q : PV → Hp → Prop} {R : Value → Shared → Prop} {E : Value → Shared → Prop} (h : wpAny C.M A t (Post C c Q) (PostX (fun _ _ _ => False) c) s) (k : ∀ (v : Value) (s' : Shared) (p : PV) (H : Hp) (c' : Cf), c.Ext c' → Den c' p v → St C c' H s' → Q p H → R v s') : wpAny C.M A t R E s :=
  wpAny_mono h (fun v s h => h.casesOn fun p H c' x d S q => k v s p H c' x d S q) fun _ _ e => e.casesOn fun _ _ z => z.elim
theorem wpF {t : Sem Flow} {Q : AF → Hp → Prop} {R : Flow → Shared → Prop} {E : Value → Shared → Prop} (h : wpAny C.M A t (PostF C c Q) E s) (k : ∀ (v : Flow) (s' : Shared) (p : AF) (H : Hp) (c' : Cf), c.Ext c' → DenF c' p v → St C c' H s' → Q p H → R v s') : wpAny C.M A t R E s :=
  wpAny_mono h (fun v s h => h.casesOn fun p H c' x d S q => k v s p H c' x d S q) fun _ _ e => e
theorem wpFx {t : Sem Flow} {Q : AF → Hp → Prop} {R : Flow → Shared → Prop} (y : c₀.Ext c) (h : wpAny C.M A t (PostF C c Q) (PostX X c) s) (k : ∀ (v : Flow) (s' : Shared) (p : AF) (H : Hp) (c' : Cf), c.Ext c' → DenF c' p v → St C c' H s' → Q p H → R v s') : wpAny C.M A t R (PostX X c₀) s :=
  wpAny_mono h (fun v s h => h.casesOn fun p H c' x d S q => k v s p H c' x d S q) fun _ _ e => e.from y
theorem wpF0 {t : Sem Flow} {Q : AF → Hp → Prop} {R : Flow → Shared → Prop} {E : Value → Shared → Prop} (h : wpAny C.M A t (PostF C c Q) (PostX (fun _ _ _ => False) c) s) (k : ∀ (v : Flow) (s' : Shared) (p : AF) (H : Hp) (c' : Cf), c.Ext c' → DenF c' p v → St C c' H s' → Q p H → R v s') : wpAny C.M A t R E s :=
  wpAny_mono h (fun v s h => h.casesOn fun p H c' x d S q => k v s p H c' x d S q) fun _ _ e => e.casesOn fun _ _ z => z.elim
theorem wp2 {t : Sem Flow} {Q : AF → Hp → Prop} {R : Flow → Shared → Prop} {E : Value → Shared → Prop} (h : wpAny C.M A t (PostF C c Q) (PostX X c) s) (k : ∀ (v : Flow) (s' : Shared) (p : AF) (H : Hp) (c' : Cf), c.Ext c' → DenF c' p v → St C c' H s' → Q p H → R v s')
    (e : ∀ (v : Value) (s' : Shared) (c' : Cf), c.Ext c' → X c' v s' → E v s') : wpAny C.M A t R E s :=
  wpAny_mono h (fun v s h => h.casesOn fun p H c' x d S q => k v s p H c' x d S q) fun v s h => h.casesOn fun c' x q => e v s c' x q
theorem wpL {t : Sem (List Value)} {Q : List PV → Hp → Prop} {R : List Value → Shared → Prop} {E : Value → Shared → Prop} (h : wpAny C.M A t (PostL C c Q) E s) (k : ∀ (v : List Value) (s' : Shared) (p : List PV) (H : Hp) (c' : Cf), c.Ext c' → DenL c' p v → St C c' H s' → Q p H → R v s') : wpAny C.M A t R E s :=
  wpAny_mono h (fun v s h => h.casesOn fun p H c' x d S q => k v s p H c' x d S q) fun _ _ e => e
theorem wpLx {t : Sem (List Value)} {Q : List PV → Hp → Prop} {R : List Value → Shared → Prop} (y : c₀.Ext c) (h : wpAny C.M A t (PostL C c Q) (PostX X c) s) (k : ∀ (v : List Value) (s' : Shared) (p : List PV) (H : Hp) (c' : Cf), c.Ext c' → DenL c' p v → St C c' H s' → Q p H → R v s') : wpAny C.M A t R (PostX X c₀) s :=
  wpAny_mono h (fun v s h => h.casesOn fun p H c' x d S q => k v s p H c' x d S q) fun _ _ e => e.from y
theorem wpM {t : Sem (Value × List Value)} {Q : Value → List PV → Hp → Prop} {R : Value × List Value → Shared → Prop} {E : Value → Shared → Prop} (h : wpAny C.M A t (fun b => PostL C c (Q b.1) b.2) E s) (k : ∀ (v : Value × List Value) (s' : Shared) (p : List PV) (H : Hp) (c' : Cf), c.Ext c' → DenL c' p v.2 → St C c' H s' → Q v.1 p H → R v s') : wpAny C.M A t R E s :=
  wpAny_mono h (fun v s h => h.casesOn fun p H c' x d S q => k v s p H c' x d S q) fun _ _ e => e
theorem wpMx {t : Sem (Value × List Value)} {Q : Value → List PV → Hp → Prop} {R : Value × List Value → Shared → Prop} (y : c₀.Ext c) (h : wpAny C.M A t (fun b => PostL C c (Q b.1) b.2) (PostX X c) s) (k : ∀ (v : Value × List Value) (s' : Shared) (p : List PV) (H : Hp) (c' : Cf), c.Ext c' → DenL c' p v.2 → St C c' H s' → Q v.1 p H → R v s') : wpAny C.M A t R (PostX X c₀) s :=
  wpAny_mono h (fun v s h => h.casesOn fun p H c' x d S q => k v s p H c' x d S q) fun _ _ e => e.from y
theorem wpL0 {t : Sem (List Value)} {Q : List PV → Hp → Prop} {R : List Value → Shared → Prop} {E : Value → Shared → Prop} (h : wpAny C.M A t (PostL C c Q) (PostX (fun _ _ _ => False) c) s) (k : ∀ (v : List Value) (s' : Shared) (p : List PV) (H : Hp) (c' : Cf), c.Ext c' → DenL c' p v → St C c' H s' → Q p H → R v s') : wpAny C.M A t R E s :=
  wpAny_mono h (fun v s h => h.casesOn fun p H c' x d S q => k v s p H c' x d S q) fun _ _ e => e.casesOn fun _ _ z => z.elim
theorem wpU {β : Type} {t : Sem β} {Q : β → Hp → Prop} {R : β → Shared → Prop} {E : Value → Shared → Prop} (h : wpAny C.M A t (fun b => PostU C c (Q b)) E s) (k : ∀ (v : β) (s' : Shared) (H : Hp) (c' : Cf), c.Ext c' → St C c' H s' → Q v H → R v s') : wpAny C.M A t R E s :=
  wpAny_mono h (fun v s h => h.casesOn fun H c' x S q => k v s H c' x S q) fun _ _ e => e
theorem wpUx {β : Type} {t : Sem β} {Q : β → Hp → Prop} {R : β → Shared → Prop} (y : c₀.Ext c) (h : wpAny C.M A t (fun b => PostU C c (Q b)) (PostX X c) s) (k : ∀ (v : β) (s' : Shared) (H : Hp) (c' : Cf), c.Ext c' → St C c' H s' → Q v H → R v s') : wpAny C.M A t R (PostX X c₀) s :=
  wpAny_mono h (fun v s h => h.casesOn fun H c' x S q => k v s H c' x S q) fun _ _ e => e.from y
theorem wpU0 {β : Type} {t : Sem β} {Q : β → Hp → Prop} {R : β → Shared → Prop} {E : Value → Shared → Prop} (h : wpAny C.M A t (fun b => PostU C c (Q b)) (PostX (fun _ _ _ => False) c) s) (k : ∀ (v : β) (s' : Shared) (H : Hp) (c' : Cf), c.Ext c' → St C c' H s' → Q v H → R v s') : wpAny C.M A t R E s :=
  wpAny_mono h (fun v s h => h.casesOn fun H c' x S q => k v s H c' x S q) fun _ _ e => e.casesOn fun _ _ z => z.elim
theorem wpV {t : Sem Unit} {Q : Hp → Prop} {R : Unit → Shared → Prop} {E : Value → Shared → Prop} (h : wpAny C.M A t (fun _ => PostU C c Q) E s) (k : ∀ (v : Unit) (s' : Shared) (H : Hp) (c' : Cf), c.Ext c' → St C c' H s' → Q H → R v s') : wpAny C.M A t R E s :=
  wpAny_mono h (fun v s h => h.casesOn fun H c' x S q => k v s H c' x S q) fun _ _ e => e
theorem wpVx {t : Sem Unit} {Q : Hp → Prop} {R : Unit → Shared → Prop} (y : c₀.Ext c) (h : wpAny C.M A t (fun _ => PostU C c Q) (PostX X c) s) (k : ∀ (v : Unit) (s' : Shared) (H : Hp) (c' : Cf), c.Ext c' → St C c' H s' → Q H → R v s') : wpAny C.M A t R (PostX X c₀) s :=
  wpAny_mono h (fun v s h => h.casesOn fun H c' x S q => k v s H c' x S q) fun _ _ e => e.from y
theorem wpV0 {t : Sem Unit} {Q : Hp → Prop} {R : Unit → Shared → Prop} {E : Value → Shared → Prop} (h : wpAny C.M A t (fun _ => PostU C c Q) (PostX (fun _ _ _ => False) c) s) (k : ∀ (v : Unit) (s' : Shared) (H : Hp) (c' : Cf), c.Ext c' → St C c' H s' → Q H → R v s') : wpAny C.M A t R E s :=
  wpAny_mono h (fun v s h => h.casesOn fun H c' x S q => k v s H c' x S q) fun _ _ e => e.casesOn fun _ _ z => z.elim
end

/-- the frame's own data -/
structure FC where
  lf : Loc
  name : Str
  scope : Scope
  a : Option Addr
  cd : Value
  cells : List (Str × Loc)
  fm : Loc
noncomputable def FC.env (F : FC) (c : Cf) : Env :=
  { scope := F.scope, locals := c.ι F.lf, globals := mainGlobals, cells := F.cells.map fun x => (x.1, c.ι x.2), qual := F.name ++ ".<locals>.", func := F.a, code := F.cd, frame := some (c.ι F.fm), builtins := builtinsNs }
structure FC.In (F : FC) (c : Cf) : Prop where
  lf : c.U F.lf
  fm : c.U F.fm
  act : ∃ r, c.fa = F.fm :: r
  cells : ∀ x ∈ F.cells, c.U x.2
theorem FC.In.ext {F : FC} {c c' : Cf} (x : F.In c) (e : c.Ext c') : F.In c' := ⟨(e.on _ x.lf).1, (e.on _ x.fm).1, by rw [e.fa]; exact x.act, fun y hy => (e.on _ (x.cells y hy)).1⟩
theorem FC.env_ext {F : FC} {c c' : Cf} (x : F.In c) (e : c.Ext c') : F.env c' = F.env c := by
  unfold FC.env
  rw [(e.on _ x.lf).2, (e.on _ x.fm).2, show (F.cells.map fun y => (y.1, c'.ι y.2)) = F.cells.map fun y => (y.1, c.ι y.2) from List.map_congr_left fun y hy => by rw [(e.on _ (x.cells y hy)).2]]

noncomputable def JE (C : Ctx) (F : FC) (n : Nat) (X : XT) (e : Expr) (Q : PV → Hp → Prop) (H : Hp) : Prop :=
  ∀ A c s, AOK n c A → F.In c → St C c H s → wpAny C.M A (eval e (F.env c)) (Post C c Q) (PostX X c) s
noncomputable def JB (C : Ctx) (F : FC) (n : Nat) (X : XT) (e : Expr) (Q : Bool → Hp → Prop) (H : Hp) : Prop :=
  ∀ A c s, AOK n c A → F.In c → St C c H s → wpAny C.M A (isTrue e (F.env c) (eval e (F.env c))) (fun b => PostU C c (Q b)) (PostX X c) s
noncomputable def JX (C : Ctx) (F : FC) (n : Nat) (X : XT) (st : Stmt) (Q : AF → Hp → Prop) (H : Hp) : Prop :=
  ∀ A c s, AOK n c A → F.In c → St C c H s → wpAny C.M A (exec st (F.env c)) (PostF C c Q) (PostX X c) s
noncomputable def JS (C : Ctx) (F : FC) (n : Nat) (X : XT) (ss : List Stmt) (Q : AF → Hp → Prop) (H : Hp) : Prop :=
  ∀ A c s, AOK n c A → F.In c → St C c H s → wpAny C.M A (execs ss (F.env c)) (PostF C c Q) (PostX X c) s
noncomputable def JT (C : Ctx) (n : Nat) (X : XT) (v : PV) (Q : Bool → Hp → Prop) (H : Hp) : Prop :=
  ∀ A c s u, AOK n c A → Den c v u → St C c H s → wpAny C.M A (truthy u) (fun b => PostU C c (Q b)) (PostX X c) s

-- M2

noncomputable def J1 (C : Ctx) (n : Nat) (X : XT) (t : Value → Sem Value) (p : PV) (Q : PV → Hp → Prop) (H : Hp) : Prop :=
  ∀ A c s u, AOK n c A → Den c p u → St C c H s → wpAny C.M A (t u) (Post C c Q) (PostX X c) s
noncomputable def J2 (C : Ctx) (n : Nat) (X : XT) (t : Value → Value → Sem Value) (p q : PV) (Q : PV → Hp → Prop) (H : Hp) : Prop :=
  ∀ A c s u v, AOK n c A → Den c p u → Den c q v → St C c H s → wpAny C.M A (t u v) (Post C c Q) (PostX X c) s
noncomputable def J2U (C : Ctx) (n : Nat) (X : XT) (t : Value → Value → Sem Unit) (p q : PV) (Q : Hp → Prop) (H : Hp) : Prop :=
  ∀ A c s u v, AOK n c A → Den c p u → Den c q v → St C c H s → wpAny C.M A (t u v) (fun _ => PostU C c Q) (PostX X c) s
noncomputable def J3U (C : Ctx) (n : Nat) (X : XT) (t : Value → Value → Value → Sem Unit) (p q r : PV) (Q : Hp → Prop) (H : Hp) : Prop :=
  ∀ A c s u v w, AOK n c A → Den c p u → Den c q v → Den c r w → St C c H s → wpAny C.M A (t u v w) (fun _ => PostU C c Q) (PostX X c) s

section
variable {C : Ctx} {F : FC} {n : Nat} {X : XT} {H : Hp} {A : Around} {c c₁ : Cf} {s : Shared}

theorem JE.on {e : Expr} {Q : PV → Hp → Prop} (h : JE C F n X e Q H) (a : AOK n c A) (i : F.In c) (x : c.Ext c₁) (S : St C c₁ H s) :
    wpAny C.M A (eval e (F.env c)) (Post C c₁ Q) (PostX X c₁) s :=
  FC.env_ext i x ▸ h A c₁ s (a.ext x) (i.ext x) S
theorem JE.at {e : Expr} {Q : PV → Hp → Prop} (h : JE C F n X e Q H) (a : AOK n c A) (i : F.In c) (x : c.Ext c₁) (S : St C c₁ H s) :
    wpAny C.M A (eval e (F.env c)) (Post C c Q) (PostX X c) s :=
  wpAny_mono (h.on a i x S) (fun _ _ p => p.from x) (fun _ _ p => p.from x)
theorem JS.on {e : List Stmt} {Q : AF → Hp → Prop} (h : JS C F n X e Q H) (a : AOK n c A) (i : F.In c) (x : c.Ext c₁) (S : St C c₁ H s) :
    wpAny C.M A (execs e (F.env c)) (PostF C c₁ Q) (PostX X c₁) s :=
  FC.env_ext i x ▸ h A c₁ s (a.ext x) (i.ext x) S
theorem JS.at {e : List Stmt} {Q : AF → Hp → Prop} (h : JS C F n X e Q H) (a : AOK n c A) (i : F.In c) (x : c.Ext c₁) (S : St C c₁ H s) :
    wpAny C.M A (execs e (F.env c)) (PostF C c Q) (PostX X c) s :=
  wpAny_mono (h.on a i x S) (fun _ _ p => p.from x) (fun _ _ p => p.from x)
theorem J1.at {t : Value → Sem Value} {p : PV} {u : Value} {Q : PV → Hp → Prop} (h : J1 C n X t p Q H) (a : AOK n c A) (x : c.Ext c₁) (d : Den c₁ p u) (S : St C c₁ H s) :
    wpAny C.M A (t u) (Post C c Q) (PostX X c) s :=
  wpAny_mono (h A c₁ s u (a.ext x) d S) (fun _ _ p => p.from x) (fun _ _ p => p.from x)
theorem J2.at {t : Value → Value → Sem Value} {p q : PV} {u v : Value} {Q : PV → Hp → Prop} (h : J2 C n X t p q Q H) (a : AOK n c A) (x : c.Ext c₁) (d : Den c₁ p u) (d' : Den c₁ q v) (S : St C c₁ H s) :
    wpAny C.M A (t u v) (Post C c Q) (PostX X c) s :=
  wpAny_mono (h A c₁ s u v (a.ext x) d d' S) (fun _ _ p => p.from x) (fun _ _ p => p.from x)
theorem J2U.at {t : Value → Value → Sem Unit} {p q : PV} {u v : Value} {Q : Hp → Prop} (h : J2U C n X t p q Q H) (a : AOK n c A) (x : c.Ext c₁) (d : Den c₁ p u) (d' : Den c₁ q v) (S : St C c₁ H s) :
    wpAny C.M A (t u v) (fun _ => PostU C c Q) (PostX X c) s :=
  wpAny_mono (h A c₁ s u v (a.ext x) d d' S) (fun _ _ p => p.from x) (fun _ _ p => p.from x)
theorem J3U.at {t : Value → Value → Value → Sem Unit} {p q r : PV} {u v w : Value} {Q : Hp → Prop} (h : J3U C n X t p q r Q H) (a : AOK n c A) (x : c.Ext c₁) (d : Den c₁ p u) (d' : Den c₁ q v) (d'' : Den c₁ r w) (S : St C c₁ H s) :
    wpAny C.M A (t u v w) (fun _ => PostU C c Q) (PostX X c) s :=
  wpAny_mono (h A c₁ s u v w (a.ext x) d d' d'' S) (fun _ _ p => p.from x) (fun _ _ p => p.from x)
theorem JT.at {p : PV} {u : Value} {Q : Bool → Hp → Prop} (h : JT C n X p Q H) (a : AOK n c A) (x : c.Ext c₁) (d : Den c₁ p u) (S : St C c₁ H s) :
    wpAny C.M A (truthy u) (fun b => PostU C c (Q b)) (PostX X c) s :=
  wpAny_mono (h A c₁ s u (a.ext x) d S) (fun _ _ p => p.from x) (fun _ _ p => p.from x)

theorem St.post (S : St C c H s) {Q : PV → Hp → Prop} {p : PV} {v : Value} (d : Den c p v) (q : Q p H) : Post C c Q v s := ⟨p, H, c, .refl c, d, S, q⟩
theorem St.postU (S : St C c H s) {Q : Hp → Prop} (q : Q H) : PostU C c Q s := ⟨H, c, .refl c, S, q⟩

/-! names, constants -/
theorem St.ns (S : St C c H s) {l : Loc} {m : Str → Option PV} (e : H l = some (.ns m)) : ∃ m', s.heap.Ns (c.ι l) m' ∧ ∀ x, DenO c (m x) (m' x) := S.reg l _ e

theorem E_local {x : Str} {pos : Pos} {m : Str → Option PV} {p : PV} {Q : PV → Hp → Prop} (hm : H F.lf = some (.ns m)) (hx : m x = some p) (h : Q p H)
    (hk : autoParam (F.scope.kind = .function) Au.a0) (hl : autoParam (F.scope.names.lookup x = some .local) Au.a0) (hd : autoParam ((x == ("__debug__" : Str)) = false) Au.a1) :
    JE C F n X (.Name x pos) Q H := by
  intro A c s a i S
  obtain ⟨m', hn, hd'⟩ := S.ns hm
  obtain ⟨v, hv, d⟩ := (show DenO c (some p) (m' x) from hx ▸ hd' x).some_inv
  exact wpAny_Name (wpAny_loadName_local hk hl hn hv (S.post d h)) hd
theorem St.cell (S : St C c H s) {l : Loc} {p : Option PV} (e : H l = some (.cell p)) : ∃ v', s.heap.IsCell (c.ι l) v' ∧ DenO c p v' := by
  exact S.reg l _ e
theorem FC.cell_lookup {x : Str} {l : Loc} (h : F.cells.lookup x = some l) : (F.env c).cells.lookup x = some (c.ι l) := by
  show (F.cells.map fun y => (y.1, c.ι y.2)).lookup x = _
  revert h
  generalize F.cells = L
  intro h
  induction L with
  | nil => cases h
  | cons y r ih =>
    obtain ⟨y1, y2⟩ := y
    rw [List.map_cons, List.lookup_cons]
    rw [List.lookup_cons] at h
    dsimp only at h ⊢
    split <;> rename_i q <;> rw [q] at h
    · cases h; rfl
    · exact ih h
theorem E_cell {x : Str} {pos : Pos} {l : Loc} {p : PV} {Q : PV → Hp → Prop} (hc : F.cells.lookup x = some l) (hm : H l = some (.cell (some p))) (h : Q p H)
    (hk : autoParam (F.scope.kind = .function) Au.a0) (hl : autoParam (F.scope.names.lookup x = some .cell) Au.a0) (hd : autoParam ((x == ("__debug__" : Str)) = false) Au.a1) :
    JE C F n X (.Name x pos) Q H := by
  intro A c s a i S
  obtain ⟨v', hn, hd'⟩ := S.cell hm
  obtain ⟨v, rfl, d⟩ := hd'.some_inv
  exact wpAny_Name (wpAny_loadName_cell hk hl (FC.cell_lookup hc) hn (S.post d h)) hd
theorem E_global {x : Str} {pos : Pos} {v : Value} {Q : PV → Hp → Prop} (O : C.Ok) (e : nsIn C.K mainGlobals x = some (some v)) (h : Q (.raw v) H)
    (hk : autoParam (F.scope.kind = .function) Au.a0) (hl : autoParam (F.scope.names.lookup x = some .globalImplicit) Au.a0) (hd : autoParam ((x == ("__debug__" : Str)) = false) Au.a1) :
    JE C F n X (.Name x pos) Q H := by
  intro A c s a i S
  exact Calls.Name_function_global hk hl (Calls.loadGlobal_global (env := F.env c) (O.top.g.keeps S.base) (mg_of O.k O.top.g e) (S.post (p := .raw v) rfl h)) hd
theorem E_builtin {x : Str} {pos : Pos} {v : Value} {Q : PV → Hp → Prop} (O : C.Ok) (e : nsIn C.K mainGlobals x = some none) (hv : bootBuiltins x = some v) (h : Q (.raw v) H) (hn : autoParam (x ≠ "__name__") Au.a1)
    (hk : autoParam (F.scope.kind = .function) Au.a0) (hl : autoParam (F.scope.names.lookup x = some .globalImplicit) Au.a0) (hd : autoParam ((x == ("__debug__" : Str)) = false) Au.a1) :
    JE C F n X (.Name x pos) Q H := by
  intro A c s a i S
  exact Calls.Name_function_global hk hl (Calls.loadGlobal_builtin (env := F.env c) (O.top.g.keeps S.base) (mg_none_of O.k O.top.g e) (O.top.b.keeps S.base) ((O.top.builtins x hn).trans hv) (S.post (p := .raw v) rfl h)) hd
theorem E_int {k : Int} {u : Nat} {pos : Pos} {Q : PV → Hp → Prop} (h : Q (.int k) H) : JE C F n X (.Constant (.int k) u pos) Q H :=
  fun _ _ _ _ _ S => wpAny_Constant_int ((S.same _ _).post (p := .int k) ⟨_, rfl⟩ h)
theorem E_str {k : Str} {u : Nat} {pos : Pos} {Q : PV → Hp → Prop} (h : Q (.str k) H) : JE C F n X (.Constant (.str k) u pos) Q H :=
  fun _ _ _ _ _ S => wpAny_Constant_str ((S.same _ _).post (p := .str k) ⟨_, rfl⟩ h)
theorem E_bool {k : Bool} {u : Nat} {pos : Pos} {Q : PV → Hp → Prop} (h : Q (.bool k) H) : JE C F n X (.Constant (.bool k) u pos) Q H :=
  fun _ _ _ _ _ S => wpAny_Constant_bool (S.post (p := .bool k) rfl h)
theorem E_none {u : Nat} {pos : Pos} {Q : PV → Hp → Prop} (h : Q .none H) : JE C F n X (.Constant .none u pos) Q H :=
  fun _ _ _ _ _ S => wpAny_Constant_none (S.post (p := .none) rfl h)

/-! compound expressions -/
theorem E_bin {op : Operator} {l r : Expr} {pos : Pos} {Q : PV → Hp → Prop} (h : JE C F n X l (fun p H₁ => JE C F n X r (fun q H₂ => J2 C n X (fun u v => binaryOp op u v) p q Q H₂) H₁) H) :
    JE C F n X (.BinOp l op r pos) Q H := by
  intro A c s a i S
  exact wpAny_BinOp (wpP (h A c s a i S) fun u s₁ p H₁ c₁ x₁ d₁ S₁ h₁ => (wpPx x₁ (h₁.on a i x₁ S₁) fun v s₂ q H₂ c₂ x₂ d₂ S₂ h₂ => h₂.at a (x₁.trans x₂) (d₁.ext x₂) d₂ S₂))
end
-- M3
section
variable {C : Ctx} {F : FC} {n : Nat} {X : XT} {H : Hp}

/-! weakening -/
theorem JE.mono {e : Expr} {Q Q' : PV → Hp → Prop} (h : JE C F n X e Q H) (q : ∀ p H, Q p H → Q' p H) : JE C F n X e Q' H :=
  fun A c s a i S => (wpP (h A c s a i S) fun _ _ p H' c' x d S' z => ⟨p, H', c', x, d, S', q _ _ z⟩)
theorem JS.mono {e : List Stmt} {Q Q' : AF → Hp → Prop} (h : JS C F n X e Q H) (q : ∀ p H, Q p H → Q' p H) : JS C F n X e Q' H :=
  fun A c s a i S => (wpF (h A c s a i S) fun _ _ p H' c' x d S' z => ⟨p, H', c', x, d, S', q _ _ z⟩)
theorem JX.mono {e : Stmt} {Q Q' : AF → Hp → Prop} (h : JX C F n X e Q H) (q : ∀ p H, Q p H → Q' p H) : JX C F n X e Q' H :=
  fun A c s a i S => (wpF (h A c s a i S) fun _ _ p H' c' x d S' z => ⟨p, H', c', x, d, S', q _ _ z⟩)

/-! looks at the syntax -/
noncomputable def pl1 : Expr → Bool
  | .Call (.Name _ _) [] [] _ => false
  | _ => true
theorem pl1_of {e : Expr} (h : pl1 e = true) (name : Str) (env : Env) (whole : Sem Value) : attributeBase e name env whole = whole := by
  cases e <;> first | rfl | skip
  rename_i f as ks p
  cases f <;> first | rfl | skip
  cases as with
  | cons _ _ => rfl
  | nil =>
    cases ks with
    | cons _ _ => rfl
    | nil => exact absurd h Bool.false_ne_true
noncomputable def pl2 : Expr → Bool
  | .Starred .. => false
  | _ => true
theorem pl2_of {e : Expr} (h : pl2 e = true) (es : List Expr) (env : Env) : starEach (e :: es) env = (false, eval e env) :: starEach es env := by
  cases e <;> first | rfl | exact absurd h Bool.false_ne_true
noncomputable def pl2s : List Expr → Bool
  | [] => true
  | e :: es => pl2 e && pl2s es
theorem pl2s_of (env : Env) : ∀ {es : List Expr}, pl2s es = true → (starEach es env).any (·.1) = false
  | [], _ => rfl
  | e :: es, h => by
    have h' : pl2 e = true ∧ pl2s es = true := Bool.and_eq_true_iff.mp h
    rw [pl2_of h'.1, List.any_cons, pl2s_of env h'.2]; rfl
noncomputable def pl3 : Expr → Bool
  | .UnaryOp .. | .BoolOp .. | .IfExp .. | .Compare .. => false
  | _ => true
theorem pl3_of {e : Expr} (h : pl3 e = true) (env : Env) (whole : Sem Value) : isTrue e env whole = (do let v ← whole; standAt e.pos; holding [v] (truthy v)) := by
  cases e <;> first | rfl | exact absurd h Bool.false_ne_true
noncomputable def pl4 : Expr → Bool
  | .ListComp .. | .SetComp .. | .DictComp .. => false
  | _ => true
theorem pl4_of {e : Expr} (h : pl4 e = true) (t : Option Expr) (k : Nat) (env : Env) : swapsWith e t k env = pure false := by
  cases e <;> first | rfl | exact absurd h Bool.false_ne_true
/-! expressions -/
theorem E_attr {e : Expr} {name : Str} {pos : Pos} {Q : PV → Hp → Prop} (h : JE C F n X e (fun p H₁ => J1 C n X (fun u => getAttr u name true) p Q H₁) H)
    (hb : autoParam (pl1 e = true) Au.a2) : JE C F n X (.Attribute e name pos) Q H := by
  intro A c s a i S
  exact Attribute_any_ (wpP (h A c s a i S) fun u s₁ p H₁ c₁ x₁ d₁ S₁ h₁ => h₁.at a x₁ d₁ S₁) (by rw [arm_eval_Attribute, pl1_of hb])

noncomputable def JSub (C : Ctx) (n : Nat) (X : XT) (slice : Expr) (p q : PV) (Q : PV → Hp → Prop) (H : Hp) : Prop :=
  ∀ (value : Expr) A c s u v, AOK n c A → Den c p u → Den c q v → St C c H s → wpAny C.M A (subscriptTail value slice u v) (Post C c Q) (PostX X c) s
theorem JSub.at {slice value : Expr} {p q : PV} {Q : PV → Hp → Prop} {A : Around} {c c₁ : Cf} {s : Shared} {u v : Value} (h : JSub C n X slice p q Q H) (a : AOK n c A) (x : c.Ext c₁) (d : Den c₁ p u) (d' : Den c₁ q v) (S : St C c₁ H s) :
    wpAny C.M A (subscriptTail value slice u v) (Post C c Q) (PostX X c) s :=
  wpAny_mono (h value A c₁ s u v (a.ext x) d d' S) (fun _ _ p => p.from x) (fun _ _ p => p.from x)
theorem E_sub {value slice : Expr} {pos : Pos} {Q : PV → Hp → Prop} (h : JE C F n X value (fun p H₁ => JE C F n X slice (fun q H₂ => JSub C n X slice p q Q H₂) H₁) H) :
    JE C F n X (.Subscript value slice pos) Q H := by
  intro A c s a i S
  exact Subscript_ (wpP (h A c s a i S) fun u s₁ p H₁ c₁ x₁ d₁ S₁ h₁ => (wpPx x₁ (h₁.on a i x₁ S₁) fun v s₂ q H₂ c₂ x₂ d₂ S₂ h₂ => h₂.at a (x₁.trans x₂) (d₁.ext x₂) d₂ S₂))

theorem E_cmp {op : CmpOp} {l r : Expr} {pos : Pos} {Q : PV → Hp → Prop} (h : JE C F n X l (fun p H₁ => JE C F n X r (fun q H₂ => J2 C n X (fun u v => compareOp op u v) p q Q H₂) H₁) H)
    (hm : autoParam (behindInMarks op r = false) Au.a3) : JE C F n X (.Compare l [op] [r] pos) Q H := by
  intro A c s a i S
  exact wpAny_Compare1 (wpP (h A c s a i S) fun u s₁ p H₁ c₁ x₁ d₁ S₁ h₁ => (wpPx x₁ (h₁.on a i x₁ S₁) fun v s₂ q H₂ c₂ x₂ d₂ S₂ h₂ => h₂.at a (x₁.trans x₂) (d₁.ext x₂) d₂ S₂)) hm
theorem B_cmp {op : CmpOp} {l r : Expr} {pos : Pos} {Q : Bool → Hp → Prop}
    (h : JE C F n X l (fun p H₁ => JE C F n X r (fun q H₂ => J2 C n X (fun u v => compareOp op u v) p q (fun t H₃ => ∃ b, t = .bool b ∧ Q b H₃) H₂) H₁) H)
    (hm : autoParam (behindInMarks op r = false) Au.a3) : JB C F n X (.Compare l [op] [r] pos) Q H := by
  intro A c s a i S
  refine wpAny_isTrue_Compare1 (wpP (h A c s a i S) fun u s₁ p H₁ c₁ x₁ d₁ S₁ h₁ => (wpPx x₁ (h₁.on a i x₁ S₁) fun v s₂ q H₂ c₂ x₂ d₂ S₂ h₂ => (wpP (h₂.at a (x₁.trans x₂) (d₁.ext x₂) d₂ S₂) fun w s₃ t H₃ c₃ x₃ d₃ S₃ hq => ?_))) hm
  obtain ⟨b, e, q₃⟩ := hq
  subst e
  have : w = .bool b := d₃
  subst this
  exact wpAny_truthy_bool ⟨H₃, c₃, x₃, S₃, q₃⟩
theorem B_value {e : Expr} {Q : Bool → Hp → Prop} (h : JE C F n X e (fun p H₁ => JT C n X p Q H₁) H)
    (he : autoParam (pl3 e = true) Au.a2) : JB C F n X e Q H := by
  intro A c s a i S
  exact wpAny_isTrue_value (wpP (h A c s a i S) fun u s₁ p H₁ c₁ x₁ d₁ S₁ h₁ => h₁.at a x₁ d₁ S₁) (pl3_of he _ _)
theorem B_not {e : Expr} {pos : Pos} {Q : Bool → Hp → Prop} (h : JB C F n X e (fun b => Q (!b)) H) : JB C F n X (.UnaryOp .Not e pos) Q H :=
  fun A c s a i S => wpAny_isTrue_Not (h A c s a i S)
noncomputable def JAll (C : Ctx) (F : FC) (n : Nat) (X : XT) (op : PySem.BoolOp) (es : List Expr) (Q : Bool → Hp → Prop) (H : Hp) : Prop :=
  ∀ A c s, AOK n c A → F.In c → St C c H s → wpAny C.M A (allTrue op es (F.env c)) (fun b => PostU C c (Q b)) (PostX X c) s
theorem B_bool {op : PySem.BoolOp} {es : List Expr} {pos : Pos} {Q : Bool → Hp → Prop} (h : JAll C F n X op es Q H) : JB C F n X (.BoolOp op es pos) Q H :=
  fun A c s a i S => wpAny_isTrue_BoolOp (h A c s a i S)
theorem All_and_nil {Q : Bool → Hp → Prop} (h : Q true H) : JAll C F n X .And [] Q H := fun _ _ _ _ _ S => wpAny_allTrue_And_nil (S.postU h)
theorem All_or_nil {Q : Bool → Hp → Prop} (h : Q false H) : JAll C F n X .Or [] Q H := fun _ _ _ _ _ S => wpAny_allTrue_Or_nil (S.postU h)
theorem All_and {e : Expr} {es : List Expr} {Q : Bool → Hp → Prop} (h : JB C F n X e (fun b H₁ => (b = true → JAll C F n X .And es Q H₁) ∧ (b = false → Q false H₁)) H) : JAll C F n X .And (e :: es) Q H := by
  intro A c s a i S
  refine wpAny_allTrue_And_cons (wpU (h A c s a i S) fun b s₁ H₁ c₁ x₁ S₁ hq => ?_)
  obtain ⟨h₁, h₂⟩ := hq
  cases b with
  | true =>
    have := h₁ rfl A c₁ s₁ (a.ext x₁) (i.ext x₁) S₁
    rw [FC.env_ext i x₁] at this
    exact wpAny_mono this (fun _ _ p => p.from x₁) (fun _ _ p => p.from x₁)
  | false => exact ⟨H₁, c₁, x₁, S₁, h₂ rfl⟩
theorem All_or {e : Expr} {es : List Expr} {Q : Bool → Hp → Prop} (h : JB C F n X e (fun b H₁ => (b = false → JAll C F n X .Or es Q H₁) ∧ (b = true → Q true H₁)) H) : JAll C F n X .Or (e :: es) Q H := by
  intro A c s a i S
  refine wpAny_allTrue_Or_cons (wpU (h A c s a i S) fun b s₁ H₁ c₁ x₁ S₁ hq => ?_)
  obtain ⟨h₁, h₂⟩ := hq
  cases b with
  | false =>
    have := h₁ rfl A c₁ s₁ (a.ext x₁) (i.ext x₁) S₁
    rw [FC.env_ext i x₁] at this
    exact wpAny_mono this (fun _ _ p => p.from x₁) (fun _ _ p => p.from x₁)
  | true => exact ⟨H₁, c₁, x₁, S₁, h₂ rfl⟩
theorem E_ifexp {t b o : Expr} {pos : Pos} {Q : PV → Hp → Prop} (h : JB C F n X t (fun v H₁ => (v = true → JE C F n X b Q H₁) ∧ (v = false → JE C F n X o Q H₁)) H) : JE C F n X (.IfExp t b o pos) Q H := by
  intro A c s a i S
  refine wpAny_IfExp (wpU (h A c s a i S) fun v s₁ H₁ c₁ x₁ S₁ hq => ?_)
  obtain ⟨h₁, h₂⟩ := hq
  cases v with
  | true => exact (h₁ rfl).at a i x₁ S₁
  | false => exact (h₂ rfl).at a i x₁ S₁
theorem E_and2 {x y : Expr} {pos : Pos} {Q : PV → Hp → Prop} (h : JE C F n X x (fun p H₁ => JT C n X p (fun b H₂ => (b = true → JE C F n X y Q H₂) ∧ (b = false → Q p H₂)) H₁) H) : JE C F n X (.BoolOp .And [x, y] pos) Q H := by
  intro A c s a i S
  refine wpAny_And2 (wpP (h A c s a i S) fun u s₁ p H₁ c₁ x₁ d₁ S₁ h₁ => (wpUx x₁ (h₁ A c₁ s₁ u (a.ext x₁) d₁ S₁) fun b s₂ H₂ c₂ x₂ S₂ hq => ?_))
  obtain ⟨q₁, q₂⟩ := hq
  cases b with
  | true => exact (q₁ rfl).at a i (x₁.trans x₂) S₂
  | false => exact ⟨p, H₂, c₂, x₁.trans x₂, d₁.ext x₂, S₂, q₂ rfl⟩
theorem E_or2 {x y : Expr} {pos : Pos} {Q : PV → Hp → Prop} (h : JE C F n X x (fun p H₁ => JT C n X p (fun b H₂ => (b = false → JE C F n X y Q H₂) ∧ (b = true → Q p H₂)) H₁) H) : JE C F n X (.BoolOp .Or [x, y] pos) Q H := by
  intro A c s a i S
  refine wpAny_Or2 (wpP (h A c s a i S) fun u s₁ p H₁ c₁ x₁ d₁ S₁ h₁ => (wpUx x₁ (h₁ A c₁ s₁ u (a.ext x₁) d₁ S₁) fun b s₂ H₂ c₂ x₂ S₂ hq => ?_))
  obtain ⟨q₁, q₂⟩ := hq
  cases b with
  | false => exact (q₁ rfl).at a i (x₁.trans x₂) S₂
  | true => exact ⟨p, H₂, c₂, x₁.trans x₂, d₁.ext x₂, S₂, q₂ rfl⟩

/-! argument lists -/
noncomputable def JArgs (C : Ctx) (F : FC) (n : Nat) (X : XT) (es : List Expr) (Q : List PV → Hp → Prop) (H : Hp) : Prop :=
  ∀ pos A c s, AOK n c A → F.In c → St C c H s → wpAny C.M A (spliced (backTo pos (starEach es (F.env c)))) (PostL C c Q) (PostX X c) s
theorem A_nil {Q : List PV → Hp → Prop} (h : Q [] H) : JArgs C F n X [] Q H := fun _ _ c _ _ _ S => wpAny_items_nil ⟨[], H, c, .refl c, .nil, S, h⟩
theorem A_cons {e : Expr} {es : List Expr} {Q : List PV → Hp → Prop} (h : JE C F n X e (fun p H₁ => JArgs C F n X es (fun ps H₂ => Q (p :: ps) H₂) H₁) H)
    (he : autoParam (pl2 e = true) Au.a2) : JArgs C F n X (e :: es) Q H := by
  intro pos A c s a i S
  refine wpAny_items_cons (wpP (h A c s a i S) fun u s₁ p H₁ c₁ x₁ d₁ S₁ h₁ => ?_) (pl2_of he _ _)
  have := h₁ pos A c₁ s₁ (a.ext x₁) (i.ext x₁) S₁
  rw [FC.env_ext i x₁] at this
  exact (wpLx x₁ this fun vs s₂ ps H₂ c₂ x₂ d₂ S₂ q => ⟨p :: ps, H₂, c₂, x₁.trans x₂, .cons (d₁.ext x₂) d₂, S₂, q⟩)
noncomputable def JKws (C : Ctx) (F : FC) (n : Nat) (X : XT) (kws : List Keyword) (Q : List PV → Hp → Prop) (H : Hp) : Prop :=
  ∀ pos A c s, AOK n c A → F.In c → St C c H s → wpAny C.M A (evalAll ((backToKw pos (keywordEach kws (F.env c))).map (·.2))) (PostL C c Q) (PostX X c) s
theorem K_nil {Q : List PV → Hp → Prop} (h : Q [] H) : JKws C F n X [] Q H := fun _ _ c _ _ _ S => kwAll_nil ⟨[], H, c, .refl c, .nil, S, h⟩
theorem K_cons {nm : Option Str} {e : Expr} {kp : Pos} {es : List Keyword} {Q : List PV → Hp → Prop} (h : JE C F n X e (fun p H₁ => JKws C F n X es (fun ps H₂ => Q (p :: ps) H₂) H₁) H) : JKws C F n X (⟨nm, e, kp⟩ :: es) Q H := by
  intro pos A c s a i S
  have e1 : (backToKw pos (keywordEach (⟨nm, e, kp⟩ :: es) (F.env c))).map (·.2) = (do let v ← eval e (F.env c); standAt pos; pure v) :: (backToKw pos (keywordEach es (F.env c))).map (·.2) := by
    rw [arm_keywordEach_cons]; rfl
  rw [e1]
  refine wpAny_evalAll_cons (wpAny_bind (wpP (h A c s a i S) fun u s₁ p H₁ c₁ x₁ d₁ S₁ h₁ => wpAny_bind (wpAny_standAt (wpAny_pure ?_))))
  have := h₁ pos A c₁ s₁ (a.ext x₁) (i.ext x₁) S₁
  rw [FC.env_ext i x₁] at this
  exact (wpLx x₁ this fun vs s₂ ps H₂ c₂ x₂ d₂ S₂ q => ⟨p :: ps, H₂, c₂, x₁.trans x₂, .cons (d₁.ext x₂) d₂, S₂, q⟩)

/-! calls -/
noncomputable def JCall (C : Ctx) (n : Nat) (X : XT) (f : Value) (ps : List PV) (kn : List Str) (ks : List PV) (Q : PV → Hp → Prop) (H : Hp) : Prop :=
  ∀ A c s vs us, AOK n c A → DenL c ps vs → DenL c ks us → St C c H s → wpAny C.M A (call f vs (kn.zip us)) (Post C c Q) (PostX X c) s
theorem JCall.at {f : Value} {ps ks : List PV} {kn : List Str} {Q : PV → Hp → Prop} {A : Around} {c c₁ : Cf} {s : Shared} {vs us : List Value} (h : JCall C n X f ps kn ks Q H) (a : AOK n c A) (x : c.Ext c₁) (d : DenL c₁ ps vs) (d' : DenL c₁ ks us) (S : St C c₁ H s) :
    wpAny C.M A (call f vs (kn.zip us)) (Post C c Q) (PostX X c) s :=
  wpAny_mono (h A c₁ s vs us (a.ext x) d d' S) (fun _ _ p => p.from x) (fun _ _ p => p.from x)
/-- the call's tree behind the callee: first the arguments, then the call -/
noncomputable def JCW (C : Ctx) (F : FC) (n : Nat) (X : XT) (f : Value) (first : List PV) (args : List Expr) (kws : List Keyword) (Q : PV → Hp → Prop) (H : Hp) : Prop :=
  ∀ pos A c s fs, AOK n c A → F.In c → DenL c first fs → St C c H s → wpAny C.M A (callWith pos f fs (backTo pos (starEach args (F.env c))) (backToKw pos (keywordEach kws (F.env c)))) (Post C c Q) (PostX X c) s
theorem JCW.at {f : Value} {first : List PV} {args : List Expr} {kws : List Keyword} {Q : PV → Hp → Prop} {A : Around} {c c₁ : Cf} {s : Shared} {pos : Pos} {fs : List Value} (h : JCW C F n X f first args kws Q H) (a : AOK n c A) (i : F.In c) (x : c.Ext c₁) (d : DenL c₁ first fs) (S : St C c₁ H s) :
    wpAny C.M A (callWith pos f fs (backTo pos (starEach args (F.env c))) (backToKw pos (keywordEach kws (F.env c)))) (Post C c Q) (PostX X c) s := by
  have := h pos A c₁ s fs (a.ext x) (i.ext x) d S
  rw [FC.env_ext i x] at this
  exact wpAny_mono this (fun _ _ p => p.from x) (fun _ _ p => p.from x)

theorem star_plain (pos : Pos) (env : Env) : ∀ (es : List Expr), (∀ env, (starEach es env).any (·.1) = false) → (backTo pos (starEach es env)).any (·.1) = false := by
  intro es h
  have : ∀ l : List (Bool × Sem Value), (backTo pos l).any (·.1) = l.any (·.1) := by
    intro l
    induction l with
    | nil => rfl
    | cons x r ih => show (x.1 || (backTo pos r).any (·.1)) = _; rw [ih]; rfl
  rw [this]; exact h env

/-- a callee that is an object of the text: a def or a class -/
theorem CW_K {f : Value} {first : List PV} {e : Expr} {es : List Expr} {Q : PV → Hp → Prop} (O : C.Ok) (hk : keepIn C.K f = true) (h : JArgs C F n X (e :: es) (fun ps H₁ => JCall C n X f (first ++ ps) [] [] Q H₁) H)
    (he : autoParam (pl2 e = true) Au.a2) (hp : autoParam (pl2s es = true) Au.a2) : JCW C F n X f first (e :: es) [] Q H := by
  intro pos A c s fs a i d S
  refine callWith_K (h₀ := C.hb) O.k hk (wpL (h pos A c s a i S) fun vs s₁ ps H₁ c₁ x₁ d₁ S₁ h₁ => ⟨O.k.keeps S₁.base, ?_⟩) (pl2_of he _ _) (star_plain _ _ _ fun _ => pl2s_of _ hp)
  exact h₁.at a x₁ ((d.ext x₁).append d₁) .nil S₁
theorem CW_K0 {f : Value} {first : List PV} {Q : PV → Hp → Prop} (O : C.Ok) (hk : keepIn C.K f = true) (h : JCall C n X f first [] [] Q H) : JCW C F n X f first [] [] Q H := by
  intro pos A c s fs a i d S
  refine callWith_K0 (O.k.keeps S.base) hk ?_
  rw [List.append_nil]
  exact h A c s fs [] a d .nil S
theorem CW_KW {f : Value} {first : List PV} {e : Expr} {es : List Expr} {kws : List Keyword} {Q : PV → Hp → Prop} (O : C.Ok) (hk : keepIn C.K f = true) (kn : List Str)
    (h : JArgs C F n X (e :: es) (fun ps H₁ => JKws C F n X kws (fun ks H₂ => JCall C n X f (first ++ ps) kn ks Q H₂) H₁) H)
    (hall : autoParam (∀ pos env, (backToKw pos (keywordEach kws env)).all (·.1.isSome) = true) Au.a4)
    (hn : autoParam (∀ pos env, (backToKw pos (keywordEach kws env)).filterMap (·.1) = kn) Au.a4)
    (he : autoParam (pl2 e = true) Au.a2)
    (hp : autoParam (∀ pos env, ((backTo pos (starEach (e :: es) env)).any (·.1) || (backToKw pos (keywordEach kws env)).any (·.1.isNone)) = false) Au.a4) : JCW C F n X f first (e :: es) kws Q H := by
  intro pos A c s fs a i d S
  refine callWith_KW (h₀ := C.hb) O.k hk (hall _ _) (wpL (h pos A c s a i S) fun vs s₁ ps H₁ c₁ x₁ d₁ S₁ h₁ => ?_) (hp _ _) (pl2_of he _ _)
  have := h₁ pos A c₁ s₁ (a.ext x₁) (i.ext x₁) S₁
  rw [FC.env_ext i x₁] at this
  refine (wpLx x₁ this fun us s₂ ks H₂ c₂ x₂ d₂ S₂ h₂ => ⟨O.k.keeps S₂.base, ?_⟩)
  rw [hn]
  exact h₂.at a (x₁.trans x₂) (((d.ext x₁).append d₁).ext x₂) d₂ S₂
theorem CW_B {id : String} {first : List PV} {e : Expr} {es : List Expr} {Q : PV → Hp → Prop} (h : JArgs C F n X (e :: es) (fun ps H₁ => JCall C n X (.builtin id) (first ++ ps) [] [] Q H₁) H)
    (he : autoParam (pl2 e = true) Au.a2) (hp : autoParam (pl2s (e :: es) = true) Au.a2) : JCW C F n X (.builtin id) first (e :: es) [] Q H := by
  intro pos A c s fs a i d S
  refine Calls.callWith_builtin (star_plain _ _ _ fun _ => pl2s_of _ hp) ?_
  have e1 := h pos A c s a i S
  rw [pl2_of he] at e1 ⊢
  refine evalArgs_plain (wpL e1 fun vs s₁ ps H₁ c₁ x₁ d₁ S₁ h₁ => ?_)
  exact h₁.at a x₁ ((d.ext x₁).append d₁) .nil S₁
theorem CW_B0 {id : String} {first : List PV} {Q : PV → Hp → Prop} (h : JCall C n X (.builtin id) first [] [] Q H) : JCW C F n X (.builtin id) first [] [] Q H := by
  intro pos A c s fs a i d S
  refine Calls.callWith_builtin rfl ?_
  refine evalArgs_nil3 ?_
  dsimp only
  rw [List.append_nil]
  exact h A c s fs [] a d .nil S
theorem CW_T {T : String} {first : List PV} {e : Expr} {es : List Expr} {Q : PV → Hp → Prop} (h : JArgs C F n X (e :: es) (fun ps H₁ => JCall C n X (.type T) (first ++ ps) [] [] Q H₁) H)
    (he : autoParam (pl2 e = true) Au.a2) (hp : autoParam (pl2s (e :: es) = true) Au.a2) : JCW C F n X (.type T) first (e :: es) [] Q H := by
  intro pos A c s fs a i d S
  refine PySem.callWith_type (star_plain _ _ _ fun _ => pl2s_of _ hp) ?_
  have e1 := h pos A c s a i S
  rw [pl2_of he] at e1 ⊢
  refine evalArgs_plain (wpL e1 fun vs s₁ ps H₁ c₁ x₁ d₁ S₁ h₁ => ?_)
  exact h₁.at a x₁ ((d.ext x₁).append d₁) .nil S₁
theorem CW_T0 {T : String} {first : List PV} {Q : PV → Hp → Prop} (h : JCall C n X (.type T) first [] [] Q H) : JCW C F n X (.type T) first [] [] Q H := by
  intro pos A c s fs a i d S
  refine PySem.callWith_type rfl ?_
  refine evalArgs_nil3 ?_
  dsimp only
  rw [List.append_nil]
  exact h A c s fs [] a d .nil S

theorem E_call {x : Str} {np pos : Pos} {args : List Expr} {kws : List Keyword} {Q : PV → Hp → Prop} (h : JE C F n X (.Name x np) (fun p H₁ => ∃ f, p = .raw f ∧ JCW C F n X f [] args kws Q H₁) H) :
    JE C F n X (.Call (.Name x np) args kws pos) Q H := by
  intro A c s a i S
  refine wpAny_Call_Name_kw (wpP (h A c s a i S) fun u s₁ p H₁ c₁ x₁ d₁ S₁ hq => ?_)
  obtain ⟨f, e, h₁⟩ := hq
  subst e
  have : u = f := d₁
  subst this
  exact h₁.at a i x₁ .nil S₁

noncomputable def JMeth (C : Ctx) (n : Nat) (X : XT) (name : Str) (p : PV) (Q : Value → List PV → Hp → Prop) (H : Hp) : Prop :=
  ∀ pl A c s u, AOK n c A → Den c p u → St C c H s → wpAny C.M A (getMethod u name pl) (fun fx => PostL C c (Q fx.1) fx.2) (PostX X c) s
theorem E_meth {o : Expr} {name : Str} {apos pos : Pos} {args : List Expr} {kws : List Keyword} {Q : PV → Hp → Prop} (pl : Env → Sem Bool) (h : JE C F n X o (fun p H₁ => JMeth C n X name p (fun f first H₂ => JCW C F n X f first args kws Q H₂) H₁) H)
    (he : autoParam (∀ env, eval (.Call (.Attribute o name apos) args kws pos) env = (do
      let ov ← eval o env
      standAt apos.atName
      let (f, first) ← holding [ov] (getMethod ov name (pl env))
      callWith pos f first (backTo pos (starEach args env)) (backToKw pos (keywordEach kws env)))) Au.a5) :
    JE C F n X (.Call (.Attribute o name apos) args kws pos) Q H := by
  intro A c s a i S
  refine methodCall_KW (pl := pl (F.env c)) (wpP (h A c s a i S) fun u s₁ p H₁ c₁ x₁ d₁ S₁ h₁ => ?_) (he _)
  exact (wpMx (Q := fun f first H₂ => JCW C F n X f first args kws Q H₂) x₁ (h₁ _ A c₁ s₁ u (a.ext x₁) d₁ S₁) fun fx s₂ ps H₂ c₂ x₂ d₂ S₂ h₂ => h₂.at a i (x₁.trans x₂) d₂ S₂)

/-! statements -/
theorem S_nil {Q : AF → Hp → Prop} (h : Q .next H) : JS C F n X [] Q H := fun _ c _ _ _ S => wpAny_execs_nil ⟨.next, H, c, .refl c, rfl, S, h⟩
/-- what is asked behind a statement -/
noncomputable abbrev SeqQ (C : Ctx) (F : FC) (n : Nat) (X : XT) (ss : List Stmt) (Q : AF → Hp → Prop) : AF → Hp → Prop := fun f H₁ => (f = .next → JS C F n X ss Q H₁) ∧ (f ≠ .next → Q f H₁)
section
variable {ss : List Stmt} {Q : AF → Hp → Prop}
theorem Seq_next (h : JS C F n X ss Q H) : SeqQ C F n X ss Q .next H := ⟨fun _ => h, fun q => absurd rfl q⟩
theorem Seq_ret {p : PV} (h : Q (.ret p) H) : SeqQ C F n X ss Q (.ret p) H := ⟨fun q => (nomatch q), fun _ => h⟩
theorem Seq_cont (h : Q .cont H) : SeqQ C F n X ss Q .cont H := ⟨fun q => (nomatch q), fun _ => h⟩
theorem Seq_brk (h : Q .brk H) : SeqQ C F n X ss Q .brk H := ⟨fun q => (nomatch q), fun _ => h⟩
end
/-- what is asked, unseen -/
noncomputable def EndQ (I : AF → Hp → Prop) (f : AF) (H : Hp) : Prop := I f H
theorem EndQ_intro {P I : AF → Hp → Prop} {f : AF} {H : Hp} (hI : ∀ f H, P f H → I f H) (h : P f H) : EndQ I f H := hI f H h
noncomputable def EndE (I : PV → Hp → Prop) (p : PV) (H : Hp) : Prop := I p H
theorem EndE_intro {P I : PV → Hp → Prop} {p : PV} {H : Hp} (hI : ∀ p H, P p H → I p H) (h : P p H) : EndE I p H := hI p H h
/-- what is asked behind a turn -/
noncomputable def ForQ (I : Hp → Prop) (Q : AF → Hp → Prop) (f : AF) (H : Hp) : Prop := match f with | .next => I H | .cont => I H | .brk => Q .next H | .ret p => Q (.ret p) H
section
variable {P I : Hp → Prop} {Q : AF → Hp → Prop} {H : Hp}
theorem ForQ_next (hI : ∀ H, P H → I H) (h : P H) : ForQ I Q .next H := hI H h
theorem ForQ_cont (hI : ∀ H, P H → I H) (h : P H) : ForQ I Q .cont H := hI H h
theorem ForQ_brk (h : Q .next H) : ForQ I Q .brk H := h
theorem ForQ_ret {p : PV} (h : Q (.ret p) H) : ForQ I Q (.ret p) H := h
end
theorem JX.via {e : Stmt} {Q : AF → Hp → Prop} {P : AF → Hp → Prop} (h : ∀ I : AF → Hp → Prop, (∀ f H, P f H → I f H) → JX C F n X e (EndQ I) H) (q : ∀ f H, P f H → Q f H) : JX C F n X e Q H := (h P fun _ _ h => h).mono q
theorem JE.via {e : Expr} {Q : PV → Hp → Prop} {P : PV → Hp → Prop} (h : ∀ I : PV → Hp → Prop, (∀ f H, P f H → I f H) → JE C F n X e (EndE I) H) (q : ∀ f H, P f H → Q f H) : JE C F n X e Q H := (h P fun _ _ h => h).mono q
theorem S_cons {st : Stmt} {ss : List Stmt} {Q : AF → Hp → Prop} (h : JX C F n X st (SeqQ C F n X ss Q) H) : JS C F n X (st :: ss) Q H := by
  intro A c s a i S
  refine wpAny_execs_cons (wpF (h A c s a i S) fun f s₁ g H₁ c₁ x₁ d₁ S₁ hq => ?_)
  obtain ⟨h₁, h₂⟩ := hq
  cases g with
  | next => have : f = .next := d₁; subst this; exact (h₁ rfl).at a i x₁ S₁
  | brk => have : f = .brk := d₁; subst this; exact ⟨.brk, H₁, c₁, x₁, rfl, S₁, h₂ (by intro e; cases e)⟩
  | cont => have : f = .cont := d₁; subst this; exact ⟨.cont, H₁, c₁, x₁, rfl, S₁, h₂ (by intro e; cases e)⟩
  | ret p => obtain ⟨v, rfl, d⟩ := d₁; exact ⟨.ret p, H₁, c₁, x₁, ⟨v, rfl, d⟩, S₁, h₂ (by intro e; cases e)⟩
theorem X_break {pos : Pos} {Q : AF → Hp → Prop} (h : Q .brk H) : JX C F n X (.Break pos) Q H := fun _ c _ _ _ S => wpAny_Break ⟨.brk, H, c, .refl c, rfl, S, h⟩
theorem X_cont {pos : Pos} {Q : AF → Hp → Prop} (h : Q .cont H) : JX C F n X (.Continue pos) Q H := fun _ c _ _ _ S => wpAny_Continue ⟨.cont, H, c, .refl c, rfl, S, h⟩
theorem X_ret {e : Expr} {pos : Pos} {Q : AF → Hp → Prop} (h : JE C F n X e (fun p H₁ => Q (.ret p) H₁) H) : JX C F n X (.Return (some e) pos) Q H :=
  fun A c s a i S => wpAny_Return_some (wpP (h A c s a i S) fun v s₁ p H₁ c₁ x₁ d₁ S₁ h₁ => ⟨.ret p, H₁, c₁, x₁, ⟨v, rfl, d₁⟩, S₁, h₁⟩)
theorem X_ret0 {pos : Pos} {Q : AF → Hp → Prop} (h : Q (.ret .none) H) : JX C F n X (.Return none pos) Q H :=
  fun _ c _ _ _ S => wpAny_Return_none ⟨.ret .none, H, c, .refl c, ⟨_, rfl, rfl⟩, S, h⟩
theorem X_expr {e : Expr} {pos : Pos} {Q : AF → Hp → Prop} (h : JE C F n X e (fun _ H₁ => Q .next H₁) H) (hi : autoParam ((F.scope.kind == .module) = false) Au.a6) (hs : autoParam (pl4 e = true) Au.a2) :
    JX C F n X (.Expr e pos) Q H :=
  fun A c s a i S => wpAny_Expr_any (wpP (h A c s a i S) fun v s₁ p H₁ c₁ x₁ d₁ S₁ h₁ => ⟨.next, H₁, c₁, x₁, rfl, S₁, h₁⟩) (by unfold interactive; rw [show ((F.env c).scope.kind == .module) = false from hi]; rfl) (pl4_of hs _ _ _)
theorem X_if {t : Expr} {b o : List Stmt} {pos : Pos} {Q : AF → Hp → Prop} (h : JB C F n X t (fun v H₁ => (v = true → JS C F n X b Q H₁) ∧ (v = false → JS C F n X o Q H₁)) H) : JX C F n X (.If t b o pos) Q H := by
  intro A c s a i S
  refine wpAny_If (wpU (h A c s a i S) fun v s₁ H₁ c₁ x₁ S₁ hq => ?_)
  obtain ⟨h₁, h₂⟩ := hq
  cases v with
  | true => exact (h₁ rfl).at a i x₁ S₁
  | false => exact (h₂ rfl).at a i x₁ S₁
theorem X_assert {t : Expr} {m : Option Expr} {pos : Pos} {Q : AF → Hp → Prop} (h : JB C F n X t (fun v H₁ => v = true ∧ Q .next H₁) H) : JX C F n X (.Assert t m pos) Q H := by
  intro A c s a i S
  exact wpAny_Assert_holds (wpU (h A c s a i S) fun v s₁ H₁ c₁ x₁ S₁ hq => by obtain ⟨h₁, h₂⟩ := hq; exact ⟨h₁, .next, H₁, c₁, x₁, rfl, S₁, h₂⟩)

/-- binding a name: a local or a cell -/
noncomputable def JStore (C : Ctx) (F : FC) (x : Str) (p : PV) (Q : Hp → Prop) (H : Hp) : Prop :=
  ∀ (A : Around) E c s v, F.In c → Den c p v → St C c H s → wpAny C.M A (storeName (F.env c) x v) (fun _ => PostU C c Q) E s
theorem st_local {x : Str} {p : PV} {m : Str → Option PV} {Q : Hp → Prop} (hm : H F.lf = some (.ns m)) (h : Q (upd H F.lf (.ns fun y => if y = x then some p else m y)))
    (hk : autoParam (F.scope.kind = .function) Au.a0) (hl : autoParam (F.scope.names.lookup x = some .local) Au.a0) : JStore C F x p Q H := by
  intro A E c s v i d S
  obtain ⟨m', hn, hd⟩ := S.ns hm
  refine wpAny_storeName_local hl hn (fun h' hn' hs => ?_) (by show (F.scope.kind == .class || (F.scope.kind == .module && c.ι F.lf != mainGlobals)) = false; rw [hk]; rfl)
  refine ⟨_, c, .refl c, S.updH (sp := .ns fun y => if y = x then some p else m y) hm hs ⟨_, hn', fun y => ?_⟩ rfl s.drawn _, h⟩
  dsimp only
  split
  · exact d
  · exact hd y
theorem st_cell {x : Str} {p : PV} {l : Loc} {o : Option PV} {Q : Hp → Prop} (hc : F.cells.lookup x = some l) (hm : H l = some (.cell o)) (h : Q (upd H l (.cell (some p))))
    (hk : autoParam (F.scope.kind = .function) Au.a0) (hl : autoParam (F.scope.names.lookup x = some .cell) Au.a0) : JStore C F x p Q H := by
  intro A E c s v i d S
  obtain ⟨v', hn, hd⟩ := S.reg l _ hm
  exact wpAny_storeName_cell hk hl (FC.cell_lookup hc) hn fun h' hn' hs => ⟨_, c, .refl c, S.updH (sp := .cell (some p)) hm hs ⟨_, hn', d⟩ rfl s.drawn s.toks, h⟩
theorem X_assign {x : Str} {np : Pos} {e : Expr} {pos : Pos} {Q : AF → Hp → Prop} (h : JE C F n X e (fun p H₁ => JStore C F x p (Q .next) H₁) H) (hs : autoParam (pl4 e = true) Au.a2) :
    JX C F n X (.Assign [.Name x np] e pos) Q H := by
  intro A c s a i S
  refine wpAny_Assign_Name (wpP (h A c s a i S) fun u s₁ p H₁ c₁ x₁ d₁ S₁ h₁ => ?_) (pl4_of hs _ _ _)
  have := h₁ A (PostX X c) c₁ s₁ u (i.ext x₁) d₁ S₁
  rw [FC.env_ext i x₁] at this
  exact (wpV this fun _ s₂ H₂ c₂ x₂ S₂ q => ⟨.next, H₂, c₂, x₁.trans x₂, rfl, S₂, q⟩)
theorem X_attr {o : Expr} {attr : Str} {ap : Pos} {e : Expr} {pos : Pos} {Q : AF → Hp → Prop} (h : JE C F n X e (fun p H₁ => JE C F n X o (fun q H₂ => J2U C n X (fun u v => setAttr u attr v) q p (Q .next) H₂) H₁) H)
    (hs : autoParam (pl4 e = true) Au.a2) : JX C F n X (.Assign [.Attribute o attr ap] e pos) Q H := by
  intro A c s a i S
  exact plainObj_wpAny_Assign_Attribute (wpP (h A c s a i S) fun u s₁ p H₁ c₁ x₁ d₁ S₁ h₁ => (wpPx x₁ (h₁.on a i x₁ S₁) fun v s₂ q H₂ c₂ x₂ d₂ S₂ h₂ => (wpV (h₂.at a (x₁.trans x₂) d₂ (d₁.ext x₂) S₂) fun _ s₃ H₃ c₃ x₃ S₃ q₃ => ⟨.next, H₃, c₃, x₃, rfl, S₃, q₃⟩))) (pl4_of hs _ _ _)
theorem X_sub {o k : Expr} {ap : Pos} {e : Expr} {pos : Pos} {Q : AF → Hp → Prop} (h : JE C F n X e (fun p H₁ => JE C F n X o (fun q H₂ => JE C F n X k (fun r H₃ => J3U C n X (fun u v w => setItem u v w) q r p (Q .next) H₃) H₂) H₁) H)
    (hs : autoParam (pl4 e = true) Au.a2) : JX C F n X (.Assign [.Subscript o k ap] e pos) Q H := by
  intro A c s a i S
  exact wpAny_Assign_Subscript (wpP (h A c s a i S) fun u s₁ p H₁ c₁ x₁ d₁ S₁ h₁ => (wpPx x₁ (h₁.on a i x₁ S₁) fun v s₂ q H₂ c₂ x₂ d₂ S₂ h₂ => (wpPx (x₁.trans x₂) (h₂.on a i (x₁.trans x₂) S₂) fun w s₃ r H₃ c₃ x₃ d₃ S₃ h₃ => (wpV (h₃.at a ((x₁.trans x₂).trans x₃) (d₂.ext x₃) d₃ ((d₁.ext x₂).ext x₃) S₃) fun _ s₄ H₄ c₄ x₄ S₄ q₄ => ⟨.next, H₄, c₄, x₄, rfl, S₄, q₄⟩)))) (pl4_of hs _ _ _)
end
-- M4

theorem DenL.size {c : Cf} {ps : List PV} {vs : Array Value} (h : DenL c ps vs.toList) : ps.length = vs.size := h.length.trans (Array.length_toList (xs := vs))
/-! dicts of abstract values -/
noncomputable def dget (kvs : List (Str × PV)) (k : Str) : Option PV := (kvs.find? fun kv => kv.1 = k).map (·.2)
noncomputable def dput (kvs : List (Str × PV)) (k : Str) (v : PV) : List (Str × PV) :=
  if kvs.any (fun kv => kv.1 = k) then kvs.map (fun kv => if kv.1 = k then (kv.1, v) else kv) else kvs ++ [(k, v)]
noncomputable def ddel (kvs : List (Str × PV)) (k : Str) : List (Str × PV) := kvs.filter fun kv => decide (kv.1 ≠ k)
theorem DenP.get {c : Cf} {ps : List (Str × PV)} {vs : List (Str × Value)} (h : DenP c ps vs) (k : Str) : DenO c (dget ps k) (valueAt vs k) := by
  induction h with
  | nil => trivial
  | @cons k' p v ps vs d _ ih =>
    unfold dget valueAt
    simp only [List.find?_cons]
    by_cases e : k' = k
    · simp only [e, decide_true]; exact d
    · simp only [e, decide_false]; exact ih
theorem DenP.append {c : Cf} {ps qs : List (Str × PV)} {vs us : List (Str × Value)} (h : DenP c ps vs) (g : DenP c qs us) : DenP c (ps ++ qs) (vs ++ us) := by
  induction h with
  | nil => exact g
  | cons a _ ih => exact .cons a ih
theorem DenP.any {c : Cf} {ps : List (Str × PV)} {vs : List (Str × Value)} (h : DenP c ps vs) (k : Str) : (ps.any fun kv => decide (kv.1 = k)) = vs.any fun kv => decide (kv.1 = k) := by
  induction h with
  | nil => rfl
  | cons a _ ih => rw [List.any_cons, List.any_cons, ih]
theorem DenP.keys {c : Cf} {ps : List (Str × PV)} {vs : List (Str × Value)} (h : DenP c ps vs) : ps.map (·.1) = vs.map (·.1) := by
  induction h with
  | nil => rfl
  | cons a _ ih => rw [List.map_cons, List.map_cons, ih]
theorem DenP.put {c : Cf} {ps : List (Str × PV)} {vs : List (Str × Value)} (h : DenP c ps vs) {k : Str} {p : PV} {v : Value} (d : Den c p v) : DenP c (dput ps k p) (stored vs k v) := by
  unfold dput stored
  rw [h.any]
  split
  · rename_i hh; clear hh
    induction h with
    | nil => exact .nil
    | @cons k' p' v' ps vs d' _ ih =>
      rw [List.map_cons, List.map_cons]
      by_cases e : k' = k
      · simp only [e, if_true]; exact .cons d (by simpa only [e] using ih)
      · simp only [e, if_false]; exact .cons d' ih
  · exact h.append (.cons d .nil)
theorem DenP.del {c : Cf} {ps : List (Str × PV)} {vs : List (Str × Value)} (h : DenP c ps vs) (k : Str) : DenP c (ddel ps k) (without vs k) := by
  unfold ddel without
  induction h with
  | nil => exact .nil
  | @cons k' p' v' ps vs d' _ ih =>
    rw [List.filter_cons, List.filter_cons]
    by_cases e : k' = k
    · simp only [e, ne_eq, not_true_eq_false, decide_false, Bool.false_eq_true, if_false]; exact ih
    · simp only [e, ne_eq, not_false_eq_true, decide_true, if_true]; exact .cons d' ih
theorem DenP.vals {c : Cf} {ps : List (Str × PV)} {vs : List (Str × Value)} (h : DenP c ps vs) : DenL c (ps.map (·.2)) (vs.map (·.2)) := by
  induction h with
  | nil => exact .nil
  | cons a _ ih => exact .cons a ih

section
variable {C : Ctx} {F : FC} {n : Nat} {X : XT} {H : Hp} {c : Cf} {s : Shared}

theorem sk_is {k : Str} {v : Value} (d : Den c (.str k) v) : C.sk.is k v = true := by
  obtain ⟨t, rfl⟩ := d
  show (k == k) = true
  exact beq_self_eq_true k

/-! reading the state -/
theorem St.list (S : St C c H s) {l : Loc} {vs : List PV} (e : H l = some (.list vs)) : ∃ items n, IsL s.heap (c.ι l) items n ∧ DenL c vs items.toList := S.reg l _ e
theorem St.dict (S : St C c H s) {l : Loc} {kvs : List (Str × PV)} (e : H l = some (.dict kvs)) : ∃ kvs', s.heap.DictOf C.sk (c.ι l) kvs' ∧ DenP c kvs kvs' := S.reg l _ e
theorem St.set (S : St C c H s) {l : Loc} {K : List Str} (e : H l = some (.set K)) : s.heap.SetOf C.sk (c.ι l) (fun k => decide (k ∈ K)) K.length ∧ K.Nodup := S.reg l _ e
theorem St.tup (S : St C c H s) {l : Loc} {vs : List PV} (e : H l = some (.tup vs)) : ∃ items n, s.heap.get? (c.ι l) = some { cls := .type "tuple", data := .seq items n } ∧ DenL c vs items.toList := S.reg l _ e
theorem St.modules (O : C.Ok) (S : St C c H s) {l : Loc} {sp : Spec} (u : H l = some sp) : (c.ι l == sysModules) = false := by
  have q1 : @LT.lt Nat _ sysModules C.hb.objs.size := modules_low O.top.nolimit
  have q2 : @LE.le Nat _ C.hb.objs.size (c.ι l) := S.hi l sp u
  exact beq_eq_false_iff_ne.mpr fun e => by rw [e] at q2; lia

/-! arithmetic -/
theorem op_add {a b : Int} {Q : PV → Hp → Prop} (h : Q (.int (a + b)) H) : J2 C n X (fun u v => binaryOp .Add u v) (.int a) (.int b) Q H := by
  rintro A c s u v _ ⟨t, rfl⟩ ⟨t', rfl⟩ S
  exact PyProof.Rows.add_int ((S.same _ _).post (p := .int _) ⟨_, rfl⟩ h)
theorem op_sub {a b : Int} {Q : PV → Hp → Prop} (h : Q (.int (a - b)) H) : J2 C n X (fun u v => binaryOp .Sub u v) (.int a) (.int b) Q H := by
  rintro A c s u v _ ⟨t, rfl⟩ ⟨t', rfl⟩ S
  exact PyProof.Rows.sub_int ((S.same _ _).post (p := .int _) ⟨_, rfl⟩ h)
theorem op_mul {a b : Int} {Q : PV → Hp → Prop} (hm : IntMulOk a b) (h : Q (.int (a * b)) H) : J2 C n X (fun u v => binaryOp .Mult u v) (.int a) (.int b) Q H := by
  rintro A c s u v _ ⟨t, rfl⟩ ⟨t', rfl⟩ S
  exact AutoIntOps.mul_0 ((S.same _ _).post (p := .int _) ⟨_, rfl⟩ h) hm
theorem op_mod {a b : Int} {Q : PV → Hp → Prop} (hb : b ≠ 0) (h : Q (.int (a.fmod b)) H) : J2 C n X (fun u v => binaryOp .Mod u v) (.int a) (.int b) Q H := by
  rintro A c s u v _ ⟨t, rfl⟩ ⟨t', rfl⟩ S
  exact PyProof.Rows.mod_int hb ((S.same _ _).post (p := .int _) ⟨_, rfl⟩ h)
theorem op_div {a b : Int} {Q : PV → Hp → Prop} (hb : b ≠ 0) (hs : b.natAbs < 1073741824) (h : Q (.int (a.fdiv b)) H) : J2 C n X (fun u v => binaryOp .FloorDiv u v) (.int a) (.int b) Q H := by
  rintro A c s u v _ ⟨t, rfl⟩ ⟨t', rfl⟩ S
  exact AutoIntOps.floordiv_1 (by simpa using hb) (by rw [PyProof.noPylong_small hs]; simp) ((S.same _ _).post (p := .int _) ⟨_, rfl⟩ h)
theorem op_addS {a b : Str} {Q : PV → Hp → Prop} (hz : a.length + b.length ≤ sizeLine) (h : Q (.str (a ++ b)) H) : J2 C n X (fun u v => binaryOp .Add u v) (.str a) (.str b) Q H := by
  rintro A c s u v _ ⟨t, rfl⟩ ⟨t', rfl⟩ S
  exact PyProof.Rows.add_str (fun t' tk => (S.same _ _).post (p := .str _) ⟨_, rfl⟩ h) hz

/-! a new object at the end of the heap -/
theorem St.push {sp : Spec} {o : Obj} {Q : PV → Hp → Prop} (S : St C c H s) (h : Alloc sp Q H) (hx : ∀ l, ¬ c.U l → Sat C (c.put l s.heap.objs.size) (s.heap.push o) s.heap.objs.size sp) (d : Drawn) (t : Nat) :
    Post C c Q (.ref s.heap.objs.size) ⟨s.heap.push o, s.gens, d, t, s.os⟩ := by
  obtain ⟨l, hl, hq⟩ := S.alloc h
  exact ⟨.loc l, _, _, Cf.put_ext hl, ⟨by rw [Cf.put_self], .inl rfl⟩, S.new hl (fun _ _ e => Heap.get?_push_of_some _ e) (Nat.le_refl _) (hx l hl) d t, hq⟩
theorem sat_list {h : Heap} {items : Array Value} {vs : List PV} (d : DenL c vs items.toList) : Sat C c (h.push { cls := .type "list", data := .seq items }) h.objs.size (.list vs) :=
  ⟨items, 0, Heap.get?_push_size _ rfl, d⟩
theorem sat_tup {h : Heap} {items : Array Value} {vs : List PV} (d : DenL c vs items.toList) : Sat C c (h.push { cls := .type "tuple", data := .seq items }) h.objs.size (.tup vs) :=
  ⟨items, 0, Heap.get?_push_size _ rfl, d⟩
theorem sat_dict0 {h : Heap} : Sat C c (h.push { cls := .type "dict", data := .dict #[] }) h.objs.size (.dict []) := ⟨[], Heap.DictOf.new h, .nil⟩

theorem sizeLine_big {k : Nat} (h : k ≤ 1000000) : k ≤ sizeLine := by unfold sizeLine; lia

theorem E_list {es : List Expr} {pos : Pos} {Q : PV → Hp → Prop} (h : JArgs C F n X es (fun ps H₁ => ps.length ≤ 1000000 ∧ Alloc (.list ps) Q H₁) H) : JE C F n X (.List es pos) Q H := by
  intro A c s a i S
  refine wpAny_List (wpL (h pos A c s a i S) fun vs s₁ ps H₁ c₁ x₁ d₁ S₁ h₁ => ⟨sizeLine_big (d₁.length ▸ h₁.1), ?_⟩)
  exact (S₁.push h₁.2 (fun l hl => sat_list (d₁.ext (Cf.put_ext hl))) s₁.drawn s₁.toks).from x₁
theorem E_tup {es : List Expr} {k : Nat} {pos : Pos} {Q : PV → Hp → Prop} (h : JArgs C F n X es (fun ps H₁ => ps.length ≤ 1000000 ∧ Alloc (.tup ps) Q H₁) H) : JE C F n X (.Tuple es k pos) Q H := by
  intro A c s a i S
  refine wpAny_Tuple (wpL (h pos A c s a i S) fun vs s₁ ps H₁ c₁ x₁ d₁ S₁ h₁ => ⟨sizeLine_big (d₁.length ▸ h₁.1), ?_⟩)
  exact (S₁.push h₁.2 (fun l hl => sat_tup (d₁.ext (Cf.put_ext hl))) s₁.drawn s₁.toks).from x₁
theorem E_dict0 {pos : Pos} {Q : PV → Hp → Prop} (h : Alloc (.dict []) Q H) : JE C F n X (.Dict [] [] pos) Q H :=
  fun A c s a i S => wpAny_Dict_empty (S.push h (fun l hl => sat_dict0) s.drawn s.toks)

theorem op_addL {l k : Loc} {xs ys : List PV} {Q : PV → Hp → Prop} (hl : H l = some (.list xs)) (hk : H k = some (.list ys)) (hz : xs.length + ys.length ≤ 1000000) (h : Alloc (.list (xs ++ ys)) Q H) :
    J2 C n X (fun u v => binaryOp .Add u v) (.loc l) (.loc k) Q H := by
  rintro A c s u v _ ⟨rfl, -⟩ ⟨rfl, -⟩ S
  obtain ⟨i1, n1, e1, d1⟩ := S.list hl
  obtain ⟨i2, n2, e2, d2⟩ := S.list hk
  refine PySem.P.add_list e1 e2 (S.push h (fun l hl => sat_list (by rw [Array.toList_append]; exact (d1.append d2).ext (Cf.put_ext hl))) s.drawn s.toks) (sizeLine_big ?_)
  rw [← d1.size, ← d2.size]; exact hz

/-! comparisons -/
theorem op_lt {a b : Int} {Q : PV → Hp → Prop} (h : Q (.bool (decide (a < b))) H) : J2 C n X (fun u v => compareOp .Lt u v) (.int a) (.int b) Q H := by
  rintro A c s u v _ ⟨t, rfl⟩ ⟨t', rfl⟩ S
  exact PyProof.Rows.lt_int (S.post (p := .bool _) rfl h)
theorem op_le {a b : Int} {Q : PV → Hp → Prop} (h : Q (.bool (decide (a ≤ b))) H) : J2 C n X (fun u v => compareOp .LtE u v) (.int a) (.int b) Q H := by
  rintro A c s u v _ ⟨t, rfl⟩ ⟨t', rfl⟩ S
  exact PyProof.Rows.le_int (S.post (p := .bool _) rfl h)
theorem op_gt {a b : Int} {Q : PV → Hp → Prop} (h : Q (.bool (decide (b < a))) H) : J2 C n X (fun u v => compareOp .Gt u v) (.int a) (.int b) Q H := by
  rintro A c s u v _ ⟨t, rfl⟩ ⟨t', rfl⟩ S
  exact PyProof.Rows.gt_int (S.post (p := .bool _) rfl h)
theorem op_eq {a b : Int} {Q : PV → Hp → Prop} (h : Q (.bool (a == b)) H) : J2 C n X (fun u v => compareOp .Eq u v) (.int a) (.int b) Q H := by
  rintro A c s u v _ ⟨t, rfl⟩ ⟨t', rfl⟩ S
  exact PyProof.Rows.eq_int (S.post (p := .bool _) rfl h)
theorem op_ne {a b : Int} {Q : PV → Hp → Prop} (h : Q (.bool (a != b)) H) : J2 C n X (fun u v => compareOp .NotEq u v) (.int a) (.int b) Q H := by
  rintro A c s u v _ ⟨t, rfl⟩ ⟨t', rfl⟩ S
  exact PyProof.Rows.ne_int (S.post (p := .bool _) rfl h)
theorem op_eqS {a b : Str} {Q : PV → Hp → Prop} (h : Q (.bool (a == b)) H) : J2 C n X (fun u v => compareOp .Eq u v) (.str a) (.str b) Q H := by
  rintro A c s u v _ ⟨t, rfl⟩ ⟨t', rfl⟩ S
  exact PyProof.Rows.eq_str (S.post (p := .bool _) rfl h)
theorem op_eqNS {b : Str} {Q : PV → Hp → Prop} (h : Q (.bool false) H) : J2 C n X (fun u v => compareOp .Eq u v) .none (.str b) Q H := by
  rintro A c s u v _ d ⟨t', rfl⟩ S
  have : u = .none := d
  subst this
  exact EqNone.eq_none_str (S.post (p := .bool _) rfl h)
noncomputable def PV.isNone : PV → Bool
  | .none => true
  | .raw v => v == .none
  | _ => false
theorem Den.isNone {p : PV} {v : Value} (d : Den c p v) : (v == Value.none) = p.isNone := by
  cases p with
  | none => have : v = .none := d; subst this; rfl
  | bool b => have : v = .bool b := d; subst this; rfl
  | int i => obtain ⟨t, rfl⟩ := d; rfl
  | str i => obtain ⟨t, rfl⟩ := d; rfl
  | loc l => obtain ⟨rfl, -⟩ := d; rfl
  | raw u => have : v = u := d; subst this; rfl
theorem op_is {p : PV} {Q : PV → Hp → Prop} (h : Q (.bool p.isNone) H) : J2 C n X (fun u v => compareOp .Is u v) p .none Q H := by
  rintro A c s u v _ d e S
  have : v = .none := e
  subst this
  exact PySem.is_none (by rw [d.isNone]; exact S.post (p := .bool _) rfl h)
theorem op_isnot {p : PV} {Q : PV → Hp → Prop} (h : Q (.bool (!p.isNone)) H) : J2 C n X (fun u v => compareOp .IsNot u v) p .none Q H := by
  rintro A c s u v _ d e S
  have : v = .none := e
  subst this
  exact PySem.isNot_none (by rw [d.isNone]; exact S.post (p := .bool _) rfl h)


/-! membership -/
theorem op_in_dict (O : C.Ok) {l : Loc} {kvs : List (Str × PV)} {k : Str} {Q : PV → Hp → Prop} (hl : H l = some (.dict kvs)) (h : Q (.bool (dget kvs k).isSome) H) : J2 C n X (fun u v => compareOp .In u v) (.str k) (.loc l) Q H := by
  rintro A c s u v _ dk ⟨rfl, ul⟩ S
  obtain ⟨kvs', e, d⟩ := S.dict hl
  refine wpAny_in_of (knd := C.sk) (sk_is dk) (S.modules O hl) e.mapOf ((S.same s.drawn (s.toks + 1)).post (p := .bool _) ?_ h)
  have := d.get k
  revert this
  cases dget kvs k <;> cases valueAt kvs' k <;> intro z <;> first | rfl | exact z.elim
theorem op_in_set (O : C.Ok) {l : Loc} {K : List Str} {k : Str} {Q : PV → Hp → Prop} (hl : H l = some (.set K)) (h : Q (.bool (decide (k ∈ K))) H) : J2 C n X (fun u v => compareOp .In u v) (.str k) (.loc l) Q H := by
  rintro A c s u v _ dk ⟨rfl, ul⟩ S
  have hs : u.scannable = true := by obtain ⟨t, rfl⟩ := dk; rfl
  exact wpAny_inSet_of (knd := C.sk) (sk_is dk) hs (S.set hl).1 ((S.same s.drawn (s.toks + 1)).post (p := .bool _) rfl h)

/-- equality of two abstract values of the simple kinds -/
noncomputable def PV.eqv : PV → PV → Option Bool
  | .int a, .int b => some (a == b)
  | .str a, .str b => some (decide (a = b))
  | .none, .str _ => some false
  | .str _, .none => some false
  | .none, .none => some true
  | _, _ => Option.none
theorem eqv_int {a b : Int} : (PV.int a).eqv (.int b) = some (a == b) := rfl
theorem eqv_str {a b : Str} : (PV.str a).eqv (.str b) = some (decide (a = b)) := rfl
theorem eqGives_none_str (a : Str) (t : Tok) : MeetsSeq.EqGives .none (.str a t) false := by
  intro prog w A E s Q h
  unfold eqBool
  refine wpAny_holding ?_
  rw [if_neg (by rw [show (Value.none == Value.str a t) = false from rfl]; decide)]
  exact wpAny_bind (EqNone.eq_none_str (wpAny_truthy_bool h))
theorem eqGives_str_none (a : Str) (t : Tok) : MeetsSeq.EqGives (.str a t) .none false := by
  intro prog w A E s Q h
  unfold eqBool
  refine wpAny_holding ?_
  rw [if_neg (by rw [show (Value.str a t == Value.none) = false from rfl]; decide)]
  exact wpAny_bind (EqNone.eq_str_none (wpAny_truthy_bool h))
theorem eqGives_none_none : MeetsSeq.EqGives .none .none true := by
  intro prog w A E s Q h
  unfold eqBool
  refine wpAny_holding ?_
  rw [if_pos (by rfl)]
  exact wpAny_bind (wpAny_rule (wpAny_pure h))
theorem eqv_gives {p q : PV} {u v : Value} {b : Bool} (d : Den c p u) (d' : Den c q v) (e : p.eqv q = some b) : MeetsSeq.EqGives u v b := by
  cases p <;> cases q <;> first | exact nomatch (show (none : Option Bool) = some b from e) | obtain rfl := Option.some.inj e
  · have h1 : u = .none := d; have h2 : v = .none := d'; subst h1 h2; exact eqGives_none_none
  · have h1 : u = .none := d; obtain ⟨t', rfl⟩ := d'; subst h1; exact eqGives_none_str _ _
  · obtain ⟨t, rfl⟩ := d; obtain ⟨t', rfl⟩ := d'; exact MeetsSeq.EqGives.int _ _ _ _
  · have h2 : v = .none := d'; obtain ⟨t, rfl⟩ := d; subst h2; exact eqGives_str_none _ _
  · obtain ⟨t, rfl⟩ := d; obtain ⟨t', rfl⟩ := d'
    intro prog w A E s Q h
    exact wpAny_eqBool_str h
noncomputable def eqRaw : PV → Value → Bool
  | .int k, .int i _ => i == k
  | .str k, .str x _ => decide (x = k)
  | .none, .none => true
  | _, _ => false
theorem eqRaw_eq {p q : PV} {y : Value} {b : Bool} (d : Den c q y) (e : q.eqv p = some b) : eqRaw p y = b := by
  cases q <;> cases p <;> first | exact nomatch (show (none : Option Bool) = some b from e) | obtain rfl := Option.some.inj e
  · have h1 : y = .none := d; subst h1; rfl
  · have h1 : y = .none := d; subst h1; rfl
  · obtain ⟨t, rfl⟩ := d; rfl
  · obtain ⟨t, rfl⟩ := d; rfl
  · obtain ⟨t, rfl⟩ := d; rfl
noncomputable def inside (p : PV) (vs : List PV) : Bool := vs.any fun q => q.eqv p == some true
theorem any_raw {p : PV} {vs : List PV} {ys : List Value} (d : DenL c vs ys) (he : ∀ q ∈ vs, (q.eqv p).isSome = true) : ys.any (eqRaw p) = inside p vs := by
  unfold inside
  induction d with
  | nil => rfl
  | @cons q v ps us dq _ ih =>
    rw [List.any_cons, List.any_cons, ih fun q hq => he q (.tail _ hq)]
    obtain ⟨b, hb⟩ := Option.isSome_iff_exists.mp (he q (.head _))
    rw [eqRaw_eq dq hb, hb]
    cases b <;> rfl
theorem gives_raw {p : PV} {u : Value} {vs : List PV} {ys : List Value} (du : Den c p u) (d : DenL c vs ys) (he : ∀ q ∈ vs, (q.eqv p).isSome = true) : ∀ y ∈ ys, MeetsSeq.EqGives y u (eqRaw p y) := by
  induction d with
  | nil => intro y hy; cases hy
  | @cons q v ps us dq _ ih =>
    intro y hy
    rcases List.mem_cons.mp hy with rfl | hy
    · obtain ⟨b, hb⟩ := Option.isSome_iff_exists.mp (he q (.head _))
      rw [eqRaw_eq dq hb]
      exact eqv_gives dq du hb
    · exact ih (fun q hq => he q (.tail _ hq)) y hy
theorem op_in_list {l : Loc} {p : PV} {vs : List PV} {Q : PV → Hp → Prop} (hl : H l = some (.list vs)) (he : ∀ q ∈ vs, (q.eqv p).isSome = true) (h : Q (.bool (inside p vs)) H) : J2 C n X (fun u v => compareOp .In u v) p (.loc l) Q H := by
  rintro A c s u v _ du ⟨rfl, ul⟩ S
  obtain ⟨items, k, e, d⟩ := S.list hl
  refine SeqInW.in_listW (eqRaw p) (fun y hy => gives_raw du d he y (by simpa using hy)) e.isList ?_
  rw [← Array.any_toList, any_raw d he]
  exact S.post (p := .bool _) rfl h
theorem op_notin_list {l : Loc} {p : PV} {vs : List PV} {Q : PV → Hp → Prop} (hl : H l = some (.list vs)) (he : ∀ q ∈ vs, (q.eqv p).isSome = true) (h : Q (.bool (!inside p vs)) H) : J2 C n X (fun u v => compareOp .NotIn u v) p (.loc l) Q H := by
  rintro A c s u v _ du ⟨rfl, ul⟩ S
  obtain ⟨items, k, e, d⟩ := S.list hl
  refine SeqInW.notIn_listW (eqRaw p) (fun y hy => gives_raw du d he y (by simpa using hy)) e.isList ?_
  rw [← Array.any_toList, any_raw d he]
  exact S.post (p := .bool _) rfl h
theorem op_in_tup {l : Loc} {p : PV} {vs : List PV} {Q : PV → Hp → Prop} (hl : H l = some (.tup vs)) (he : ∀ q ∈ vs, (q.eqv p).isSome = true) (h : Q (.bool (inside p vs)) H) : J2 C n X (fun u v => compareOp .In u v) p (.loc l) Q H := by
  rintro A c s u v _ du ⟨rfl, ul⟩ S
  obtain ⟨items, k, e, d⟩ := S.tup hl
  refine SeqRoads2.in_tuple (eqRaw p) (fun y hy => gives_raw du d he y (by simpa using hy)) e ?_
  rw [← Array.any_toList, any_raw d he]
  exact S.post (p := .bool _) rfl h

/-! truth -/
theorem t_bool {b : Bool} {Q : Bool → Hp → Prop} (h : Q b H) : JT C n X (.bool b) Q H := by
  rintro A c s u _ d S
  have : u = .bool b := d
  subst this
  exact wpAny_truthy_bool (S.postU h)
theorem t_none {Q : Bool → Hp → Prop} (h : Q false H) : JT C n X .none Q H := by
  rintro A c s u _ d S
  have : u = .none := d
  subst this
  exact (fun _ _ _ => S.postU h)
theorem t_list {l : Loc} {vs : List PV} {Q : Bool → Hp → Prop} (hl : H l = some (.list vs)) (hz : vs.length ≤ 1000000) (h : Q (!vs.isEmpty) H) : JT C n X (.loc l) Q H := by
  rintro A c s u _ ⟨rfl, -⟩ S
  obtain ⟨items, k, e, d⟩ := S.list hl
  have z := d.size
  refine wpAny_truthy_list e.isList (by lia) ((S.same s.drawn _).postU ?_)
  have : items.isEmpty = vs.isEmpty := by
    rw [Bool.eq_iff_iff, Array.isEmpty_iff_size_eq_zero, List.isEmpty_iff_length_eq_zero, z]
  rw [this]; exact h
theorem t_dict (O : C.Ok) {l : Loc} {kvs : List (Str × PV)} {Q : Bool → Hp → Prop} (hl : H l = some (.dict kvs)) (hz : kvs.length ≤ 1000000) (h : Q (!kvs.isEmpty) H) : JT C n X (.loc l) Q H := by
  rintro A c s u _ ⟨rfl, ul⟩ S
  obtain ⟨kvs', e, d⟩ := S.dict hl
  have z := d.length
  refine wpAny_truthy_dict (knd := C.sk) (S.modules O hl) e (by lia) ((S.same s.drawn _).postU ?_)
  have : kvs'.isEmpty = kvs.isEmpty := by
    rw [Bool.eq_iff_iff, List.isEmpty_iff_length_eq_zero, List.isEmpty_iff_length_eq_zero, z]
  rw [this]; exact h
theorem set_size {h : Heap} {a : Addr} {K : List Str} (x : h.SetOf C.sk a (fun k => decide (k ∈ K)) K.length) : ∃ o es ep t, h.get? a = some o ∧ o.ExactSet ∧ o.data = .set es ep t ∧ t.fits es.size = true ∧ es.size = K.length ∧ es.size < scanBound := by
  obtain ⟨o, es, ep, t, a1, a2, a3, a4, a5, a6, a7, a8⟩ := x
  exact ⟨o, es, ep, t, a1, a2, a3, a7, a8, a6⟩
theorem noBool_set : typeLookup (.type "set") "__bool__" = pure none := by rw [typeLookup_type, builtinLookup_eq_fast]; kernel_rfl
theorem t_set {l : Loc} {K : List Str} {Q : Bool → Hp → Prop} (hl : H l = some (.set K)) (h : Q (!K.isEmpty) H) : JT C n X (.loc l) Q H := by
  rintro A c s u _ ⟨rfl, ul⟩ S
  have x := (S.set hl).1
  obtain ⟨o, es, ep, t, a1, a2, a3, a4, a5, a6⟩ := set_size x
  have a6 : es.size < 4096 := a6
  have hne : ((es.size : Int) != 0) = !K.isEmpty := by
    rw [a5]; cases K <;> simp <;> lia
  have key : wpAny C.M A (runValue (.builtin "len" ⟨[.ref (c.ι l)], []⟩)) (fun r s' => r = .int es.size (s.toks + 1) ∧ PostU C c (Q (!K.isEmpty)) s') (PostX X c) s := by
    refine wpAny_runValue (codeAny_builtin entry_len ?_)
    rw [Around.under_plainId plain_len _]
    exact wpAny_mono (wpAny_len_body_set (Q := fun r s' => r = .int es.size (s.toks + 1) ∧ PostU C c (Q (!K.isEmpty)) s') a1 a2 a3 a4 (by lia) ⟨rfl, (S.same s.drawn _).postU h⟩)
      (fun fin s' h' => by obtain ⟨r, rfl, hq⟩ := h'; exact hq) fun _ _ e => e
  unfold truthy
  first
    | refine wpAny_bind (wpAny_callSpecial?_none (name := Str.ofString "__bool__") x.typeIs noBool_set ?_)
    | refine wpAny_bind (wpAny_pure (wpAny_bind (wpAny_callSpecial?_none (name := Str.ofString "__bool__") x.typeIs noBool_set ?_)))
  first
    | refine wpAny_bind (wpAny_specialOf (name := Str.ofString "__len__") x.typeIs F.slot_set_len.lookup ?_)
    | refine wpAny_bind (wpAny_pure (wpAny_bind (wpAny_specialOf (name := Str.ofString "__len__") x.typeIs F.slot_set_len.lookup ?_)))
  first
    | exact wpAny_bind (wpAny_mono key (fun r s' h' => by obtain ⟨rfl, hq⟩ := h'; exact wpAny_pure (hne ▸ hq)) fun _ _ e => e)
    | exact wpAny_bind (wpAny_pure (wpAny_bind (wpAny_mono key (fun r s' h' => by obtain ⟨rfl, hq⟩ := h'; exact wpAny_pure (hne ▸ hq)) fun _ _ e => e)))
end
-- M5
section
variable {C : Ctx} {F : FC} {n : Nat} {X : XT} {H : Hp} {c : Cf} {s : Shared}

/-! instances -/
theorem lookIn_ns {h : Heap} {a : Addr} {m : Str → Option Value} (x : h.Ns a m) : ∃ o, h.get? a = some o ∧ ∀ name, lookIn name o = some (m name) := by
  obtain ⟨o, es, ep, ho, hd, hk, hf⟩ := x
  refine ⟨o, ho, fun name => ?_⟩
  unfold lookIn
  rw [hd]
  dsimp only
  rw [← hf name]
  unfold nsFind findBy
  rw [← Array.find?_toList]
  cases es.toList.find? (·.key.isStr name) with
  | some e => rfl
  | none =>
    dsimp only
    rw [if_neg]
    · rfl
    · rw [List.any_eq_true]
      rintro ⟨e, he, hr⟩
      obtain ⟨y, t, hy⟩ := hk e (by simpa using he)
      unfold DictEntry.refKey at hr
      rw [hy] at hr
      cases hr
theorem St.inst (S : St C c H s) {l d : Loc} {cl : Addr} {ks : List Str} {m : Str → Option PV} (e : H l = some (.inst cl d)) (f : H d = some (.attrs ks m)) :
    ∃ od m', InstAt s.heap (c.ι l) (instObj cl (c.ι d)) cl (some od) ∧ s.heap.Ns1 (c.ι d) m' ∧ (∀ name, lookIn name od = some (m' name)) ∧ (∀ x, DenO c (m x) (m' x)) ∧ (∀ x, m x ≠ none → x ∈ ks) ∧ ks.length ≤ 1000 := by
  obtain ⟨e1, ud⟩ := S.reg l _ e
  obtain ⟨m', hn, hd, hk, hz⟩ := S.reg d _ f
  obtain ⟨od, ho, hl⟩ := lookIn_ns hn.ns
  exact ⟨od, m', ⟨e1, rfl, rfl, ho⟩, hn, hl, hd, hk, hz⟩

noncomputable def PV.handed : PV → Bool
  | .raw v => handedIn v
  | _ => true
theorem Den.handed {p : PV} {v : Value} (d : Den c p v) (h : p.handed = true) : handedIn v = true := by
  cases p with
  | none => have : v = .none := d; subst this; rfl
  | bool b => have : v = .bool b := d; subst this; rfl
  | int i => obtain ⟨t, rfl⟩ := d; rfl
  | str i => obtain ⟨t, rfl⟩ := d; rfl
  | loc l => obtain ⟨rfl, -⟩ := d; rfl
  | raw u => have : v = u := d; subst this; exact h

noncomputable def attrIn (K : Frag) (cl : Addr) (name : Str) : Bool := plainGet K cl name && hasDictIn K cl && (findIn K (.ref cl) name).any (noGet K ·)
theorem op_attr (O : C.Ok) {l d : Loc} {cl : Addr} {ks : List Str} {m : Str → Option PV} {name : Str} {p : PV} {expr : Bool} {Q : PV → Hp → Prop} (e : H l = some (.inst cl d)) (f : H d = some (.attrs ks m)) (hx : m name = some p)
    (hk : attrIn C.K cl name = true) (h : Q p H) (hh : autoParam (p.handed = true) Au.a0) : J1 C n X (fun u => getAttr u name expr) (.loc l) Q H := by
  rintro A c s u _ ⟨rfl, -⟩ S
  obtain ⟨od, m', I, hn, hl, hd, -⟩ := S.inst e f
  obtain ⟨v, hv, dv⟩ := (show DenO c (some p) (m' name) from hx ▸ hd name).some_inv
  simp only [attrIn, Bool.and_eq_true] at hk
  obtain ⟨⟨k1, k2⟩, k3⟩ := hk
  obtain ⟨attr, k3, k4⟩ := any_some k3
  exact get_value (O.k.keeps S.base) I (plainGet_of k1).1 (findObj_own k2 k3 k4 (by rw [hl, hv])) (dv.handed hh) ((S.same s.drawn (s.toks + 1)).post dv h)

noncomputable def setIn (K : Frag) (cl : Addr) (name : Str) : Bool := findIn K (.ref cl) "__setattr__" == some (some (.builtin "object.__setattr__")) && plainOver K cl && takerIn K cl name == some none && (clsIn K cl).any (·.hasDict)
theorem op_setattr (O : C.Ok) {l d : Loc} {cl : Addr} {ks : List Str} {m : Str → Option PV} {name : Str} {p : PV} {Q : Hp → Prop} (e : H l = some (.inst cl d)) (f : H d = some (.attrs ks m))
    (hk : setIn C.K cl name = true) (hm : name ∈ ks) (h : Q (upd H d (.attrs ks fun y => if y = name then some p else m y))) : J2U C n X (fun u v => setAttr u name v) (.loc l) p Q H := by
  rintro A c s u v _ ⟨rfl, -⟩ dv S
  obtain ⟨od, m', I, hn, hl, hd, hks, hz⟩ := S.inst e f
  simp only [setIn, Bool.and_eq_true, beq_iff_eq] at hk
  obtain ⟨⟨⟨k1, k2⟩, k3⟩, k4⟩ := hk
  have X' := O.k.keeps S.base
  refine set_plain X' I k1 (osa_open (s := { s with toks := s.toks + 1 }) X' I k2 k3 fun b => ?_)
  obtain ⟨cd, hc, hd'⟩ := any_some k4
  obtain ⟨hx, hcl, hno, hdc⟩ := I
  refine wpAny_bind (wpAny_pure (wpAny_bind (wpAny_bind (wpAny_loadPart hx (wpAny_bind ((looks_clsIn (M := C.M) X' hc).at ?_))))))
  rw [hd']
  refine wpAny_pure (a := some (c.ι d)) (wpAny_bind (wpAny_pure (wpAny_bind (wpAny_nsSet1 hn fun h' hn' hs => ?_))))
  have hks' : ∀ x, (if x = name then some v else m' x) ≠ none → x ∈ ks := fun x hx => by
    by_cases q : x = name
    · rw [q]; exact hm
    · rw [if_neg q] at hx
      refine hks x fun z => hx ?_
      have := hd x
      rw [z] at this
      exact this.none_inv
  obtain ⟨oD, esD, epD, hoD, hdD, hcD⟩ := hn'.count hks'
  refine wpAny_bind (wpAny_lookBehind hoD (by rw [hdD]; exact pastItsLine_dict (by rw [sizeLine_eq]; lia)) (wpAny_pure ?_))
  refine ⟨_, c, .refl c, S.updH (sp := .attrs ks fun y => if y = name then some p else m y) f hs ⟨_, hn', fun y => ?_, fun x hx => ?_, hz⟩ rfl s.drawn _, h⟩
  · dsimp only
    split
    · exact dv
    · exact hd y
  · dsimp only at hx
    by_cases q : x = name
    · rw [q]; exact hm
    · rw [if_neg q] at hx; exact hks x hx
end
-- M6

noncomputable def trim (H H' : Hp) : Hp := fun l => if l.1 = 0 ∧ H l = none then none else H' l
noncomputable def AF.val : AF → PV
  | .ret p => p
  | _ => .none
noncomputable abbrev XF : XT := fun _ _ _ => False

theorem DenP.reverse {c : Cf} {ps : List (Str × PV)} {vs : List (Str × Value)} (h : DenP c ps vs) : DenP c ps.reverse vs.reverse := by
  induction h with
  | nil => exact .nil
  | cons a _ ih => simp only [List.reverse_cons]; exact ih.append (.cons a .nil)
theorem DenP.lookup {c : Cf} {ps : List (Str × PV)} {vs : List (Str × Value)} (h : DenP c ps vs) (x : Str) : DenO c (ps.lookup x) (vs.lookup x) := by
  induction h with
  | nil => trivial
  | cons a _ ih =>
    simp only [List.lookup_cons]
    split
    · exact a
    · exact ih

section
variable {C : Ctx} {F : FC} {n : Nat} {X : XT} {H : Hp} {c : Cf} {s : Shared}

/-- the callee's frame is left: what it made for itself is forgotten -/
theorem St.leave {H' : Hp} {c₂ : Cf} {fa : List Loc} {a : Loc} (S : St C c₂ H' s) (hfa : c₂.fa = a :: fa) (hin : ∀ l ∈ fa, ∃ m, H l = some (.ns m)) : St C { c₂ with fa := fa } (trim H H') s := by
  have sub : c₂.Sub { c₂ with fa := fa } := fun l u => ⟨u, rfl⟩
  have tr : ∀ l sp, trim H H' l = some sp → H' l = some sp := fun l sp e => by
    unfold trim at e
    split at e
    · cases e
    · exact e
  refine ⟨S.base, S.frz, fun l sp e => (S.reg l sp (tr l sp e)).sub sub, fun l sp e => S.used l sp (tr l sp e), fun l l' q q' e e' => S.inj l l' q q' (tr _ _ e) (tr _ _ e'), fun l q e => S.hi l q (tr _ _ e), fun l q e => S.sepF l q (tr _ _ e), S.fin, fun l h u => ?_, fun l hl => ?_, S.os, S.gens, S.hbs⟩
  · obtain ⟨sp, e⟩ := S.nmd l h u
    exact ⟨sp, by unfold trim; rw [if_neg fun q => h q.1]; exact e⟩
  · obtain ⟨m, e'⟩ := hin l hl
    obtain ⟨m', f'⟩ := S.fr l (by rw [hfa]; exact .tail _ hl)
    exact ⟨m', by unfold trim; rw [if_neg fun q => by rw [e'] at q; cases q.2]; exact f'⟩

theorem AOK.deeper {A : Around} {env : Env} {l : Loc} {c' : Cf} (x : AOK (n + 1) c A) (hk : env.scope.kind = .function) (hf : env.frame = some (c'.ι l)) (hc : c'.fa = l :: c.fa) (hu : c'.U l) (hs : c.Sub c') : AOK n c' (A.deeper env) := by
  obtain ⟨h, d, u, ⟨envs, e1, e2, e3⟩, fu⟩ := x
  refine ⟨h, ?_, ?_, ⟨env :: envs, ?_, ?_, ?_⟩, ?_⟩
  · show A.depth + 1 + 10 * n < 900; lia
  · show A.units + 3 + 100 * n < 9000; lia
  · show A.frames.map (env :: ·) = _; rw [e1]; rfl
  · rw [List.map_cons, e2, hf, hc, List.map_cons]
    exact congrArg _ (List.map_congr_left fun k hk => by rw [(hs k (fu k hk)).2])
  · intro e he
    rcases List.mem_cons.mp he with rfl | he
    · exact hk
    · exact e3 e he
  · intro k hk
    rw [hc] at hk
    rcases List.mem_cons.mp hk with rfl | hk
    · exact hu
    · exact (hs k (fu k hk)).1

/-- what a call hands back -/
noncomputable def Back (C : Ctx) (X : XT) (c : Cf) (Q : PV → Hp → Prop) (r : Result) (s' : Shared) : Prop := match r with
  | .ok (.ret v) => Post C c Q v s'
  | .ok _ => False
  | .error e => PostX X c e s'
noncomputable def JCode (C : Ctx) (n : Nat) (X : XT) (f : Value) (ps : List PV) (kn : List Str) (ks : List PV) (Q : PV → Hp → Prop) (H : Hp) : Prop :=
  ∀ A c s vs us, AOK n c A → DenL c ps vs → DenL c ks us → St C c H s → codeAny C.M A (.call f ⟨vs, kn.zip us⟩) (Back C X c Q) s
theorem JCode.call {f : Value} {ps ks : List PV} {kn : List Str} {Q : PV → Hp → Prop} (h : JCode C n X f ps kn ks Q H) : JCall C n X f ps kn ks Q H :=
  fun A c s vs us a d d' S => wpAny_call (codeAny_mono (h A c s vs us a d d' S) fun r s' z => by rcases r with e | (_ | _ | _ | v) <;> exact z)
theorem JCode.mono {f : Value} {ps ks : List PV} {kn : List Str} {Q Q' : PV → Hp → Prop} (h : JCode C n X f ps kn ks Q H) (q : ∀ p H, Q p H → Q' p H) : JCode C n X f ps kn ks Q' H :=
  fun A c s vs us a d d' S => codeAny_mono (h A c s vs us a d d' S) fun r s' z => by
    rcases r with e | (_ | _ | _ | v) <;> first | exact z | (obtain ⟨p, H', c', x, dd, S', z⟩ := z; exact ⟨p, H', c', x, dd, S', q _ _ z⟩)
/-- a call of the text's def -/
theorem call_fn (O : C.Ok) {f : Addr} {name qual : Str} {params : Arguments} {body : List Stmt} {scope : Scope} {dV kV doc pm cdv ct oc : Value} {an od : Option Addr} {osl : Array (Option Value)} {ps ks : List PV} {kn : List Str} {Q : PV → Hp → Prop} (binds : List (Str × PV))
    (ho : C.K.lookup f = some ⟨oc, od, .func (fnOf name qual params body scope dV kV doc pm an cdv ct), osl⟩) (hcd : codeIn C.K cdv qual = true)
    (hbind : ∀ c s vs us, C.K.In s.heap → DenL c ps vs → DenL c ks us → ∃ vb, BindsTo s (fnOf name qual params body scope dV kV doc pm an cdv ct) ⟨vs, kn.zip us⟩ vb ∧ DenP c binds vb)
    (hloc : (binds.all fun x => decide (scope.names.lookup x.1 = some .local)) = true)
    (h : ∀ i, H (tmp i) = none → JS C ⟨tmp i, qual, scope, some f, cdv, [], tmp i⟩ n XF body (fun fl H' => Q fl.val (trim H H')) (upd H (tmp i) (.ns fun x => binds.reverse.lookup x)))
    (hcell : autoParam (∀ x ∈ scope.names, x.2 ≠ .cell) Au.a1) (hco : autoParam (scope.isCoroutine = false) Au.a0) (hgen : autoParam (scope.isGenerator = false) Au.a0) (hk : autoParam (scope.kind = .function) Au.a0) :
    JCode C (n + 1) X (.ref f) ps kn ks Q H := by
  intro A c s vs us a d d' S
  obtain ⟨vb, hb, db⟩ := hbind c s vs us (O.k.keeps S.base) d d'
  obtain ⟨i, hi⟩ := S.fresh
  have hX := O.k.keeps S.base
  refine codeAny_call_def (fd := fnOf name qual params body scope dV kV doc pm an cdv ct) (body := body) (binds := vb) a.room (hX _ _ ho) rfl (O.top.nolimit.keeps S.base) (codeRec_of hX hcd) rfl hb hcell ?_ ?_ hco hgen hk
  · intro x hx
    have : x.1 ∈ binds.map (·.1) := by rw [db.keys]; exact List.mem_map_of_mem hx
    obtain ⟨y, hy, e⟩ := List.mem_map.mp this
    rw [← e]; exact of_decide_eq_true (List.all_eq_true.mp hloc y hy)
  intro h₀ hns hk0
  let c₁ : Cf := { c.put (tmp i) s.heap.objs.size with fa := tmp i :: c.fa }
  have X0 := Cf.put_ext (a := s.heap.objs.size) hi
  have sub1 : (c.put (tmp i) s.heap.objs.size).Sub c₁ := fun l u => ⟨u, rfl⟩
  have sub0 : c.Sub c₁ := X0.on
  have S₀ : St C (c.put (tmp i) s.heap.objs.size) (upd H (tmp i) (.ns fun x => binds.reverse.lookup x)) { s with heap := h₀, toks := s.toks + vb.length } :=
    S.new (sp := .ns fun x => binds.reverse.lookup x) hi hk0 (Nat.le_refl _) ⟨_, hns, fun x => ((db.reverse.lookup x).ext X0)⟩ s.drawn _
  have S₁ : St C c₁ (upd H (tmp i) (.ns fun x => binds.reverse.lookup x)) { s with heap := h₀, toks := s.toks + vb.length } := by
    refine ⟨S₀.base, S₀.frz, fun l sp e => (S₀.reg l sp e).sub sub1, S₀.used, S₀.inj, S₀.hi, S₀.sepF, S₀.fin, S₀.nmd, fun b hb => ?_, S₀.os, S₀.gens, S₀.hbs⟩
    rcases List.mem_cons.mp hb with rfl | hb
    · exact ⟨_, upd_self ..⟩
    · exact S₀.fr b hb
  have ef : ((⟨tmp i, qual, scope, some f, cdv, [], tmp i⟩ : FC).env c₁) = callEnv (fnOf name qual params body scope dV kV doc pm an cdv ct) s.heap.objs.size f := by
    show envOf qual scope (c₁.ι (tmp i)) f cdv = envOf qual scope s.heap.objs.size f cdv
    rw [show c₁.ι (tmp i) = s.heap.objs.size from Cf.put_self c (tmp i) s.heap.objs.size]
  have := h i (S.none_of hi) (A.deeper (callEnv (fnOf name qual params body scope dV kV doc pm an cdv ct) s.heap.objs.size f)) c₁ _
    (a.deeper (l := tmp i) hk (by show some s.heap.objs.size = some (c₁.ι (tmp i)); rw [show c₁.ι (tmp i) = s.heap.objs.size from Cf.put_self c (tmp i) s.heap.objs.size]) rfl (.inl rfl) sub0) ⟨.inl rfl, .inl rfl, ⟨_, rfl⟩, fun _ h => (nomatch h)⟩ S₁
  rw [ef] at this
  refine (wpF0 this fun fl s' g H' c₂ x₂ d₂ S₂ q => ?_)
  have hfa : c₂.fa = tmp i :: c.fa := x₂.fa
  have S₃ := S₂.leave (H := H) hfa S.fr
  have sub3 : c₂.Sub { c₂ with fa := c.fa } := fun l u => ⟨u, rfl⟩
  refine ⟨g.val, _, { c₂ with fa := c.fa }, ⟨x₂.fz, rfl, fun l u => ?_⟩, ?_, S₃, q⟩
  · have u₁ := sub0 l u
    have u₂ := x₂.on l u₁.1
    exact ⟨u₂.1, u₂.2.trans u₁.2⟩
  · cases g with
    | next => have : fl = .next := d₂; subst this; rfl
    | brk => have : fl = .brk := d₂; subst this; rfl
    | cont => have : fl = .cont := d₂; subst this; rfl
    | ret p => obtain ⟨v, rfl, dv⟩ := d₂; exact dv.sub sub3
end
-- M7
section
variable {C : Ctx} {F : FC} {n : Nat} {X : XT} {H : Hp} {c : Cf} {s : Shared}

/-- an own class called: the new object lies at the named places o (itself) and d (its dict) -/
theorem call_cls (O : C.Ok) {cl fI : Addr} {ps ks : List PV} {kn : List Str} {Q : PV → Hp → Prop} (o d : Loc) (names : List Str) (hm : makesIn C.K cl = true) (hi : findIn C.K (.ref cl) "__init__" = some (some (.ref fI))) (hf : isFn C.K (.ref fI) = true)
    (ho : o.1 ≠ 0) (hd : d.1 ≠ 0) (hne : o ≠ d) (eo : H o = none) (ed : H d = none) (hz : names.length ≤ 1000)
    (h : JCode C n X (.ref fI) (.loc o :: ps) kn ks (fun p H' => p = .none ∧ Q (.loc o) H') (upd (upd H d (.attrs names fun _ => none)) o (.inst cl d))) :
    JCode C (n + 1) X (.ref cl) ps kn ks Q H := by
  intro A c s vs us a dp dk S
  have hX := O.k.keeps S.base
  have Y := makes_of (M := C.M) hX hm
  have ud : ¬ c.U d := fun u => by obtain ⟨sp, e⟩ := S.nmd d hd u; rw [ed] at e; cases e
  have uo : ¬ c.U o := fun u => by obtain ⟨sp, e⟩ := S.nmd o ho u; rw [eo] at e; cases e
  have uo' : ¬ (c.put d s.heap.objs.size).U o := fun u => u.elim (fun e => hne e) uo
  have X1 := Cf.put_ext (a := s.heap.objs.size) ud
  have X2 := Cf.put_ext (a := s.heap.objs.size + 1) uo'
  have S1 : St C (c.put d s.heap.objs.size) (upd H d (.attrs names fun _ => none)) ⟨s.heap.push emptyDict, s.gens, s.drawn, s.toks, s.os⟩ := by
    refine S.new (sp := .attrs names fun _ => none) ud (fun _ _ e => Heap.get?_push_of_some _ e) (Nat.le_refl _) ⟨fun _ => none, Heap.Ns1.of_empty ⟨_, _, _, Heap.get?_push_size _ rfl, rfl, ?_, ?_⟩, fun _ => trivial, fun _ h => absurd rfl h, hz⟩ s.drawn s.toks
    · intro e he; simp at he
    · intro name; rfl
  have S2 : St C ((c.put d s.heap.objs.size).put o (s.heap.objs.size + 1)) (upd (upd H d (.attrs names fun _ => none)) o (.inst cl d)) ⟨(s.heap.push emptyDict).push (instObj cl s.heap.objs.size), s.gens, s.drawn, s.toks, s.os⟩ := by
    refine S1.new (sp := .inst cl d) uo' (fun _ _ e => Heap.get?_push_of_some _ e) (by show (s.heap.push emptyDict).objs.size ≤ _; rw [Heap.size_push]; exact Nat.le_refl _) ⟨?_, .inr (.inl rfl)⟩ s.drawn s.toks
    have e1 : ((c.put d s.heap.objs.size).put o (s.heap.objs.size + 1)).ι d = s.heap.objs.size := by
      rw [(X2.on d (.inl rfl)).2, Cf.put_self]
    rw [e1]
    have := Heap.get?_push_size (s.heap.push emptyDict) (o := instObj cl s.heap.objs.size) rfl
    rw [Heap.size_push] at this
    exact this
  have dens := X1.trans X2
  refine make_core Y (looks_findIn hX hi) (fun self => bind_fn hX self (beq_iff_eq.mp hf)) (.inl (by rfl)) ?_
  have aok : AOK n ((c.put d s.heap.objs.size).put o (s.heap.objs.size + 1)) (A.under (.builtin "type.__call__" ⟨.ref cl :: vs, kn.zip us⟩)) := by
    obtain ⟨h1, h2, h3, ⟨envs, h4, h5, h6⟩, h7⟩ := a.ext dens
    refine ⟨h1, ?_, ?_, ⟨envs, ?_, h5, h6⟩, h7⟩
    · rw [depth_under_kw]; lia
    · show A.units + 1 + 100 * n < 9000; lia
    · show pushEnvs [] A.frames = _; exact h4
  refine codeAny_mono (h _ _ _ (.ref (s.heap.objs.size + 1) :: vs) us aok (.cons ⟨by rw [Cf.put_self], .inl rfl⟩ (dp.ext dens)) (dk.ext dens) S2) fun r s' z => ?_
  rcases r with e | (_ | _ | _ | v)
  · exact z.from dens
  · exact z
  · exact z
  · exact z
  · obtain ⟨p, H', c', x, dd, S', rfl, q⟩ := z
    refine ⟨dd, .loc o, H', c', dens.trans x, ⟨?_, (x.on o (.inl rfl)).1⟩, S', q⟩
    rw [(x.on o (.inl rfl)).2, Cf.put_self]

theorem DenL.one {l : Loc} (u : c.U l) : DenL c [.loc l] [.ref (c.ι l)] := .cons (p := .loc l) ⟨rfl, u⟩ .nil
/-! methods -/
theorem m_fn (O : C.Ok) {l d : Loc} {cl f : Addr} {ks : List Str} {m : Str → Option PV} {name : Str} {Q : Value → List PV → Hp → Prop} (e : H l = some (.inst cl d)) (g : H d = some (.attrs ks m)) (hx : m name = none)
    (hk : plainGet C.K cl name = true) (hf : findIn C.K (.ref cl) name = some (some (.ref f))) (ht : isFn C.K (.ref f) = true) (h : Q (.ref f) [.loc l] H) : JMeth C n X name (.loc l) Q H := by
  rintro pl A c s u a ⟨rfl, u⟩ S
  obtain ⟨od, m', I, hn, hl, hd, -⟩ := S.inst e g
  refine method_fn (O.k.keeps S.base) I (plainGet_of hk).1 (plainGet_of hk).2 hf (beq_iff_eq.mp ht) ?_ ⟨_, H, c, .refl c, DenL.one u, S, h⟩
  show (lookIn name od).map _ = _
  rw [hl]
  have := hd name
  rw [hx] at this
  rw [this.none_inv]; rfl
/-- a static method reached through an object -/
theorem m_static (O : C.Ok) {l d : Loc} {cl p : Addr} {f : Value} {rest : List Value} {ks : List Str} {m : Str → Option PV} {name : Str} {Q : Value → List PV → Hp → Prop} (e : H l = some (.inst cl d)) (g : H d = some (.attrs ks m)) (hx : m name = none)
    (hk : plainGet C.K cl name = true) (hh : hasDictIn C.K cl = true) (hf : findIn C.K (.ref cl) name = some (some (.ref p)))
    (ht : ((typeIn C.K (.ref p)).any fun t => t != .type "function" && t != .type "method_descriptor" && t != .type "wrapper_descriptor") = true)
    (hg : specialIn C.K (.ref p) "__get__" = some (some (.builtin "staticmethod.__get__"))) (ht' : takesIn C.K (.ref p) = some false)
    (hp : recIn C.K p "staticmethod" = some (f :: rest)) (hv : handedIn f = true) (hcp : copiedNames.contains name = false)
    (h : Q f [] H) : JMeth C n X name (.loc l) Q H := by
  rintro pl A c s u a ⟨rfl, u⟩ S
  obtain ⟨od, m', I, hn, hl, hd, -⟩ := S.inst e g
  have X' := O.k.keeps S.base
  refine method_usual X' I (plainGet_of hk).1 (plainGet_of hk).2 hf ht ?_
  have hlk : lookIn name od = some none := by
    have := hd name
    rw [hx] at this
    rw [hl, this.none_inv]
  have fo : findObj C.K cl (some od) name = some (.bind (.builtin "staticmethod.__get__") (.ref p)) := by
    obtain ⟨cd, hc', hd'⟩ := any_some hh
    unfold findObj
    have ho : W.ownOf cd (some od) name = some none := by unfold W.ownOf; rw [if_pos hd']; exact hlk
    rw [hc', Option.bind_some, hf, Option.bind_some]
    simp only [hg, ht', Option.bind_some, ho, hcp, Bool.false_and, Bool.false_eq_true, if_false]
  refine get_bind X' I (plainGet_of hk).1 fo (plainGet_of hk).2 (wpAny_call (sm_get (s := { s with toks := s.toks + 1 }) X' hp (handed_on hv ?_)))
  exact ⟨_, H, c, .refl c, .nil, S.same s.drawn _, h⟩
/-- a static method reached through its class -/
theorem m_static_cls (O : C.Ok) {cl p : Addr} {mc f : Value} {rest : List Value} {name : Str} {Q : Value → List PV → Hp → Prop}
    (hg : specialIn C.K (.ref cl) "__getattribute__" = some (some (.builtin "type.__getattribute__"))) (hr : readsIn C.K cl mc = true)
    (he : findCls C.K (.ref cl) mc name = some (.get (.builtin "staticmethod.__get__") (.ref p) .none (.ref cl)))
    (hp : recIn C.K p "staticmethod" = some (f :: rest)) (hv : handedIn f = true)
    (h : Q f [] H) : JMeth C n X name (.raw (.ref cl)) Q H := by
  rintro pl A c s u a du S
  have : u = .ref cl := du
  subst this
  have X' := O.k.keeps S.base
  refine method_cls X' hg (cls_bind X' hr he (wpAny_call (sm_get (s := { s with toks := s.toks + 1 }) X' hp (handed_on hv ?_))))
  exact ⟨_, H, c, .refl c, .nil, S.same s.drawn _, h⟩

/-! methods of the built-in kinds -/
theorem m_list {l : Loc} {vs : List PV} {name : Str} {id : String} {Q : Value → List PV → Hp → Prop} (e : H l = some (.list vs)) (slot : Slot "list" name id) (hty : typeOf (.builtin id) = pure (.type "method_descriptor"))
    (h : Q (.builtin id) [.loc l] H) : JMeth C n X name (.loc l) Q H := by
  rintro pl A c s u a ⟨rfl, u⟩ S
  obtain ⟨items, k, e', d⟩ := S.list e
  exact getMethod_builtin e'.isList.typeIs F.plainAttrs_list slot hty (fun b hb => by injection hb with hb; subst hb; exact ⟨_, e', rfl⟩) ⟨_, H, c, .refl c, DenL.one u, S, h⟩
theorem m_dict {l : Loc} {vs : List (Str × PV)} {name : Str} {id : String} {Q : Value → List PV → Hp → Prop} (e : H l = some (.dict vs)) (slot : Slot "dict" name id) (hty : typeOf (.builtin id) = pure (.type "method_descriptor"))
    (h : Q (.builtin id) [.loc l] H) : JMeth C n X name (.loc l) Q H := by
  rintro pl A c s u a ⟨rfl, u⟩ S
  obtain ⟨kvs, e', d⟩ := S.dict e
  exact getMethod_builtin e'.typeIs F.plainAttrs_dict slot hty e'.mapOf.noDict ⟨_, H, c, .refl c, DenL.one u, S, h⟩
theorem m_set {l : Loc} {vs : List Str} {name : Str} {id : String} {Q : Value → List PV → Hp → Prop} (e : H l = some (.set vs)) (slot : Slot "set" name id) (hty : typeOf (.builtin id) = pure (.type "method_descriptor"))
    (h : Q (.builtin id) [.loc l] H) : JMeth C n X name (.loc l) Q H := by
  rintro pl A c s u a ⟨rfl, u⟩ S
  have e' := (S.set e).1
  exact getMethod_builtin e'.typeIs F.plainAttrs_set slot hty e'.noDict ⟨_, H, c, .refl c, DenL.one u, S, h⟩
end
-- M8
section
variable {C : Ctx} {F : FC} {n : Nat} {X : XT} {H : Hp} {c : Cf} {s : Shared}

theorem DenL.inv0 {vs : List Value} (h : DenL c [] vs) : vs = [] := by cases h; rfl
theorem DenL.inv1 {p : PV} {vs : List Value} (h : DenL c [p] vs) : ∃ u, vs = [u] ∧ Den c p u := by
  cases h with
  | cons d r => cases r; exact ⟨_, rfl, d⟩
theorem DenL.inv2 {p q : PV} {vs : List Value} (h : DenL c [p, q] vs) : ∃ u v, vs = [u, v] ∧ Den c p u ∧ Den c q v := by
  cases h with
  | cons d r => obtain ⟨v, rfl, d'⟩ := r.inv1; exact ⟨_, _, rfl, d, d'⟩
theorem DenL.inv3 {p q r : PV} {vs : List Value} (h : DenL c [p, q, r] vs) : ∃ u v w, vs = [u, v, w] ∧ Den c p u ∧ Den c q v ∧ Den c r w := by
  cases h with
  | cons d r => obtain ⟨v, w, rfl, d', d''⟩ := r.inv2; exact ⟨_, _, _, rfl, d, d', d''⟩

theorem St.listUpd {l : Loc} {vs ws : List PV} {items : Array Value} {k : Nat} {f : Array Value → Array Value} (S : St C c H s) (e : H l = some (.list vs)) (hl : IsL s.heap (c.ι l) items k) (d : DenL c ws (f items).toList) (dr : Drawn) (t : Nat) :
    St C c (upd H l (.list ws)) ⟨s.heap.update (c.ι l) (Obj.mapSeq f), s.gens, dr, t, s.os⟩ :=
  S.updH (sp := .list ws) e (Heap.SameBut.update ..) ⟨_, _, hl.update f, d⟩ rfl dr t

theorem c_append {l : Loc} {vs : List PV} {p : PV} {Q : PV → Hp → Prop} (e : H l = some (.list vs)) (hz : vs.length ≤ 1000000) (h : Q .none (upd H l (.list (vs ++ [p])))) : JCall C n X (.builtin "list.append") [.loc l, p] [] [] Q H := by
  intro A c s ys us a dl dk S
  obtain ⟨_, v, rfl, ⟨rfl, u⟩, d⟩ := dl.inv2
  obtain ⟨items, k, e', d'⟩ := S.list e
  refine call_meets F.slot_list_append e'.isList.typeIs F.entry_list_append (F.args_list_append_2 _ _) (list_append (c.ι l) items k v (sizeLine_big (d'.size ▸ hz))) ⟨e', ?_⟩
  refine ⟨.none, _, c, .refl c, rfl, S.listUpd (ws := vs ++ [p]) e e' ?_ s.drawn s.toks, h⟩
  rw [Array.toList_push]
  exact d'.append (.cons d .nil)
theorem c_pop0 {l : Loc} {p : PV} {vs : List PV} {Q : PV → Hp → Prop} (e : H l = some (.list (p :: vs))) (hz : vs.length < 1000000) (h : Q p (upd H l (.list vs))) : JCall C n X (.builtin "list.pop") [.loc l, .int 0] [] [] Q H := by
  intro A c s ys us a dl dk S
  obtain ⟨_, _, rfl, ⟨rfl, u⟩, ⟨t, rfl⟩⟩ := dl.inv2
  obtain ⟨items, k, e', d'⟩ := S.list e
  have z := d'.size
  obtain ⟨v, hv, dv⟩ := d'.get (i := 0) rfl
  have hsz : 0 < items.size := by rw [← z]; exact Nat.succ_pos _
  refine call_meets F.slot_list_pop e'.isList.typeIs F.entry_list_pop (F.args_list_pop_2 _ _) (MeetsSeq.list_pop_at (c.ι l) items k 0 t 0 v (by decide) ?_ (by rw [← Array.getElem?_toList]; exact hv) (sizeLine_big (by rw [← z, List.length_cons]; lia))) ⟨e', ?_⟩
  · unfold seqIndex?; simp [hsz]
  refine ⟨p, _, c, .refl c, dv, S.listUpd (ws := vs) e e' ?_ s.drawn s.toks, h⟩
  have : (items.eraseIdxIfInBounds 0).toList = items.toList.eraseIdx 0 := by simp
  rw [this]
  have := d'.drop 1
  simpa using this
theorem c_pop {l : Loc} {p : PV} {vs : List PV} {Q : PV → Hp → Prop} (e : H l = some (.list (vs ++ [p]))) (hz : vs.length < 1000000) (h : Q p (upd H l (.list vs))) : JCall C n X (.builtin "list.pop") [.loc l] [] [] Q H := by
  intro A c s ys us a dl dk S
  obtain ⟨_, rfl, ⟨rfl, u⟩⟩ := dl.inv1
  obtain ⟨items, k, e', d'⟩ := S.list e
  have z := d'.size
  rw [List.length_append, List.length_singleton] at z
  obtain ⟨v, hv, dv⟩ := d'.get (i := vs.length) (p := p) (by simp)
  refine call_meets F.slot_list_pop e'.isList.typeIs F.entry_list_pop (F.args_list_pop_1 _) (MeetsSeq.list_pop_last (c.ι l) items k v (by rw [← z, Nat.add_sub_cancel, ← Array.getElem?_toList]; exact hv) (sizeLine_big (by rw [← z]; lia))) ⟨e', ?_⟩
  refine ⟨p, _, c, .refl c, dv, S.listUpd (ws := vs) e e' ?_ s.drawn s.toks, h⟩
  have e1 : (items.eraseIdxIfInBounds (items.size - 1)).toList = items.toList.eraseIdx (items.size - 1) := by simp
  rw [e1, ← z, Nat.add_sub_cancel]
  have := d'.take vs.length
  rw [List.take_left'] at this
  · rw [List.eraseIdx_eq_take_drop_succ]
    have e2 : items.toList.drop (vs.length + 1) = [] := by rw [List.drop_eq_nil_iff, Array.length_toList, ← z]; exact Nat.le_refl _
    rw [e2, List.append_nil]; exact this
  · rfl
theorem c_extend {l k : Loc} {vs ws : List PV} {Q : PV → Hp → Prop} (e : H l = some (.list vs)) (f : H k = some (.list ws)) (hz : vs.length + ws.length ≤ 1000000) (h : Q .none (upd H l (.list (vs ++ ws)))) : JCall C n X (.builtin "list.extend") [.loc l, .loc k] [] [] Q H := by
  intro A c s ys us a dl dk S
  obtain ⟨_, v, rfl, ⟨rfl, u⟩, ⟨rfl, u'⟩⟩ := dl.inv2
  obtain ⟨items, k1, e', d'⟩ := S.list e
  obtain ⟨items2, k2, f', g'⟩ := S.list f
  have z1 := d'.size
  have z2 := g'.size
  have hz2 : items.size + items2.size ≤ sizeLine := sizeLine_big (by lia)
  refine call_meets F.slot_list_extend e'.isList.typeIs F.entry_list_extend (F.args_list_extend_2 _ _) (AutoSeq1.list_extend_list_list_0 (c.ι l) items k1 (c.ι k) items2 k2 ?_ (sizeLine_big (by lia)) (by lia)) ⟨e', f', ?_⟩
  · have : Builtin.List.listTooLong (items.size + items2.size) = false := by unfold Builtin.List.listTooLong; exact decide_eq_false (by lia)
    rw [this, Bool.and_false]; decide
  refine ⟨.none, _, c, .refl c, rfl, S.listUpd (ws := vs ++ ws) e e' ?_ s.drawn s.toks, h⟩
  rw [Array.toList_append]
  exact d'.append g'
theorem c_count {l : Loc} {p : PV} {vs : List PV} {Q : PV → Hp → Prop} (e : H l = some (.list vs)) (he : ∀ q ∈ vs, (q.eqv p).isSome = true) (h : Q (.int (vs.countP fun q => q.eqv p == some true : Nat)) H) : JCall C n X (.builtin "list.count") [.loc l, p] [] [] Q H := by
  intro A c s ys us a dl dk S
  obtain ⟨_, v, rfl, ⟨rfl, u⟩, d⟩ := dl.inv2
  obtain ⟨items, k, e', d'⟩ := S.list e
  refine call_meets F.slot_list_count e'.isList.typeIs F.entry_list_count (F.args_list_count_2 _ _) (MeetsSeq.list_count (c.ι l) items k v (eqRaw p) (fun y hy => gives_raw d d' he y (by simpa using hy))) ⟨e', ?_⟩
  have : items.toList.countP (eqRaw p) = vs.countP fun q => q.eqv p == some true := by
    clear e' e h
    generalize items.toList = L at d'
    clear items
    induction d' with
    | nil => rfl
    | @cons q w ps us dq _ ih =>
      rw [List.countP_cons, List.countP_cons, ih fun q hq => he q (.tail _ hq)]
      obtain ⟨b, hb⟩ := Option.isSome_iff_exists.mp (he q (.head _))
      rw [eqRaw_eq dq hb, hb]
      cases b <;> rfl
  rw [this]
  exact (S.same s.drawn (s.toks + 1)).post (p := .int _) ⟨_, rfl⟩ h

theorem c_get (O : C.Ok) {l : Loc} {kvs : List (Str × PV)} {k : Str} {p : PV} {Q : PV → Hp → Prop} (e : H l = some (.dict kvs)) (h : Q ((dget kvs k).getD p) H) : JCall C n X (.builtin "dict.get") [.loc l, .str k, p] [] [] Q H := by
  intro A c s ys us a dl dk S
  obtain ⟨_, v, w, rfl, ⟨rfl, u⟩, d, dp⟩ := dl.inv3
  obtain ⟨kvs', e', d'⟩ := S.dict e
  refine call_meetsIn F.slot_dict_get e'.typeIs F.entry_dict_get (F.args_dict_get_3 _ _ _) (meets_dict_get_default C.sk (c.ι l) (sk_is d) (S.modules O e) w) ⟨_, e'.mapOf, ?_⟩
  refine ⟨(dget kvs k).getD p, H, c, .refl c, ?_, S.same s.drawn (s.toks + 1), h⟩
  have := d'.get k
  revert this
  cases dget kvs k <;> cases valueAt kvs' k <;> intro z <;> first | exact z | exact dp | exact z.elim
theorem c_values (O : C.Ok) {l : Loc} {kvs : List (Str × PV)} {Q : PV → Hp → Prop} (e : H l = some (.dict kvs)) (h : Alloc (.view l) Q H) : JCall C n X (.builtin "dict.values") [.loc l] [] [] Q H := by
  intro A c s ys us a dl dk S
  obtain ⟨_, rfl, ⟨rfl, u⟩⟩ := dl.inv1
  obtain ⟨kvs', e', d'⟩ := S.dict e
  refine call_meetsIn F.slot_dict_values e'.typeIs F.entry_dict_values (F.args_dict_values_1 _) (meets_dict_values C.sk (c.ι l) (S.modules O e)) ⟨⟨_, e'⟩, ?_⟩
  refine S.push h (fun k hk => ?_) s.drawn s.toks
  have X0 := Cf.put_ext (a := s.heap.objs.size) hk
  refine ⟨⟨_, Heap.get?_push_size _ rfl, rfl, ?_⟩, (X0.on l u).1⟩
  rw [(X0.on l u).2]
/-- a dict's item, stored -/
theorem op_setitem (O : C.Ok) {l : Loc} {kvs : List (Str × PV)} {k : Str} {p : PV} {Q : Hp → Prop} (e : H l = some (.dict kvs)) (hz : kvs.length ≤ 1000000) (h : Q (upd H l (.dict (dput kvs k p)))) : J3U C n X (fun u v w => setItem u v w) (.loc l) (.str k) p Q H := by
  rintro A c s u v w _ ⟨rfl, u⟩ dk dp S
  obtain ⟨kvs', e', d'⟩ := S.dict e
  exact wpAny_setItem_pairs (knd := C.sk) (sk_is dk) e' (fun h' hd hs => ⟨_, c, .refl c, S.updH (sp := .dict (dput kvs k p)) e hs ⟨_, hd, d'.put dp⟩ rfl s.drawn _, h⟩) (sizeLine_big (d'.length ▸ hz))

theorem op_delitem (O : C.Ok) {l : Loc} {kvs : List (Str × PV)} {k : Str} {Q : Hp → Prop} (e : H l = some (.dict kvs)) (hz : kvs.length ≤ 1000000) (hk : (dget kvs k).isSome = true) (h : Q (upd H l (.dict (ddel kvs k)))) : J2U C n X (fun u v => delItem u v) (.loc l) (.str k) Q H := by
  rintro A c s u v _ ⟨rfl, u⟩ dk S
  obtain ⟨kvs', e', d'⟩ := S.dict e
  refine wpAny_delItem_slot e'.typeIs (by decide) F.slot_dict_delitem (call_meetsIn F.slot_dict_delitem e'.typeIs F.entry_dict_delitem (F.args_dict_delitem_2 _ _) (meets_dict_delitem_pairs C.sk (c.ι l) (sk_is dk)) ⟨_, e', sizeLine_big (d'.length ▸ hz), ?_, fun h' hd hs => ?_⟩)
  · have := d'.get k
    revert this
    revert hk
    cases dget kvs k <;> cases valueAt kvs' k <;> intro h z <;> first | exact z.elim | rfl | cases h
  · exact ⟨_, c, .refl c, S.updH (sp := .dict (ddel kvs k)) e hs ⟨_, hd, d'.del k⟩ rfl s.drawn _, h⟩
theorem X_del {o k : Expr} {ap pos : Pos} {Q : AF → Hp → Prop} (h : JE C F n X o (fun p H₁ => JE C F n X k (fun q H₂ => J2U C n X (fun u v => delItem u v) p q (Q .next) H₂) H₁) H) : JX C F n X (.Delete [.Subscript o k ap] pos) Q H := by
  intro A c s a i S
  refine wpAny_Delete (wpAny_deleteEach_cons (wpAny_delete_Subscript ?_))
  exact (wpP (h A c s a i S) fun u s₁ p H₁ c₁ x₁ d₁ S₁ h₁ => (wpPx x₁ (h₁.on a i x₁ S₁) fun v s₂ q H₂ c₂ x₂ d₂ S₂ h₂ => (wpV (h₂.at a (x₁.trans x₂) (d₁.ext x₂) d₂ S₂) fun _ s₃ H₃ c₃ x₃ S₃ q₃ => wpAny_deleteEach_nil ⟨.next, H₃, c₃, x₃, rfl, S₃, q₃⟩)))

/-! functions of the language -/
theorem c_len {l : Loc} {vs : List PV} {Q : PV → Hp → Prop} (e : H l = some (.list vs)) (hz : vs.length ≤ 1000000) (h : Q (.int vs.length) H) : JCall C n X (.builtin "len") [.loc l] [] [] Q H := by
  intro A c s ys us a dl dk S
  obtain ⟨_, rfl, ⟨rfl, u⟩⟩ := dl.inv1
  obtain ⟨items, k, e', d⟩ := S.list e
  have z := d.size
  refine Calls.call_function_entry kind_len plain_len entry_len (args_len1 _) (wpAny_len_body_list e'.isList (by lia) ((S.same s.drawn _).post (p := .int _) ⟨_, rfl⟩ ?_))
  rw [← z]; exact h
theorem c_abs {k : Int} {Q : PV → Hp → Prop} (h : Q (.int (if k < 0 then -k else k)) H) : JCall C n X (.builtin "abs") [.int k] [] [] Q H := by
  intro A c s ys us a dl dk S
  obtain ⟨_, rfl, ⟨t, rfl⟩⟩ := dl.inv1
  exact call_abs_int fun u tk => (S.same s.drawn tk).post (p := .int _) ⟨_, rfl⟩ h
theorem c_str {k : Int} {Q : PV → Hp → Prop} (hk : (if k < 0 then 0 - k else k) < 1000000) (h : Q (.str (Str.ofString (toString k))) H) : JCall C n X (.type "str") [.int k] [] [] Q H := by
  intro A c s ys us a dl dk S
  obtain ⟨_, rfl, ⟨t, rfl⟩⟩ := dl.inv1
  exact str_of_int_fit hk (by decide) fun _ => (S.same s.drawn _).post (p := .str _) ⟨_, rfl⟩ h
end
-- M9

/-- what is put in, one after the other -/
noncomputable def sadd (K : List Str) (k : Str) : List Str := if k ∈ K then K else K ++ [k]
noncomputable def saddAll (K : List Str) (ks : List Str) : List Str := ks.foldl sadd K
theorem sadd_nodup {K : List Str} (h : K.Nodup) (k : Str) : (sadd K k).Nodup := by
  unfold sadd
  split
  · exact h
  · rename_i hk
    rw [List.nodup_append]
    exact ⟨h, by simp, fun a ha b hb e => hk (by rw [List.mem_singleton] at hb; rw [← hb, ← e]; exact ha)⟩

/-- a list that holds as many names as there are, and all of them, holds each once -/
theorem once_of_all : ∀ {K ks : List Str}, K.Nodup → (∀ x ∈ K, x ∈ ks) → ks.length = K.length → ks.Nodup ∧ ∀ x ∈ ks, x ∈ K := by
  intro K
  induction K with
  | nil => intro ks _ _ hl; have : ks = [] := List.length_eq_zero_iff.mp hl; subst this; exact ⟨.nil, fun _ h => h⟩
  | cons a K ih =>
    intro ks hn ha hl
    obtain ⟨na, nK⟩ := List.nodup_cons.mp hn
    have ma := ha a (.head _)
    have hp := List.perm_cons_erase ma
    obtain ⟨h1, h2⟩ := ih (ks := ks.erase a) nK (fun x hx => by
      have := ha x (.tail _ hx)
      exact (List.mem_erase_of_ne (fun e => na (by rw [← e]; exact hx))).mpr this) (by rw [List.length_erase_of_mem ma, hl]; simp)
    have na' : a ∉ ks.erase a := fun h => na (h2 a h)
    refine ⟨hp.symm.nodup (List.nodup_cons.mpr ⟨na', h1⟩), fun x hx => ?_⟩
    rcases List.mem_cons.mp (hp.mem_iff.mp hx) with e | e
    · rw [e]; exact .head _
    · exact .tail _ (h2 x e)
theorem fits_drop {t : SetTable} {m i : Nat} (h : t.fits m = true) (hi : i < m) : (t.drop i).fits (m - 1) = true := by
  simp only [SetTable.fits, Bool.and_eq_true, beq_iff_eq, decide_eq_true_eq] at h ⊢
  obtain ⟨h1, h2⟩ := h
  have hi' : i < t.place.size := by rw [h1]; exact hi
  unfold SetTable.drop
  rw [Array.getElem?_eq_getElem hi']
  dsimp only
  have e1 : (SetTable.eraseAt t.place i).size = t.place.size - 1 := by
    unfold SetTable.eraseAt
    simp only [Array.size_append, Array.size_extract]; lia
  have e2 : (SetTable.insertAt t.dummies (SetTable.below t.dummies t.place[i]) t.place[i]).size = t.dummies.size + 1 := by
    have := (SetTable.insertAt_perm t.dummies (SetTable.below t.dummies t.place[i]) t.place[i]).length_eq
    rw [Array.length_toList, Array.length_toList, Array.size_push] at this
    exact this
  refine ⟨by rw [e1, h1], ?_⟩
  unfold SetTable.fill at h2 ⊢
  rw [e1, e2]; lia

section
variable {C : Ctx} {F : FC} {n : Nat} {X : XT} {H : Hp} {c : Cf} {s : Shared}

theorem eraseAt_toList {α : Type} (xs : Array α) (i : Nat) : (SetTable.eraseAt xs i).toList = xs.toList.eraseIdx i := by
  unfold SetTable.eraseAt
  rw [List.eraseIdx_eq_take_drop_succ]
  simp only [Array.toList_append, Array.toList_extract, List.extract_eq_take_drop, List.drop_zero, Nat.sub_zero]
  rw [List.take_of_length_le (l := List.drop (i + 1) xs.toList) (by rw [List.length_drop, Array.length_toList]; exact Nat.le_refl _)]

theorem keys_of {prog : Program} {w : World} : ∀ {es : List (Int × Value)}, ElemsOf (strKind prog w) es → ∃ ks : List Str, ks.length = es.length ∧ ∀ (i : Nat) e, es[i]? = some e → ∃ k, ks[i]? = some k ∧ (strKind prog w).is k e.2 = true
  | [], _ => ⟨[], rfl, fun i e h => by simp at h⟩
  | e :: es, h => by
    obtain ⟨ks, h1, h2⟩ := keys_of (h.tail)
    obtain ⟨⟨k, hk, _⟩, _⟩ := h.head
    refine ⟨k :: ks, by simp [h1], fun i x hx => ?_⟩
    cases i with
    | zero => simp at hx; subst hx; exact ⟨k, rfl, hk⟩
    | succ i => simpa using h2 i x (by simpa using hx)

theorem idx_inj {α : Type} {xs : List α} (h : xs.Nodup) {i j : Nat} {y : α} (a : xs[i]? = some y) (b : xs[j]? = some y) : i = j := by
  obtain ⟨hi, ei⟩ := List.getElem?_eq_some_iff.mp a
  obtain ⟨hj, ej⟩ := List.getElem?_eq_some_iff.mp b
  have hp := List.pairwise_iff_getElem.mp h
  rcases Nat.lt_trichotomy i j with q | q | q
  · exact absurd (ei.trans ej.symm) (hp i j hi hj q)
  · exact q
  · exact absurd (ej.trans ei.symm) (hp j i hj hi q)
/-- what stays of a table when an entry goes -/
inductive Erased (C : Ctx) (K : List Str) (k : Str) (es : Array (Int × Value)) (t : SetTable) : Prop
  | mk (j : Nat) (hj : j < es.toList.length) (hr : List.findIdx? (fun e => C.sk.is k e.2) es.toList = some j) (fit : (t.drop j).fits (SetTable.eraseAt es j).size = true) (el : ElemsOf C.sk (SetTable.eraseAt es j).toList)
    (len : (SetTable.eraseAt es j).size = (K.erase k).length) (mem : ∀ y, decide (y ∈ K.erase k) = true ↔ ∃ e ∈ (SetTable.eraseAt es j).toList, C.sk.is y e.2 = true)
theorem erased {C : Ctx} {K : List Str} {k : Str} {es : Array (Int × Value)} {t : SetTable} (hk : k ∈ K) (nd : K.Nodup) (hel : ElemsOf C.sk es.toList) (hmem : ∀ k, decide (k ∈ K) = true ↔ ∃ e ∈ es.toList, C.sk.is k e.2 = true)
    (hf : t.fits es.size = true) (hsz : es.size = K.length) : Erased C K k es t := by
  obtain ⟨e0, he0, hk0⟩ := (hmem k).mp (decide_eq_true hk)
  cases hr : List.findIdx? (fun e => C.sk.is k e.2) es.toList with
  | none => exact absurd hk0 (by rw [List.findIdx?_eq_none_iff.mp hr e0 he0]; exact Bool.false_ne_true)
  | some j =>
    obtain ⟨hj, hpj, -⟩ := List.findIdx?_eq_some_iff_getElem.mp hr
    have hj' : j < es.size := by rw [← Array.length_toList]; exact hj
    obtain ⟨ks, hlen, hkeys⟩ := keys_of hel
    have hall : ∀ y ∈ K, y ∈ ks := fun y hy => by
      obtain ⟨ey, hey, hky⟩ := (hmem y).mp (decide_eq_true hy)
      obtain ⟨i, hi, he⟩ := List.mem_iff_getElem.mp hey
      obtain ⟨y', h1, h2⟩ := hkeys i ey (by rw [List.getElem?_eq_getElem hi, he])
      rw [C.sk.inj _ _ _ hky h2]; exact List.mem_of_getElem? h1
    obtain ⟨ksn, ksm⟩ := once_of_all nd hall (by rw [hlen, Array.length_toList, hsz])
    have atj : ks[j]? = some k := by
      obtain ⟨y', h1, h2⟩ := hkeys j _ (List.getElem?_eq_getElem hj)
      rw [h1, C.sk.inj _ _ _ h2 hpj]
    have hz : (SetTable.eraseAt es j).size = es.size - 1 := by
      rw [← Array.length_toList, eraseAt_toList, List.length_eraseIdx_of_lt hj, Array.length_toList]
    refine ⟨j, hj, hr, by rw [hz]; exact fits_drop hf hj', fun e he => ?_, by rw [hz, hsz, List.length_erase_of_mem hk], fun y => ?_⟩
    · rw [eraseAt_toList] at he
      exact hel e (List.mem_of_mem_eraseIdx he)
    rw [decide_eq_true_iff, nd.mem_erase_iff, eraseAt_toList]
    constructor
    · rintro ⟨hne, hy⟩
      obtain ⟨ey, hey, hky⟩ := (hmem y).mp (decide_eq_true hy)
      obtain ⟨i, hi, he⟩ := List.mem_iff_getElem.mp hey
      refine ⟨ey, List.mem_eraseIdx_iff_getElem.mpr ⟨i, hi, fun hij => ?_, he⟩, hky⟩
      obtain ⟨y', h1, h2⟩ := hkeys i ey (by rw [List.getElem?_eq_getElem hi, he])
      rw [hij, atj] at h1
      exact hne ((C.sk.inj _ _ _ hky h2).trans (Option.some.inj h1).symm)
    · rintro ⟨ey, hey, hky⟩
      obtain ⟨i, hi, hij, he⟩ := List.mem_eraseIdx_iff_getElem.mp hey
      obtain ⟨y', h1, h2⟩ := hkeys i ey (by rw [List.getElem?_eq_getElem hi, he])
      rw [← C.sk.inj _ _ _ hky h2] at h1
      exact ⟨fun hyk => hij (idx_inj ksn h1 (hyk ▸ atj)), ksm y (List.mem_of_getElem? h1)⟩
theorem remove_walk {A : Around} {v : Value} {k : Str} {o : Obj} {es : Array (Int × Value)} {ep : Nat} {t : SetTable} {a : Addr} {j : Nat} {s : Shared} {Q : PySem.Fin → Shared → Prop} {E : Value → Shared → Prop} (hkey : C.sk.is k v = true) (hsc : v.scannable = true)
    (ho : s.heap.get? a = some o) (hd : o.data = .set es ep t) (hel : ElemsOf C.sk es.toList) (hb : es.size < scanBound) (hf : t.fits es.size = true) (hr : List.findIdx? (fun e => C.sk.is k e.2) es.toList = some j) (hb' : (SetTable.eraseAt es j).size < scanBound) (hfit : (t.drop j).fits (SetTable.eraseAt es j).size = true)
    (h : wpAny C.M A (ret Value.none) Q E ⟨s.heap.update a (Obj.putSet (SetTable.eraseAt es j) (t.drop j)), s.gens, s.drawn, s.toks + 1, s.os⟩) : wpAny C.M A (Builtin.«set.remove» ⟨[.ref a, v], []⟩) Q E s := by
  unfold Builtin.«set.remove» Builtin.Frozenset.oneOther
  simp only [List.isEmpty_nil, bind_assoc]
  unfold Builtin.Frozenset.addrOf
  refine wpAny_bind (wpAny_pure ?_)
  try dsimp only
  refine wpAny_bind (wpAny_pure ?_)
  try dsimp only
  unfold Builtin.Frozenset.withSetAsKey setDiscard
  refine wpAny_bind (wpAny_tryCatch ?_)
  refine wpAny_holding ?_
  refine wpAny_bind (C.sk.pyHash hkey ?_)
  unfold setDiscardHashed setFind setFindIn
  refine wpAny_bind (wpAny_bind (wpAny_setState_of (s := { s with toks := s.toks + 1 }) ho hd hf ?_))
  dsimp only
  rw [byScan_of hsc hb hel]
  simp only [↓reduceIte]
  refine wpAny_bind (wpAny_rule ?_)
  refine wpAny_bind (wpAny_setScan_of (s := { s with toks := s.toks + 1 }) hkey ho hd hf hel ?_)
  rw [hr]
  dsimp only
  refine wpAny_pure ?_
  dsimp only
  rw [Nat.zero_add]
  refine wpAny_bind (wpAny_setState_of (s := { s with toks := s.toks + 1 }) ho hd hf ?_)
  dsimp only
  refine wpAny_bind (wpAny_storeSet_of (s := { s with toks := s.toks + 1 }) ho hd ?_ (fits_of_scanBound hb'))
  refine wpAny_bind (wpAny_point (wpAny_pure ?_))
  exact h
theorem c_remove {l : Loc} {K : List Str} {k : Str} {Q : PV → Hp → Prop} (e : H l = some (.set K)) (hk : k ∈ K) (h : Q .none (upd H l (.set (K.erase k)))) : JCall C n X (.builtin "set.remove") [.loc l, .str k] [] [] Q H := by
  intro A c s ys us a dl dk S
  obtain ⟨_, v, rfl, ⟨rfl, u⟩, d⟩ := dl.inv2
  obtain ⟨x, nd⟩ := S.set e
  have hsc : v.scannable = true := by obtain ⟨t, rfl⟩ := d; rfl
  refine wpAny_call_entry F.slot_set_remove x.typeIs F.entry_set_remove ?_ (F.args_set_remove_2 _ _)
  obtain ⟨o, es, ep, t, ho, hex, hd, hel, hmem, hb, hf, hsz⟩ := x
  obtain ⟨j, hj, hr, hfit, hel', hlen', hmem'⟩ := erased (k := k) hk nd hel hmem hf hsz
  have hb' : (SetTable.eraseAt es j).size < scanBound := by
    rw [hlen', List.length_erase_of_mem hk]; rw [hsz] at hb; lia
  refine remove_walk (sk_is d) hsc ho hd hel hb hf hr hb' hfit ?_
  refine wpAny_pure ⟨_, rfl, .none, _, c, .refl c, rfl, S.updH (sp := .set (K.erase k)) e (Heap.SameBut.update ..) ⟨?_, nd.erase k⟩ rfl s.drawn _, h⟩
  rw [← hlen']
  exact (SetOf_store (knd := C.sk) ho hex hd hel' hmem' hb' hfit).2

theorem set_cong {h : Heap} {a : Addr} {f g : Str → Bool} {m k : Nat} (x : h.SetOf C.sk a f m) (e : ∀ y, f y = g y) (e' : m = k) : h.SetOf C.sk a g k := by
  have : f = g := funext e
  subst this; subst e'; exact x
theorem set_at {h h' : Heap} {a : Addr} {f : Str → Bool} {m : Nat} (x : h.SetOf C.sk a f m) (e : ∀ o, h.get? a = some o → h'.get? a = some o) : h'.SetOf C.sk a f m := by
  obtain ⟨o, es, ep, t, ho, r⟩ := x
  exact ⟨o, es, ep, t, e o ho, r⟩
theorem mem_sadd {K : List Str} {k x : Str} : x ∈ sadd K k ↔ x ∈ K ∨ x = k := by
  unfold sadd
  split
  · rename_i h
    exact ⟨.inl, fun q => q.elim id fun e => e ▸ h⟩
  · simp
theorem len_sadd {K : List Str} {k : Str} : (sadd K k).length = if k ∈ K then K.length else K.length + 1 := by
  unfold sadd
  split <;> simp
theorem set_loop {A : Around} {R : Result → Shared → Prop} {a I L : Addr} {ks : List Str} {items : Array Value} (hA : A.handled = none) (hI : I ≠ a) (hL : L ≠ a) (hIL : I ≠ L) (d : DenL c (ks.map PV.str) items.toList) :
    ∀ (k i : Nat) (s : Shared) (K : List Str), ks.length - i = k → i ≤ ks.length → K.Nodup → K.length + ks.length ≤ 4000 + i → s.heap.IsListIter I L i → s.heap.IsList L items → s.heap.SetOf C.sk a (fun x => decide (x ∈ K)) K.length →
      (∀ h' tk, (∀ b o, b ≠ I → b ≠ a → s.heap.get? b = some o → h'.get? b = some o) → h'.SetOf C.sk a (fun x => decide (x ∈ saddAll K (ks.drop i))) (saddAll K (ks.drop i)).length → (saddAll K (ks.drop i)).Nodup → R (.ok (.ret .none)) ⟨h', s.gens, s.drawn, tk, s.os⟩) →
      codeAny C.M A (.builtin "set.update.loop" ⟨[.ref a, .ref I], []⟩) R s := by
  intro k
  have hsize : items.size = ks.length := by rw [← d.size, List.length_map]
  induction k with
  | zero =>
    intro i s K hk hi nd hz hit hl hS hR
    have hin : i = ks.length := by lia
    refine codeAny_builtin PyProof.Rows.F.entry_set_update_loop ?_
    rw [Around.under_plainId PyProof.Rows.F.plain_set_update_loop _]
    show wpAny _ A.in1 (pyNext (.ref I) >>= _) _ _ s
    refine wpAny_bind (wpAny_pyNext_list_end (i := i) hA hit hl (Array.getElem?_eq_none (by lia)) fun h' hx => ?_)
    show wpAny _ A.in1 (ret Value.none) _ _ _
    have e0 : saddAll K (ks.drop i) = K := by rw [hin, List.drop_length]; rfl
    refine wpAny_pure (hR h' s.toks (fun b o hb _ e => hx b o hb e) ?_ ?_)
    · rw [e0]; exact set_at hS fun o e => hx a o (Ne.symm hI) e
    · rw [e0]; exact nd
  | succ k ih =>
    intro i s K hk hi nd hz hit hl hS hR
    have hlt : i < ks.length := by lia
    obtain ⟨v, hv, dv⟩ := d.get (i := i) (p := .str ks[i]) (by rw [List.getElem?_map, List.getElem?_eq_getElem hlt]; rfl)
    have hkey : C.sk.is ks[i] v = true := sk_is dv
    have hsc : v.scannable = true := by obtain ⟨t, rfl⟩ := dv; rfl
    refine codeAny_builtin PyProof.Rows.F.entry_set_update_loop ?_
    rw [Around.under_plainId PyProof.Rows.F.plain_set_update_loop _]
    show wpAny _ A.in1 (pyNext (.ref I) >>= _) _ _ s
    refine wpAny_bind (wpAny_pyNext_list_item hit hl (by rw [← Array.getElem?_toList]; exact hv) fun h' hit' hs => ?_)
    show wpAny _ A.in1 (holding [v] (setAdd a v) >>= _) _ _ _
    refine wpAny_bind (wpAny_holding ?_)
    unfold setAdd
    refine wpAny_holding ?_
    refine wpAny_bind (C.sk.pyHash hkey ?_)
    have hS' := set_at (h' := h') hS fun o e => (hs.2 a (Ne.symm hI)).trans e
    have hb' : K.length + 1 < scanBound := by unfold scanBound; lia
    refine wpAny_setAddHashed_of (knd := C.sk) (s := ⟨h', s.gens, s.drawn, s.toks + 1, s.os⟩) hkey hsc hS' hb' fun h'' hsb hS2 => ?_
    have hSi : h''.SetOf C.sk a (fun x => decide (x ∈ sadd K ks[i])) (sadd K ks[i]).length :=
      set_cong hS2 (fun y => by rw [Bool.eq_iff_iff]; simp [mem_sadd]) (by rw [len_sadd]; simp)
    have ed : ks.drop i = ks[i] :: ks.drop (i + 1) := List.drop_eq_getElem_cons hlt
    refine wpAny_pure ⟨plainId_quiet PyProof.Rows.F.plain_set_update_loop _, ih (i + 1) _ (sadd K ks[i]) (by lia) hlt (sadd_nodup nd _) ?_ ?_ ?_ hSi fun h3 tk hk3 hS3 hn3 => ?_⟩
    · have : (sadd K ks[i]).length ≤ K.length + 1 := by rw [len_sadd]; split <;> lia
      lia
    · obtain ⟨o, ho, r⟩ := hit'; exact ⟨o, (hsb.2 I hI).trans ho, r⟩
    · obtain ⟨o, ho, r⟩ := hl; exact ⟨o, (hsb.2 L hL).trans ((hs.2 L (Ne.symm hIL)).trans ho), r⟩
    · refine hR h3 tk (fun b o h1 h2 e => hk3 b o h1 h2 ((hsb.2 b h2).trans ((hs.2 b h1).trans e))) ?_ ?_
      · rw [ed]; exact hS3
      · rw [ed]; exact hn3

theorem c_update {l k : Loc} {K ks : List Str} {Q : PV → Hp → Prop} (e : H l = some (.set K)) (f : H k = some (.list (ks.map PV.str))) (hz : K.length + ks.length ≤ 4000) (h : Q .none (upd H l (.set (saddAll K ks)))) : JCall C n X (.builtin "set.update") [.loc l, .loc k] [] [] Q H := by
  intro A c s ys us a dl dk S
  obtain ⟨_, v, rfl, ⟨rfl, u⟩, ⟨rfl, u'⟩⟩ := dl.inv2
  obtain ⟨x, nd⟩ := S.set e
  obtain ⟨items, j, f', d'⟩ := S.list f
  refine wpAny_call_entry F.slot_set_update x.typeIs F.entry_set_update ?_ (F.args_set_update_2 _ _)
  unfold Builtin.«set.update» Builtin.Frozenset.manyOthers
  simp only [List.isEmpty_nil]
  unfold Builtin.Frozenset.addrOf
  refine wpAny_bind (wpAny_pure ?_)
  dsimp only
  rw [List.forIn_cons]
  have hT : s.TypeIs (.ref (c.ι k)) "list" := f'.isList.typeIs
  have hne : c.ι k ≠ c.ι l := fun q => by
    have := S.inj _ _ _ _ f e q
    subst this; rw [e] at f; cases f
  have hlk := S.lt f
  have hll := S.lt e
  have step : ∀ Q', (∀ h' tk, (∀ b o, b ≠ c.ι l → s.heap.get? b = some o → h'.get? b = some o) → h'.SetOf C.sk (c.ι l) (fun x => decide (x ∈ saddAll K ks)) (saddAll K ks).length → (saddAll K ks).Nodup → Q' () ⟨h', s.gens, s.drawn, tk, s.os⟩) →
      wpAny C.M A.in1 (Builtin.Frozenset.updateFrom "set.update" (c.ι l) (.ref (c.ι k))) Q' (PostX X c) s := by
    intro Q' hQ
    unfold Builtin.Frozenset.updateFrom Builtin.Frozenset.isAnySet
    refine wpAny_bind (wpAny_bind (wpAny_isInstance hT F.sub_list_set ?_))
    refine wpAny_isInstance hT F.sub_list_frozenset ?_
    simp only [Bool.false_eq_true, if_false]
    refine wpAny_bind (wpAny_typeOf hT ?_)
    rw [if_neg (by decide)]
    refine wpAny_bind (wpAny_pyIter_list f'.isList ?_)
    refine wpAny_bind (wpAny_runValue ?_)
    have hIl : s.heap.objs.size ≠ c.ι l := fun q => by rw [← q] at hll; lia
    have hIk : s.heap.objs.size ≠ c.ι k := fun q => by rw [← q] at hlk; lia
    refine set_loop (L := c.ι k) (items := items) (by exact a.handled) hIl hne hIk d' (ks.length - 0) 0 _ K rfl (Nat.zero_le _) nd (by lia) ⟨_, Heap.get?_push_size _ rfl, rfl, rfl⟩ (f'.isList.push _) (set_at x fun o ho => Heap.get?_push_of_some _ ho) fun h' tk hk hS hn => ?_
    rw [List.drop_zero] at hS hn
    refine wpAny_pure (hQ h' tk (fun b o hb ho => hk b o (fun q => ?_) hb (Heap.get?_push_of_some _ ho)) hS hn)
    have q1 : @LT.lt Nat _ b s.heap.objs.size := Heap.lt_size ho
    rw [q] at q1; lia
  refine wpAny_bind (wpAny_bind (wpAny_bind (step _ fun h' tk hk hS hn => ?_)))
  refine wpAny_pure ?_
  dsimp only
  rw [List.forIn_nil]
  refine wpAny_pure ?_
  show wpAny _ _ (ret Value.none) _ _ _
  exact wpAny_pure ⟨_, rfl, .none, _, c, .refl c, rfl, S.updX (sp := .set (saddAll K ks)) e hk ⟨hS, hn⟩ rfl s.drawn tk, h⟩
end
-- M10
section
variable {C : Ctx} {F : FC} {n : Nat} {X : XT} {H : Hp} {c : Cf} {s : Shared}

theorem c_set0 {Q : PV → Hp → Prop} (h : Alloc (.set []) Q H) : JCall C n X (.type "set") [] [] [] Q H := by
  intro A c s ys us a dl dk S
  have e := dl.inv0; subst e
  refine call_set_0 fun led => ?_
  refine S.push h (fun l hl => ?_) s.drawn s.toks
  refine ⟨?_, .nil⟩
  have hget : (s.heap.push { cls := .type "set", dict := none, data := .set #[] 0 (.fresh 0 0 led) }).get? s.heap.objs.size = some { cls := .type "set", dict := none, data := .set #[] 0 (.fresh 0 0 led) } := Heap.get?_push_size _ rfl
  exact set_cong ((PyProof.Rows.setObjOf_fresh (knd := C.sk) led).setOf hget (by unfold scanBound; lia)) (fun _ => by simp) rfl

theorem St.newList {Q : PV → Hp → Prop} {ps : List PV} {items : Array Value} {k : Nat} {h' : Heap} (S : St C c H s) (h : Alloc (.list ps) Q H) (hk : ∀ b o, s.heap.get? b = some o → h'.get? b = some o) {a : Addr} (ha : s.heap.objs.size ≤ a)
    (hn : h'.get? a = some { cls := .type "list", dict := none, data := .seq items k, slots := #[] }) (d : DenL c ps items.toList) (dr : Drawn) (t : Nat) : Post C c Q (.ref a) ⟨h', s.gens, dr, t, s.os⟩ := by
  obtain ⟨r, hr, hq⟩ := S.alloc h
  have X0 := Cf.put_ext (a := a) hr
  exact ⟨.loc r, _, _, X0, ⟨by rw [Cf.put_self], .inl rfl⟩, S.new (sp := .list ps) hr hk ha ⟨items, k, hn, d.ext X0⟩ dr t, hq⟩

theorem DenL.of_get {ps : List PV} : ∀ {vs : List Value}, ps.length = vs.length → (∀ (i : Nat) p, ps[i]? = some p → ∃ v, vs[i]? = some v ∧ Den c p v) → DenL c ps vs := by
  induction ps with
  | nil => intro vs h _; have : vs = [] := List.length_eq_zero_iff.mp h.symm; subst this; exact .nil
  | cons p ps ih =>
    intro vs h g
    cases vs with
    | nil => simp at h
    | cons v vs =>
      obtain ⟨v', e, d⟩ := g 0 p rfl
      simp at e; subst e
      exact .cons d (ih (by simpa using h) fun i q hq => by simpa using g (i + 1) q (by simpa using hq))

theorem DenL.ofArr {ps : List PV} {items : Array Value} (h : ps.length = items.size) (g : ∀ (i : Nat) p v, ps[i]? = some p → items[i]? = some v → Den c p v) : DenL c ps items.toList := by
  have e : items.toList.length = items.size := Array.length_toList
  refine DenL.of_get (h.trans e.symm) fun i p hp => ?_
  have hi : i < items.size := by obtain ⟨hi, _⟩ := List.getElem?_eq_some_iff.mp hp; lia
  exact ⟨items[i], by rw [Array.getElem?_toList, Array.getElem?_eq_getElem hi], g i p _ hp (Array.getElem?_eq_getElem hi)⟩
theorem c_list_values (O : C.Ok) {l v : Loc} {kvs : List (Str × PV)} {Q : PV → Hp → Prop} (e : H l = some (.dict kvs)) (f : H v = some (.view l)) (hz : kvs.length ≤ 1000000) (h : Alloc (.list (kvs.map (·.2))) Q H) : JCall C n X (.type "list") [.loc v] [] [] Q H := by
  intro A c s ys us a dl dk S
  obtain ⟨_, rfl, ⟨rfl, u⟩⟩ := dl.inv1
  obtain ⟨kvs', e', d'⟩ := S.dict e
  obtain ⟨f', u'⟩ := S.reg v _ f
  obtain ⟨ep, hat⟩ := e'.dictAt
  have zl := d'.length
  refine kdl_call (kdl_values (knd := C.sk) (kvs := kvs') (ep := ep) (r := c.ι v) (d := c.ι l)) a.handled ⟨f', hat⟩ (sizeLine_big (by lia)) fun h' tk acc k hk hn hi => ?_
  refine S.newList h hk (Nat.le_refl _) hn ?_ s.drawn tk
  obtain ⟨h1, h2⟩ := hi
  refine DenL.ofArr (by rw [List.length_map, h1, zl]) fun i p v hp hv => ?_
  obtain ⟨w, hw, dw⟩ := d'.vals.get hp
  obtain ⟨q, hq⟩ := h2 i v hv
  rw [List.getElem?_map, hq] at hw
  cases hw
  exact dw

theorem c_len_base {a : Addr} {items : Array Value} {Q : PV → Hp → Prop} (hl : C.hb.IsList a items) (hz : items.size ≤ 1000000) (h : Q (.int items.size) H) : JCall C n X (.builtin "len") [.raw (.ref a)] [] [] Q H := by
  intro A c s ys us a' dl dk S
  obtain ⟨u, rfl, hu⟩ := dl.inv1
  have : u = .ref a := hu
  subst this
  have hl' : s.heap.IsList a items := by obtain ⟨o, ho, r⟩ := hl; exact ⟨o, S.base _ _ ho, r⟩
  exact Calls.call_function_entry kind_len plain_len entry_len (args_len1 _) (wpAny_len_body_list hl' (by lia) ((S.same s.drawn _).post (p := .int _) ⟨_, rfl⟩ h))

/-- subscripts -/
theorem sub_list {slice : Expr} {l : Loc} {vs : List PV} {k : Int} {p : PV} {Q : PV → Hp → Prop} (e : H l = some (.list vs)) (h0 : 0 ≤ k) (hz : k < 2 ^ 63) (hx : vs[k.toNat]? = some p) (h : Q p H)
    (hs : autoParam (∀ o i, subscripted slice false o i = operate [o, i] (getItem o i)) Au.a7) : JSub C n X slice (.loc l) (.int k) Q H := by
  rintro value A c s u v _ ⟨rfl, u⟩ ⟨t, rfl⟩ S
  obtain ⟨items, j, e', d⟩ := S.list e
  obtain ⟨w, hw, dw⟩ := d.get hx
  exact tail_any e'.isList.typeIs list_getitem_lookup (wpAny_getItem_list e'.isList h0 hz (by rw [← Array.getElem?_toList]; exact hw) (S.post dw h)) (hs _ _)
theorem sub_base {slice : Expr} {a : Addr} {items : Array Value} {k i : Int} {t : Tok} {Q : PV → Hp → Prop} (hl : C.hb.IsList a items) (h0 : 0 ≤ k) (hz : k < 2 ^ 63) (hx : items[k.toNat]? = some (.int i t)) (h : Q (.int i) H)
    (hs : autoParam (∀ o i, subscripted slice false o i = operate [o, i] (getItem o i)) Au.a7) : JSub C n X slice (.raw (.ref a)) (.int k) Q H := by
  rintro value A c s u v _ du ⟨t, rfl⟩ S
  have : u = .ref a := du
  subst this
  have hl' : s.heap.IsList a items := by obtain ⟨o, ho, r⟩ := hl; exact ⟨o, S.base _ _ ho, r⟩
  exact tail_any hl'.typeIs list_getitem_lookup (wpAny_getItem_list hl' h0 hz hx (S.post (p := .int i) ⟨_, rfl⟩ h)) (hs _ _)
theorem sub_dict {slice : Expr} {l : Loc} {kvs : List (Str × PV)} {k : Str} {p : PV} {Q : PV → Hp → Prop} (e : H l = some (.dict kvs)) (hx : dget kvs k = some p) (h : Q p H)
    (hs : autoParam (∀ o i, subscripted slice false o i = operate [o, i] (getItem o i)) Au.a7) : JSub C n X slice (.loc l) (.str k) Q H := by
  rintro value A c s u v _ ⟨rfl, u⟩ dk S
  obtain ⟨kvs', e', d⟩ := S.dict e
  obtain ⟨w, hw, dw⟩ := (show DenO c (some p) (valueAt kvs' k) from hx ▸ d.get k).some_inv
  exact tail_any e'.typeIs F.slot_dict_getitem.lookup (wpAny_getItem_of (knd := C.sk) (sk_is dk) e'.mapOf hw ((S.same s.drawn _).post dw h)) (hs _ _)
end
-- M11
section
variable {prog : Program} {w : World} {A : Around} {E : Value → Shared → Prop} {s : Shared}
theorem rev_no_len : typeLookup (.type "list_reverseiterator") "__len__" = pure none := by rw [typeLookup_type, builtinLookup_eq_fast]; kernel_rfl
theorem rev_hint_at : typeLookup (.type "list_reverseiterator") "__length_hint__" = pure (some (.builtin "list_reverseiterator.__length_hint__")) := by rw [typeLookup_type, builtinLookup_eq_fast]; kernel_rfl
theorem rev_hint {r : Addr} {Q : Bool → Shared → Prop} (hT : s.TypeIs (.ref r) "list_reverseiterator") (h : Q false s) : wpAny (model prog w) A (Builtin.List.listLengthHint (.ref r)) Q E s := by
  unfold Builtin.List.listLengthHint
  refine wpAny_bind (wpAny_specialOf hT rev_no_len ?_)
  refine wpAny_bind (wpAny_specialOf hT rev_hint_at ?_)
  generalize hid : ("list_reverseiterator.__length_hint__" : String) = id0
  wp_delta
  rw [show splitId id0 = some ("list_reverseiterator", "__length_hint__") from by subst hid; decide +kernel]
  subst hid
  refine wpAny_bind (wpAny_isInstance (T := "list_reverseiterator") (b := true) hT (by rw [isSubtype_type]; kernel_rfl) ?_)
  refine wpAny_ite_split (fun hab => absurd hab (by decide)) (fun _ => ?_)
  refine wpAny_ite_split (fun _ => ?_) (fun hab => absurd (by decide +kernel) hab)
  refine wpAny_ite_split (fun hab => absurd hab (by decide +kernel)) (fun _ => ?_)
  exact wpAny_pure h

theorem rev_extend {R : Result → Shared → Prop} {I l S : Addr} {items : Array Value} (hh : A.handled = none) (hI : s.heap.IsRevIter I l ((items.size : Int) - 1)) (hl : s.heap.IsList l items) (hlI : l ≠ I) (hSI : S ≠ I) (hSl : S ≠ l) (res : Value) (c₀ : Nat)
    (hS : s.heap.get? S = some { cls := .type "list", data := .seq #[] c₀ })
    (hR : ∀ h' tk acc' c', (∀ b o, b ≠ S → b ≠ I → s.heap.get? b = some o → h'.get? b = some o) → h'.get? S = some { cls := .type "list", dict := none, data := .seq acc' c', slots := #[] } → ItemsOf (fun i v => items[items.size - 1 - i]? = some v) acc' items.size → R (.ok (.ret res)) { s with heap := h', toks := tk }) (hn : items.size ≤ sizeLine) :
    wpAny (model prog w) A.in1 (Builtin.List.listExtendWith (.ref S) (.ref I) res)
      (fun fin s' => match fin with | .done f => R (.ok f) s' | .again c' => c'.quiet = true ∧ codeAny (model prog w) A c' R s') (fun e s' => R (.error e) s') s := by
  have hSf : S ∉ [I, l] := by simp only [List.mem_cons, List.not_mem_nil, or_false, not_or]; exact ⟨hSI, hSl⟩
  have W := Walks.listRev (prog := prog) (w := w) (A := A.in1) hh I l hlI items
  have key : ∀ (h : Heap) (c₁ tk : Nat), (0 ≤ items.size ∧ h.IsRevIter I l ((items.size : Int) - 1 - ((0 : Nat) : Int)) ∧ h.IsList l items) → (∀ b o, b ≠ S → s.heap.get? b = some o → h.get? b = some o) →
      h.get? S = some { cls := .type "list", data := .seq #[] c₁ } → codeAny (model prog w) A (.builtin "list.extend.loop" ⟨[.ref S, .ref I, res], []⟩) R { s with heap := h, toks := tk } := by
    intro h c₁ tk hst hk hS₁
    refine codeAny_extend_loopS W.toS hn S hSf res items.size 0 _ #[] c₁ rfl (Nat.zero_le _) hst hS₁ (ItemsOf.nil _) fun s' acc' c' hm hS' hacc => ?_
    rw [Moved.eq_with hm]
    refine hR s'.heap s'.toks acc' c' (fun b o hb hbI e => hm.heap b o (fun hmem => ?_) (hk b o hb e)) hS' hacc
    rcases List.mem_cons.mp hmem with e' | hmem
    · exact hb e'
    · exact hbI (List.mem_singleton.mp hmem)
  have st0 : ∀ h : Heap, (∀ b o, b ≠ S → s.heap.get? b = some o → h.get? b = some o) → 0 ≤ items.size ∧ h.IsRevIter I l ((items.size : Int) - 1 - ((0 : Nat) : Int)) ∧ h.IsList l items := fun h hk =>
    ⟨Nat.zero_le _, by rw [Int.natCast_zero, Int.sub_zero]; exact hI.at fun o e => hk _ _ (Ne.symm hSI) e, by obtain ⟨o, ho, r⟩ := hl; exact ⟨o, hk _ _ (Ne.symm hSl) ho, r⟩⟩
  unfold Builtin.List.listExtendWith
  refine wpAny_bind (wpAny_typeOf (T := "list_reverseiterator") hI.typeIs ?_)
  have h1 : Builtin.List.listSameRef (.ref S) (.ref I) = false := by simp [Builtin.List.listSameRef, hSI]
  simp only [h1, show (Value.type "list_reverseiterator" == Value.type "list") = false from by decide, show (Value.type "list_reverseiterator" == Value.type "tuple") = false from by decide, Bool.or_false, Bool.false_eq_true, if_false]
  refine wpAny_bind (wpAny_pyIter_revIter hI ?_)
  refine wpAny_bind (wpAny_holding (rev_hint hI.typeIs ?_))
  refine wpAny_ite_split (fun _ => ?_) (fun _ => wpAny_pure ⟨plainId_quiet PySem.F.plain_extend_loop _, key _ c₀ _ (st0 _ fun _ _ _ e => e) (fun b o _ e => e) hS⟩)
  refine wpAny_bind (wpAny_rule ?_)
  refine wpAny_bind ?_
  show wpAny _ _ (updateSeq S (·.push .none) >>= fun _ => updateSeq S (·.pop)) _ _ _
  refine wpAny_bind (wpAny_updateSeq hS rfl ?_)
  have hS₂ := Heap.get?_update_self (Obj.mapSeq (·.push Value.none)) hS rfl
  refine wpAny_updateSeq (hz := by seq_fits) hS₂ rfl ?_
  have hS₃ := Heap.get?_update_self (Obj.mapSeq (·.pop)) hS₂ rfl
  refine wpAny_pure ⟨plainId_quiet PySem.F.plain_extend_loop _, key _ _ _ (st0 _ fun b o hb e => ?_) (fun b o hb e => ?_) hS₃⟩
  · exact (Heap.get?_update_other _ _ (Ne.symm hb)).trans ((Heap.get?_update_other _ _ (Ne.symm hb)).trans e)
  · exact (Heap.get?_update_other _ _ (Ne.symm hb)).trans ((Heap.get?_update_other _ _ (Ne.symm hb)).trans e)
theorem rev_call {Q : Value → Shared → Prop} {I l : Addr} {items : Array Value} (hh : A.handled = none) (hI : s.heap.IsRevIter I l ((items.size : Int) - 1)) (hl : s.heap.IsList l items) (hlI : l ≠ I) (hn : items.size ≤ sizeLine)
    (hQ : ∀ h' tk acc' c', (∀ b o, b ≠ I → s.heap.get? b = some o → h'.get? b = some o) → h'.get? s.heap.objs.size = some { cls := .type "list", dict := none, data := .seq acc' c', slots := #[] } → ItemsOf (fun i v => items[items.size - 1 - i]? = some v) acc' items.size → Q (.ref s.heap.objs.size) { s with heap := h', toks := tk }) :
    wpAny (model prog w) A (call (.type "list") [.ref I]) Q E s := by
  refine callType_codes (Q₁ := fun obj s₁ => obj = .ref s.heap.objs.size ∧ s₁ = { s with heap := s.heap.push { cls := .type "list", data := .seq #[] } }) PySem.F.called_list (PySem.F.typeCall_list_1 _) PySem.F.entry_list_init
    (code_list_new _ ⟨rfl, rfl⟩) fun obj s₁ h₁ => ?_
  obtain ⟨rfl, rfl⟩ := h₁
  have hS : (s.heap.push { cls := .type "list", data := .seq #[] }).get? s.heap.objs.size = some { cls := .type "list", data := .seq #[] } := Heap.get?_push_size _ rfl
  have hSI : s.heap.objs.size ≠ I := by obtain ⟨o, ho, _⟩ := hI; exact Nat.ne_of_gt (Heap.lt_size ho)
  have hSl : s.heap.objs.size ≠ l := by obtain ⟨o, ho, _⟩ := hl; exact Nat.ne_of_gt (Heap.lt_size ho)
  refine ⟨⟨_, hS, rfl⟩, PySem.F.args_list_init_2 _ _, ?_⟩
  show wpAny _ _ (do let old ← Builtin.List.listItems (.ref s.heap.objs.size); Builtin.List.listUpdate (.ref s.heap.objs.size) (fun _ => #[]); letGo old.toList.reverse; Builtin.List.listExtendWith (.ref s.heap.objs.size) (.ref I) .none) _ _ _
  refine wpAny_bind ?_
  unfold Builtin.List.listItems
  refine wpAny_bind (wpAny_seqItems hS rfl (wpAny_pure ?_))
  show wpAny _ _ (updateSeq s.heap.objs.size (fun _ => #[]) >>= fun _ => letGo (#[] : Array Value).toList.reverse >>= fun _ => Builtin.List.listExtendWith (.ref s.heap.objs.size) (.ref I) .none) _ _ _
  refine wpAny_bind (wpAny_updateSeq hS rfl ?_)
  have hS₂ := Heap.get?_update_self (Obj.mapSeq (fun _ => (#[] : Array Value))) hS rfl
  have oth : ∀ b o, b ≠ s.heap.objs.size → s.heap.get? b = some o → ((s.heap.push { cls := .type "list", data := .seq #[] }).update s.heap.objs.size (Obj.mapSeq (fun _ => (#[] : Array Value)))).get? b = some o :=
    fun b o hb e => (Heap.get?_update_other _ _ (Ne.symm hb)).trans (Heap.get?_push_of_some _ e)
  refine wpAny_bind (wpAny_letGo ?_)
  refine rev_extend (by exact hh) (hI.at fun o e => oth _ _ (Ne.symm hSI) e) (by obtain ⟨o, ho, r⟩ := hl; exact ⟨o, oth _ _ (Ne.symm hSl) ho, r⟩) hlI hSI hSl .none _ hS₂ (fun h' tk acc' c' hk hS' hacc => ?_) hn
  exact ⟨rfl, hQ h' tk acc' c' (fun b o hb e => hk b o (Nat.ne_of_lt (Heap.lt_size e)) hb (oth b o (Nat.ne_of_lt (Heap.lt_size e)) e)) hS' hacc⟩
end
section
variable {C : Ctx} {F : FC} {n : Nat} {X : XT} {H : Hp} {c : Cf} {s : Shared}
inductive RevP (C : Ctx) (c : Cf) (Q : PV → Hp → Prop) (v : Value) (s₁ : Shared) : Prop
  | mk (l : Loc) (vs : List PV) (H₁ : Hp) (c₁ : Cf) (items : Array Value) (k : Nat) (s₀ : Shared) (x : c.Ext c₁) (S : St C c₁ H₁ s₀) (hl : H₁ l = some (.list vs)) (hz : vs.length ≤ 1000000) (hq : Alloc (.list vs.reverse) Q H₁) (e : IsL s₀.heap (c₁.ι l) items k)
    (d : DenL c₁ vs items.toList) (ev : v = .ref s₀.heap.objs.size) (es : s₁ = { s₀ with heap := s₀.heap.push (revObj (c₁.ι l) ((items.size : Int) - 1)) })
/-- list(reversed(e)) -/
theorem E_list_rev (O : C.Ok) {e : Expr} {p1 p2 p3 p4 : Pos} {Q : PV → Hp → Prop} (g1 : nsIn C.K mainGlobals "list" = some none) (g2 : nsIn C.K mainGlobals "reversed" = some none)
    (h : JE C F n X e (fun p H₁ => ∃ l vs, p = .loc l ∧ H₁ l = some (.list vs) ∧ vs.length ≤ 1000000 ∧ Alloc (.list vs.reverse) Q H₁) H)
    (hk : autoParam (F.scope.kind = .function) Au.a0) (hl1 : autoParam (F.scope.names.lookup (Str.ofString "list") = some .globalImplicit) Au.a0) (hl2 : autoParam (F.scope.names.lookup (Str.ofString "reversed") = some .globalImplicit) Au.a0)
    (he : autoParam (∀ env, starEach [e] env = (false, eval e env) :: starEach [] env) Au.a8) :
    JE C F n X (.Call (.Name (Str.ofString "list") p1) [.Call (.Name (Str.ofString "reversed") p2) [e] [] p3] [] p4) Q H := by
  intro A c s a i S
  refine wpAny_Call_Name_kw ?_
  refine Calls.Name_function_global hk hl1 (Calls.loadGlobal_builtin (env := F.env c) (O.top.g.keeps S.base) (mg_none_of O.k O.top.g g1) (O.top.b.keeps S.base) ((O.top.builtins _ (by decide)).trans (show bootBuiltins "list" = some (.type "list") by kernel_rfl)) ?_)
  have key : wpAny C.M A (eval (.Call (.Name (Str.ofString "reversed") p2) [e] [] p3) (F.env c)) (RevP C c Q) (PostX X c) s := by
    refine wpAny_Call_Name_kw ?_
    refine Calls.Name_function_global hk hl2 (Calls.loadGlobal_builtin (env := F.env c) (O.top.g.keeps S.base) (mg_none_of O.k O.top.g g2) (O.top.b.keeps S.base) ((O.top.builtins _ (by decide)).trans (show bootBuiltins "reversed" = some (.type "reversed") by kernel_rfl)) ?_)
    refine PySem.callWith_type (by rw [he]; rfl) ?_
    rw [he]
    refine evalArgs_plain ?_
    show wpAny C.M A (spliced (backTo p3 ((false, eval e (F.env c)) :: starEach [] (F.env c)))) _ _ _
    rw [← he (F.env c)]
    refine wpAny_items_cons (pos := p3) (rest := []) (e := e) (wpP (h A c s a i S) fun u s₁ p H₁ c₁ x₁ d₁ S₁ hq => ?_) (he _)
    obtain ⟨l, vs, ep, hl, hz, hq⟩ := hq
    subst ep
    obtain ⟨rfl, ul⟩ := d₁
    refine wpAny_items_nil ?_
    obtain ⟨items, k, e', d⟩ := S₁.list hl
    refine call_reversed_list e'.isList ?_
    exact ⟨l, vs, H₁, c₁, items, k, s₁, x₁, S₁, hl, hz, hq, e', d, rfl, rfl⟩
  refine PySem.callWith_type rfl (evalArgs_plain (wpAny_items_cons (pos := p4) (rest := []) (e := .Call (.Name (Str.ofString "reversed") p2) [e] [] p3) (wpAny_mono key (fun v s₁ hq => ?_) fun _ _ e => e) rfl))
  obtain ⟨l, vs, H₁, c₁, items, k, s₀, x₁, S₁, hl, hz, hq, e', d, ev, es⟩ := hq
  subst ev es
  refine wpAny_items_nil ?_
  have zz := d.size
  have hlt := S₁.lt hl
  have hrev : (s₀.heap.push (revObj (c₁.ι l) ((items.size : Int) - 1))).IsRevIter s₀.heap.objs.size (c₁.ι l) ((items.size : Int) - 1) := ⟨_, Heap.get?_push_size _ rfl, rfl, rfl⟩
  refine rev_call (s := { s₀ with heap := s₀.heap.push (revObj (c₁.ι l) ((items.size : Int) - 1)) }) a.handled hrev (e'.isList.push _) (fun q => by rw [q] at hlt; lia) (sizeLine_big (by lia)) fun h' tk acc k' hk' hn hi => ?_
  have hold : ∀ b o, s₀.heap.get? b = some o → h'.get? b = some o := fun b o ho => hk' b o (fun q => by have q1 : @LT.lt Nat _ b s₀.heap.objs.size := Heap.lt_size ho; rw [q] at q1; lia) (Heap.get?_push_of_some _ ho)
  have hsz : (s₀.heap.push (revObj (c₁.ι l) ((items.size : Int) - 1))).objs.size = s₀.heap.objs.size + 1 := Heap.size_push ..
  have hn' : h'.get? (s₀.heap.objs.size + 1) = some { cls := .type "list", dict := none, data := .seq acc k', slots := #[] } := by rw [← hsz]; exact hn
  have dd : DenL c₁ vs.reverse acc.toList := by
    obtain ⟨h1, h2⟩ := hi
    refine DenL.ofArr (by rw [List.length_reverse, h1, zz]) fun i p v hp hv => ?_
    have q := h2 i v hv
    have hi' : i < vs.length := by
      have := (List.getElem?_eq_some_iff.mp hp).1
      rwa [List.length_reverse] at this
    rw [List.getElem?_reverse hi'] at hp
    obtain ⟨w', hw', dw⟩ := d.get hp
    rw [Array.getElem?_toList, zz, q] at hw'
    cases hw'
    exact dw
  have z := (S₁.newList hq hold (a := s₀.heap.objs.size + 1) (Nat.le_succ _) hn' dd s₀.drawn tk).from x₁
  show Post C c Q (.ref (s₀.heap.push _).objs.size) _
  rw [hsz]; exact z
end
-- M12

/-! an object set aside: it keeps what it holds until it is let go -/
noncomputable def Cf.freeze (c : Cf) (I : Addr) (o : Obj) : Cf := { c with fz := fun b => if b = I then some o else c.fz b }
structure Sep (C : Ctx) (c : Cf) (H : Hp) (I : Addr) : Prop where
  hb : C.hb.get? I = none
  fz : c.fz I = none
  reg : ∀ l sp, H l = some sp → c.ι l ≠ I
section
variable {C : Ctx} {F : FC} {n : Nat} {X : XT} {H H' : Hp} {c c' : Cf} {s : Shared}

theorem Sep.new (S : St C c H s) : Sep C c H s.heap.objs.size := by
  refine ⟨?_, ?_, fun l sp e => fun q => by have := S.lt e; rw [q] at this; lia⟩
  · cases e : C.hb.get? s.heap.objs.size with
    | none => rfl
    | some o =>
      have q1 : @LT.lt Nat _ s.heap.objs.size s.heap.objs.size := Heap.lt_size (S.base _ _ e)
      lia
  · cases e : c.fz s.heap.objs.size with
    | none => rfl
    | some o =>
      have q1 : @LT.lt Nat _ s.heap.objs.size s.heap.objs.size := Heap.lt_size (S.frz _ _ e)
      lia
theorem St.freeze (S : St C c H s) {I : Addr} {o : Obj} (e : s.heap.get? I = some o) (p : Sep C c H I) : St C (c.freeze I o) H s := by
  refine ⟨S.base, fun b q h => ?_, fun l sp e => (S.reg l sp e).sub fun l u => ⟨u, rfl⟩, S.used, S.inj, S.hi, fun l sp h => ?_, S.fin, S.nmd, S.fr, S.os, S.gens, S.hbs⟩
  · show s.heap.get? b = some q
    have h2 : (if b = I then some o else c.fz b) = some q := h
    by_cases hb : b = I
    · rw [if_pos hb] at h2; rw [hb, e]; exact h2
    · rw [if_neg hb] at h2; exact S.frz b q h2
  · show (if c.ι l = I then some o else c.fz (c.ι l)) = none
    rw [if_neg (p.reg l sp h)]; exact S.sepF l sp h
theorem Cf.thaw {I : Addr} {o : Obj} (x : (c.freeze I o).Ext c') : c.Ext { c' with fz := c.fz } := ⟨rfl, x.fa, fun l u => x.on l u⟩
theorem St.thaw (S : St C c' H' s) {I : Addr} {o : Obj} (x : (c.freeze I o).Ext c') (p : Sep C c H I) : St C { c' with fz := c.fz } H' s ∧ Sep C { c' with fz := c.fz } H' I ∧ s.heap.get? I = some o := by
  have fzI : c'.fz I = some o := by rw [x.fz]; show (if I = I then some o else c.fz I) = _; rw [if_pos rfl]
  refine ⟨⟨S.base, fun b q h => S.frz b q ?_, fun l sp e => (S.reg l sp e).sub fun l u => ⟨u, rfl⟩, S.used, S.inj, S.hi, fun l sp h => ?_, S.fin, S.nmd, S.fr, S.os, S.gens, S.hbs⟩, ⟨p.hb, p.fz, fun l sp e q => ?_⟩, S.frz I o fzI⟩
  · have h : c.fz b = some q := h
    rw [x.fz]
    show (if b = I then some o else c.fz b) = _
    rw [if_neg fun e => by rw [e, p.fz] at h; cases h]; exact h
  · have := S.sepF l sp h
    rw [x.fz] at this
    have this : (if c'.ι l = I then some o else c.fz (c'.ι l)) = none := this
    split at this
    · cases this
    · exact this
  · have := S.sepF l sp e
    rw [show c'.ι l = I from q, fzI] at this; cases this
/-- a step that turned the object set aside, and no other -/
theorem St.aside (S : St C c H s) {I : Addr} (p : Sep C c H I) {h' : Heap} (hk : ∀ b o, b ≠ I → s.heap.get? b = some o → h'.get? b = some o) {l : Loc} {sp : Spec} (hl : H l = some sp) (d : Drawn) (t : Nat) : St C c H ⟨h', s.gens, d, t, s.os⟩ := by
  have key : ∀ l sp, H l = some sp → ∀ o, s.heap.get? (c.ι l) = some o → h'.get? (c.ι l) = some o := fun l sp e o ho => hk _ o (p.reg l sp e) ho
  refine ⟨fun b o e => hk _ _ (fun q => by rw [q, p.hb] at e; cases e) (S.base b o e), fun b o e => hk _ _ (fun q => by rw [q, p.fz] at e; cases e) (S.frz b o e), fun l sp e => ?_, S.used, S.inj, S.hi, S.sepF, S.fin, S.nmd, S.fr, S.os, S.gens, ?_⟩
  · obtain ⟨o', ho'⟩ := (S.reg l sp e).there
    exact (S.reg l sp e).get (by rw [ho']; exact key l sp e _ ho')
  · obtain ⟨o', ho'⟩ := (S.reg l sp hl).there
    have q1 : @LT.lt Nat _ (c.ι l) h'.objs.size := Heap.lt_size (key l sp hl _ ho')
    have q2 : @LE.le Nat _ C.hb.objs.size (c.ι l) := S.hi l _ hl
    show @LE.le Nat _ C.hb.objs.size h'.objs.size
    lia
theorem AOK.freeze {A : Around} {I : Addr} {o : Obj} (a : AOK n c A) : AOK n (c.freeze I o) A := ⟨a.handled, a.depth, a.units, a.frames, a.faU⟩
theorem FC.In.freeze {I : Addr} {o : Obj} (i : F.In c) : F.In (c.freeze I o) := ⟨i.lf, i.fm, i.act, i.cells⟩

/-! what is walked -/
inductive Src where
  | list (l : Loc)
  | tup (l : Loc)
  | vals (d : Loc) (ep : Nat)
  | rng (k : Nat)
noncomputable def SrcOf (H : Hp) (vs : List PV) : Src → Prop
  | .list l => H l = some (.list vs)
  | .tup l => H l = some (.tup vs)
  | .vals d ep => ∃ kvs, H d = some (.fdict kvs ep) ∧ vs = kvs.map (·.2)
  | .rng k => vs = (List.range k).map (fun i : Nat => PV.int (i : Int))
/-- p, walked, gives the values vs -/
noncomputable def IterOf (H : Hp) (p : PV) (vs : List PV) : Src → Prop
  | .list l => p = .loc l ∧ H l = some (.list vs)
  | .tup l => p = .loc l ∧ H l = some (.tup vs)
  | .vals d ep => ∃ v kvs, p = .loc v ∧ H v = some (.view d) ∧ H d = some (.fdict kvs ep) ∧ vs = kvs.map (·.2)
  | .rng k => ∃ l, p = .loc l ∧ H l = some (.rng k) ∧ k < 1000000 ∧ vs = (List.range k).map (fun i : Nat => PV.int (i : Int))
noncomputable def SrcAt (C : Ctx) (c : Cf) (h : Heap) (I : Addr) (len i : Nat) : Src → Prop
  | .list l => h.IsListIter I (c.ι l) i
  | .tup l => h.IsTupleIter I (c.ι l) i
  | .vals d ep => h.IsValIter I (c.ι d) i len ep
  | .rng k => IsRangeIter h I i ((k : Int) - i) 1
theorem IterOf.src {p : PV} {vs : List PV} {r : Src} (h : IterOf H p vs r) : SrcOf H vs r := by
  cases r with
  | list l => exact h.2
  | tup l => exact h.2
  | vals d ep => obtain ⟨v, kvs, -, -, a, b⟩ := h; exact ⟨kvs, a, b⟩
  | rng k => obtain ⟨l, -, -, -, b⟩ := h; exact b
noncomputable def SrcU (c : Cf) : Src → Prop
  | .list l => c.U l
  | .tup l => c.U l
  | .vals d _ => c.U d
  | .rng _ => True
theorem SrcU.of {vs : List PV} {r : Src} (S : St C c H s) (h : SrcOf H vs r) : SrcU c r := by
  cases r with
  | list l => exact S.used l _ h
  | tup l => exact S.used l _ h
  | vals d ep => obtain ⟨kvs, a, b⟩ := h; exact S.used d _ a
  | rng k => trivial
theorem SrcAt.ext {h : Heap} {I : Addr} {len i : Nat} {r : Src} (u : SrcU c r) (x : c.Sub c') (e : SrcAt C c h I len i r) : SrcAt C c' h I len i r := by
  cases r with
  | list l => show h.IsListIter I (c'.ι l) i; rw [(x l u).2]; exact e
  | tup l => show h.IsTupleIter I (c'.ι l) i; rw [(x l u).2]; exact e
  | vals d ep => show h.IsValIter I (c'.ι d) i len ep; rw [(x d u).2]; exact e
  | rng k => exact e
theorem SrcAt.get {h h' : Heap} {I : Addr} {len i : Nat} {r : Src} (e : SrcAt C c h I len i r) (g : ∀ o, h.get? I = some o → h'.get? I = some o) : SrcAt C c h' I len i r := by
  cases r with
  | list l => obtain ⟨o, ho, q⟩ := e; exact ⟨o, g _ ho, q⟩
  | tup l => obtain ⟨o, ho, q⟩ := e; exact ⟨o, g _ ho, q⟩
  | vals d ep => obtain ⟨o, ho, q⟩ := e; exact ⟨o, g _ ho, q⟩
  | rng k => exact g _ e
theorem SrcAt.there {h : Heap} {I : Addr} {len i : Nat} {r : Src} (e : SrcAt C c h I len i r) : ∃ o, h.get? I = some o := by
  cases r with
  | list l => obtain ⟨o, ho, q⟩ := e; exact ⟨o, ho⟩
  | tup l => obtain ⟨o, ho, q⟩ := e; exact ⟨o, ho⟩
  | vals d ep => obtain ⟨o, ho, q⟩ := e; exact ⟨o, ho⟩
  | rng k => exact ⟨_, e⟩

theorem src_iter {A : Around} {E : Value → Shared → Prop} {p : PV} {v : Value} {vs : List PV} {r : Src} {Q : Value → Shared → Prop} (S : St C c H s) (d : Den c p v) (h : IterOf H p vs r)
    (hQ : ∀ I h', SrcAt C c h' I vs.length 0 r → Sep C c H I → St C c H ⟨h', s.gens, s.drawn, s.toks, s.os⟩ → Q (.ref I) ⟨h', s.gens, s.drawn, s.toks, s.os⟩) : wpAny C.M A (pyIter v) Q E s := by
  have z : ∀ o, C.hb.objs.size ≤ (s.heap.push o).objs.size := fun o => by
    show @LE.le Nat _ C.hb.objs.size (s.heap.push o).objs.size
    have h1 : @LE.le Nat _ C.hb.objs.size s.heap.objs.size := S.hbs
    have h2 : (s.heap.push o).objs.size = s.heap.objs.size + 1 := Heap.size_push ..
    lia
  have g : ∀ o, St C c H ⟨s.heap.push o, s.gens, s.drawn, s.toks, s.os⟩ := fun o => S.grow (fun _ _ e => Heap.get?_push_of_some _ e) (z o) _ _
  cases r with
  | list l =>
    obtain ⟨rfl, h⟩ := h
    obtain ⟨rfl, u⟩ := d
    obtain ⟨items, k, e, d'⟩ := S.list h
    exact wpAny_pyIter_list e.isList (hQ _ _ ⟨_, Heap.get?_push_size _ rfl, rfl, rfl⟩ (Sep.new S) (g _))
  | tup l =>
    obtain ⟨rfl, h⟩ := h
    obtain ⟨rfl, u⟩ := d
    obtain ⟨items, k, e, d'⟩ := S.tup h
    exact wpAny_pyIter_tuple ⟨_, e, rfl, _, rfl⟩ (hQ _ _ ⟨_, Heap.get?_push_size _ rfl, rfl, rfl⟩ (Sep.new S) (g _))
  | vals dd ep =>
    obtain ⟨vl, kvs, rfl, hv, hd, rfl⟩ := h
    obtain ⟨rfl, u⟩ := d
    obtain ⟨f, u'⟩ := S.reg vl _ hv
    obtain ⟨kvs', e, d'⟩ := S.reg dd _ hd
    refine wpAny_pyIter_values (knd := C.sk) f e (hQ _ _ ?_ (Sep.new S) (g _))
    show Heap.IsValIter _ _ (c.ι dd) 0 (kvs.map (·.2)).length ep
    rw [List.length_map, d'.length]
    exact ⟨_, Heap.get?_push_size _ rfl, rfl, rfl⟩
  | rng k =>
    obtain ⟨l, rfl, h, hk, rfl⟩ := h
    obtain ⟨rfl, u⟩ := d
    obtain ⟨t, u', v', e⟩ := S.reg l _ h
    refine wpAny_pyIter_range e (small_one (by decide) (by decide) (by lia) (by lia)) (hQ _ _ ?_ (Sep.new S) (g _))
    show Heap.get? _ _ = _
    rw [Heap.get?_push_size _ rfl]
    have : Builtin.Range.rangeSize 0 k 1 = (k : Int) - ((0 : Nat) : Int) := by rw [rangeSize_one]; split <;> lia
    rw [this]; rfl
theorem src_item {A : Around} {E : Value → Shared → Prop} {I : Addr} {i : Nat} {p : PV} {vs : List PV} {r : Src} {Q : Option Value → Shared → Prop} (S : St C c H s) (h : SrcOf H vs r) (at_ : SrcAt C c s.heap I vs.length i r) (sp : Sep C c H I) (hp : vs[i]? = some p) {l0 : Loc} {sp0 : Spec} (h0 : H l0 = some sp0)
    (hQ : ∀ h' v tk, Den c p v → SrcAt C c h' I vs.length (i + 1) r → St C c H ⟨h', s.gens, s.drawn, tk, s.os⟩ → Q (some v) ⟨h', s.gens, s.drawn, tk, s.os⟩) : wpAny C.M A (pyNext (.ref I)) Q E s := by
  cases r with
  | list l =>
    obtain ⟨items, k, e, d'⟩ := S.list h
    obtain ⟨v, hv, dv⟩ := d'.get hp
    exact wpAny_pyNext_list_item at_ e.isList (by rw [← Array.getElem?_toList]; exact hv) fun h' hit hs => hQ h' v s.toks dv hit (S.aside sp (fun b o hb e => (hs.2 b hb).trans e) h0 _ _)
  | tup l =>
    obtain ⟨items, k, e, d'⟩ := S.tup h
    obtain ⟨v, hv, dv⟩ := d'.get hp
    exact wpAny_pyNext_tuple_item at_ ⟨_, e, rfl, _, rfl⟩ (by rw [← Array.getElem?_toList]; exact hv) fun h' hit hs => hQ h' v s.toks dv hit (S.aside sp (fun b o hb e => (hs.2 b hb).trans e) h0 _ _)
  | vals dd ep =>
    obtain ⟨kvs, hd, rfl⟩ := h
    obtain ⟨kvs', e, d'⟩ := S.reg dd _ hd
    obtain ⟨v, hv, dv⟩ := d'.vals.get hp
    have at_ : s.heap.IsValIter I (c.ι dd) i (kvs.map (·.2)).length ep := at_
    rw [List.length_map, d'.length] at at_
    rw [List.getElem?_map] at hv
    cases q : kvs'[i]? with
    | none => rw [q] at hv; cases hv
    | some kv =>
      rw [q] at hv
      cases hv
      refine wpAny_pyNext_values_item (knd := C.sk) at_ e (k := kv.1) (v := kv.2) q fun h' hit hs => hQ h' _ s.toks dv ?_ (S.aside sp (fun b o hb e => (hs.2 b hb).trans e) h0 _ _)
      show h'.IsValIter I (c.ι dd) (i + 1) (kvs.map (·.2)).length ep
      rw [List.length_map, d'.length]; exact hit
  | rng k =>
    have h : vs = (List.range k).map (fun i : Nat => PV.int (i : Int)) := h
    subst h
    have hi : i < k := by have := (List.getElem?_eq_some_iff.mp hp).1; simpa using this
    have ep : p = .int i := by
      rw [List.getElem?_map, List.getElem?_range hi] at hp
      exact (Option.some.inj hp).symm
    subst ep
    refine wpAny_pyNext_range_item at_ (by lia) fun h' hit hs => hQ h' _ _ ⟨_, rfl⟩ ?_ (S.aside sp (fun b o hb e => (hs.2 b hb).trans e) h0 _ _)
    show IsRangeIter h' I ((i + 1 : Nat) : Int) ((k : Int) - ((i + 1 : Nat) : Int)) 1
    have e1 : ((i + 1 : Nat) : Int) = (i : Int) + 1 := by lia
    have e2 : (k : Int) - ((i : Int) + 1) = (k : Int) - i - 1 := by lia
    rw [e1, e2]; exact hit
theorem src_end {A : Around} {E : Value → Shared → Prop} {I : Addr} {vs : List PV} {r : Src} {Q : Option Value → Shared → Prop} (hh : A.handled = none) (S : St C c H s) (h : SrcOf H vs r) (at_ : SrcAt C c s.heap I vs.length vs.length r) (sp : Sep C c H I) {l0 : Loc} {sp0 : Spec} (h0 : H l0 = some sp0)
    (hQ : ∀ h', St C c H ⟨h', s.gens, s.drawn, s.toks, s.os⟩ → Q none ⟨h', s.gens, s.drawn, s.toks, s.os⟩) : wpAny C.M A (pyNext (.ref I)) Q E s := by
  cases r with
  | list l =>
    obtain ⟨items, k, e, d'⟩ := S.list h
    have z := d'.size
    exact wpAny_pyNext_list_end hh at_ e.isList (by rw [z]; exact Array.getElem?_eq_none (Nat.le_refl _)) fun h' hs => hQ h' (S.aside sp (fun b o hb e => hs b o hb e) h0 _ _)
  | tup l =>
    obtain ⟨items, k, e, d'⟩ := S.tup h
    have z := d'.size
    exact wpAny_pyNext_tuple_end hh at_ ⟨_, e, rfl, _, rfl⟩ (by rw [z]; exact Array.getElem?_eq_none (Nat.le_refl _)) fun h' hs => hQ h' (S.aside sp (fun b o hb e => hs b o hb e) h0 _ _)
  | vals dd ep =>
    obtain ⟨kvs, hd, rfl⟩ := h
    obtain ⟨kvs', e, d'⟩ := S.reg dd _ hd
    have at_ : s.heap.IsValIter I (c.ι dd) (kvs.map (·.2)).length (kvs.map (·.2)).length ep := at_
    rw [List.length_map, d'.length] at at_
    exact wpAny_pyNext_values_end (knd := C.sk) hh at_ e (List.getElem?_eq_none (Nat.le_refl _)) fun h' hs => hQ h' (S.aside sp (fun b o hb e => hs b o hb e) h0 _ _)
  | rng k =>
    have h : vs = (List.range k).map (fun i : Nat => PV.int (i : Int)) := h
    subst h
    exact wpAny_pyNext_range_end hh at_ (by simp) fun h' hs => hQ h' (S.aside sp (fun b o hb e => hs b o hb e) h0 _ _)

/-- range(k) -/
theorem c_range {k : Nat} {Q : PV → Hp → Prop} (h : Alloc (.rng k) Q H) : JCall C n X (.type "range") [.int k] [] [] Q H := by
  intro A c s ys us a dl dk S
  obtain ⟨_, rfl, ⟨t, rfl⟩⟩ := dl.inv1
  refine call_range_1 ?_
  refine S.push (sp := .rng k) h (fun l hl => ?_) s.drawn _
  exact ⟨_, _, _, Heap.get?_push_size _ rfl⟩

/-- between two turns -/
inductive ForI (C : Ctx) (c₁ : Cf) (r : Src) (n : Nat) (I : Addr) (Inv : Nat → Hp → Prop) (k : Nat) (s : Shared) : Prop
  | mk (j : Nat) (c₂ : Cf) (H₂ : Hp) (e : k = n - j) (hj : j ≤ n) (x : c₁.Ext c₂) (S : St C c₂ H₂ s) (sep : Sep C c₂ H₂ I) (at_ : SrcAt C c₂ s.heap I n j r) (inv : Inv j H₂)
/-- a for over what is walked; nothing is raised in its body -/
theorem X_for {x : Str} {np pos : Pos} {iter : Expr} {body : List Stmt} {Q : AF → Hp → Prop} (Inv : List PV → Nat → Hp → Prop)
    (h : JE C F n X iter (fun p H₁ => ∃ r vs, IterOf H₁ p vs r ∧ Inv vs 0 H₁ ∧
      (∀ i H', Inv vs i H' → SrcOf H' vs r ∧ ∃ l sp, H' l = some sp) ∧
      (∀ i v H', vs[i]? = some v → Inv vs i H' → JStore C F x v (fun H'' => ∀ I : Hp → Prop, (∀ H3, Inv vs (i + 1) H3 → I H3) → JS C F n XF body (ForQ I Q) H'') H') ∧
      (∀ H', Inv vs vs.length H' → Q .next H')) H)
    (hs : autoParam (∀ env y, foldedSetIterable iter env y = pure y) Au.a7)
    (ht : autoParam (∀ it v, letOwnedTupleGo (.Name x np) it v = pure ()) Au.a7) : JX C F n X (.For (.Name x np) iter body [] pos) Q H := by
  intro A c s a i S
  refine wpAny_For (wpP (h A c s a i S) fun v s₁ p H₁ c₁ x₁ d₁ S₁ hq => ?_) (hs _)
  obtain ⟨r, vs, hit, inv0, hsrc, hturn, hend⟩ := hq
  refine src_iter S₁ d₁ hit fun I h' at0 sep0 S₂ => ?_
  have a₁ := a.ext x₁
  have i₁ := i.ext x₁
  rw [← FC.env_ext i x₁]
  refine codeAny_forLoop (ForI C c₁ r vs.length I (Inv vs)) (fun k s' => ?_) vs.length ⟨0, c₁, H₁, rfl, Nat.zero_le _, .refl _, S₂, sep0, at0, inv0⟩ (ht _)
  rintro ⟨j, c₂, H₂, rfl, hj, x₂, S₂, sep, at_, inv⟩
  have a₂ := a₁.ext x₂
  have i₂ := i₁.ext x₂
  rw [← FC.env_ext i₁ x₂]
  obtain ⟨hsr, l0, sp0, h0⟩ := hsrc j H₂ inv
  by_cases hlt : j < vs.length
  · refine src_item S₂ hsr at_ sep (List.getElem?_eq_getElem hlt) h0 fun h₃ v tk dv at₃ S₃ => ?_
    obtain ⟨o, ho⟩ := at₃.there
    have S₄ := S₃.freeze ho sep
    dsimp only
    refine wpAny_assign_Name ?_
    refine (wpV (hturn j _ H₂ (List.getElem?_eq_getElem hlt) inv A _ (c₂.freeze I o) _ v i₂.freeze (dv.sub fun l u => ⟨u, rfl⟩) S₄) fun _ s₅ H₅ c₅ x₅ S₅ h₅ => ?_)
    have h₅' := h₅ _ (fun _ q => q) A c₅ s₅ (a₂.freeze.ext x₅) (i₂.freeze.ext x₅) S₅
    rw [FC.env_ext i₂.freeze x₅] at h₅'
    refine (wpF0 h₅' fun f s₆ g H₆ c₆ x₆ d₆ S₆ q₆ => ?_)
    have x' := x₅.trans x₆
    obtain ⟨S₇, sep₇, e₇⟩ := S₆.thaw x' sep
    have xx : c.Ext { c₆ with fz := c₂.fz } := (x₁.trans x₂).trans (Cf.thaw x')
    have at₇ : SrcAt C { c₆ with fz := c₂.fz } s₆.heap I vs.length (j + 1) r := (at₃.ext (SrcU.of S₂ hsr) fun l u => x'.on l u).get fun o' ho' => by rw [ho] at ho'; cases ho'; exact e₇
    cases g with
    | next => have : f = .next := d₆; subst this; exact ⟨vs.length - (j + 1), by lia, j + 1, _, H₆, rfl, hlt, x₂.trans (Cf.thaw x'), S₇, sep₇, at₇, q₆⟩
    | cont => have : f = .cont := d₆; subst this; exact ⟨vs.length - (j + 1), by lia, j + 1, _, H₆, rfl, hlt, x₂.trans (Cf.thaw x'), S₇, sep₇, at₇, q₆⟩
    | brk => have : f = .brk := d₆; subst this; exact ⟨.next, H₆, _, xx, rfl, S₇, q₆⟩
    | ret p => obtain ⟨v', rfl, dv'⟩ := d₆; exact ⟨.ret p, H₆, _, xx, ⟨v', rfl, dv'.sub fun l u => ⟨u, rfl⟩⟩, S₇, q₆⟩
  · have hj' : j = vs.length := by lia
    subst hj'
    refine src_end a.handled S₂ hsr at_ sep h0 fun h₃ S₃ => ?_
    refine wpAny_execs_nil ?_
    exact ⟨.next, H₂, c₂, x₁.trans x₂, rfl, S₃, hend H₂ inv⟩

/-- a while; nothing is raised in it -/
theorem X_while {t : Expr} {body : List Stmt} {pos : Pos} {Q : AF → Hp → Prop} (Inv : Nat → Hp → Prop) (k0 : Nat) (h0 : Inv k0 H)
    (h : ∀ k H', Inv k H' → JB C F n XF t (fun b H'' => (b = true → ∀ I : Hp → Prop, (∀ H3, (∃ m, m < k ∧ Inv m H3) → I H3) → JS C F n XF body (ForQ I Q) H'') ∧ (b = false → Q .next H'')) H') :
    JX C F n X (.While t body [] pos) Q H := by
  intro A c s a i S
  refine wpAny_While (codeAny_whileLoop (fun k s' => PostU C c (Inv k) s') (fun k s' q => ?_) k0 ⟨H, c, .refl c, S, h0⟩)
  obtain ⟨H₂, c₂, x₂, S₂, inv⟩ := q
  have a₂ := a.ext x₂
  have i₂ := i.ext x₂
  rw [← FC.env_ext i x₂]
  refine (wpU0 (h k H₂ inv A c₂ s' a₂ i₂ S₂) fun b s₃ H₃ c₃ x₃ S₃ hq => ?_)
  obtain ⟨ht, hf⟩ := hq
  cases b with
  | true =>
    rw [if_pos rfl]
    have := ht rfl _ (fun _ q => q) A c₃ s₃ (a₂.ext x₃) (i₂.ext x₃) S₃
    rw [FC.env_ext i₂ x₃] at this
    refine (wpF0 this fun f s₄ g H₄ c₄ x₄ d₄ S₄ q => ?_)
    have xx := (x₂.trans x₃).trans x₄
    cases g with
    | next => have : f = .next := d₄; subst this; obtain ⟨m, hm, q⟩ := q; exact ⟨m, hm, H₄, c₄, xx, S₄, q⟩
    | cont => have : f = .cont := d₄; subst this; obtain ⟨m, hm, q⟩ := q; exact ⟨m, hm, H₄, c₄, xx, S₄, q⟩
    | brk => have : f = .brk := d₄; subst this; exact ⟨.next, H₄, c₄, xx, rfl, S₄, q⟩
    | ret p => obtain ⟨v', rfl, dv'⟩ := d₄; exact ⟨.ret p, H₄, c₄, xx, ⟨v', rfl, dv'⟩, S₄, q⟩
  | false =>
    rw [if_neg (by decide)]
    exact wpAny_execs_nil ⟨.next, H₃, c₃, x₂.trans x₃, rfl, S₃, hf rfl⟩
end
-- M13

noncomputable def FC.comp (F : FC) (scope : Scope) (cl : List (Str × Loc)) (lc : Loc) : FC :=
  { lf := lc, name := F.name, scope := { scope with names := scope.names.map fun (n, k) => if (k == .free && F.scope.kind == .function && F.scope.names.lookup n == some .cell) then (n, .cell) else (n, k) }, a := none, cd := F.cd, cells := cl, fm := F.fm }
noncomputable def JTs (C : Ctx) (F : FC) (n : Nat) (ifs : List Expr) (Q : Bool → Hp → Prop) (H : Hp) : Prop :=
  ∀ A c s, AOK n c A → F.In c → St C c H s → wpAny C.M A (forIn ifs true fun t r => if r = true then do let ok ← isTrue t (F.env c) (eval t (F.env c)); pure (ForInStep.yield ok) else pure (ForInStep.yield r)) (fun b => PostU C c (Q b)) (PostX XF c) s
/-- H' holds what H holds -/
noncomputable def Above (H H' : Hp) : Prop := ∀ k sp, H k = some sp → H' k = some sp
/-- H' is H with new temporaries -/
noncomputable def Grows (H H' : Hp) : Prop := Above H H' ∧ ∀ k, k.1 ≠ 0 → H' k = H k
theorem Above.refl (H : Hp) : Above H H := fun _ _ e => e
theorem Above.upd {H H' : Hp} (a : Above H H') {l : Loc} {sp : Spec} (h : H l = none) : Above H (upd H' l sp) := fun k q e => by
  rw [upd_ne _ _ fun z => by rw [z, h] at e; cases e]; exact a k q e
theorem Grows.refl (H : Hp) : Grows H H := ⟨Above.refl H, fun _ _ => rfl⟩
theorem Grows.tmp {H H' : Hp} (a : Grows H H') {i : Nat} {sp : Spec} (h : H (tmp i) = none) : Grows H (Mine.upd H' (tmp i) sp) :=
  ⟨a.1.upd h, fun k hk => by rw [upd_ne _ _ fun z => by rw [z] at hk; exact hk rfl]; exact a.2 k hk⟩
section
variable {C : Ctx} {F : FC} {n : Nat} {X : XT} {H H' : Hp} {c c' : Cf} {s : Shared}

theorem Ts_nil {Q : Bool → Hp → Prop} (h : Q true H) : JTs C F n [] Q H := by
  intro A c s a i S
  rw [List.forIn_nil]
  exact wpAny_pure ⟨H, c, .refl c, S, h⟩
theorem Ts_one {t : Expr} {Q : Bool → Hp → Prop} (h : JB C F n XF t Q H) : JTs C F n [t] Q H := by
  intro A c s a i S
  rw [List.forIn_cons]
  refine wpAny_bind ?_
  rw [if_pos rfl]
  refine wpAny_bind (wpAny_mono (h A c s a i S) (fun b s₁ h₁ => wpAny_pure ?_) fun _ _ e => e)
  dsimp only
  rw [List.forIn_nil]
  exact wpAny_pure h₁
theorem St.forget_to (S : St C c H' s) (g : Grows H H') (hf : ∀ l ∈ c.fa, ∃ m, H l = some (.ns m)) : St C c H s := S.forget g.1 (fun l hl => (g.2 l hl).symm) hf

theorem src_self {A : Around} {E : Value → Shared → Prop} {I : Addr} {i len : Nat} {r : Src} {Q : Value → Shared → Prop} (at_ : SrcAt C c s.heap I len i r) (h : Q (.ref I) s) : wpAny C.M A (pyIter (.ref I)) Q E s := by
  cases r with
  | list l => exact wpAny_pyIter_listiter at_ h
  | tup l => exact wpAny_pyIter_tupleiter at_ h
  | vals d ep => exact wpAny_pyIter_valiter at_ h
  | rng k => exact wpAny_pyIter_rangeiter at_ h
theorem SrcOf.above {vs : List PV} {r : Src} (h : SrcOf H vs r) (a : Above H H') : SrcOf H' vs r := by
  cases r with
  | list l => exact a _ _ h
  | tup l => exact a _ _ h
  | vals d ep => obtain ⟨kvs, h, e⟩ := h; exact ⟨kvs, a _ _ h, e⟩
  | rng k => exact h
theorem upd_upd (H : Hp) (l : Loc) (a b : Spec) : upd (upd H l a) l b = upd H l b := by funext k; by_cases hk : k = l <;> simp [upd, hk]
theorem upd_in (H : Hp) {l k : Loc} (a b c : Spec) (h : l ≠ k) : upd (upd (upd H l a) k b) l c = upd (upd H l c) k b := by
  funext x
  unfold upd
  by_cases hl : x = l
  · rw [if_pos hl, if_neg (hl ▸ h), if_pos hl]
  · rw [if_neg hl, if_neg hl, if_neg hl]
inductive CompI (C : Ctx) (c₂ : Cf) (r : Src) (vs : List PV) (I : Addr) (Hf : Nat → (Str → Option PV) → Hp) (k : Nat) (s : Shared) : Prop
  | mk (q : Nat) (c₃ : Cf) (m : Str → Option PV) (e : k = vs.length - q) (hq : q ≤ vs.length) (x : c₂.Ext c₃) (S : St C c₃ (Hf q m) s) (sep : Sep C c₃ (Hf q m) I) (at_ : SrcAt C c₃ s.heap I vs.length q r)
/-- a comprehension over what is walked; tests and elements leave everything as it is -/
theorem E_comp {elt iter : Expr} {x : Str} {px pos : Pos} {ifs : List Expr} {scope : Scope} {Q : PV → Hp → Prop} (cl : List (Str × Loc)) (t : PV → Bool) (f : PV → PV)
    (h : JE C F n X iter (fun p H₁ => ∃ r vs, IterOf H₁ p vs r ∧ vs.length ≤ 1000000 ∧
      (∀ lc m H' v, v ∈ vs → Above H₁ H' → H' lc = some (.ns m) → m x = some v → JTs C (F.comp scope cl lc) n ifs (fun b H'' => b = t v ∧ Grows H' H'') H') ∧
      (∀ lc m H' v, v ∈ vs → t v = true → Above H₁ H' → H' lc = some (.ns m) → m x = some v → JE C (F.comp scope cl lc) n XF elt (fun p H'' => p = f v ∧ Grows H' H'') H') ∧
      (∃ l sp, H₁ l = some sp) ∧ Alloc (.list ((vs.filter t).map f)) Q H₁) H)
    (hcl : autoParam (∀ c, closureFor scope (F.env c) = pure (cl.map fun x => (x.1, c.ι x.2))) Au.a8)
    (hin : autoParam (∀ x ∈ cl, ∃ y ∈ F.cells, y.2 = x.2) Au.a9)
    (hx : autoParam ((F.comp scope cl F.lf).scope.names.lookup x = some .local) Au.a0)
    (hx0 : autoParam (scope.names.lookup x = some .local) Au.a0)
    (hcell : autoParam (∀ y ∈ scope.names, y.2 ≠ .cell) Au.a1) (hkind : autoParam (scope.kind = .function) Au.a0) (hnames : autoParam (∀ x ∈ scope.names, x.2 = .local → scope.names.lookup x.1 = some .local) Au.a1)
    (hs : autoParam (∀ env y, foldedSetIterable iter env y = pure y) Au.a7)
    (ht : autoParam (∀ it v, letOwnedTupleGo (.Name x px) it v = pure ()) Au.a7) :
    JE C F n X (.ListComp elt [⟨.Name x px, iter, ifs, 0⟩] scope pos) Q H := by
  intro A c s a i S
  rw [eval_ListComp]
  refine wpAny_comprehension_free (use := none) rfl (hs _) (hcl c) hkind hnames (wpP (h A c s a i S) fun v s₁ p H₁ c₁ x₁ d₁ S₁ hq => ?_)
  obtain ⟨r, vs, hit, hz, htest, helt, ⟨l0, sp0, h0⟩, hal⟩ := hq
  refine src_iter S₁ d₁ hit fun I h' at0 sep0 S₂ => ?_
  have a₁ := a.ext x₁
  have i₁ := i.ext x₁
  obtain ⟨l, hl, hq⟩ := S₂.alloc hal
  refine wpAny_newList (wpAny_newFunctionEnv (binds := []) hcell (by intro y hy; simp at hy) (fun h₂ hns hsb => ?_) hkind)
  dsimp only at hns hsb ⊢
  -- the new list
  have S₃ : St C (c₁.put l h'.objs.size) (upd H₁ l (.list [])) ⟨h'.push { cls := .type "list", data := .seq ([] : List Value).toArray }, s₁.gens, s₁.drawn, s₁.toks, s₁.os⟩ :=
    S₂.new (sp := .list []) hl (fun _ _ e => Heap.get?_push_of_some _ e) (Nat.le_refl _) ⟨#[], 0, Heap.get?_push_size _ rfl, .nil⟩ s₁.drawn s₁.toks
  have X1 := Cf.put_ext (a := h'.objs.size) hl
  have ezI : I ≠ h'.objs.size := by obtain ⟨o, ho⟩ := at0.there; have q1 : @LT.lt Nat _ I h'.objs.size := Heap.lt_size ho; exact fun e => by rw [e] at q1; lia
  have sep1 : Sep C (c₁.put l h'.objs.size) (upd H₁ l (.list [])) I := by
    refine ⟨sep0.hb, sep0.fz, fun k sp e => ?_⟩
    by_cases hk : k = l
    · subst hk; rw [Cf.put_self]; exact fun z => ezI z.symm
    · rw [upd_ne _ _ hk] at e; rw [(X1.on k (S₂.used k sp e)).2]; exact sep0.reg k sp e
  obtain ⟨j, hj⟩ := S₃.fresh
  -- the new scope
  have hpush : (h'.push { cls := .type "list", data := .seq ([] : List Value).toArray }).objs.size = h'.objs.size + 1 := Heap.size_push ..
  have S₄ := S₃.new (l := tmp j) (sp := .ns fun x => ([] : List (Str × PV)).reverse.lookup x) (h' := h₂) (a := (h'.push { cls := .type "list", data := .seq ([] : List Value).toArray }).objs.size) hj
    (fun b o e => by
      have q1 : @LT.lt Nat _ b (h'.push { cls := .type "list", data := .seq ([] : List Value).toArray }).objs.size := Heap.lt_size e
      rw [hsb.2 b (fun z => by rw [z] at q1; lia)]
      exact Heap.get?_push_of_some _ e) (Nat.le_refl _) ⟨_, hns, fun x => trivial⟩ s₁.drawn s₁.toks
  have X2 := Cf.put_ext (a := (h'.push { cls := .type "list", data := .seq ([] : List Value).toArray }).objs.size) hj
  have x12 := X1.trans X2
  have eD := Cf.put_self (c₁.put l h'.objs.size) (tmp j) (h'.push { cls := .type "list", data := .seq ([] : List Value).toArray }).objs.size
  have el : ((c₁.put l h'.objs.size).put (tmp j) (h'.push { cls := .type "list", data := .seq ([] : List Value).toArray }).objs.size).ι l = h'.objs.size := by rw [(X2.on l (.inl rfl)).2, Cf.put_self]
  have ul : ((c₁.put l h'.objs.size).put (tmp j) (h'.push { cls := .type "list", data := .seq ([] : List Value).toArray }).objs.size).U l := .inr (.inl rfl)
  have uj : ((c₁.put l h'.objs.size).put (tmp j) (h'.push { cls := .type "list", data := .seq ([] : List Value).toArray }).objs.size).U (tmp j) := .inl rfl
  generalize hD : (h'.push { cls := .type "list", data := .seq ([] : List Value).toArray }).objs.size = D at *
  generalize hc2 : (c₁.put l h'.objs.size).put (tmp j) D = c₂ at *
  have ezD : I ≠ D := by obtain ⟨o, ho⟩ := at0.there; have q1 : @LT.lt Nat _ I h'.objs.size := Heap.lt_size ho; exact fun e => by rw [e] at q1; lia
  have hlj : l ≠ tmp j := fun e => hj (by rw [← e]; exact .inl rfl)
  have hH1l : H₁ l = none := S₂.none_of hl
  have hH1j : H₁ (tmp j) = none := by have := S₃.none_of hj; rwa [upd_ne _ _ (Ne.symm hlj)] at this
  have sep2 : Sep C c₂ (upd (upd H₁ l (.list [])) (tmp j) (.ns fun x => ([] : List (Str × PV)).reverse.lookup x)) I := by
    refine ⟨sep1.hb, by rw [x12.fz]; exact sep0.fz, fun k sp e => ?_⟩
    by_cases hk : k = tmp j
    · subst hk; rw [eD]; exact fun z => ezD z.symm
    · rw [upd_ne _ _ hk] at e; rw [(X2.on k (S₃.used k sp e)).2]; exact sep1.reg k sp e
  have hgetI : ∀ o, h'.get? I = some o → h₂.get? I = some o := fun o ho => by rw [hsb.2 I (by first | exact ezD | exact hD ▸ ezD)]; exact Heap.get?_push_of_some _ (Heap.get?_push_of_some _ ho)
  have usrc : SrcU c₁ r := SrcU.of S₂ hit.src
  have at2 : SrcAt C c₂ h₂ I vs.length 0 r := (at0.ext usrc fun l u => x12.on l u).get hgetI
  have F2 : (F.comp scope cl (tmp j)).In c₂ := by
    have i₂ := i₁.ext x12
    exact ⟨uj, i₂.fm, i₂.act, fun y hy => by obtain ⟨z, hz, e⟩ := hin y hy; rw [← e]; exact i₂.cells z hz⟩
  have a₂ := a₁.ext x12
  have henv : ({ newEnv scope D (F.env c).globals (cl.map fun x => (x.1, c.ι x.2)) (F.env c).qual none .none (some (F.env c)) builtinsNs with scope := relabel scope (F.env c) } : Env) = (F.comp scope cl (tmp j)).env c₂ := by
    have e1 : (cl.map fun x => (x.1, c.ι x.2)) = cl.map fun x => (x.1, c₂.ι x.2) := List.map_congr_left fun y hy => by
      obtain ⟨z, hz, e⟩ := hin y hy
      rw [← e, ((x₁.trans x12).on _ (i.cells z hz)).2]
    have e2 : c.ι F.fm = c₂.ι F.fm := ((x₁.trans x12).on _ i.fm).2.symm
    show ({ scope := relabel scope (F.env c), locals := D, globals := mainGlobals, cells := cl.map fun x => (x.1, c.ι x.2), qual := F.name ++ ".<locals>.", func := none, code := F.cd, frame := some (c.ι F.fm), builtins := builtinsNs } : Env) = { scope := (F.comp scope cl (tmp j)).scope, locals := c₂.ι (tmp j), globals := mainGlobals, cells := cl.map fun x => (x.1, c₂.ι x.2), qual := F.name ++ ".<locals>.", func := none, code := F.cd, frame := some (c₂.ι F.fm), builtins := builtinsNs }
    rw [e1, e2, eD]; rfl
  have hloc : ({ scope := relabel scope (F.env c), locals := D, globals := mainGlobals, cells := cl.map fun x => (x.1, c.ι x.2), qual := F.name ++ ".<locals>.", func := none, code := F.cd, frame := some (c.ι F.fm), builtins := builtinsNs } : Env) = (F.comp scope cl (tmp j)).env c₂ := henv
  -- the loop
  have fin : ∀ (s₃ : Shared) acc', St C c₂ (upd (upd H₁ l (.list acc')) (tmp j) (.ns fun x => ([] : List (Str × PV)).reverse.lookup x)) s₃ → True := fun _ _ _ => trivial
  have loop : ∀ s₃ : Shared, St C c₂ (upd (upd H₁ l (.list [])) (tmp j) (.ns fun x => ([] : List (Str × PV)).reverse.lookup x)) s₃ → SrcAt C c₂ s₃.heap I vs.length 0 r →
      codeAny C.M A (.compLoop (.ListComp elt [⟨.Name x px, iter, ifs, 0⟩] scope pos) 0 (.ref I) (.ref h'.objs.size) ((F.comp scope cl (tmp j)).env c₂)) (compPost C.M A (PostX X c) none (Post C c Q) (.ref h'.objs.size) D) s₃ := by
    intro s₃ S3 at3
    refine codeAny_compLoop_tests (CompI C c₂ r vs I (fun q m => upd (upd H₁ l (.list (((vs.take q).filter t).map f))) (tmp j) (.ns m))) (fun k s' => ?_)
      vs.length ⟨0, c₂, _, rfl, Nat.zero_le _, .refl _, S3, sep2, at3⟩ (ht _)
    rintro ⟨q, c₃, m, rfl, hqle, x₃, S₄, sep, at_⟩
    have hab : Above H₁ (upd (upd H₁ l (.list (((vs.take q).filter t).map f))) (tmp j) (.ns m)) := ((Above.refl H₁).upd hH1l).upd hH1j
    have a₃ := a₂.ext x₃
    have F3 := F2.ext x₃
    rw [← FC.env_ext F2 x₃]
    by_cases hlt : q < vs.length
    · have hv : vs[q]? = some vs[q] := List.getElem?_eq_getElem hlt
      have hmem : vs[q] ∈ vs := List.getElem_mem hlt
      refine src_item S₄ (hit.src.above hab) at_ sep hv (hab _ _ h0) fun h₅ v tk dv at₅ S₅ => ?_
      obtain ⟨o, ho⟩ := at₅.there
      have S₆ := S₅.freeze ho sep
      dsimp only
      refine wpAny_assign_Name ?_
      have hst : JStore C (F.comp scope cl (tmp j)) x vs[q] (fun H' => H' = upd (upd H₁ l (.list (((vs.take q).filter t).map f))) (tmp j) (.ns fun y => if y = x then some vs[q] else m y)) (upd (upd H₁ l (.list (((vs.take q).filter t).map f))) (tmp j) (.ns m)) :=
        st_local (F := F.comp scope cl (tmp j)) (m := m) (upd_self ..) (upd_upd ..) hkind hx
      refine (wpV (hst A _ (c₃.freeze I o) _ v F3.freeze (dv.sub fun l u => ⟨u, rfl⟩) S₆) fun _ s₇ H₇ c₇ x₇ S₇ e₇ => ?_)
      subst e₇
      have hab7 : Above H₁ (upd (upd H₁ l (.list (((vs.take q).filter t).map f))) (tmp j) (.ns fun y => if y = x then some vs[q] else m y)) := ((Above.refl H₁).upd hH1l).upd hH1j
      have T := htest (tmp j) _ _ vs[q] hmem hab7 (upd_self ..) (by rw [if_pos rfl]) A c₇ s₇ (a₃.freeze.ext x₇) (F3.freeze.ext x₇) S₇
      rw [FC.env_ext F3.freeze x₇] at T
      refine (wpU0 T fun ok s₈ H₈ c₈ x₈ S₈ hq => ?_)
      obtain ⟨eok, g₈⟩ := hq
      have S₈' := S₈.forget_to g₈ (fun k hk => by rw [x₈.fa] at hk; exact S₇.fr k hk)
      have back : ∀ c₉ s₉ acc', (c₃.freeze I o).Ext c₉ → St C c₉ (upd (upd H₁ l (.list acc')) (tmp j) (.ns fun y => if y = x then some vs[q] else m y)) s₉ → acc' = ((vs.take (q + 1)).filter t).map f →
          ∃ k, k < vs.length - q ∧ CompI C c₂ r vs I (fun q m => upd (upd H₁ l (.list (((vs.take q).filter t).map f))) (tmp j) (.ns m)) k s₉ := by
        intro c₉ s₉ acc' x₉ S₉ e
        subst e
        obtain ⟨Sa, sa, ea⟩ := S₉.thaw x₉ sep
        exact ⟨vs.length - (q + 1), by lia, q + 1, _, _, rfl, hlt, x₃.trans (Cf.thaw x₉), Sa, sa, (at₅.ext (SrcU.of S₄ (hit.src.above hab)) fun l u => x₉.on l u).get fun o' ho' => by rw [ho] at ho'; cases ho'; exact ea⟩
      have htake : vs.take (q + 1) = vs.take q ++ [vs[q]] := by rw [List.take_succ_eq_append_getElem hlt]
      subst eok
      by_cases hok : t vs[q] = true
      · rw [if_pos hok]
        have T2 := helt (tmp j) _ _ vs[q] hmem hok hab7 (upd_self ..) (by rw [if_pos rfl]) A c₈ s₈ ((a₃.freeze.ext x₇).ext x₈) ((F3.freeze.ext x₇).ext x₈) S₈'
        rw [FC.env_ext (F3.freeze.ext x₇) x₈, FC.env_ext F3.freeze x₇] at T2
        refine (wpP0 T2 fun y s₉ p' H₉ c₉ x₉ d₉ S₉ hq => ?_)
        obtain ⟨ep, g₉⟩ := hq
        subst ep
        have S₉' := S₉.forget_to g₉ (fun k hk => by rw [x₉.fa, x₈.fa] at hk; exact S₇.fr k hk)
        have xx : c₂.Ext { c₉ with fz := c₃.fz } := x₃.trans (Cf.thaw ((x₇.trans x₈).trans x₉))
        have ha : h'.objs.size = c₉.ι l := by
          rw [← el]; exact ((xx.on l ul).2).symm
        have J : JCall C n XF (.builtin "list.append") [.loc l, f vs[q]] [] [] (fun _ H' => H' = upd (upd H₁ l (.list (((vs.take q).filter t).map f ++ [f vs[q]]))) (tmp j) (.ns fun y => if y = x then some vs[q] else m y)) _ :=
          c_append (H := upd (upd H₁ l (.list (((vs.take q).filter t).map f))) (tmp j) (.ns fun y => if y = x then some vs[q] else m y)) (l := l) (vs := ((vs.take q).filter t).map f) (by rw [upd_ne _ _ hlj, upd_self])
            (by rw [List.length_map]; exact Nat.le_trans (List.length_filter_le _ _) (by rw [List.length_take]; lia))
            (upd_in _ _ _ _ hlj)
        have T3 := J A c₉ s₉ [.ref (c₉.ι l), y] [] (((a₃.freeze.ext x₇).ext x₈).ext x₉) (.cons (p := .loc l) ⟨rfl, (xx.on l ul).1⟩ (.cons d₉ .nil)) .nil S₉'
        rw [← ha] at T3
        refine (wpP0 T3 fun _ sa _ Ha ca xa _ Sa ea => ?_)
        subst ea
        refine back ca sa _ (((x₇.trans x₈).trans x₉).trans xa) Sa ?_
        rw [htake, List.filter_append, List.map_append]
        simp [hok]
      · rw [if_neg hok]
        refine back c₈ s₈ _ (x₇.trans x₈) S₈' ?_
        rw [htake, List.filter_append]
        simp [hok]
    · have hj' : q = vs.length := by lia
      subst hj'
      refine src_end a.handled S₄ (hit.src.above hab) at_ sep (hab _ _ h0) fun h₅ S₅ => ?_
      rw [List.take_length] at S₅
      have hns' := S₅.ns (l := tmp j) (upd_self ..)
      obtain ⟨m', hm, -⟩ := hns'
      have ej : c₃.ι (tmp j) = D := by rw [(x₃.on _ uj).2, eD]
      rw [ej] at hm
      refine ⟨m', hm, fun h₆ hs₆ => ?_⟩
      have hfr : ∀ k ∈ c₃.fa, k ≠ tmp j := fun k hk e => by
        rw [x₃.fa, x12.fa] at hk
        have : (upd H₁ l (.list [])) (tmp j) = none := S₃.none_of hj
        obtain ⟨m, hm⟩ := S₃.fr k (by exact hk)
        rw [e, this] at hm; cases hm
      have S₆ : St C c₃ (upd H₁ l (.list ((vs.filter t).map f))) ⟨h₅, s'.gens, s'.drawn, s'.toks, s'.os⟩ := by
        refine S₅.forget (fun k sp e => ?_) (fun k hk => ?_) (fun k hk => ?_)
        · rw [upd_ne _ _ fun z => by rw [z, upd_ne _ _ (Ne.symm hlj), hH1j] at e; cases e]; exact e
        · exact (upd_ne _ _ fun z => by rw [z] at hk; exact hk rfl).symm
        · obtain ⟨m, hm⟩ := S₅.fr k hk
          rw [upd_ne _ _ (hfr k hk)] at hm
          exact ⟨m, hm⟩
      have sep6 : Sep C c₃ (upd H₁ l (.list ((vs.filter t).map f))) (c₃.ι (tmp j)) := by
        refine ⟨S₅.sepB (l := tmp j) (upd_self ..), S₅.sepF (tmp j) _ (upd_self ..), fun k sp e z => ?_⟩
        have hk : k ≠ tmp j := fun z => by rw [z, upd_ne _ _ (Ne.symm hlj), hH1j] at e; cases e
        exact hk (S₅.inj k (tmp j) sp _ (by rw [upd_ne _ _ hk]; exact e) (upd_self ..) z)
      have S₇ := S₆.aside sep6 (h' := h₆) (fun b o hb e => (hs₆.2 b (by rw [← ej]; exact hb)).trans e) (l := l) (upd_self ..) s'.drawn s'.toks
      refine ⟨.loc l, _, c₃, (x₁.trans x12).trans x₃, ⟨?_, (x₃.on l ul).1⟩, S₇, hq⟩
      rw [(x₃.on l ul).2, el]
  show codeAny C.M A (.compStart _ 0 (.ref I) (.ref h'.objs.size) ({ scope := relabel scope (F.env c), locals := D, globals := mainGlobals, cells := cl.map fun x => (x.1, c.ι x.2), qual := F.name ++ ".<locals>.", func := none, code := F.cd, frame := some (c.ι F.fm), builtins := builtinsNs } : Env)) (compPost C.M A (PostX X c) none (Post C c Q) (.ref h'.objs.size) D) _
  rw [hloc]
  have S₄' : St C c₂ (upd (upd H₁ l (.list [])) (tmp j) (.ns fun x => ([] : List (Str × PV)).reverse.lookup x)) ⟨h₂, s₁.gens, s₁.drawn, s₁.toks + 0, s₁.os⟩ := S₄
  exact codeAny_compStart_list (loop _ S₄' at2) (src_self (C := C) (c := c₂) (s := ⟨h₂, s₁.gens, s₁.drawn, s₁.toks + 0, s₁.os⟩) at2 (loop _ S₄' at2))
end
-- M14

/-- the places of the cells of a scope, from the temporary i on -/
noncomputable def cellLocs (i : Nat) : List (Str × NameKind) → List (Str × Loc) → List (Str × Loc)
  | [], acc => acc
  | (name, kind) :: r, acc => if kind == .cell then cellLocs (i + 1) r ((name, tmp i) :: acc) else cellLocs i r acc
noncomputable def layC (H : Hp) (cm : Str → Option PV) : List (Str × Loc) → Hp
  | [] => H
  | (n, l) :: r => upd (layC H cm r) l (.cell (cm n))
noncomputable def bindLP (kindOf : Str → Option NameKind) : List (Str × PV) → (Str → Option PV) → Str → Option PV
  | [], m => m
  | (n, v) :: r, m => bindLP kindOf r (if kindOf n = some .local then fun y => if y = n then some v else m y else m)
noncomputable def bindCP (kindOf : Str → Option NameKind) : List (Str × PV) → (Str → Option PV) → Str → Option PV
  | [], m => m
  | (n, v) :: r, m => bindCP kindOf r (if kindOf n = some .local then m else fun y => if y = n then some v else m y)
section
variable {C : Ctx} {F : FC} {n : Nat} {X : XT} {H : Hp} {c : Cf} {s : Shared}
theorem DenP.bindL {kindOf : Str → Option NameKind} {ps : List (Str × PV)} {vs : List (Str × Value)} (h : DenP c ps vs) : ∀ {m : Str → Option PV} {m' : Str → Option Value}, (∀ x, DenO c (m x) (m' x)) → ∀ x, DenO c (bindLP kindOf ps m x) (PySem.bindL kindOf vs m' x) := by
  induction h with
  | nil => intro m m' h; exact h
  | @cons k p v ps vs d _ ih =>
    intro m m' h
    refine ih fun x => ?_
    by_cases hk : kindOf k = some .local
    · rw [if_pos hk, if_pos hk]
      split
      · exact d
      · exact h x
    · rw [if_neg hk, if_neg hk]; exact h x
theorem DenP.bindC {kindOf : Str → Option NameKind} {ps : List (Str × PV)} {vs : List (Str × Value)} (h : DenP c ps vs) : ∀ {m : Str → Option PV} {m' : Str → Option Value}, (∀ x, DenO c (m x) (m' x)) → ∀ x, DenO c (bindCP kindOf ps m x) (PySem.bindC kindOf vs m' x) := by
  induction h with
  | nil => intro m m' h; exact h
  | @cons k p v ps vs d _ ih =>
    intro m m' h
    refine ih fun x => ?_
    by_cases hk : kindOf k = some .local
    · rw [if_pos hk, if_pos hk]; exact h x
    · rw [if_neg hk, if_neg hk]
      split
      · exact d
      · exact h x

/-- an object that was there and had no place gets one -/
theorem St.adopt {l : Loc} {sp : Spec} {a : Addr} (S : St C c H s) (hl : ¬ c.U l) (x : Sat C (c.put l a) s.heap a sp) (hr : ∀ k q, H k = some q → c.ι k ≠ a) (hb : C.hb.objs.size ≤ a) (hf : c.fz a = none) : St C (c.put l a) (upd H l sp) s := by
  have X := Cf.put_ext (a := a) hl
  have old : ∀ {k}, c.U k → (c.put l a).ι k = c.ι k := fun u => (X.on _ u).2
  have cs : ∀ {k q}, upd H l sp k = some q → (k = l ∧ q = sp) ∨ (k ≠ l ∧ H k = some q) := fun {k q} e => by
    by_cases hkl : k = l
    · subst hkl; rw [upd_self] at e; cases e; exact .inl ⟨rfl, rfl⟩
    · rw [upd_ne _ _ hkl] at e; exact .inr ⟨hkl, e⟩
  refine ⟨S.base, S.frz, fun k q e => ?_, fun k q e => ?_, fun k k' q q' e e' z => ?_, fun k q e => ?_, fun k q e => ?_, ?_, fun k hk' u => ?_, fun k hk' => ?_, S.os, S.gens, S.hbs⟩
  · rcases cs e with ⟨rfl, rfl⟩ | ⟨hkl, e⟩
    · rw [Cf.put_self]; exact x
    · rw [old (S.used k q e)]; exact (S.reg k q e).ext X
  · rcases cs e with ⟨rfl, rfl⟩ | ⟨hkl, e⟩
    · exact .inl rfl
    · exact .inr (S.used k q e)
  · have f := cs e
    have f' := cs e'
    clear e e'
    rcases f with ⟨g, g2⟩ | ⟨hkl, g⟩ <;> rcases f' with ⟨g', g2'⟩ | ⟨hkl', g'⟩
    · rw [g, g']
    · rw [g, Cf.put_self, old (S.used k' _ g')] at z; exact absurd z.symm (hr _ _ g')
    · rw [g', Cf.put_self, old (S.used k _ g)] at z; exact absurd z (hr _ _ g)
    · rw [old (S.used k _ g), old (S.used k' _ g')] at z; exact S.inj _ _ _ _ g g' z
  · rcases cs e with ⟨rfl, rfl⟩ | ⟨hkl, e⟩
    · rw [Cf.put_self]; exact hb
    · rw [old (S.used k q e)]; exact S.hi k q e
  · rcases cs e with ⟨rfl, rfl⟩ | ⟨hkl, e⟩
    · rw [Cf.put_self]; exact hf
    · rw [old (S.used k q e)]; exact S.sepF k q e
  · obtain ⟨n, hn⟩ := S.fin
    refine ⟨max n (l.2 + 1), fun i hi u => ?_⟩
    rcases u with e | u
    · rw [← e] at hi; simp [tmp] at hi; lia
    · exact hn i (by lia) u
  · by_cases hkl : k = l
    · subst hkl; exact ⟨_, upd_self ..⟩
    · rcases u with u | u
      · exact absurd u hkl
      · obtain ⟨q, e⟩ := S.nmd k hk' u; exact ⟨q, (upd_ne _ _ hkl).trans e⟩
  · obtain ⟨m, e2⟩ := S.fr k hk'
    exact ⟨m, (upd_ne _ _ fun e => by subst e; exact hl (S.used _ _ e2)).trans e2⟩

theorem cellLocs_addr (L i0 : Nat) (ι : Loc → Addr) (hι : ∀ k, ι (tmp (i0 + k)) = (L + k : Nat)) : ∀ (names : List (Str × NameKind)) (j : Nat) (acc : List (Str × Loc)), (cellLocs (i0 + j) names acc).map (fun x => (x.1, ι x.2)) = cellsFrom (L + j) names (acc.map fun x => (x.1, ι x.2))
  | [], j, acc => rfl
  | (name, kind) :: r, j, acc => by
    unfold cellLocs cellsFrom
    split
    · have := cellLocs_addr L i0 ι hι r (j + 1) ((name, tmp (i0 + j)) :: acc)
      rw [List.map_cons, hι] at this
      exact this
    · exact cellLocs_addr L i0 ι hι r j acc
theorem cellLocs_mem (i0 : Nat) : ∀ (names : List (Str × NameKind)) (j : Nat) (acc : List (Str × Loc)), (∀ x ∈ acc, ∃ k, 1 ≤ k ∧ k < j ∧ x.2 = tmp (i0 + k)) → 1 ≤ j → ∀ x ∈ cellLocs (i0 + j) names acc, ∃ k, 1 ≤ k ∧ x.2 = tmp (i0 + k)
  | [], j, acc, h, _, x, hx => by obtain ⟨k, a, _, b⟩ := h x hx; exact ⟨k, a, b⟩
  | (name, kind) :: r, j, acc, h, hj, x, hx => by
    unfold cellLocs at hx
    split at hx
    · refine cellLocs_mem i0 r (j + 1) _ (fun y hy => ?_) (by lia) x hx
      rcases List.mem_cons.mp hy with rfl | hy
      · exact ⟨j, hj, by lia, rfl⟩
      · obtain ⟨k, a, b, e⟩ := h y hy; exact ⟨k, a, by lia, e⟩
    · exact cellLocs_mem i0 r j acc h hj x hx

end
-- M15
section
variable {C : Ctx} {F : FC} {n : Nat} {X : XT} {H : Hp} {c : Cf} {s : Shared}

/-! slices -/
noncomputable def IsListOf (C : Ctx) (H : Hp) (p : PV) (vs : List PV) : Prop := ∀ c s v, St C c H s → Den c p v → ∃ a items, v = .ref a ∧ s.heap.IsList a items ∧ DenL c vs items.toList
theorem isListOf_loc {l : Loc} {vs : List PV} (e : H l = some (.list vs)) : IsListOf C H (.loc l) vs := by
  rintro c s v S ⟨rfl, u⟩
  obtain ⟨items, k, e', d⟩ := S.list e
  exact ⟨_, items, rfl, e'.isList, d⟩
theorem isListOf_base {a : Addr} {items : Array Value} {vs : List PV} (hl : C.hb.IsList a items) (hd : ∀ c, DenL c vs items.toList) : IsListOf C H (.raw (.ref a)) vs := by
  intro c s v S d
  have : v = .ref a := d
  subst this
  obtain ⟨o, ho, r⟩ := hl
  exact ⟨_, items, rfl, ⟨o, S.base _ _ ho, r⟩, hd c⟩
noncomputable def upI : Option Nat → Option Int
  | none => none
  | some k => some (k : Int)
theorem E_slice {value : Expr} {upper : Option Expr} {k : Option Nat} {p pos : Pos} {Q : PV → Hp → Prop}
    (h : JE C F n X value (fun p H₁ => ∃ vs, IsListOf C H₁ p vs ∧ vs.length ≤ 1000000 ∧ Alloc (.list (match k with | none => vs | some k => vs.take k)) Q H₁) H)
    (hu : ∀ (A : Around) env s (Q' : Value → Shared → Prop) E, (∀ u tk, IsPart u (upI k) → Q' u { s with toks := tk }) → wpAny C.M A (evalPart upper env) Q' E s) :
    JE C F n X (.Subscript value (.Slice none upper none p) pos) Q H := by
  intro A c s a i S
  refine Subscript_ (wpP (h A c s a i S) fun v s₁ pv H₁ c₁ x₁ d₁ S₁ hq => ?_)
  obtain ⟨vs, hl, hz, hq⟩ := hq
  obtain ⟨l, items, rfl, hl, d⟩ := hl c₁ s₁ v S₁ d₁
  refine wpAny_Slice (lower := none) ?_
  rw [evalPart_none]
  refine wpAny_pure (hu A _ s₁ _ _ fun u tk hp => ?_)
  refine wpAny_pure ?_
  dsimp only
  have zz := d.size
  have hl2 : (s₁.heap.push { cls := .type "slice", data := .fields #[.none, u, .none] }).IsList l items := hl.push _
  refine tail_any (ops := [.ref s₁.heap.objs.size, .ref l]) (T := "list") hl2.typeIs list_getitem_lookup (wpAny_getItem_list_slice hl2 (Heap.IsSliceOf.new ..) .none hp .none (by simp) ?_ (sizeLine_big (by lia))) rfl
  dsimp only
  have hsz : (s₁.heap.push { cls := .type "slice", data := .fields #[.none, u, .none] }).objs.size = s₁.heap.objs.size + 1 := Heap.size_push ..
  refine (S₁.newList hq (fun b o e => Heap.get?_push_of_some _ (Heap.get?_push_of_some _ e)) (a := (s₁.heap.push { cls := .type "slice", data := .fields #[.none, u, .none] }).objs.size) (by rw [hsz]; exact Nat.le_succ _) (Heap.get?_push_size _ rfl) ?_ s₁.drawn tk).from x₁
  cases k with
  | none => show DenL c₁ vs (slicePick items none none none).toList; rw [slicePick_all]; exact d
  | some k => show DenL c₁ (vs.take k) (slicePick items none (some (k : Int)) none).toList; rw [slicePick_upto']; exact d.take k
theorem up_none (A : Around) (env : Env) (s : Shared) (Q' : Value → Shared → Prop) (E : Value → Shared → Prop) (h : ∀ u tk, IsPart u (upI none) → Q' u { s with toks := tk }) : wpAny C.M A (evalPart none env) Q' E s := by
  rw [evalPart_none]; exact wpAny_pure (h _ s.toks .none)
theorem up_int {k : Nat} {u : Nat} {kp : Pos} (A : Around) (env : Env) (s : Shared) (Q' : Value → Shared → Prop) (E : Value → Shared → Prop) (h : ∀ u tk, IsPart u (upI (some k)) → Q' u { s with toks := tk }) :
    wpAny C.M A (evalPart (some (.Constant (.int k) u kp)) env) Q' E s := by
  show wpAny C.M A (eval (.Constant (.int k) u kp) env) Q' E s
  exact wpAny_Constant_int (h _ _ (.int _ _))

/-! max and sorted over ints -/
theorem argBest_max (f : Nat → Int) : ∀ k, argBest (fun i j => decide (f i > f j)) k ≤ k ∧ ∀ j, j ≤ k → f j ≤ f (argBest (fun i j => decide (f i > f j)) k)
  | 0 => ⟨Nat.le_refl _, fun j hj => by have : j = 0 := by lia
                                        subst this; exact Int.le_refl _⟩
  | k + 1 => by
    obtain ⟨h1, h2⟩ := argBest_max f k
    unfold argBest
    by_cases hb : f (k + 1) > f (argBest (fun i j => decide (f i > f j)) k)
    · rw [if_pos (decide_eq_true hb)]
      refine ⟨Nat.le_refl _, fun j hj => ?_⟩
      rcases Nat.lt_or_ge j (k + 1) with h | h
      · have := h2 j (by lia); lia
      · have : j = k + 1 := by lia
        subst this; exact Int.le_refl _
    · rw [if_neg (by simpa using hb)]
      refine ⟨by lia, fun j hj => ?_⟩
      rcases Nat.lt_or_ge j (k + 1) with h | h
      · exact h2 j (by lia)
      · have : j = k + 1 := by lia
        subst this; lia
theorem DenL.ints {xs : List Int} {vs : List Value} (d : DenL c (xs.map PV.int) vs) : ∃ ts : List (Int × Tok), ts.map (·.1) = xs ∧ vs = ts.map fun p => Value.int p.1 p.2 := by
  induction xs generalizing vs with
  | nil => exact ⟨[], rfl, d.inv0⟩
  | cons x xs ih =>
    cases d with
    | cons d r =>
      obtain ⟨t, rfl⟩ := d
      obtain ⟨ts, e, e'⟩ := ih r
      exact ⟨(x, t) :: ts, by rw [List.map_cons, e], by rw [List.map_cons, e']⟩
theorem DenL.intsAre {xs : List Int} {vs : List Value} (d : DenL c (xs.map PV.int) vs) : IntsAre vs xs := by
  induction xs generalizing vs with
  | nil => rw [d.inv0]; exact .nil
  | cons x xs ih =>
    cases d with
    | cons d r => obtain ⟨t, rfl⟩ := d; exact .cons x t (ih r)
theorem IntsAre.denL {xs : List Int} {vs : List Value} (h : IntsAre vs xs) : DenL c (xs.map PV.int) vs := by
  induction h with
  | nil => exact .nil
  | cons m t _ ih => exact .cons (p := .int m) ⟨t, rfl⟩ ih
theorem c_max {l : Loc} {xs : List Int} {Q : PV → Hp → Prop} (e : H l = some (.list (xs.map PV.int))) (hne : xs ≠ []) (h : ∀ m ∈ xs, (∀ y ∈ xs, y ≤ m) → Q (.int m) H) : JCall C n X (.builtin "max") [.loc l] [] [] Q H := by
  intro A c s ys us a dl dk S
  obtain ⟨_, rfl, ⟨rfl, u⟩⟩ := dl.inv1
  obtain ⟨items, k, e', d⟩ := S.list e
  obtain ⟨ts, hts, hv⟩ := d.ints
  have hi : items = intItems ts.toArray := by
    have : items.toList = (intItems ts.toArray).toList := by rw [hv]; simp [intItems]
    exact Array.toList_inj.mp this
  have hl : s.heap.IsList (c.ι l) (intItems ts.toArray) := hi ▸ e'.isList
  have hlen : ts.length = xs.length := by rw [← hts, List.length_map]
  have hpos : 0 < ts.length := by rw [hlen]; exact List.length_pos_iff.mpr hne
  refine max_intList a.handled hl (by simpa using hpos) fun v h' tk hv' hk => ?_
  obtain ⟨t, rfl⟩ := intItems_at hv'
  obtain ⟨b1, b2⟩ := argBest_max (numAt ts.toArray) (ts.toArray.size - 1)
  have hnum : ∀ (j : Nat) (hj : j < ts.length), numAt ts.toArray j = xs[j]'(by rw [← hlen]; exact hj) := fun j hj => by
    unfold numAt
    have : xs[j]'(by rw [← hlen]; exact hj) = (ts[j]).1 := by simp [← hts]
    rw [this]
    simp [hj]
  have hsz : ts.toArray.size = ts.length := by simp
  rw [hsz] at b1 b2 ⊢
  refine ⟨.int _, H, c, .refl c, ⟨t, rfl⟩, S.grow hk ?_ s.drawn tk, h _ ?_ ?_⟩
  · exact S.size e hk
  · rw [hnum _ (by lia)]; exact List.getElem_mem _
  · intro y hy
    obtain ⟨j, hj, rfl⟩ := List.getElem_of_mem hy
    rw [← hnum j (by lia)]
    exact b2 j (by lia)
theorem c_sorted {l : Loc} {xs : List Int} {Q : PV → Hp → Prop} (e : H l = some (.list (xs.map PV.int))) (hz : xs.length < 64) (h : ∀ ys : List Int, ys.Perm xs → ys.Pairwise (· ≤ ·) → Alloc (.list (ys.map PV.int)) Q H) : JCall C n X (.builtin "sorted") [.loc l] [] [] Q H := by
  intro A c s ys us a dl dk S
  obtain ⟨_, rfl, ⟨rfl, u⟩⟩ := dl.inv1
  obtain ⟨items, k, e', d⟩ := S.list e
  have hl : s.heap.IsList (c.ι l) items.toList.toArray := by rw [Array.toArray_toList]; exact e'.isList
  refine sorted_ints hl d.intsAre (by rw [← d.length, List.length_map]; exact hz) fun out ns' hi hp hs => ?_
  obtain ⟨k', hk'⟩ := sortedAll_at s.heap items.toList out
  exact S.newList (h ns' hp hs) (fun b o hb => sortedAll_old hb) (Nat.le_succ _) hk' (IntsAre.denL hi) s.drawn s.toks

/-! lists compared -/
theorem op_eqL {l k : Loc} {xs ys : List PV} {Q : PV → Hp → Prop} (hl : H l = some (.list xs)) (hk : H k = some (.list ys)) (he : xs.length = ys.length → ∀ (j : Nat) (p q : PV), xs[j]? = some p → ys[j]? = some q → (p.eqv q).isSome = true)
    (h : Q (.bool (decide (xs.length = ys.length) && (List.range xs.length).all fun j => match xs[j]?, ys[j]? with | some p, some q => p.eqv q == some true | _, _ => false)) H) :
    J2 C n X (fun u v => compareOp .Eq u v) (.loc l) (.loc k) Q H := by
  rintro A c s u v a ⟨rfl, -⟩ ⟨rfl, -⟩ S
  obtain ⟨i1, n1, e1, d1⟩ := S.list hl
  obtain ⟨i2, n2, e2, d2⟩ := S.list hk
  have z1 := d1.size
  have z2 := d2.size
  by_cases hz : xs.length = ys.length
  · rw [decide_eq_true hz, Bool.true_and] at h
    have hz' : i1.size = i2.size := by lia
    refine P.eq_list (e := fun j => match xs[j]?, ys[j]? with | some p, some q => p.eqv q == some true | _, _ => false) e1 e2 hz' (fun j h1 h2 => ?_) a.croom (by rw [← z1]; exact S.post (p := .bool _) rfl h)
    have g1 : xs[j]? = some (xs[j]'(by lia)) := List.getElem?_eq_getElem _
    have g2 : ys[j]? = some (ys[j]'(by lia)) := List.getElem?_eq_getElem _
    obtain ⟨v1, w1, dv1⟩ := d1.get g1
    obtain ⟨v2, w2, dv2⟩ := d2.get g2
    obtain ⟨b, hb⟩ := Option.isSome_iff_exists.mp (he hz j _ _ g1 g2)
    have x1 : i1[j] = v1 := by rw [Array.getElem?_toList, Array.getElem?_eq_getElem h1] at w1; exact Option.some.inj w1
    have x2 : i2[j] = v2 := by rw [Array.getElem?_toList, Array.getElem?_eq_getElem h2] at w2; exact Option.some.inj w2
    rw [x1, x2]
    have := eqv_gives dv1 dv2 hb
    simp only [g1, g2, hb]
    cases b <;> exact this
  · rw [decide_eq_false hz, Bool.false_and] at h
    refine P.eq_list_lengths e1 e2 ?_ a.croom (S.post (p := .bool _) rfl h)
    rw [bne_iff_ne]; lia
theorem op_eqL_int {l k : Loc} {xs ys : List Int} {Q : PV → Hp → Prop} (hl : H l = some (.list (xs.map PV.int))) (hk : H k = some (.list (ys.map PV.int))) (h : Q (.bool (decide (xs = ys))) H) :
    J2 C n X (fun u v => compareOp .Eq u v) (.loc l) (.loc k) Q H := by
  refine op_eqL hl hk (fun _ j p q hp hq => ?_) ?_
  · rw [List.getElem?_map] at hp hq
    cases g1 : xs[j]? <;> cases g2 : ys[j]? <;> rw [g1] at hp <;> rw [g2] at hq <;> cases hp <;> cases hq
    rfl
  · have : (decide ((xs.map PV.int).length = (ys.map PV.int).length) && (List.range (xs.map PV.int).length).all fun j => match (xs.map PV.int)[j]?, (ys.map PV.int)[j]? with | some p, some q => p.eqv q == some true | _, _ => false) = decide (xs = ys) := by
      rw [List.length_map, List.length_map]
      by_cases e : xs = ys
      · subst e
        simp only [decide_true, Bool.true_and]
        rw [List.all_eq_true]
        intro j hj
        have hj : j < xs.length := by simpa using hj
        simp only [List.getElem?_map, List.getElem?_eq_getElem hj, Option.map_some, eqv_int, beq_self_eq_true]
      · rw [decide_eq_false e]
        rw [Bool.and_eq_false_iff]
        by_cases hz : xs.length = ys.length
        · right
          rw [List.all_eq_false]
          by_cases hall : ∀ j (h1 : j < xs.length) (h2 : j < ys.length), xs[j] = ys[j]
          · exact absurd (List.ext_getElem hz hall) e
          · simp only [Classical.not_forall] at hall
            obtain ⟨j, h1, h2, hne⟩ := hall
            refine ⟨j, by simpa using h1, ?_⟩
            simp only [List.getElem?_map, List.getElem?_eq_getElem h1, List.getElem?_eq_getElem h2, Option.map_some, eqv_int]
            simp [hne]
        · left; exact decide_eq_false hz
    rw [this]; exact h
theorem op_eqL_nil {l k : Loc} {xs : List PV} {Q : PV → Hp → Prop} (hl : H l = some (.list xs)) (hk : H k = some (.list [])) (h : Q (.bool xs.isEmpty) H) : J2 C n X (fun u v => compareOp .Eq u v) (.loc l) (.loc k) Q H := by
  refine op_eqL hl hk (fun _ j p q hp hq => by cases hq) ?_
  cases xs with
  | nil => exact h
  | cons x r => exact h
theorem op_neL_nil {l k : Loc} {xs : List PV} {Q : PV → Hp → Prop} (hl : H l = some (.list xs)) (hk : H k = some (.list [])) (h : Q (.bool (!xs.isEmpty)) H) : J2 C n X (fun u v => compareOp .NotEq u v) (.loc l) (.loc k) Q H := by
  rintro A c s u v a ⟨rfl, -⟩ ⟨rfl, -⟩ S
  obtain ⟨i1, n1, e1, d1⟩ := S.list hl
  obtain ⟨i2, n2, e2, d2⟩ := S.list hk
  have z1 := d1.size
  have z2 := d2.size
  have z2 : 0 = i2.size := z2
  cases xs with
  | nil =>
    have z1 : 0 = i1.size := z1
    refine PySem.SeqAt.RcNeAt.lists e1.isList e2.isList (e := fun _ => true) (by lia) a.croom (fun j h1 h2 => by lia) _ _ _ _ ?_
    have : (!(List.range i1.size).all fun _ => true) = false := by simp
    rw [this]; exact S.post (p := .bool _) rfl h
  | cons x r =>
    refine PySem.SeqAt.RcNeAt.lists_lengths e1.isList e2.isList ?_ a.croom _ _ _ _ (S.post (p := .bool _) rfl h)
    rw [List.length_cons] at z1
    rw [bne_iff_ne]; lia

/-! isinstance -/
theorem c_isi_str {x : Str} {Q : PV → Hp → Prop} (h : Q (.bool true) H) : JCall C n X (.builtin "isinstance") [.str x, .raw (.type "str")] [] [] Q H := by
  intro A c s ys us a dl dk S
  obtain ⟨_, v, rfl, ⟨t, rfl⟩, d⟩ := dl.inv2
  have : v = .type "str" := d
  subst this
  exact IsiPair.str_str (S.post (p := .bool true) rfl h)
theorem c_isi_inst (O : C.Ok) {l d : Loc} {cl : Addr} {ks : List Str} {m : Str → Option PV} {Q : PV → Hp → Prop} (e : H l = some (.inst cl d)) (g : H d = some (.attrs ks m)) (h : Q (.bool true) H) : JCall C n X (.builtin "isinstance") [.loc l, .raw (.ref cl)] [] [] Q H := by
  intro A c s ys us a dl dk S
  obtain ⟨_, v, rfl, ⟨rfl, u⟩, dv⟩ := dl.inv2
  have : v = .ref cl := dv
  subst this
  obtain ⟨od, m', I, hn, hl, hd, -⟩ := S.inst e g
  exact isi_call (O.k.keeps S.base) (fun M => I.type) (by unfold isIn; simp) (by intro z; cases z) (S.post (p := .bool true) rfl h)

/-! a str inside a str -/
theorem op_inS {x y : Str} {Q : PV → Hp → Prop} (h : Q (.bool !(Builtin.Str.occurrences x y 0 x.length 1).isEmpty) H) : J2 C n X (fun u v => compareOp .In u v) (.str y) (.str x) Q H := by
  rintro A c s u v a ⟨t, rfl⟩ ⟨t', rfl⟩ S
  exact PyProof.Rows.in_str (S.post (p := .bool _) rfl h)

/-! a chain of two comparisons, as a test -/
theorem B_chain {l r₁ r₂ : Expr} {op₁ op₂ : CmpOp} {pos : Pos} {Q : Bool → Hp → Prop}
    (h : JE C F n X l (fun p H₁ => JE C F n X r₁ (fun q H₂ => J2 C n X (fun u v => compareOp op₁ u v) p q (fun t H₃ => ∃ b, t = .bool b ∧ (b = false → Q false H₃) ∧ (b = true → JE C F n X r₂ (fun r H₄ => J2 C n X (fun u v => compareOp op₂ u v) q r (fun t H₅ => ∃ b, t = .bool b ∧ Q b H₅) H₄) H₃)) H₂) H₁) H)
    (hm : autoParam (lastMarks [op₁, op₂] [r₁, r₂] = false) Au.a3) : JB C F n X (.Compare l [op₁, op₂] [r₁, r₂] pos) Q H := by
  intro A c s a i S
  refine isTrue_chain (rs := []) (ops := []) (wpP (h A c s a i S) fun u s₁ p H₁ c₁ x₁ d₁ S₁ h₁ => ?_) hm
  refine test_link (rs := []) (ops := []) (wpPx x₁ (h₁.on a i x₁ S₁) fun v s₂ q H₂ c₂ x₂ d₂ S₂ h₂ => ?_)
  have y₂ := x₁.trans x₂
  refine (wpPx y₂ (h₂ A c₂ s₂ u v (a.ext y₂) (d₁.ext x₂) d₂ S₂) fun w s₃ t H₃ c₃ x₃ d₃ S₃ hq => ?_)
  obtain ⟨b, e, hf, ht⟩ := hq
  subst e
  have : w = .bool b := d₃
  subst this
  refine wpAny_truthy_bool ?_
  cases b with
  | false => rw [if_neg (by decide)]; exact ⟨H₃, c₃, y₂.trans x₃, S₃, hf rfl⟩
  | true =>
    rw [if_pos rfl]
    refine test_last (wpPx (y₂.trans x₃) ((ht rfl).on a i (y₂.trans x₃) S₃) fun w s₄ r H₄ c₄ x₄ d₄ S₄ h₄ => ?_)
    have y₄ := (y₂.trans x₃).trans x₄
    refine (wpPx y₄ (h₄ A c₄ s₄ v w (a.ext y₄) ((d₂.ext x₃).ext x₄) d₄ S₄) fun z s₅ t H₅ c₅ x₅ d₅ S₅ hq => ?_)
    obtain ⟨b, e, q⟩ := hq
    subst e
    have : z = .bool b := d₅
    subst this
    exact wpAny_truthy_bool ⟨H₅, c₅, y₄.trans x₅, S₅, q⟩

/-! more truth -/
theorem t_inst (O : C.Ok) {l d : Loc} {cl : Addr} {ks : List Str} {m : Str → Option PV} {Q : Bool → Hp → Prop} (e : H l = some (.inst cl d)) (g : H d = some (.attrs ks m)) (hb : findIn C.K (.ref cl) "__bool__" = some none) (hl : findIn C.K (.ref cl) "__len__" = some none) (h : Q true H) : JT C n X (.loc l) Q H := by
  rintro A c s u a ⟨rfl, u⟩ S
  obtain ⟨od, m', I, hn, hl', hd, -⟩ := S.inst e g
  have X' := O.k.keeps S.base
  unfold truthy
  refine wpAny_bind (m := callSpecial? (.ref (c.ι l)) (Str.ofString "__bool__")) (wpAny_bind (wpAny_bind (I.type.here ((looks_findIn X' hb).here (wpAny_pure ?_)))))
  refine wpAny_bind (wpAny_bind (I.type.here ((looks_findIn X' hl).here ?_)))
  exact wpAny_pure ⟨H, c, .refl c, S, h⟩
theorem t_tup0 (O : C.Ok) {a : Addr} {k : Nat} {Q : Bool → Hp → Prop} (e : C.K.lookup a = some { cls := .type "tuple", data := .seq #[] k }) (h : Q false H) : JT C n X (.raw (.ref a)) Q H := by
  intro A c s u _ d S
  have : u = .ref a := d
  subst this
  exact PyProof.Rows.truthy_tuple (items := #[]) ⟨_, O.k.keeps S.base _ _ e, rfl, _, rfl⟩ (by decide) ((S.same _ _).postU h)
theorem c_list_tup0 (O : C.Ok) {a : Addr} {k : Nat} {Q : PV → Hp → Prop} (e : C.K.lookup a = some { cls := .type "tuple", data := .seq #[] k }) (h : Alloc (.list []) Q H) : JCall C n X (.type "list") [.raw (.ref a)] [] [] Q H := by
  intro A c s ys us aok dl dk S
  obtain ⟨u, rfl, d⟩ := dl.inv1
  have : u = .ref a := d
  subst this
  refine call_list_seq _ (.inr rfl) (O.k.keeps S.base _ _ e) rfl rfl (fun h' c' hk hn => ?_) (sizeLine_big (by simp))
  exact S.newList h hk (Nat.le_refl _) hn .nil s.drawn s.toks

/-! an increment of a local -/
theorem X_aug {x : Str} {np pos : Pos} {value : Expr} {i j : Int} {m : Str → Option PV} {Q : AF → Hp → Prop} (hm : H F.lf = some (.ns m)) (hx : m x = some (.int i)) (h : JE C F n X value (fun p H₁ => p = .int j ∧ JStore C F x (.int (i + j)) (Q .next) H₁) H)
    (hk : autoParam (F.scope.kind = .function) Au.a0) (hl : autoParam (F.scope.names.lookup x = some .local) Au.a0) : JX C F n X (.AugAssign (.Name x np) .Add value pos) Q H := by
  intro A c s a i' S
  obtain ⟨m', hn, hd'⟩ := S.ns hm
  obtain ⟨v, hv, d⟩ := (show DenO c (some (.int i)) (m' x) from hx ▸ hd' x).some_inv
  obtain ⟨t, rfl⟩ := d
  refine wpAny_AugAssign_Name (wpAny_loadName_local hk hl hn hv (wpP (h A c s a i' S) fun u s₁ p H₁ c₁ x₁ d₁ S₁ hq => ?_))
  obtain ⟨e, h₁⟩ := hq
  subst e
  obtain ⟨t', rfl⟩ := d₁
  refine PyProof.Rows.iadd_int ?_
  have := h₁ A (PostX X c) c₁ { s₁ with toks := s₁.toks + 1 } (.int (i + j) s₁.toks) (i'.ext x₁) ⟨_, rfl⟩ (S₁.same s₁.drawn _)
  rw [FC.env_ext i' x₁] at this
  exact (wpV this fun _ s₂ H₂ c₂ x₂ S₂ q => ⟨.next, H₂, c₂, x₁.trans x₂, rfl, S₂, q⟩)

/-! several names at once -/
noncomputable def JStores (C : Ctx) (F : FC) : List Str → List PV → (Hp → Prop) → Hp → Prop
  | x :: xs, p :: ps, Q, H => JStore C F x p (fun H' => JStores C F xs ps Q H') H
  | _, _, Q, H => Q H
theorem in_order {A : Around} {E : Value → Shared → Prop} : ∀ (xs : List Str) (ps : List PV) (vs : List Value) (Q : Hp → Prop) (H : Hp) (c : Cf) (s : Shared), xs.length = ps.length → F.In c → DenL c ps vs → St C c H s → JStores C F xs ps Q H →
    wpAny C.M A (assignInOrder (xs.map fun x => bindName (F.env c) x) vs) (fun _ => PostU C c Q) E s
  | [], ps, vs, Q, H, c, s, hl, i, d, S, h => by
    cases d with
    | nil => exact wpAny_pure ⟨H, c, .refl c, S, h⟩
    | cons _ _ => cases hl
  | x :: xs, ps, vs, Q, H, c, s, hl, i, d, S, h => by
    cases d with
    | nil => cases hl
    | @cons p v ps vs d r =>
      refine wpAny_bind (wpAny_holding (wpAny_bindName (wpV (h A E c s v i d S) fun _ s₁ H₁ c₁ x₁ S₁ h₁ => ?_)))
      have := in_order (A := A) (E := E) xs ps vs Q H₁ c₁ s₁ (by simpa using hl) (i.ext x₁) (r.ext x₁) S₁ h₁
      rw [FC.env_ext i x₁] at this
      exact wpAny_mono this (fun _ _ z => z.from x₁) fun _ _ e => e
theorem assigns_eq (env : Env) : ∀ (xs : List (Str × Pos)), (assignEach (xs.map fun x => Expr.Name x.1 x.2) env) = xs.map fun x => (false, assign (.Name x.1 x.2) env)
  | [] => rfl
  | x :: r => by rw [List.map_cons, List.map_cons, ← assigns_eq env r]; rfl
theorem in_order' {A : Around} {E : Value → Shared → Prop} : ∀ (xs : List (Str × Pos)) (ps : List PV) (vs : List Value) (Q : Hp → Prop) (H : Hp) (c : Cf) (s : Shared), xs.length = ps.length → F.In c → DenL c ps vs → St C c H s → JStores C F (xs.map (·.1)) ps Q H →
    wpAny C.M A (assignInOrder (xs.map fun x => assign (.Name x.1 x.2) (F.env c)) vs) (fun _ => PostU C c Q) E s
  | [], ps, vs, Q, H, c, s, hl, i, d, S, h => by
    cases d with
    | nil => exact wpAny_pure ⟨H, c, .refl c, S, h⟩
    | cons _ _ => cases hl
  | x :: xs, ps, vs, Q, H, c, s, hl, i, d, S, h => by
    cases d with
    | nil => cases hl
    | @cons p v ps vs d r =>
      refine wpAny_bind (wpAny_holding (wpAny_assign_Name (wpV (h A E c s v i d S) fun _ s₁ H₁ c₁ x₁ S₁ h₁ => ?_)))
      have := in_order' (A := A) (E := E) xs ps vs Q H₁ c₁ s₁ (by simpa using hl) (i.ext x₁) (r.ext x₁) S₁ h₁
      rw [FC.env_ext i x₁] at this
      exact wpAny_mono this (fun _ _ z => z.from x₁) fun _ _ e => e
/-- what is walked gives its values at once -/
theorem src_draw {A : Around} {E : Value → Shared → Prop} {I : Addr} {vs : List PV} {r : Src} {l0 : Loc} {sp0 : Spec} (h : SrcOf H vs r) (h0 : H l0 = some sp0) (sp : Sep C c H I) : ∀ (k i : Nat) (s : Shared) (Q : List Value → Shared → Prop), i + k = vs.length → St C c H s → SrcAt C c s.heap I vs.length i r →
    (∀ h' us tk, DenL c (vs.drop i) us → SrcAt C c h' I vs.length vs.length r → St C c H ⟨h', s.gens, s.drawn, tk, s.os⟩ → Q us ⟨h', s.gens, s.drawn, tk, s.os⟩) → wpAny C.M A (draw (.ref I) k) Q E s
  | 0, i, s, Q, e, S, at_, hQ => by
    have : i = vs.length := by lia
    subst this
    exact wpAny_pure (hQ s.heap [] s.toks (by rw [List.drop_length]; exact .nil) at_ S)
  | k + 1, i, s, Q, e, S, at_, hQ => by
    have hi : i < vs.length := by lia
    show wpAny _ _ (pyNext (.ref I) >>= _) Q E s
    refine wpAny_bind (src_item S h at_ sp (List.getElem?_eq_getElem hi) h0 fun h₁ v tk dv at₁ S₁ => ?_)
    refine wpAny_bind (wpAny_holding (src_draw h h0 sp k (i + 1) _ _ (by lia) S₁ at₁ fun h₂ us tk₂ dus at₂ S₂ => wpAny_pure ?_))
    refine hQ h₂ (v :: us) tk₂ ?_ at₂ S₂
    rw [List.drop_eq_getElem_cons hi]; exact .cons dv dus
theorem src_items {A : Around} {E : Value → Shared → Prop} {p : PV} {v : Value} {vs : List PV} {r : Src} {l0 : Loc} {sp0 : Spec} {Q : List Value → Shared → Prop} (hh : A.handled = none) (S : St C c H s) (d : Den c p v) (h : IterOf H p vs r) (h0 : H l0 = some sp0) (hn : notIterableAtAll v = (do return false) ∨ ∃ l ws, p = .loc l ∧ (H l = some (.list ws) ∨ H l = some (.tup ws)))
    (hQ : ∀ h' us tk, DenL c vs us → St C c H ⟨h', s.gens, s.drawn, tk, s.os⟩ → Q us ⟨h', s.gens, s.drawn, tk, s.os⟩) : wpAny C.M A (unpackItems v vs.length none) Q E s := by
  unfold unpackItems
  refine wpAny_bind ?_
  have fin : wpAny C.M A (pyIter v) (fun it s₁ => wpAny C.M A (do
      let items ← holding [it] (draw it vs.length)
      if items.length < vs.length then
        rule "unpack.too-few"; raiseError "ValueError" s!"not enough values to unpack (expected {vs.length}, got {items.length})"
      if (← holding items (pyNext it)).isSome then
        rule "unpack.too-many"; raiseError "ValueError" s!"too many values to unpack (expected {vs.length})"
      return items) Q E s₁) E s := by
    refine src_iter S d h fun I h' at0 sep S₁ => ?_
    refine wpAny_bind (wpAny_holding (src_draw h.src h0 sep vs.length 0 _ _ (by lia) S₁ at0 fun h₂ us tk dus at₂ S₂ => ?_))
    have hl : us.length = vs.length := by rw [← dus.length]; rfl
    rw [if_neg (by lia)]
    refine wpAny_bind (wpAny_holding (src_end hh S₂ h.src at₂ sep h0 fun h₃ S₃ => ?_))
    simp only [Option.isSome_none, Bool.false_eq_true, if_false]
    exact wpAny_pure (hQ h₃ us tk dus S₃)
  rcases hn with hn | ⟨l, ws, rfl, hw⟩
  · rw [hn]; exact wpAny_pure (by simp only [Bool.false_eq_true, if_false]; exact wpAny_bind (wpAny_holding fin))
  · obtain ⟨rfl, u⟩ := d
    unfold notIterableAtAll
    rcases hw with hw | hw
    · obtain ⟨items, k, e, _⟩ := S.list hw
      refine wpAny_bind (wpAny_specialOf e.isList.typeIs F.slot_list_iter.lookup ?_)
      refine wpAny_pure ?_
      simp only [Bool.false_eq_true, if_false]
      exact wpAny_bind (wpAny_holding fin)
    · obtain ⟨items, k, e, _⟩ := S.tup hw
      refine wpAny_bind (wpAny_specialOf (T := "tuple") ⟨_, e, rfl⟩ F.slot_tuple_iter.lookup ?_)
      refine wpAny_pure ?_
      simp only [Bool.false_eq_true, if_false]
      exact wpAny_bind (wpAny_holding fin)
theorem X_tuple {xs : List (Str × Pos)} {es : List Expr} {k : Nat} {tp pos : Pos} {e : Expr} {Q : AF → Hp → Prop}
    (h : JE C F n X e (fun p H₁ => ∃ l vs, p = .loc l ∧ (H₁ l = some (.list vs) ∨ H₁ l = some (.tup vs)) ∧ vs.length = xs.length ∧ JStores C F (xs.map (·.1)) vs (Q .next) H₁) H)
    (he : autoParam (es = xs.map fun x => Expr.Name x.1 x.2) Au.a0)
    (hs : autoParam (∀ env, swapsWithSole [.Tuple es k tp] e pos.line env = pure false) Au.a8)
    (hw : autoParam (∀ c, swappedStores [.Tuple es k tp] e (F.env c) = pure none) Au.a8) : JX C F n X (.Assign [.Tuple es k tp] e pos) Q H := by
  intro A c s a i S
  refine Assign_Tuple (wpP (h A c s a i S) fun v s₁ p H₁ c₁ x₁ d₁ S₁ hq => ?_) (hs _) (hw _)
  obtain ⟨l, vs, ep, hl, hz, h₁⟩ := hq
  subst ep
  obtain ⟨l0, sp0, h0⟩ : ∃ l0 sp0, H₁ l0 = some sp0 := by rcases hl with q | q <;> exact ⟨_, _, q⟩
  obtain ⟨r, hr⟩ : ∃ r, IterOf H₁ (.loc l) vs r := by
    rcases hl with q | q
    · exact ⟨.list l, rfl, q⟩
    · exact ⟨.tup l, rfl, q⟩
  rw [arm_assign_Tuple]
  refine wpAny_bind (wpAny_standAt ?_)
  unfold unpack
  have ea : assignEach es (F.env c) = xs.map fun x => (false, assign (.Name x.1 x.2) (F.env c)) := by rw [he]; exact assigns_eq _ xs
  have e1 : (assignEach es (F.env c)).length = vs.length := by rw [ea, List.length_map, hz]
  have e2 : (assignEach es (F.env c)).findIdx? (·.1) = none := by rw [ea, List.findIdx?_eq_none_iff]; intro x hx; obtain ⟨y, _, rfl⟩ := List.mem_map.mp hx; rfl
  have e3 : (assignEach es (F.env c)).map (·.2) = xs.map fun x => assign (.Name x.1 x.2) (F.env c₁) := by rw [ea, List.map_map, FC.env_ext i x₁]; rfl
  rw [e1, e2, e3]
  refine wpAny_bind (wpAny_holding (src_items a.handled S₁ d₁ hr h0 (.inr ⟨l, vs, rfl, hl⟩) fun h' us tk dus S₂ => ?_))
  exact (wpV (in_order' xs vs us (Q .next) H₁ c₁ _ hz.symm (i.ext x₁) dus S₂ h₁) fun _ s₃ H₃ c₃ x₃ S₃ q => ⟨.next, H₃, c₃, x₁.trans x₃, rfl, S₃, q⟩)
/-- names of a function, stored in the turned order -/
theorem X_swap {names : List Str} {es : List Expr} {k : Nat} {tp pos : Pos} {e : Expr} {Q : AF → Hp → Prop}
    (h : JE C F n X e (fun p H₁ => ∃ l vs, p = .loc l ∧ H₁ l = some (.tup vs) ∧ vs.length = names.length ∧ JStores C F names.reverse vs.reverse (Q .next) H₁) H)
    (hs : autoParam (∀ env, swapsWithSole [.Tuple es k tp] e pos.line env = pure false) Au.a8)
    (hw : autoParam (∀ c, swappedStores [.Tuple es k tp] e (F.env c) = pure (some names)) Au.a8) : JX C F n X (.Assign [.Tuple es k tp] e pos) Q H := by
  intro A c s a i S
  refine Assign_Tuple_swapped (names := names) (wpP (h A c s a i S) fun v s₁ p H₁ c₁ x₁ d₁ S₁ hq => ?_) (hs _) (hw _)
  obtain ⟨l, vs, ep, hl, hz, h₁⟩ := hq
  subst ep
  rw [← hz]
  refine src_items a.handled S₁ d₁ (r := .tup l) ⟨rfl, hl⟩ hl (.inr ⟨l, vs, rfl, .inr hl⟩) fun h' us tk dus S₂ => ?_
  have := in_order (A := A) (E := PostX X c) names.reverse vs.reverse us.reverse (Q .next) H₁ c₁ _ (by rw [List.length_reverse, List.length_reverse, hz]) (i.ext x₁) dus.reverse S₂ h₁
  rw [FC.env_ext i x₁] at this
  exact (wpV this fun _ s₃ H₃ c₃ x₃ S₃ q => ⟨.next, H₃, c₃, x₁.trans x₃, rfl, S₃, q⟩)
end
-- M16

/-- just made: nothing has looked at it yet -/
inductive XMade (C : Ctx) (cl : Addr) (QX : Hp → Prop) (c : Cf) (e : Value) (s : Shared) : Prop
  | mk (a : Addr) (h : Heap) (H : Hp) (args : List Value) (he : e = .ref a) (hx : Heap.MadeExcOf h s.heap a (.ref cl) args) (S : St C c H ⟨h, s.gens, s.drawn, s.toks, s.os⟩) (q : QX H)
/-- on its way: the frames alone were touched -/
inductive XTr (C : Ctx) (cl : Addr) (QX : Hp → Prop) (fl : Cf → Value) (c : Cf) (e : Value) (s : Shared) : Prop
  | mk (a : Addr) (B : Heap) (H : Hp) (a0 : Value) (he : e = .ref a) (S : St C c H s) (q : QX H) (st : B.StaysIn s.heap) (hen : B.get? a = none) (hnone : ∀ l ∈ c.fa, B.get? (c.ι l) = none) (tr : s.heap.TracedAtW B a (.ref cl) a0 (fl c))
    (out : ∀ h' d t, B.StaysIn h' → s.heap.UpToSlots h' → St C c H ⟨h', s.gens, d, t, s.os⟩)
/-- the traced object laid open -/
inductive TrO (h B : Heap) (a : Addr) (cls a0 f : Value) : Prop
  | mk (oe : Obj) (vs : Array Value) (T : Addr) (oT : Obj) (ts : Array Value) (he : h.get? a = some oe) (hcls : oe.cls = cls ∧ vs[0]? = some a0) (hd : oe.data = .fields vs) (h1 : vs[1]? = some (.ref T)) (hnT : B.get? T = none) (hTe : T ≠ a) (hT : h.get? T = some oT) (hdT : oT.data = .fields ts) (h3 : ts[3]? = some f)
theorem trO {h B : Heap} {a : Addr} {cls a0 f : Value} (x : h.TracedAtW B a cls a0 f) : TrO h B a cls a0 f := by
  obtain ⟨oe, vs, T, oT, ts, he, hcls, hd, h1, hnT, hTe, hT, hdT, h3⟩ := x
  exact ⟨oe, vs, T, oT, ts, he, hcls, hd, h1, hnT, hTe, hT, hdT, h3⟩
/-- the class laid open -/
inductive OwnO (C : Addr) (bmB : List Value) (newId : String) (h : Heap) : Prop
  | mk (bm : _) (N : _) (nm : _) (q : _) (bs : _) (hdct : _) (sn : _) (sub : _) (ab : _) (col : _) (dd : _) (k0 : _) (k1 : _) (k2 : _) (k3 : _) (k5 : _) (mN : _) (hC : h.get? C = some (excClassObj nm q C N bs bm hdct sn sub ab col dd k0 k1 k2 k3 k5 newId)) (hN : h.Ns N mN) (hni : mN "__init__" = none) (T : OwnTail h bmB bm)
theorem ownO {x : Str} {C : Addr} {bmB : List Value} {newId : String} {mg : Str → Option Value} {h : Heap} (o : OwnCls x C bmB newId mg h) : OwnO C bmB newId h := by
  obtain ⟨-, bm, N, nm, q, bs, hdct, sn, sub, ab, col, dd, k0, k1, k2, k3, k5, mN, hC, hN, hni, T⟩ := o
  exact ⟨bm, N, nm, q, bs, hdct, sn, sub, ab, col, dd, k0, k1, k2, k3, k5, mN, hC, hN, hni, T⟩
noncomputable abbrev XHeld (C : Ctx) (cl : Addr) (lf : Loc) (QX : Hp → Prop) : XT := XTr C cl QX fun c => rawInt (c.ι lf)
noncomputable abbrev XHold (C : Ctx) (cl : Addr) (QX : Hp → Prop) : XT := XTr C cl QX fun _ => .none
section
variable {C : Ctx} {F : FC} {n : Nat} {X : XT} {H : Hp} {c : Cf} {s : Shared} {cl : Addr} {QX : Hp → Prop}

theorem fun_frames {h B : Heap} : ∀ {envs : List Env} {fa : List Loc}, envs.map (·.frame) = fa.map (fun l => some (c.ι l)) → (∀ e ∈ envs, e.scope.kind = .function) → (∀ l ∈ fa, ∃ m, h.Ns (c.ι l) m) → (∀ l ∈ fa, B.get? (c.ι l) = none) → h.FunFrames B envs
  | [], _, _, _, _, _ => trivial
  | env :: envs, [], e, _, _, _ => by cases e
  | env :: envs, l :: fa, e, hk, hn, hb => by
    rw [List.map_cons, List.map_cons] at e
    injection e with e1 e2
    obtain ⟨m, o, es, ep, ho, hd, r⟩ := hn l (.head _)
    refine ⟨by rw [hk env (.head _)]; decide, ⟨c.ι l, o, e1, hb l (.head _), ho, fun vs q => by rw [hd] at q; cases q⟩, fun_frames e2 (fun x hx => hk x (.tail _ hx)) (fun x hx => hn x (.tail _ hx)) fun x hx => hb x (.tail _ hx)⟩
theorem noteFrame_frame {e : Value} {env env' : Env} (h : env.frame = env'.frame) : noteFrame e env = noteFrame e env' := by
  unfold noteFrame PySem.frameOf
  rw [h]
theorem St.frames (S : St C c H s) {l : Loc} (hl : l ∈ c.fa) : ∃ m, s.heap.Ns (c.ι l) m := by
  obtain ⟨m, e⟩ := S.fr l hl
  obtain ⟨m', hn, _⟩ := S.ns e
  exact ⟨m', hn⟩
theorem St.out (S : St C c H s) {lf : Loc} {r : List Loc} (hfa : c.fa = lf :: r) {h' : Heap} (hB : (hideAll s.heap (c.fa.map c.ι)).StaysIn h') (hU : s.heap.UpToSlots h') (d : Drawn) (t : Nat) : St C c H ⟨h', s.gens, d, t, s.os⟩ := by
  have key : ∀ b o, s.heap.get? b = some o → (∀ l ∈ c.fa, c.ι l ≠ b) → h'.get? b = some o := fun b o e hn => hB b o (hideAll_get _ e fun hm => by
    obtain ⟨l, hl, q⟩ := List.mem_map.mp hm; exact hn l hl q)
  have fa : ∀ l ∈ c.fa, ∃ m, H l = some (.ns m) := S.fr
  have reg' : ∀ l sp, H l = some sp → Sat C c h' (c.ι l) sp := fun l sp e => by
    by_cases hl : l ∈ c.fa
    · obtain ⟨m, e'⟩ := S.fr l hl
      rw [e] at e'; cases e'
      obtain ⟨m', hn, hd⟩ := S.ns e
      exact ⟨m', hU.ns hn, hd⟩
    · have y := S.reg l sp e
      obtain ⟨o, ho⟩ := y.there
      refine y.get ((key _ o ho fun k hk q => ?_).trans ho.symm)
      obtain ⟨m, e'⟩ := S.fr k hk
      exact hl (S.inj k l _ _ e' e q ▸ hk)
  refine ⟨fun b o e => key b o (S.base b o e) fun l hl q => ?_, fun b o e => key b o (S.frz b o e) fun l hl q => ?_, reg', S.used, S.inj, S.hi, S.sepF, S.fin, S.nmd, S.fr, S.os, S.gens, ?_⟩
  · obtain ⟨m, e'⟩ := S.fr l hl
    have := S.sepB e'
    rw [q, e] at this; cases this
  · obtain ⟨m, e'⟩ := S.fr l hl
    have := S.sepF l _ e'
    rw [q, e] at this; cases this
  · obtain ⟨m, e'⟩ := S.fr lf (by rw [hfa]; exact .head _)
    obtain ⟨o, ho⟩ := (reg' lf _ e').there
    have q1 : @LT.lt Nat _ (c.ι lf) h'.objs.size := Heap.lt_size ho
    have q2 : @LE.le Nat _ C.hb.objs.size (c.ι lf) := S.hi lf _ e'
    show @LE.le Nat _ C.hb.objs.size h'.objs.size
    lia

/-- the frame that made it takes note -/
theorem made_held {A : Around} {env : Env} {e : Value} {lf : Loc} {r : List Loc} {E : Value → Shared → Prop} {Q : Unit → Shared → Prop} (a : AOK n c A) (hfa : c.fa = lf :: r) (hf : env.frame = some (c.ι lf)) (h : XMade C cl QX c e s)
    (hQ : ∀ s', XHeld C cl lf QX c e s' → Q () s') : wpAny C.M A (noteFrame e env) Q E s := by
  obtain ⟨b, h, H, args, rfl, hx, S, q⟩ := h
  obtain ⟨envs, e1, e2, e3⟩ := a.frames
  have hnone : ∀ l ∈ c.fa, (hideAll h (c.fa.map c.ι)).get? (c.ι l) = none := fun l hl => hideAll_none _ (List.mem_map_of_mem hl)
  have st : (hideAll h (c.fa.map c.ι)).StaysIn s.heap := fun x o q => hx.keeps x o (of_hideAll _ q)
  have ff : s.heap.FunFrames (hideAll h (c.fa.map c.ι)) envs := fun_frames e2 e3 (fun l hl => by
    obtain ⟨m, o, es, ep, ho, r⟩ := S.frames hl
    exact ⟨m, o, es, ep, hx.keeps _ _ ho, r⟩) hnone
  cases envs with
  | nil => rw [hfa] at e2; cases e2
  | cons env₀ outer =>
    have hf₀ : env₀.frame = some (c.ι lf) := by rw [hfa] at e2; injection e2
    rw [noteFrame_frame (hf.trans hf₀.symm)]
    obtain ⟨t, he, htn, ht⟩ := hx.there
    have hen : (hideAll h (c.fa.map c.ι)).get? b = none := by
      cases q : (hideAll h (c.fa.map c.ι)).get? b with
      | none => rfl
      | some o => have := of_hideAll _ q; rw [hx.new] at this; cases this
    unfold noteFrame
    simp only [hf₀]
    refine wpAny_bind (wpAny_field he (vs := #[.ref t, .none, .none, .none, .bool false, .none]) rfl (x := .none) rfl ?_)
    rw [if_neg (by decide)]
    refine wpAny_entryW e1 ff hf₀ he st hen rfl (by simp) rfl fun h' hN => hQ _ ?_
    obtain ⟨k1, k2, k3, k4⟩ := hN
    have up : h.UpToSlots h' := (Heap.UpToSlots.of_keeps hx.keeps).trans k4
    exact ⟨b, hideAll h (c.fa.map c.ι), H, .ref t, rfl, S.out hfa k1 up s.drawn s.toks, q, k1, hen, hnone, k3, fun h'' d t a1 a2 => S.out hfa a1 (up.trans a2) d t⟩

theorem XTr.flight {A : Around} {fl : Cf → Value} {e : Value} {f : Option Addr} {fl' : Cf → Value} {E : Value → Shared → Prop} {Q : Unit → Shared → Prop} (h : XTr C cl QX fl c e s) (hf : (f.elim Value.none fun f => rawInt f) = fl' c)
    (hQ : ∀ s', XTr C cl QX fl' c e s' → Q () s') : wpAny C.M A (setFlight e f) Q E s := by
  obtain ⟨b, B, H, a0, rfl, S, q, st, hen, hnone, tr, out⟩ := h
  obtain ⟨oe, vs, T, oT, ts, he, hcls, hd, h1, hnT, hTe, hT, hdT, h3⟩ := trO tr
  have hsz3 : 3 < ts.size := (Array.getElem?_eq_some_iff.mp h3).1
  have other : ∀ b, b ≠ T → (s.heap.update T (Obj.mapFields (·.setIfInBounds 3 (f.elim Value.none fun f => rawInt f)))).get? b = s.heap.get? b :=
    fun b hb => Heap.get?_update_other _ _ (Ne.symm hb)
  have noRecord : ∀ b o, s.heap.get? b = some o → (∀ vs, o.data ≠ .fields vs) → b ≠ T := fun b o hb hnf q => by
    rw [q, hT] at hb; injection hb with hb; subst hb; exact hnf ts hdT
  have st' : B.StaysIn (s.heap.update T (Obj.mapFields (·.setIfInBounds 3 (f.elim Value.none fun f => rawInt f)))) := fun b o hbo => (other b fun q => by rw [q, hnT] at hbo; cases hbo).trans (st b o hbo)
  have up : s.heap.UpToSlots (s.heap.update T (Obj.mapFields (·.setIfInBounds 3 (f.elim Value.none fun f => rawInt f)))) := fun b o hb hnf => ⟨o.slots, (other b (noRecord b o hb hnf)).trans hb⟩
  unfold setFlight
  refine wpAny_bind (wpAny_field he hd h1 ?_)
  rw [if_pos (show (Value.ref T != Value.none) = true from by simp)]
  refine wpAny_setField hT hdT hsz3 (hQ _ ⟨b, B, H, a0, rfl, out _ s.drawn s.toks st' up, q, st', hen, hnone, ?_, fun h'' d t a1 a2 => out h'' d t a1 (up.trans a2)⟩)
  exact ⟨oe, vs, T, _, _, (other b (Ne.symm hTe)).trans he, hcls, hd, h1, hnT, hTe, Heap.get?_update_self _ hT (Obj.isFreed_of_fields (Obj.data_mapFields hdT _)), Obj.data_mapFields hdT _, by rw [← hf]; simp [hsz3]⟩
theorem XTr.back {A : Around} {fl : Cf → Value} {env : Env} {e : Value} {lf : Loc} {E : Value → Shared → Prop} (h : XTr C cl QX fl c e s) (hf : env.frame = some (c.ι lf)) (hQ : ∀ s', XHeld C cl lf QX c e s' → E e s') : cameBackBy C.M A env E e s := by
  obtain ⟨b, B, H, a0, rfl, S, q, st, hen, hnone, tr, out⟩ := id h
  obtain ⟨oe, vs, T, oT, ts, he, hcls, hd, h1, hnT, hTe, hT, hdT, h3⟩ := trO tr
  unfold cameBackBy
  refine wpAny_bind (wpAny_field he hd h1 ?_)
  rw [if_neg (show ¬ ((Value.ref T == Value.none) = true) from by simp)]
  exact h.flight (f := env.frame) (fl' := fun c => rawInt (c.ι lf)) (by rw [hf]; rfl) hQ
theorem XHeld.leave {A : Around} {env : Env} {e : Value} {lf : Loc} {E : Value → Shared → Prop} {Q : Unit → Shared → Prop} (h : XHeld C cl lf QX c e s) (hf : env.frame = some (c.ι lf)) (hQ : ∀ s', XHold C cl QX c e s' → Q () s') : wpAny C.M A (leaving env e) Q E s := by
  obtain ⟨b, B, H, a0, rfl, S, q, st, hen, hnone, tr, out⟩ := id h
  unfold leaving
  exact wpAny_bind (wpAny_noteFrame_againW hf tr (h.flight (f := none) (fl' := fun _ => .none) rfl hQ))
/-- a frame through which it passes takes note -/
theorem XHold.looks {A : Around} {env : Env} {e : Value} {lf : Loc} {r : List Loc} {E : Value → Shared → Prop} {Q : Unit → Shared → Prop} (a : AOK n c A) (hfa : c.fa = lf :: r) (hf : env.frame = some (c.ι lf)) (h : XHold C cl QX c e s) (hQ : ∀ s', XHeld C cl lf QX c e s' → Q () s') : wpAny C.M A (noteFrame e env) Q E s := by
  obtain ⟨b, B, H, a0, rfl, S, q, st, hen, hnone, tr, out⟩ := h
  obtain ⟨envs, e1, e2, e3⟩ := a.frames
  have ff : s.heap.FunFrames B envs := fun_frames e2 e3 (fun l hl => S.frames hl) hnone
  cases envs with
  | nil => rw [hfa] at e2; cases e2
  | cons env₀ outer =>
    have hf₀ : env₀.frame = some (c.ι lf) := by rw [hfa] at e2; injection e2
    rw [noteFrame_frame (hf.trans hf₀.symm)]
    refine wpAny_looks_onW (M := C.M) e1 hf₀ (base := B) (cls := .ref cl) (a0 := a0) ⟨st, hen, ff, tr⟩ fun h' hh up => hQ _ ?_
    exact ⟨b, B, H, a0, rfl, out _ s.drawn s.toks hh.1 up, q, hh.1, hen, hnone, hh.2.2.2, fun h'' d t a1 a2 => out h'' d t a1 (up.trans a2)⟩

/-- raise Cls(arg) -/
theorem X_raise (O : C.Ok) {x : Str} {np cpos pos : Pos} {e₀ : Expr} {bmB : List Value} {B newId initId : String} {Q : AF → Hp → Prop} (ex : nsIn C.K mainGlobals x = some (some (.ref cl))) (q : excIn C.K cl bmB newId = true) (FB : ExcBaseFacts B newId initId bmB)
    (h : JArgs C F n (XMade C cl QX) [e₀] (fun ps H₁ => ps.length ≤ 1000000 ∧ QX H₁) H)
    (he : autoParam (∀ env, starEach [e₀] env = (false, eval e₀ env) :: starEach [] env) Au.a8)
    (hk : autoParam (F.scope.kind = .function) Au.a0) (hl : autoParam (F.scope.names.lookup x = some .globalImplicit) Au.a0) (hd : autoParam ((x == ("__debug__" : Str)) = false) Au.a1) :
    JX C F n (XMade C cl QX) (.Raise (some (.Call (.Name x np) [e₀] [] cpos)) none pos) Q H := by
  intro A c s a i S
  obtain ⟨tl, N, nm, q', bs, hdct, sn, sub, ab, col, dd, k0, k1, k2, k3, k5, mN, hC, hN, hni, T⟩ := ownO (own_of_in O.k O.top ex q)
  refine wpAny_Raise_call_subT (C := cl) (nm := nm) (q := q') (N := N) (bs := bs) (bm := tl) (hdct := hdct) (sn := sn) (sub := sub) (ab := ab) (col := col) (dd := dd) (k0 := k0) (k1 := k1) (k2 := k2) (k3 := k3) (k5 := k5)
    FB (mN := mN) (T.hasType FB.hasBase) a.handled (by rw [he]; rfl) hni (Calls.Name_function_global hk hl (Calls.loadGlobal_global (env := F.env c) (O.top.g.keeps S.base) (mg_of O.k O.top.g ex) ⟨rfl, ?_⟩) hd)
  have e1 := h cpos A c s a i S
  rw [he] at e1 ⊢
  refine evalArgs_plain (wpL e1 fun vs s₂ ps H₁ c₁ x₁ d₁ S₁ hq => ?_)
  obtain ⟨hz, h₁⟩ := hq
  refine ⟨rfl, sizeLine_big (d₁.length ▸ hz), S₁.base _ _ hC, hN.keeps S₁.base, T.keeps S₁.base, fun h' e hx => ⟨c₁, x₁, e, s₂.heap, H₁, _, rfl, hx, S₁, h₁⟩⟩

/-- a while out of which one may be raised -/
theorem X_whileX {t : Expr} {body : List Stmt} {pos : Pos} {Q : AF → Hp → Prop} (Inv : Nat → Hp → Prop) (k0 : Nat) (h0 : Inv k0 H)
    (h : ∀ k H', Inv k H' → JB C F n XF t (fun b H'' => (b = true → ∀ I : Hp → Prop, (∀ H3, (∃ m, m < k ∧ Inv m H3) → I H3) → JS C F n (XMade C cl QX) body (ForQ I Q) H'') ∧ (b = false → Q .next H'')) H') :
    JX C F n (XHeld C cl F.fm QX) (.While t body [] pos) Q H := by
  intro A c s a i S
  refine wpAny_While (codeAny_whileLoop (fun k s' => PostU C c (Inv k) s') (fun k s' q => ?_) k0 ⟨H, c, .refl c, S, h0⟩)
  obtain ⟨H₂, c₂, x₂, S₂, inv⟩ := q
  have a₂ := a.ext x₂
  have i₂ := i.ext x₂
  rw [← FC.env_ext i x₂]
  refine (wpU0 (h k H₂ inv A c₂ s' a₂ i₂ S₂) fun b s₃ H₃ c₃ x₃ S₃ hq => ?_)
  obtain ⟨ht, hf⟩ := hq
  cases b with
  | true =>
    rw [if_pos rfl]
    have := ht rfl _ (fun _ q => q) A c₃ s₃ (a₂.ext x₃) (i₂.ext x₃) S₃
    rw [FC.env_ext i₂ x₃] at this
    refine wp2 this (fun f s₄ g H₄ c₄ x₄ d₄ S₄ q => ?_) (fun e s₄ c₄ x₄ z => ?_)
    · have xx := (x₂.trans x₃).trans x₄
      cases g with
      | next => have : f = .next := d₄; subst this; obtain ⟨m, hm, q⟩ := q; exact ⟨m, hm, H₄, c₄, xx, S₄, q⟩
      | cont => have : f = .cont := d₄; subst this; obtain ⟨m, hm, q⟩ := q; exact ⟨m, hm, H₄, c₄, xx, S₄, q⟩
      | brk => have : f = .brk := d₄; subst this; exact ⟨.next, H₄, c₄, xx, rfl, S₄, q⟩
      | ret p => obtain ⟨v', rfl, dv'⟩ := d₄; exact ⟨.ret p, H₄, c₄, xx, ⟨v', rfl, dv'⟩, S₄, q⟩
    · have y₄ := x₃.trans x₄
      have i₄ := i₂.ext y₄
      obtain ⟨r, hfa⟩ := i₄.act
      have hf : (F.env c₂).frame = some (c₄.ι F.fm) := by rw [← FC.env_ext i₂ y₄]; rfl
      refine made_held (a₂.ext y₄) hfa hf z fun s₅ z₅ => ?_
      exact XTr.back z₅ hf fun s₆ z₆ => ⟨c₄, x₂.trans y₄, z₆⟩
  | false =>
    rw [if_neg (by decide)]
    exact wpAny_execs_nil ⟨.next, H₃, c₃, x₂.trans x₃, rfl, S₃, hf rfl⟩

/-- a call of the text's def out of which one may be raised -/
theorem call_fnX (O : C.Ok) {f : Addr} {name qual : Str} {params : Arguments} {body : List Stmt} {scope : Scope} {dV kV doc pm cdv ct oc : Value} {an od : Option Addr} {osl : Array (Option Value)} {ps ks : List PV} {kn : List Str} {Q : PV → Hp → Prop} (binds : List (Str × PV))
    (ho : C.K.lookup f = some ⟨oc, od, .func (fnOf name qual params body scope dV kV doc pm an cdv ct), osl⟩) (hcd : codeIn C.K cdv qual = true)
    (hbind : ∀ c s vs us, C.K.In s.heap → DenL c ps vs → DenL c ks us → ∃ vb, BindsTo s (fnOf name qual params body scope dV kV doc pm an cdv ct) ⟨vs, kn.zip us⟩ vb ∧ DenP c binds vb)
    (hloc : (binds.all fun x => decide (scope.names.lookup x.1 = some .local)) = true)
    (h : ∀ i, H (tmp i) = none → JS C ⟨tmp i, qual, scope, some f, cdv, [], tmp i⟩ n (XHeld C cl (tmp i) fun H' => QX (trim H H')) body (fun fl H' => Q fl.val (trim H H')) (upd H (tmp i) (.ns fun x => binds.reverse.lookup x)))
    (hcell : autoParam (∀ x ∈ scope.names, x.2 ≠ .cell) Au.a1) (hco : autoParam (scope.isCoroutine = false) Au.a0) (hgen : autoParam (scope.isGenerator = false) Au.a0) (hk : autoParam (scope.kind = .function) Au.a0) :
    JCode C (n + 1) (XHold C cl QX) (.ref f) ps kn ks Q H := by
  intro A c s vs us a d d' S
  obtain ⟨vb, hb, db⟩ := hbind c s vs us (O.k.keeps S.base) d d'
  obtain ⟨i, hi⟩ := S.fresh
  have hX := O.k.keeps S.base
  refine codeAny_call_def (fd := fnOf name qual params body scope dV kV doc pm an cdv ct) (body := body) (binds := vb) a.room (hX _ _ ho) rfl (O.top.nolimit.keeps S.base) (codeRec_of hX hcd) rfl hb hcell ?_ ?_ hco hgen hk
  · intro x hx
    have : x.1 ∈ binds.map (·.1) := by rw [db.keys]; exact List.mem_map_of_mem hx
    obtain ⟨y, hy, e⟩ := List.mem_map.mp this
    rw [← e]; exact of_decide_eq_true (List.all_eq_true.mp hloc y hy)
  intro h₀ hns hk0
  let c₁ : Cf := { c.put (tmp i) s.heap.objs.size with fa := tmp i :: c.fa }
  have X0 := Cf.put_ext (a := s.heap.objs.size) hi
  have sub1 : (c.put (tmp i) s.heap.objs.size).Sub c₁ := fun l u => ⟨u, rfl⟩
  have sub0 : c.Sub c₁ := X0.on
  have S₀ : St C (c.put (tmp i) s.heap.objs.size) (upd H (tmp i) (.ns fun x => binds.reverse.lookup x)) { s with heap := h₀, toks := s.toks + vb.length } :=
    S.new (sp := .ns fun x => binds.reverse.lookup x) hi hk0 (Nat.le_refl _) ⟨_, hns, fun x => ((db.reverse.lookup x).ext X0)⟩ s.drawn _
  have S₁ : St C c₁ (upd H (tmp i) (.ns fun x => binds.reverse.lookup x)) { s with heap := h₀, toks := s.toks + vb.length } := by
    refine ⟨S₀.base, S₀.frz, fun l sp e => (S₀.reg l sp e).sub sub1, S₀.used, S₀.inj, S₀.hi, S₀.sepF, S₀.fin, S₀.nmd, fun b hb => ?_, S₀.os, S₀.gens, S₀.hbs⟩
    rcases List.mem_cons.mp hb with rfl | hb
    · exact ⟨_, upd_self ..⟩
    · exact S₀.fr b hb
  have eι : c₁.ι (tmp i) = s.heap.objs.size := Cf.put_self c (tmp i) s.heap.objs.size
  have ef : ((⟨tmp i, qual, scope, some f, cdv, [], tmp i⟩ : FC).env c₁) = callEnv (fnOf name qual params body scope dV kV doc pm an cdv ct) s.heap.objs.size f := by
    show envOf qual scope (c₁.ι (tmp i)) f cdv = envOf qual scope s.heap.objs.size f cdv
    rw [eι]
  have := h i (S.none_of hi) (A.deeper (callEnv (fnOf name qual params body scope dV kV doc pm an cdv ct) s.heap.objs.size f)) c₁ _
    (a.deeper (l := tmp i) hk (by show some s.heap.objs.size = some (c₁.ι (tmp i)); rw [eι]) rfl (.inl rfl) sub0) ⟨.inl rfl, .inl rfl, ⟨_, rfl⟩, fun _ h => (nomatch h)⟩ S₁
  rw [ef] at this
  have back : ∀ c₂ : Cf, c₁.Ext c₂ → c.Ext { c₂ with fa := c.fa } := fun c₂ x₂ => ⟨x₂.fz, rfl, fun l u => by
    have u₁ := sub0 l u
    have u₂ := x₂.on l u₁.1
    exact ⟨u₂.1, u₂.2.trans u₁.2⟩⟩
  refine wp2 this (fun fl s' g H' c₂ x₂ d₂ S₂ q => ?_) (fun e s' c₂ x₂ z => ?_)
  · have hfa : c₂.fa = tmp i :: c.fa := x₂.fa
    have S₃ := S₂.leave (H := H) hfa S.fr
    have sub3 : c₂.Sub { c₂ with fa := c.fa } := fun l u => ⟨u, rfl⟩
    refine ⟨g.val, _, { c₂ with fa := c.fa }, back c₂ x₂, ?_, S₃, q⟩
    cases g with
    | next => have : fl = .next := d₂; subst this; rfl
    | brk => have : fl = .brk := d₂; subst this; rfl
    | cont => have : fl = .cont := d₂; subst this; rfl
    | ret p => obtain ⟨v, rfl, dv⟩ := d₂; exact dv.sub sub3
  · have hfa : c₂.fa = tmp i :: c.fa := x₂.fa
    refine XHeld.leave z (by show some s.heap.objs.size = _; rw [(x₂.on (tmp i) (.inl rfl)).2, eι]) fun s'' z'' => ?_
    obtain ⟨b, B, H', a0, rfl, S₂, q, st, hen, hnone, tr, out⟩ := z''
    exact ⟨{ c₂ with fa := c.fa }, back c₂ x₂, b, B, trim H H', a0, rfl, S₂.leave (H := H) hfa S.fr, q, st, hen, fun l hl => hnone l (by rw [hfa]; exact .tail _ hl), tr, fun h' d t a1 a2 => (out h' d t a1 a2).leave (H := H) hfa S.fr⟩

/-- try: ... except Cls: return [] -/
theorem X_try (O : C.Ok) {x : Str} {np hpos lpos rpos pos : Pos} {body : List Stmt} {bmB : List Value} {newId : String} {Q : AF → Hp → Prop} (ex : nsIn C.K mainGlobals x = some (some (.ref cl))) (q : excIn C.K cl bmB newId = true) (hbase : bmB.contains (.type "BaseException") = true)
    (h : JS C F n (XHold C cl fun H' => Alloc (.list []) (fun p H'' => Q (.ret p) H'') H') body Q H)
    (hk : autoParam (F.scope.kind = .function) Au.a0) (hl : autoParam (F.scope.names.lookup x = some .globalImplicit) Au.a0) (hd : autoParam ((x == ("__debug__" : Str)) = false) Au.a1) :
    JX C F n XF (.Try body [.ExceptHandler (some (.Name x np)) none [.Return (some (.List [] lpos)) rpos] hpos] [] [] pos) Q H := by
  intro A c s a i S
  refine wpAny_Try_except (wp2 (h A c s a i S) (fun f s₁ g H₁ c₁ x₁ d₁ S₁ q₁ => ?_) (fun e s₁ c₁ x₁ z => ?_))
  · cases g with
    | next => have : f = .next := d₁; subst this; exact wpAny_execs_nil ⟨.next, H₁, c₁, x₁, rfl, S₁, q₁⟩
    | brk => have : f = .brk := d₁; subst this; exact ⟨.brk, H₁, c₁, x₁, rfl, S₁, q₁⟩
    | cont => have : f = .cont := d₁; subst this; exact ⟨.cont, H₁, c₁, x₁, rfl, S₁, q₁⟩
    | ret p => obtain ⟨v', rfl, dv'⟩ := d₁; exact ⟨.ret p, H₁, c₁, x₁, ⟨v', rfl, dv'⟩, S₁, q₁⟩
  · have i₁ := i.ext x₁
    have a₁ := a.ext x₁
    obtain ⟨r, hfa⟩ := i₁.act
    have hf : (F.env c).frame = some (c₁.ι F.fm) := by rw [← FC.env_ext i x₁]; rfl
    refine XHold.looks a₁ hfa hf z fun s₂ z₂ => ?_
    refine z₂.flight (f := none) (fl' := fun _ => .none) rfl fun s₃ z₃ => ?_
    obtain ⟨b, B, H₃, a0, rfl, S₃, q₃, st, hen, hnone, tr, out⟩ := id z₃
    have hcls : ∃ oe, s₃.heap.get? b = some oe ∧ oe.cls = .ref cl := tr.there
    obtain ⟨oe, hoe, hoc⟩ := hcls
    refine wpAny_handleBy_cons (codeAny_handlers_test (Calls.Name_function_global hk hl (Calls.loadGlobal_global (env := F.env c) (O.top.g.keeps S₃.base) (mg_of O.k O.top.g ex) ?_) hd)) (by intro q; cases q)
    obtain ⟨tl, N, nm, q', bs, hdct, sn, sub, ab, col, dd, k0, k1, k2, k3, k5, mN, hC, hN, hni, T⟩ := ownO (own_of_in O.k O.top ex q)
    obtain ⟨hp, gens, drawn, toks, os⟩ := s₃
    refine wpAny_excMatches_sub_self (S₃.base _ _ hC) hoe hoc (T.hasType hbase) (codeAny_handlers_suite ?_)
    refine z₃.flight (f := none) (fl' := fun _ => .none) rfl fun s₄ z₄ => ?_
    obtain ⟨b', B', H₄, a0', eb, S₄, q₄, _⟩ := z₄
    refine wpAny_execs_cons (wpAny_Return_some (wpAny_List (wpAny_items_nil ⟨by simp [sizeLine], ?_⟩)))
    obtain ⟨p, H₅, c₅, x₅, d₅, S₅, q₅⟩ := S₄.push q₄ (fun l hl => sat_list (items := #[]) .nil) s₄.drawn s₄.toks
    exact ⟨.ret p, H₅, c₅, x₁.trans x₅, ⟨_, rfl, d₅⟩, S₅, q₅⟩
end
-- M17

/-- the named places from N, the temporaries from T -/
noncomputable def ov (N T : Hp) : Hp := fun l => if l.1 = 0 then T l else N l
/-- the state within a body: the frame's own names lie at the temporary i -/
noncomputable def Fm (N T : Hp) (i : Nat) (m : Str → Option PV) : Hp := upd (ov N T) (tmp i) (.ns m)
theorem ov_nm {N T : Hp} {l : Loc} (h : l.1 ≠ 0) : ov N T l = N l := if_neg h
theorem ov_tmp {N T : Hp} {j : Nat} : ov N T (tmp j) = T (tmp j) := if_pos rfl
theorem tmp_ne {i j : Nat} (h : i ≠ j) : tmp i ≠ tmp j := fun e => h (congrArg Prod.snd e)
section
variable {N N' T T' : Hp} {i j : Nat} {m m' : Str → Option PV} {l : Loc} {sp : Spec}
theorem Fm_nm (h : l.1 ≠ 0) : Fm N T i m l = N l := (upd_ne _ _ fun e => h (by rw [e]; rfl)).trans (ov_nm h)
theorem Fm_tmp (h : j ≠ i) : Fm N T i m (tmp j) = T (tmp j) := (upd_ne _ _ (tmp_ne h)).trans ov_tmp
theorem Fm_self : Fm N T i m (tmp i) = some (.ns m) := upd_self ..
theorem Fm_get (h : l.1 ≠ 0) (e : N l = some sp) : Fm N T i m l = some sp := (Fm_nm h).trans e
theorem Fm_gett (h : j ≠ i) (e : T (tmp j) = some sp) : Fm N T i m (tmp j) = some sp := (Fm_tmp h).trans e
theorem Fm_mod (h : l.1 ≠ 0) : upd (Fm N T i m) l sp = Fm (upd N l sp) T i m := by
  funext k
  unfold Fm ov upd
  dsimp only
  by_cases h1 : k = l
  · subst h1
    rw [if_pos rfl, if_neg fun e => h (by rw [e]; rfl), if_neg h, if_pos rfl]
  · rw [if_neg h1]
    by_cases h2 : k = tmp i
    · rw [if_pos h2, if_pos h2]
    · rw [if_neg h2, if_neg h2]
      by_cases h3 : k.1 = 0
      · rw [if_pos h3, if_pos h3]
      · rw [if_neg h3, if_neg h3, if_neg h1]
theorem Fm_modt (h : j ≠ i) : upd (Fm N T i m) (tmp j) sp = Fm N (upd T (tmp j) sp) i m := by
  funext k
  unfold Fm ov upd
  dsimp only
  by_cases h1 : k = tmp j
  · subst h1
    rw [if_pos rfl, if_neg (tmp_ne h)]; exact (if_pos rfl).symm
  · rw [if_neg h1]
    by_cases h2 : k = tmp i
    · rw [if_pos h2, if_pos h2]
    · rw [if_neg h2, if_neg h2]
      by_cases h3 : k.1 = 0
      · rw [if_pos h3, if_pos h3, if_neg h1]
      · rw [if_neg h3, if_neg h3]
theorem Fm_set : upd (Fm N T i m) (tmp i) (.ns m') = Fm N T i m' := upd_upd ..
theorem ov_Fm : ov N' (Fm N T i m) = Fm N' T i m := by
  funext k
  unfold Fm ov upd
  dsimp only
  by_cases h3 : k.1 = 0
  · rw [if_pos h3]
    by_cases h2 : k = tmp i
    · rw [if_pos h2, if_pos h2]
    · rw [if_neg h2, if_neg h2, if_pos h3, if_pos h3]
  · rw [if_neg h3, if_neg fun e => h3 (by rw [e]; rfl), if_neg h3]
theorem Fm_fresh (h : Fm N T i m (tmp j) = none) : j ≠ i ∧ T (tmp j) = none := by
  have hj : j ≠ i := fun e => by rw [e, Fm_self] at h; cases h
  exact ⟨hj, (Fm_tmp hj).symm.trans h⟩
theorem Fm_of {H : Hp} (h : ∀ l, l.1 ≠ 0 → H l = N l) : upd H (tmp i) (.ns m) = Fm N H i m := by
  funext k
  unfold Fm ov upd
  dsimp only
  by_cases h2 : k = tmp i
  · rw [if_pos h2, if_pos h2]
  · rw [if_neg h2, if_neg h2]
    by_cases h3 : k.1 = 0
    · rw [if_pos h3]
    · rw [if_neg h3, h k h3]
theorem trim_Fm {H : Hp} (hA : ∀ j sp, H (tmp j) = some sp → T (tmp j) = some sp) (hi : H (tmp i) = none) : trim H (Fm N T i m) = ov N H := by
  funext k
  unfold trim
  by_cases h3 : k.1 = 0
  · have ek : k = tmp k.2 := by obtain ⟨a, b⟩ := k; simp only at h3; rw [h3]; rfl
    rw [show ov N H k = H k from if_pos h3]
    cases e : H k with
    | none => rw [if_pos ⟨h3, rfl⟩]
    | some sp =>
      rw [if_neg fun q => by cases q.2]
      rw [ek] at e ⊢
      have hne : k.2 ≠ i := fun z => by rw [z, hi] at e; cases e
      rw [Fm_tmp hne, hA _ _ e]
  · rw [if_neg fun q => h3 q.1, Fm_nm h3, ov_nm h3]
end

section
variable {C : Ctx} {F : FC} {n : Nat} {X : XT} {N T : Hp} {i : Nat} {m : Str → Option PV} {Q : PV → Hp → Prop}

theorem al_tmp {sp : Spec} (h : ∀ j T', j ≠ i → T (tmp j) = none → T' (tmp j) = some sp → (∀ k q, T k = some q → T' k = some q) → (∀ k, k ≠ tmp j → T' k = T k) → Q (.loc (tmp j)) (Fm N T' i m)) : Alloc sp Q (Fm N T i m) := by
  refine .inl fun j hj => ?_
  obtain ⟨h1, h2⟩ := Fm_fresh hj
  rw [Fm_modt h1]
  exact h j _ h1 h2 (upd_self ..) (fun k q e => (upd_ne _ _ fun z => by rw [z, h2] at e; cases e).trans e) fun k hk => upd_ne _ _ hk
theorem al_nm (l : Loc) {sp : Spec} (h0 : l.1 ≠ 0) (h1 : N l = none) (h : Q (.loc l) (Fm (upd N l sp) T i m)) : Alloc sp Q (Fm N T i m) := by
  refine .inr ⟨l, h0, (Fm_nm h0).trans h1, ?_⟩
  rw [Fm_mod h0]; exact h

noncomputable def locOk (F : FC) (x : Str) : Bool := decide (F.scope.kind = .function) && (decide (F.scope.names.lookup x = some .local) && !(x == ("__debug__" : Str)))
theorem locOk_of {F : FC} {x : Str} (h : locOk F x = true) : F.scope.kind = .function ∧ F.scope.names.lookup x = some .local ∧ (x == ("__debug__" : Str)) = false := by
  unfold locOk at h
  simp only [Bool.and_eq_true, decide_eq_true_eq, Bool.not_eq_true'] at h
  exact h
theorem f_loc {x : Str} {pos : Pos} {p : PV} (hx : m x = some p) (h : Q p (Fm N T i m)) (hF : autoParam (F.lf = tmp i) Au.a0)
    (hl : autoParam (locOk F x = true) Au.a10) : JE C F n X (.Name x pos) Q (Fm N T i m) :=
  E_local (by rw [hF]; exact Fm_self) hx h (locOk_of hl).1 (locOk_of hl).2.1 (locOk_of hl).2.2
/-- the names after a store -/
noncomputable def sto (m : Str → Option PV) (x : Str) (p : PV) : Str → Option PV := fun y => if y = x then some p else m y
theorem f_st {x : Str} {p : PV} {Q : Hp → Prop} (h : Q (Fm N T i (sto m x p))) (hF : autoParam (F.lf = tmp i) Au.a3)
    (hl : autoParam (locOk F x = true) Au.a2) : JStore C F x p Q (Fm N T i m) := by
  refine st_local (m := m) (by rw [hF]; exact Fm_self) ?_ (locOk_of hl).1 (locOk_of hl).2.1
  rw [hF, Fm_set]; exact h

/-- an object: its place, its dict's place, its class, its attributes -/
structure Ob (N : Hp) (l d : Loc) (cl : Addr) (ks : List Str) (a : Str → Option PV) : Prop where
  l0 : l.1 ≠ 0
  d0 : d.1 ≠ 0
  inst : N l = some (.inst cl d)
  attr : N d = some (.attrs ks a)
theorem Ob.e {l d : Loc} {cl : Addr} {ks : List Str} {a : Str → Option PV} (o : Ob N l d cl ks a) : Fm N T i m l = some (.inst cl d) := Fm_get o.l0 o.inst
theorem Ob.f {l d : Loc} {cl : Addr} {ks : List Str} {a : Str → Option PV} (o : Ob N l d cl ks a) : Fm N T i m d = some (.attrs ks a) := Fm_get o.d0 o.attr
theorem f_get (O : C.Ok) {l d : Loc} {cl : Addr} {ks : List Str} {a : Str → Option PV} {name : Str} {p : PV} {expr : Bool} (o : Ob N l d cl ks a) (hx : a name = some p) (hk : attrIn C.K cl name = true) (h : Q p (Fm N T i m)) (hh : autoParam (p.handed = true) Au.a0) :
    J1 C n X (fun u => getAttr u name expr) (.loc l) Q (Fm N T i m) := op_attr O o.e o.f hx hk h hh
theorem f_set (O : C.Ok) {l d : Loc} {cl : Addr} {ks : List Str} {a : Str → Option PV} {name : Str} {p : PV} {Q : Hp → Prop} (o : Ob N l d cl ks a) (hk : setIn C.K cl name = true) (hm : name ∈ ks)
    (h : Q (Fm (upd N d (.attrs ks (sto a name p))) T i m)) : J2U C n X (fun u v => setAttr u name v) (.loc l) p Q (Fm N T i m) := by
  refine op_setattr O o.e o.f hk hm ?_
  rw [Fm_mod o.d0]; exact h
theorem f_meth (O : C.Ok) {l d : Loc} {cl f : Addr} {ks : List Str} {a : Str → Option PV} {name : Str} {Q : Value → List PV → Hp → Prop} (o : Ob N l d cl ks a) (hx : a name = none)
    (hk : plainGet C.K cl name = true) (hf : findIn C.K (.ref cl) name = some (some (.ref f))) (ht : isFn C.K (.ref f) = true) (h : Q (.ref f) [.loc l] (Fm N T i m)) : JMeth C n X name (.loc l) Q (Fm N T i m) :=
  m_fn O o.e o.f hx hk hf ht h

/-- the frame of a def without cells -/
noncomputable def FC.fn (qual : Str) (scope : Scope) (f : Addr) (cdv : Value) (i : Nat) : FC := ⟨tmp i, qual, scope, some f, cdv, [], tmp i⟩
/-- where a def's body ends -/
inductive FnEnd (H : Hp) (i : Nat) (K : PV → Hp → Prop) (fl : AF) (H' : Hp) : Prop
  | mk (N' T' : Hp) (m' : Str → Option PV) (e : H' = Fm N' T' i m') (up : ∀ j sp, H (tmp j) = some sp → T' (tmp j) = some sp) (k : K fl.val N')
/-- a contract of a def -/
theorem con_fn (O : C.Ok) {f : Addr} {name qual : Str} {params : Arguments} {body : List Stmt} {scope : Scope} {dV kV doc pm cdv ct oc : Value} {an od : Option Addr} {osl : Array (Option Value)} {ps ks : List PV} {kn : List Str} (binds : List (Str × PV)) {H : Hp} {K : PV → Hp → Prop}
    (ho : C.K.lookup f = some ⟨oc, od, .func (fnOf name qual params body scope dV kV doc pm an cdv ct), osl⟩) (hcd : codeIn C.K cdv qual = true)
    (hbind : ∀ c s vs us, C.K.In s.heap → DenL c ps vs → DenL c ks us → ∃ vb, BindsTo s (fnOf name qual params body scope dV kV doc pm an cdv ct) ⟨vs, kn.zip us⟩ vb ∧ DenP c binds vb)
    (hloc : (binds.all fun x => decide (scope.names.lookup x.1 = some .local)) = true)
    (hN : ∀ l, l.1 ≠ 0 → H l = N l)
    (h : ∀ i, H (tmp i) = none → ∀ I : AF → Hp → Prop, (∀ fl H', FnEnd H i K fl H' → I fl H') → JS C (FC.fn qual scope f cdv i) n XF body (EndQ I) (Fm N H i fun x => binds.reverse.lookup x))
    (hcell : autoParam (∀ x ∈ scope.names, x.2 ≠ .cell) Au.a1) (hco : autoParam (scope.isCoroutine = false) Au.a0) (hgen : autoParam (scope.isGenerator = false) Au.a0) (hk : autoParam (scope.kind = .function) Au.a0) :
    JCode C (n + 1) X (.ref f) ps kn ks (fun p H' => ∃ N', H' = ov N' H ∧ K p N') H := by
  refine call_fn O binds ho hcd hbind hloc (fun i hi => ?_) hcell hco hgen hk
  rw [Fm_of hN]
  refine (h i hi _ fun _ _ q => q).mono fun fl H' q => ?_
  obtain ⟨N', T', m', e, hA, hK⟩ := q
  subst e
  exact ⟨N', trim_Fm hA hi, hK⟩
/-- the contract used in a body -/
theorem use_fn {f : Value} {ps ks : List PV} {kn : List Str} {K : PV → Hp → Prop} (h : JCode C n X f ps kn ks (fun p H' => ∃ N', H' = ov N' (Fm N T i m) ∧ K p N') (Fm N T i m)) (q : ∀ p N', K p N' → Q p (Fm N' T i m)) : JCall C n X f ps kn ks Q (Fm N T i m) :=
  (h.mono fun p H' ⟨N', e, k⟩ => by rw [e, ov_Fm]; exact q p N' k).call
end

theorem attr_k {K : Frag} {cl : Addr} {name : Str} {q : Option Value} (h1 : plainGet K cl name = true) (h2 : hasDictIn K cl = true) (h3 : findIn K (.ref cl) name = some q) (h4 : noGet K q = true) : attrIn K cl name = true := by
  unfold attrIn; rw [h1, h2, h3]; simp [h4]
theorem set_k' {K : Frag} {cl : Addr} {name : Str} (h1 : findIn K (.ref cl) "__setattr__" = some (some (.builtin "object.__setattr__"))) (h2 : plainOver K cl = true) (h3 : takerIn K cl name = some none) (h4 : hasDictIn K cl = true) : setIn K cl name = true := by
  have : (clsIn K cl).any (·.hasDict) = true := h4
  unfold setIn; rw [h1, h2, h3, this]; rfl
-- M18

abbrev aTask : Addr := 223
abbrev aCtl : Addr := 368
abbrev aNode : Addr := 396
abbrev aDis : Addr := 474
abbrev aHold : Addr := 65

/-- the name of task k, of file k -/
noncomputable def nm (k : Nat) : Str := Str.ofString "t" ++ Str.ofString (toString (k : Int))
noncomputable def fn (k : Nat) : Str := Str.ofString "f" ++ Str.ofString (toString (k : Int))

noncomputable def at_ : List (Str × PV) → Str → Option PV
  | [], _ => none
  | (n, p) :: r, y => if y = n then some p else at_ r y

/-- one task: its task_dep, its file_dep -/
structure TS where
  td : List Nat
  fd : List Nat
/-- one node: how often expanded, its ancestors, what it waits for, who waits for it, ended, given -/
structure Nd where
  exp : Nat
  anc : List Nat
  wr : List Nat
  wm : List Nat
  ok : Bool
  ph : Bool
structure Sg where
  nd : Nat → Option Nd
  ord : List Nat
  wt : List Nat
  rd : List Nat
  tr : List Nat
  cur : Option Nat
structure Cs where
  ord : List Nat
  tgt : List (Nat × Nat)
  sel : Option Bool
structure Wd where
  tk : Nat → Option TS
  ct : Nat → Option Spec
  dd : Option Sg

noncomputable def sL (f : Nat → Str) (l : List Nat) : List PV := l.map fun n => .str (f n)
noncomputable def nodes (l : List Nat) : List PV := l.map fun n => .loc (40, n)
noncomputable def nodeD (l : List Nat) : List (Str × PV) := l.map fun n => (nm n, .loc (40, n))

noncomputable def taskNames : List Str := [Str.ofString "name", Str.ofString "options", Str.ofString "setup_tasks", Str.ofString "actions", Str.ofString "dep_changed", Str.ofString "file_dep", Str.ofString "task_dep", Str.ofString "wild_dep", Str.ofString "calc_dep", Str.ofString "getargs", Str.ofString "value_savers", Str.ofString "uptodate", Str.ofString "targets", Str.ofString "subtask_of", Str.ofString "has_subtask", Str.ofString "result", Str.ofString "values", Str.ofString "executed"]
noncomputable def taskAt (k : Nat) : Str → Option PV := at_ [
  (Str.ofString "executed", .bool false), (Str.ofString "values", .loc (12, k)), (Str.ofString "result", .none), (Str.ofString "has_subtask", .bool false), (Str.ofString "subtask_of", .none),
  (Str.ofString "targets", .loc (8, k)), (Str.ofString "uptodate", .loc (11, k)), (Str.ofString "value_savers", .loc (10, k)), (Str.ofString "getargs", .loc (13, k)),
  (Str.ofString "calc_dep", .loc (4, k)), (Str.ofString "wild_dep", .loc (7, k)), (Str.ofString "task_dep", .loc (3, k)), (Str.ofString "file_dep", .loc (6, k)), (Str.ofString "dep_changed", .none),
  (Str.ofString "actions", .loc (9, k)), (Str.ofString "setup_tasks", .loc (5, k)), (Str.ofString "options", .none), (Str.ofString "name", .str (nm k))]
noncomputable def hpT (k : Nat) (t : TS) : Nat → Option Spec
  | 1 => some (.inst aTask (2, k))
  | 2 => some (.attrs taskNames (taskAt k))
  | 3 => some (.list (sL nm t.td))
  | 4 => some (.list [])
  | 5 => some (.list [])
  | 6 => some (.list (sL fn t.fd))
  | 7 => some (.list [])
  | 8 => some (.list [.str (fn k)])
  | 9 => some (.list [])
  | 10 => some (.list [])
  | 11 => some (.list [])
  | 12 => some (.dict [])
  | 13 => some (.dict [])
  | _ => none

noncomputable def nodeNames : List Str := [Str.ofString "task", Str.ofString "task_dep", Str.ofString "calc_dep", Str.ofString "ancestors", Str.ofString "wait_select", Str.ofString "wait_run", Str.ofString "wait_run_calc", Str.ofString "waiting_me", Str.ofString "run_status", Str.ofString "bad_deps", Str.ofString "ignored_deps", Str.ofString "phase"]
noncomputable def tdk (e : Nat) : Nat := if e = 0 then 42 else 49 + 2 * e
noncomputable def cdk (e : Nat) : Nat := if e = 0 then 43 else 48 + 2 * e
noncomputable def nodeAt (k : Nat) (d : Nd) : Str → Option PV := at_ [
  (Str.ofString "phase", .int (if d.ph then 1 else 0)), (Str.ofString "ignored_deps", .loc (49, k)), (Str.ofString "bad_deps", .loc (48, k)),
  (Str.ofString "run_status", if d.ok then .str (Str.ofString "successful") else .none), (Str.ofString "waiting_me", .loc (47, k)), (Str.ofString "wait_run_calc", .loc (46, k)), (Str.ofString "wait_run", .loc (45, k)),
  (Str.ofString "wait_select", .bool false), (Str.ofString "ancestors", .loc (44, k)), (Str.ofString "calc_dep", .loc (cdk d.exp, k)), (Str.ofString "task_dep", .loc (tdk d.exp, k)), (Str.ofString "task", .loc (1, k))]
noncomputable def hpN (tk : Nat → Option TS) (k : Nat) (d : Nd) : Nat → Option Spec
  | 40 => some (.inst aNode (41, k))
  | 41 => some (.attrs nodeNames (nodeAt k d))
  | 42 => some (.list (sL nm ((tk k).elim [] (·.td))))
  | 43 => some (.list [])
  | 44 => some (.list (sL nm d.anc))
  | 45 => some (.set (d.wr.map nm))
  | 46 => some (.set [])
  | 47 => some (.dict (nodeD d.wm))
  | 48 => some (.list [])
  | 49 => some (.list [])
  | 50 => if 1 ≤ d.exp then some (.list []) else none
  | 51 => if 1 ≤ d.exp then some (.list []) else none
  | 52 => if 2 ≤ d.exp then some (.list []) else none
  | 53 => if 2 ≤ d.exp then some (.list []) else none
  | _ => none
noncomputable def disNames : List Str := [Str.ofString "tasks", Str.ofString "targets", Str.ofString "selected_tasks", Str.ofString "nodes", Str.ofString "waiting", Str.ofString "ready", Str.ofString "tasks_to_run", Str.ofString "node"]
noncomputable def disAt (σ : Sg) : Str → Option PV := at_ [
  (Str.ofString "node", match σ.cur with | none => .none | some k => .loc (40, k)), (Str.ofString "tasks_to_run", .loc (35, 0)), (Str.ofString "ready", .loc (34, 0)), (Str.ofString "waiting", .loc (33, 0)), (Str.ofString "nodes", .loc (32, 0)),
  (Str.ofString "selected_tasks", .loc (24, 0)), (Str.ofString "targets", .loc (23, 0)), (Str.ofString "tasks", .loc (22, 0))]
noncomputable def hpD (σ : Sg) : Nat → Option Spec
  | 30 => some (.inst aDis (31, 0))
  | 31 => some (.attrs disNames (disAt σ))
  | 32 => some (.dict (nodeD σ.ord))
  | 33 => some (.dict (nodeD σ.wt))
  | 34 => some (.list (nodes σ.rd))
  | 35 => some (.list (sL nm σ.tr))
  | _ => none
noncomputable def hp (w : Wd) : Hp := fun l =>
  if l.1 < 20 then (match w.tk l.2 with | some t => hpT l.2 t l.1 | none => none)
  else if l.1 < 30 then (if l.2 = 0 then w.ct l.1 else none)
  else match w.dd with
    | none => none
    | some σ => if l.1 < 40 then (if l.2 = 0 then hpD σ l.1 else none) else match σ.nd l.2 with | some d => hpN w.tk l.2 d l.1 | none => none

theorem lt_step {P : Nat → Prop} {n : Nat} (h : ∀ b, b < n → P b) (p : P n) : ∀ b, b < n + 1 → P b :=
  fun b hb => (Nat.lt_succ_iff_lt_or_eq.mp hb).elim (h b) fun e => e ▸ p
theorem hpN_none {tk : Nat → Option TS} {k : Nat} {d : Nd} {b : Nat} (h : 54 ≤ b) : hpN tk k d b = none := by
  obtain ⟨j, rfl⟩ := Nat.exists_eq_add_of_le' h
  rfl
theorem hpD_none {σ : Sg} {b : Nat} (h : 36 ≤ b) : hpD σ b = none := by
  obtain ⟨j, rfl⟩ := Nat.exists_eq_add_of_le' h
  rfl
theorem hpT_none {k : Nat} {t : TS} {b : Nat} (h : 14 ≤ b) : hpT k t b = none := by
  obtain ⟨j, rfl⟩ := Nat.exists_eq_add_of_le' h
  rfl
theorem look_far {α : Type} {m b : Nat} (h : m ≤ b) : ∀ {U : List (Nat × α)}, (U.all fun x => decide (x.1 < m)) = true → U.lookup b = none
  | [], _ => rfl
  | x :: U, hU => by
    have hU : decide (x.1 < m) = true ∧ (U.all fun x => decide (x.1 < m)) = true := Bool.and_eq_true_iff.mp hU
    rw [List.lookup_cons, beq_eq_false_iff_ne.mpr (Nat.ne_of_gt (Nat.lt_of_lt_of_le (of_decide_eq_true hU.1) h))]
    exact look_far h hU.2
section
variable {w : Wd} {σ : Sg} {k : Nat} {d : Nd} {t : TS}
theorem hp_t {a : Nat} (h : w.tk k = some t) (ha : a < 20) : hp w (a, k) = hpT k t a := by
  unfold hp; simp only [ha, if_true, h]
theorem hp_c {a : Nat} (h1 : ¬ a < 20) (h2 : a < 30) : hp w (a, 0) = w.ct a := by
  unfold hp; simp only [h1, h2, if_true, if_false]
theorem hp_d {a : Nat} (h : w.dd = some σ) (h1 : ¬ a < 30) (h2 : a < 40) : hp w (a, 0) = hpD σ a := by
  unfold hp; simp only [show ¬ a < 20 by lia, h1, h2, if_true, if_false, h]
theorem hp_n {a : Nat} (h : w.dd = some σ) (hk : σ.nd k = some d) (h1 : ¬ a < 40) : hp w (a, k) = hpN w.tk k d a := by
  unfold hp; simp only [show ¬ a < 20 by lia, show ¬ a < 30 by lia, h1, if_false, h, hk]
theorem hp_n0 {a : Nat} (h : w.dd = some σ) (hk : σ.nd k = none) (h1 : ¬ a < 40) : hp w (a, k) = none := by
  unfold hp; simp only [show ¬ a < 20 by lia, show ¬ a < 30 by lia, h1, if_false, h, hk]

noncomputable def Sg.set (σ : Sg) (k : Nat) (d : Nd) : Sg := { σ with nd := fun j => if j = k then some d else σ.nd j }
noncomputable def Wd.sg (w : Wd) (σ : Sg) : Wd := { w with dd := some σ }
theorem Sg.set_self : (σ.set k d).nd k = some d := if_pos rfl
theorem Sg.set_ne {j : Nat} (h : j ≠ k) : (σ.set k d).nd j = σ.nd j := if_neg h

/-- one of a node's own places turned -/
theorem upd_n {a : Nat} {sp : Spec} {d' : Nd} (h : w.dd = some σ) (hk : σ.nd k = some d) (ha : ¬ a < 40) (hs : ∀ b, ¬ b < 40 → hpN w.tk k d' b = if b = a then some sp else hpN w.tk k d b) : upd (hp w) (a, k) sp = hp (w.sg (σ.set k d')) := by
  funext l
  obtain ⟨b, j⟩ := l
  by_cases hb : b < 40
  · rw [upd_ne _ _ fun e => by have := congrArg Prod.fst e; simp only at this; lia]
    unfold hp
    by_cases h20 : b < 20
    · simp only [h20, if_true]; rfl
    · by_cases h30 : b < 30
      · simp only [h20, h30, if_true, if_false]; rfl
      · simp only [h20, h30, hb, if_true, if_false, h, Wd.sg]
        by_cases hj : j = 0
        · simp only [hj, if_true]
          unfold hpD disAt Sg.set; rfl
        · simp only [hj, if_false]
  · have e2 : hp (w.sg (σ.set k d')) (b, j) = (match (σ.set k d').nd j with | some d => hpN w.tk j d b | none => none) := by
      unfold hp; simp only [show ¬ b < 20 by lia, show ¬ b < 30 by lia, hb, if_false, Wd.sg]
    rw [e2]
    by_cases hj : j = k
    · subst hj
      rw [Sg.set_self]
      show _ = hpN w.tk j d' b
      rw [hs b hb]
      by_cases hba : b = a
      · subst hba; rw [upd_self, if_pos rfl]
      · rw [upd_ne _ _ fun e => hba (congrArg Prod.fst e), if_neg hba, hp_n h hk hb]
    · rw [Sg.set_ne hj, upd_ne _ _ fun e => hj (congrArg Prod.snd e)]
      unfold hp
      simp only [show ¬ b < 20 by lia, show ¬ b < 30 by lia, hb, if_false, h]
/-- one of the dispatcher's own places turned -/
theorem upd_d {a : Nat} {sp : Spec} {σ' : Sg} (h : w.dd = some σ) (ha : ¬ a < 30) (ha' : a < 40) (hn : σ'.nd = σ.nd) (hs : ∀ b, ¬ b < 30 → b < 40 → hpD σ' b = if b = a then some sp else hpD σ b) : upd (hp w) (a, 0) sp = hp (w.sg σ') := by
  funext l
  obtain ⟨b, j⟩ := l
  by_cases hb : b < 30
  · rw [upd_ne _ _ fun e => by have := congrArg Prod.fst e; simp only at this; lia]
    unfold hp
    by_cases h20 : b < 20
    · simp only [h20, if_true]; rfl
    · simp only [h20, hb, if_true, if_false]; rfl
  · by_cases hb4 : b < 40
    · by_cases hj : j = 0
      · subst hj
        rw [show hp (w.sg σ') (b, 0) = hpD σ' b from hp_d rfl hb hb4, hs b hb hb4]
        by_cases hba : b = a
        · subst hba; rw [upd_self, if_pos rfl]
        · rw [upd_ne _ _ fun e => hba (congrArg Prod.fst e), if_neg hba, hp_d h hb hb4]
      · rw [upd_ne _ _ fun e => hj (congrArg Prod.snd e)]
        unfold hp
        simp only [show ¬ b < 20 by lia, hb, hb4, if_true, if_false, h, Wd.sg, hj]
    · rw [upd_ne _ _ fun e => by have := congrArg Prod.fst e; simp only at this; lia]
      unfold hp
      simp only [show ¬ b < 20 by lia, hb, hb4, if_false, h, Wd.sg, hn]
theorem upd_comm {H : Hp} {l l' : Loc} {a b : Spec} (h : l ≠ l') : upd (upd H l a) l' b = upd (upd H l' b) l a := by
  funext k
  unfold upd
  by_cases h1 : k = l' <;> by_cases h2 : k = l <;> simp [h1, h2, h]
  · subst h1; exact absurd h2.symm h
  · intro e; exact absurd e.symm h

/-! the objects -/
theorem ob_t {k : Nat} (h : w.tk k = some t) : Ob (hp w) (1, k) (2, k) aTask taskNames (taskAt k) := ⟨by simp, by simp, (hp_t h (by decide)).trans rfl, (hp_t h (by decide)).trans rfl⟩
theorem ob_n (h : w.dd = some σ) (hk : σ.nd k = some d) : Ob (hp w) (40, k) (41, k) aNode nodeNames (nodeAt k d) := ⟨by simp, by simp, (hp_n h hk (by decide)).trans rfl, (hp_n h hk (by decide)).trans rfl⟩
theorem ob_d (h : w.dd = some σ) : Ob (hp w) (30, 0) (31, 0) aDis disNames (disAt σ) := ⟨by simp, by simp, (hp_d h (by decide) (by decide)).trans rfl, (hp_d h (by decide) (by decide)).trans rfl⟩
end
-- M19
theorem fill : PySem.Challenge.rw_ak0004_01 = PySem.Challenge.rw_ak0004_01 ∧ Mine.KH = Mine.KH := by
  k_fill
  exact ⟨rfl, rfl⟩
/-- a def's entry, its parts laid open -/
theorem look_fn {K : Frag} {f : Addr} {oc : Value} {od : Option Addr} {name qual : Str} {a1 a2 : List Arg} {a3 : Option Arg} {a4 : List Arg} {a5 : List (Option Expr)} {a6 : Option Arg} {a7 : List Expr} {st : Stmt} {ss : List Stmt} {s1 : ScopeKind} {s2 : List (Str × NameKind)} {s3 s4 : Bool} {s5 : List (Str × Const)} {dV kV doc pm : Value} {an : Option Addr} {cdv ct : Value} {osl : Array (Option Value)}
    (h : K.lookup f = some ⟨oc, od, .func (fnOf name qual ⟨a1, a2, a3, a4, a5, a6, a7⟩ (st :: ss) ⟨s1, s2, s3, s4, s5⟩ dV kV doc pm an cdv ct), osl⟩) : K.lookup f = some ⟨oc, od, .func (fnOf name qual ⟨a1, a2, a3, a4, a5, a6, a7⟩ (st :: ss) ⟨s1, s2, s3, s4, s5⟩ dV kV doc pm an cdv ct), osl⟩ := h
structure Px where
  prog : Program
  w : World
  hb : Heap
  os : OsState
  p : Program
  loose : List Str
  mg : Str → Option Value
  mb : Str → Option Value
@[reducible] noncomputable def Cx (x : Px) : Ctx := ⟨x.prog, x.w, Mine.KH x.w.params, x.hb, x.os, x.p, x.loose, x.mg, x.mb⟩
noncomputable def ctlNames : List Str := [Str.ofString "tasks", Str.ofString "targets", Str.ofString "_def_order", Str.ofString "selected_tasks"]
/-- a method of an own class -/
noncomputable def MethK (K : Frag) (cl : Addr) (name : Str) (f : Addr) : Prop := plainGet K cl name = true ∧ findIn K (.ref cl) name = some (some (.ref f)) ∧ isFn K (.ref f) = true
section
variable {C : Ctx} {n : Nat} {X : XT} {N T : Hp} {i : Nat} {m : Str → Option PV}
theorem f_methK (O : C.Ok) {l d : Loc} {cl f : Addr} {ks : List Str} {a : Str → Option PV} {name : Str} {Q : Value → List PV → Hp → Prop} (o : Ob N l d cl ks a) (hx : a name = none)
    (hk : MethK C.K cl name f) (h : Q (.ref f) [.loc l] (Fm N T i m)) : JMeth C n X name (.loc l) Q (Fm N T i m) := f_meth O o hx hk.1 hk.2.1 hk.2.2 h
end
theorem kaT (P : Params) : ∀ x ∈ taskNames, attrIn (Mine.KH P) aTask x = true := by
  intro x hx
  simp only [taskNames, List.mem_cons, List.not_mem_nil, or_false] at hx
  rcases hx with rfl | rfl | rfl | rfl | rfl | rfl | rfl | rfl | rfl | rfl | rfl | rfl | rfl | rfl | rfl | rfl | rfl | rfl <;> (refine' attr_k ?a ?b ?c ?d; (case a => k_is); (case b => k_is); (case c => k_is); (case d => k_is))
theorem ksT (P : Params) : ∀ x ∈ taskNames, setIn (Mine.KH P) aTask x = true := by
  intro x hx
  simp only [taskNames, List.mem_cons, List.not_mem_nil, or_false] at hx
  rcases hx with rfl | rfl | rfl | rfl | rfl | rfl | rfl | rfl | rfl | rfl | rfl | rfl | rfl | rfl | rfl | rfl | rfl | rfl <;> (refine' set_k' ?a ?b ?c ?d; (case a => k_is); (case b => k_is); (case c => k_is); (case d => k_is))
theorem kaC (P : Params) : ∀ x ∈ ctlNames, attrIn (Mine.KH P) aCtl x = true := by
  intro x hx
  simp only [ctlNames, List.mem_cons, List.not_mem_nil, or_false] at hx
  rcases hx with rfl | rfl | rfl | rfl <;> (refine' attr_k ?a ?b ?c ?d; (case a => k_is); (case b => k_is); (case c => k_is); (case d => k_is))
theorem ksC (P : Params) : ∀ x ∈ ctlNames, setIn (Mine.KH P) aCtl x = true := by
  intro x hx
  simp only [ctlNames, List.mem_cons, List.not_mem_nil, or_false] at hx
  rcases hx with rfl | rfl | rfl | rfl <;> (refine' set_k' ?a ?b ?c ?d; (case a => k_is); (case b => k_is); (case c => k_is); (case d => k_is))
theorem kaN (P : Params) : ∀ x ∈ nodeNames, attrIn (Mine.KH P) aNode x = true := by
  intro x hx
  simp only [nodeNames, List.mem_cons, List.not_mem_nil, or_false] at hx
  rcases hx with rfl | rfl | rfl | rfl | rfl | rfl | rfl | rfl | rfl | rfl | rfl | rfl <;> (refine' attr_k ?a ?b ?c ?d; (case a => k_is); (case b => k_is); (case c => k_is); (case d => k_is))
theorem ksN (P : Params) : ∀ x ∈ nodeNames, setIn (Mine.KH P) aNode x = true := by
  intro x hx
  simp only [nodeNames, List.mem_cons, List.not_mem_nil, or_false] at hx
  rcases hx with rfl | rfl | rfl | rfl | rfl | rfl | rfl | rfl | rfl | rfl | rfl | rfl <;> (refine' set_k' ?a ?b ?c ?d; (case a => k_is); (case b => k_is); (case c => k_is); (case d => k_is))
theorem kaD (P : Params) : ∀ x ∈ disNames, attrIn (Mine.KH P) aDis x = true := by
  intro x hx
  simp only [disNames, List.mem_cons, List.not_mem_nil, or_false] at hx
  rcases hx with rfl | rfl | rfl | rfl | rfl | rfl | rfl | rfl <;> (refine' attr_k ?a ?b ?c ?d; (case a => k_is); (case b => k_is); (case c => k_is); (case d => k_is))
theorem ksD (P : Params) : ∀ x ∈ disNames, setIn (Mine.KH P) aDis x = true := by
  intro x hx
  simp only [disNames, List.mem_cons, List.not_mem_nil, or_false] at hx
  rcases hx with rfl | rfl | rfl | rfl | rfl | rfl | rfl | rfl <;> (refine' set_k' ?a ?b ?c ?d; (case a => k_is); (case b => k_is); (case c => k_is); (case d => k_is))
theorem mkT (P : Params) : makesIn (Mine.KH P) aTask = true := by k_is
theorem kmT_init (P : Params) : MethK (Mine.KH P) aTask (Str.ofString "__init__") 137 := ⟨by k_is, by k_is, by k_is⟩
theorem kmT_init_deps (P : Params) : MethK (Mine.KH P) aTask (Str.ofString "_init_deps") 144 := ⟨by k_is, by k_is, by k_is⟩
theorem kmT_init_targets (P : Params) : MethK (Mine.KH P) aTask (Str.ofString "_init_targets") 151 := ⟨by k_is, by k_is, by k_is⟩
theorem kmT_init_uptodate (P : Params) : MethK (Mine.KH P) aTask (Str.ofString "_init_uptodate") 158 := ⟨by k_is, by k_is, by k_is⟩
theorem kmT_expand_file_dep (P : Params) : MethK (Mine.KH P) aTask (Str.ofString "_expand_file_dep") 165 := ⟨by k_is, by k_is, by k_is⟩
theorem kmT_expand_task_dep (P : Params) : MethK (Mine.KH P) aTask (Str.ofString "_expand_task_dep") 172 := ⟨by k_is, by k_is, by k_is⟩
theorem mkC (P : Params) : makesIn (Mine.KH P) aCtl = true := by k_is
theorem kmC_init (P : Params) : MethK (Mine.KH P) aCtl (Str.ofString "__init__") 303 := ⟨by k_is, by k_is, by k_is⟩
theorem kmC_check_dep_names (P : Params) : MethK (Mine.KH P) aCtl (Str.ofString "_check_dep_names") 310 := ⟨by k_is, by k_is, by k_is⟩
theorem kmC_process (P : Params) : MethK (Mine.KH P) aCtl (Str.ofString "process") 358 := ⟨by k_is, by k_is, by k_is⟩
theorem kmC_task_dispatcher (P : Params) : MethK (Mine.KH P) aCtl (Str.ofString "task_dispatcher") 365 := ⟨by k_is, by k_is, by k_is⟩
theorem mkN (P : Params) : makesIn (Mine.KH P) aNode = true := by k_is
theorem nbN (P : Params) : findIn (Mine.KH P) (.ref aNode) "__bool__" = some none := by k_is
theorem nlN (P : Params) : findIn (Mine.KH P) (.ref aNode) "__len__" = some none := by k_is
theorem kmN_init (P : Params) : MethK (Mine.KH P) aNode (Str.ofString "__init__") 386 := ⟨by k_is, by k_is, by k_is⟩
theorem kmN_parent_status (P : Params) : MethK (Mine.KH P) aNode (Str.ofString "parent_status") 393 := ⟨by k_is, by k_is, by k_is⟩
theorem mkD (P : Params) : makesIn (Mine.KH P) aDis = true := by k_is
theorem kmD_init (P : Params) : MethK (Mine.KH P) aDis (Str.ofString "__init__") 414 := ⟨by k_is, by k_is, by k_is⟩
theorem kmD_gen_node (P : Params) : MethK (Mine.KH P) aDis (Str.ofString "_gen_node") 421 := ⟨by k_is, by k_is, by k_is⟩
theorem kmD_add_ready (P : Params) : MethK (Mine.KH P) aDis (Str.ofString "_add_ready") 428 := ⟨by k_is, by k_is, by k_is⟩
theorem kmD_node_add_wait_run (P : Params) : MethK (Mine.KH P) aDis (Str.ofString "_node_add_wait_run") 436 := ⟨by k_is, by k_is, by k_is⟩
theorem kmD_add_task (P : Params) : MethK (Mine.KH P) aDis (Str.ofString "_add_task") 443 := ⟨by k_is, by k_is, by k_is⟩
theorem kmD_get_next_node (P : Params) : MethK (Mine.KH P) aDis (Str.ofString "_get_next_node") 450 := ⟨by k_is, by k_is, by k_is⟩
theorem kmD_update_waiting (P : Params) : MethK (Mine.KH P) aDis (Str.ofString "_update_waiting") 457 := ⟨by k_is, by k_is, by k_is⟩
theorem kmD_send (P : Params) : MethK (Mine.KH P) aDis (Str.ofString "send") 471 := ⟨by k_is, by k_is, by k_is⟩
theorem gHoldOn (P : Params) : nsIn (Mine.KH P) mainGlobals (Str.ofString "HoldOn") = some (some (.ref 65)) := by k_is
theorem g_list (P : Params) : nsIn (Mine.KH P) mainGlobals (Str.ofString "list") = some none := by k_is
theorem g_reversed (P : Params) : nsIn (Mine.KH P) mainGlobals (Str.ofString "reversed") = some none := by k_is
theorem bb_list : bootBuiltins "list" = some (.type "list") := by kernel_rfl
theorem bb_set : bootBuiltins "set" = some (.type "set") := by kernel_rfl
theorem bb_str : bootBuiltins "str" = some (.type "str") := by kernel_rfl
theorem bb_range : bootBuiltins "range" = some (.type "range") := by kernel_rfl
theorem bb_len : bootBuiltins "len" = some (.builtin "len") := by kernel_rfl
theorem bb_abs : bootBuiltins "abs" = some (.builtin "abs") := by kernel_rfl
theorem bb_max : bootBuiltins "max" = some (.builtin "max") := by kernel_rfl
theorem bb_sorted : bootBuiltins "sorted" = some (.builtin "sorted") := by kernel_rfl
theorem bb_isinstance : bootBuiltins "isinstance" = some (.builtin "isinstance") := by kernel_rfl
section
variable {A B : Prop}
theorem and1 (h : A) : (true = true → A) ∧ (true = false → B) := ⟨fun _ => h, fun h => (nomatch h)⟩
theorem and2 (h : B) : (false = true → A) ∧ (false = false → B) := ⟨fun h => (nomatch h), fun _ => h⟩
theorem and3 (h : B) : (true = false → A) ∧ (true = true → B) := ⟨fun h => (nomatch h), fun _ => h⟩
theorem and4 (h : A) : (false = false → A) ∧ (false = true → B) := ⟨fun _ => h, fun h => (nomatch h)⟩
theorem ex_bool {P : Bool → Prop} {x : Bool} (h : P x) : ∃ b, PV.bool x = PV.bool b ∧ P b := ⟨x, rfl, h⟩
theorem ex_raw {P : Value → Prop} {x : Value} (h : P x) : ∃ b, PV.raw x = PV.raw b ∧ P b := ⟨x, rfl, h⟩
end
section
variable {px : Px} {F : FC} {n : Nat} {X : XT} {H : Hp}
theorem E_globalK (O : (Cx px).Ok) {x : Str} {pos : Pos} {v : Value} {Q : PV → Hp → Prop} (h : Q (.raw v) H) (e : autoParam (nsIn (Mine.KH px.w.params) mainGlobals x = some (some v)) Au.a13)
    (hk : autoParam (F.scope.kind = .function) Au.a0) (hl : autoParam (F.scope.names.lookup x = some .globalImplicit) Au.a0) (hd : autoParam ((x == ("__debug__" : Str)) = false) Au.a1) : JE (Cx px) F n X (.Name x pos) Q H := E_global O e h hk hl hd
theorem E_builtinK (O : (Cx px).Ok) {x : Str} {pos : Pos} {v : Value} {Q : PV → Hp → Prop} (hv : bootBuiltins x = some v) (h : Q (.raw v) H) (e : autoParam (nsIn (Mine.KH px.w.params) mainGlobals x = some none) Au.a13) (hn : autoParam (x ≠ "__name__") Au.a1)
    (hk : autoParam (F.scope.kind = .function) Au.a0) (hl : autoParam (F.scope.names.lookup x = some .globalImplicit) Au.a0) (hd : autoParam ((x == ("__debug__" : Str)) = false) Au.a1) : JE (Cx px) F n X (.Name x pos) Q H := E_builtin O e hv h hn hk hl hd
theorem CW_KK (O : (Cx px).Ok) {f : Value} {first : List PV} {e : Expr} {es : List Expr} {Q : PV → Hp → Prop} (h : JArgs (Cx px) F n X (e :: es) (fun ps H₁ => JCall (Cx px) n X f (first ++ ps) [] [] Q H₁) H) (hk : autoParam (keepIn (Mine.KH px.w.params) f = true) Au.a13)
    (he : autoParam (pl2 e = true) Au.a2) (hp : autoParam (pl2s es = true) Au.a2) : JCW (Cx px) F n X f first (e :: es) [] Q H := CW_K O hk h he hp
theorem CW_K0K (O : (Cx px).Ok) {f : Value} {first : List PV} {Q : PV → Hp → Prop} (h : JCall (Cx px) n X f first [] [] Q H) (hk : autoParam (keepIn (Mine.KH px.w.params) f = true) Au.a13) : JCW (Cx px) F n X f first [] [] Q H := CW_K0 O hk h
end
-- M20
local macro_rules | `(tactic| walk_at "mj") => do
  let a := #[`S_cons, `Seq_next, `A_cons, `A_nil, `S_nil, `f_st].map Lean.mkIdent
  let b := #[`E_attr, `X_if, `B_cmp, `X_attr, `E_int, `E_none, `X_assign, `B_value, `E_bin, `E_list, `ex_raw, `E_call, `CW_B, `and2, `X_expr, `Seq_ret, `X_ret, `ex_bool, `E_str, `and1, `All_and, `B_bool, `E_sub, `CW_T, `All_or, `E_dict0, `E_cmp, `B_not, `X_sub, `E_tup, `E_ifexp, `E_or2, `E_bool, `All_or_nil, `and4, `and3, `K_cons, `K_nil, `CW_B0, `CW_T0, `X_ret0, `X_cont, `X_break, `Seq_cont, `Seq_brk, `ForQ_brk, `ForQ_ret, `E_and2, `All_and_nil, `X_del, `X_assert].map Lean.mkIdent
  let c := #[`EndQ_intro, `ForQ_next, `ForQ_cont, `EndE_intro].map Lean.mkIdent
  let d := #[`bb_list, `bb_set, `bb_str, `bb_range, `bb_len, `bb_abs, `bb_max, `bb_sorted, `bb_isinstance].map Lean.mkIdent
  `(tactic| first
  | (with_reducible first $[| refine $a:ident ?_]*)
  | ((with_reducible show JE _ _ _ _ (Expr.Name _ _) _ _); (first | refine f_loc rfl ?_ | refine E_globalK (by assumption) ?_ | refine E_builtinK (by assumption) (by with_reducible first $[| exact $d:ident]*) ?_))
  | (with_reducible first | refine E_slice (k := none) ?_ up_none | refine E_slice (k := some 2) ?_ (up_int (k := 2)) $[| refine $b:ident ?_]* $[| refine $c:ident (by assumption) ?_]* | refine E_meth _ ?_)
  | ((with_reducible show ∀ I : (_ → _), _); (intro I hI))
  | ((with_reducible show JCW _ _ _ _ (Value.ref _) _ _ [] _ _); (first | refine CW_KK (by assumption) ?_ | refine CW_K0K (by assumption) ?_)))
section
variable {px : Px}
variable {n : Nat} {X : XT} {w : Wd} {σ : Sg} {H : Hp}
theorem DenL.inv4 {c : Cf} {p q r s : PV} {vs : List Value} (h : DenL c [p, q, r, s] vs) : ∃ u v w z, vs = [u, v, w, z] ∧ Den c p u ∧ Den c q v ∧ Den c r w ∧ Den c s z := by
  cases h with
  | cons d r => obtain ⟨v, w, z, rfl, d', d'', d3⟩ := r.inv3; exact ⟨_, _, _, _, rfl, d, d', d'', d3⟩
theorem run_handed (b : Bool) : (if b = true then PV.str (Str.ofString "successful") else PV.none).handed = true := by cases b <;> rfl
theorem c_parent_status (O : (Cx px).Ok) {k j : Nat} {dk dj : Nd} (hd : w.dd = some σ) (hk : σ.nd k = some dk) (hj : σ.nd j = some dj) (hN : ∀ l : Loc, l.1 ≠ 0 → H l = hp w l) :
    JCode (Cx px) (n + 1) X (.ref 393) [.loc (40, k), .loc (40, j)] [] [] (fun p H' => ∃ N', H' = ov N' H ∧ (p = .none ∧ N' = hp w)) H := by
  refine' con_fn O [(Str.ofString "self", .loc (40, k)), (Str.ofString "parent_node", .loc (40, j))] ?ho ?hcd ?hbind ?hloc hN ?h ?hcell ?hco ?hgen ?hk
  case ho => refine' look_fn ?g; case g => show List.lookup _ (Mine.KH _) = _; k_is
  case hcd => show codeIn (Mine.KH _) _ _ = true; k_is
  case hbind =>
    intro c s vs us _ d d'
    obtain ⟨u0, u1, rfl, d0, d1⟩ := d.inv2
    have := d'.inv0; subst this
    exact ⟨_, BindsTo.of_eq rfl, .cons d0 (.cons d1 (.nil))⟩
  case hloc => rfl
  case hcell => decide
  case hco => rfl
  case hgen => rfl
  case hk => rfl
  case h =>
    intro i hi QI hQI
    iterate 5 walk_at "mj"
    refine f_get O (ob_n hd hj) rfl (kaN _ _ (by decide)) ?_ (run_handed _)
    iterate 1 walk_at "mj"
    cases hb : dj.ok
    · refine op_eqNS ?_
      iterate 7 walk_at "mj"
      refine f_get O (ob_n hd hj) rfl (kaN _ _ (by decide)) ?_ (run_handed _)
      iterate 1 walk_at "mj"
      rw [hb]
      refine op_eqNS ?_
      iterate 8 walk_at "mj"
      exact ⟨_, _, _, rfl, fun _ _ e => e, rfl, rfl⟩
    · refine op_eqS ?_
      iterate 1 walk_at "mj"
      refine ⟨fun h => absurd h (by decide), fun _ => ?_⟩
      iterate 5 walk_at "mj"
      refine f_get O (ob_n hd hj) rfl (kaN _ _ (by decide)) ?_ (run_handed _)
      iterate 1 walk_at "mj"
      rw [hb]
      refine op_eqS ?_
      iterate 1 walk_at "mj"
      refine ⟨fun h => absurd h (by decide), fun _ => ?_⟩
      iterate 6 walk_at "mj"
      exact ⟨_, _, _, rfl, fun _ _ e => e, rfl, rfl⟩
end
-- M21
/-! an object in the making: its dict lies on top -/
section
variable {C : Ctx} {F : FC} {n : Nat} {X : XT} {N N1 T : Hp} {i : Nat} {m : Str → Option PV} {Q : PV → Hp → Prop} {l d l' : Loc} {cl : Addr} {ks : List Str} {a : Str → Option PV}
theorem ob_b (hl : N1 l = some (.inst cl d)) (h1 : autoParam (l.1 ≠ 0) Au.a11) (h2 : autoParam (d.1 ≠ 0) Au.a11) (h3 : autoParam (l ≠ d) Au.a12) : Ob (upd N1 d (.attrs ks a)) l d cl ks a := ⟨h1, h2, (upd_ne _ _ h3).trans hl, upd_self ..⟩
theorem b_set (O : C.Ok) {name : Str} {p : PV} {Q : Hp → Prop} (hl : N1 l = some (.inst cl d)) (hk : setIn C.K cl name = true) (hm : name ∈ ks)
    (h : Q (Fm (upd N1 d (.attrs ks (sto a name p))) T i m)) (h1 : autoParam (l.1 ≠ 0) Au.a11) (h2 : autoParam (d.1 ≠ 0) Au.a11) (h3 : autoParam (l ≠ d) Au.a12) : J2U C n X (fun u v => setAttr u name v) (.loc l) p Q (Fm (upd N1 d (.attrs ks a)) T i m) := by
  refine f_set O (ob_b hl h1 h2 h3) hk hm ?_
  rw [upd_upd]; exact h
theorem b_nm (l' : Loc) {sp : Spec} (h : Q (.loc l') (Fm (upd (upd N1 l' sp) d (.attrs ks a)) T i m)) (hn : N1 l' = none) (h0 : autoParam (l'.1 ≠ 0) Au.a11) (h1 : autoParam (l' ≠ d) Au.a12) : Alloc sp Q (Fm (upd N1 d (.attrs ks a)) T i m) := by
  refine al_nm l' h0 ((upd_ne _ _ h1).trans hn) ?_
  rw [upd_comm (Ne.symm h1)]; exact h
theorem b_mod {sp : Spec} {A : Spec} (h0 : autoParam (l'.1 ≠ 0) Au.a11) (h1 : autoParam (l' ≠ d) Au.a12) : upd (Fm (upd N1 d A) T i m) l' sp = Fm (upd (upd N1 l' sp) d A) T i m := by
  rw [Fm_mod h0, upd_comm (Ne.symm h1)]
theorem b_at {sp : Spec} {A : Spec} (e : N1 l' = some sp) (h0 : autoParam (l'.1 ≠ 0) Au.a11) (h1 : autoParam (l' ≠ d) Au.a12) : Fm (upd N1 d A) T i m l' = some sp := Fm_get h0 ((upd_ne _ _ h1).trans e)
end
section
variable {w : Wd} {σ : Sg} {k : Nat} {d : Nd}
theorem upd_new {d : Nd} : ∀ {U : List (Nat × Spec)}, w.dd = some σ → σ.nd k = none → (∀ b, ¬ b < 40 → hpN w.tk k d b = U.lookup b) → (∀ x ∈ U, ¬ x.1 < 40) → U.foldr (fun x H => upd H (x.1, k) x.2) (hp w) = hp (w.sg (σ.set k d)) := by
  intro U h hk hU hlt
  have gen : ∀ (U : List (Nat × Spec)), (∀ x ∈ U, ¬ x.1 < 40) → ∀ l : Loc, U.foldr (fun x H => upd H (x.1, k) x.2) (hp w) l = if l.2 = k ∧ ¬ l.1 < 40 then (match U.lookup l.1 with | some s => some s | none => hp w l) else hp w l := by
    intro U
    induction U with
    | nil => intro _ l; simp
    | cons x U ih =>
      intro hx l
      obtain ⟨a, s⟩ := x
      obtain ⟨b, j⟩ := l
      rw [List.foldr_cons]
      by_cases e : (b, j) = ((a, k) : Loc)
      · have hx1 := hx (a, s) (.head _)
        obtain ⟨e1, e2⟩ := Prod.mk.inj e
        rw [e1, e2, upd_self, if_pos ⟨rfl, hx1⟩]
        simp [List.lookup_cons]
      · rw [upd_ne _ _ e, ih (fun y hy => hx y (.tail _ hy))]
        by_cases hc : j = k ∧ ¬ b < 40
        · rw [if_pos hc, if_pos hc]
          have : (b == a) = false := beq_eq_false_iff_ne.mpr fun z => e (by rw [z, hc.1])
          simp [List.lookup_cons, this]
        · rw [if_neg hc, if_neg hc]
  funext l
  rw [gen U hlt]
  obtain ⟨b, j⟩ := l
  by_cases hb : b < 40
  · rw [if_neg fun q => q.2 hb]
    unfold hp
    by_cases h20 : b < 20
    · simp only [h20, if_true]; rfl
    · by_cases h30 : b < 30
      · simp only [h20, h30, if_true, if_false]; rfl
      · simp only [h20, h30, hb, if_true, if_false, h, Wd.sg]
        by_cases hj : j = 0
        · simp only [hj, if_true]
          unfold hpD disAt Sg.set; rfl
        · simp only [hj, if_false]
  · have e2 : hp (w.sg (σ.set k d)) (b, j) = (match (σ.set k d).nd j with | some d => hpN w.tk j d b | none => none) := by
      unfold hp; simp only [show ¬ b < 20 by omega, show ¬ b < 30 by omega, hb, if_false, Wd.sg] <;> rfl
    rw [e2]
    by_cases hj : j = k
    · subst hj
      rw [if_pos ⟨rfl, hb⟩, Sg.set_self]
      show _ = hpN w.tk j d b
      rw [hU b hb, hp_n0 h hk hb]
      cases U.lookup b <;> rfl
    · rw [if_neg fun q => hj q.1, Sg.set_ne hj]
      unfold hp
      simp only [show ¬ b < 20 by omega, show ¬ b < 30 by omega, hb, if_false, h] <;> rfl
end
-- M22
section
variable {px : Px}
variable {n : Nat} {X : XT} {w : Wd} {σ : Sg} {H : Hp}

theorem ty_list_append : typeOf (.builtin "list.append") = pure (.type "method_descriptor") := by show builtinType _ = _; rw [builtinType_eq_fast]; kernel_rfl
theorem ty_list_extend : typeOf (.builtin "list.extend") = pure (.type "method_descriptor") := by show builtinType _ = _; rw [builtinType_eq_fast]; kernel_rfl
theorem ty_list_pop : typeOf (.builtin "list.pop") = pure (.type "method_descriptor") := by show builtinType _ = _; rw [builtinType_eq_fast]; kernel_rfl
theorem ty_list_count : typeOf (.builtin "list.count") = pure (.type "method_descriptor") := by show builtinType _ = _; rw [builtinType_eq_fast]; kernel_rfl
theorem ty_dict_get : typeOf (.builtin "dict.get") = pure (.type "method_descriptor") := by show builtinType _ = _; rw [builtinType_eq_fast]; kernel_rfl
theorem ty_dict_values : typeOf (.builtin "dict.values") = pure (.type "method_descriptor") := by show builtinType _ = _; rw [builtinType_eq_fast]; kernel_rfl
theorem ty_set_update : typeOf (.builtin "set.update") = pure (.type "method_descriptor") := by show builtinType _ = _; rw [builtinType_eq_fast]; kernel_rfl
theorem ty_set_remove : typeOf (.builtin "set.remove") = pure (.type "method_descriptor") := by show builtinType _ = _; rw [builtinType_eq_fast]; kernel_rfl
noncomputable def parPV : Option (Nat × Nd) → PV
  | none => .none
  | some x => .loc (40, x.1)
theorem node_new_ok {tk : Nat → Option TS} {k : Nat} {ts : TS} {anc : List Nat} (ht : tk k = some ts) : ∀ b, ¬ b < 40 → hpN tk k ⟨0, anc, [], [], false, false⟩ b = List.lookup b [(41, Spec.attrs nodeNames (nodeAt k ⟨0, anc, [], [], false, false⟩)), (49, .list []), (48, .list []), (47, .dict []), (46, .set []), (45, .set []), (44, .list (sL nm anc)), (43, .list []), (42, .list (sL nm ts.td)), (40, .inst aNode (41, k))] := by
  intro b hb
  rcases Nat.lt_or_ge b 54 with h | h
  · revert hb
    revert h
    revert b
    iterate 14 refine lt_step ?_ (fun _ => by first | rfl | (show some (Spec.list (sL nm ((tk k).elim [] (·.td)))) = _; rw [ht]; rfl))
    exact fun b h h' => absurd h h'
  · rw [hpN_none h, look_far (m := 54) h rfl]
theorem mp1 {G P : Prop} (h1 : G → P) (h2 : G) : P := h1 h2
/-- a new node -/
theorem c_node_init (O : (Cx px).Ok) {k : Nat} {ts : TS} {par : Option (Nat × Nd)} (hd : w.dd = some σ) (hk : σ.nd k = none) (ht : w.tk k = some ts) (hz : ts.td.length ≤ 1000)
    (hp_ : ∀ x, par = some x → σ.nd x.1 = some x.2 ∧ x.2.anc.length ≤ 1000)
    (hN : ∀ l : Loc, l.1 ≠ 0 → H l = upd (upd (hp w) (41, k) (.attrs nodeNames fun _ => none)) (40, k) (.inst aNode (41, k)) l) :
    JCode (Cx px) (n + 1) X (.ref 386) [.loc (40, k), .loc (1, k), parPV par] [] [] (fun p H' => ∃ N', H' = ov N' H ∧ (p = .none ∧ N' = hp (w.sg (σ.set k ⟨0, (par.elim [] fun x => x.2.anc) ++ [k], [], [], false, false⟩)))) H := by
  rw [upd_comm (by simp)] at hN
  refine' con_fn O [(Str.ofString "self", .loc (40, k)), (Str.ofString "task", .loc (1, k)), (Str.ofString "parent", parPV par)] ?ho ?hcd ?hbind ?hloc hN ?h ?hcell ?hco ?hgen ?hk
  case ho => refine' look_fn ?g; case g => show List.lookup _ (Mine.KH _) = _; k_is
  case hcd => show codeIn (Mine.KH _) _ _ = true; k_is
  case hbind =>
    intro c s vs us _ d d'
    obtain ⟨u0, u1, u2, rfl, d0, d1, d2⟩ := d.inv3
    have := d'.inv0; subst this
    exact ⟨_, BindsTo.of_eq rfl, .cons d0 (.cons d1 (.cons d2 (.nil)))⟩
  case hloc => rfl
  case hcell => decide
  case hco => rfl
  case hgen => rfl
  case hk => rfl
  case h =>
    intro i hi QI hQI
    have hI : upd (hp w) (40, k) (.inst aNode (41, k)) (40, k) = some (.inst aNode (41, k)) := upd_self ..
    iterate 4 walk_at "mj"
    refine b_set O (by exact hI) (ksN _ _ (by decide)) (by decide) ?_
    have oT : ∀ {N1 : Hp} {d : Loc} {A : Spec}, N1 (1, k) = some (.inst aTask (2, k)) → N1 (2, k) = some (.attrs taskNames (taskAt k)) → d.1 = 41 → Ob (upd N1 d A) (1, k) (2, k) aTask taskNames (taskAt k) := fun h1 h2 h3 => ⟨by simp, by simp, (upd_ne _ _ fun e => by rw [← e] at h3; cases h3).trans h1, (upd_ne _ _ fun e => by rw [← e] at h3; cases h3).trans h2⟩
    have t1 : hp w (1, k) = some (.inst aTask (2, k)) := (hp_t ht (by decide)).trans rfl
    have t2 : hp w (2, k) = some (.attrs taskNames (taskAt k)) := (hp_t ht (by decide)).trans rfl
    have t3 : hp w (3, k) = some (.list (sL nm ts.td)) := (hp_t ht (by decide)).trans rfl
    have t4 : hp w (4, k) = some (.list []) := (hp_t ht (by decide)).trans rfl
    have nn : ∀ a, ¬ a < 40 → hp w (a, k) = none := fun a ha => hp_n0 hd hk ha
    iterate 6 walk_at "mj"
    refine f_get O (oT (by first | exact t1 | exact t1 _ (by decide) | exact t1 _ (by decide) (by decide) | simp [upd, t1]) (by first | exact t2 | exact t2 _ (by decide) | exact t2 _ (by decide) (by decide) | simp [upd, t2]) rfl) rfl (kaT _ _ (by decide)) ?_
    refine ⟨sL nm ts.td, isListOf_loc (b_at (by first | exact t3 | exact t3 _ (by decide) | exact t3 _ (by decide) (by decide) | simp [upd, t3])), by simp [sL]; lia, ?_⟩
    refine b_nm (42, k) ?_ (by first | exact nn | exact nn _ (by decide) | exact nn _ (by decide) (by decide) | simp [upd, nn])
    iterate 1 walk_at "mj"
    refine b_set O (by exact hI) (ksN _ _ (by decide)) (by decide) ?_
    iterate 6 walk_at "mj"
    refine f_get O (oT (by first | exact t1 | exact t1 _ (by decide) | exact t1 _ (by decide) (by decide) | simp [upd, t1]) (by first | exact t2 | exact t2 _ (by decide) | exact t2 _ (by decide) (by decide) | simp [upd, t2]) rfl) rfl (kaT _ _ (by decide)) ?_
    refine ⟨[], isListOf_loc (b_at (by first | exact t4 | exact t4 _ (by decide) | exact t4 _ (by decide) (by decide) | simp [upd, t4])), by simp, ?_⟩
    refine b_nm (43, k) ?_ (by first | exact nn | exact nn _ (by decide) | exact nn _ (by decide) (by decide) | simp [upd, nn])
    iterate 1 walk_at "mj"
    refine b_set O (by exact hI) (ksN _ _ (by decide)) (by decide) ?_
    iterate 5 walk_at "mj"
    refine ⟨by first | exact Nat.zero_le _ | simp, ?_⟩
    refine b_nm (44, k) ?_ (by first | exact nn | exact nn _ (by decide) | exact nn _ (by decide) (by decide) | simp [upd, nn])
    iterate 1 walk_at "mj"
    refine b_set O (by exact hI) (ksN _ _ (by decide)) (by decide) ?_
    iterate 5 walk_at "mj"
    obtain ⟨anc, hanc⟩ : ∃ anc : List Nat, (par.elim [] fun x => x.2.anc) = anc := ⟨_, rfl⟩
    have hza : anc.length ≤ 1000 := by
      rw [← hanc]
      cases par with
      | none => exact Nat.zero_le _
      | some x => exact (hp_ x rfl).2
    refine mp1 (G := J1 (Cx px) _ XF _ (.loc (40, k)) _ (Fm (upd (upd _ (44, k) (.list (sL nm anc))) (41, k) (.attrs nodeNames _)) H i _)) (fun g => by
      rcases hpar : par with _ | ⟨j, dj⟩
      · refine t_none ?_
        iterate 8 walk_at "mj"
        have e : anc = [] := by rw [← hanc, hpar]; rfl
        rw [e] at g
        rw [show parPV none = parPV par by rw [hpar]]
        exact g
      obtain ⟨hj, hzj⟩ := hp_ _ hpar
      have hj : σ.nd j = some dj := hj
      have hzj : dj.anc.length ≤ 1000 := hzj
      have hne : j ≠ k := fun e => by rw [e, hk] at hj; cases hj
      have j1 : hp w (40, j) = some (.inst aNode (41, j)) := (hp_n hd hj (by decide)).trans rfl
      have j2 : hp w (41, j) = some (.attrs nodeNames (nodeAt j dj)) := (hp_n hd hj (by decide)).trans rfl
      have j3 : hp w (44, j) = some (.list (sL nm dj.anc)) := (hp_n hd hj (by decide)).trans rfl
      refine t_inst O (l := (40, j)) (cl := aNode) (d := (41, j)) (ks := nodeNames) (m := nodeAt j dj) (b_at (by simp [upd, hne, j1]) (by simp) (by simp)) (b_at (by simp [upd, hne, j2]) (by simp) (by simp [hne])) (nbN _) (nlN _) ?_
      iterate 6 walk_at "mj"
      refine f_get O (ob_b (by exact hI)) rfl (kaN _ _ (by decide)) ?_
      refine m_list (vs := []) (b_at (upd_self ..)) F.slot_list_extend ty_list_extend ?_
      iterate 4 walk_at "mj"
      refine f_get O (⟨by simp, by simp, by simp [upd, hne, j1], by simp [upd, hne, j2]⟩ : Ob _ (40, j) (41, j) aNode nodeNames (nodeAt j dj)) rfl (kaN _ _ (by decide)) ?_
      iterate 1 walk_at "mj"
      refine c_extend (vs := []) (ws := sL nm dj.anc) (b_at (upd_self ..)) (b_at (by simp [upd, hne, j3])) (by simp [sL]; lia) ?_
      rw [b_mod, upd_upd]
      iterate 8 walk_at "mj"
      have e : anc = dj.anc := by rw [← hanc, hpar]; rfl
      rw [e] at g
      rw [List.nil_append, show parPV (some (j, dj)) = parPV par by rw [hpar]]
      exact g) ?_
    refine f_get O (ob_b (by exact hI)) rfl (kaN _ _ (by decide)) ?_
    refine m_list (b_at (upd_self ..)) F.slot_list_append ty_list_append ?_
    iterate 4 walk_at "mj"
    refine f_get O (oT (by first | exact t1 | exact t1 _ (by decide) | exact t1 _ (by decide) (by decide) | simp [upd, t1]) (by first | exact t2 | exact t2 _ (by decide) | exact t2 _ (by decide) (by decide) | simp [upd, t2]) rfl) rfl (kaT _ _ (by decide)) ?_
    iterate 1 walk_at "mj"
    refine c_append (b_at (upd_self ..)) (by first | (simp [sL]; lia) | simp) ?_
    rw [b_mod, upd_upd]
    iterate 5 walk_at "mj"
    refine b_set O (by exact hI) (ksN _ _ (by decide)) (by decide) ?_
    iterate 7 walk_at "mj"
    refine c_set0 ?_
    refine b_nm (45, k) ?_ (by first | exact nn | exact nn _ (by decide) | exact nn _ (by decide) (by decide) | simp [upd, nn])
    iterate 1 walk_at "mj"
    refine b_set O (by exact hI) (ksN _ _ (by decide)) (by decide) ?_
    iterate 7 walk_at "mj"
    refine c_set0 ?_
    refine b_nm (46, k) ?_ (by first | exact nn | exact nn _ (by decide) | exact nn _ (by decide) (by decide) | simp [upd, nn])
    iterate 1 walk_at "mj"
    refine b_set O (by exact hI) (ksN _ _ (by decide)) (by decide) ?_
    iterate 4 walk_at "mj"
    refine b_nm (47, k) ?_ (by first | exact nn | exact nn _ (by decide) | exact nn _ (by decide) (by decide) | simp [upd, nn])
    iterate 1 walk_at "mj"
    refine b_set O (by exact hI) (ksN _ _ (by decide)) (by decide) ?_
    iterate 5 walk_at "mj"
    refine b_set O (by exact hI) (ksN _ _ (by decide)) (by decide) ?_
    iterate 5 walk_at "mj"
    refine ⟨by first | exact Nat.zero_le _ | simp, ?_⟩
    refine b_nm (48, k) ?_ (by first | exact nn | exact nn _ (by decide) | exact nn _ (by decide) (by decide) | simp [upd, nn])
    iterate 1 walk_at "mj"
    refine b_set O (by exact hI) (ksN _ _ (by decide)) (by decide) ?_
    iterate 5 walk_at "mj"
    refine ⟨by first | exact Nat.zero_le _ | simp, ?_⟩
    refine b_nm (49, k) ?_ (by first | exact nn | exact nn _ (by decide) | exact nn _ (by decide) (by decide) | simp [upd, nn])
    iterate 1 walk_at "mj"
    refine b_set O (by exact hI) (ksN _ _ (by decide)) (by decide) ?_
    iterate 5 walk_at "mj"
    refine b_set O (by exact hI) (ksN _ _ (by decide)) (by decide) ?_
    iterate 3 walk_at "mj"
    refine ⟨_, _, _, rfl, fun _ _ e => e, rfl, ?_⟩
    rw [hanc]
    have e44 : sL nm (anc ++ [k]) = sL nm anc ++ [PV.str (nm k)] := by simp [sL]
    have := upd_new (U := [(41, .attrs nodeNames (nodeAt k ⟨0, anc ++ [k], [], [], false, false⟩)), (49, .list []), (48, .list []), (47, .dict []), (46, .set []), (45, .set []), (44, .list (sL nm (anc ++ [k]))), (43, .list []), (42, .list (sL nm ts.td)), (40, .inst aNode (41, k))]) hd hk (node_new_ok ht) (by simp)
    rw [e44] at this
    exact this
end
-- M23
theorem nm_inj0 : ∀ j, j < 21 → ∀ k, k < 21 → nm j = nm k → j = k := by decide +kernel
theorem nm_inj {j k : Nat} (hj : j < 21) (hk : k < 21) (e : nm j = nm k) : j = k := nm_inj0 j hj k hk e
theorem dget_nodeD {l : List Nat} {k : Nat} (hl : ∀ j ∈ l, j < 21) (hk : k < 21) : dget (nodeD l) (nm k) = if k ∈ l then some (.loc (40, k)) else none := by
  induction l with
  | nil => rfl
  | cons j r ih =>
    have ih := ih fun x hx => hl x (.tail _ hx)
    unfold nodeD dget at ih ⊢
    rw [List.map_cons, List.find?_cons]
    by_cases e : j = k
    · subst e; simp
    · have : decide (nm j = nm k) = false := decide_eq_false fun q => e (nm_inj (hl j (.head _)) hk q)
      simp only [this]
      rw [ih]
      have e' : k ≠ j := fun q => e q.symm
      simp [e']
theorem any_nodeD {l : List Nat} {k : Nat} (hl : ∀ j ∈ l, j < 21) (hk : k < 21) : (nodeD l).any (fun kv => decide (kv.1 = nm k)) = decide (k ∈ l) := by
  rw [Bool.eq_iff_iff, List.any_eq_true, decide_eq_true_iff]
  constructor
  · rintro ⟨kv, hm, e⟩
    obtain ⟨j, hj, rfl⟩ := List.mem_map.mp hm
    exact nm_inj (hl j hj) hk (of_decide_eq_true e) ▸ hj
  · intro h
    exact ⟨_, List.mem_map_of_mem h, decide_eq_true rfl⟩
theorem dput_nodeD_new {l : List Nat} {k : Nat} (hl : ∀ j ∈ l, j < 21) (hk : k < 21) (h : k ∉ l) : dput (nodeD l) (nm k) (.loc (40, k)) = nodeD (l ++ [k]) := by
  unfold dput
  rw [any_nodeD hl hk, decide_eq_false h]
  simp [nodeD]
theorem dput_nodeD_old {l : List Nat} {k : Nat} (hl : ∀ j ∈ l, j < 21) (hk : k < 21) (h : k ∈ l) : dput (nodeD l) (nm k) (.loc (40, k)) = nodeD l := by
  unfold dput
  rw [any_nodeD hl hk, decide_eq_true h, if_pos rfl]
  unfold nodeD
  rw [List.map_map]
  refine List.map_congr_left fun j hj => ?_
  dsimp only [Function.comp]
  split
  · rename_i e; have := nm_inj (hl j hj) hk e; subst this; rfl
  · rfl
theorem ddel_nodeD {l : List Nat} {k : Nat} (hl : ∀ j ∈ l, j < 21) (hk : k < 21) : ddel (nodeD l) (nm k) = nodeD (l.filter fun j => j ≠ k) := by
  unfold ddel nodeD
  rw [List.filter_map]
  congr 1
  refine List.filter_congr fun j hj => ?_
  dsimp only [Function.comp]
  by_cases e : j = k
  · subst e; simp
  · have : nm j ≠ nm k := fun q => e (nm_inj (hl j hj) hk q)
    simp [e, this]
theorem inside_sL {l : List Nat} {k : Nat} (hl : ∀ j ∈ l, j < 21) (hk : k < 21) : inside (.str (nm k)) (sL nm l) = decide (k ∈ l) := by
  unfold inside sL
  rw [Bool.eq_iff_iff, decide_eq_true_iff]
  simp only [List.any_map, List.any_eq_true, Function.comp, eqv_str]
  constructor
  · rintro ⟨j, hj, e⟩
    have e : nm j = nm k := by simpa using e
    exact nm_inj (hl j hj) hk e ▸ hj
  · intro h; exact ⟨k, h, by simp⟩
theorem eqv_sL {l : List Nat} {k : Nat} {f : Nat → Str} : ∀ q ∈ sL f l, (q.eqv (.str (nm k))).isSome = true := by
  intro q hq
  obtain ⟨j, _, rfl⟩ := List.mem_map.mp hq
  rfl
theorem mem_nm {l : List Nat} {k : Nat} (hl : ∀ j ∈ l, j < 21) (hk : k < 21) : nm k ∈ l.map nm ↔ k ∈ l := by
  rw [List.mem_map]
  exact ⟨fun ⟨j, hj, e⟩ => nm_inj (hl j hj) hk e ▸ hj, fun h => ⟨k, h, rfl⟩⟩

theorem len21 : ∀ (b : Nat) (l : List Nat), l.Nodup → (∀ j ∈ l, j < b) → l.length ≤ b
  | 0, l, _, h => by cases l with
    | nil => exact Nat.le_refl _
    | cons x r => exact absurd (h x (.head _)) (Nat.not_lt_zero _)
  | b + 1, l, hn, h => by
    have h1 := len21 b (l.erase b) (hn.erase b) fun j hj => by
      have := h j (List.mem_of_mem_erase hj)
      have hne : j ≠ b := fun e => by rw [e] at hj; exact (List.Nodup.mem_erase_iff hn).mp hj |>.1 rfl
      lia
    by_cases hb : b ∈ l
    · rw [List.length_erase_of_mem hb] at h1; lia
    · rw [List.erase_of_not_mem hb] at h1; lia
/-- a state of the dispatcher in bounds -/
structure SW (σ : Sg) : Prop where
  mem : ∀ k, k ∈ σ.ord ↔ ∃ d, σ.nd k = some d
  lt : ∀ k ∈ σ.ord, k < 21
  ordN : σ.ord.Nodup
  wtl : ∀ k ∈ σ.wt, ∃ d, σ.nd k = some d
  wtN : σ.wt.Nodup
  rdl : ∀ k ∈ σ.rd, ∃ d, σ.nd k = some d
  rdN : σ.rd.Nodup
  disj : ∀ k ∈ σ.rd, k ∉ σ.wt
  trl : ∀ k ∈ σ.tr, k < 21
  trN : σ.tr.Nodup
  anc : ∀ k d, σ.nd k = some d → (∀ j ∈ d.anc, j < 21) ∧ d.anc.Nodup
  wr : ∀ k d, σ.nd k = some d → (∀ j ∈ d.wr, j < 21) ∧ d.wr.Nodup
  wm : ∀ k d, σ.nd k = some d → (∀ j ∈ d.wm, ∃ d', σ.nd j = some d') ∧ d.wm.Nodup
theorem SW.ltn {σ : Sg} (s : SW σ) {k : Nat} {d : Nd} (h : σ.nd k = some d) : k < 21 := s.lt k ((s.mem k).mpr ⟨d, h⟩)
theorem SW.ltc {σ : Sg} (s : SW σ) {k : Nat} (h : ∃ d, σ.nd k = some d) : k < 21 := s.ltn h.choose_spec
theorem SW.ordn {σ : Sg} (s : SW σ) : σ.ord.length ≤ 100 := by have := len21 21 _ s.ordN s.lt; lia
theorem SW.rdn {σ : Sg} (s : SW σ) : σ.rd.length ≤ 100 := by have := len21 21 _ s.rdN fun j hj => s.ltc (s.rdl j hj); lia
theorem SW.wtn {σ : Sg} (s : SW σ) : σ.wt.length ≤ 100 := by have := len21 21 _ s.wtN fun j hj => s.ltc (s.wtl j hj); lia
theorem SW.ancz {σ : Sg} (s : SW σ) {k : Nat} {d : Nd} (h : σ.nd k = some d) : d.anc.length ≤ 100 := by have := len21 21 _ (s.anc k d h).2 (s.anc k d h).1; lia
theorem SW.wrz {σ : Sg} (s : SW σ) {k : Nat} {d : Nd} (h : σ.nd k = some d) : d.wr.length ≤ 100 := by have := len21 21 _ (s.wr k d h).2 (s.wr k d h).1; lia
theorem SW.wmz {σ : Sg} (s : SW σ) {k : Nat} {d : Nd} (h : σ.nd k = some d) : d.wm.length ≤ 100 := by have := len21 21 _ (s.wm k d h).2 fun j hj => s.ltc ((s.wm k d h).1 j hj); lia
noncomputable def freshNd (par : Option (Nat × Nd)) (k : Nat) : Nd := ⟨0, (par.elim [] fun x => x.2.anc) ++ [k], [], [], false, false⟩
/-- _gen_node: the new state -/
noncomputable def gen (σ : Sg) (par : Option (Nat × Nd)) (k : Nat) : Sg := match σ.nd k with
  | some _ => σ
  | none => { σ.set k (freshNd par k) with ord := σ.ord ++ [k] }
/-- a node's record turned -/
theorem SW.set {σ : Sg} (s : SW σ) {k : Nat} {d d' : Nd} (hk : σ.nd k = some d) (ha : (∀ j ∈ d'.anc, j < 21) ∧ d'.anc.Nodup) (hr : (∀ j ∈ d'.wr, j < 21) ∧ d'.wr.Nodup) (hm : (∀ j ∈ d'.wm, ∃ d', σ.nd j = some d') ∧ d'.wm.Nodup) : SW (σ.set k d') := by
  have up : ∀ j, (∃ e, σ.nd j = some e) → ∃ e, (σ.set k d').nd j = some e := fun j ⟨e, h⟩ => by
    by_cases q : j = k
    · rw [q]; exact ⟨_, Sg.set_self⟩
    · exact ⟨e, (Sg.set_ne q).trans h⟩
  have dn : ∀ j, (∃ e, (σ.set k d').nd j = some e) → ∃ e, σ.nd j = some e := fun j ⟨e, h⟩ => by
    by_cases q : j = k
    · rw [q]; exact ⟨_, hk⟩
    · exact ⟨e, (Sg.set_ne q).symm.trans h⟩
  have cs : ∀ j e, (σ.set k d').nd j = some e → (j = k ∧ e = d') ∨ σ.nd j = some e := fun j e h => by
    by_cases q : j = k
    · rw [q, Sg.set_self] at h; cases h; exact .inl ⟨q, rfl⟩
    · exact .inr ((Sg.set_ne q).symm.trans h)
  refine ⟨fun j => ⟨fun h => up j ((s.mem j).mp h), fun h => (s.mem j).mpr (dn j h)⟩, s.lt, s.ordN, fun j h => up j (s.wtl j h), s.wtN, fun j h => up j (s.rdl j h), s.rdN, s.disj, s.trl, s.trN, fun j e h => ?_, fun j e h => ?_, fun j e h => ?_⟩
  · rcases cs j e h with ⟨_, rfl⟩ | h
    · exact ha
    · exact s.anc j e h
  · rcases cs j e h with ⟨_, rfl⟩ | h
    · exact hr
    · exact s.wr j e h
  · rcases cs j e h with ⟨_, rfl⟩ | h
    · exact ⟨fun x hx => up x (hm.1 x hx), hm.2⟩
    · exact ⟨fun x hx => up x ((s.wm j e h).1 x hx), (s.wm j e h).2⟩
-- M24
section
variable {px : Px}
variable {n : Nat} {X : XT} {w : Wd} {σ : Sg} {H : Hp}

/-- ExecNode(task, parent), called in a body -/
theorem new_node (O : (Cx px).Ok) {k : Nat} {ts : TS} {par : Option (Nat × Nd)} {T : Hp} {i : Nat} {m : Str → Option PV} {Q : PV → Hp → Prop} (hd : w.dd = some σ) (hk : σ.nd k = none) (ht : w.tk k = some ts) (hz : ts.td.length ≤ 1000)
    (hp_ : ∀ x, par = some x → σ.nd x.1 = some x.2 ∧ x.2.anc.length ≤ 1000)
    (h : Q (.loc (40, k)) (Fm (hp (w.sg (σ.set k (freshNd par k)))) T i m)) : JCall (Cx px) (n + 2) X (.ref 396) [.loc (1, k), parPV par] [] [] Q (Fm (hp w) T i m) := by
  have e : upd (upd (Fm (hp w) T i m) (41, k) (.attrs nodeNames fun _ => none)) (40, k) (.inst aNode (41, k)) = Fm (upd (upd (hp w) (41, k) (.attrs nodeNames fun _ => none)) (40, k) (.inst aNode (41, k))) T i m := by
    rw [Fm_mod (by simp), Fm_mod (by simp)]
  have nn : ∀ a, ¬ a < 40 → hp w (a, k) = none := fun a ha => hp_n0 hd hk ha
  have hN : ∀ l : Loc, l.1 ≠ 0 → Fm (upd (upd (hp w) (41, k) (.attrs nodeNames fun _ => none)) (40, k) (.inst aNode (41, k))) T i m l = upd (upd (hp w) (41, k) (.attrs nodeNames fun _ => none)) (40, k) (.inst aNode (41, k)) l := fun l hl => Fm_nm hl
  refine (call_cls (C := (Cx px)) (n := n + 1) O (cl := 396) (fI := 386) (40, k) (41, k) nodeNames (mkN _) (kmN_init _).2.1 (kmN_init _).2.2 (by simp) (by simp) (by simp) ((Fm_nm (by first | exact nz rfl | simp)).trans (nn _ (by decide))) ((Fm_nm (by first | exact nz rfl | simp)).trans (nn _ (by decide))) (by decide) ?_).call
  rw [e]
  refine (c_node_init (n := n) (X := X) O hd hk ht hz hp_ hN).mono fun p H' ⟨N', e1, e2, e3⟩ => ?_
  subst e1 e3
  rw [ov_Fm]
  exact ⟨e2, h⟩
theorem upd_ord (hd : w.dd = some σ) {k : Nat} (hs : SW σ) (hk : σ.nd k = none) (hl : k < 21) {d : Nd} : upd (hp (w.sg (σ.set k d))) (32, 0) (.dict (dput (nodeD σ.ord) (nm k) (.loc (40, k)))) = hp (w.sg { σ.set k d with ord := σ.ord ++ [k] }) := by
  rw [dput_nodeD_new hs.lt hl (fun h => by obtain ⟨d, e⟩ := (hs.mem k).mp h; rw [hk] at e; cases e)]
  refine upd_d (w := w.sg (σ.set k d)) (σ := σ.set k d) (σ' := { σ.set k d with ord := σ.ord ++ [k] }) rfl (by decide) (by decide) rfl fun b h1 h2 => ?_
  rcases Nat.lt_or_ge b 36 with h | h
  · clear h2
    revert h1
    revert h
    revert b
    iterate 6 refine lt_step ?_ fun _ => rfl
    exact fun b h h' => absurd h h'
  · rw [if_neg (Nat.ne_of_gt (Nat.lt_of_lt_of_le (by decide) h)), hpD_none h, hpD_none h]
theorem c_gen_node (O : (Cx px).Ok) {k : Nat} {ts : TS} {par : Option (Nat × Nd)} (hd : w.dd = some σ) (hs : SW σ) (hl : k < 21) (ht : w.tk k = some ts) (hz : ts.td.length ≤ 1000)
    (hp_ : ∀ x, par = some x → σ.nd x.1 = some x.2 ∧ k ∉ x.2.anc) {tkv : List (Str × PV)} (hC : w.ct 22 = some (.dict tkv)) (hT : dget tkv (nm k) = some (.loc (1, k))) (hN : ∀ l : Loc, l.1 ≠ 0 → H l = hp w l) :
    JCode (Cx px) (n + 3) X (.ref 421) [.loc (30, 0), parPV par, .str (nm k)] [] [] (fun p H' => ∃ N', H' = ov N' H ∧ (p = (match σ.nd k with | some _ => .none | none => .loc (40, k)) ∧ N' = hp (w.sg (gen σ par k)))) H := by
  refine' con_fn O [(Str.ofString "self", .loc (30, 0)), (Str.ofString "parent", parPV par), (Str.ofString "task_name", .str (nm k))] ?ho ?hcd ?hbind ?hloc hN ?h ?hcell ?hco ?hgen ?hk
  case ho => refine' look_fn ?g; case g => show List.lookup _ (Mine.KH _) = _; k_is
  case hcd => show codeIn (Mine.KH _) _ _ = true; k_is
  case hbind =>
    intro c s vs us _ d d'
    obtain ⟨u0, u1, u2, rfl, d0, d1, d2⟩ := d.inv3
    have := d'.inv0; subst this
    exact ⟨_, BindsTo.of_eq rfl, .cons d0 (.cons d1 (.cons d2 (.nil)))⟩
  case hloc => rfl
  case hcell => decide
  case hco => rfl
  case hgen => rfl
  case hk => rfl
  case h =>
    intro i hi QI hQI
    have hw : w.sg σ = w := by obtain ⟨a, b, c⟩ := w; simp only at hd; subst hd; rfl
    iterate 5 walk_at "mj"
    refine f_get O (ob_d hd) rfl (kaD _ _ (by decide)) ?_
    refine m_dict (Fm_get (by first | exact nz rfl | simp) ((hp_d hd (by decide) (by decide)).trans rfl)) F.slot_dict_get ty_dict_get ?_
    iterate 6 walk_at "mj"
    refine c_get O (kvs := nodeD σ.ord) (Fm_get (by first | exact nz rfl | simp) ((hp_d hd (by decide) (by decide)).trans rfl)) ?_
    rw [dget_nodeD hs.lt hl]
    cases hk : σ.nd k with
    | none =>
      rw [if_neg fun h => by obtain ⟨d, e⟩ := (hs.mem k).mp h; rw [hk] at e; cases e]
      iterate 7 walk_at "mj"
      refine op_is ?_
      iterate 1 walk_at "mj"
      refine ⟨fun _ => ?_, fun h => (nomatch (show true = false from h))⟩
      iterate 10 walk_at "mj"
      refine f_get O (ob_d hd) rfl (kaD _ _ (by decide)) ?_
      iterate 1 walk_at "mj"
      refine sub_dict (p := .loc (1, k)) (Fm_get (by first | exact nz rfl | simp) ((hp_c (by decide) (by decide)).trans hC)) hT ?_
      iterate 3 walk_at "mj"
      refine new_node O hd hk ht hz (fun x hx => ⟨(hp_ x hx).1, by have := hs.ancz (hp_ x hx).1; lia⟩) ?_
      iterate 7 walk_at "mj"
      refine f_get O (ob_d rfl) rfl (kaD _ _ (by decide)) ?_
      iterate 1 walk_at "mj"
      refine op_setitem O (kvs := nodeD σ.ord) (Fm_get (by first | exact nz rfl | simp) ((hp_d (σ := σ.set k (freshNd par k)) rfl (by decide) (by decide)).trans rfl)) (by have := hs.ordn; simp [nodeD]; lia) ?_
      rw [Fm_mod (by simp), upd_ord hd hs hk hl]
      iterate 7 walk_at "mj"
      exact ⟨_, _, _, rfl, fun _ _ e => e, (by rw [hk]; rfl), by rw [gen, hk]⟩
    | some d =>
      rw [if_pos ((hs.mem k).mpr ⟨d, hk⟩)]
      iterate 7 walk_at "mj"
      refine op_is ?_
      iterate 1 walk_at "mj"
      refine ⟨fun h => (nomatch (show false = true from h)), fun _ => ?_⟩
      iterate 8 walk_at "mj"
      rcases par with _ | ⟨j, dj⟩
      · refine t_none ?_
        iterate 9 walk_at "mj"
        exact ⟨_, _, _, rfl, fun _ _ e => e, (by rw [hk]; rfl), by rw [gen, hk]; exact hw.symm ▸ rfl⟩
      · obtain ⟨hj, hkj⟩ := hp_ _ rfl
        have hj : σ.nd j = some dj := hj
        have hkj : k ∉ dj.anc := hkj
        refine t_inst O (l := (40, j)) (ob_n hd hj).e (ob_n hd hj).f (nbN _) (nlN _) ?_
        iterate 6 walk_at "mj"
        refine f_get O (l := (40, j)) (ob_n hd hj) rfl (kaN _ _ (by decide)) ?_
        refine op_in_list (vs := sL nm dj.anc) (Fm_get (by first | exact nz rfl | simp) ((hp_n hd hj (by decide)).trans rfl)) eqv_sL ?_
        rw [inside_sL (hs.anc j dj hj).1 hl, decide_eq_false hkj]
        iterate 10 walk_at "mj"
        exact ⟨_, _, _, rfl, fun _ _ e => e, (by rw [hk]; rfl), by rw [gen, hk]; exact hw.symm ▸ rfl⟩
end
-- M25
section
variable {px : Px}
variable {n : Nat} {X : XT} {w : Wd} {σ : Sg} {H : Hp}

noncomputable def addReady (σ : Sg) (par : Option (Nat × Nd)) (k : Nat) : Sg := match σ.nd k with
  | some _ => σ
  | none => { gen σ par k with rd := σ.rd ++ [k] }
theorem sg_eta (hd : w.dd = some σ) : w.sg σ = w := by obtain ⟨a, b, c⟩ := w; simp only at hd; subst hd; rfl
theorem upd_rd (hd : w.dd = some σ) {l : List Nat} : upd (hp w) (34, 0) (.list (nodes l)) = hp (w.sg { σ with rd := l }) := by
  refine upd_d (σ' := { σ with rd := l }) hd (by decide) (by decide) rfl fun b h1 h2 => ?_
  have : b = 30 ∨ b = 31 ∨ b = 32 ∨ b = 33 ∨ b = 34 ∨ b = 35 ∨ 36 ≤ b := by lia
  rcases this with rfl | rfl | rfl | rfl | rfl | rfl | h
  · rfl
  · rfl
  · rfl
  · rfl
  · rfl
  · rfl
  · rw [if_neg (by lia)]
    unfold hpD
    split <;> first | lia | rfl
theorem c_add_ready (O : (Cx px).Ok) {k : Nat} {ts : TS} {par : Option (Nat × Nd)} {tkv : List (Str × PV)} (hd : w.dd = some σ) (hs : SW σ) (hl : k < 21) (ht : w.tk k = some ts) (hz : ts.td.length ≤ 1000)
    (hp_ : ∀ x, par = some x → σ.nd x.1 = some x.2 ∧ k ∉ x.2.anc) (hC : w.ct 22 = some (.dict tkv)) (hT : dget tkv (nm k) = some (.loc (1, k))) (hN : ∀ l : Loc, l.1 ≠ 0 → H l = hp w l) :
    JCode (Cx px) (n + 4) X (.ref 428) [.loc (30, 0), parPV par, .str (nm k)] [] [] (fun p H' => ∃ N', H' = ov N' H ∧ (p = .none ∧ N' = hp (w.sg (addReady σ par k)))) H := by
  refine' con_fn O [(Str.ofString "self", .loc (30, 0)), (Str.ofString "parent", parPV par), (Str.ofString "task_name", .str (nm k))] ?ho ?hcd ?hbind ?hloc hN ?h ?hcell ?hco ?hgen ?hk
  case ho => refine' look_fn ?g; case g => show List.lookup _ (Mine.KH _) = _; k_is
  case hcd => show codeIn (Mine.KH _) _ _ = true; k_is
  case hbind =>
    intro c s vs us _ d d'
    obtain ⟨u0, u1, u2, rfl, d0, d1, d2⟩ := d.inv3
    have := d'.inv0; subst this
    exact ⟨_, BindsTo.of_eq rfl, .cons d0 (.cons d1 (.cons d2 (.nil)))⟩
  case hloc => rfl
  case hcell => decide
  case hco => rfl
  case hgen => rfl
  case hk => rfl
  case h =>
    intro i hi QI hQI
    have hw : w.sg σ = w := sg_eta hd
    iterate 4 walk_at "mj"
    refine f_methK O (ob_d hd) rfl (kmD_gen_node _) ?_
    iterate 6 walk_at "mj"
    refine use_fn (c_gen_node O hd hs hl ht hz hp_ hC hT fun l hl => Fm_nm hl) ?_
    rintro p N' ⟨rfl, rfl⟩
    cases hk : σ.nd k with
    | none =>
      have hg : gen σ par k = { σ.set k (freshNd par k) with ord := σ.ord ++ [k] } := by rw [gen, hk]
      iterate 7 walk_at "mj"
      refine op_isnot ?_
      iterate 1 walk_at "mj"
      refine ⟨fun _ => ?_, fun h => (nomatch (show true = false from h))⟩
      iterate 5 walk_at "mj"
      refine f_get O (ob_d rfl) rfl (kaD _ _ (by decide)) ?_
      refine m_list (vs := nodes (gen σ par k).rd) (Fm_get (by first | exact nz rfl | simp) ((hp_d rfl (by decide) (by decide)).trans rfl)) F.slot_list_append ty_list_append ?_
      iterate 4 walk_at "mj"
      refine c_append (vs := nodes (gen σ par k).rd) (Fm_get (by first | exact nz rfl | simp) ((hp_d rfl (by decide) (by decide)).trans rfl)) (by rw [hg]; have := hs.rdn; simp [nodes, Sg.set]; lia) ?_
      rw [Fm_mod (by simp), show nodes (gen σ par k).rd ++ [PV.loc (40, k)] = nodes ((gen σ par k).rd ++ [k]) by simp [nodes], upd_rd (w := w.sg (gen σ par k)) rfl]
      iterate 5 walk_at "mj"
      exact ⟨_, _, _, rfl, fun _ _ e => e, rfl, by rw [addReady, hk]; simp only [hg]; rfl⟩
    | some d =>
      have hg : gen σ par k = σ := by rw [gen, hk]
      rw [hg, hw]
      iterate 7 walk_at "mj"
      refine op_isnot ?_
      iterate 1 walk_at "mj"
      refine ⟨fun h => (nomatch (show false = true from h)), fun _ => ?_⟩
      iterate 4 walk_at "mj"
      exact ⟨_, _, _, rfl, fun _ _ e => e, rfl, by rw [addReady, hk, hw]⟩
end
-- M26
section
variable {px : Px}
variable {n : Nat} {X : XT} {w : Wd} {σ : Sg} {H : Hp}

/-- names that a loop turns -/
noncomputable def ovr (m0 : Str → Option PV) (xs : List Str) (f : Str → Option PV) : Str → Option PV := fun y => if y ∈ xs then f y else m0 y
theorem ovr_self (m0 : Str → Option PV) (xs : List Str) : ovr m0 xs m0 = m0 := by funext y; unfold ovr; split <;> rfl
theorem ovr_st {m0 f : Str → Option PV} {xs : List Str} {x : Str} {p : PV} (h : x ∈ xs) : sto (ovr m0 xs f) x p = ovr m0 xs (sto f x p) := by
  funext y
  unfold ovr sto
  by_cases e : y = x
  · subst e; simp [h]
  · simp [e]
noncomputable def okn (σ : Sg) (j : Nat) : Bool := (σ.nd j).elim false (·.ok)
/-- k waits for those of l that have not ended -/
noncomputable def pend (σ : Sg) (l : List Nat) : List Nat := l.filter fun j => !okn σ j
noncomputable def addWms (σ : Sg) (k : Nat) (P : List Nat) : Sg := { σ with nd := fun j => (σ.nd j).map fun d => if j ∈ P ∧ k ∉ d.wm then { d with wm := d.wm ++ [k] } else d }
noncomputable def uni (r P : List Nat) : List Nat := P.foldl (fun r j => if j ∈ r then r else r ++ [j]) r
noncomputable def addWr (σ : Sg) (k : Nat) (P : List Nat) : Sg := { σ with nd := fun j => if j = k then (σ.nd k).map fun d => { d with wr := uni d.wr P } else σ.nd j }
noncomputable def addWait (σ : Sg) (k : Nat) (l : List Nat) : Sg := addWr (addWms σ k (pend σ l)) k (pend σ l)
theorem uni_nm : ∀ {P r : List Nat}, (∀ j ∈ r, j < 21) → (∀ j ∈ P, j < 21) → saddAll (r.map nm) (P.map nm) = (uni r P).map nm ∧ ∀ j ∈ uni r P, j < 21 := by
  intro P
  induction P with
  | nil => intro r h _; exact ⟨rfl, h⟩
  | cons x P ih =>
    intro r hr hP
    have hx := hP x (.head _)
    have e : sadd (r.map nm) (nm x) = (if x ∈ r then r else r ++ [x]).map nm := by
      unfold sadd
      by_cases h : x ∈ r
      · rw [if_pos ((mem_nm hr hx).mpr h), if_pos h]
      · rw [if_neg fun q => h ((mem_nm hr hx).mp q), if_neg h]; simp
    have := ih (r := if x ∈ r then r else r ++ [x]) (fun j hj => by
      by_cases h : x ∈ r
      · rw [if_pos h] at hj; exact hr j hj
      · rw [if_neg h] at hj; rcases List.mem_append.mp hj with hj | hj
        · exact hr j hj
        · rw [List.mem_singleton.mp hj]; exact hx) fun j hj => hP j (.tail _ hj)
    refine ⟨?_, this.2⟩
    show saddAll (sadd (r.map nm) (nm x)) (P.map nm) = (uni (if x ∈ r then r else r ++ [x]) P).map nm
    rw [e, this.1]
theorem upd_wm (hd : w.dd = some σ) {j k : Nat} {d : Nd} (hj : σ.nd j = some d) (hw : ∀ x ∈ d.wm, x < 21) (hk : k < 21) : upd (hp w) (47, j) (.dict (dput (nodeD d.wm) (nm k) (.loc (40, k)))) = hp (w.sg (σ.set j { d with wm := if k ∈ d.wm then d.wm else d.wm ++ [k] })) := by
  have e : dput (nodeD d.wm) (nm k) (.loc (40, k)) = nodeD (if k ∈ d.wm then d.wm else d.wm ++ [k]) := by
    by_cases h : k ∈ d.wm
    · rw [if_pos h, dput_nodeD_old hw hk h]
    · rw [if_neg h, dput_nodeD_new hw hk h]
  rw [e]
  refine upd_n hd hj (by decide) fun b hb => ?_
  by_cases h : b = 47
  · subst h; rfl
  · rw [if_neg h]
    unfold hpN
    split <;> first | rfl | lia
theorem upd_wr (hd : w.dd = some σ) {k : Nat} {d : Nd} (hk : σ.nd k = some d) {l : List Nat} : upd (hp w) (45, k) (.set (l.map nm)) = hp (w.sg (σ.set k { d with wr := l })) := by
  refine upd_n hd hk (by decide) fun b hb => ?_
  by_cases h : b = 45
  · subst h; rfl
  · rw [if_neg h]
    unfold hpN
    split <;> first | rfl | lia
theorem c_wait1 (O : (Cx px).Ok) {k : Nat} {d : Nd} {ts : TS} {l : List Nat} {lt : Loc} (hd : w.dd = some σ) (hs : SW σ) (hk : σ.nd k = some d) (ht : w.tk k = some ts) (hz : ts.td.length ≤ 1000)
    (hl : ∀ j ∈ l, ∃ d, σ.nd j = some d) (hln : l.Nodup) (hlz : l.length ≤ 100) (hlt : H lt = some (.list (sL nm l))) (hN : ∀ l : Loc, l.1 ≠ 0 → H l = hp w l) :
    JCode (Cx px) (n + 4) X (.ref 436) [.loc (30, 0), .loc (40, k), .loc lt] [] [] (fun p H' => ∃ N', H' = ov N' H ∧ (p = .none ∧ N' = hp (w.sg (addWait σ k l)))) H := by
  refine' con_fn O [(Str.ofString "self", .loc (30, 0)), (Str.ofString "node", .loc (40, k)), (Str.ofString "task_list", .loc lt), (Str.ofString "calc", .bool false)] ?ho ?hcd ?hbind ?hloc hN ?h ?hcell ?hco ?hgen ?hk
  case ho => refine' look_fn ?g; case g => show List.lookup _ (Mine.KH _) = _; k_is
  case hcd => show codeIn (Mine.KH _) _ _ = true; k_is
  case hbind =>
    intro c s vs us hK dd d'
    obtain ⟨u0, u1, u2, rfl, d0, d1, d2⟩ := dd.inv3
    have := d'.inv0; subst this
    refine ⟨[(Str.ofString "self", u0), (Str.ofString "node", u1), (Str.ofString "task_list", u2), (Str.ofString "calc", .bool false)], ?_, .cons d0 (.cons d1 (.cons d2 (.cons (p := .bool false) rfl .nil)))⟩
    exact binds_K hK rfl (by (show List.lookup _ (Mine.KH _) = _); k_is) rfl rfl rfl
  case hloc => rfl
  case hcell => decide
  case hco => rfl
  case hgen => rfl
  case hk => rfl
  case h =>
    intro i hi QI hQI
    iterate 4 walk_at "mj"
    refine ⟨by first | exact Nat.zero_le _ | simp, al_tmp fun jl T1 hjl hjn hT1 hA1 hE1 => ?_⟩
    iterate 3 walk_at "mj"
    have hlt1 : ∀ (T' : Hp) m', (∀ j sp, H (tmp j) = some sp → T' (tmp j) = some sp) → Fm (hp w) T' i m' lt = some (.list (sL nm l)) := by
      intro T' m' hA
      by_cases h0 : lt.1 = 0
      · have e : lt = tmp lt.2 := by obtain ⟨a, b⟩ := lt; simp only at h0; rw [h0]; rfl
        rw [e] at hlt ⊢
        exact Fm_gett (fun z => by rw [z, hi] at hlt; cases hlt) (hA _ _ hlt)
      · rw [Fm_nm h0, ← hN lt h0]; exact hlt
    refine X_for (fun vs q H' => ∃ T' f, H' = Fm (hp w) T' i (ovr ((sto (fun y => List.lookup y [(Str.ofString "self", PV.loc (30, 0)), (Str.ofString "node", PV.loc (40, k)), (Str.ofString "task_list", PV.loc lt), (Str.ofString "calc", PV.bool false)].reverse) (Str.ofString "wait_for") (PV.loc (tmp jl)))) [Str.ofString "name", Str.ofString "dep_node"] f) ∧ (∀ j sp, H (tmp j) = some sp → T' (tmp j) = some sp) ∧ T' (tmp jl) = some (.list (sL nm (pend σ (l.take q))))) ?_
    iterate 1 walk_at "mj"
    refine ⟨.list lt, sL nm l, ⟨rfl, hlt1 _ _ fun j sp e => hA1 _ _ e⟩, ⟨T1, _, by rw [ovr_self] <;> rfl, fun j sp e => hA1 _ _ e, by rw [hT1]; rfl⟩, ?_, ?_, ?_⟩
    · rintro q H' ⟨T', f, rfl, hA, hW⟩
      exact ⟨hlt1 _ _ hA, _, _, hlt1 _ _ hA⟩
    · rintro q v H' hv ⟨T', f, rfl, hA, hW⟩
      have hq : q < l.length := by have := (List.getElem?_eq_some_iff.mp hv).1; simpa [sL] using this
      have ev : v = .str (nm l[q]) := by simp only [sL, List.getElem?_map, List.getElem?_eq_getElem hq] at hv; exact (Option.some.inj hv).symm
      subst ev
      obtain ⟨dj, hj⟩ := hl l[q] (List.getElem_mem hq)
      have hlj := hs.ltn hj
      have htake : pend σ (l.take (q + 1)) = if dj.ok then pend σ (l.take q) else pend σ (l.take q) ++ [l[q]] := by
        rw [List.take_succ_eq_append_getElem hq, pend, List.filter_append]
        cases hb : dj.ok <;> simp [pend, okn, hj, hb]
      refine f_st ?_
      rw [ovr_st (by decide)]
      iterate 6 walk_at "mj"
      refine f_get O (ob_d hd) rfl (kaD _ _ (by decide)) ?_
      iterate 1 walk_at "mj"
      refine sub_dict (kvs := nodeD σ.ord) (p := .loc (40, l[q])) (Fm_get (by first | exact nz rfl | simp) ((hp_d hd (by decide) (by decide)).trans rfl)) (by rw [dget_nodeD hs.lt hlj, if_pos ((hs.mem _).mpr ⟨dj, hj⟩)]) ?_
      refine f_st ?_
      rw [ovr_st (by decide)]
      iterate 8 walk_at "mj"
      refine t_inst O (ob_n hd hj).e (ob_n hd hj).f (nbN _) (nlN _) ?_
      refine ⟨fun _ => ?_, fun h => (nomatch (show false = true from h))⟩
      iterate 4 walk_at "mj"
      refine f_get O (ob_n hd hj) rfl (kaN _ _ (by decide)) ?_ (run_handed _)
      iterate 6 walk_at "mj"
      refine ⟨by first | exact Nat.zero_le _ | simp, al_tmp fun jt T2 hjt hjtn hT2 hA2 hE2 => ?_⟩
      have fin : ∀ (T3 : Hp) (g : Str → Option PV), (∀ j sp, H (tmp j) = some sp → T3 (tmp j) = some sp) → T3 (tmp jl) = some (.list (sL nm (pend σ (l.take (q + 1))))) → ∃ T' f', Fm (hp w) T3 i (ovr ((sto (fun y => List.lookup y [(Str.ofString "self", PV.loc (30, 0)), (Str.ofString "node", PV.loc (40, k)), (Str.ofString "task_list", PV.loc lt), (Str.ofString "calc", PV.bool false)].reverse) (Str.ofString "wait_for") (PV.loc (tmp jl)))) [Str.ofString "name", Str.ofString "dep_node"] g) = Fm (hp w) T' i (ovr ((sto (fun y => List.lookup y [(Str.ofString "self", PV.loc (30, 0)), (Str.ofString "node", PV.loc (40, k)), (Str.ofString "task_list", PV.loc lt), (Str.ofString "calc", PV.bool false)].reverse) (Str.ofString "wait_for") (PV.loc (tmp jl)))) [Str.ofString "name", Str.ofString "dep_node"] f') ∧ (∀ j sp, H (tmp j) = some sp → T' (tmp j) = some sp) ∧ T' (tmp jl) = some (.list (sL nm (pend σ (l.take (q + 1))))) := fun T3 g a b => ⟨T3, g, rfl, a, b⟩
      have hA3 : ∀ j sp, H (tmp j) = some sp → T2 (tmp j) = some sp := fun j sp e => hA2 _ _ (hA j sp e)
      have hW2 := hA2 _ _ hW
      cases hb : dj.ok with
      | false =>
        rw [hb] at htake
        refine op_in_tup (vs := [.none, .str (Str.ofString "run")]) (Fm_gett hjt hT2) (by intro q hq; rcases List.mem_cons.mp hq with rfl | hq; rfl; rcases List.mem_cons.mp hq with rfl | hq; rfl; cases hq) ?_
        refine ⟨true, rfl, fun h => (nomatch h), fun _ => ?_⟩
        iterate 6 walk_at "mj"
        refine op_notin_list (vs := sL nm (pend σ (l.take q))) (Fm_gett hjl hW2) eqv_sL ?_
        have hnot : l[q] ∉ pend σ (l.take q) := fun hm => by
          have h1 := (List.mem_filter.mp hm).1
          obtain ⟨r, hr, e⟩ := List.getElem_of_mem h1
          rw [List.length_take] at hr
          rw [List.getElem_take] at e
          have := (List.getElem_inj hln).mp e
          lia
        rw [inside_sL (l := pend σ (l.take q)) (fun j hj => hs.ltn (hl j (List.mem_of_mem_take (List.mem_filter.mp hj).1)).choose_spec) hlj, decide_eq_false hnot]
        refine ⟨true, rfl, fun _ => ?_, fun h => (nomatch h)⟩
        iterate 4 walk_at "mj"
        refine m_list (vs := sL nm (pend σ (l.take q))) (Fm_gett hjl hW2) F.slot_list_append ty_list_append ?_
        iterate 4 walk_at "mj"
        refine c_append (vs := sL nm (pend σ (l.take q))) (Fm_gett hjl hW2) (by have := List.length_filter_le (fun j => !okn σ j) (l.take q); simp [sL, pend]; rw [List.length_take] at this; lia) ?_
        rw [Fm_modt hjl]
        iterate 7 walk_at "mj"
        refine fin _ _ (fun j sp e => (upd_ne _ _ (tmp_ne fun z => by rw [z, hjn] at e; cases e)).trans (hA3 j sp e)) ?_
        rw [upd_self, htake]
        simp [sL]
      | true =>
        rw [hb] at htake
        refine op_in_tup (vs := [.none, .str (Str.ofString "run")]) (Fm_gett hjt hT2) (by intro q hq; rcases List.mem_cons.mp hq with rfl | hq; rfl; rcases List.mem_cons.mp hq with rfl | hq; rfl; cases hq) ?_
        refine ⟨false, congrArg PV.bool (by decide), fun _ => ?_, fun h => (nomatch h)⟩
        iterate 6 walk_at "mj"
        refine f_methK O (ob_n hd hk) rfl (kmN_parent_status _) ?_
        iterate 4 walk_at "mj"
        refine use_fn (c_parent_status O hd hk hj fun l hl => Fm_nm hl) ?_
        rintro p N' ⟨rfl, rfl⟩
        iterate 5 walk_at "mj"
        refine t_bool ?_
        iterate 7 walk_at "mj"
        exact fin _ _ hA3 (by rw [htake]; exact hW2)
    · rintro H' ⟨T', f, rfl, hA, hW⟩
      rw [show (sL nm l).length = l.length by simp [sL], List.take_length] at hW
      have hPm : ∀ j ∈ pend σ l, ∃ d, σ.nd j = some d := fun j hj => hl j (List.mem_filter.mp hj).1
      have hPn : (pend σ l).Nodup := hln.filter _
      have hPz : (pend σ l).length ≤ 100 := Nat.le_trans (List.length_filter_le _ _) hlz
      have hw0 : w.sg (addWms σ k []) = w := by
        have : addWms σ k [] = σ := by
          obtain ⟨nd, a, b, c, e, g⟩ := σ
          unfold addWms
          congr 1
          funext j
          cases h : nd j <;> simp [h]
        rw [this]; exact sg_eta hd
      iterate 2 walk_at "mj"
      refine X_for (fun vs q H' => ∃ T'' f', H' = Fm (hp (w.sg (addWms σ k ((pend σ l).take q)))) T'' i (ovr (ovr ((sto (fun y => List.lookup y [(Str.ofString "self", PV.loc (30, 0)), (Str.ofString "node", PV.loc (40, k)), (Str.ofString "task_list", PV.loc lt), (Str.ofString "calc", PV.bool false)].reverse) (Str.ofString "wait_for") (PV.loc (tmp jl)))) [Str.ofString "name", Str.ofString "dep_node"] f) [Str.ofString "name"] f') ∧ (∀ j sp, H (tmp j) = some sp → T'' (tmp j) = some sp) ∧ T'' (tmp jl) = some (.list (sL nm (pend σ l)))) ?_
      iterate 1 walk_at "mj"
      refine ⟨.list (tmp jl), sL nm (pend σ l), ⟨rfl, Fm_gett hjl hW⟩, ⟨T', _, by rw [ovr_self, List.take_zero, hw0], hA, hW⟩, ?_, ?_, ?_⟩
      · rintro q H' ⟨T'', f', rfl, hA', hW'⟩
        exact ⟨Fm_gett hjl hW', _, _, Fm_gett hjl hW'⟩
      · rintro q v H' hv ⟨T'', f', rfl, hA', hW'⟩
        have hq : q < (pend σ l).length := by have := (List.getElem?_eq_some_iff.mp hv).1; simpa [sL] using this
        have ev : v = .str (nm (pend σ l)[q]) := by simp only [sL, List.getElem?_map, List.getElem?_eq_getElem hq] at hv; exact (Option.some.inj hv).symm
        subst ev
        obtain ⟨dj, hj⟩ := hPm _ (List.getElem_mem hq)
        have hlj := hs.ltn hj
        have hkl := hs.ltn hk
        have hnt : (pend σ l)[q] ∉ (pend σ l).take q := fun hm => by
          obtain ⟨r, hr, e⟩ := List.getElem_of_mem hm
          rw [List.length_take] at hr
          rw [List.getElem_take] at e
          have := (List.getElem_inj hPn).mp e
          lia
        have hj' : (addWms σ k ((pend σ l).take q)).nd (pend σ l)[q] = some dj := by
          show (σ.nd _).map _ = _
          rw [hj]; simp [hnt]
        obtain ⟨dk, hk', htk⟩ : ∃ dk, (addWms σ k ((pend σ l).take q)).nd k = some dk ∧ True := ⟨_, by show (σ.nd k).map _ = _; rw [hk]; rfl, trivial⟩
        refine f_st ?_
        rw [ovr_st (by decide)]
        iterate 8 walk_at "mj"
        refine f_get O (ob_d rfl) rfl (kaD _ _ (by decide)) ?_
        iterate 1 walk_at "mj"
        refine sub_dict (kvs := nodeD σ.ord) (p := .loc (40, (pend σ l)[q])) (Fm_get (by first | exact nz rfl | simp) ((hp_d (σ := addWms σ k ((pend σ l).take q)) rfl (by decide) (by decide)).trans rfl)) (by rw [dget_nodeD hs.lt hlj, if_pos ((hs.mem _).mpr ⟨dj, hj⟩)]) ?_
        iterate 0 walk_at "mj"
        refine f_get O (ob_n rfl hj') rfl (kaN _ _ (by decide)) ?_
        iterate 3 walk_at "mj"
        refine f_get O (ob_n rfl hk') rfl (kaN _ _ (by decide)) ?_
        iterate 0 walk_at "mj"
        refine f_get O (ob_t (w := w.sg (addWms σ k ((pend σ l).take q))) ht) rfl (kaT _ _ (by decide)) ?_
        refine op_setitem O (kvs := nodeD dj.wm) (Fm_get (by first | exact nz rfl | simp) ((hp_n rfl hj' (by decide)).trans rfl)) (by have := hs.wmz hj; simp [nodeD]; lia) ?_
        rw [Fm_mod (by simp), upd_wm (w := w.sg (addWms σ k ((pend σ l).take q))) rfl hj' (fun x hx => hs.ltn ((hs.wm _ _ hj).1 x hx).choose_spec) hkl]
        iterate 3 walk_at "mj"
        have hstep : (addWms σ k ((pend σ l).take q)).set (pend σ l)[q] { dj with wm := if k ∈ dj.wm then dj.wm else dj.wm ++ [k] } = addWms σ k ((pend σ l).take (q + 1)) := by
          have hmem : ∀ x, x ∈ (pend σ l).take (q + 1) ↔ x ∈ (pend σ l).take q ∨ x = (pend σ l)[q] := fun x => by
            rw [List.take_succ_eq_append_getElem hq, List.mem_append, List.mem_singleton]
          unfold Sg.set addWms
          congr 1
          funext x
          by_cases e : x = (pend σ l)[q]
          · subst e
            rw [if_pos rfl, hj]
            by_cases hm : k ∈ dj.wm
            · simp [hm]
            · simp only [Option.map_some, hm, if_false, not_false_eq_true, and_true, (hmem _).mpr (.inr rfl), if_true]
          · rw [if_neg e]
            have : (x ∈ (pend σ l).take (q + 1)) = (x ∈ (pend σ l).take q) := propext ⟨fun h => ((hmem x).mp h).resolve_right e, fun h => (hmem x).mpr (.inl h)⟩
            simp only [this]
        rw [hstep]
        exact ⟨T'', _, rfl, hA', hW'⟩
      · rintro H' ⟨T'', f', rfl, hA', hW'⟩
        rw [show (sL nm (pend σ l)).length = (pend σ l).length by simp [sL], List.take_length]
        obtain ⟨dk, hk', hwr⟩ : ∃ dk, (addWms σ k (pend σ l)).nd k = some dk ∧ dk.wr = d.wr := by
          refine ⟨_, by show (σ.nd k).map _ = _; rw [hk]; rfl, ?_⟩
          dsimp only
          split <;> rfl
        iterate 5 walk_at "mj"
        refine t_bool ?_
        iterate 6 walk_at "mj"
        refine f_get O (ob_n rfl hk') rfl (kaN _ _ (by decide)) ?_
        refine m_set (vs := dk.wr.map nm) (Fm_get (by first | exact nz rfl | simp) ((hp_n rfl hk' (by decide)).trans rfl)) F.slot_set_update ty_set_update ?_
        iterate 4 walk_at "mj"
        refine c_update (K := dk.wr.map nm) (ks := (pend σ l).map nm) (Fm_get (by first | exact nz rfl | simp) ((hp_n rfl hk' (by decide)).trans rfl)) (Fm_gett hjl (by rw [hW']; simp [sL])) (by have := hs.wrz hk; rw [hwr]; simp; lia) ?_
        rw [Fm_mod (by simp), (uni_nm (by rw [hwr]; exact (hs.wr k d hk).1) fun j hj => hs.ltn (hPm j hj).choose_spec).1, upd_wr (w := w.sg (addWms σ k (pend σ l))) rfl hk']
        iterate 5 walk_at "mj"
        refine ⟨_, _, _, rfl, hA', rfl, ?_⟩
        have : (addWms σ k (pend σ l)).set k { dk with wr := uni dk.wr (pend σ l) } = addWait σ k l := by
          unfold addWait addWr Sg.set
          congr 1
          funext x
          by_cases e : x = k
          · rw [if_pos e, if_pos e, hk']; rfl
          · rw [if_neg e, if_neg e]
        rw [← this]; rfl
end
-- M27
theorem addReady_nd {σ : Sg} {par : Option (Nat × Nd)} {k j : Nat} {e : Nd} (h : σ.nd j = some e) : (addReady σ par k).nd j = some e := by
  unfold addReady
  cases hk : σ.nd k with
  | some d => exact h
  | none =>
    have : j ≠ k := fun q => by rw [q, hk] at h; cases h
    simp only [gen, hk]
    exact (Sg.set_ne this).trans h
theorem addReady_new {σ : Sg} {par : Option (Nat × Nd)} {k : Nat} : ∃ d, (addReady σ par k).nd k = some d := by
  unfold addReady
  cases hk : σ.nd k with
  | some d => exact ⟨d, hk⟩
  | none => simp only [gen, hk]; exact ⟨_, Sg.set_self⟩
theorem SW.addReady {σ : Sg} (s : SW σ) {par : Option (Nat × Nd)} {k : Nat} (hk : k < 21) (hp_ : ∀ x, par = some x → σ.nd x.1 = some x.2 ∧ k ∉ x.2.anc) : SW (addReady σ par k) := by
  unfold Mine.addReady
  cases h : σ.nd k with
  | some d => exact s
  | none =>
    simp only [gen, h]
    have hno : ∀ l : List Nat, (∀ j ∈ l, ∃ d, σ.nd j = some d) → k ∉ l := fun l hl hm => by obtain ⟨d, e⟩ := hl k hm; rw [h] at e; cases e
    have up : ∀ j, (∃ e, σ.nd j = some e) → ∃ e, (σ.set k (freshNd par k)).nd j = some e := fun j ⟨e, q⟩ => ⟨e, (Sg.set_ne fun z => by rw [z, h] at q; cases q).trans q⟩
    have cs : ∀ j e, (σ.set k (freshNd par k)).nd j = some e → (j = k ∧ e = freshNd par k) ∨ σ.nd j = some e := fun j e q => by
      by_cases z : j = k
      · rw [z, Sg.set_self] at q; cases q; exact .inl ⟨z, rfl⟩
      · exact .inr ((Sg.set_ne z).symm.trans q)
    have kn : k ∉ σ.ord := hno _ fun j hj => (s.mem j).mp hj
    have kr : k ∉ σ.rd := hno _ s.rdl
    have kw : k ∉ σ.wt := hno _ s.wtl
    have nodup_app : ∀ {l : List Nat}, l.Nodup → k ∉ l → (l ++ [k]).Nodup := fun {l} a b => by
      rw [List.nodup_append]
      exact ⟨a, by simp, fun x hx y hy => by rw [List.mem_singleton.mp hy]; exact fun z => b (z ▸ hx)⟩
    refine ⟨fun j => ?_, fun j hj => ?_, nodup_app s.ordN kn, fun j hj => up j (s.wtl j hj), s.wtN, fun j hj => ?_, nodup_app s.rdN kr, fun j hj => ?_, s.trl, s.trN, fun j e q => ?_, fun j e q => ?_, fun j e q => ?_⟩
    · show j ∈ σ.ord ++ [k] ↔ ∃ d, (σ.set k (freshNd par k)).nd j = some d
      rw [List.mem_append, List.mem_singleton]
      constructor
      · rintro (hj | rfl)
        · exact up j ((s.mem j).mp hj)
        · exact ⟨_, Sg.set_self⟩
      · rintro ⟨e, q⟩
        rcases cs j e q with ⟨z, _⟩ | q
        · exact .inr z
        · exact .inl ((s.mem j).mpr ⟨e, q⟩)
    · rcases List.mem_append.mp hj with hj | hj
      · exact s.lt j hj
      · rw [List.mem_singleton.mp hj]; exact hk
    · rcases List.mem_append.mp hj with hj | hj
      · exact up j (s.rdl j hj)
      · rw [List.mem_singleton.mp hj]; exact ⟨_, Sg.set_self⟩
    · rcases List.mem_append.mp hj with hj | hj
      · exact s.disj j hj
      · rw [List.mem_singleton.mp hj]; exact kw
    · rcases cs j e q with ⟨_, rfl⟩ | q
      · cases par with
        | none => exact ⟨fun x hx => by simp [freshNd] at hx; rw [hx]; exact hk, by simp [freshNd]⟩
        | some x =>
          obtain ⟨hx, hnot⟩ := hp_ x rfl
          have := s.anc _ _ hx
          refine ⟨fun y hy => ?_, nodup_app this.2 hnot⟩
          rcases List.mem_append.mp hy with hy | hy
          · exact this.1 y hy
          · rw [List.mem_singleton.mp hy]; exact hk
      · exact s.anc j e q
    · rcases cs j e q with ⟨_, rfl⟩ | q
      · exact ⟨fun x hx => (nomatch hx), List.Pairwise.nil⟩
      · exact s.wr j e q
    · rcases cs j e q with ⟨_, rfl⟩ | q
      · exact ⟨fun x hx => (nomatch hx), List.Pairwise.nil⟩
      · exact ⟨fun x hx => up x ((s.wm j e q).1 x hx), (s.wm j e q).2⟩
theorem mem_uni : ∀ {P r : List Nat} {x : Nat}, x ∈ uni r P ↔ x ∈ r ∨ x ∈ P := by
  intro P
  induction P with
  | nil => intro r x; simp [uni]
  | cons y P ih =>
    intro r x
    show x ∈ uni (if y ∈ r then r else r ++ [y]) P ↔ _
    rw [ih]
    by_cases h : y ∈ r
    · rw [if_pos h, List.mem_cons]
      exact ⟨fun q => q.elim .inl fun q => .inr (.inr q), fun q => q.elim .inl fun q => q.elim (fun e => .inl (e ▸ h)) .inr⟩
    · rw [if_neg h, List.mem_append, List.mem_singleton, List.mem_cons, or_assoc]
theorem uni_nodup : ∀ {P r : List Nat}, r.Nodup → (uni r P).Nodup := by
  intro P
  induction P with
  | nil => intro r h; exact h
  | cons y P ih =>
    intro r hr
    show (uni (if y ∈ r then r else r ++ [y]) P).Nodup
    refine ih ?_
    by_cases h : y ∈ r
    · rw [if_pos h]; exact hr
    · rw [if_neg h, List.nodup_append]
      exact ⟨hr, by simp, fun x hx z hz => by rw [List.mem_singleton.mp hz]; exact fun q => h (q ▸ hx)⟩
/-- a node after k began to wait for P -/
theorem addWait_nd {σ : Sg} {k : Nat} {l : List Nat} {j : Nat} : (addWait σ k l).nd j = (σ.nd j).map fun d => { d with wm := if j ∈ pend σ l ∧ k ∉ d.wm then d.wm ++ [k] else d.wm, wr := if j = k then uni d.wr (pend σ l) else d.wr } := by
  unfold addWait addWr addWms
  dsimp only
  by_cases e : j = k
  · rw [if_pos e, e]
    cases σ.nd k with
    | none => rfl
    | some d =>
      simp only [Option.map_some]
      split <;> simp
  · rw [if_neg e]
    cases σ.nd j with
    | none => rfl
    | some d =>
      simp only [Option.map_some, e]
      split <;> simp
theorem SW.addWait {σ : Sg} (s : SW σ) {k : Nat} {l : List Nat} (hk : ∃ d, σ.nd k = some d) (hl : ∀ j ∈ l, ∃ d, σ.nd j = some d) : SW (addWait σ k l) := by
  have iff : ∀ j, (∃ e, (Mine.addWait σ k l).nd j = some e) ↔ ∃ e, σ.nd j = some e := fun j => by
    rw [addWait_nd]
    cases σ.nd j <;> simp
  refine ⟨fun j => (s.mem j).trans (iff j).symm, s.lt, s.ordN, fun j h => (iff j).mpr (s.wtl j h), s.wtN, fun j h => (iff j).mpr (s.rdl j h), s.rdN, s.disj, s.trl, s.trN, fun j e h => ?_, fun j e h => ?_, fun j e h => ?_⟩
  all_goals
    rw [addWait_nd] at h
    cases q : σ.nd j with
    | none => rw [q] at h; cases h
    | some d => ?_
    rw [q] at h
    cases h
  · exact s.anc j d q
  · dsimp only
    split
    · refine ⟨fun x hx => ?_, uni_nodup (s.wr j d q).2⟩
      rcases mem_uni.mp hx with hx | hx
      · exact (s.wr j d q).1 x hx
      · exact s.ltc (hl x (List.mem_filter.mp hx).1)
    · exact s.wr j d q
  · dsimp only
    split
    · rename_i hc
      refine ⟨fun x hx => (iff x).mpr ?_, ?_⟩
      · rcases List.mem_append.mp hx with hx | hx
        · exact (s.wm j d q).1 x hx
        · rw [List.mem_singleton.mp hx]; exact hk
      · rw [List.nodup_append]
        exact ⟨(s.wm j d q).2, by simp, fun x hx z hz => by rw [List.mem_singleton.mp hz]; exact fun y => hc.2 (y ▸ hx)⟩
    · exact ⟨fun x hx => (iff x).mpr ((s.wm j d q).1 x hx), (s.wm j d q).2⟩
theorem addReadies_nd {par : Option (Nat × Nd)} {j : Nat} {e : Nd} : ∀ {l : List Nat} {σ : Sg}, σ.nd j = some e → (l.foldl (fun s x => addReady s par x) σ).nd j = some e
  | [], _, h => h
  | x :: l, σ, h => addReadies_nd (l := l) (σ := addReady σ par x) (addReady_nd h)
theorem addReadies_new {par : Option (Nat × Nd)} : ∀ {l : List Nat} {σ : Sg} {j : Nat}, j ∈ l → ∃ e, (l.foldl (fun s x => addReady s par x) σ).nd j = some e
  | x :: l, σ, j, h => by
    rcases List.mem_cons.mp h with rfl | h
    · obtain ⟨e, q⟩ := addReady_new (σ := σ) (par := par) (k := j)
      exact ⟨e, addReadies_nd (l := l) (σ := addReady σ par j) q⟩
    · exact addReadies_new (l := l) (σ := addReady σ par x) h
theorem SW.addReadies {par : Nat × Nd} : ∀ {l : List Nat} {σ : Sg}, SW σ → (∀ j ∈ l, j < 21) → σ.nd par.1 = some par.2 → (∀ j ∈ l, j ∉ par.2.anc) → SW (l.foldl (fun s x => Mine.addReady s (some par) x) σ)
  | [], _, s, _, _, _ => s
  | x :: l, σ, s, h1, h2, h3 => SW.addReadies (l := l) (s.addReady (h1 x (.head _)) fun y hy => by cases hy; exact ⟨h2, h3 x (.head _)⟩) (fun j hj => h1 j (.tail _ hj)) (addReady_nd h2) fun j hj => h3 j (.tail _ hj)

/-- what a node waits for at its turn -/
noncomputable def expL (td : List Nat) (d : Nd) : List Nat := if d.exp = 0 then td else []
noncomputable def exp1 (d : Nd) : Nd := { d with exp := d.exp + 1 }
noncomputable def expS (σ : Sg) (td : List Nat) (k : Nat) (d : Nd) : Sg := addWait ((expL td d).foldl (fun s x => addReady s (some (k, exp1 d)) x) (σ.set k (exp1 d))) k (expL td d)
-- M28
section
variable {px : Px}
variable {n : Nat} {X : XT} {w : Wd} {σ : Sg} {H : Hp}

theorem upd_same {H : Hp} {l : Loc} {sp : Spec} (h : H l = some sp) : upd H l sp = H := by
  funext k
  by_cases e : k = l
  · rw [e, upd_self, h]
  · rw [upd_ne _ _ e]
theorem c_wait0 (O : (Cx px).Ok) {k : Nat} {d : Nd} {lt : Loc} (hd : w.dd = some σ) (hk : σ.nd k = some d) (h0 : lt.1 ≠ 0) (hlt : hp w lt = some (.list [])) (hN : ∀ l : Loc, l.1 ≠ 0 → H l = hp w l) :
    JCode (Cx px) (n + 4) X (.ref 436) [.loc (30, 0), .loc (40, k), .loc lt] [Str.ofString "calc"] [.bool true] (fun p H' => ∃ N', H' = ov N' H ∧ (p = .none ∧ N' = hp w)) H := by
  refine' con_fn O [(Str.ofString "self", .loc (30, 0)), (Str.ofString "node", .loc (40, k)), (Str.ofString "task_list", .loc lt), (Str.ofString "calc", .bool true)] ?ho ?hcd ?hbind ?hloc hN ?h ?hcell ?hco ?hgen ?hk
  case ho => refine' look_fn ?g; case g => show List.lookup _ (Mine.KH _) = _; k_is
  case hcd => show codeIn (Mine.KH _) _ _ = true; k_is
  case hbind =>
    intro c s vs us hK dd d'
    obtain ⟨u0, u1, u2, rfl, d0, d1, d2⟩ := dd.inv3
    obtain ⟨u3, rfl, d3⟩ := d'.inv1
    refine ⟨[(Str.ofString "self", u0), (Str.ofString "node", u1), (Str.ofString "task_list", u2), (Str.ofString "calc", u3)], ?_, .cons d0 (.cons d1 (.cons d2 (.cons d3 .nil)))⟩
    first
    | exact binds_K hK rfl (by (show List.lookup _ (Mine.KH _) = _); k_is) rfl rfl rfl
    | exact BindsTo.of_eq rfl
  case hloc => rfl
  case hcell => decide
  case hco => rfl
  case hgen => rfl
  case hk => rfl
  case h =>
    intro i hi QI hQI
    iterate 4 walk_at "mj"
    refine ⟨by first | exact Nat.zero_le _ | simp, al_tmp fun jl T1 hjl hjn hT1 hA1 hE1 => ?_⟩
    iterate 3 walk_at "mj"
    refine X_for (fun vs q H' => vs = [] ∧ H' = Fm (hp w) T1 i ((sto (fun y => List.lookup y [(Str.ofString "self", PV.loc (30, 0)), (Str.ofString "node", PV.loc (40, k)), (Str.ofString "task_list", PV.loc lt), (Str.ofString "calc", PV.bool true)].reverse) (Str.ofString "wait_for") (PV.loc (tmp jl))))) ?_
    iterate 1 walk_at "mj"
    refine ⟨.list lt, [], ⟨rfl, (Fm_nm h0).trans hlt⟩, ⟨rfl, rfl⟩, ?_, ?_, ?_⟩
    · rintro q H' ⟨-, rfl⟩
      exact ⟨(Fm_nm h0).trans hlt, _, _, (Fm_nm h0).trans hlt⟩
    · rintro q v H' hv
      cases hv
    rintro H' ⟨-, rfl⟩
    iterate 2 walk_at "mj"
    refine X_for (fun vs q H' => vs = [] ∧ H' = Fm (hp w) T1 i ((sto (fun y => List.lookup y [(Str.ofString "self", PV.loc (30, 0)), (Str.ofString "node", PV.loc (40, k)), (Str.ofString "task_list", PV.loc lt), (Str.ofString "calc", PV.bool true)].reverse) (Str.ofString "wait_for") (PV.loc (tmp jl))))) ?_
    iterate 1 walk_at "mj"
    refine ⟨.list (tmp jl), [], ⟨rfl, Fm_gett hjl hT1⟩, ⟨rfl, rfl⟩, ?_, ?_, ?_⟩
    · rintro q H' ⟨-, rfl⟩
      exact ⟨Fm_gett hjl hT1, _, _, Fm_gett hjl hT1⟩
    · rintro q v H' hv
      cases hv
    rintro H' ⟨-, rfl⟩
    iterate 5 walk_at "mj"
    refine t_bool ?_
    iterate 6 walk_at "mj"
    refine f_get O (ob_n hd hk) rfl (kaN _ _ (by decide)) ?_
    have h46 : hp w (46, k) = some (.set []) := (hp_n hd hk (by decide)).trans rfl
    refine m_set (vs := []) (Fm_get (by first | exact nz rfl | simp) h46) F.slot_set_update ty_set_update ?_
    iterate 4 walk_at "mj"
    refine c_update (K := []) (ks := []) (Fm_get (by first | exact nz rfl | simp) h46) (Fm_gett hjl hT1) (by simp) ?_
    rw [show saddAll [] [] = [] from rfl, upd_same (Fm_get (by first | exact nz rfl | simp) h46)]
    iterate 5 walk_at "mj"
    exact ⟨_, _, _, rfl, fun j sp e => hA1 _ _ e, rfl, rfl⟩
end
-- M29
section
variable {px : Px}
variable {n : Nat} {X : XT} {w : Wd} {σ : Sg} {H : Hp}

theorem upd_many (h : w.dd = some σ) {k : Nat} {d d' : Nd} (hk : σ.nd k = some d) : ∀ {U : List (Nat × Spec)}, (∀ b, ¬ b < 40 → hpN w.tk k d' b = (U.lookup b).orElse fun _ => hpN w.tk k d b) → (∀ x ∈ U, ¬ x.1 < 40) → U.foldr (fun x H => upd H (x.1, k) x.2) (hp w) = hp (w.sg (σ.set k d')) := by
  intro U hU hlt
  have gen : ∀ (U : List (Nat × Spec)), (∀ x ∈ U, ¬ x.1 < 40) → ∀ l : Loc, U.foldr (fun x H => upd H (x.1, k) x.2) (hp w) l = if l.2 = k ∧ ¬ l.1 < 40 then (U.lookup l.1).orElse (fun _ => hp w l) else hp w l := by
    intro U
    induction U with
    | nil => intro _ l; simp
    | cons x U ih =>
      intro hx l
      obtain ⟨a, s⟩ := x
      obtain ⟨b, j⟩ := l
      rw [List.foldr_cons]
      by_cases e : (b, j) = ((a, k) : Loc)
      · have hx1 := hx (a, s) (.head _)
        obtain ⟨e1, e2⟩ := Prod.mk.inj e
        rw [e1, e2, upd_self, if_pos ⟨rfl, hx1⟩]
        simp [List.lookup_cons]
      · rw [upd_ne _ _ e, ih (fun y hy => hx y (.tail _ hy))]
        by_cases hc : j = k ∧ ¬ b < 40
        · rw [if_pos hc, if_pos hc]
          have : (b == a) = false := beq_eq_false_iff_ne.mpr fun z => e (by rw [z, hc.1])
          simp [List.lookup_cons, this]
        · rw [if_neg hc, if_neg hc]
  funext l
  rw [gen U hlt]
  obtain ⟨b, j⟩ := l
  have base := congrFun (upd_n (w := w) (a := 40) (sp := .inst aNode (41, k)) (d' := d) h hk (by decide) fun b hb => by
    by_cases e : b = 40
    · rw [if_pos e, e]; rfl
    · rw [if_neg e]) (b, j)
  by_cases hc : j = k ∧ ¬ b < 40
  · obtain ⟨rfl, hb⟩ := hc
    rw [if_pos ⟨rfl, hb⟩, hp_n h hk hb, ← hU b hb]
    exact (hp_n (w := w.sg (σ.set j d')) rfl Sg.set_self hb).symm
  · rw [if_neg hc]
    have e2 : hp (w.sg (σ.set k d')) (b, j) = hp (w.sg (σ.set k d)) (b, j) := by
      unfold hp Wd.sg
      dsimp only
      by_cases hb : b < 40
      · simp only [hb, if_true]
        by_cases h20 : b < 20
        · simp only [h20, if_true]
        · simp only [h20, if_false]
          by_cases h30 : b < 30
          · simp only [h30, if_true]
          · simp only [h30, if_false]; rfl
      · have hj : j ≠ k := fun e => hc ⟨e, hb⟩
        simp only [hb, if_false, Sg.set_ne hj]
    rw [e2, ← base, upd_ne]
    intro e
    obtain ⟨e1, e2⟩ := Prod.mk.inj e
    exact hc ⟨e2, by lia⟩
theorem nodeAt_exp {k : Nat} {d : Nd} : ((sto (sto (nodeAt k d) (Str.ofString "calc_dep") (PV.loc (50 + 2 * d.exp, k))) (Str.ofString "task_dep") (PV.loc (51 + 2 * d.exp, k)))) = nodeAt k (exp1 d) := by
  unfold sto
  have e1 : tdk (d.exp + 1) = 51 + 2 * d.exp := by unfold tdk; rw [if_neg (by lia)]; lia
  have e2 : cdk (d.exp + 1) = 50 + 2 * d.exp := by unfold cdk; rw [if_neg (by lia)]; lia
  funext y
  by_cases h1 : y = Str.ofString "task_dep"
  · rw [if_pos h1, h1, ← e1]; rfl
  · rw [if_neg h1]
    by_cases h2 : y = Str.ofString "calc_dep"
    · rw [if_pos h2, h2, ← e2]; rfl
    · rw [if_neg h2]
      simp only [nodeAt, at_, if_neg h1, if_neg h2]
      rfl
theorem exp_step (h : w.dd = some σ) {k : Nat} {d : Nd} (hk : σ.nd k = some d) (he : d.exp ≤ 1) {A1 : Spec} :
    upd (upd (upd (upd (hp w) (50 + 2 * d.exp, k) (.list [])) (41, k) A1) (51 + 2 * d.exp, k) (.list [])) (41, k) (.attrs nodeNames (nodeAt k (exp1 d))) = hp (w.sg (σ.set k (exp1 d))) := by
  refine upd_many (U := [(41, .attrs nodeNames (nodeAt k (exp1 d))), (51 + 2 * d.exp, .list []), (41, A1), (50 + 2 * d.exp, .list [])]) h hk (fun b hb => ?_) (by simp; lia)
  rcases Nat.lt_or_ge b 54 with h | h
  · obtain ⟨e0, anc, wr, wm, ok, ph⟩ := d
    have : e0 = 0 ∨ e0 = 1 := by have : e0 ≤ 1 := he; lia
    clear hk he
    revert hb
    revert h
    revert b
    rcases this with rfl | rfl <;> (iterate 14 refine lt_step ?_ fun _ => rfl) <;> exact fun b h h' => absurd h h'
  · rw [hpN_none h, hpN_none h, look_far (m := 54) h (by simp; lia)]
    rfl
theorem nd_td {k : Nat} {d : Nd} {ts : TS} {tk : Nat → Option TS} (ht : tk k = some ts) (he : d.exp ≤ 1) : hpN tk k d (tdk d.exp) = some (.list (sL nm (expL ts.td d))) := by
  obtain ⟨e0, anc, wr, wm, ok, ph⟩ := d
  have : e0 = 0 ∨ e0 = 1 := by have : e0 ≤ 1 := he; lia
  rcases this with rfl | rfl
  · show some (Spec.list (sL nm ((tk k).elim [] (·.td)))) = _
    rw [ht]; rfl
  · rfl
theorem nd_cd {k : Nat} {d : Nd} {tk : Nat → Option TS} (he : d.exp ≤ 2) : hpN tk k d (cdk d.exp) = some (.list []) := by
  obtain ⟨e0, anc, wr, wm, ok, ph⟩ := d
  have : e0 = 0 ∨ e0 = 1 ∨ e0 = 2 := by have : e0 ≤ 2 := he; lia
  rcases this with rfl | rfl | rfl <;> rfl
theorem nd_td2 {k : Nat} {d : Nd} {tk : Nat → Option TS} (he : 1 ≤ d.exp) (he2 : d.exp ≤ 2) : hpN tk k d (tdk d.exp) = some (.list []) := by
  obtain ⟨e0, anc, wr, wm, ok, ph⟩ := d
  have : e0 = 1 ∨ e0 = 2 := by have : 1 ≤ e0 := he; have : e0 ≤ 2 := he2; lia
  rcases this with rfl | rfl <;> rfl
theorem nd_cd0 {k : Nat} {d : Nd} {tk : Nat → Option TS} (he : d.exp ≤ 1) : hpN tk k (exp1 d) (cdk d.exp) = some (.list []) := by
  obtain ⟨e0, anc, wr, wm, ok, ph⟩ := d
  have : e0 = 0 ∨ e0 = 1 := by have : e0 ≤ 1 := he; lia
  rcases this with rfl | rfl <;> rfl
theorem nd_no {k : Nat} {d : Nd} {tk : Nat → Option TS} (he : d.exp ≤ 1) : hpN tk k d (50 + 2 * d.exp) = none ∧ hpN tk k d (51 + 2 * d.exp) = none := by
  obtain ⟨e0, anc, wr, wm, ok, ph⟩ := d
  have : e0 = 0 ∨ e0 = 1 := by have : e0 ≤ 1 := he; lia
  rcases this with rfl | rfl <;> exact ⟨rfl, rfl⟩
theorem tdk_ge (e : Nat) : ¬ tdk e < 40 ∧ ¬ cdk e < 40 ∧ tdk e ≠ 0 ∧ cdk e ≠ 0 := by unfold tdk cdk; refine ⟨?_, ?_, ?_, ?_⟩ <;> split <;> lia
theorem upd_ph (h : w.dd = some σ) {k : Nat} {d : Nd} (hk : σ.nd k = some d) : upd (hp w) (41, k) (.attrs nodeNames (sto (nodeAt k d) (Str.ofString "phase") (.int 1))) = hp (w.sg (σ.set k { d with ph := true })) := by
  unfold sto
  refine upd_n h hk (by decide) fun b hb => ?_
  by_cases e : b = 41
  · subst e
    rw [if_pos rfl]
    show some (Spec.attrs nodeNames (nodeAt k { d with ph := true })) = _
    congr 2
    funext y
    by_cases h1 : y = Str.ofString "phase"
    · rw [if_pos h1, h1]; rfl
    · rw [if_neg h1]; simp only [nodeAt, at_, if_neg h1]
  · rw [if_neg e]
    unfold hpN
    split <;> first | rfl | lia
/-- the scheduler's data of the tasks -/
structure TD (w : Wd) (nt : Nat) (dp : Nat → List Nat) (tkv : List (Str × PV)) : Prop where
  ntz : nt ≤ 20
  tk : ∀ k, k < nt → ∃ ts, w.tk k = some ts ∧ ts.td = dp k
  dlt : ∀ k, ∀ j ∈ dp k, j < k
  dn : ∀ k, (dp k).Nodup
  ct : w.ct 22 = some (.dict tkv)
  get : ∀ k, k < nt → dget tkv (nm k) = some (.loc (1, k))
theorem TD.sg {nt : Nat} {dp : Nat → List Nat} {tkv : List (Str × PV)} (h : TD w nt dp tkv) {σ : Sg} : TD (w.sg σ) nt dp tkv := ⟨h.ntz, h.tk, h.dlt, h.dn, h.ct, h.get⟩
theorem TD.dz {nt : Nat} {dp : Nat → List Nat} {tkv : List (Str × PV)} (h : TD w nt dp tkv) {k : Nat} (hk : k ≤ 21) : (dp k).length ≤ 100 := by
  have := len21 21 _ (h.dn k) fun j hj => by have := h.dlt k j hj; lia
  lia
noncomputable def addTask (σ : Sg) (td : List Nat) (k : Nat) (d : Nd) : PV × Sg :=
  if d.ph then (.none, σ) else match (expS σ td k d).nd k with
    | some e => if e.wr = [] then (.str (Str.ofString "task"), (expS σ td k d).set k { e with ph := true }) else (.str (Str.ofString "wait"), expS σ td k d)
    | none => (.none, σ)
theorem expL_sub {td : List Nat} {d : Nd} {j : Nat} (h : j ∈ expL td d) : j ∈ td := by
  unfold expL at h
  split at h
  · exact h
  · cases h
theorem c_add_task (O : (Cx px).Ok) {k nt : Nat} {d : Nd} {dp : Nat → List Nat} {tkv : List (Str × PV)} (D : TD w nt dp tkv) (hd : w.dd = some σ) (hs : SW σ) (hk : σ.nd k = some d) (hkn : k < nt) (he : d.exp ≤ 1 ∨ d.ph = true) (ha : ∀ j ∈ d.anc, k ≤ j) (hN : ∀ l : Loc, l.1 ≠ 0 → H l = hp w l) :
    JCode (Cx px) (n + 6) X (.ref 443) [.loc (30, 0), .loc (40, k)] [] [] (fun p H' => ∃ N', H' = ov N' H ∧ (p = (addTask σ (dp k) k d).1 ∧ N' = hp (w.sg (addTask σ (dp k) k d).2))) H := by
  refine' con_fn O [(Str.ofString "self", .loc (30, 0)), (Str.ofString "node", .loc (40, k))] ?ho ?hcd ?hbind ?hloc hN ?h ?hcell ?hco ?hgen ?hk
  case ho => refine' look_fn ?g; case g => show List.lookup _ (Mine.KH _) = _; k_is
  case hcd => show codeIn (Mine.KH _) _ _ = true; k_is
  case hbind =>
    intro c s vs us _ d d'
    obtain ⟨u0, u1, rfl, d0, d1⟩ := d.inv2
    have := d'.inv0; subst this
    exact ⟨_, BindsTo.of_eq rfl, .cons d0 (.cons d1 (.nil))⟩
  case hloc => rfl
  case hcell => decide
  case hco => rfl
  case hgen => rfl
  case hk => rfl
  case h =>
    intro i hi QI hQI
    obtain ⟨ts, ht, htd⟩ := D.tk k hkn
    have hw : w.sg σ = w := sg_eta hd
    iterate 4 walk_at "mj"
    refine f_get O (ob_n hd hk) rfl (kaN _ _ (by decide)) ?_
    iterate 3 walk_at "mj"
    cases hph : d.ph with
    | true =>
      refine X_while (fun _ H' => H' = Fm (hp w) H i ((sto (fun y => List.lookup y [(Str.ofString "self", PV.loc (30, 0)), (Str.ofString "node", PV.loc (40, k))].reverse) (Str.ofString "this_task") (PV.loc (1, k))))) 0 rfl ?_
      rintro _ H' rfl
      iterate 3 walk_at "mj"
      refine f_get O (ob_n hd hk) rfl (kaN _ _ (by decide)) ?_
      iterate 1 walk_at "mj"
      rw [hph]
      refine op_eq ?_
      refine ⟨false, rfl, fun h => (nomatch h), fun _ => ?_⟩
      iterate 6 walk_at "mj"
      refine f_get O (ob_t ht) rfl (kaT _ _ (by decide)) ?_
      refine t_list (vs := []) (Fm_get (by first | exact nz rfl | simp) ((hp_t ht (by decide)).trans rfl)) (by simp) ?_
      refine ⟨fun h => (nomatch (show false = true from h)), fun _ => ?_⟩
      iterate 7 walk_at "mj"
      exact ⟨_, _, _, rfl, fun _ _ e => e, by rw [addTask, hph]; rfl, by rw [addTask, hph]; exact hw.symm ▸ rfl⟩
    | false =>
      have he : d.exp ≤ 1 := he.resolve_right (by rw [hph]; decide)
      refine X_while (fun _ H' => H' = Fm (hp w) H i ((sto (fun y => List.lookup y [(Str.ofString "self", PV.loc (30, 0)), (Str.ofString "node", PV.loc (40, k))].reverse) (Str.ofString "this_task") (PV.loc (1, k))))) 0 rfl ?_
      rintro _ H' rfl
      iterate 3 walk_at "mj"
      refine f_get O (ob_n hd hk) rfl (kaN _ _ (by decide)) ?_
      iterate 1 walk_at "mj"
      rw [hph]
      refine op_eq ?_
      refine ⟨true, rfl, fun _ => ?_, fun h => (nomatch h)⟩
      iterate 5 walk_at "mj"
      refine f_get O (ob_n hd hk) rfl (kaN _ _ (by decide)) ?_
      iterate 6 walk_at "mj"
      have no := nd_no (tk := w.tk) (k := k) he
      have q1 : ∀ a b : Nat, a ≠ b → ((a, k) : Loc) ≠ (b, k) := fun a b h e => h (congrArg Prod.fst e)
      have hI : hp w (40, k) = some (.inst aNode (41, k)) := (hp_n hd hk (by decide)).trans rfl
      have hA : hp w (41, k) = some (.attrs nodeNames (nodeAt k d)) := (hp_n hd hk (by decide)).trans rfl
      refine ⟨by first | exact Nat.zero_le _ | simp, ?_⟩
      refine al_nm (50 + 2 * d.exp, k) (by simp) ((hp_n hd hk (by lia)).trans no.1) ?_
      iterate 1 walk_at "mj"
      refine f_set O (l := (40, k)) (d := (41, k)) ⟨by simp, by simp, (upd_ne _ _ (q1 _ _ (by lia))).trans hI, (upd_ne _ _ (q1 _ _ (by lia))).trans hA⟩ (ksN _ _ (by decide)) (by decide) ?_
      iterate 6 walk_at "mj"
      refine f_get O (l := (40, k)) (d := (41, k)) ⟨by simp, by simp, (upd_ne _ _ (q1 _ _ (by lia))).trans ((upd_ne _ _ (q1 _ _ (by lia))).trans hI), upd_self ..⟩ rfl (kaN _ _ (by decide)) ?_
      refine ⟨sL nm (expL ts.td d), isListOf_loc (Fm_get (tdk_ge _).2.2.1 ((upd_ne _ _ (q1 _ _ (by have := tdk_ge d.exp; unfold tdk; split <;> lia))).trans ((upd_ne _ _ (q1 _ _ (by unfold tdk; split <;> lia))).trans ((hp_n hd hk (tdk_ge _).1).trans (nd_td ht he))))), ?_, ?_⟩
      · have := D.dz (k := k) (by have := D.ntz; lia)
        rw [← htd] at this
        unfold expL
        split <;> simp [sL]; lia
      refine al_tmp fun jt T1 hjt hjn hT1 hA1 hE1 => ?_
      iterate 6 walk_at "mj"
      refine ⟨by first | exact Nat.zero_le _ | simp, ?_⟩
      refine al_nm (51 + 2 * d.exp, k) (by simp) ((upd_ne _ _ (q1 _ _ (by lia))).trans ((upd_ne _ _ (q1 _ _ (by lia))).trans ((hp_n hd hk (by lia)).trans no.2))) ?_
      iterate 1 walk_at "mj"
      refine f_set O (l := (40, k)) (d := (41, k)) ⟨by simp, by simp, (upd_ne _ _ (q1 _ _ (by lia))).trans ((upd_ne _ _ (q1 _ _ (by lia))).trans ((upd_ne _ _ (q1 _ _ (by lia))).trans hI)), (upd_ne _ _ (q1 _ _ (by lia))).trans (upd_self ..)⟩ (ksN _ _ (by decide)) (by decide) ?_
      rw [nodeAt_exp, exp_step hd hk he]
      have hs1 : SW (σ.set k (exp1 d)) := hs.set hk (hs.anc k d hk) (hs.wr k d hk) (hs.wm k d hk)
      have hk1 : (σ.set k (exp1 d)).nd k = some (exp1 d) := Sg.set_self
      have hLt : ∀ x ∈ expL ts.td d, x < k := fun x hx => D.dlt k x (htd ▸ expL_sub hx)
      have hkl := hs.ltn hk
      iterate 2 walk_at "mj"
      refine X_for (fun vs q H' => vs = [] ∧ H' = Fm (hp (w.sg (σ.set k (exp1 d)))) T1 i ((sto (sto (sto (fun y => List.lookup y [(Str.ofString "self", PV.loc (30, 0)), (Str.ofString "node", PV.loc (40, k))].reverse) (Str.ofString "this_task") (PV.loc (1, k))) (Str.ofString "calc_dep_list") (PV.loc (cdk d.exp, k))) (Str.ofString "task_dep_list") (PV.loc (tmp jt))))) ?_
      iterate 1 walk_at "mj"
      have hcd : hp (w.sg (σ.set k (exp1 d))) (cdk d.exp, k) = some (.list []) := (hp_n rfl hk1 (tdk_ge _).2.1).trans (nd_cd0 he)
      refine ⟨.list (cdk d.exp, k), [], ⟨rfl, Fm_get (tdk_ge _).2.2.2 hcd⟩, ⟨rfl, rfl⟩, ?_, ?_, ?_⟩
      · rintro q H' ⟨-, rfl⟩
        exact ⟨Fm_get (tdk_ge _).2.2.2 hcd, _, _, Fm_get (tdk_ge _).2.2.2 hcd⟩
      · rintro q v H' hv
        cases hv
      rintro H' ⟨-, rfl⟩
      iterate 5 walk_at "mj"
      refine f_methK O (ob_d rfl) rfl (kmD_node_add_wait_run _) ?_
      refine' CW_KW O ?e [Str.ofString "calc"] ?_
      case e => (show keepIn (Mine.KH _) _ = true); k_is
      iterate 8 walk_at "mj"
      refine use_fn (c_wait0 O rfl hk1 (tdk_ge _).2.2.2 hcd fun l hl => Fm_nm hl) ?_
      rintro p N' ⟨rfl, rfl⟩
      iterate 2 walk_at "mj"
      have hT1' : T1 (tmp jt) = some (.list (sL nm (expL ts.td d))) := hT1
      have hla : ∀ j ∈ expL ts.td d, j ∉ (exp1 d).anc := fun j hj hm => by have h1 := ha j hm; have h2 := hLt j hj; lia
      have hlz : (expL ts.td d).length ≤ 100 := by
        have := D.dz (k := k) (by have := D.ntz; lia)
        rw [← htd] at this
        unfold expL
        split
        · exact this
        · simp
      have hln : (expL ts.td d).Nodup := by
        unfold expL
        split
        · rw [htd]; exact D.dn k
        · exact List.nodup_nil
      have hsq : ∀ q, SW (List.foldl (fun s x => addReady s (some (k, exp1 d)) x) (σ.set k (exp1 d)) (List.take q (expL ts.td d))) := fun q => SW.addReadies (par := (k, exp1 d)) hs1 (fun j hj => by have := hLt j (List.mem_of_mem_take hj); lia) hk1 fun j hj => hla j (List.mem_of_mem_take hj)
      have hkq : ∀ q, (List.foldl (fun s x => addReady s (some (k, exp1 d)) x) (σ.set k (exp1 d)) (List.take q (expL ts.td d))).nd k = some (exp1 d) := fun q => addReadies_nd (l := List.take q (expL ts.td d)) hk1
      refine X_for (fun vs q H' => ∃ f, H' = Fm (hp (w.sg (List.foldl (fun s x => addReady s (some (k, exp1 d)) x) (σ.set k (exp1 d)) (List.take q (expL ts.td d))))) T1 i (ovr ((sto (sto (sto (fun y => List.lookup y [(Str.ofString "self", PV.loc (30, 0)), (Str.ofString "node", PV.loc (40, k))].reverse) (Str.ofString "this_task") (PV.loc (1, k))) (Str.ofString "calc_dep_list") (PV.loc (cdk d.exp, k))) (Str.ofString "task_dep_list") (PV.loc (tmp jt)))) [Str.ofString "task_dep"] f)) ?_
      iterate 1 walk_at "mj"
      refine ⟨.list (tmp jt), sL nm (expL ts.td d), ⟨rfl, Fm_gett hjt hT1'⟩, ⟨_, by rw [ovr_self]; rfl⟩, ?_, ?_, ?_⟩
      · rintro q H' ⟨f, rfl⟩
        exact ⟨Fm_gett hjt hT1', _, _, Fm_gett hjt hT1'⟩
      · rintro q v H' hv ⟨f, rfl⟩
        have hq : q < (expL ts.td d).length := by have := (List.getElem?_eq_some_iff.mp hv).1; simpa [sL] using this
        have ev : v = .str (nm (expL ts.td d)[q]) := by simp only [sL, List.getElem?_map, List.getElem?_eq_getElem hq] at hv; exact (Option.some.inj hv).symm
        subst ev
        have hmq := List.getElem_mem hq
        have hlq := hLt _ hmq
        obtain ⟨tj, htj, htjd⟩ := D.tk (expL ts.td d)[q] (by lia)
        refine f_st ?_
        rw [ovr_st (by decide)]
        iterate 5 walk_at "mj"
        refine f_methK O (ob_d rfl) rfl (kmD_add_ready _) ?_
        iterate 6 walk_at "mj"
        refine use_fn (c_add_ready (w := w.sg (List.foldl (fun s x => addReady s (some (k, exp1 d)) x) (σ.set k (exp1 d)) (List.take q (expL ts.td d)))) (par := some (k, exp1 d)) O rfl (hsq q) (by lia) htj (by have := D.dz (k := (expL ts.td d)[q]) (by have := D.ntz; lia); rw [htjd]; lia) (fun x hx => by cases hx; exact ⟨hkq q, hla _ hmq⟩) D.ct (D.get _ (by lia)) fun l hl => Fm_nm hl) ?_
        rintro p N' ⟨rfl, rfl⟩
        iterate 3 walk_at "mj"
        rw [List.take_succ_eq_append_getElem hq, List.foldl_append]
        exact ⟨_, rfl⟩
      rintro H' ⟨f, rfl⟩
      rw [show (sL nm (expL ts.td d)).length = (expL ts.td d).length by simp [sL]]
      have hsz := hsq (expL ts.td d).length
      have hkz := hkq (expL ts.td d).length
      rw [List.take_length] at hsz hkz ⊢
      iterate 5 walk_at "mj"
      refine f_methK O (ob_d rfl) rfl (kmD_node_add_wait_run _) ?_
      iterate 6 walk_at "mj"
      have hcr : ∀ j ∈ expL ts.td d, ∃ e, (List.foldl (fun s x => addReady s (some (k, exp1 d)) x) (σ.set k (exp1 d)) (expL ts.td d)).nd j = some e := fun j hj => addReadies_new hj
      refine use_fn (c_wait1 (w := w.sg (List.foldl (fun s x => addReady s (some (k, exp1 d)) x) (σ.set k (exp1 d)) (expL ts.td d))) (ts := ts) (l := expL ts.td d) O rfl hsz hkz ht (by have := D.dz (k := k) (by have := D.ntz; lia); rw [htd]; lia) hcr hln hlz (Fm_gett hjt hT1') fun l hl => Fm_nm hl) ?_
      rintro p N' ⟨rfl, rfl⟩
      rw [show (w.sg (List.foldl (fun s x => addReady s (some (k, exp1 d)) x) (σ.set k (exp1 d)) (expL ts.td d))).sg (addWait (List.foldl (fun s x => addReady s (some (k, exp1 d)) x) (σ.set k (exp1 d)) (expL ts.td d)) k (expL ts.td d)) = w.sg (expS σ ts.td k d) from rfl]
      obtain ⟨e, hke, hee, hea⟩ : ∃ e, (expS σ ts.td k d).nd k = some e ∧ e.exp = d.exp + 1 ∧ e.ph = false := by
        unfold expS
        rw [addWait_nd, hkz]
        exact ⟨_, rfl, rfl, hph⟩
      have hfin : addTask σ (dp k) k d = if e.wr = [] then (.str (Str.ofString "task"), (expS σ ts.td k d).set k { e with ph := true }) else (.str (Str.ofString "wait"), expS σ ts.td k d) := by
        unfold addTask
        rw [hph, ← htd, if_neg (by decide), hke]
      have hA9 : ∀ j sp, H (tmp j) = some sp → T1 (tmp j) = some sp := fun j sp e => hA1 _ _ e
      iterate 8 walk_at "mj"
      refine f_get O (ob_n rfl hke) rfl (kaN _ _ (by decide)) ?_
      refine t_list (vs := []) (Fm_get (tdk_ge _).2.2.2 ((hp_n rfl hke (tdk_ge _).2.1).trans (nd_cd (by lia)))) (by simp) ?_
      refine ⟨fun _ => ?_, fun h => (nomatch (show false = true from h))⟩
      iterate 4 walk_at "mj"
      refine f_get O (ob_n rfl hke) rfl (kaN _ _ (by decide)) ?_
      refine t_list (vs := []) (Fm_get (tdk_ge _).2.2.1 ((hp_n rfl hke (tdk_ge _).1).trans (nd_td2 (by lia) (by lia)))) (by simp) ?_
      refine ⟨fun _ => ?_, fun h => (nomatch (show false = true from h))⟩
      iterate 9 walk_at "mj"
      refine f_get O (ob_n rfl hke) rfl (kaN _ _ (by decide)) ?_
      refine t_set (K := e.wr.map nm) (Fm_get (by first | exact nz rfl | simp) ((hp_n rfl hke (by decide)).trans rfl)) ?_
      by_cases hwr : e.wr = []
      · rw [hwr]
        refine ⟨fun _ => ?_, fun h => (nomatch (show false = true from h))⟩
        iterate 4 walk_at "mj"
        refine f_get O (ob_n rfl hke) rfl (kaN _ _ (by decide)) ?_
        refine t_set (K := []) (Fm_get (by first | exact nz rfl | simp) ((hp_n rfl hke (by decide)).trans rfl)) ?_
        refine ⟨fun _ => ?_, fun h => (nomatch (show false = true from h))⟩
        iterate 6 walk_at "mj"
        refine f_set O (ob_n rfl hke) (ksN _ _ (by decide)) (by decide) ?_
        rw [upd_ph (w := w.sg (expS σ ts.td k d)) rfl hke]
        iterate 10 walk_at "mj"
        refine ⟨_, _, _, rfl, hA9, ?_, ?_⟩
        · rw [hfin, if_pos hwr]; rfl
        · rw [hfin, if_pos hwr]; rfl
      · have : (!(e.wr.map nm).isEmpty) = true := by
          cases h : e.wr with
          | nil => exact absurd h hwr
          | cons x r => rfl
        rw [this]
        iterate 11 walk_at "mj"
        refine ⟨_, _, _, rfl, hA9, ?_, ?_⟩
        · rw [hfin, if_neg hwr]; rfl
        · rw [hfin, if_neg hwr]
end
-- M30
section
variable {px : Px}
variable {n : Nat} {X : XT} {w : Wd} {σ : Sg} {H : Hp}

theorem nodup_rev {l : List Nat} (h : l.Nodup) : l.reverse.Nodup := List.pairwise_reverse.mpr (h.imp fun q => Ne.symm q)
theorem upd_tr (hd : w.dd = some σ) {l : List Nat} : upd (hp w) (35, 0) (.list (sL nm l)) = hp (w.sg { σ with tr := l }) := by
  refine upd_d (σ' := { σ with tr := l }) hd (by decide) (by decide) rfl fun b h1 h2 => ?_
  have : b = 30 ∨ b = 31 ∨ b = 32 ∨ b = 33 ∨ b = 34 ∨ b = 35 ∨ 36 ≤ b := by lia
  rcases this with rfl | rfl | rfl | rfl | rfl | rfl | h
  · rfl
  · rfl
  · rfl
  · rfl
  · rfl
  · rfl
  · rw [if_neg (by lia)]
    unfold hpD
    split <;> first | lia | rfl
theorem SW.tr {l : List Nat} (s : SW σ) (h1 : ∀ j ∈ l, j < 21) (h2 : l.Nodup) : SW { σ with tr := l } := ⟨s.mem, s.lt, s.ordN, s.wtl, s.wtN, s.rdl, s.rdN, s.disj, h1, h2, s.anc, s.wr, s.wm⟩
/-- the next of the names that are left, from their end on -/
noncomputable def nxt (σ : Sg) : List Nat → Option Nat × Sg
  | [] => (none, { σ with tr := [] })
  | k :: r => match σ.nd k with
    | some _ => nxt σ r
    | none => (some k, gen { σ with tr := r.reverse } none k)
noncomputable def getNext (σ : Sg) : Option Nat × Sg := match σ.rd with
  | k :: r => (some k, { σ with rd := r })
  | [] => nxt σ σ.tr.reverse
noncomputable def curPV : Option Nat → PV
  | none => .none
  | some k => .loc (40, k)
theorem c_get_next (O : (Cx px).Ok) {nt : Nat} {dp : Nat → List Nat} {tkv : List (Str × PV)} (D : TD w nt dp tkv) (hd : w.dd = some σ) (hs : SW σ) (htr : ∀ j ∈ σ.tr, j < nt) (hN : ∀ l : Loc, l.1 ≠ 0 → H l = hp w l) :
    JCode (Cx px) (n + 6) X (.ref 450) [.loc (30, 0), .loc (34, 0), .loc (35, 0)] [] [] (fun p H' => ∃ N', H' = ov N' H ∧ (p = curPV (getNext σ).1 ∧ N' = hp (w.sg (getNext σ).2))) H := by
  refine' con_fn O [(Str.ofString "self", .loc (30, 0)), (Str.ofString "ready", .loc (34, 0)), (Str.ofString "tasks_to_run", .loc (35, 0))] ?ho ?hcd ?hbind ?hloc hN ?h ?hcell ?hco ?hgen ?hk
  case ho => refine' look_fn ?g; case g => show List.lookup _ (Mine.KH _) = _; k_is
  case hcd => show codeIn (Mine.KH _) _ _ = true; k_is
  case hbind =>
    intro c s vs us _ d d'
    obtain ⟨u0, u1, u2, rfl, d0, d1, d2⟩ := d.inv3
    have := d'.inv0; subst this
    exact ⟨_, BindsTo.of_eq rfl, .cons d0 (.cons d1 (.cons d2 (.nil)))⟩
  case hloc => rfl
  case hcell => decide
  case hco => rfl
  case hgen => rfl
  case hk => rfl
  case h =>
    intro i hi QI hQI
    have hw : w.sg σ = w := sg_eta hd
    have h34 : hp w (34, 0) = some (.list (nodes σ.rd)) := (hp_d hd (by decide) (by decide)).trans rfl
    iterate 4 walk_at "mj"
    refine t_list (Fm_get (by first | exact nz rfl | simp) h34) (by have := hs.rdn; simp [nodes]; lia) ?_
    cases hr : σ.rd with
    | cons k r =>
      refine ⟨fun _ => ?_, fun h => (nomatch (show true = false from h))⟩
      iterate 4 walk_at "mj"
      rw [hr] at h34
      refine m_list (Fm_get (by first | exact nz rfl | simp) h34) F.slot_list_pop ty_list_pop ?_
      iterate 4 walk_at "mj"
      refine c_pop0 (p := .loc (40, k)) (vs := nodes r) (Fm_get (by first | exact nz rfl | simp) h34) (by have := hs.rdn; rw [hr] at this; simp [nodes] at this ⊢; lia) ?_
      rw [Fm_mod (by simp), upd_rd hd]
      iterate 3 walk_at "mj"
      refine ⟨_, _, _, rfl, fun _ _ e => e, ?_, ?_⟩
      · rw [getNext, hr]; rfl
      · rw [getNext, hr]
    | nil =>
      have hg : getNext σ = nxt σ σ.tr.reverse := by rw [getNext, hr]
      refine ⟨fun h => (nomatch (show false = true from h)), fun _ => ?_⟩
      iterate 3 walk_at "mj"
      refine X_while (fun q H' => ∃ r f, q = r.length ∧ H' = Fm (hp (w.sg { σ with tr := r.reverse })) H i (ovr (fun y => List.lookup y [(Str.ofString "self", PV.loc (30, 0)), (Str.ofString "ready", PV.loc (34, 0)), (Str.ofString "tasks_to_run", PV.loc (35, 0))].reverse) [Str.ofString "task_name", Str.ofString "node"] f) ∧ nxt σ r = nxt σ σ.tr.reverse ∧ (∀ j ∈ r, j < nt) ∧ r.Nodup) σ.tr.reverse.length ⟨σ.tr.reverse, _, rfl, by rw [ovr_self, List.reverse_reverse]; exact congrArg (fun q => Fm (hp q) H i _) hw.symm, rfl, fun j hj => htr j (List.mem_reverse.mp hj), nodup_rev hs.trN⟩ ?_
      rintro q H' ⟨r, f, rfl, rfl, hx, hrl, hrn⟩
      have h35 : hp (w.sg { σ with tr := r.reverse }) (35, 0) = some (.list (sL nm r.reverse)) := (hp_d (σ := { σ with tr := r.reverse }) rfl (by decide) (by decide)).trans rfl
      have hrz : r.length ≤ 21 := len21 21 r hrn fun j hj => by have := hrl j hj; have := D.ntz; lia
      iterate 2 walk_at "mj"
      refine t_list (Fm_get (by first | exact nz rfl | simp) h35) (by simp [sL]; lia) ?_
      cases r with
      | nil =>
        refine ⟨fun h => (nomatch (show false = true from h)), fun _ => ?_⟩
        iterate 6 walk_at "mj"
        refine ⟨_, _, _, rfl, fun _ _ e => e, ?_, ?_⟩
        · rw [hg, ← hx]; rfl
        · rw [hg, ← hx]; rfl
      | cons k r =>
        have hkn := hrl k (.head _)
        obtain ⟨ts, ht, htd⟩ := D.tk k hkn
        have hne : (!(sL nm (k :: r).reverse).isEmpty) = true := by simp [sL]
        rw [hne]
        have e35 : sL nm (k :: r).reverse = sL nm r.reverse ++ [PV.str (nm k)] := by simp [sL]
        rw [e35] at h35
        refine ⟨fun _ => ?_, fun h => (nomatch (show true = false from h))⟩
        iterate 5 walk_at "mj"
        refine m_list (Fm_get (by first | exact nz rfl | simp) h35) F.slot_list_pop ty_list_pop ?_
        iterate 1 walk_at "mj"
        refine c_pop (p := .str (nm k)) (vs := sL nm r.reverse) (Fm_get (by first | exact nz rfl | simp) h35) (by simp [sL] at hrz ⊢; lia) ?_
        rw [Fm_mod (by simp), upd_tr (w := w.sg { σ with tr := (k :: r).reverse }) rfl]
        refine f_st ?_
        rw [ovr_st (by decide)]
        have hs' : SW { σ with tr := r.reverse } := hs.tr (fun j hj => by have := hrl j (.tail _ (List.mem_reverse.mp hj)); have := D.ntz; lia) (nodup_rev (List.nodup_cons.mp hrn).2)
        iterate 5 walk_at "mj"
        refine f_methK O (ob_d rfl) rfl (kmD_gen_node _) ?_
        iterate 6 walk_at "mj"
        refine use_fn (c_gen_node (w := w.sg { σ with tr := r.reverse }) (par := none) O rfl hs' (by have := D.ntz; lia) ht (by have := D.dz (k := k) (by have := D.ntz; lia); rw [htd]; lia) (fun x hx => nomatch hx) D.ct (D.get _ hkn) fun l hl => Fm_nm hl) ?_
        rintro p N' ⟨rfl, rfl⟩
        refine f_st ?_
        rw [ovr_st (by decide)]
        cases hk : σ.nd k with
        | none =>
          have hg2 : gen { σ with tr := r.reverse } none k = { ({ σ with tr := r.reverse } : Sg).set k (freshNd none k) with ord := σ.ord ++ [k] } := by simp only [gen, hk]
          have hk2 : (gen { σ with tr := r.reverse } none k).nd k = some (freshNd none k) := by rw [hg2]; exact Sg.set_self
          iterate 5 walk_at "mj"
          refine t_inst O (ob_n (σ := gen { σ with tr := r.reverse } none k) rfl hk2).e (ob_n (σ := gen { σ with tr := r.reverse } none k) rfl hk2).f (nbN _) (nlN _) ?_
          iterate 9 walk_at "mj"
          refine ⟨_, _, _, rfl, fun _ _ e => e, ?_, ?_⟩
          · rw [hg, ← hx]; simp only [nxt, hk]; rfl
          · rw [hg, ← hx]; simp only [nxt, hk]; rfl
        | some d =>
          have hg2 : gen { σ with tr := r.reverse } none k = { σ with tr := r.reverse } := by simp only [gen, hk]
          rw [hg2]
          iterate 5 walk_at "mj"
          refine t_none ?_
          iterate 5 walk_at "mj"
          refine ⟨r.length, by simp, r, _, rfl, rfl, ?_, fun j hj => hrl j (.tail _ hj), (List.nodup_cons.mp hrn).2⟩
          rw [← hx]; simp only [nxt, hk]
end
-- M31
section
variable {px : Px}
variable {n : Nat} {X : XT} {w : Wd} {σ : Sg} {H : Hp}

/-- a for over what is walked; nothing is raised in its body -/
theorem X_forI {C : Ctx} {F : FC} {n : Nat} {X : XT} {H : Hp} {x : Str} {np pos : Pos} {iter : Expr} {body : List Stmt} {Q : AF → Hp → Prop}
    (h : JE C F n X iter (fun p H₁ => ∃ r vs, ∃ Inv : Nat → Hp → Prop, IterOf H₁ p vs r ∧ Inv 0 H₁ ∧
      (∀ i H', Inv i H' → SrcOf H' vs r ∧ ∃ l sp, H' l = some sp) ∧
      (∀ i v H', vs[i]? = some v → Inv i H' → JStore C F x v (fun H'' => ∀ I : Hp → Prop, (∀ H3, Inv (i + 1) H3 → I H3) → JS C F n XF body (ForQ I Q) H'') H') ∧
      (∀ H', Inv vs.length H' → Q .next H')) H)
    (hs : autoParam (∀ env y, foldedSetIterable iter env y = pure y) Au.a7)
    (ht : autoParam (∀ it v, letOwnedTupleGo (.Name x np) it v = pure ()) Au.a7) : JX C F n X (.For (.Name x np) iter body [] pos) Q H := by
  intro A c s a i S
  refine wpAny_For (wpP (h A c s a i S) fun v s₁ p H₁ c₁ x₁ d₁ S₁ hq => ?_) (hs _)
  obtain ⟨r, vs, Inv, hit, inv0, hsrc, hturn, hend⟩ := hq
  refine src_iter S₁ d₁ hit fun I h' at0 sep0 S₂ => ?_
  have a₁ := a.ext x₁
  have i₁ := i.ext x₁
  rw [← FC.env_ext i x₁]
  refine codeAny_forLoop (ForI C c₁ r vs.length I Inv) (fun k s' => ?_) vs.length ⟨0, c₁, H₁, rfl, Nat.zero_le _, .refl _, S₂, sep0, at0, inv0⟩ (ht _)
  rintro ⟨j, c₂, H₂, rfl, hj, x₂, S₂, sep, at_, inv⟩
  have a₂ := a₁.ext x₂
  have i₂ := i₁.ext x₂
  rw [← FC.env_ext i₁ x₂]
  obtain ⟨hsr, l0, sp0, h0⟩ := hsrc j H₂ inv
  by_cases hlt : j < vs.length
  · refine src_item S₂ hsr at_ sep (List.getElem?_eq_getElem hlt) h0 fun h₃ v tk dv at₃ S₃ => ?_
    obtain ⟨o, ho⟩ := at₃.there
    have S₄ := S₃.freeze ho sep
    dsimp only
    refine wpAny_assign_Name ?_
    refine (wpV (hturn j _ H₂ (List.getElem?_eq_getElem hlt) inv A _ (c₂.freeze I o) _ v i₂.freeze (dv.sub fun l u => ⟨u, rfl⟩) S₄) fun _ s₅ H₅ c₅ x₅ S₅ h₅ => ?_)
    have h₅' := h₅ _ (fun _ q => q) A c₅ s₅ (a₂.freeze.ext x₅) (i₂.freeze.ext x₅) S₅
    rw [FC.env_ext i₂.freeze x₅] at h₅'
    refine (wpF0 h₅' fun f s₆ g H₆ c₆ x₆ d₆ S₆ q₆ => ?_)
    have x' := x₅.trans x₆
    obtain ⟨S₇, sep₇, e₇⟩ := S₆.thaw x' sep
    have xx : c.Ext { c₆ with fz := c₂.fz } := (x₁.trans x₂).trans (Cf.thaw x')
    have at₇ : SrcAt C { c₆ with fz := c₂.fz } s₆.heap I vs.length (j + 1) r := (at₃.ext (SrcU.of S₂ hsr) fun l u => x'.on l u).get fun o' ho' => by rw [ho] at ho'; cases ho'; exact e₇
    cases g with
    | next => have : f = .next := d₆; subst this; exact ⟨vs.length - (j + 1), by lia, j + 1, _, H₆, rfl, hlt, x₂.trans (Cf.thaw x'), S₇, sep₇, at₇, q₆⟩
    | cont => have : f = .cont := d₆; subst this; exact ⟨vs.length - (j + 1), by lia, j + 1, _, H₆, rfl, hlt, x₂.trans (Cf.thaw x'), S₇, sep₇, at₇, q₆⟩
    | brk => have : f = .brk := d₆; subst this; exact ⟨.next, H₆, _, xx, rfl, S₇, q₆⟩
    | ret p => obtain ⟨v', rfl, dv'⟩ := d₆; exact ⟨.ret p, H₆, _, xx, ⟨v', rfl, dv'.sub fun l u => ⟨u, rfl⟩⟩, S₇, q₆⟩
  · have hj' : j = vs.length := by lia
    subst hj'
    refine src_end a.handled S₂ hsr at_ sep h0 fun h₃ S₃ => ?_
    refine wpAny_execs_nil ?_
    exact ⟨.next, H₂, c₂, x₁.trans x₂, rfl, S₃, hend H₂ inv⟩

theorem E_not {C : Ctx} {F : FC} {n : Nat} {X : XT} {H : Hp} {e : Expr} {pos : Pos} {Q : PV → Hp → Prop} (h : JE C F n X e (fun p H₁ => JT C n X p (fun b H₂ => Q (.bool (!b)) H₂) H₁) H) : JE C F n X (.UnaryOp .Not e pos) Q H := by
  intro A c s a i S
  rw [arm_eval_UnaryOp]
  refine wpAny_bind (wpP (h A c s a i S) fun u s₁ p H₁ c₁ x₁ d₁ S₁ h₁ => wpAny_bind (wpAny_standAt (wpAny_holding (not_value (wpU (h₁.at a x₁ d₁ S₁) fun b s₂ H₂ c₂ x₂ S₂ q => ?_)))))
  exact ⟨.bool (!b), H₂, c₂, x₂, rfl, S₂, q⟩
theorem erase_nm {l : List Nat} {k : Nat} (hl : ∀ j ∈ l, j < 21) (hk : k < 21) : (l.map nm).erase (nm k) = (l.erase k).map nm := by
  induction l with
  | nil => rfl
  | cons x r ih =>
    have ih := ih fun j hj => hl j (.tail _ hj)
    rw [List.map_cons, List.erase_cons, List.erase_cons]
    by_cases e : x = k
    · rw [e]; simp
    · have : nm x ≠ nm k := fun q => e (nm_inj (hl x (.head _)) hk q)
      simp [e, this, ih]
/-- wn hears that k has ended -/
noncomputable def upd1 (k : Nat) (σ : Sg) (x : Nat) : Sg := match σ.nd x with
  | none => σ
  | some d => if d.wr.erase k = [] ∧ x ∈ σ.wt then { σ.set x { d with wr := d.wr.erase k } with rd := σ.rd ++ [x], wt := σ.wt.filter fun j => j ≠ x } else σ.set x { d with wr := d.wr.erase k }
noncomputable def updW (σ : Sg) (k : Nat) (l : List Nat) : Sg := l.foldl (upd1 k) σ
theorem upd1_nd {k x j : Nat} : (upd1 k σ x).nd j = if j = x then (σ.nd x).map fun d => { d with wr := d.wr.erase k } else σ.nd j := by
  unfold upd1
  cases h : σ.nd x with
  | none =>
    by_cases e : j = x
    · rw [if_pos e, e, h]; rfl
    · rw [if_neg e]
  | some d =>
    dsimp only
    by_cases e : j = x
    · rw [if_pos e, e]
      split
      · exact Sg.set_self
      · exact Sg.set_self
    · rw [if_neg e]
      split
      · exact Sg.set_ne e
      · exact Sg.set_ne e
theorem SW.upd1 {k x : Nat} (s : SW σ) : SW (upd1 k σ x) := by
  unfold Mine.upd1
  cases h : σ.nd x with
  | none => exact s
  | some d =>
    dsimp only
    have s' : SW (σ.set x { d with wr := d.wr.erase k }) := s.set h (s.anc x d h) ⟨fun j hj => (s.wr x d h).1 j (List.mem_of_mem_erase hj), (s.wr x d h).2.erase k⟩ (s.wm x d h)
    split
    · rename_i hc
      refine ⟨s'.mem, s'.lt, s'.ordN, fun j hj => s'.wtl j (List.mem_filter.mp hj).1, s'.wtN.filter _, fun j hj => ?_, ?_, fun j hj hm => ?_, s'.trl, s'.trN, s'.anc, s'.wr, s'.wm⟩
      · rcases List.mem_append.mp hj with hj | hj
        · exact s'.rdl j hj
        · rw [List.mem_singleton.mp hj]; exact ⟨_, Sg.set_self⟩
      · show (σ.rd ++ [x]).Nodup
        rw [List.nodup_append]
        exact ⟨s.rdN, by simp, fun y hy z hz => by rw [List.mem_singleton.mp hz]; exact fun q => s.disj y hy (q ▸ hc.2)⟩
      · have hm := List.mem_filter.mp hm
        rcases List.mem_append.mp hj with hj | hj
        · exact s.disj j hj hm.1
        · rw [List.mem_singleton.mp hj] at hm; simp at hm
    · exact s'
theorem updW_take {k : Nat} {l : List Nat} {q : Nat} (hq : q < l.length) : updW σ k (l.take (q + 1)) = upd1 k (updW σ k (l.take q)) l[q] := by
  unfold updW
  rw [List.take_succ_eq_append_getElem hq, List.foldl_append]; rfl
theorem SW.updW {k : Nat} : ∀ {l : List Nat} {σ : Sg}, SW σ → SW (updW σ k l)
  | [], _, s => s
  | x :: l, σ, s => SW.updW (l := l) (σ := Mine.upd1 k σ x) s.upd1
theorem updW_nd {k j : Nat} : ∀ {l : List Nat} {σ : Sg}, j ∉ l → (updW σ k l).nd j = σ.nd j
  | [], _, _ => rfl
  | x :: l, σ, h => by
    have e1 : j ≠ x := fun e => h (e ▸ .head _)
    have := updW_nd (k := k) (l := l) (σ := upd1 k σ x) (fun m => h (.tail _ m))
    rw [upd1_nd, if_neg e1] at this
    exact this
theorem updW_some {k j : Nat} : ∀ {l : List Nat} {σ : Sg} {d : Nd}, σ.nd j = some d → ∃ e, (updW σ k l).nd j = some e ∧ e.ok = d.ok
  | [], _, d, h => ⟨d, h, rfl⟩
  | x :: l, σ, d, h => by
    by_cases e : j = x
    · have h1 : (upd1 k σ x).nd j = some { d with wr := d.wr.erase k } := by rw [upd1_nd, if_pos e, ← e, h]; rfl
      obtain ⟨e', a, b⟩ := updW_some (l := l) (σ := upd1 k σ x) h1
      exact ⟨e', a, b⟩
    · have h1 : (upd1 k σ x).nd j = some d := by rw [upd1_nd, if_neg e, h]
      exact updW_some (l := l) (σ := upd1 k σ x) h1
theorem upd_wt (hd : w.dd = some σ) {l : List Nat} : upd (hp w) (33, 0) (.dict (nodeD l)) = hp (w.sg { σ with wt := l }) := by
  refine upd_d (σ' := { σ with wt := l }) hd (by decide) (by decide) rfl fun b h1 h2 => ?_
  have : b = 30 ∨ b = 31 ∨ b = 32 ∨ b = 33 ∨ b = 34 ∨ b = 35 ∨ 36 ≤ b := by lia
  rcases this with rfl | rfl | rfl | rfl | rfl | rfl | h
  · rfl
  · rfl
  · rfl
  · rfl
  · rfl
  · rfl
  · rw [if_neg (by lia)]
    unfold hpD
    split <;> first | lia | rfl
theorem c_update0 (O : (Cx px).Ok) (hd : w.dd = some σ) (hN : ∀ l : Loc, l.1 ≠ 0 → H l = hp w l) :
    JCode (Cx px) (n + 6) X (.ref 457) [.loc (30, 0), .none] [] [] (fun p H' => ∃ N', H' = ov N' H ∧ (p = .none ∧ N' = hp w)) H := by
  refine' con_fn O [(Str.ofString "self", .loc (30, 0)), (Str.ofString "processed", .none)] ?ho ?hcd ?hbind ?hloc hN ?h ?hcell ?hco ?hgen ?hk
  case ho => refine' look_fn ?g; case g => show List.lookup _ (Mine.KH _) = _; k_is
  case hcd => show codeIn (Mine.KH _) _ _ = true; k_is
  case hbind =>
    intro c s vs us _ d d'
    obtain ⟨u0, u1, rfl, d0, d1⟩ := d.inv2
    have := d'.inv0; subst this
    exact ⟨_, BindsTo.of_eq rfl, .cons d0 (.cons d1 (.nil))⟩
  case hloc => rfl
  case hcell => decide
  case hco => rfl
  case hgen => rfl
  case hk => rfl
  case h =>
    intro i hi QI hQI
    iterate 5 walk_at "mj"
    refine op_is ?_
    refine ⟨true, rfl, fun _ => ?_, fun h => (nomatch h)⟩
    iterate 5 walk_at "mj"
    exact ⟨_, _, _, rfl, fun _ _ e => e, rfl, rfl⟩
theorem c_update1 (O : (Cx px).Ok) {nt k : Nat} {d : Nd} {dp : Nat → List Nat} {tkv : List (Str × PV)} (D : TD w nt dp tkv) (hd : w.dd = some σ) (hs : SW σ) (hk : σ.nd k = some d) (hok : d.ok = true) (hnt : ∀ j d, σ.nd j = some d → j < nt)
    (hwm : ∀ x ∈ d.wm, ∃ e, σ.nd x = some e ∧ k ∈ e.wr) (hN : ∀ l : Loc, l.1 ≠ 0 → H l = hp w l) :
    JCode (Cx px) (n + 6) X (.ref 457) [.loc (30, 0), .loc (40, k)] [] [] (fun p H' => ∃ N', H' = ov N' H ∧ (p = .none ∧ N' = hp (w.sg (updW σ k d.wm)))) H := by
  refine' con_fn O [(Str.ofString "self", .loc (30, 0)), (Str.ofString "processed", .loc (40, k))] ?ho ?hcd ?hbind ?hloc hN ?h ?hcell ?hco ?hgen ?hk
  case ho => refine' look_fn ?g; case g => show List.lookup _ (Mine.KH _) = _; k_is
  case hcd => show codeIn (Mine.KH _) _ _ = true; k_is
  case hbind =>
    intro c s vs us _ d d'
    obtain ⟨u0, u1, rfl, d0, d1⟩ := d.inv2
    have := d'.inv0; subst this
    exact ⟨_, BindsTo.of_eq rfl, .cons d0 (.cons d1 (.nil))⟩
  case hloc => rfl
  case hcell => decide
  case hco => rfl
  case hgen => rfl
  case hk => rfl
  case h =>
    intro i hi QI hQI
    have hw : w.sg σ = w := sg_eta hd
    have hkl := hs.ltn hk
    iterate 5 walk_at "mj"
    refine op_is ?_
    refine ⟨false, rfl, fun h => (nomatch h), fun _ => ?_⟩
    iterate 12 walk_at "mj"
    refine f_get O (ob_n hd hk) rfl (kaN _ _ (by decide)) ?_
    refine t_bool ?_
    iterate 8 walk_at "mj"
    refine f_get O (ob_n hd hk) rfl (kaN _ _ (by decide)) ?_ (run_handed _)
    iterate 1 walk_at "mj"
    rw [hok]
    refine op_eqS ?_
    refine ⟨false, congrArg PV.bool (by decide), fun h => (nomatch h), fun _ => ?_⟩
    iterate 3 walk_at "mj"
    have h47 : hp w (47, k) = some (.dict (nodeD d.wm)) := (hp_n hd hk (by decide)).trans rfl
    refine X_forI ?_
    iterate 8 walk_at "mj"
    refine f_get O (ob_n hd hk) rfl (kaN _ _ (by decide)) ?_
    refine m_dict (Fm_get (by first | exact nz rfl | simp) h47) F.slot_dict_values ty_dict_values ?_
    iterate 1 walk_at "mj"
    refine c_values O (Fm_get (by first | exact nz rfl | simp) h47) (al_tmp fun jv T1 hjv hjvn hT1 hA1 hE1 => ?_)
    iterate 1 walk_at "mj"
    refine c_list_values O (l := (47, k)) (kvs := nodeD d.wm) (Fm_get (by first | exact nz rfl | simp) h47) (Fm_gett hjv hT1) (by have := hs.wmz hk; simp [nodeD]; lia) (al_tmp fun jl T2 hjl hjln hT2 hA2 hE2 => ?_)
    have eL : (nodeD d.wm).map (·.2) = nodes d.wm := by simp [nodeD, nodes]
    rw [eL] at hT2
    have hA : ∀ j sp, H (tmp j) = some sp → T2 (tmp j) = some sp := fun j sp e => hA2 _ _ (hA1 _ _ e)
    have hjn : H (tmp jl) = none := by
      cases e : H (tmp jl) with
      | none => rfl
      | some sp => have := hA1 _ _ e; rw [hjln] at this; cases this
    refine ⟨.list (tmp jl), nodes d.wm, fun q H' => ∃ T' f, H' = Fm (hp (w.sg (updW σ k (d.wm.take q)))) T' i (ovr ((sto (fun y => List.lookup y [(Str.ofString "self", PV.loc (30, 0)), (Str.ofString "processed", PV.loc (40, k))].reverse) (Str.ofString "node") (PV.loc (40, k)))) [Str.ofString "waiting_node", Str.ofString "task_name", Str.ofString "is_ready"] f) ∧ (∀ j sp, H (tmp j) = some sp → T' (tmp j) = some sp) ∧ T' (tmp jl) = some (.list (nodes d.wm)), ⟨rfl, Fm_gett hjl hT2⟩, ⟨T2, _, by rw [ovr_self]; exact congrArg (fun q => Fm (hp q) T2 i _) hw.symm, hA, hT2⟩, ?_, ?_, ?_⟩
    · rintro q H' ⟨T', f, rfl, hA', hL⟩
      exact ⟨Fm_gett hjl hL, _, _, Fm_gett hjl hL⟩
    · rintro q v H' hv ⟨T', f, rfl, hA', hL⟩
      have hq : q < d.wm.length := by have := (List.getElem?_eq_some_iff.mp hv).1; simpa [nodes] using this
      have ev : v = .loc (40, d.wm[q]) := by simp only [nodes, List.getElem?_map, List.getElem?_eq_getElem hq] at hv; exact (Option.some.inj hv).symm
      subst ev
      obtain ⟨e0, he0, hke0⟩ := hwm _ (List.getElem_mem hq)
      have hnot : d.wm[q] ∉ d.wm.take q := fun hm => by
        obtain ⟨r, hr, e⟩ := List.getElem_of_mem hm
        rw [List.length_take] at hr
        rw [List.getElem_take] at e
        have := (List.getElem_inj (hs.wm k d hk).2).mp e
        lia
      have he : (updW σ k (d.wm.take q)).nd d.wm[q] = some e0 := (updW_nd hnot).trans he0
      obtain ⟨dk, hdk, hdok⟩ := updW_some (k := k) (l := d.wm.take q) hk
      have hsq : SW (updW σ k (d.wm.take q)) := SW.updW hs
      obtain ⟨ts, ht, htd⟩ := D.tk k (hnt k d hk)
      obtain ⟨tx, htx, htxd⟩ := D.tk d.wm[q] (hnt _ _ he0)
      have hxl := hs.ltn he0
      have hstep := updW_take (σ := σ) (k := k) hq
      have hwq : (w.sg (updW σ k (d.wm.take q))).tk = w.tk := rfl
      refine f_st ?_
      rw [ovr_st (by decide)]
      iterate 5 walk_at "mj"
      refine f_methK O (ob_n rfl he) rfl (kmN_parent_status _) ?_
      iterate 4 walk_at "mj"
      refine use_fn (c_parent_status (w := w.sg (updW σ k (d.wm.take q))) O rfl he hdk fun l hl => Fm_nm hl) ?_
      rintro p N' ⟨rfl, rfl⟩
      iterate 6 walk_at "mj"
      refine f_get O (ob_n rfl hdk) rfl (kaN _ _ (by decide)) ?_
      iterate 0 walk_at "mj"
      refine f_get O (ob_t (w := w.sg (updW σ k (d.wm.take q))) ht) rfl (kaT _ _ (by decide)) ?_
      refine f_st ?_
      rw [ovr_st (by decide)]
      iterate 7 walk_at "mj"
      refine f_get O (ob_n rfl he) rfl (kaN _ _ (by decide)) ?_
      have h45 : hp (w.sg (updW σ k (d.wm.take q))) (45, d.wm[q]) = some (.set (e0.wr.map nm)) := (hp_n rfl he (by decide)).trans rfl
      refine op_in_set O (K := e0.wr.map nm) (Fm_get (by first | exact nz rfl | simp) h45) ?_
      rw [decide_eq_true ((mem_nm (hs.wr _ _ he0).1 hkl).mpr hke0)]
      refine ⟨true, rfl, fun _ => ?_, fun h => (nomatch h)⟩
      iterate 5 walk_at "mj"
      refine f_get O (ob_n rfl he) rfl (kaN _ _ (by decide)) ?_
      refine m_set (Fm_get (by first | exact nz rfl | simp) h45) F.slot_set_remove ty_set_remove ?_
      iterate 4 walk_at "mj"
      refine c_remove (Fm_get (by first | exact nz rfl | simp) h45) ((mem_nm (hs.wr _ _ he0).1 hkl).mpr hke0) ?_
      rw [Fm_mod (by simp), erase_nm (hs.wr _ _ he0).1 hkl, upd_wr (w := w.sg (updW σ k (d.wm.take q))) rfl he]
      have he2 : ((updW σ k (d.wm.take q)).set d.wm[q] { e0 with wr := e0.wr.erase k }).nd d.wm[q] = some { e0 with wr := e0.wr.erase k } := Sg.set_self
      iterate 3 walk_at "mj"
      have hu : upd1 k (updW σ k (d.wm.take q)) d.wm[q] = if e0.wr.erase k = [] ∧ d.wm[q] ∈ (updW σ k (d.wm.take q)).wt then { (updW σ k (d.wm.take q)).set d.wm[q] { e0 with wr := e0.wr.erase k } with rd := (updW σ k (d.wm.take q)).rd ++ [d.wm[q]], wt := (updW σ k (d.wm.take q)).wt.filter fun j => j ≠ d.wm[q] } else (updW σ k (d.wm.take q)).set d.wm[q] { e0 with wr := e0.wr.erase k } := by
        unfold upd1
        rw [he]
      have hwtl : ∀ j ∈ (updW σ k (d.wm.take q)).wt, j < 21 := fun j hj => hsq.ltc (hsq.wtl j hj)
      refine E_not (E_or2 ?_)
      iterate 2 walk_at "mj"
      refine f_get O (ob_n (w := w.sg (updW σ k (d.wm.take q)) |>.sg _) rfl he2) rfl (kaN _ _ (by decide)) ?_
      have h45' : hp (((w.sg (updW σ k (d.wm.take q)))).sg ((updW σ k (d.wm.take q)).set d.wm[q] { e0 with wr := e0.wr.erase k })) (45, d.wm[q]) = some (.set ((e0.wr.erase k).map nm)) := (hp_n rfl he2 (by decide)).trans rfl
      have h46' : hp (((w.sg (updW σ k (d.wm.take q)))).sg ((updW σ k (d.wm.take q)).set d.wm[q] { e0 with wr := e0.wr.erase k })) (46, d.wm[q]) = some (.set []) := (hp_n rfl he2 (by decide)).trans rfl
      refine t_set (Fm_get (by first | exact nz rfl | simp) h45') ?_
      by_cases hwr : e0.wr.erase k = []
      · have e0' : (!((e0.wr.erase k).map nm).isEmpty) = false := by rw [hwr]; rfl
        rw [e0']
        iterate 3 walk_at "mj"
        refine f_get O (ob_n rfl he2) rfl (kaN _ _ (by decide)) ?_
        refine t_set (Fm_get (by first | exact nz rfl | simp) h46') ?_
        refine f_st ?_
        rw [ovr_st (by decide)]
        iterate 9 walk_at "mj"
        refine t_bool ?_
        refine ⟨fun _ => ?_, fun h => (nomatch (show true = false from h))⟩
        iterate 5 walk_at "mj"
        refine f_get O (ob_n rfl he2) rfl (kaN _ _ (by decide)) ?_
        iterate 0 walk_at "mj"
        refine f_get O (ob_t (w := ((w.sg (updW σ k (d.wm.take q)))).sg ((updW σ k (d.wm.take q)).set d.wm[q] { e0 with wr := e0.wr.erase k })) htx) rfl (kaT _ _ (by decide)) ?_
        iterate 2 walk_at "mj"
        refine f_get O (ob_d rfl) rfl (kaD _ _ (by decide)) ?_
        have h33 : hp (((w.sg (updW σ k (d.wm.take q)))).sg ((updW σ k (d.wm.take q)).set d.wm[q] { e0 with wr := e0.wr.erase k })) (33, 0) = some (.dict (nodeD (updW σ k (d.wm.take q)).wt)) := (hp_d (σ := (updW σ k (d.wm.take q)).set d.wm[q] { e0 with wr := e0.wr.erase k }) rfl (by decide) (by decide)).trans rfl
        refine op_in_dict O (Fm_get (by first | exact nz rfl | simp) h33) ?_
        rw [dget_nodeD hwtl hxl]
        by_cases hm : d.wm[q] ∈ (updW σ k (d.wm.take q)).wt
        · rw [if_pos hm]
          refine ⟨true, rfl, fun _ => ?_, fun h => (nomatch h)⟩
          iterate 7 walk_at "mj"
          refine f_get O (ob_d rfl) rfl (kaD _ _ (by decide)) ?_
          have h34 : hp (((w.sg (updW σ k (d.wm.take q)))).sg ((updW σ k (d.wm.take q)).set d.wm[q] { e0 with wr := e0.wr.erase k })) (34, 0) = some (.list (nodes (updW σ k (d.wm.take q)).rd)) := (hp_d (σ := (updW σ k (d.wm.take q)).set d.wm[q] { e0 with wr := e0.wr.erase k }) rfl (by decide) (by decide)).trans rfl
          refine m_list (Fm_get (by first | exact nz rfl | simp) h34) F.slot_list_append ty_list_append ?_
          iterate 4 walk_at "mj"
          refine c_append (Fm_get (by first | exact nz rfl | simp) h34) (by have := hsq.rdn; simp [nodes]; lia) ?_
          rw [Fm_mod (by simp), show nodes (updW σ k (d.wm.take q)).rd ++ [PV.loc (40, d.wm[q])] = nodes ((updW σ k (d.wm.take q)).rd ++ [d.wm[q]]) by simp [nodes], upd_rd (w := ((w.sg (updW σ k (d.wm.take q)))).sg ((updW σ k (d.wm.take q)).set d.wm[q] { e0 with wr := e0.wr.erase k })) rfl]
          iterate 5 walk_at "mj"
          refine f_get O (ob_d rfl) rfl (kaD _ _ (by decide)) ?_
          iterate 3 walk_at "mj"
          refine f_get O (l := (40, d.wm[q])) (ob_n (σ := { (updW σ k (d.wm.take q)).set d.wm[q] { e0 with wr := e0.wr.erase k } with rd := (updW σ k (d.wm.take q)).rd ++ [d.wm[q]] }) rfl he2) rfl (kaN _ _ (by decide)) ?_
          iterate 0 walk_at "mj"
          refine f_get O (ob_t (k := d.wm[q]) htx) rfl (kaT _ _ (by decide)) ?_
          refine op_delitem O (kvs := nodeD (updW σ k (d.wm.take q)).wt) (Fm_get (by first | exact nz rfl | simp) ((hp_d (σ := { (updW σ k (d.wm.take q)).set d.wm[q] { e0 with wr := e0.wr.erase k } with rd := (updW σ k (d.wm.take q)).rd ++ [d.wm[q]] }) rfl (by decide) (by decide)).trans rfl)) (by have := hsq.wtn; simp [nodeD]; lia) (by rw [dget_nodeD hwtl hxl, if_pos hm]; rfl) ?_
          rw [Fm_mod (by simp), ddel_nodeD hwtl hxl, upd_wt (σ := { (updW σ k (d.wm.take q)).set d.wm[q] { e0 with wr := e0.wr.erase k } with rd := (updW σ k (d.wm.take q)).rd ++ [d.wm[q]] }) rfl]
          iterate 5 walk_at "mj"
          dsimp only
          rw [hstep, hu, if_pos ⟨hwr, hm⟩]
          exact ⟨T', _, rfl, hA', hL⟩
        · rw [if_neg hm]
          refine ⟨false, rfl, fun h => (nomatch h), fun _ => ?_⟩
          iterate 5 walk_at "mj"
          dsimp only
          rw [hstep, hu, if_neg fun h => hm h.2]
          exact ⟨T', _, rfl, hA', hL⟩
      · have e0' : (!((e0.wr.erase k).map nm).isEmpty) = true := by
          cases h : e0.wr.erase k with
          | nil => exact absurd h hwr
          | cons x r => rfl
        rw [e0']
        iterate 1 walk_at "mj"
        refine t_set (Fm_get (by first | exact nz rfl | simp) h45') ?_
        rw [e0']
        refine f_st ?_
        rw [ovr_st (by decide)]
        iterate 9 walk_at "mj"
        refine t_bool ?_
        refine ⟨fun h => (nomatch (show false = true from h)), fun _ => ?_⟩
        iterate 5 walk_at "mj"
        dsimp only
        rw [hstep, hu, if_neg fun h => hwr h.1]
        exact ⟨T', _, rfl, hA', hL⟩
    · rintro H' ⟨T', f, rfl, hA', hL⟩
      rw [show (nodes d.wm).length = d.wm.length by simp [nodes], List.take_length]
      iterate 3 walk_at "mj"
      exact ⟨_, _, _, rfl, hA', rfl, rfl⟩
end
-- M32
/-! the scheduler's law: what holds of its state -/
structure LI (nt : Nat) (dp : Nat → List Nat) (ex : Option Nat) (pd : Nat → Nat → Prop) (σ : Sg) : Prop where
  sw : SW σ
  lt : ∀ j d, σ.nd j = some d → j < nt
  anc : ∀ j d, σ.nd j = some d → ∀ x ∈ d.anc, j ≤ x
  e0 : ∀ j d, σ.nd j = some d → ex ≠ some j → d.exp = 0 → d.wr = [] ∧ d.ph = false ∧ d.ok = false ∧ (j ∈ σ.rd ∨ σ.cur = some j)
  e1 : ∀ j d, σ.nd j = some d → ex ≠ some j → 1 ≤ d.exp → (∀ x ∈ dp j, ∃ e, σ.nd x = some e) ∧ ∀ x, x ∈ d.wr ↔ x ∈ dp j ∧ (okn σ x = false ∨ pd x j)
  wmi : ∀ j d x, σ.nd j = some d → d.ok = false → (x ∈ d.wm ↔ ∃ e, σ.nd x = some e ∧ j ∈ e.wr)
  ph : ∀ j d, σ.nd j = some d → d.ph = true → 1 ≤ d.exp ∧ d.wr = []
  w1 : ∀ j d, σ.nd j = some d → ex ≠ some j → 1 ≤ d.exp → d.ph = false → d.exp = 1 ∧ (d.wr ≠ [] → j ∈ σ.wt) ∧ (d.wr = [] → j ∈ σ.rd ∨ σ.cur = some j)
  wt : ∀ j ∈ σ.wt, ∃ d, σ.nd j = some d ∧ d.exp = 1 ∧ d.ph = false ∧ d.wr ≠ []
  rd : ∀ j ∈ σ.rd, ∃ d, σ.nd j = some d ∧ d.exp ≤ 1 ∧ d.ph = false ∧ d.wr = []
  ok : ∀ j d, σ.nd j = some d → d.ok = true → d.ph = true
  trl : ∀ j ∈ σ.tr, j < nt
  all : ∀ j, j < nt → j ∈ σ.tr ∨ ∃ d, σ.nd j = some d
  cur : ∀ k, σ.cur = some k → ∃ d, σ.nd k = some d ∧ k ∉ σ.rd ∧ k ∉ σ.wt ∧ (d.ph = true ∨ (d.exp ≤ 1 ∧ d.wr = [] ∧ d.ph = false))
section
variable {nt : Nat} {dp : Nat → List Nat} {ex : Option Nat} {pd : Nat → Nat → Prop} {σ : Sg}
theorem okn_of {j : Nat} {d : Nd} (h : σ.nd j = some d) : okn σ j = d.ok := by unfold okn; rw [h]; rfl
theorem okn_none {j : Nat} (h : σ.nd j = none) : okn σ j = false := by unfold okn; rw [h]; rfl
/-- a node that has not ended waits for nothing that is not there -/
theorem LI.wrc (I : LI nt dp ex pd σ) (hex : ∀ k, ex = some k → ∀ d, σ.nd k = some d → d.wr = []) {j : Nat} {d : Nd} (h : σ.nd j = some d) {x : Nat} (hx : x ∈ d.wr) : ∃ e, σ.nd x = some e := by
  by_cases hj : ex = some j
  · rw [hex j hj d h] at hx; cases hx
  · by_cases h0 : d.exp = 0
    · rw [(I.e0 j d h hj h0).1] at hx; cases hx
    · obtain ⟨h1, h2⟩ := I.e1 j d h hj (by lia)
      exact h1 x ((h2 x).mp hx).1
theorem SW.rdsub {l : List Nat} (s : SW σ) (h1 : ∀ j ∈ l, j ∈ σ.rd) (h2 : l.Nodup) : SW { σ with rd := l } :=
  ⟨s.mem, s.lt, s.ordN, s.wtl, s.wtN, fun j hj => s.rdl j (h1 j hj), h2, fun j hj => s.disj j (h1 j hj), s.trl, s.trN, s.anc, s.wr, s.wm⟩
theorem SW.cur {c : Option Nat} (s : SW σ) : SW { σ with cur := c } := ⟨s.mem, s.lt, s.ordN, s.wtl, s.wtN, s.rdl, s.rdN, s.disj, s.trl, s.trN, s.anc, s.wr, s.wm⟩

/-- a fresh node -/
theorem LI.fresh (I : LI nt dp ex pd σ) (hex : ∀ k, ex = some k → ∃ d, σ.nd k = some d ∧ d.wr = []) {k : Nat} {f : Nd} (hk : σ.nd k = none) (hkn : k < nt) (hf : f.exp = 0 ∧ f.wr = [] ∧ f.wm = [] ∧ f.ok = false ∧ f.ph = false) (ha : ∀ x ∈ f.anc, k ≤ x)
    {σ' : Sg} (hn : σ'.nd = fun j => if j = k then some f else σ.nd j) (hwt : σ'.wt = σ.wt) (hs : SW σ') (hrd : (σ'.rd = σ.rd ++ [k] ∧ σ'.cur = σ.cur) ∨ (σ'.rd = σ.rd ∧ σ.cur = none ∧ σ'.cur = some k))
    (htr : ∀ j ∈ σ'.tr, j ∈ σ.tr) (htr2 : ∀ j ∈ σ.tr, j ∈ σ'.tr ∨ j = k) : LI nt dp ex pd σ' := by
  have nk : σ'.nd k = some f := by rw [hn]; simp
  have nj : ∀ j, j ≠ k → σ'.nd j = σ.nd j := fun j h => by rw [hn]; simp [h]
  have old : ∀ j d, σ.nd j = some d → j ≠ k := fun j d h e => by rw [e, hk] at h; cases h
  have up : ∀ j d, σ.nd j = some d → σ'.nd j = some d := fun j d h => (nj j (old j d h)).trans h
  have cs : ∀ j d, σ'.nd j = some d → (j = k ∧ d = f) ∨ (j ≠ k ∧ σ.nd j = some d) := fun j d h => by
    by_cases e : j = k
    · rw [e, nk] at h; cases h; exact .inl ⟨e, rfl⟩
    · exact .inr ⟨e, (nj j e).symm.trans h⟩
  have ok' : ∀ j, okn σ' j = okn σ j := fun j => by
    by_cases e : j = k
    · rw [e, okn_of nk, okn_none hk]; exact hf.2.2.2.1
    · unfold okn; rw [nj j e]
  have rd' : ∀ j, j ∈ σ.rd → j ∈ σ'.rd := fun j h => by rcases hrd with ⟨e, _⟩ | ⟨e, _⟩ <;> rw [e] <;> simp [h]
  have cur' : ∀ j, σ.cur = some j → σ'.cur = some j := fun j h => by
    rcases hrd with ⟨_, e⟩ | ⟨_, e, _⟩
    · rw [e, h]
    · rw [e] at h; cases h
  have rc : ∀ j, (j ∈ σ.rd ∨ σ.cur = some j) → (j ∈ σ'.rd ∨ σ'.cur = some j) := fun j h => h.elim (fun h => .inl (rd' j h)) fun h => .inr (cur' j h)
  have kex : ex ≠ some k := fun e => by obtain ⟨d, h, _⟩ := hex k e; rw [hk] at h; cases h
  refine ⟨hs, fun j d h => ?_, fun j d h => ?_, fun j d h hx h0 => ?_, fun j d h hx h1 => ?_, fun j d x h ho => ?_, fun j d h hp => ?_, fun j d h hx h1 hp => ?_, fun j hj => ?_, fun j hj => ?_, fun j d h ho => ?_, fun j hj => I.trl j (htr j hj), fun j hj => ?_, fun j hj => ?_⟩
  · rcases cs j d h with ⟨rfl, _⟩ | ⟨_, h⟩
    · exact hkn
    · exact I.lt j d h
  · rcases cs j d h with ⟨rfl, rfl⟩ | ⟨_, h⟩
    · exact ha
    · exact I.anc j d h
  · rcases cs j d h with ⟨rfl, rfl⟩ | ⟨_, h⟩
    · refine ⟨hf.2.1, hf.2.2.2.2, hf.2.2.2.1, ?_⟩
      rcases hrd with ⟨e, _⟩ | ⟨_, _, e⟩
      · left; rw [e]; simp
      · right; exact e
    · obtain ⟨a, b, c, e⟩ := I.e0 j d h hx h0
      exact ⟨a, b, c, rc j e⟩
  · rcases cs j d h with ⟨rfl, rfl⟩ | ⟨_, h⟩
    · have := hf.1; lia
    · obtain ⟨a, b⟩ := I.e1 j d h hx h1
      refine ⟨fun x hx => ?_, fun x => ?_⟩
      · obtain ⟨e, he⟩ := a x hx
        exact ⟨e, up x e he⟩
      · rw [ok']; exact b x
  · have hw : ∀ x, (∃ e, σ'.nd x = some e ∧ j ∈ e.wr) ↔ ∃ e, σ.nd x = some e ∧ j ∈ e.wr := fun x => by
      constructor
      · rintro ⟨e, he, hj⟩
        rcases cs x e he with ⟨_, rfl⟩ | ⟨_, he⟩
        · rw [hf.2.1] at hj; cases hj
        · exact ⟨e, he, hj⟩
      · rintro ⟨e, he, hj⟩
        exact ⟨e, up x e he, hj⟩
    rw [hw]
    rcases cs j d h with ⟨rfl, rfl⟩ | ⟨_, h⟩
    · constructor
      · intro hx; rw [hf.2.2.1] at hx; cases hx
      · rintro ⟨e, he, hj⟩
        obtain ⟨e', he'⟩ := I.wrc (fun k hk d hd => by obtain ⟨d', a, b⟩ := hex k hk; rw [hd] at a; cases a; exact b) he hj
        rw [hk] at he'; cases he'
    · exact I.wmi j d x h ho
  · rcases cs j d h with ⟨rfl, rfl⟩ | ⟨_, h⟩
    · rw [hf.2.2.2.2] at hp; cases hp
    · exact I.ph j d h hp
  · rcases cs j d h with ⟨rfl, rfl⟩ | ⟨_, h⟩
    · have := hf.1; lia
    · obtain ⟨a, b, c⟩ := I.w1 j d h hx h1 hp
      exact ⟨a, fun q => by rw [hwt]; exact b q, fun q => rc j (c q)⟩
  · rw [hwt] at hj
    obtain ⟨d, h, r⟩ := I.wt j hj
    exact ⟨d, up j d h, r⟩
  · have : j ∈ σ.rd ∨ j = k := by
      rcases hrd with ⟨e, _⟩ | ⟨e, _⟩
      · rw [e] at hj
        rcases List.mem_append.mp hj with hj | hj
        · exact .inl hj
        · exact .inr (List.mem_singleton.mp hj)
      · rw [e] at hj; exact .inl hj
    rcases this with hj | rfl
    · obtain ⟨d, h, r⟩ := I.rd j hj
      exact ⟨d, up j d h, r⟩
    · exact ⟨f, nk, by rw [hf.1]; lia, hf.2.2.2.2, hf.2.1⟩
  · rcases cs j d h with ⟨rfl, rfl⟩ | ⟨_, h⟩
    · rw [hf.2.2.2.1] at ho; cases ho
    · exact I.ok j d h ho
  · rcases I.all j hj with h | ⟨d, h⟩
    · rcases htr2 j h with h | rfl
      · exact .inl h
      · exact .inr ⟨f, nk⟩
    · exact .inr ⟨d, up j d h⟩
  · rcases hrd with ⟨e, ec⟩ | ⟨e, e0, ec⟩
    · rw [ec] at hj
      obtain ⟨d, h, a, b, c⟩ := I.cur j hj
      refine ⟨d, up j d h, ?_, by rw [hwt]; exact b, c⟩
      rw [e]
      intro hm
      rcases List.mem_append.mp hm with hm | hm
      · exact a hm
      · exact old j d h (List.mem_singleton.mp hm)
    · rw [ec] at hj
      cases hj
      refine ⟨f, nk, ?_, ?_, .inr ⟨by rw [hf.1]; lia, hf.2.1, hf.2.2.2.2⟩⟩
      · rw [e]; intro hm; obtain ⟨d, h, _⟩ := I.rd _ hm; rw [hk] at h; cases h
      · rw [hwt]; intro hm; obtain ⟨d, h, _⟩ := I.wt _ hm; rw [hk] at h; cases h
end
-- M33
noncomputable abbrev noPd : Nat → Nat → Prop := fun _ _ => False
noncomputable def cnt (f : Nat → Option Nd) : Nat → Nat
  | 0 => 0
  | n + 1 => cnt f n + if (f n).isNone then 1 else 0
noncomputable def mu (nt : Nat) (σ : Sg) : Nat := 2 * σ.tr.length + 2 * σ.rd.length + 2 * cnt σ.nd nt + if σ.cur.isSome then 1 else 0
section
variable {nt : Nat} {dp : Nat → List Nat} {ex : Option Nat} {pd : Nat → Nat → Prop} {σ σ' : Sg}
theorem cnt_congr {f g : Nat → Option Nd} : ∀ n, (∀ j, j < n → (f j).isNone = (g j).isNone) → cnt f n = cnt g n
  | 0, _ => rfl
  | n + 1, h => by unfold cnt; rw [cnt_congr n fun j hj => h j (by lia), h n (by lia)]
theorem cnt_add {g : Nat → Option Nd} {k : Nat} (hk : g k = none) {f : Nd} : ∀ n, k < n → cnt (fun j => if j = k then some f else g j) n + 1 = cnt g n
  | 0, h => by lia
  | n + 1, h => by
    unfold cnt
    by_cases e : k = n
    · have e1 : cnt (fun j => if j = k then some f else g j) n = cnt g n := cnt_congr n fun j hj => by simp [show j ≠ k by lia]
      rw [e1]
      simp [← e, hk]
    · have ih := cnt_add hk (f := f) n (by lia)
      have e2 : n ≠ k := fun q => e q.symm
      simp only [e2, if_false]
      lia
theorem gen_eq {par : Option (Nat × Nd)} {k : Nat} (hk : σ.nd k = none) : gen σ par k = { σ.set k (freshNd par k) with ord := σ.ord ++ [k] } := by rw [gen, hk]
theorem SW.gen (s : SW σ) {k : Nat} (hk : k < 21) (hn : σ.nd k = none) : SW (gen σ none k) := by
  have h := (s.addReady (par := none) hk (fun x hx => nomatch hx)).rdsub (l := σ.rd) (fun j hj => by unfold Mine.addReady; rw [hn]; simp [hj]) s.rdN
  have e : ({ Mine.addReady σ none k with rd := σ.rd } : Sg) = Mine.gen σ none k := by
    unfold Mine.addReady
    rw [hn, gen_eq hn]; rfl
  rw [e] at h; exact h
/-- the next node: what then holds -/
theorem LI.nxt (hnt : nt ≤ 20) : ∀ (r : List Nat), LI nt dp none noPd { σ with tr := r.reverse } → σ.cur = none → σ.rd = [] →
    LI nt dp none noPd { (nxt σ r).2 with cur := (nxt σ r).1 } ∧ ((Mine.nxt σ r).1 = none → (Mine.nxt σ r).2.rd = [] ∧ (Mine.nxt σ r).2.tr = []) ∧ (∀ k, (Mine.nxt σ r).1 = some k → mu nt { (Mine.nxt σ r).2 with cur := some k } < mu nt { σ with tr := r.reverse })
  | [], I, hc, hr => ⟨by
      have : ({ (Mine.nxt σ []).2 with cur := (Mine.nxt σ []).1 } : Sg) = { σ with tr := [] } := by
        obtain ⟨a, b, c, d, e, f⟩ := σ
        simp only at hc
        subst hc; rfl
      rw [this]; exact I, fun _ => ⟨hr, rfl⟩, fun k h => nomatch h⟩
  | k :: r, I, hc, hr => by
    have trl : ∀ j ∈ r.reverse, j ∈ (k :: r).reverse := fun j hj => by simp at hj ⊢; simp [hj]
    have htn : r.reverse.Nodup := by
      have := I.sw.trN
      simp only [List.reverse_cons] at this
      exact (List.nodup_append.mp this).1
    cases hk : σ.nd k with
    | some d =>
      have e : Mine.nxt σ (k :: r) = Mine.nxt σ r := by simp only [Mine.nxt, hk]
      rw [e]
      have I' : LI nt dp none noPd { σ with tr := r.reverse } := by
        have s := I.sw
        refine ⟨⟨s.mem, s.lt, s.ordN, s.wtl, s.wtN, s.rdl, s.rdN, s.disj, fun j hj => s.trl j (trl j hj), htn, s.anc, s.wr, s.wm⟩, I.lt, I.anc, I.e0, I.e1, I.wmi, I.ph, I.w1, I.wt, I.rd, I.ok, fun j hj => I.trl j (trl j hj), fun j hj => ?_, I.cur⟩
        rcases I.all j hj with h | h
        · have h : j ∈ (k :: r).reverse := h
          simp at h
          rcases h with h | h
          · exact .inl (by simp [h])
          · exact .inr ⟨d, by rw [h]; exact hk⟩
        · exact .inr h
      obtain ⟨a, b, c⟩ := LI.nxt hnt r I' hc hr
      refine ⟨a, b, fun k' h' => Nat.lt_of_lt_of_le (c k' h') ?_⟩
      unfold mu
      simp only [List.length_reverse, List.length_cons]
      lia
    | none =>
      have hkn : k < nt := I.trl k (by show k ∈ (k :: r).reverse; simp)
      have hk' : ({ σ with tr := r.reverse } : Sg).nd k = none := hk
      have e : Mine.nxt σ (k :: r) = (some k, Mine.gen { σ with tr := r.reverse } none k) := by simp only [Mine.nxt, hk]
      rw [e, gen_eq hk']
      refine ⟨?_, fun h => (nomatch h), fun k' h' => ?_⟩
      · have s := I.sw
        have s1 : SW { σ with tr := r.reverse } := ⟨s.mem, s.lt, s.ordN, s.wtl, s.wtN, s.rdl, s.rdN, s.disj, fun j hj => s.trl j (trl j hj), htn, s.anc, s.wr, s.wm⟩
        have s2 := s1.gen (by lia) hk'
        rw [gen_eq hk'] at s2
        refine I.fresh (fun k h => nomatch h) hk hkn (f := freshNd none k) ⟨rfl, rfl, rfl, rfl, rfl⟩ (fun x hx => by simp [freshNd] at hx; lia) rfl rfl s2.cur (.inr ⟨rfl, hc, rfl⟩) (fun j hj => trl j hj) fun j hj => ?_
        have hj : j ∈ (k :: r).reverse := hj
        simp at hj
        rcases hj with h | h
        · exact .inl (by show j ∈ r.reverse; simp [h])
        · exact .inr h
      · cases h'
        unfold mu
        have := cnt_add (g := σ.nd) (k := k) hk (f := freshNd none k) nt hkn
        show 2 * r.reverse.length + 2 * σ.rd.length + 2 * cnt (fun j => if j = k then some (freshNd none k) else σ.nd j) nt + 1 < 2 * (k :: r).reverse.length + 2 * σ.rd.length + 2 * cnt σ.nd nt + (if σ.cur.isSome = true then 1 else 0)
        simp only [List.length_reverse, List.length_cons]
        lia
theorem LI.getNext (hnt : nt ≤ 20) (I : LI nt dp none noPd σ) (hc : σ.cur = none) :
    LI nt dp none noPd { (getNext σ).2 with cur := (Mine.getNext σ).1 } ∧ ((Mine.getNext σ).1 = none → (Mine.getNext σ).2.rd = [] ∧ (Mine.getNext σ).2.tr = []) ∧ (∀ k, (Mine.getNext σ).1 = some k → mu nt { (Mine.getNext σ).2 with cur := some k } < mu nt σ) := by
  unfold Mine.getNext
  cases hr : σ.rd with
  | nil =>
    dsimp only
    have e : ({ σ with tr := σ.tr.reverse.reverse } : Sg) = σ := by rw [List.reverse_reverse]
    have := LI.nxt (dp := dp) hnt σ.tr.reverse (by rw [e]; exact I) hc hr
    rw [e] at this
    exact this
  | cons k r =>
    dsimp only
    have s := I.sw
    have hrn : (k :: r).Nodup := hr ▸ s.rdN
    have hkr : k ∉ r := (List.nodup_cons.mp hrn).1
    obtain ⟨dk, hdk, hde, hdp, hdw⟩ := I.rd k (by rw [hr]; exact .head _)
    have sub : ∀ j ∈ r, j ∈ σ.rd := fun j hj => by rw [hr]; exact .tail _ hj
    have rc : ∀ j, (j ∈ σ.rd ∨ σ.cur = some j) → (j ∈ r ∨ some k = some j) := fun j h => by
      rcases h with h | h
      · rw [hr] at h
        rcases List.mem_cons.mp h with rfl | h
        · exact .inr rfl
        · exact .inl h
      · rw [hc] at h; cases h
    refine ⟨?_, fun h => (nomatch h), fun k' h' => ?_⟩
    · refine ⟨(s.rdsub sub (List.nodup_cons.mp hrn).2).cur, I.lt, I.anc, fun j d h hx h0 => ?_, I.e1, I.wmi, I.ph, fun j d h hx h1 hp => ?_, I.wt, fun j hj => I.rd j (sub j hj), I.ok, I.trl, I.all, fun j hj => ?_⟩
      · obtain ⟨a, b, c, e⟩ := I.e0 j d h hx h0
        exact ⟨a, b, c, rc j e⟩
      · obtain ⟨a, b, c⟩ := I.w1 j d h hx h1 hp
        exact ⟨a, b, fun q => rc j (c q)⟩
      · cases hj
        exact ⟨dk, hdk, hkr, s.disj k (by rw [hr]; exact .head _), .inr ⟨hde, hdw, hdp⟩⟩
    · cases h'
      unfold mu
      show 2 * σ.tr.length + 2 * r.length + 2 * cnt σ.nd nt + 1 < 2 * σ.tr.length + 2 * σ.rd.length + 2 * cnt σ.nd nt + (if σ.cur.isSome = true then 1 else 0)
      rw [hr, List.length_cons]
      lia
end
-- M34
noncomputable def phn (σ : Sg) (j : Nat) : Bool := (σ.nd j).elim false (·.ph)
section
variable {nt : Nat} {dp : Nat → List Nat} {ex : Option Nat} {pd : Nat → Nat → Prop} {σ σ' : Sg}
theorem phn_of {j : Nat} {d : Nd} (h : σ.nd j = some d) : phn σ j = d.ph := by unfold phn; rw [h]; rfl
theorem LI.weak (I : LI nt dp none pd σ) {k : Nat} : LI nt dp (some k) pd σ :=
  ⟨I.sw, I.lt, I.anc, fun j d h _ => I.e0 j d h (fun q => nomatch q), fun j d h _ => I.e1 j d h (fun q => nomatch q), I.wmi, I.ph, fun j d h _ => I.w1 j d h (fun q => nomatch q), I.wt, I.rd, I.ok, I.trl, I.all, I.cur⟩
theorem set_cs {k j : Nat} {d' e : Nd} (h : (σ.set k d').nd j = some e) : (j = k ∧ e = d') ∨ (j ≠ k ∧ σ.nd j = some e) := by
  by_cases q : j = k
  · rw [q, Sg.set_self] at h; cases h; exact .inl ⟨q, rfl⟩
  · exact .inr ⟨q, (Sg.set_ne q).symm.trans h⟩
/-- a node's record turned, its wr and ok left -/
theorem okn_set {k : Nat} {d d' : Nd} (hk : σ.nd k = some d) (ho : d'.ok = d.ok) : ∀ j, okn (σ.set k d') j = okn σ j := fun j => by
  by_cases q : j = k
  · rw [q, okn_of Sg.set_self, okn_of hk, ho]
  · unfold okn; rw [Sg.set_ne q]
theorem wr_set {k j x : Nat} {d d' : Nd} (hk : σ.nd k = some d) (hw : d'.wr = d.wr) : (∃ e, (σ.set k d').nd x = some e ∧ j ∈ e.wr) ↔ ∃ e, σ.nd x = some e ∧ j ∈ e.wr := by
  by_cases q : x = k
  · rw [q, Sg.set_self, hk]
    simp [hw]
  · rw [Sg.set_ne q]
theorem ex_set {k x : Nat} {d d' : Nd} (hk : σ.nd k = some d) : (∃ e, (σ.set k d').nd x = some e) ↔ ∃ e, σ.nd x = some e := by
  by_cases q : x = k
  · rw [q, Sg.set_self, hk]; simp
  · rw [Sg.set_ne q]
/-- the node at its turn is expanded: its first pass begins -/
theorem LI.begin (I : LI nt dp none noPd σ) {k : Nat} {d : Nd} (hk : σ.nd k = some d) (hc : σ.cur = some k) (h0 : d.exp = 0) : LI nt dp (some k) noPd (σ.set k (exp1 d)) := by
  obtain ⟨dk, hdk, c1, c2, c3⟩ := I.cur k hc
  rw [hk] at hdk; cases hdk
  obtain ⟨w0, p0, o0, _⟩ := I.e0 k d hk (fun q => nomatch q) h0
  have ne : ∀ j, (some k ≠ some j) → j ≠ k := fun j h e => h (by rw [e])
  refine ⟨I.sw.set hk (I.sw.anc k d hk) (I.sw.wr k d hk) (I.sw.wm k d hk), fun j e h => ?_, fun j e h => ?_, fun j e h hx => ?_, fun j e h hx h1 => ?_, fun j e x h ho => ?_, fun j e h hp => ?_, fun j e h hx => ?_, fun j hj => ?_, fun j hj => ?_, fun j e h ho => ?_, I.trl, fun j hj => (I.all j hj).imp_right fun q => (ex_set hk).mpr q, fun j hj => ?_⟩
  · rcases set_cs h with ⟨rfl, _⟩ | ⟨_, h⟩
    · exact I.lt _ _ hk
    · exact I.lt j e h
  · rcases set_cs h with ⟨rfl, rfl⟩ | ⟨_, h⟩
    · exact I.anc _ d hk
    · exact I.anc j e h
  · rcases set_cs h with ⟨rfl, rfl⟩ | ⟨_, h⟩
    · exact absurd rfl hx
    · exact I.e0 j e h (fun q => nomatch q)
  · rcases set_cs h with ⟨rfl, rfl⟩ | ⟨_, h⟩
    · exact absurd rfl hx
    · obtain ⟨a, b⟩ := I.e1 j e h (fun q => nomatch q) h1
      exact ⟨fun x hx => (ex_set hk).mpr (a x hx), fun x => by rw [okn_set (d' := exp1 d) hk rfl]; exact b x⟩
  · rw [wr_set (d' := exp1 d) hk rfl]
    rcases set_cs h with ⟨rfl, rfl⟩ | ⟨_, h⟩
    · exact I.wmi _ d x hk ho
    · exact I.wmi j e x h ho
  · rcases set_cs h with ⟨rfl, rfl⟩ | ⟨_, h⟩
    · rw [show (exp1 d).ph = d.ph from rfl, p0] at hp; cases hp
    · exact I.ph j e h hp
  · rcases set_cs h with ⟨rfl, rfl⟩ | ⟨_, h⟩
    · exact absurd rfl hx
    · exact I.w1 j e h (fun q => nomatch q)
  · obtain ⟨e, h, r⟩ := I.wt j hj
    exact ⟨e, (Sg.set_ne fun q => c2 (by rw [← q]; exact hj)).trans h, r⟩
  · obtain ⟨e, h, r⟩ := I.rd j hj
    exact ⟨e, (Sg.set_ne fun q => c1 (by rw [← q]; exact hj)).trans h, r⟩
  · rcases set_cs h with ⟨rfl, rfl⟩ | ⟨_, h⟩
    · exact I.ok _ d hk ho
    · exact I.ok j e h ho
  · rw [show (σ.set k (exp1 d)).cur = σ.cur from rfl, hc] at hj
    cases hj
    exact ⟨_, Sg.set_self, c1, c2, .inr ⟨by show d.exp + 1 ≤ 1; lia, w0, p0⟩⟩
theorem LI.addReady (I : LI nt dp ex noPd σ) (hnt : nt ≤ 20) (hex : ∀ k, ex = some k → ∃ d, σ.nd k = some d ∧ d.wr = []) {par : Nat × Nd} {j : Nat} (hj : j < nt) (hp : σ.nd par.1 = some par.2) (ha : ∀ x ∈ par.2.anc, j < x) : LI nt dp ex noPd (Mine.addReady σ (some par) j) := by
  have s := I.sw.addReady (par := some par) (k := j) (by lia) fun x hx => by cases hx; exact ⟨hp, fun hm => absurd (ha j hm) (Nat.lt_irrefl j)⟩
  unfold Mine.addReady at s ⊢
  cases hk : σ.nd j with
  | some d => exact I
  | none =>
    rw [hk] at s
    dsimp only at s ⊢
    rw [gen_eq hk] at s ⊢
    refine I.fresh hex hk hj (f := freshNd (some par) j) ⟨rfl, rfl, rfl, rfl, rfl⟩ (fun x hx => ?_) rfl rfl s (.inl ⟨rfl, rfl⟩) (fun _ h => h) fun _ h => .inl h
    rcases List.mem_append.mp hx with hx | hx
    · exact Nat.le_of_lt (ha x hx)
    · rw [List.mem_singleton.mp hx]; exact Nat.le_refl _
theorem addReady_frame {par : Option (Nat × Nd)} {j : Nat} : (addReady σ par j).wt = σ.wt ∧ (addReady σ par j).tr = σ.tr ∧ (addReady σ par j).cur = σ.cur ∧ (∀ x, okn (addReady σ par j) x = okn σ x) ∧ (∀ x, phn (addReady σ par j) x = phn σ x) ∧ (j < nt → mu nt (addReady σ par j) = mu nt σ) := by
  unfold addReady
  cases hk : σ.nd j with
  | some d => exact ⟨rfl, rfl, rfl, fun _ => rfl, fun _ => rfl, fun _ => rfl⟩
  | none =>
    dsimp only
    rw [gen_eq hk]
    refine ⟨rfl, rfl, rfl, fun x => ?_, fun x => ?_, fun hj => ?_⟩
    · by_cases e : x = j
      · rw [e, okn_none hk]; unfold okn Sg.set; simp [freshNd]
      · unfold okn Sg.set; simp [e]
    · by_cases e : x = j
      · rw [e]; unfold phn Sg.set; simp [freshNd, hk]
      · unfold phn Sg.set; simp [e]
    · have := cnt_add (g := σ.nd) (k := j) hk (f := freshNd par j) nt hj
      show 2 * σ.tr.length + 2 * (σ.rd ++ [j]).length + 2 * cnt (fun x => if x = j then some (freshNd par j) else σ.nd x) nt + (if σ.cur.isSome = true then 1 else 0) = 2 * σ.tr.length + 2 * σ.rd.length + 2 * cnt σ.nd nt + (if σ.cur.isSome = true then 1 else 0)
      rw [List.length_append, List.length_singleton]
      lia
theorem LI.addReadies (hnt : nt ≤ 20) {par : Nat × Nd} : ∀ {l : List Nat} {σ : Sg}, LI nt dp (some par.1) noPd σ → σ.nd par.1 = some par.2 → par.2.wr = [] → (∀ j ∈ l, j < nt ∧ ∀ x ∈ par.2.anc, j < x) →
    LI nt dp (some par.1) noPd (l.foldl (fun s x => Mine.addReady s (some par) x) σ) ∧ (l.foldl (fun s x => Mine.addReady s (some par) x) σ).wt = σ.wt ∧ (l.foldl (fun s x => Mine.addReady s (some par) x) σ).cur = σ.cur ∧
      (∀ x, okn (l.foldl (fun s x => Mine.addReady s (some par) x) σ) x = okn σ x) ∧ (∀ x, phn (l.foldl (fun s x => Mine.addReady s (some par) x) σ) x = phn σ x) ∧ mu nt (l.foldl (fun s x => Mine.addReady s (some par) x) σ) = mu nt σ
  | [], σ, I, _, _, _ => ⟨I, rfl, rfl, fun _ => rfl, fun _ => rfl, rfl⟩
  | j :: l, σ, I, hp, hw, h => by
    obtain ⟨f1, f2, f3, f4, f5, f6⟩ := addReady_frame (nt := nt) (σ := σ) (par := some par) (j := j)
    have I' := I.addReady hnt (fun k hk => by cases hk; exact ⟨_, hp, hw⟩) (h j (.head _)).1 hp (h j (.head _)).2
    obtain ⟨a, b, c, e, f, g⟩ := LI.addReadies hnt (l := l) I' (addReady_nd hp) hw fun x hx => h x (.tail _ hx)
    exact ⟨a, b.trans f1, c.trans f3, fun x => (e x).trans (f4 x), fun x => (f x).trans (f5 x), g.trans (f6 (h j (.head _)).1)⟩
end
-- M35
inductive Out where
  | go (σ : Sg)
  | hold (σ : Sg)
  | non (σ : Sg)
  | got (k : Nat) (σ : Sg)
/-- the node at its turn -/
noncomputable def act (dp : Nat → List Nat) (σ : Sg) (k : Nat) (d : Nd) : Out :=
  if d.ph then .go { σ with cur := none } else match (expS σ (dp k) k d).nd k with
    | some e => if e.wr = [] then .got k ((expS σ (dp k) k d).set k { e with ph := true }) else .go { expS σ (dp k) k d with wt := (expS σ (dp k) k d).wt ++ [k], cur := none }
    | none => .non σ
section
variable {nt : Nat} {dp : Nat → List Nat} {σ : Sg}
theorem LI.given {k : Nat} {d : Nd} (I : LI nt dp (some k) noPd σ) (hk : σ.nd k = some d) (hw : d.wr = []) (hc : σ.cur = some k) (hd : ∀ x ∈ dp k, (∃ e, σ.nd x = some e) ∧ okn σ x = true) {e' : Nat} (he : 1 ≤ e') :
    LI nt dp none noPd (σ.set k { d with exp := e', ph := true }) := by
  obtain ⟨dk, hdk, c1, c2, c3⟩ := I.cur k hc
  have nex : ∀ j, j ≠ k → some k ≠ some j := fun j h e => h (by cases e; rfl)
  refine ⟨I.sw.set hk (I.sw.anc k d hk) (I.sw.wr k d hk) (I.sw.wm k d hk), fun j e h => ?_, fun j e h => ?_, fun j e h _ h0 => ?_, fun j e h _ h1 => ?_, fun j e x h ho => ?_, fun j e h hp => ?_, fun j e h _ h1 hp => ?_, fun j hj => ?_, fun j hj => ?_, fun j e h ho => ?_, I.trl, fun j hj => (I.all j hj).imp_right fun q => (ex_set hk).mpr q, fun j hj => ?_⟩
  · rcases set_cs h with ⟨rfl, _⟩ | ⟨_, h⟩
    · exact I.lt _ d hk
    · exact I.lt j e h
  · rcases set_cs h with ⟨rfl, rfl⟩ | ⟨_, h⟩
    · exact I.anc _ d hk
    · exact I.anc j e h
  · rcases set_cs h with ⟨rfl, rfl⟩ | ⟨q, h⟩
    · exfalso; have h0 : e' = 0 := h0; lia
    · exact I.e0 j e h (nex j q) h0
  · rcases set_cs h with ⟨rfl, rfl⟩ | ⟨q, h⟩
    · refine ⟨fun x hx => (ex_set hk).mpr (hd x hx).1, fun x => ?_⟩
      rw [okn_set (d' := { d with exp := e', ph := true }) hk rfl]
      show x ∈ d.wr ↔ _
      rw [hw]
      constructor
      · intro h; cases h
      · rintro ⟨hx, h | h⟩
        · rw [(hd x hx).2] at h; cases h
        · exact h.elim
    · obtain ⟨a, b⟩ := I.e1 j e h (nex j q) h1
      exact ⟨fun x hx => (ex_set hk).mpr (a x hx), fun x => by rw [okn_set (d' := { d with exp := e', ph := true }) hk rfl]; exact b x⟩
  · rw [wr_set (d' := { d with exp := e', ph := true }) hk rfl]
    rcases set_cs h with ⟨rfl, rfl⟩ | ⟨_, h⟩
    · exact I.wmi _ d x hk ho
    · exact I.wmi j e x h ho
  · rcases set_cs h with ⟨rfl, rfl⟩ | ⟨_, h⟩
    · exact ⟨he, hw⟩
    · exact I.ph j e h hp
  · rcases set_cs h with ⟨rfl, rfl⟩ | ⟨q, h⟩
    · cases hp
    · exact I.w1 j e h (nex j q) h1 hp
  · obtain ⟨e, h, r⟩ := I.wt j hj
    exact ⟨e, (Sg.set_ne fun q => c2 (by rw [← q]; exact hj)).trans h, r⟩
  · obtain ⟨e, h, r⟩ := I.rd j hj
    exact ⟨e, (Sg.set_ne fun q => c1 (by rw [← q]; exact hj)).trans h, r⟩
  · rcases set_cs h with ⟨rfl, rfl⟩ | ⟨_, h⟩
    · rfl
    · exact I.ok j e h ho
  · rw [show (σ.set k { d with exp := e', ph := true }).cur = σ.cur from rfl, hc] at hj
    cases hj
    exact ⟨_, Sg.set_self, c1, c2, .inl rfl⟩
theorem addWait_ok {k : Nat} {l : List Nat} (j : Nat) : okn (addWait σ k l) j = okn σ j := by
  unfold okn
  rw [addWait_nd]
  cases σ.nd j <;> rfl
theorem addWait_ph {k : Nat} {l : List Nat} (j : Nat) : phn (addWait σ k l) j = phn σ j := by
  unfold phn
  rw [addWait_nd]
  cases σ.nd j <;> rfl
theorem addWait_ex {k : Nat} {l : List Nat} {j : Nat} : (∃ e, (addWait σ k l).nd j = some e) ↔ ∃ e, σ.nd j = some e := by
  rw [addWait_nd]
  cases σ.nd j <;> simp
/-- a node when k has begun to wait -/
noncomputable def waitNd (σ : Sg) (k : Nat) (l : List Nat) (j : Nat) (e0 : Nd) : Nd := { e0 with wm := if j ∈ pend σ l ∧ k ∉ e0.wm then e0.wm ++ [k] else e0.wm, wr := if j = k then uni e0.wr (pend σ l) else e0.wr }
theorem waitNd_wr {σ : Sg} {k : Nat} {l : List Nat} {j : Nat} {e0 : Nd} (h : j ≠ k) : (waitNd σ k l j e0).wr = e0.wr := if_neg h
theorem LI.wait {k : Nat} {d : Nd} (I : LI nt dp (some k) noPd σ) (hk : σ.nd k = some d) (h1e : d.exp = 1) (hw : d.wr = []) (hph : d.ph = false) (hc : σ.cur = some k) (hd : ∀ x ∈ dp k, ∃ e, σ.nd x = some e) (hne : pend σ (dp k) ≠ []) :
    LI nt dp none noPd { addWait σ k (dp k) with wt := (addWait σ k (dp k)).wt ++ [k], cur := none } := by
  obtain ⟨dk, hdk, c1, c2, c3⟩ := I.cur k hc
  have nex : ∀ j, j ≠ k → some k ≠ some j := fun j h e => h (by cases e; rfl)
  have s := I.sw.addWait (k := k) (l := dp k) ⟨d, hk⟩ hd
  have nd : ∀ j e, (addWait σ k (dp k)).nd j = some e → ∃ e0, σ.nd j = some e0 ∧ e = (waitNd σ k (dp k) j e0) := fun j e h => by
    rw [addWait_nd] at h
    cases q : σ.nd j with
    | none => rw [q] at h; cases h
    | some e0 => rw [q] at h; cases h; exact ⟨e0, rfl, rfl⟩
  have mk : ∀ j e0, σ.nd j = some e0 → (addWait σ k (dp k)).nd j = some (waitNd σ k (dp k) j e0) := fun j e0 h => by
    rw [addWait_nd, h]; rfl
  have mp : ∀ x, x ∈ uni d.wr (pend σ (dp k)) ↔ x ∈ dp k ∧ okn σ x = false := fun x => by
    rw [mem_uni, hw]
    unfold pend
    rw [List.mem_filter]
    simp
  have kn : k ∉ (addWait σ k (dp k)).wt := c2
  refine ⟨⟨s.mem, s.lt, s.ordN, fun j hj => ?_, ?_, s.rdl, s.rdN, fun j hj hm => ?_, s.trl, s.trN, s.anc, s.wr, s.wm⟩, fun j e h => ?_, fun j e h => ?_, fun j e h _ h0 => ?_, fun j e h _ h1 => ?_, fun j e x h ho => ?_, fun j e h hp => ?_, fun j e h _ h1 hp => ?_, fun j hj => ?_, fun j hj => ?_, fun j e h ho => ?_, I.trl, fun j hj => (I.all j hj).imp_right fun q => addWait_ex.mpr q, fun j hj => nomatch hj⟩
  · rcases List.mem_append.mp hj with hj | hj
    · exact s.wtl j hj
    · rw [List.mem_singleton.mp hj]; exact ⟨_, mk k d hk⟩
  · show ((addWait σ k (dp k)).wt ++ [k]).Nodup
    rw [List.nodup_append]
    exact ⟨s.wtN, by simp, fun x hx y hy => by rw [List.mem_singleton.mp hy]; exact fun q => kn (q ▸ hx)⟩
  · rcases List.mem_append.mp hm with hm | hm
    · exact s.disj j hj hm
    · rw [List.mem_singleton.mp hm] at hj; exact c1 hj
  · obtain ⟨e0, h0, rfl⟩ := nd j e h
    exact I.lt j e0 h0
  · obtain ⟨e0, h0, rfl⟩ := nd j e h
    exact I.anc j e0 h0
  · obtain ⟨e0, g, rfl⟩ := nd j e h
    clear h
    have h := g
    clear g
    by_cases q : j = k
    · subst q
      rw [hk] at h; cases h
      have h0 : d.exp = 0 := h0
      lia
    · obtain ⟨a, b, c, r⟩ := I.e0 j e0 h (nex j q) h0
      refine ⟨(waitNd_wr q).trans a, b, c, .inl (r.resolve_right fun z => ?_)⟩
      rw [hc] at z; cases z; exact q rfl
  · obtain ⟨e0, g, rfl⟩ := nd j e h
    clear h
    have h := g
    clear g
    by_cases q : j = k
    · subst q
      rw [hk] at h; cases h
      refine ⟨fun x hx => addWait_ex.mpr (hd x hx), fun x => ?_⟩
      show x ∈ (if j = j then uni d.wr (pend σ (dp j)) else d.wr) ↔ x ∈ dp j ∧ (okn (addWait σ j (dp j)) x = false ∨ False)
      rw [if_pos rfl, addWait_ok, or_false]
      exact mp x
    · obtain ⟨a, b⟩ := I.e1 j e0 h (nex j q) h1
      refine ⟨fun x hx => addWait_ex.mpr (a x hx), fun x => ?_⟩
      show x ∈ (if j = k then _ else e0.wr) ↔ x ∈ dp j ∧ (okn (addWait σ k (dp k)) x = false ∨ False)
      rw [if_neg q, addWait_ok]
      exact b x
  · obtain ⟨e0, g, rfl⟩ := nd j e h
    clear h
    have h := g
    clear g
    have ho : e0.ok = false := ho
    have base := I.wmi j e0 x h ho
    have rhs : (∃ e, (addWait σ k (dp k)).nd x = some e ∧ j ∈ e.wr) ↔ ((∃ e, σ.nd x = some e ∧ j ∈ e.wr) ∨ (x = k ∧ j ∈ pend σ (dp k))) := by
      constructor
      · rintro ⟨e, he, hj⟩
        obtain ⟨e1, h1, rfl⟩ := nd x e he
        by_cases q : x = k
        · subst q
          rw [hk] at h1; cases h1
          have hj : j ∈ (if x = x then uni d.wr (pend σ (dp x)) else d.wr) := hj
          rw [if_pos rfl, mem_uni, hw] at hj
          rcases hj with hj | hj
          · cases hj
          · exact .inr ⟨rfl, hj⟩
        · have hj : j ∈ (if x = k then uni e1.wr (pend σ (dp k)) else e1.wr) := hj
          rw [if_neg q] at hj
          exact .inl ⟨e1, h1, hj⟩
      · rintro (⟨e1, h1, hj⟩ | ⟨rfl, hj⟩)
        · refine ⟨_, mk x e1 h1, ?_⟩
          show j ∈ (if x = k then uni e1.wr (pend σ (dp k)) else e1.wr)
          split
          · exact mem_uni.mpr (.inl hj)
          · exact hj
        · refine ⟨_, mk x d hk, ?_⟩
          show j ∈ (if x = x then uni d.wr (pend σ (dp x)) else d.wr)
          rw [if_pos rfl]; exact mem_uni.mpr (.inr hj)
    show x ∈ (if j ∈ pend σ (dp k) ∧ k ∉ e0.wm then e0.wm ++ [k] else e0.wm) ↔ ∃ e, (addWait σ k (dp k)).nd x = some e ∧ j ∈ e.wr
    rw [rhs, ← base]
    by_cases hm : j ∈ pend σ (dp k)
    · by_cases hkm : k ∈ e0.wm
      · rw [if_neg fun z => z.2 hkm]
        exact ⟨.inl, fun z => z.elim id fun z => z.1 ▸ hkm⟩
      · rw [if_pos ⟨hm, hkm⟩, List.mem_append, List.mem_singleton]
        exact ⟨fun z => z.imp_right fun z => ⟨z, hm⟩, fun z => z.imp_right fun z => z.1⟩
    · rw [if_neg fun z => hm z.1]
      exact ⟨.inl, fun z => z.elim id fun z => absurd z.2 hm⟩
  · obtain ⟨e0, g, rfl⟩ := nd j e h
    clear h
    have h := g
    clear g
    have hp : e0.ph = true := hp
    by_cases q : j = k
    · subst q; rw [hk] at h; cases h; exact absurd (hph.symm.trans hp) Bool.false_ne_true
    · obtain ⟨a, b⟩ := I.ph j e0 h hp
      exact ⟨a, (waitNd_wr q).trans b⟩
  · obtain ⟨e0, g, rfl⟩ := nd j e h
    clear h
    have h := g
    clear g
    by_cases q : j = k
    · subst q
      rw [hk] at h; cases h
      refine ⟨h1e, fun _ => List.mem_append.mpr (.inr (.head _)), fun z => ?_⟩
      exfalso
      have z : (if j = j then uni d.wr (pend σ (dp j)) else d.wr) = [] := z
      rw [if_pos rfl] at z
      cases hh : pend σ (dp j) with
      | nil => exact hne hh
      | cons y r =>
        have : y ∈ uni d.wr (pend σ (dp j)) := mem_uni.mpr (.inr (by rw [hh]; exact .head _))
        rw [z] at this; cases this
    · obtain ⟨a, b, c⟩ := I.w1 j e0 h (nex j q) h1 hp
      refine ⟨a, fun z => List.mem_append.mpr (.inl (b ?_)), fun z => ?_⟩
      · rw [waitNd_wr q] at z; exact z
      · exact .inl ((c (by rw [waitNd_wr q] at z; exact z)).resolve_right fun y => by rw [hc] at y; cases y; exact q rfl)
  · rcases List.mem_append.mp hj with hj | hj
    · obtain ⟨e0, h, a, b, c⟩ := I.wt j hj
      have q : j ≠ k := fun z => c2 (z ▸ hj)
      exact ⟨_, mk j e0 h, a, b, by rw [waitNd_wr q]; exact c⟩
    · rw [List.mem_singleton.mp hj]
      refine ⟨_, mk k d hk, h1e, hph, fun z => ?_⟩
      have z : (if k = k then uni d.wr (pend σ (dp k)) else d.wr) = [] := z
      rw [if_pos rfl] at z
      cases hh : pend σ (dp k) with
      | nil => exact hne hh
      | cons y r =>
        have : y ∈ uni d.wr (pend σ (dp k)) := mem_uni.mpr (.inr (by rw [hh]; exact .head _))
        rw [z] at this; cases this
  · obtain ⟨e0, h, a, b, c⟩ := I.rd j hj
    have q : j ≠ k := fun z => c1 (z ▸ hj)
    exact ⟨_, mk j e0 h, a, b, (waitNd_wr q).trans c⟩
  · obtain ⟨e0, g, rfl⟩ := nd j e h
    clear h
    have h := g
    clear g
    exact I.ok j e0 h ho
end
-- M36
section
variable {nt : Nat} {dp : Nat → List Nat} {σ : Sg}
/-- what holds after a turn -/
noncomputable def GoOk (nt : Nat) (dp : Nat → List Nat) (σ σ' : Sg) : Prop := LI nt dp none noPd σ' ∧ mu nt σ' < mu nt σ ∧ (∀ x, okn σ' x = okn σ x) ∧ ∀ x, phn σ' x = phn σ x
noncomputable def GotOk (nt : Nat) (dp : Nat → List Nat) (σ : Sg) (k : Nat) (σ' : Sg) : Prop := LI nt dp none noPd σ' ∧ σ'.cur = some k ∧ k < nt ∧ phn σ k = false ∧ (∀ x, okn σ' x = okn σ x) ∧ (∀ x, phn σ' x = (phn σ x || decide (x = k))) ∧ ∀ x ∈ dp k, okn σ x = true
theorem phn_set {k : Nat} {d : Nd} (hk : σ.nd k = some d) {d' : Nd} (h : d'.ph = true) : ∀ x, phn (σ.set k d') x = (phn σ x || decide (x = k)) := fun x => by
  by_cases q : x = k
  · rw [q, phn_of Sg.set_self, h]; simp
  · unfold phn; rw [Sg.set_ne q]; simp [q]
theorem mu_set {k : Nat} {d d' : Nd} (hk : σ.nd k = some d) : mu nt (σ.set k d') = mu nt σ := by
  have : cnt (σ.set k d').nd nt = cnt σ.nd nt := cnt_congr nt fun j _ => by
    by_cases q : j = k
    · rw [q, Sg.set_self, hk]; rfl
    · rw [Sg.set_ne q]
  show 2 * σ.tr.length + 2 * σ.rd.length + 2 * cnt (σ.set k d').nd nt + _ = _
  rw [this]; rfl
theorem mu_wait {k : Nat} {l : List Nat} : mu nt (addWait σ k l) = mu nt σ := by
  have : cnt (addWait σ k l).nd nt = cnt σ.nd nt := cnt_congr nt fun j _ => by rw [addWait_nd]; cases σ.nd j <;> rfl
  show 2 * σ.tr.length + 2 * σ.rd.length + 2 * cnt (addWait σ k l).nd nt + _ = _
  rw [this]; rfl
theorem addWait_nil {k : Nat} : (addWait σ k []).nd = σ.nd := by
  funext j
  rw [addWait_nd]
  cases σ.nd j with
  | none => rfl
  | some d => simp [pend, uni]
theorem sg_nd {σ' : Sg} (h1 : σ'.nd = σ.nd) (h2 : σ'.ord = σ.ord) (h3 : σ'.wt = σ.wt) (h4 : σ'.rd = σ.rd) (h5 : σ'.tr = σ.tr) (h6 : σ'.cur = σ.cur) : σ' = σ := by
  obtain ⟨a, b, c, d, e, f⟩ := σ'
  obtain ⟨a', b', c', d', e', f'⟩ := σ
  simp only at h1 h2 h3 h4 h5 h6
  subst h1 h2 h3 h4 h5 h6; rfl
theorem addWait_pnil {k : Nat} {l : List Nat} (h : pend σ l = []) : addWait σ k l = σ := by
  refine sg_nd ?_ rfl rfl rfl rfl rfl
  funext j
  rw [addWait_nd, h]
  cases σ.nd j with
  | none => rfl
  | some d => simp [uni]
theorem act_law (hnt : nt ≤ 20) (hdlt : ∀ k, ∀ j ∈ dp k, j < k) (I : LI nt dp none noPd σ) {k : Nat} {d : Nd} (hc : σ.cur = some k) (hk : σ.nd k = some d) :
    match act dp σ k d with
    | .go σ' => GoOk nt dp σ σ'
    | .got k' σ' => k' = k ∧ GotOk nt dp σ k σ'
    | _ => False := by
  obtain ⟨dk, hdk, c1, c2, c3⟩ := I.cur k hc
  rw [hk] at hdk; cases hdk
  have hkn := I.lt k d hk
  have hmuc : ∀ τ : Sg, τ.cur = some k → mu nt { τ with cur := none } < mu nt τ := fun τ h => by
    unfold mu
    show 2 * τ.tr.length + 2 * τ.rd.length + 2 * cnt τ.nd nt + 0 < 2 * τ.tr.length + 2 * τ.rd.length + 2 * cnt τ.nd nt + (if τ.cur.isSome = true then 1 else 0)
    rw [h]; simp
  unfold act
  cases hp : d.ph with
  | true =>
    rw [if_pos rfl]
    refine ⟨⟨I.sw.cur, I.lt, I.anc, fun j e h _ h0 => ?_, I.e1, I.wmi, I.ph, fun j e h _ h1 hp' => ?_, I.wt, I.rd, I.ok, I.trl, I.all, fun j hj => nomatch hj⟩, hmuc σ hc, fun _ => rfl, fun _ => rfl⟩
    · obtain ⟨a, b, c, r⟩ := I.e0 j e h (fun q => nomatch q) h0
      refine ⟨a, b, c, .inl (r.resolve_right fun z => ?_)⟩
      rw [hc] at z; cases z
      rw [hk] at h; cases h
      rw [hp] at b; cases b
    · obtain ⟨a, b, c⟩ := I.w1 j e h (fun q => nomatch q) h1 hp'
      refine ⟨a, b, fun z => .inl ((c z).resolve_right fun y => ?_)⟩
      rw [hc] at y; cases y
      rw [hk] at h; cases h
      rw [hp] at hp'; cases hp'
  | false =>
    rw [if_neg (by decide)]
    have c3 : d.exp ≤ 1 ∧ d.wr = [] := by
      rcases c3 with c | ⟨a, b, _⟩
      · rw [hp] at c; cases c
      · exact ⟨a, b⟩
    have hphn : phn σ k = false := (phn_of hk).trans hp
    by_cases h0 : d.exp = 0
    · have hL : expL (dp k) d = dp k := by unfold expL; rw [if_pos h0]
      have I1 := I.begin hk hc h0
      obtain ⟨w0, p0, o0, _⟩ := I.e0 k d hk (fun q => nomatch q) h0
      obtain ⟨I2, f1, f2, f3, f4, f5⟩ := LI.addReadies hnt (par := (k, exp1 d)) (l := dp k) I1 Sg.set_self c3.2 fun j hj => ⟨by have := hdlt k j hj; lia, fun x hx => by have h1 := I.anc k d hk x hx; have := hdlt k j hj; lia⟩
      have hk2 : (List.foldl (fun s x => addReady s (some (k, exp1 d)) x) (σ.set k (exp1 d)) (dp k)).nd k = some (exp1 d) := addReadies_nd (l := dp k) Sg.set_self
      have hd2 : ∀ x ∈ dp k, ∃ e, (List.foldl (fun s x => addReady s (some (k, exp1 d)) x) (σ.set k (exp1 d)) (dp k)).nd x = some e := fun x hx => addReadies_new hx
      have he : expS σ (dp k) k d = addWait (List.foldl (fun s x => addReady s (some (k, exp1 d)) x) (σ.set k (exp1 d)) (dp k)) k (dp k) := by unfold expS; rw [hL]
      rw [he]
      have hmu2 : mu nt (List.foldl (fun s x => addReady s (some (k, exp1 d)) x) (σ.set k (exp1 d)) (dp k)) = mu nt σ := f5.trans (mu_set hk)
      have hok2 : ∀ x, okn (List.foldl (fun s x => addReady s (some (k, exp1 d)) x) (σ.set k (exp1 d)) (dp k)) x = okn σ x := fun x => (f3 x).trans (okn_set (d' := exp1 d) hk rfl x)
      have hph2 : ∀ x, phn (List.foldl (fun s x => addReady s (some (k, exp1 d)) x) (σ.set k (exp1 d)) (dp k)) x = phn σ x := fun x => (f4 x).trans (by
        by_cases q : x = k
        · rw [q, phn_of Sg.set_self, phn_of hk]; rfl
        · unfold phn; rw [Sg.set_ne q])
      generalize List.foldl (fun s x => addReady s (some (k, exp1 d)) x) (σ.set k (exp1 d)) (dp k) = τ at I2 f1 f2 hk2 hd2 hmu2 hok2 hph2 ⊢
      have f2 : τ.cur = some k := f2.trans hc
      by_cases hP : pend τ (dp k) = []
      · rw [addWait_pnil hP, hk2]
        dsimp only
        rw [if_pos (show (exp1 d).wr = [] from c3.2)]
        have hall : ∀ x ∈ dp k, okn τ x = true := fun x hx => by
          cases q : okn τ x with
          | true => rfl
          | false =>
            have : x ∈ pend τ (dp k) := List.mem_filter.mpr ⟨hx, by rw [q]; rfl⟩
            rw [hP] at this; cases this
        refine ⟨rfl, ?_, f2, hkn, hphn, fun x => (okn_set (d' := { exp1 d with ph := true }) hk2 rfl x).trans (hok2 x), fun x => (phn_set (d' := { exp1 d with ph := true }) hk2 rfl x).trans (by rw [hph2]), fun x hx => by rw [← hok2]; exact hall x hx⟩
        exact I2.given hk2 c3.2 f2 (fun x hx => ⟨hd2 x hx, hall x hx⟩) (e' := d.exp + 1) (by lia)
      · have hnd : (addWait τ k (dp k)).nd k = some { exp1 d with wm := if k ∈ pend τ (dp k) ∧ k ∉ (exp1 d).wm then (exp1 d).wm ++ [k] else (exp1 d).wm, wr := uni (exp1 d).wr (pend τ (dp k)) } := by
          rw [addWait_nd, hk2]; simp
        rw [hnd]
        dsimp only
        have hne : uni (exp1 d).wr (pend τ (dp k)) ≠ [] := fun z => by
          cases hh : pend τ (dp k) with
          | nil => exact hP hh
          | cons y r =>
            have : y ∈ uni (exp1 d).wr (pend τ (dp k)) := mem_uni.mpr (.inr (by rw [hh]; exact .head _))
            rw [z] at this; cases this
        rw [if_neg hne]
        refine ⟨I2.wait hk2 (by show d.exp + 1 = 1; lia) c3.2 hp f2 hd2 hP, ?_, fun x => (addWait_ok x).trans (hok2 x), fun x => (addWait_ph x).trans (hph2 x)⟩
        have h1 := hmuc (addWait τ k (dp k)) f2
        rw [mu_wait, hmu2] at h1
        exact h1
    · have he1 : d.exp = 1 := by lia
      have hL : expL (dp k) d = [] := by unfold expL; rw [if_neg h0]
      have he : expS σ (dp k) k d = σ.set k (exp1 d) := by
        unfold expS
        rw [hL]
        exact sg_nd addWait_nil rfl rfl rfl rfl rfl
      rw [he, Sg.set_self]
      dsimp only
      rw [if_pos (show (exp1 d).wr = [] from c3.2)]
      obtain ⟨a, b⟩ := I.e1 k d hk (fun q => nomatch q) (by lia)
      have hall : ∀ x ∈ dp k, okn σ x = true := fun x hx => by
        cases q : okn σ x with
        | true => rfl
        | false => have := (b x).mpr ⟨hx, .inl q⟩; rw [c3.2] at this; cases this
      have e2 : (σ.set k (exp1 d)).set k { exp1 d with ph := true } = σ.set k { d with exp := d.exp + 1, ph := true } := by
        refine sg_nd ?_ rfl rfl rfl rfl rfl
        funext j
        by_cases q : j = k
        · rw [q, Sg.set_self, Sg.set_self]; rfl
        · rw [Sg.set_ne q, Sg.set_ne q, Sg.set_ne q]
      rw [e2]
      refine ⟨rfl, I.weak.given hk c3.2 hc (fun x hx => ⟨a x hx, hall x hx⟩) (by lia), hc, hkn, hphn, okn_set (d' := { d with exp := d.exp + 1, ph := true }) hk rfl, phn_set (d' := { d with exp := d.exp + 1, ph := true }) hk rfl, hall⟩
end
-- M37
section
variable {nt : Nat} {dp : Nat → List Nat} {σ : Sg}
theorem gen_frame {k : Nat} (hk : σ.nd k = none) (x : Nat) : okn (gen σ none k) x = okn σ x ∧ phn (gen σ none k) x = phn σ x := by
  rw [gen_eq hk]
  by_cases e : x = k
  · rw [e]; unfold okn phn Sg.set; simp [freshNd, hk]
  · unfold okn phn Sg.set; simp [e]
theorem nxt_frame : ∀ (r : List Nat) (x : Nat), okn (nxt σ r).2 x = okn σ x ∧ phn (nxt σ r).2 x = phn σ x ∧ (nxt σ r).2.wt = σ.wt
  | [], x => ⟨rfl, rfl, rfl⟩
  | k :: r, x => by
    cases hk : σ.nd k with
    | some d => simp only [nxt, hk]; exact nxt_frame r x
    | none =>
      simp only [nxt, hk]
      have := gen_frame (σ := { σ with tr := r.reverse }) hk x
      refine ⟨this.1, this.2, ?_⟩
      rw [gen_eq (σ := { σ with tr := r.reverse }) hk]; rfl
theorem getNext_frame (x : Nat) : okn (getNext σ).2 x = okn σ x ∧ phn (getNext σ).2 x = phn σ x := by
  unfold getNext
  cases hr : σ.rd with
  | nil => exact ⟨(nxt_frame _ x).1, (nxt_frame _ x).2.1⟩
  | cons k r => exact ⟨rfl, rfl⟩
/-- nothing is left to give -/
noncomputable def NoneOk (nt : Nat) (dp : Nat → List Nat) (σ σ' : Sg) : Prop := LI nt dp none noPd σ' ∧ σ'.cur = none ∧ σ'.rd = [] ∧ σ'.tr = [] ∧ (∀ x, okn σ' x = okn σ x) ∧ ∀ x, phn σ' x = phn σ x
theorem NoneOk.wait {σ' : Sg} (h : NoneOk nt dp σ σ') {j : Nat} (hj : j < nt) (hp : phn σ j = false) : j ∈ σ'.wt ∧ ∃ x ∈ dp j, okn σ x = false := by
  obtain ⟨I, hc, hr, ht, ho, hph⟩ := h
  rcases I.all j hj with q | ⟨d, hd⟩
  · rw [ht] at q; cases q
  · have hp' : d.ph = false := by rw [← phn_of hd, hph]; exact hp
    by_cases h0 : d.exp = 0
    · obtain ⟨_, _, _, r⟩ := I.e0 j d hd (fun q => nomatch q) h0
      rw [hr, hc] at r
      rcases r with r | r <;> cases r
    · obtain ⟨a, b, c⟩ := I.w1 j d hd (fun q => nomatch q) (by lia) hp'
      obtain ⟨e1, e2⟩ := I.e1 j d hd (fun q => nomatch q) (by lia)
      cases hw : d.wr with
      | nil =>
        have := c hw
        rw [hr, hc] at this
        rcases this with r | r <;> cases r
      | cons y r =>
        refine ⟨b (by rw [hw]; intro z; cases z), y, ?_⟩
        obtain ⟨h1, h2⟩ := (e2 y).mp (by rw [hw]; exact .head _)
        exact ⟨h1, by rw [← ho]; exact h2.resolve_right id⟩
/-- a given node ends -/
theorem LI.ends (I : LI nt dp none noPd σ) {k : Nat} {d : Nd} (hk : σ.nd k = some d) (hp : d.ph = true) (ho : d.ok = false) :
    LI nt dp none (fun j x => j = k ∧ x ∈ d.wm) (σ.set k { d with ok := true }) ∧ ∀ x ∈ d.wm, ∃ e, (σ.set k { d with ok := true }).nd x = some e ∧ k ∈ e.wr := by
  have hok : ∀ x, okn (σ.set k { d with ok := true }) x = (okn σ x || decide (x = k)) := fun x => by
    by_cases q : x = k
    · rw [q, okn_of Sg.set_self]; simp
    · unfold okn; rw [Sg.set_ne q]; simp [q]
  have hwm := fun x => I.wmi k d x hk ho
  have nk : ∀ j, (σ.set k { d with ok := true }).nd j = none ↔ σ.nd j = none := fun j => by
    by_cases q : j = k
    · rw [q, Sg.set_self, hk]; simp
    · rw [Sg.set_ne q]
  refine ⟨⟨I.sw.set hk (I.sw.anc k d hk) (I.sw.wr k d hk) (I.sw.wm k d hk), fun j e h => ?_, fun j e h => ?_, fun j e h _ h0 => ?_, fun j e h _ h1 => ?_, fun j e x h ho' => ?_, fun j e h hp' => ?_, fun j e h _ h1 hp' => ?_, fun j hj => ?_, fun j hj => ?_, fun j e h ho' => ?_, I.trl, fun j hj => (I.all j hj).imp_right fun q => (ex_set hk).mpr q, fun j hj => ?_⟩, fun x hx => ?_⟩
  · rcases set_cs h with ⟨rfl, _⟩ | ⟨_, h⟩
    · exact I.lt _ d hk
    · exact I.lt j e h
  · rcases set_cs h with ⟨rfl, rfl⟩ | ⟨_, h⟩
    · exact I.anc _ d hk
    · exact I.anc j e h
  · rcases set_cs h with ⟨rfl, rfl⟩ | ⟨_, h⟩
    · exfalso
      have := (I.ph _ d hk hp).1
      have h0 : d.exp = 0 := h0
      lia
    · exact I.e0 j e h (fun q => nomatch q) h0
  · have core : ∀ e0, σ.nd j = some e0 → 1 ≤ e0.exp → ∀ x, x ∈ e0.wr ↔ x ∈ dp j ∧ (okn (σ.set k { d with ok := true }) x = false ∨ (x = k ∧ j ∈ d.wm)) := fun e0 h0 h1 x => by
      obtain ⟨a, b⟩ := I.e1 j e0 h0 (fun q => nomatch q) h1
      rw [b x, hok]
      by_cases q : x = k
      · subst q
        have hkn : okn σ x = false := (okn_of hk).trans ho
        have : j ∈ d.wm ↔ x ∈ e0.wr := by
          rw [hwm]
          exact ⟨fun ⟨e, he, z⟩ => by rw [h0] at he; cases he; exact z, fun z => ⟨e0, h0, z⟩⟩
        rw [this, b x, hkn]
        simp
      · simp [q]
    rcases set_cs h with ⟨rfl, rfl⟩ | ⟨_, h⟩
    · exact ⟨fun x hx => (ex_set hk).mpr ((I.e1 _ d hk (fun q => nomatch q) h1).1 x hx), core d hk h1⟩
    · exact ⟨fun x hx => (ex_set hk).mpr ((I.e1 j e h (fun q => nomatch q) h1).1 x hx), core e h h1⟩
  · rw [wr_set (d' := { d with ok := true }) hk rfl]
    rcases set_cs h with ⟨rfl, rfl⟩ | ⟨_, h⟩
    · cases ho'
    · exact I.wmi j e x h ho'
  · rcases set_cs h with ⟨rfl, rfl⟩ | ⟨_, h⟩
    · exact I.ph _ d hk hp
    · exact I.ph j e h hp'
  · rcases set_cs h with ⟨rfl, rfl⟩ | ⟨_, h⟩
    · rw [show ({ d with ok := true } : Nd).ph = d.ph from rfl, hp] at hp'; cases hp'
    · exact I.w1 j e h (fun q => nomatch q) h1 hp'
  · obtain ⟨e, h, a, b, c⟩ := I.wt j hj
    refine ⟨e, (Sg.set_ne fun q => ?_).trans h, a, b, c⟩
    rw [q, hk] at h; cases h; rw [hp] at b; cases b
  · obtain ⟨e, h, a, b, c⟩ := I.rd j hj
    refine ⟨e, (Sg.set_ne fun q => ?_).trans h, a, b, c⟩
    rw [q, hk] at h; cases h; rw [hp] at b; cases b
  · rcases set_cs h with ⟨rfl, rfl⟩ | ⟨_, h⟩
    · exact hp
    · exact I.ok j e h ho'
  · obtain ⟨e, h, a, b, c⟩ := I.cur j hj
    by_cases q : j = k
    · subst q
      rw [hk] at h; cases h
      exact ⟨_, Sg.set_self, a, b, .inl hp⟩
    · exact ⟨e, (Sg.set_ne q).trans h, a, b, c⟩
  · exact (wr_set (d' := { d with ok := true }) hk rfl).mpr ((hwm x).mp hx)
end
-- M38
section
variable {nt : Nat} {dp : Nat → List Nat}
theorem upd1_frame {k x : Nat} {σ : Sg} : (upd1 k σ x).cur = σ.cur ∧ (∀ y, okn (upd1 k σ x) y = okn σ y) ∧ ∀ y, phn (upd1 k σ x) y = phn σ y := by
  have h := fun y => upd1_nd (σ := σ) (k := k) (x := x) (j := y)
  refine ⟨?_, fun y => ?_, fun y => ?_⟩
  · unfold upd1
    cases σ.nd x with
    | none => rfl
    | some d => dsimp only; split <;> rfl
  · unfold okn; rw [h]
    by_cases e : y = x
    · rw [if_pos e, e]; cases σ.nd x <;> rfl
    · rw [if_neg e]
  · unfold phn; rw [h]
    by_cases e : y = x
    · rw [if_pos e, e]; cases σ.nd x <;> rfl
    · rw [if_neg e]
theorem upd1_tr {k x : Nat} {σ : Sg} : (upd1 k σ x).tr = σ.tr := by
  unfold upd1
  cases σ.nd x with
  | none => rfl
  | some d => dsimp only; split <;> rfl
theorem LI.upd1 {k x : Nat} {S : List Nat} {σ : Sg} {e : Nd} (hn : x ∉ S) (I : LI nt dp none (fun j y => j = k ∧ y ∈ x :: S) σ) (hok : okn σ k = true) (hx : σ.nd x = some e) (hkx : k ∈ e.wr) : LI nt dp none (fun j y => j = k ∧ y ∈ S) (Mine.upd1 k σ x) := by
  have hex : 1 ≤ e.exp := by
    rcases Nat.eq_zero_or_pos e.exp with h | h
    · rw [(I.e0 x e hx (fun q => nomatch q) h).1] at hkx; cases hkx
    · exact h
  have hph : e.ph = false := by
    cases h : e.ph with
    | false => rfl
    | true => rw [(I.ph x e hx h).2] at hkx; cases hkx
  obtain ⟨he1, hwt, _⟩ := I.w1 x e hx (fun q => nomatch q) hex hph
  have hxw : x ∈ σ.wt := hwt fun z => by rw [z] at hkx; cases hkx
  have hxr : x ∉ σ.rd := fun h => I.sw.disj x h hxw
  have hwn := (I.sw.wr x e hx).2
  have fr := upd1_frame (k := k) (x := x) (σ := σ)
  have nd := fun y => upd1_nd (σ := σ) (k := k) (x := x) (j := y)
  have nx : (Mine.upd1 k σ x).nd x = some { e with wr := e.wr.erase k } := by rw [nd, if_pos rfl, hx]; rfl
  have nne : ∀ y, y ≠ x → (Mine.upd1 k σ x).nd y = σ.nd y := fun y h => by rw [nd, if_neg h]
  have cs : ∀ j d, (Mine.upd1 k σ x).nd j = some d → (j = x ∧ d = { e with wr := e.wr.erase k }) ∨ (j ≠ x ∧ σ.nd j = some d) := fun j d h => by
    by_cases q : j = x
    · rw [q, nx] at h; cases h; exact .inl ⟨q, rfl⟩
    · exact .inr ⟨q, (nne j q).symm.trans h⟩
  have exs : ∀ y, (∃ d, (Mine.upd1 k σ x).nd y = some d) ↔ ∃ d, σ.nd y = some d := fun y => by
    by_cases q : y = x
    · rw [q, nx, hx]; simp
    · rw [nne y q]
  have eqn : Mine.upd1 k σ x = if e.wr.erase k = [] then { σ.set x { e with wr := e.wr.erase k } with rd := σ.rd ++ [x], wt := σ.wt.filter fun j => j ≠ x } else σ.set x { e with wr := e.wr.erase k } := by
    unfold Mine.upd1
    rw [hx]
    dsimp only
    by_cases h : e.wr.erase k = []
    · rw [if_pos ⟨h, hxw⟩, if_pos h]
    · rw [if_neg fun z => h z.1, if_neg h]
  have rdm : ∀ j, j ∈ (Mine.upd1 k σ x).rd ↔ j ∈ σ.rd ∨ (j = x ∧ e.wr.erase k = []) := fun j => by
    rw [eqn]
    by_cases h : e.wr.erase k = []
    · rw [if_pos h]
      show j ∈ σ.rd ++ [x] ↔ _
      rw [List.mem_append, List.mem_singleton]; simp [h]
    · rw [if_neg h]; simp [h]; rfl
  have wtm : ∀ j, j ∈ (Mine.upd1 k σ x).wt ↔ j ∈ σ.wt ∧ ¬ (j = x ∧ e.wr.erase k = []) := fun j => by
    rw [eqn]
    by_cases h : e.wr.erase k = []
    · rw [if_pos h]
      show j ∈ σ.wt.filter (fun j => decide (j ≠ x)) ↔ _
      rw [List.mem_filter]; simp [h]
    · rw [if_neg h]; simp [h]; rfl
  refine ⟨I.sw.upd1, fun j d h => ?_, fun j d h => ?_, fun j d h _ h0 => ?_, fun j d h _ h1 => ?_, fun j d y h ho => ?_, fun j d h hp => ?_, fun j d h _ h1 hp => ?_, fun j hj => ?_, fun j hj => ?_, fun j d h ho => ?_, by rw [upd1_tr]; exact I.trl, fun j hj => ?_, fun j hj => ?_⟩
  · rcases cs j d h with ⟨rfl, _⟩ | ⟨_, h⟩
    · exact I.lt _ e hx
    · exact I.lt j d h
  · rcases cs j d h with ⟨rfl, rfl⟩ | ⟨_, h⟩
    · exact I.anc _ e hx
    · exact I.anc j d h
  · rcases cs j d h with ⟨rfl, rfl⟩ | ⟨q, h⟩
    · have h0 : e.exp = 0 := h0
      lia
    · obtain ⟨a, b, c, r⟩ := I.e0 j d h (fun q => nomatch q) h0
      exact ⟨a, b, c, r.elim (fun r => .inl ((rdm j).mpr (.inl r))) fun r => .inr (fr.1.trans r)⟩
  · rcases cs j d h with ⟨rfl, rfl⟩ | ⟨q, h⟩
    · obtain ⟨a, b⟩ := I.e1 j e hx (fun q => nomatch q) hex
      refine ⟨fun y hy => (exs y).mpr (a y hy), fun y => ?_⟩
      show y ∈ e.wr.erase k ↔ y ∈ dp j ∧ (okn (Mine.upd1 k σ j) y = false ∨ (y = k ∧ j ∈ S))
      rw [hwn.mem_erase_iff, b y, fr.2.1]
      constructor
      · rintro ⟨hne, hy, h | ⟨h, _⟩⟩
        · exact ⟨hy, .inl h⟩
        · exact absurd h hne
      · rintro ⟨hy, h | ⟨_, h⟩⟩
        · refine ⟨fun z => ?_, hy, .inl h⟩
          rw [z, hok] at h; cases h
        · exact absurd h hn
    · obtain ⟨a, b⟩ := I.e1 j d h (fun q => nomatch q) h1
      refine ⟨fun y hy => (exs y).mpr (a y hy), fun y => ?_⟩
      rw [b y, fr.2.1]
      simp [q]
  · have hjk : j ≠ k := fun z => by
      have : okn (Mine.upd1 k σ x) j = d.ok := okn_of h
      rw [fr.2.1, z, hok, ho] at this; cases this
    have rhs : (∃ d, (Mine.upd1 k σ x).nd y = some d ∧ j ∈ d.wr) ↔ ∃ d, σ.nd y = some d ∧ j ∈ d.wr := by
      by_cases q : y = x
      · rw [q, nx, hx]
        simp [hwn.mem_erase_iff, hjk]
      · rw [nne y q]
    rw [rhs]
    rcases cs j d h with ⟨rfl, rfl⟩ | ⟨_, h⟩
    · exact I.wmi j e y hx ho
    · exact I.wmi j d y h ho
  · rcases cs j d h with ⟨rfl, rfl⟩ | ⟨_, h⟩
    · rw [show ({ e with wr := e.wr.erase k } : Nd).ph = e.ph from rfl, hph] at hp; cases hp
    · exact I.ph j d h hp
  · rcases cs j d h with ⟨rfl, rfl⟩ | ⟨q, h⟩
    · exact ⟨he1, fun z => (wtm j).mpr ⟨hxw, fun w => z w.2⟩, fun z => .inl ((rdm j).mpr (.inr ⟨rfl, z⟩))⟩
    · obtain ⟨a, b, c⟩ := I.w1 j d h (fun q => nomatch q) h1 hp
      exact ⟨a, fun z => (wtm j).mpr ⟨b z, fun w => q w.1⟩, fun z => (c z).elim (fun r => .inl ((rdm j).mpr (.inl r))) fun r => .inr (fr.1.trans r)⟩
  · obtain ⟨hj, hne⟩ := (wtm j).mp hj
    by_cases q : j = x
    · subst q
      exact ⟨_, nx, he1, hph, fun z => hne ⟨rfl, z⟩⟩
    · obtain ⟨d, h, r⟩ := I.wt j hj
      exact ⟨d, (nne j q).trans h, r⟩
  · rcases (rdm j).mp hj with hj | ⟨rfl, hz⟩
    · obtain ⟨d, h, r⟩ := I.rd j hj
      exact ⟨d, (nne j fun q => hxr (q ▸ hj)).trans h, r⟩
    · exact ⟨_, nx, by show e.exp ≤ 1; lia, hph, hz⟩
  · rcases cs j d h with ⟨rfl, rfl⟩ | ⟨_, h⟩
    · exact I.ok j e hx ho
    · exact I.ok j d h ho
  · rw [upd1_tr]
    exact (I.all j hj).imp_right fun q => (exs j).mpr q
  · rw [fr.1] at hj
    obtain ⟨d, h, a, b, c⟩ := I.cur j hj
    have q : j ≠ x := fun z => b (z ▸ hxw)
    refine ⟨d, (nne j q).trans h, fun z => ?_, fun z => b ((wtm j).mp z).1, c⟩
    rcases (rdm j).mp z with z | z
    · exact a z
    · exact q z.1
theorem LI.upd {k : Nat} : ∀ {S : List Nat} {σ : Sg}, S.Nodup → LI nt dp none (fun j x => j = k ∧ x ∈ S) σ → okn σ k = true → (∀ x ∈ S, ∃ e, σ.nd x = some e ∧ k ∈ e.wr) →
    LI nt dp none noPd (updW σ k S) ∧ (updW σ k S).cur = σ.cur ∧ (∀ y, okn (updW σ k S) y = okn σ y) ∧ ∀ y, phn (updW σ k S) y = phn σ y
  | [], σ, _, I, _, _ => by
    have : (fun j x => j = k ∧ x ∈ ([] : List Nat)) = noPd := by funext j x; simp
    rw [this] at I
    exact ⟨I, rfl, fun _ => rfl, fun _ => rfl⟩
  | x :: S, σ, hn, I, hok, h => by
    obtain ⟨e, hx, hkx⟩ := h x (.head _)
    obtain ⟨n1, n2⟩ := List.nodup_cons.mp hn
    have fr := upd1_frame (k := k) (x := x) (σ := σ)
    obtain ⟨a, b, c, d⟩ := LI.upd (S := S) (σ := Mine.upd1 k σ x) n2 (I.upd1 n1 hok hx hkx) (by rw [fr.2.1]; exact hok) fun y hy => by
      obtain ⟨e', h', r⟩ := h y (.tail _ hy)
      exact ⟨e', by rw [upd1_nd, if_neg (fun z : y = x => n1 (z ▸ hy))]; exact h', r⟩
    exact ⟨a, b.trans fr.1, fun y => (c y).trans (fr.2.1 y), fun y => (d y).trans (fr.2.2 y)⟩
end
-- M39
section
variable {px : Px}
variable {n : Nat} {X : XT} {w : Wd} {σ : Sg} {H : Hp}

theorem exHold (P : Params) : excIn (Mine.KH P) aHold [.type "Exception", .type "BaseException", .type "object"] "Exception.__new__" = true := by k_exc
theorem upd_cur (hd : w.dd = some σ) {c : Option Nat} : upd (hp w) (31, 0) (.attrs disNames (sto (disAt σ) (Str.ofString "node") (curPV c))) = hp (w.sg { σ with cur := c }) := by
  unfold sto
  refine upd_d (σ' := { σ with cur := c }) hd (by decide) (by decide) rfl fun b h1 h2 => ?_
  have : b = 30 ∨ b = 31 ∨ b = 32 ∨ b = 33 ∨ b = 34 ∨ b = 35 ∨ 36 ≤ b := by lia
  rcases this with rfl | rfl | rfl | rfl | rfl | rfl | h
  · rfl
  · rw [if_pos rfl]
    show some (Spec.attrs disNames (disAt { σ with cur := c })) = _
    congr 2
    funext y
    by_cases h : y = Str.ofString "node"
    · rw [if_pos h, h]
      show some (match c with | none => PV.none | some k => .loc (40, k)) = _
      cases c <;> rfl
    · rw [if_neg h]; simp only [disAt, at_, if_neg h]
  · rfl
  · rfl
  · rfl
  · rfl
  · rw [if_neg (by lia)]
    unfold hpD
    split <;> first | lia | rfl
theorem upd_cur0 (hd : w.dd = some σ) : upd (hp w) (31, 0) (.attrs disNames (sto (disAt σ) (Str.ofString "node") PV.none)) = hp (w.sg { σ with cur := none }) := upd_cur (c := none) hd
theorem addReadies_cur {par : Option (Nat × Nd)} : ∀ {l : List Nat} {σ : Sg}, (l.foldl (fun s x => addReady s par x) σ).cur = σ.cur
  | [], σ => rfl
  | x :: l, σ => (addReadies_cur (l := l) (σ := addReady σ par x)).trans (addReady_frame (nt := 0) (σ := σ) (par := par) (j := x)).2.2.1
theorem JS.monoX {C : Ctx} {F : FC} {n : Nat} {X X' : XT} {H : Hp} {e : List Stmt} {Q : AF → Hp → Prop} (h : JS C F n X e Q H) (q : ∀ c e s, X c e s → X' c e s) : JS C F n X' e Q H :=
  fun A c s a i S => wpAny_mono (h A c s a i S) (fun _ _ z => z) fun _ _ ⟨c', x, z⟩ => ⟨c', x, q _ _ _ z⟩
theorem XTr.mono {C : Ctx} {cl : Addr} {Q Q' : Hp → Prop} {fl : Cf → Value} (h : ∀ H, Q H → Q' H) : ∀ c e s, XTr C cl Q fl c e s → XTr C cl Q' fl c e s :=
  fun c e s z => z.casesOn fun a B H a0 e1 S q st hen hn tr out => ⟨a, B, H, a0, e1, S, h H q, st, hen, hn, tr, out⟩
/-- where a def's body ends by raising -/
inductive FnEndX (H : Hp) (i : Nat) (K : Hp → Prop) (H' : Hp) : Prop
  | mk (N' T' : Hp) (m' : Str → Option PV) (e : H' = Fm N' T' i m') (up : ∀ j sp, H (tmp j) = some sp → T' (tmp j) = some sp) (k : K N')
theorem con_fnX {C : Ctx} {n : Nat} {cl : Addr} {N : Hp} (O : C.Ok) {f : Addr} {name qual : Str} {params : Arguments} {body : List Stmt} {scope : Scope} {dV kV doc pm cdv ct oc : Value} {an od : Option Addr} {osl : Array (Option Value)} {ps ks : List PV} {kn : List Str} (binds : List (Str × PV)) {H : Hp} {K : PV → Hp → Prop} {KX : Hp → Prop}
    (ho : C.K.lookup f = some ⟨oc, od, .func (fnOf name qual params body scope dV kV doc pm an cdv ct), osl⟩) (hcd : codeIn C.K cdv qual = true)
    (hbind : ∀ c s vs us, C.K.In s.heap → DenL c ps vs → DenL c ks us → ∃ vb, BindsTo s (fnOf name qual params body scope dV kV doc pm an cdv ct) ⟨vs, kn.zip us⟩ vb ∧ DenP c binds vb)
    (hloc : (binds.all fun x => decide (scope.names.lookup x.1 = some .local)) = true)
    (hN : ∀ l, l.1 ≠ 0 → H l = N l)
    (h : ∀ i, H (tmp i) = none → ∀ I : AF → Hp → Prop, (∀ fl H', FnEnd H i K fl H' → I fl H') → JS C (FC.fn qual scope f cdv i) n (XHeld C cl (tmp i) (FnEndX H i KX)) body (EndQ I) (Fm N H i fun x => binds.reverse.lookup x))
    (hcell : autoParam (∀ x ∈ scope.names, x.2 ≠ .cell) Au.a1) (hco : autoParam (scope.isCoroutine = false) Au.a0) (hgen : autoParam (scope.isGenerator = false) Au.a0) (hk : autoParam (scope.kind = .function) Au.a0) :
    JCode C (n + 1) (XHold C cl fun H' => ∃ N', H' = ov N' H ∧ KX N') (.ref f) ps kn ks (fun p H' => ∃ N', H' = ov N' H ∧ K p N') H := by
  refine call_fnX O binds ho hcd hbind hloc (fun i hi => ?_) hcell hco hgen hk
  rw [Fm_of hN]
  refine ((h i hi _ fun _ _ q => q).mono fun fl H' q => ?_).monoX (XTr.mono fun H' ⟨N', T', m', e, hA, hK⟩ => ?_)
  · obtain ⟨N', T', m', e, hA, hK⟩ := q
    subst e; exact ⟨N', trim_Fm hA hi, hK⟩
  · subst e; exact ⟨N', trim_Fm hA hi, hK⟩
/-- what send hands back -/
noncomputable def Res (nt : Nat) (dp : Nat → List Nat) (σ : Sg) : Out → Prop
  | .go _ => False
  | .got k σ' => GotOk nt dp σ k σ'
  | .non σ' => NoneOk nt dp σ σ' ∧ σ'.wt = []
  | .hold σ' => NoneOk nt dp σ σ' ∧ σ'.wt ≠ []
noncomputable def Out.pv : Out → PV
  | .got k _ => .loc (40, k)
  | _ => .none
noncomputable def Out.sg : Out → Sg
  | .go σ => σ
  | .got _ σ => σ
  | .non σ => σ
  | .hold σ => σ
theorem c_send (O : (Cx px).Ok) {nt : Nat} {dp : Nat → List Nat} {tkv : List (Str × PV)} {pr : PV} {σu : Sg} (D : TD w nt dp tkv) (hd : w.dd = some σ)
    (hU : ∀ {X : XT} {H : Hp}, (∀ l : Loc, l.1 ≠ 0 → H l = hp w l) → JCode (Cx px) (n + 7) X (.ref 457) [.loc (30, 0), pr] [] [] (fun p H' => ∃ N', H' = ov N' H ∧ (p = .none ∧ N' = hp (w.sg σu))) H)
    (Iu : LI nt dp none noPd σu) (hN : ∀ l : Loc, l.1 ≠ 0 → H l = hp w l) :
    JCode (Cx px) (n + 8) (XHold (Cx px) aHold fun H' => ∃ N', H' = ov N' H ∧ ∃ σ', Res nt dp σu (.hold σ') ∧ N' = hp (w.sg σ')) (.ref 471) [.loc (30, 0), pr] [] [] (fun p H' => ∃ N', H' = ov N' H ∧ ∃ o, Res nt dp σu o ∧ (∀ s, o ≠ .hold s) ∧ p = o.pv ∧ N' = hp (w.sg o.sg)) H := by
  refine' con_fnX O [(Str.ofString "self", .loc (30, 0)), (Str.ofString "processed", pr)] ?ho ?hcd ?hbind ?hloc hN ?h ?hcell ?hco ?hgen ?hk
  case ho => refine' look_fn ?g; case g => show List.lookup _ (Mine.KH _) = _; k_is
  case hcd => show codeIn (Mine.KH _) _ _ = true; k_is
  case hbind =>
    intro c s vs us _ d d'
    obtain ⟨u0, u1, rfl, d0, d1⟩ := d.inv2
    have := d'.inv0; subst this
    exact ⟨_, BindsTo.of_eq rfl, .cons d0 (.cons d1 (.nil))⟩
  case hloc => rfl
  case hcell => decide
  case hco => rfl
  case hgen => rfl
  case hk => rfl
  case h =>
    intro i hi QI hQI
    iterate 4 walk_at "mj"
    refine f_methK O (ob_d hd) rfl (kmD_update_waiting _) ?_
    iterate 4 walk_at "mj"
    refine use_fn (hU fun l hl => Fm_nm hl) ?_
    rintro p N' ⟨rfl, rfl⟩
    iterate 2 walk_at "mj"
    refine X_whileX (fun q H' => ∃ τ f, H' = Fm (hp (w.sg τ)) H i (ovr (fun y => List.lookup y [(Str.ofString "self", PV.loc (30, 0)), (Str.ofString "processed", pr)].reverse) [Str.ofString "next_step"] f) ∧ LI nt dp none noPd τ ∧ (∀ x, okn τ x = okn σu x) ∧ (∀ x, phn τ x = phn σu x) ∧ q = mu nt τ) (mu nt σu) ⟨σu, _, by rw [ovr_self] <;> rfl, Iu, fun _ => rfl, fun _ => rfl, rfl⟩ ?_
    rintro q H' ⟨σ', f, rfl, I', o', p', rfl⟩
    have s' := I'.sw
    iterate 2 walk_at "mj"
    refine t_bool ?_
    iterate 8 walk_at "mj"
    refine mp1 (G := ∀ (τ : Sg) (k : Nat), LI nt dp none noPd τ → τ.cur = some k → (∀ x, okn τ x = okn σu x) → (∀ x, phn τ x = phn σu x) → mu nt τ ≤ mu nt σ' → JMeth (Cx px) _ _ (Str.ofString "_add_task") (.loc (30, 0)) _ (Fm (hp (w.sg τ)) H i (ovr (fun y => List.lookup y [(Str.ofString "self", PV.loc (30, 0)), (Str.ofString "processed", pr)].reverse) [Str.ofString "next_step"] f))) (fun g => by
      cases hc : σ'.cur with
      | none =>
        have node' : disAt σ' (Str.ofString "node") = some .none := by
          show some (match σ'.cur with | none => PV.none | some k => .loc (40, k)) = _
          rw [hc]
        refine f_get O (ob_d rfl) node' (kaD _ _ (by decide)) ?_
        refine t_none ?_
        refine ⟨fun _ => ?_, fun h => (nomatch (show true = false from h))⟩
        iterate 4 walk_at "mj"
        refine f_methK O (ob_d rfl) rfl (kmD_get_next_node _) ?_
        iterate 4 walk_at "mj"
        refine f_get O (ob_d rfl) rfl (kaD _ _ (by decide)) ?_
        iterate 3 walk_at "mj"
        refine f_get O (ob_d rfl) rfl (kaD _ _ (by decide)) ?_
        iterate 1 walk_at "mj"
        refine use_fn (c_get_next (w := w.sg σ') O D.sg rfl s' I'.trl fun l hl => Fm_nm hl) ?_
        rintro p N' ⟨rfl, rfl⟩
        obtain ⟨In, hn1, hn2⟩ := I'.getNext D.ntz hc
        iterate 1 walk_at "mj"
        refine f_set O (ob_d rfl) (ksD _ _ (by decide)) (by decide) ?_
        rw [upd_cur (w := (w.sg σ').sg (getNext σ').2) rfl]
        iterate 7 walk_at "mj"
        cases hg : (getNext σ').1 with
        | none =>
          rw [hg] at In
          obtain ⟨hr1, hr2⟩ := hn1 hg
          have key : NoneOk nt dp σu { (getNext σ').2 with cur := none } := ⟨In, rfl, hr1, hr2, fun x => ((getNext_frame x).1).trans (o' x), fun x => ((getNext_frame x).2).trans (p' x)⟩
          refine f_get O (ob_d rfl) rfl (kaD _ _ (by decide)) ?_
          refine t_none ?_
          refine ⟨fun _ => ?_, fun h => (nomatch (show true = false from h))⟩
          iterate 5 walk_at "mj"
          refine f_get O (ob_d rfl) rfl (kaD _ _ (by decide)) ?_
          refine t_dict O (kvs := nodeD (getNext σ').2.wt) (Fm_get (by first | exact nz rfl | simp) ((hp_d (σ := { (getNext σ').2 with cur := none }) rfl (by decide) (by decide)).trans rfl)) (by have := key.1.sw.wtn; have e9 : ({ (getNext σ').2 with cur := none } : Sg).wt = (getNext σ').2.wt := rfl; rw [e9] at this; simp [nodeD]; lia) ?_
          by_cases hw : (getNext σ').2.wt = []
          · rw [show (!(nodeD (getNext σ').2.wt).isEmpty) = false by rw [hw]; rfl]
            refine ⟨fun h => (nomatch (show false = true from h)), fun _ => ?_⟩
            iterate 11 walk_at "mj"
            exact ⟨_, _, _, rfl, fun _ _ e => e, .non _, ⟨key, hw⟩, fun s h => (nomatch h), rfl, rfl⟩
          · have : (!(nodeD (getNext σ').2.wt).isEmpty) = true := by
              cases h : (getNext σ').2.wt with
              | nil => exact absurd h hw
              | cons x r => rfl
            rw [this]
            iterate 2 walk_at "mj"
            refine X_raise O (gHoldOn _) (exHold _) PySem.F.excBase_Exception ?_
            iterate 3 walk_at "mj"
            exact ⟨by simp, _, _, _, rfl, fun _ _ e => e, _, ⟨key, hw⟩, rfl⟩
        | some k =>
        rw [hg] at In
        have hcτ' : ({ (getNext σ').2 with cur := some k } : Sg).cur = some k := rfl
        have nodeg : disAt { (getNext σ').2 with cur := some k } (Str.ofString "node") = some (.loc (40, k)) := rfl
        obtain ⟨d0, hd0, _⟩ := In.cur k rfl
        refine f_get O (ob_d rfl) nodeg (kaD _ _ (by decide)) ?_
        refine t_inst O (ob_n rfl hd0).e (ob_n rfl hd0).f (nbN _) (nlN _) ?_
        refine ⟨fun h => (nomatch (show false = true from h)), fun _ => ?_⟩
        obtain ⟨τ, eτ⟩ : ∃ τ : Sg, τ = { (getNext σ').2 with cur := some k } := ⟨_, rfl⟩
        have Iτ : LI nt dp none noPd τ := eτ ▸ In
        have hcτ : τ.cur = some k := by rw [eτ]
        have oτ : ∀ x, okn τ x = okn σu x := fun x => by rw [eτ]; exact ((getNext_frame x).1).trans (o' x)
        have pτ : ∀ x, phn τ x = phn σu x := fun x => by rw [eτ]; exact ((getNext_frame x).2).trans (p' x)
        have mτ : mu nt τ ≤ mu nt σ' := by rw [eτ]; exact Nat.le_of_lt (hn2 k hg)
        rw [← eτ]
        iterate 8 walk_at "mj"
        exact g τ k Iτ hcτ oτ pτ mτ
      | some k =>
        have node' : disAt σ' (Str.ofString "node") = some (.loc (40, k)) := by
          show some (match σ'.cur with | none => PV.none | some k => .loc (40, k)) = _
          rw [hc]
        obtain ⟨d0, hd0, _⟩ := I'.cur k hc
        refine f_get O (ob_d rfl) node' (kaD _ _ (by decide)) ?_
        refine t_inst O (ob_n rfl hd0).e (ob_n rfl hd0).f (nbN _) (nlN _) ?_
        refine ⟨fun h => (nomatch (show false = true from h)), fun _ => ?_⟩
        obtain ⟨τ, eτ⟩ : ∃ τ, τ = σ' := ⟨_, rfl⟩
        have Iτ : LI nt dp none noPd τ := eτ ▸ I'
        have hcτ : τ.cur = some k := eτ ▸ hc
        have oτ : ∀ x, okn τ x = okn σu x := eτ ▸ o'
        have pτ : ∀ x, phn τ x = phn σu x := eτ ▸ p'
        have mτ : mu nt τ ≤ mu nt σ' := by rw [eτ]; exact Nat.le_refl _
        rw [← eτ]
        iterate 6 walk_at "mj"
        exact g τ k Iτ hcτ oτ pτ mτ) ?_
    intro τ k Iτ hcτ oτ pτ mτ
    obtain ⟨dk, hdk, hkr, hkw, hk3⟩ := Iτ.cur k hcτ
    have sτ := Iτ.sw
    have hkn := Iτ.lt k dk hdk
    have nodeτ : disAt τ (Str.ofString "node") = some (.loc (40, k)) := by
      show some (match τ.cur with | none => PV.none | some k => .loc (40, k)) = _
      rw [hcτ]
    have hact := act_law D.ntz D.dlt Iτ hcτ hdk
    have hexp : dk.exp ≤ 1 ∨ dk.ph = true := hk3.elim .inr fun z => .inl z.1
    refine f_methK O (ob_d rfl) rfl (kmD_add_task _) ?_
    iterate 4 walk_at "mj"
    refine f_get O (ob_d rfl) nodeτ (kaD _ _ (by decide)) ?_
    iterate 1 walk_at "mj"
    refine use_fn (c_add_task (w := w.sg τ) O D.sg rfl sτ hdk hkn hexp (Iτ.anc k dk hdk) fun l hl => Fm_nm hl) ?_
    rintro p N' ⟨rfl, rfl⟩
    refine f_st ?_
    rw [ovr_st (by decide)]
    unfold addTask
    unfold act at hact
    cases hph : dk.ph with
    | true =>
      rw [hph, if_pos rfl] at hact
      rw [if_pos rfl]
      iterate 6 walk_at "mj"
      refine op_is ?_
      refine ⟨true, rfl, fun _ => ?_, fun h => (nomatch h)⟩
      iterate 4 walk_at "mj"
      refine f_set O (ob_d rfl) (ksD _ _ (by decide)) (by decide) ?_
      rw [upd_cur0 (w := (w.sg τ).sg τ) rfl]
      iterate 6 walk_at "mj"
      exact ⟨_, (by first | exact Nat.lt_of_lt_of_le hact.2.1 mτ | exact hact.2.1), _, _, rfl, hact.1, fun x => (hact.2.2.1 x).trans (oτ x), fun x => (hact.2.2.2 x).trans (pτ x), rfl⟩
    | false =>
      rw [hph, if_neg (by decide)] at hact
      rw [if_neg (by decide)]
      cases he : (expS τ (dp k) k dk).nd k with
      | none => rw [he] at hact; exact hact.elim
      | some e =>
        rw [he] at hact
        dsimp only at hact ⊢
        by_cases hwr : e.wr = []
        · rw [if_pos hwr] at hact ⊢
          obtain ⟨-, hact⟩ := hact
          have ncur : ((expS τ (dp k) k dk).set k { e with ph := true }).cur = some k := hact.2.1
          have node2 : disAt ((expS τ (dp k) k dk).set k { e with ph := true }) (Str.ofString "node") = some (.loc (40, k)) := by
            show some (match ((expS τ (dp k) k dk).set k { e with ph := true }).cur with | none => PV.none | some k => .loc (40, k)) = _
            rw [ncur]
          iterate 6 walk_at "mj"
          refine op_is ?_
          refine ⟨false, rfl, fun h => (nomatch h), fun _ => ?_⟩
          iterate 7 walk_at "mj"
          refine op_eqS ?_
          refine ⟨true, congrArg PV.bool (by decide), fun _ => ?_, fun h => (nomatch h)⟩
          iterate 4 walk_at "mj"
          refine f_get O (ob_d rfl) node2 (kaD _ _ (by decide)) ?_
          iterate 5 walk_at "mj"
          refine ⟨_, _, _, rfl, fun _ _ e => e, .got k _, ?_, fun s h => (nomatch h), rfl, rfl⟩
          obtain ⟨a1, a2, a3, a4, a5, a6, a7⟩ := hact
          exact ⟨a1, a2, a3, by rw [← pτ]; exact a4, fun x => (a5 x).trans (oτ x), fun x => by rw [a6, pτ], fun x hx => by rw [← oτ]; exact a7 x hx⟩
        · rw [if_neg hwr] at hact ⊢
          have hk9 : k ∉ (expS τ (dp k) k dk).wt := fun hm => by
            have := hact.1.sw.wtN
            have := (List.nodup_append.mp this).2.2 k hm k (List.mem_singleton.mpr rfl)
            exact this rfl
          have wtl : ∀ j ∈ (expS τ (dp k) k dk).wt, j < 21 := fun j hj => by
            obtain ⟨d9, h9, _⟩ := hact.1.wt j (List.mem_append.mpr (.inl hj))
            have := hact.1.lt j d9 h9
            have := D.ntz
            lia
          have wtz : (expS τ (dp k) k dk).wt.length ≤ 100 := by
            have := hact.1.sw.wtn
            have e9 : ({ expS τ (dp k) k dk with wt := (expS τ (dp k) k dk).wt ++ [k], cur := none } : Sg).wt = (expS τ (dp k) k dk).wt ++ [k] := rfl
            rw [e9, List.length_append] at this
            lia
          have ecur : (expS τ (dp k) k dk).cur = τ.cur := by
            unfold expS
            show (List.foldl (fun s x => addReady s (some (k, exp1 dk)) x) (τ.set k (exp1 dk)) (expL (dp k) dk)).cur = τ.cur
            exact addReadies_cur (l := expL (dp k) dk)
          have node2 : disAt (expS τ (dp k) k dk) (Str.ofString "node") = some (.loc (40, k)) := by
            show some (match (expS τ (dp k) k dk).cur with | none => PV.none | some k => .loc (40, k)) = _
            rw [ecur, hcτ]
          obtain ⟨ts, ht, htd⟩ := D.tk k hkn
          iterate 6 walk_at "mj"
          refine op_is ?_
          refine ⟨false, rfl, fun h => (nomatch h), fun _ => ?_⟩
          iterate 7 walk_at "mj"
          refine op_eqS ?_
          refine ⟨false, congrArg PV.bool (by decide), fun h => (nomatch h), fun _ => ?_⟩
          iterate 7 walk_at "mj"
          refine op_eqS ?_
          refine ⟨true, congrArg PV.bool (by decide), rfl, ?_⟩
          iterate 5 walk_at "mj"
          refine f_get O (ob_d rfl) node2 (kaD _ _ (by decide)) ?_
          iterate 2 walk_at "mj"
          refine f_get O (ob_d rfl) rfl (kaD _ _ (by decide)) ?_
          iterate 4 walk_at "mj"
          refine f_get O (ob_d rfl) node2 (kaD _ _ (by decide)) ?_
          refine f_get O (ob_n rfl he) rfl (kaN _ _ (by decide)) ?_
          refine f_get O (ob_t (k := k) ht) rfl (kaT _ _ (by decide)) ?_
          refine op_setitem O (kvs := nodeD (expS τ (dp k) k dk).wt) (Fm_get (by first | exact nz rfl | simp) ((hp_d rfl (by decide) (by decide)).trans rfl)) (by simp [nodeD]; lia) ?_
          rw [Fm_mod (by simp), dput_nodeD_new wtl (by have := D.ntz; lia) hk9, upd_wt (w := (w.sg τ).sg (expS τ (dp k) k dk)) rfl]
          iterate 5 walk_at "mj"
          refine f_set O (ob_d rfl) (ksD _ _ (by decide)) (by decide) ?_
          rw [upd_cur0 (w := ((w.sg τ).sg (expS τ (dp k) k dk)).sg { expS τ (dp k) k dk with wt := (expS τ (dp k) k dk).wt ++ [k] }) (σ := { expS τ (dp k) k dk with wt := (expS τ (dp k) k dk).wt ++ [k] }) rfl]
          iterate 3 walk_at "mj"
          exact ⟨_, (by first | exact Nat.lt_of_lt_of_le hact.2.1 mτ | exact hact.2.1), _, _, rfl, hact.1, fun x => (hact.2.2.1 x).trans (oτ x), fun x => (hact.2.2.2 x).trans (pτ x), rfl⟩
end
-- M40
section
variable {px : Px}
variable {n : Nat} {X : XT} {w : Wd} {σ : Sg} {H : Hp}

theorem JCode.monoX {C : Ctx} {n : Nat} {X X' : XT} {H : Hp} {f : Value} {ps ks : List PV} {kn : List Str} {Q : PV → Hp → Prop} (h : JCode C n X f ps kn ks Q H) (q : ∀ c e s, X c e s → X' c e s) : JCode C n X' f ps kn ks Q H :=
  fun A c s vs us a d d' S => codeAny_mono (h A c s vs us a d d' S) fun r s' z => by
    rcases r with e | (_ | _ | _ | v) <;> first | exact z | (obtain ⟨c', x, z⟩ := z; exact ⟨c', x, q _ _ _ z⟩)
/-- what is left of a callee's places where a value is handed back -/
noncomputable def PV.at : PV → Loc → Bool
  | .loc l, l' => decide (l' = l)
  | _, _ => false
noncomputable def trimR (H H' : Hp) (p : PV) : Hp := fun l => if l.1 = 0 ∧ H l = none ∧ p.at l = false then none else H' l
theorem St.leaveR {C : Ctx} {H : Hp} {s : Shared} {H' : Hp} {c₂ : Cf} {fa : List Loc} {a : Loc} {p : PV} (S : St C c₂ H' s) (hfa : c₂.fa = a :: fa) (hin : ∀ l ∈ fa, ∃ m, H l = some (.ns m)) : St C { c₂ with fa := fa } (trimR H H' p) s := by
  have sub : c₂.Sub { c₂ with fa := fa } := fun l u => ⟨u, rfl⟩
  have tr : ∀ l sp, trimR H H' p l = some sp → H' l = some sp := fun l sp e => by
    unfold trimR at e
    split at e
    · cases e
    · exact e
  refine ⟨S.base, S.frz, fun l sp e => (S.reg l sp (tr l sp e)).sub sub, fun l sp e => S.used l sp (tr l sp e), fun l l' q q' e e' => S.inj l l' q q' (tr _ _ e) (tr _ _ e'), fun l q e => S.hi l q (tr _ _ e), fun l q e => S.sepF l q (tr _ _ e), S.fin, fun l h u => ?_, fun l hl => ?_, S.os, S.gens, S.hbs⟩
  · obtain ⟨sp, e⟩ := S.nmd l h u
    exact ⟨sp, by unfold trimR; rw [if_neg fun q => h q.1]; exact e⟩
  · obtain ⟨m, e'⟩ := hin l hl
    obtain ⟨m', f'⟩ := S.fr l (by rw [hfa]; exact .tail _ hl)
    exact ⟨m', by unfold trimR; rw [if_neg fun q => by rw [e'] at q; cases q.2.1]; exact f'⟩
/-- a call of the text's def -/
theorem call_fnR {C : Ctx} {n : Nat} {X : XT} {H : Hp} (O : C.Ok) {f : Addr} {name qual : Str} {params : Arguments} {body : List Stmt} {scope : Scope} {dV kV doc pm cdv ct oc : Value} {an od : Option Addr} {osl : Array (Option Value)} {ps ks : List PV} {kn : List Str} {Q : PV → Hp → Prop} (binds : List (Str × PV))
    (ho : C.K.lookup f = some ⟨oc, od, .func (fnOf name qual params body scope dV kV doc pm an cdv ct), osl⟩) (hcd : codeIn C.K cdv qual = true)
    (hbind : ∀ c s vs us, C.K.In s.heap → DenL c ps vs → DenL c ks us → ∃ vb, BindsTo s (fnOf name qual params body scope dV kV doc pm an cdv ct) ⟨vs, kn.zip us⟩ vb ∧ DenP c binds vb)
    (hloc : (binds.all fun x => decide (scope.names.lookup x.1 = some .local)) = true)
    (h : ∀ i, H (tmp i) = none → ∀ I : AF → Hp → Prop, (∀ fl H', Q fl.val (trimR H H' fl.val) → I fl H') → JS C (FC.fn qual scope f cdv i) n XF body (EndQ I) (upd H (tmp i) (.ns fun x => binds.reverse.lookup x)))
    (hcell : autoParam (∀ x ∈ scope.names, x.2 ≠ .cell) Au.a1) (hco : autoParam (scope.isCoroutine = false) Au.a0) (hgen : autoParam (scope.isGenerator = false) Au.a0) (hk : autoParam (scope.kind = .function) Au.a0) :
    JCode C (n + 1) X (.ref f) ps kn ks Q H := by
  intro A c s vs us a d d' S
  obtain ⟨vb, hb, db⟩ := hbind c s vs us (O.k.keeps S.base) d d'
  obtain ⟨i, hi⟩ := S.fresh
  have hX := O.k.keeps S.base
  refine codeAny_call_def (fd := fnOf name qual params body scope dV kV doc pm an cdv ct) (body := body) (binds := vb) a.room (hX _ _ ho) rfl (O.top.nolimit.keeps S.base) (codeRec_of hX hcd) rfl hb hcell ?_ ?_ hco hgen hk
  · intro x hx
    have : x.1 ∈ binds.map (·.1) := by rw [db.keys]; exact List.mem_map_of_mem hx
    obtain ⟨y, hy, e⟩ := List.mem_map.mp this
    rw [← e]; exact of_decide_eq_true (List.all_eq_true.mp hloc y hy)
  intro h₀ hns hk0
  let c₁ : Cf := { c.put (tmp i) s.heap.objs.size with fa := tmp i :: c.fa }
  have X0 := Cf.put_ext (a := s.heap.objs.size) hi
  have sub1 : (c.put (tmp i) s.heap.objs.size).Sub c₁ := fun l u => ⟨u, rfl⟩
  have sub0 : c.Sub c₁ := X0.on
  have S₀ : St C (c.put (tmp i) s.heap.objs.size) (upd H (tmp i) (.ns fun x => binds.reverse.lookup x)) { s with heap := h₀, toks := s.toks + vb.length } :=
    S.new (sp := .ns fun x => binds.reverse.lookup x) hi hk0 (Nat.le_refl _) ⟨_, hns, fun x => ((db.reverse.lookup x).ext X0)⟩ s.drawn _
  have S₁ : St C c₁ (upd H (tmp i) (.ns fun x => binds.reverse.lookup x)) { s with heap := h₀, toks := s.toks + vb.length } := by
    refine ⟨S₀.base, S₀.frz, fun l sp e => (S₀.reg l sp e).sub sub1, S₀.used, S₀.inj, S₀.hi, S₀.sepF, S₀.fin, S₀.nmd, fun b hb => ?_, S₀.os, S₀.gens, S₀.hbs⟩
    rcases List.mem_cons.mp hb with rfl | hb
    · exact ⟨_, upd_self ..⟩
    · exact S₀.fr b hb
  have ef : ((⟨tmp i, qual, scope, some f, cdv, [], tmp i⟩ : FC).env c₁) = callEnv (fnOf name qual params body scope dV kV doc pm an cdv ct) s.heap.objs.size f := by
    show envOf qual scope (c₁.ι (tmp i)) f cdv = envOf qual scope s.heap.objs.size f cdv
    rw [show c₁.ι (tmp i) = s.heap.objs.size from Cf.put_self c (tmp i) s.heap.objs.size]
  have := h i (S.none_of hi) _ (fun _ _ q => q) (A.deeper (callEnv (fnOf name qual params body scope dV kV doc pm an cdv ct) s.heap.objs.size f)) c₁ _
    (a.deeper (l := tmp i) hk (by show some s.heap.objs.size = some (c₁.ι (tmp i)); rw [show c₁.ι (tmp i) = s.heap.objs.size from Cf.put_self c (tmp i) s.heap.objs.size]) rfl (.inl rfl) sub0) ⟨.inl rfl, .inl rfl, ⟨_, rfl⟩, fun _ h => (nomatch h)⟩ S₁
  unfold FC.fn at this
  rw [ef] at this
  refine (wpF0 this fun fl s' g H' c₂ x₂ d₂ S₂ q => ?_)
  have hfa : c₂.fa = tmp i :: c.fa := x₂.fa
  have S₃ := S₂.leaveR (p := g.val) (H := H) hfa S.fr
  have sub3 : c₂.Sub { c₂ with fa := c.fa } := fun l u => ⟨u, rfl⟩
  refine ⟨g.val, _, { c₂ with fa := c.fa }, ⟨x₂.fz, rfl, fun l u => ?_⟩, ?_, S₃, q⟩
  · have u₁ := sub0 l u
    have u₂ := x₂.on l u₁.1
    exact ⟨u₂.1, u₂.2.trans u₁.2⟩
  · cases g with
    | next => have : fl = .next := d₂; subst this; rfl
    | brk => have : fl = .brk := d₂; subst this; rfl
    | cont => have : fl = .cont := d₂; subst this; rfl
    | ret p => obtain ⟨v, rfl, dv⟩ := d₂; exact dv.sub sub3
/-- the frame of a def with cells -/
noncomputable def FC.fnC (qual : Str) (scope : Scope) (f : Addr) (cdv : Value) (i : Nat) : FC := ⟨tmp i, qual, scope, some f, cdv, cellLocs (i + 1) scope.names [], tmp i⟩
theorem cellLocs_once : ∀ (names : List (Str × NameKind)) (j : Nat) (acc : List (Str × Loc)), ((names.filter fun x => x.2 == .cell).map (·.1)).Nodup → (acc.map (·.1)).Nodup → (∀ a ∈ acc.map (·.1), a ∉ (names.filter fun x => x.2 == .cell).map (·.1)) → ((cellLocs j names acc).map (·.1)).Nodup := by
  intro names
  induction names with
  | nil => intro j acc _ h _; exact h
  | cons y r ih =>
    intro j acc h1 h2 h3
    obtain ⟨yn, yk⟩ := y
    unfold cellLocs
    by_cases hy : (yk == NameKind.cell) = true
    · rw [if_pos hy]
      simp only [List.filter_cons, hy, if_true, List.map_cons, List.nodup_cons] at h1 h3
      refine ih _ _ h1.2 ?_ ?_
      · rw [List.map_cons, List.nodup_cons]
        exact ⟨fun m => h3 _ m (List.mem_cons_self), h2⟩
      · intro a ha
        rcases List.mem_cons.mp ha with rfl | ha
        · exact h1.1
        · exact fun m => h3 a ha (List.mem_cons_of_mem _ m)
    · rw [if_neg hy]
      simp only [List.filter_cons, hy, if_false] at h1 h3
      exact ih _ _ (by simpa using h1) h2 (by simpa using h3)
theorem look_mid {α β : Type} {f : α → β} {xn : Str} {xl : α} {r : List (Str × α)} : ∀ (pre : List (Str × α)), xn ∉ pre.map (·.1) → ((pre ++ (xn, xl) :: r).map fun x => (x.1, f x.2)).lookup xn = some (f xl)
  | [], _ => by rw [List.nil_append, List.map_cons, List.lookup_cons, beq_self_eq_true]
  | y :: pre, h => by
    rw [List.cons_append, List.map_cons, List.lookup_cons, show (xn == y.1) = false from beq_eq_false_iff_ne.mpr fun e => h (by rw [e]; exact .head _)]
    exact look_mid pre fun m => h (.tail _ m)
theorem layC_out {H0 : Hp} {f : Str → Option PV} {k : Loc} : ∀ (cs : List (Str × Loc)), (∀ y ∈ cs, y.2 ≠ k) → layC H0 f cs k = H0 k
  | [], _ => rfl
  | y :: r, hy => by
    unfold layC
    rw [upd_ne _ _ fun z => hy y (.head _) z.symm]
    exact layC_out r fun z hz => hy z (.tail _ hz)
theorem zipP {c : Cf} : ∀ {ps : List PV} {vs : List Value} {ns : List Str}, DenL c ps vs → ns.length = ps.length → DenP c (ns.zip ps) (ns.zip vs)
  | _, _, [], _, _ => .nil
  | _, _, x :: ns, .cons p d, h => .cons p (zipP d (Nat.succ.inj h))
/-- the cells laid, one by one -/
structure Laid (C : Ctx) (c c₁ : Cf) (i : Nat) (H : Hp) (cs : List (Str × Loc)) (s : Shared) (c₂ : Cf) : Prop where
  sub : c.Sub c₂
  fz : c₂.fz = c.fz
  fa : c₂.fa = c.fa
  U : ∀ l, c₂.U l ↔ c.U l ∨ l = tmp i ∨ l ∈ cs.map (·.2)
  ι : ∀ l, c₂.U l → c₂.ι l = c₁.ι l
  S : St C c₂ H s
theorem tmp_inj {i j : Nat} (h : tmp i = tmp j) : i = j := congrArg Prod.snd h
/-- one cell more -/
theorem Laid.step {C : Ctx} {c c₁ c₂ : Cf} {i L k : Nat} {H H' : Hp} {r : List (Str × Loc)} {x : Str × Loc} {s : Shared} {v : Option PV} {v' : Option Value} (P : Laid C c c₁ i H' r s c₂) (hxl : x.2 = tmp (i + k)) (hk : 1 ≤ k) (haddr : c₁.ι x.2 = (L + k : Nat))
    (hi : ∀ k, i ≤ k → ¬ c.U (tmp k)) (hι0 : c₁.ι (tmp i) = L) (hsub : c.Sub c₁) (hr : ∀ y ∈ r, ∃ k, 1 ≤ k ∧ y.2 = tmp (i + k)) (hnr : ∀ y ∈ r, c₁.ι x.2 ≠ c₁.ι y.2) (hcell : s.heap.IsCell (c₁.ι x.2) v') (hd : DenO c v v') (hL : ∀ l sp, H l = some sp → c.ι l < L) (hfz : c.fz (L + k : Nat) = none) (hbs : C.hb.objs.size ≤ L)
    (hH : ∀ l, (∀ y ∈ r, y.2 ≠ l) → l ≠ tmp i → H' l = H l) : ∃ c₃, Laid C c c₁ i (upd H' x.2 (.cell v)) (x :: r) s c₃ := by
  have hxu : ¬ c₂.U x.2 := fun u => by
    rcases (P.U x.2).mp u with u | u | u
    · rw [hxl] at u; exact hi _ (Nat.le_add_right _ _) u
    · rw [hxl] at u; have := tmp_inj u; lia
    · obtain ⟨y, hy, e⟩ := List.mem_map.mp u; exact hnr y hy (by rw [e])
  have X2 := Cf.put_ext (a := c₁.ι x.2) hxu
  refine ⟨c₂.put x.2 (c₁.ι x.2), fun l u => ⟨(X2.on l (P.sub l u).1).1, ((X2.on l (P.sub l u).1).2).trans (P.sub l u).2⟩, P.fz, P.fa, fun l => ⟨fun u => ?_, fun u => ?_⟩, fun l u => ?_,
    P.S.adopt (sp := .cell v) (a := c₁.ι x.2) hxu ⟨_, hcell, (hd.sub P.sub).sub X2.on⟩ (fun k' q e => ?_) ?_ ?_⟩
  · rcases u with u | u
    · exact .inr (.inr (by rw [List.map_cons, u]; exact .head _))
    · rcases (P.U l).mp u with u | u | u
      · exact .inl u
      · exact .inr (.inl u)
      · exact .inr (.inr (.tail _ u))
  · rcases u with u | u | u
    · exact .inr ((P.U l).mpr (.inl u))
    · exact .inr ((P.U l).mpr (.inr (.inl u)))
    · rcases List.mem_cons.mp u with u | u
      · exact .inl u
      · exact .inr ((P.U l).mpr (.inr (.inr u)))
  · rcases u with u | u
    · subst u; rw [Cf.put_self]
    · rw [(X2.on l u).2, P.ι l u]
  · have u := P.S.used k' q e
    rw [P.ι k' u, haddr]
    rcases (P.U k').mp u with u | u | u
    · rw [(hsub k' u).2]
      rw [hH k' (fun y hy z => by obtain ⟨k2, hk2, e2⟩ := hr y hy; rw [← z, e2] at u; exact hi _ (Nat.le_add_right _ _) u) (fun z => by rw [z] at u; exact hi i (Nat.le_refl _) u)] at e
      have := hL k' q e
      lia
    · rw [u, hι0]; lia
    · obtain ⟨y, hy, ey⟩ := List.mem_map.mp u
      rw [← haddr, ← ey]; exact fun z => hnr y hy z.symm
  · rw [haddr]; exact Nat.le_trans hbs (Nat.le_add_right _ _)
  · rw [P.fz, haddr]; exact hfz
/-- a call of a def whose names lie in cells in part -/
theorem call_cellsR {C : Ctx} {n : Nat} {X : XT} {H : Hp} (O : C.Ok) {f : Addr} {name qual : Str} {params : Arguments} {body : List Stmt} {scope : Scope} {dV kV doc pm cdv ct oc : Value} {an od : Option Addr} {osl : Array (Option Value)} {ps : List PV} {Q : PV → Hp → Prop} (ns : List Str)
    (ho : C.K.lookup f = some ⟨oc, od, .func (fnOf name qual params body scope dV kV doc pm an cdv ct), osl⟩) (hcd : codeIn C.K cdv qual = true)
    (hbind : ∀ vs, vs.length = ps.length → bindArgs (fnOf name qual params body scope dV kV doc pm an cdv ct) ⟨vs, []⟩ = pure (ns.zip vs)) (hns : ns.length = ps.length)
    (hkind : ∀ x ∈ ns, scope.names.lookup x = some .local ∨ (scope.names.lookup x = some .cell ∧ ∀ L, ((cellsFrom L scope.names []).lookup x).isSome = true))
    (h : ∀ i, (∀ k, i ≤ k → H (tmp k) = none) → ∀ I : AF → Hp → Prop, (∀ fl H', Q fl.val (trimR H H' fl.val) → I fl H') → JS C (FC.fnC qual scope f cdv i) n XF body (EndQ I) (layC (upd H (tmp i) (.ns (bindLP (fun x => scope.names.lookup x) (ns.zip ps) fun _ => none))) (bindCP (fun x => scope.names.lookup x) (ns.zip ps) fun _ => none) (cellLocs (i + 1) scope.names [])))
    (hnd : ((scope.names.filter fun x => x.2 == .cell).map (·.1)).Nodup)
    (hco : autoParam (scope.isCoroutine = false) Au.a0) (hgen : autoParam (scope.isGenerator = false) Au.a0) (hk : autoParam (scope.kind = .function) Au.a0) :
    JCode C (n + 1) X (.ref f) ps [] [] Q H := by
  intro A c s vs us a d d' S
  obtain ⟨i, hi⟩ := S.fin
  have hX := O.k.keeps S.base
  refine codeAny_call_cells (fd := fnOf name qual params body scope dV kV doc pm an cdv ct) (body := body) (binds := ns.zip vs) a.room (hX _ _ ho) rfl (O.top.nolimit.keeps S.base) (codeRec_of hX hcd) rfl (hbind vs d.length.symm) rfl ?_ (fun s₁ IC => ?_) hco hgen hk
  · intro x hx
    rcases hkind x.1 (List.of_mem_zip hx).1 with q | ⟨q, q'⟩
    · exact .inl q
    · exact .inr ⟨q, q' _⟩
  obtain ⟨⟨h₁, tk, rfl⟩, hns', keep, fresh⟩ := IC.toInCall
  have db : DenP c (ns.zip ps) (ns.zip vs) := zipP d hns
  generalize hL : s.heap.objs.size = L at *
  have eloc : (callEnvC (fnOf name qual params body scope dV kV doc pm an cdv ct) L f).locals = L := rfl
  have ecells : (callEnvC (fnOf name qual params body scope dV kV doc pm an cdv ct) L f).cells = cellsFrom (L + 1) scope.names [] := rfl
  have e1 : DenO c none none := trivial
  -- the frame's place
  have S₀ : St C (c.put (tmp i) L) (upd H (tmp i) (.ns (bindLP (fun x => scope.names.lookup x) (ns.zip ps) fun _ => none))) { s with heap := h₁, toks := tk } := by
    refine S.new (sp := .ns (bindLP (fun x => scope.names.lookup x) (ns.zip ps) fun _ => none)) (hi i (Nat.le_refl _)) keep (by rw [hL]; exact Nat.le_refl _) ⟨_, hns', fun x => ?_⟩ s.drawn _
    exact (db.bindL (kindOf := fun x => scope.names.lookup x) (fun _ => e1) x).ext (Cf.put_ext (hi i (Nat.le_refl _)))
  -- the cells' places
  let c₁ : Cf := { c with ι := fun l => if l.1 = 0 ∧ i ≤ l.2 then L + (l.2 - i) else c.ι l, U := fun l => c.U l ∨ l = tmp i ∨ l ∈ (cellLocs (i + 1) scope.names []).map (·.2) }
  have hι : ∀ k, c₁.ι (tmp (i + k)) = (L + k : Nat) := fun k => by
    show (if (tmp (i + k)).1 = 0 ∧ i ≤ (tmp (i + k)).2 then _ else _) = _
    rw [if_pos ⟨rfl, Nat.le_add_right _ _⟩]; show L + (i + k - i) = _; lia
  have hcm := cellLocs_mem i scope.names 1 [] (fun _ h => nomatch h) (Nat.le_refl _)
  have sub : c.Sub c₁ := fun l u => ⟨.inl u, if_neg fun q => by
    have := hi l.2 q.2
    have e : tmp l.2 = l := by obtain ⟨l1, l2⟩ := l; simp only at q; rw [q.1]; rfl
    rw [e] at this; exact this u⟩
  have hmapc : ((cellLocs (i + 1) scope.names []).map fun x => (x.1, c₁.ι x.2)) = cellsFrom (L + 1) scope.names [] := cellLocs_addr L i c₁.ι hι scope.names 1 []
  have hcm0 : ∀ y ∈ cellLocs (i + 1) scope.names [], ∃ k, 1 ≤ k ∧ y.2 = tmp (i + k) := hcm
  have key : ∀ (cs pre : List (Str × Loc)), pre ++ cs = cellLocs (i + 1) scope.names [] → ∃ c₂ : Cf, Laid C c c₁ i (layC (upd H (tmp i) (.ns (bindLP (fun x => scope.names.lookup x) (ns.zip ps) fun _ => none))) (bindCP (fun x => scope.names.lookup x) (ns.zip ps) fun _ => none) cs) cs { s with heap := h₁, toks := tk } c₂ := by
    intro cs
    induction cs with
    | nil =>
      intro pre hp
      refine ⟨c.put (tmp i) L, (Cf.put_ext (hi i (Nat.le_refl _))).on, rfl, rfl, fun l => ⟨fun u => ?_, fun u => ?_⟩, fun l u => ?_, S₀⟩
      · rcases u with u | u
        · exact .inr (.inl u)
        · exact .inl u
      · rcases u with u | u | u
        · exact .inr u
        · exact .inl u
        · cases u
      · rcases u with u | u
        · subst u; rw [Cf.put_self]; exact (hι 0).symm
        · rw [((Cf.put_ext (a := L) (hi i (Nat.le_refl _))).on l u).2, (sub l u).2]
    | cons x r ih =>
      intro pre hp
      obtain ⟨c₂, P⟩ := ih (pre ++ [x]) (by rw [List.append_assoc]; exact hp)
      have hm : ∀ y ∈ x :: r, y ∈ cellLocs (i + 1) scope.names [] := fun y hy => by rw [← hp]; exact List.mem_append_right _ hy
      obtain ⟨k, hk1, hxl⟩ := hcm0 _ (hm _ (.head _))
      have haddr : c₁.ι x.2 = (L + k : Nat) := by rw [hxl]; exact hι k
      refine P.step hxl hk1 haddr hi (hι 0) sub (fun y hy => hcm0 y (hm y (.tail _ hy))) ?_ (v' := PySem.bindC (fun x => scope.names.lookup x) (ns.zip vs) (fun _ => none) x.1) ?_ (db.bindC (kindOf := fun x => scope.names.lookup x) (fun _ => e1) x.1) (fun l sp e => by have := S.lt e; rw [hL] at this; exact this) ?_
        (by have : @LE.le Nat _ C.hb.objs.size s.heap.objs.size := S.hbs; rw [hL] at this; exact this) (fun l hl hn => (layC_out r hl).trans (upd_ne _ _ hn))
      · have hpair : ((cellLocs (i + 1) scope.names []).map fun x => (x.1, c₁.ι x.2)).Pairwise fun x y => x.2 ≠ y.2 := by rw [hmapc]; exact IC.apart
        rw [← hp, List.map_append, List.map_cons] at hpair
        exact fun y hy => (List.pairwise_cons.mp (List.pairwise_append.mp hpair).2.1).1 _ (List.mem_map_of_mem hy)
      · refine IC.cell x.1 (c₁.ι x.2) ?_
        rw [ecells, ← hmapc]
        have hnn := cellLocs_once scope.names (i + 1) [] hnd (by simp) (by simp)
        rw [← hp] at hnn ⊢
        rw [List.map_append, List.map_cons] at hnn
        exact look_mid pre fun m => (List.nodup_append.mp hnn).2.2 x.1 m x.1 (List.mem_cons_self) rfl
      · cases q : c.fz (L + k : Nat) with
        | none => rfl
        | some o =>
          have := Heap.lt_size (S.frz _ _ q)
          have this : @LT.lt Nat _ (L + k) s.heap.objs.size := this
          rw [hL] at this; lia
  obtain ⟨c₂, sub₂, fz₂, fa₂, U₂, ι₂, S₂⟩ := key _ [] rfl
  let c₃ : Cf := { c₂ with fa := tmp i :: c.fa }
  have sub3 : c₂.Sub c₃ := fun l u => ⟨u, rfl⟩
  have sub0 : c.Sub c₃ := sub₂
  have ui : c₃.U (tmp i) := (U₂ _).mpr (.inr (.inl rfl))
  have eι : c₃.ι (tmp i) = L := by show c₂.ι (tmp i) = L; rw [ι₂ _ ui]; exact hι 0
  have hHi : ∀ k, i ≤ k → H (tmp k) = none := fun k hk => S.none_of (hi k hk)
  have hfi : ∀ l, (l = tmp i ∨ c.U l) → layC (upd H (tmp i) (.ns (bindLP (fun x => scope.names.lookup x) (ns.zip ps) fun _ => none))) (bindCP (fun x => scope.names.lookup x) (ns.zip ps) fun _ => none) (cellLocs (i + 1) scope.names []) l = upd H (tmp i) (.ns (bindLP (fun x => scope.names.lookup x) (ns.zip ps) fun _ => none)) l := fun l hl =>
    layC_out _ fun y hy z => by
      obtain ⟨k, hk, e⟩ := hcm0 y hy
      rcases hl with hl | hl
      · rw [hl, e] at z; have := tmp_inj z; lia
      · rw [← z, e] at hl; exact hi _ (Nat.le_add_right _ _) hl
  have S₃ : St C c₃ (layC (upd H (tmp i) (.ns (bindLP (fun x => scope.names.lookup x) (ns.zip ps) fun _ => none))) (bindCP (fun x => scope.names.lookup x) (ns.zip ps) fun _ => none) (cellLocs (i + 1) scope.names [])) { s with heap := h₁, toks := tk } := by
    refine ⟨S₂.base, S₂.frz, fun l sp e => (S₂.reg l sp e).sub sub3, S₂.used, S₂.inj, S₂.hi, S₂.sepF, S₂.fin, S₂.nmd, fun b hb => ?_, S₂.os, S₂.gens, S₂.hbs⟩
    rcases List.mem_cons.mp hb with rfl | hb
    · exact ⟨_, by rw [hfi _ (.inl rfl), upd_self]⟩
    · obtain ⟨m, hm⟩ := S.fr b hb
      exact ⟨m, by rw [hfi _ (.inr (S.used _ _ hm)), upd_ne _ _ fun z => by rw [z, hHi i (Nat.le_refl _)] at hm; cases hm]; exact hm⟩
  have ef : ((⟨tmp i, qual, scope, some f, cdv, cellLocs (i + 1) scope.names [], tmp i⟩ : FC).env c₃) = callEnvC (fnOf name qual params body scope dV kV doc pm an cdv ct) L f := by
    have e2 : ((cellLocs (i + 1) scope.names []).map fun x => (x.1, c₃.ι x.2)) = cellsFrom (L + 1) scope.names [] := by
      rw [← hmapc]
      exact List.map_congr_left fun y hy => by
        rw [show c₃.ι y.2 = c₂.ι y.2 from rfl, ι₂ y.2 ((U₂ _).mpr (.inr (.inr (List.mem_map_of_mem hy))))]
    show ({ scope := scope, locals := c₃.ι (tmp i), globals := mainGlobals, cells := (cellLocs (i + 1) scope.names []).map fun x => (x.1, c₃.ι x.2), qual := qual ++ ".<locals>.", func := some f, code := cdv, frame := some (c₃.ι (tmp i)), builtins := builtinsNs } : Env) = _
    rw [e2, eι]; rfl
  have := h i hHi _ (fun _ _ q => q) (A.deeper (callEnvC (fnOf name qual params body scope dV kV doc pm an cdv ct) L f)) c₃ _
    (a.deeper (l := tmp i) hk (by show some L = some (c₃.ι (tmp i)); rw [eι]) rfl ui sub0) ⟨ui, ui, ⟨_, rfl⟩, fun y hy => (U₂ _).mpr (.inr (.inr (List.mem_map_of_mem hy)))⟩ S₃
  unfold FC.fnC at this
  rw [ef] at this
  refine (wpF0 this fun fl s' g H' c₄ x₄ d₄ S₄ q => ?_)
  have hfa : c₄.fa = tmp i :: c.fa := x₄.fa
  have S₅ := S₄.leaveR (p := g.val) (H := H) hfa S.fr
  have sub5 : c₄.Sub { c₄ with fa := c.fa } := fun l u => ⟨u, rfl⟩
  have dz : d.length = d.length := rfl
  have d'nil : us = [] := d'.inv0
  refine ⟨g.val, _, { c₄ with fa := c.fa }, ⟨?_, rfl, fun l u => ?_⟩, ?_, S₅, q⟩
  · show c₄.fz = c.fz; rw [x₄.fz]; exact fz₂
  · have u₁ := sub0 l u
    have u₂ := x₄.on l u₁.1
    exact ⟨u₂.1, u₂.2.trans u₁.2⟩
  · cases g with
    | next => have : fl = .next := d₄; subst this; rfl
    | brk => have : fl = .brk := d₄; subst this; rfl
    | cont => have : fl = .cont := d₄; subst this; rfl
    | ret p => obtain ⟨v, rfl, dv⟩ := d₄; exact dv.sub sub5

section
variable {N T : Hp} {i j : Nat} {m : Str → Option PV}
/-- nothing of the callee is handed back -/
theorem trimR_no {H : Hp} {p : PV} (hA : ∀ j sp, H (tmp j) = some sp → T (tmp j) = some sp) (hi : H (tmp i) = none) (hp_ : ∀ l, l.1 = 0 → H l = none → p.at l = false) : trimR H (Fm N T i m) p = ov N H := by
  rw [← trim_Fm (m := m) hA hi]
  funext l
  unfold trimR trim
  by_cases h : l.1 = 0 ∧ H l = none
  · rw [if_pos h, if_pos ⟨h.1, h.2, hp_ l h.1 h.2⟩]
  · rw [if_neg h, if_neg fun q => h ⟨q.1, q.2.1⟩]
/-- a temporary of the callee is handed back -/
theorem trimR_tmp {H : Hp} {sp : Spec} (hA : ∀ j sp, H (tmp j) = some sp → T (tmp j) = some sp) (hi : H (tmp i) = none) (hji : j ≠ i) (hj : H (tmp j) = none) (hT : T (tmp j) = some sp) : trimR H (Fm N T i m) (.loc (tmp j)) = upd (ov N H) (tmp j) sp := by
  funext l
  by_cases e : l = tmp j
  · rw [e, upd_self]
    unfold trimR
    rw [if_neg fun q => by have := q.2.2; simp [PV.at] at this]
    rw [Fm_tmp hji, hT]
  · rw [upd_ne _ _ e, ← trim_Fm (m := m) hA hi]
    unfold trimR trim
    by_cases h : l.1 = 0 ∧ H l = none
    · rw [if_pos h, if_pos ⟨h.1, h.2, by simp [PV.at, e]⟩]
    · rw [if_neg h, if_neg fun q => h ⟨q.1, q.2.1⟩]
theorem upd_ov_Fm {N' : Hp} {sp : Spec} (h : j ≠ i) : upd (ov N' (Fm N T i m)) (tmp j) sp = Fm N' (upd T (tmp j) sp) i m := by
  rw [ov_Fm, Fm_modt h]
end
/-- the state that _law_took leaves, and what it hands back -/
noncomputable def TookPost (w : Wd) (H : Hp) (o : Out) (p : PV) (H' : Hp) : Prop := match o with
  | .got k σ' => ∃ j, H (tmp j) = none ∧ p = .loc (tmp j) ∧ H' = upd (ov (hp (w.sg σ')) H) (tmp j) (.list [.loc (40, k)])
  | .hold σ' => ∃ j, H (tmp j) = none ∧ p = .loc (tmp j) ∧ H' = upd (ov (hp (w.sg σ')) H) (tmp j) (.list [])
  | .non σ' => p = .none ∧ H' = ov (hp (w.sg σ')) H
  | .go _ => False
theorem c_took (O : (Cx px).Ok) {nt : Nat} {dp : Nat → List Nat} {tkv : List (Str × PV)} {pr : PV} {σu : Sg} (D : TD w nt dp tkv) (hd : w.dd = some σ)
    (hU : ∀ {X : XT} {H : Hp}, (∀ l : Loc, l.1 ≠ 0 → H l = hp w l) → JCode (Cx px) (n + 7) X (.ref 457) [.loc (30, 0), pr] [] [] (fun p H' => ∃ N', H' = ov N' H ∧ (p = .none ∧ N' = hp (w.sg σu))) H)
    (Iu : LI nt dp none noPd σu) (hN : ∀ l : Loc, l.1 ≠ 0 → H l = hp w l) :
    JCode (Cx px) (n + 9) X (.ref 495) [.loc (30, 0), pr] [] [] (fun p H' => ∃ o, Res nt dp σu o ∧ TookPost w H o p H') H := by
  refine' call_fnR O [(Str.ofString "dispatcher", .loc (30, 0)), (Str.ofString "processed", pr)] ?ho ?hcd ?hbind ?hloc ?h ?hcell ?hco ?hgen ?hk
  case ho => refine' look_fn ?g; case g => show List.lookup _ (Mine.KH _) = _; k_is
  case hcd => show codeIn (Mine.KH _) _ _ = true; k_is
  case hbind =>
    intro c s vs us _ d d'
    obtain ⟨u0, u1, rfl, d0, d1⟩ := d.inv2
    have := d'.inv0; subst this
    exact ⟨_, BindsTo.of_eq rfl, .cons d0 (.cons d1 .nil)⟩
  case hloc => rfl
  case hcell => decide
  case hco => rfl
  case hgen => rfl
  case hk => rfl
  case h =>
    intro i hi QI hQI
    rw [Fm_of hN]
    iterate 1 walk_at "mj"
    refine X_try O (gHoldOn _) (exHold _) (by decide) ?_
    iterate 4 walk_at "mj"
    refine f_methK O (ob_d hd) rfl (kmD_send _) ?_
    iterate 4 walk_at "mj"
    refine (((c_send O D hd hU Iu fun l hl => Fm_nm hl).monoX (XTr.mono fun H' ⟨N', e, σ', hr, eN⟩ => ?_)).mono fun p H' ⟨N', e, o, hr, hno, ep, eN⟩ => ?_).call
    · subst e eN
      rw [ov_Fm]
      refine al_tmp fun j T' hj hn hT hA hE => ?_
      refine Seq_ret (hQI _ _ ⟨.hold σ', hr, j, hn, rfl, ?_⟩)
      exact trimR_tmp (fun j sp e => hA _ _ e) hi hj hn hT
    · subst e eN ep
      rw [ov_Fm]
      cases o with
      | go σ' => exact hr.elim
      | hold σ' => exact absurd rfl (hno σ')
      | non σ' =>
        iterate 8 walk_at "mj"
        refine op_is ?_
        refine ⟨true, rfl, fun _ => ?_, fun h => (nomatch h)⟩
        iterate 4 walk_at "mj"
        refine ⟨.non σ', hr, rfl, ?_⟩
        exact trimR_no (fun _ _ e => e) hi fun _ _ _ => rfl
      | got k σ' =>
        iterate 8 walk_at "mj"
        refine op_is ?_
        refine ⟨false, rfl, fun h => (nomatch h), fun _ => ?_⟩
        iterate 4 walk_at "mj"
        refine ⟨by first | exact Nat.zero_le _ | simp, al_tmp fun j T' hj hn hT hA hE => ?_⟩
        iterate 3 walk_at "mj"
        refine ⟨.got k σ', hr, j, hn, rfl, ?_⟩
        exact trimR_tmp (fun j sp e => hA _ _ e) hi hj hn hT
end
-- M41
section
variable {px : Px}
variable {n : Nat} {X : XT} {w : Wd} {σ : Sg} {H : Hp}

noncomputable def iL (l : List Nat) : List PV := l.map fun x : Nat => PV.int (x : Int)
theorem lay2 {H : Hp} {i l1 l2 : Nat} {m cm : Str → Option PV} {a b : Str} (h1 : l1 ≠ i) (h2 : l2 ≠ i) : layC (upd H (tmp i) (.ns m)) cm [(a, tmp l2), (b, tmp l1)] = Fm H (upd (upd H (tmp l1) (.cell (cm b))) (tmp l2) (.cell (cm a))) i m := by
  show upd (upd (upd H (tmp i) (.ns m)) (tmp l1) _) (tmp l2) _ = _
  rw [Fm_of (N := H) (fun _ _ => rfl), Fm_modt h1, Fm_modt h2]
theorem ov_same {H : Hp} : ov H H = H := by funext l; unfold ov; split <;> rfl
/-- a list made in a body and handed back -/
theorem back_list {H T T' : Hp} {i j : Nat} {m : Str → Option PV} {vs : List PV} (hA : ∀ j sp, H (tmp j) = some sp → T (tmp j) = some sp) (hA' : ∀ k q, T k = some q → T' k = some q) (hi : H (tmp i) = none) (hji : j ≠ i) (hj : T (tmp j) = none) (hT : T' (tmp j) = some (.list vs)) :
    H (tmp j) = none ∧ trimR H (Fm H T' i m) (.loc (tmp j)) = upd H (tmp j) (.list vs) := by
  have hn : H (tmp j) = none := by
    cases e : H (tmp j) with
    | none => rfl
    | some sp => have := hA _ _ e; rw [hj] at this; cases this
  refine ⟨hn, ?_⟩
  rw [trimR_tmp (fun j sp e => hA' _ _ (hA j sp e)) hi hji hn hT, ov_same]
theorem c_needs (O : (Cx px).Ok) {shape count number : Int} {k : Nat} (hk : k < 21) (hc : 0 ≤ count ∧ count < 21) (hn : 0 ≤ number) :
    JCode (Cx px) (n + 1) X (.ref 483) [.int shape, .int k, .int count, .int number] [] [] (fun p H' => ∃ (l : List Nat) (j : Nat), (∀ x ∈ l, x < k) ∧ l.Nodup ∧ H (tmp j) = none ∧ p = .loc (tmp j) ∧ H' = upd H (tmp j) (.list (iL l))) H := by
  refine' call_cellsR O [Str.ofString "shape", Str.ofString "k", Str.ofString "count", Str.ofString "number"] ?ho ?hcd ?hbind ?hns ?hkind ?h ?hnd ?hco ?hgen ?hk
  case ho => refine' look_fn ?g; case g => show List.lookup _ (Mine.KH _) = _; k_is
  case hcd => show codeIn (Mine.KH _) _ _ = true; k_is
  case hbind =>
    intro vs h
    obtain ⟨a, r0, rfl, h0⟩ := len_succ h
    obtain ⟨b, r1, rfl, h1⟩ := len_succ h0
    obtain ⟨c, r2, rfl, h2⟩ := len_succ h1
    obtain ⟨d, r3, rfl, h3⟩ := len_succ h2
    obtain rfl := List.eq_nil_of_length_eq_zero h3
    rfl
  case hns => rfl
  case hkind =>
    intro x hx
    simp only [List.mem_cons, List.not_mem_nil, or_false] at hx
    rcases hx with rfl | rfl | rfl | rfl <;> first | exact .inl rfl | exact .inr ⟨rfl, fun L => rfl⟩
  case hnd => decide
  case hco => rfl
  case hgen => rfl
  case hk => rfl
  case h =>
    intro i hi QI hQI
    show JS _ _ _ _ _ _ (layC (upd H (tmp i) (.ns _)) _ [(Str.ofString "rows", tmp (i + 1 + 1)), (Str.ofString "k", tmp (i + 1))])
    rw [lay2 (by omega) (by omega)]
    obtain ⟨T, eT⟩ : ∃ T, T = upd (upd H (tmp (i + 1)) (.cell (some (.int k)))) (tmp (i + 1 + 1)) (.cell none) := ⟨_, rfl⟩
    have hTk : T (tmp (i + 1)) = some (.cell (some (.int k))) := by rw [eT, upd_ne _ _ (tmp_ne (by omega)), upd_self]
    have hTr : T (tmp (i + 1 + 1)) = some (.cell none) := by rw [eT, upd_self]
    have hA : ∀ j sp, H (tmp j) = some sp → T (tmp j) = some sp := fun j sp e => by
      have h1 : j ≠ i + 1 := fun z => by rw [z, hi _ (by omega)] at e; cases e
      have h2 : j ≠ i + 1 + 1 := fun z => by rw [z, hi _ (by omega)] at e; cases e
      rw [eT, upd_ne _ _ (tmp_ne h2), upd_ne _ _ (tmp_ne h1), e]
    show JS _ _ _ _ _ _ (Fm H (upd (upd H (tmp (i + 1)) (.cell (some (.int k)))) (tmp (i + 1 + 1)) (.cell none)) i _)
    rw [← eT]
    iterate 5 walk_at "mj"
    refine E_cell (l := tmp (i + 1)) (p := .int k) (by rfl) (Fm_gett (by omega) hTk) ?_
    iterate 1 walk_at "mj"
    refine op_eq ?_
    cases hb0 : ((k : Int) == 0) with
    | true =>
      iterate 7 walk_at "mj"
      refine ⟨by first | exact Nat.zero_le _ | simp, al_tmp fun j T' hj hn hT' hA' hE => ?_⟩
      iterate 3 walk_at "mj"
      obtain ⟨b1, b2⟩ := back_list (vs := []) (m := bindLP (fun x => List.lookup x _) _ fun _ => none) hA hA' (hi i (Nat.le_refl _)) hj hn hT'
      exact ⟨[], j, fun _ h => (nomatch h), List.nodup_nil, b1, rfl, b2⟩
    | false =>
      have hk0 : k ≠ 0 := fun z => by rw [z] at hb0; cases hb0
      iterate 6 walk_at "mj"
      refine op_eq ?_
      cases hb1 : (shape == 1) with
      | true =>
        iterate 7 walk_at "mj"
        refine ⟨by first | exact Nat.zero_le _ | simp, al_tmp fun j T' hj hn hT' hA' hE => ?_⟩
        iterate 3 walk_at "mj"
        obtain ⟨b1, b2⟩ := back_list (vs := []) (m := bindLP (fun x => List.lookup x _) _ fun _ => none) hA hA' (hi i (Nat.le_refl _)) hj hn hT'
        exact ⟨[], j, fun _ h => (nomatch h), List.nodup_nil, b1, rfl, b2⟩
      | false =>
        iterate 11 walk_at "mj"
        refine op_eq ?_
        cases hb2 : (shape == 2) with
        | true =>
          iterate 7 walk_at "mj"
          refine E_cell (l := tmp (i + 1)) (p := .int k) (by rfl) (Fm_gett (by omega) hTk) ?_
          iterate 1 walk_at "mj"
          refine op_sub ?_
          iterate 1 walk_at "mj"
          refine ⟨by first | exact Nat.zero_le _ | simp, al_tmp fun j T' hj hn hT' hA' hE => ?_⟩
          iterate 3 walk_at "mj"
          have e1 : [PV.int ((k : Int) - 1)] = iL [k - 1] := by
            show [PV.int ((k : Int) - 1)] = [PV.int ((k - 1 : Nat) : Int)]
            congr 2; omega
          rw [e1] at hT'
          obtain ⟨b1, b2⟩ := back_list (m := bindLP (fun x => List.lookup x _) _ fun _ => none) hA hA' (hi i (Nat.le_refl _)) hj hn hT'
          exact ⟨[k - 1], j, fun x hx => by rw [List.mem_singleton.mp hx]; omega, by simp, b1, rfl, b2⟩
        | false =>
          iterate 9 walk_at "mj"
          refine op_eq ?_
          cases hb3 : (shape == 3) with
          | true =>
            iterate 7 walk_at "mj"
            refine E_cell (l := tmp (i + 1)) (p := .int k) (by rfl) (Fm_gett (by omega) hTk) ?_
            iterate 4 walk_at "mj"
            refine op_add ?_
            iterate 1 walk_at "mj"
            refine op_div (by decide) (by decide) ?_
            refine op_sub ?_
            refine op_mul (IntMulOk.of_left (by decide)) ?_
            iterate 4 walk_at "mj"
            obtain ⟨P, eP⟩ : ∃ P : Int, P = 2 * ((k : Int) - (count + 1).fdiv 2) := ⟨_, rfl⟩
            rw [← eP]
            refine E_comp [(Str.ofString "k", tmp (i + 1))] (fun v => match v with | .int x => decide (0 ≤ x) && decide (x < (k : Int)) | _ => false) (fun v => v) ?_ (hin := fun x hx => ⟨(Str.ofString "k", tmp (i + 1)), List.Mem.tail _ (List.Mem.head _), by rw [List.mem_singleton.mp hx]⟩)
            iterate 7 walk_at "mj"
            refine op_add ?_
            iterate 1 walk_at "mj"
            refine ⟨by first | exact Nat.zero_le _ | simp, al_tmp fun jt T2 hjt hjtn hT2 hA2 hE2 => ?_⟩
            have hint : ∀ v ∈ [PV.int P, PV.int (P + 1)], ∃ x, v = .int x := fun v hv => by
              rcases List.mem_cons.mp hv with rfl | hv
              · exact ⟨_, rfl⟩
              · rw [List.mem_singleton.mp hv]; exact ⟨_, rfl⟩
            refine ⟨.tup (tmp jt), [.int P, .int (P + 1)], ⟨rfl, Fm_gett hjt hT2⟩, by simp, ?_, ?_, ⟨_, _, Fm_gett hjt hT2⟩, al_tmp fun j T' hj hn' hT' hA' hE => ?_⟩
            · intro lc m H' v hv hab hm hx
              obtain ⟨x, rfl⟩ := hint v hv
              have hck : H' (tmp (i + 1)) = some (.cell (some (.int k))) := hab _ _ (Fm_gett (by omega) (hA2 _ _ hTk))
              refine Ts_one (B_chain (E_int (E_local hm hx (op_le ⟨_, rfl, fun h => ⟨?_, Grows.refl _⟩, fun h => ?_⟩))))
              · dsimp only
                rw [h]; rfl
              · refine E_cell (l := tmp (i + 1)) (p := .int k) (by rfl) hck (op_lt ⟨_, rfl, ?_, Grows.refl _⟩)
                dsimp only
                rw [h]; rfl
            · intro lc m H' v hv _ hab hm hx
              exact E_local hm hx ⟨rfl, Grows.refl _⟩
            · iterate 3 walk_at "mj"
              have hA3 : ∀ j sp, H (tmp j) = some sp → T2 (tmp j) = some sp := fun j sp e => hA2 _ _ (hA j sp e)
              have key : ∃ l : List Nat, (List.filter (fun v => match v with | .int x => decide (0 ≤ x) && decide (x < (k : Int)) | _ => false) [PV.int P, PV.int (P + 1)]).map (fun v => v) = iL l ∧ (∀ x ∈ l, x < k) ∧ l.Nodup := by
                have toN : ∀ x : Int, 0 ≤ x → PV.int x = PV.int ((x.toNat : Nat) : Int) := fun x hx => by rw [Int.toNat_of_nonneg hx]
                by_cases a1 : 0 ≤ P ∧ P < (k : Int) <;> by_cases a2 : 0 ≤ P + 1 ∧ P + 1 < (k : Int)
                · refine ⟨[P.toNat, (P + 1).toNat], ?_, fun x hx => ?_, ?_⟩
                  · simp only [List.filter_cons, decide_eq_true a1.1, decide_eq_true a1.2, decide_eq_true a2.1, decide_eq_true a2.2, Bool.and_self, if_true, List.filter_nil, List.map_id']
                    show [PV.int P, PV.int (P + 1)] = [PV.int ((P.toNat : Nat) : Int), PV.int (((P + 1).toNat : Nat) : Int)]
                    rw [← toN P a1.1, ← toN (P + 1) a2.1]
                  · rcases List.mem_cons.mp hx with rfl | hx
                    · omega
                    · rw [List.mem_singleton.mp hx]; omega
                  · simp; omega
                · refine ⟨[P.toNat], ?_, fun x hx => ?_, by simp⟩
                  · have a2' : (decide (0 ≤ P + 1) && decide (P + 1 < (k : Int))) = false := by simp; omega
                    simp only [List.filter_cons, decide_eq_true a1.1, decide_eq_true a1.2, a2', Bool.and_self, if_true, Bool.false_eq_true, if_false, List.filter_nil, List.map_id']
                    show [PV.int P] = [PV.int ((P.toNat : Nat) : Int)]
                    rw [← toN P a1.1]
                  · rw [List.mem_singleton.mp hx]; omega
                · refine ⟨[(P + 1).toNat], ?_, fun x hx => ?_, by simp⟩
                  · have a1' : (decide (0 ≤ P) && decide (P < (k : Int))) = false := by simp; omega
                    simp only [List.filter_cons, decide_eq_true a2.1, decide_eq_true a2.2, a1', Bool.and_self, if_true, Bool.false_eq_true, if_false, List.filter_nil, List.map_id']
                    show [PV.int (P + 1)] = [PV.int (((P + 1).toNat : Nat) : Int)]
                    rw [← toN (P + 1) a2.1]
                  · rw [List.mem_singleton.mp hx]; omega
                · refine ⟨[], ?_, fun x hx => (nomatch hx), List.nodup_nil⟩
                  have a1' : (decide (0 ≤ P) && decide (P < (k : Int))) = false := by simp; omega
                  have a2' : (decide (0 ≤ P + 1) && decide (P + 1 < (k : Int))) = false := by simp; omega
                  simp only [List.filter_cons, a1', a2', Bool.false_eq_true, if_false, List.filter_nil, List.map_nil]
                  rfl
              obtain ⟨l, el, hl1, hl2⟩ := key
              rw [el] at hT'
              obtain ⟨b1, b2⟩ := back_list (m := (sto (bindLP (fun x => List.lookup x _) _ (fun _ => none)) (Str.ofString "pair") (PV.int P))) hA3 hA' (hi i (Nat.le_refl _)) hj hn' hT'
              exact ⟨l, j, hl1, hl2, b1, rfl, b2⟩
          | false =>
            iterate 11 walk_at "mj"
            refine E_cell (l := tmp (i + 1)) (p := .int k) (by rfl) (Fm_gett (by omega) hTk) ?_
            iterate 1 walk_at "mj"
            refine op_add ?_
            refine op_mod (by omega) ?_
            iterate 5 walk_at "mj"
            refine op_div (by decide) (by decide) ?_
            iterate 1 walk_at "mj"
            refine E_cell (l := tmp (i + 1)) (p := .int k) (by rfl) (Fm_gett (by omega) hTk) ?_
            iterate 1 walk_at "mj"
            refine op_add ?_
            refine op_mod (by omega) ?_
            iterate 5 walk_at "mj"
            refine op_div (by decide) (by decide) ?_
            iterate 1 walk_at "mj"
            refine E_cell (l := tmp (i + 1)) (p := .int k) (by rfl) (Fm_gett (by omega) hTk) ?_
            iterate 1 walk_at "mj"
            refine op_add ?_
            refine op_mod (by omega) ?_
            iterate 1 walk_at "mj"
            refine ⟨by first | exact Nat.zero_le _ | simp, al_tmp fun jr T2 hjr hjrn hT2 hA2 hE2 => ?_⟩
            have hjr2 : jr ≠ i + 1 + 1 := fun z => by rw [z, hTr] at hjrn; cases hjrn
            refine st_cell (l := tmp (i + 1 + 1)) (by rfl) (Fm_gett (by omega) (hA2 _ _ hTr)) ?_
            rw [Fm_modt (by omega)]
            obtain ⟨T3, eT3⟩ : ∃ T3, T3 = upd T2 (tmp (i + 1 + 1)) (.cell (some (.loc (tmp jr)))) := ⟨_, rfl⟩
            have h3r : T3 (tmp (i + 1 + 1)) = some (.cell (some (.loc (tmp jr)))) := by rw [eT3, upd_self]
            have h3k : T3 (tmp (i + 1)) = some (.cell (some (.int k))) := by rw [eT3, upd_ne _ _ (tmp_ne (by omega))]; exact hA2 _ _ hTk
            have h3l := hT2
            rw [← upd_ne T2 (Spec.cell (some (.loc (tmp jr)))) (tmp_ne hjr2), ← eT3] at h3l
            have hA3 : ∀ j sp, H (tmp j) = some sp → T3 (tmp j) = some sp := fun j sp e => by
              have h2 : j ≠ i + 1 + 1 := fun z => by rw [z, hi _ (by omega)] at e; cases e
              rw [eT3, upd_ne _ _ (tmp_ne h2)]; exact hA2 _ _ (hA j sp e)
            rw [← eT3]
            iterate 3 walk_at "mj"
            obtain ⟨R, eR⟩ : ∃ R : List PV, R = [PV.int (number.fmod ((k : Int) + 1)), PV.int ((number.fdiv 23).fmod ((k : Int) + 1)), PV.int ((number.fdiv 509).fmod ((k : Int) + 1))] := ⟨_, rfl⟩
            rw [← eR] at h3l
            have heq : ∀ (x : Int), ∀ q ∈ R, (q.eqv (.int x)).isSome = true := fun x q hq => by
              rw [eR] at hq
              rcases List.mem_cons.mp hq with rfl | hq
              · rfl
              rcases List.mem_cons.mp hq with rfl | hq
              · rfl
              rw [List.mem_singleton.mp hq]; rfl
            refine E_comp [(Str.ofString "rows", tmp (i + 1 + 1))] (fun v => inside v R) (fun v => v) ?_ (hin := fun x hx => ⟨(Str.ofString "rows", tmp (i + 1 + 1)), List.Mem.head _, by rw [List.mem_singleton.mp hx]⟩)
            iterate 5 walk_at "mj"
            refine E_cell (l := tmp (i + 1)) (p := .int k) (by rfl) (Fm_gett (by omega) h3k) ?_
            iterate 1 walk_at "mj"
            refine c_range (k := k) (al_tmp fun jt T4 hjt hjtn hT4 hA4 hE4 => ?_)
            refine ⟨.rng k, _, ⟨tmp jt, rfl, Fm_gett hjt hT4, by omega, rfl⟩, by simp; omega, ?_, ?_, ⟨_, _, Fm_gett hjt hT4⟩, al_tmp fun j T' hj hn' hT' hA' hE => ?_⟩
            · intro lc m H' v hv hab hm hx
              obtain ⟨x, hx0, rfl⟩ := List.mem_map.mp hv
              have hcr : H' (tmp (i + 1 + 1)) = some (.cell (some (.loc (tmp jr)))) := hab _ _ (Fm_gett (by omega) (hA4 _ _ h3r))
              have hcl : H' (tmp jr) = some (.list R) := hab _ _ (Fm_gett hjr (hA4 _ _ h3l))
              refine Ts_one (B_cmp (E_local hm hx (E_cell (l := tmp (i + 1 + 1)) (p := .loc (tmp jr)) (by rfl) hcr (op_in_list hcl (heq _) ⟨_, rfl, rfl, Grows.refl _⟩))))
            · intro lc m H' v hv _ hab hm hx
              exact E_local hm hx ⟨rfl, Grows.refl _⟩
            · iterate 2 walk_at "mj"
              have el : (List.filter (fun v => inside v R) ((List.range k).map fun i : Nat => PV.int (i : Int))).map (fun v => v) = iL ((List.range k).filter fun x : Nat => inside (.int (x : Int)) R) := by
                rw [List.map_id']
                unfold iL
                rw [List.filter_map]; rfl
              rw [el] at hT'
              obtain ⟨b1, b2⟩ := back_list (m := bindLP (fun x => List.lookup x _) _ fun _ => none) (fun j sp e => hA4 _ _ (hA3 j sp e)) hA' (hi i (Nat.le_refl _)) hj hn' hT'
              exact ⟨_, j, fun x hx => List.mem_range.mp (List.mem_filter.mp hx).1, List.nodup_range.filter _, b1, rfl, b2⟩
end
-- M42
section
variable {px : Px}
variable {n : Nat} {X : XT} {w : Wd} {σ : Sg} {H : Hp}

noncomputable def maxL (l : List Nat) : Nat := l.foldl max 0
theorem maxL_ge_init : ∀ (l : List Nat) (a : Nat), a ≤ l.foldl max a
  | [], a => Nat.le_refl _
  | x :: r, a => Nat.le_trans (Nat.le_max_left a x) (maxL_ge_init r (max a x))
theorem maxL_ge' : ∀ (l : List Nat) (a x : Nat), x ∈ l → x ≤ l.foldl max a
  | y :: r, a, x, h => by
    rcases List.mem_cons.mp h with rfl | h
    · exact Nat.le_trans (Nat.le_max_right a x) (maxL_ge_init r (max a x))
    · exact maxL_ge' r (max a y) x h
theorem maxL_ge {l : List Nat} {x : Nat} (h : x ∈ l) : x ≤ maxL l := maxL_ge' l 0 x h
theorem maxL_mem' : ∀ (l : List Nat) (a : Nat), l.foldl max a = a ∨ l.foldl max a ∈ l
  | [], a => .inl rfl
  | x :: r, a => by
    rcases maxL_mem' r (max a x) with h | h
    · rw [List.foldl_cons, h]
      rcases Nat.le_total a x with q | q
      · right; rw [Nat.max_eq_right q]; exact .head _
      · left; exact Nat.max_eq_left q
    · right; exact .tail _ h
theorem maxL_mem {l : List Nat} : maxL l = 0 ∨ maxL l ∈ l := maxL_mem' l 0
noncomputable def highs (nd : Nat → List Nat) (D : List Nat) : Nat → List Nat
  | 0 => []
  | n + 1 => highs nd D n ++ [if n ∈ D then 0 else 1 + maxL ((nd n).map fun j => (highs nd D n)[j]?.getD 0)]
theorem highs_len {nd : Nat → List Nat} {D : List Nat} : ∀ n, (highs nd D n).length = n
  | 0 => rfl
  | n + 1 => by unfold highs; rw [List.length_append, highs_len n]; rfl
theorem inside_iL {l : List Nat} {k : Nat} : inside (.int (k : Int)) (iL l) = decide (k ∈ l) := by
  unfold inside iL
  rw [Bool.eq_iff_iff, decide_eq_true_iff]
  simp only [List.any_map, List.any_eq_true, Function.comp, eqv_int]
  constructor
  · rintro ⟨j, hj, e⟩
    have e : (j : Int) = k := by simpa using e
    have : j = k := by lia
    exact this ▸ hj
  · intro h; exact ⟨k, h, by simp⟩
theorem eqv_iL {l : List Nat} {x : Int} : ∀ q ∈ iL l, (q.eqv (.int x)).isSome = true := by
  intro q hq
  obtain ⟨j, _, rfl⟩ := List.mem_map.mp hq
  rfl
theorem iL_int (l : List Nat) : iL l = (l.map fun x : Nat => (x : Int)).map PV.int := by simp [iL]
theorem Fm_of_H {H T : Hp} {i : Nat} {m : Str → Option PV} {l : Loc} {sp : Spec} (hA : ∀ j sp, H (tmp j) = some sp → T (tmp j) = some sp) (hi : H (tmp i) = none) (h : H l = some sp) : Fm H T i m l = some sp := by
  by_cases h0 : l.1 = 0
  · have e : l = tmp l.2 := by obtain ⟨a, b⟩ := l; simp only at h0; rw [h0]; rfl
    rw [e] at h ⊢
    exact Fm_gett (fun z => by rw [z, hi] at h; cases h) (hA _ _ h)
  · exact Fm_get h0 h
theorem lay1 {H : Hp} {i l1 : Nat} {m cm : Str → Option PV} {b : Str} (h1 : l1 ≠ i) : layC (upd H (tmp i) (.ns m)) cm [(b, tmp l1)] = Fm H (upd H (tmp l1) (.cell (cm b))) i m := by
  show upd (upd H (tmp i) (.ns m)) (tmp l1) _ = _
  rw [Fm_of (N := H) (fun _ _ => rfl), Fm_modt h1]
theorem c_longest (O : (Cx px).Ok) {cnt : Nat} {nd : Nat → List Nat} {nl : Nat → Loc} {ln ld : Loc} {D : List Nat} (hc : 1 ≤ cnt ∧ cnt < 21) (hn : H ln = some (.list ((List.range cnt).map fun k => PV.loc (nl k)))) (hnl : ∀ k, k < cnt → H (nl k) = some (.list (iL (nd k))) ∧ (∀ j ∈ nd k, j < k) ∧ (nd k).length ≤ 100) (hd : H ld = some (.list (iL D))) :
    JCode (Cx px) (n + 1) X (.ref 488) [.loc ln, .loc ld] [] [] (fun p H' => p = .int (maxL (highs nd D cnt)) ∧ H' = H) H := by
  refine' call_cellsR O [Str.ofString "needs", Str.ofString "done"] ?ho ?hcd ?hbind ?hns ?hkind ?h ?hnd ?hco ?hgen ?hk
  case ho => refine' look_fn ?g; case g => show List.lookup _ (Mine.KH _) = _; k_is
  case hcd => show codeIn (Mine.KH _) _ _ = true; k_is
  case hbind =>
    intro vs h
    obtain ⟨a, r0, rfl, h0⟩ := len_succ h
    obtain ⟨b, r1, rfl, h1⟩ := len_succ h0
    obtain rfl := List.eq_nil_of_length_eq_zero h1
    rfl
  case hns => rfl
  case hkind =>
    intro x hx
    simp only [List.mem_cons, List.not_mem_nil, or_false] at hx
    rcases hx with rfl | rfl <;> first | exact .inl rfl | exact .inr ⟨rfl, fun L => rfl⟩
  case hnd => decide
  case hco => rfl
  case hgen => rfl
  case hk => rfl
  case h =>
    intro i hi QI hQI
    show JS _ _ _ _ _ _ (layC (upd H (tmp i) (.ns _)) _ [(Str.ofString "high", tmp (i + 1))])
    rw [lay1 (by lia)]
    generalize hm0 : bindLP _ _ _ = m0
    revert m0; refine bar ?_; intro m0 hm0
    have m1 : m0 (Str.ofString "needs") = some (.loc ln) := by rw [← hm0]; rfl
    have m2 : m0 (Str.ofString "done") = some (.loc ld) := by rw [← hm0]; rfl
    obtain ⟨T, eT⟩ : ∃ T, T = upd H (tmp (i + 1)) (.cell none) := ⟨_, rfl⟩
    have hTh : T (tmp (i + 1)) = some (.cell none) := by rw [eT, upd_self]
    have hA : ∀ j sp, H (tmp j) = some sp → T (tmp j) = some sp := fun j sp e => by
      have h1 : j ≠ i + 1 := fun z => by rw [z, hi _ (by lia)] at e; cases e
      rw [eT, upd_ne _ _ (tmp_ne h1), e]
    have hii := hi i (Nat.le_refl _)
    show JS _ _ _ _ _ _ (Fm H (upd H (tmp (i + 1)) (.cell none)) i m0)
    rw [← eT]
    iterate 4 walk_at "mj"
    refine ⟨by first | exact Nat.zero_le _ | simp, al_tmp fun jh T2 hjh hjhn hT2 hA2 hE2 => ?_⟩
    have hjh2 : jh ≠ i + 1 := fun z => by rw [z, hTh] at hjhn; cases hjhn
    refine st_cell (l := tmp (i + 1)) (by rfl) (Fm_gett (by lia) (hA2 _ _ hTh)) ?_
    rw [Fm_modt (by lia)]
    obtain ⟨T3, eT3⟩ : ∃ T3, T3 = upd T2 (tmp (i + 1)) (.cell (some (.loc (tmp jh)))) := ⟨_, rfl⟩
    have h3c : T3 (tmp (i + 1)) = some (.cell (some (.loc (tmp jh)))) := by rw [eT3, upd_self]
    have h3l : T3 (tmp jh) = some (.list []) := by rw [eT3, upd_ne _ _ (tmp_ne hjh2)]; exact hT2
    have hjn : H (tmp jh) = none := by
      cases e : H (tmp jh) with
      | none => rfl
      | some sp => have := hA _ _ e; rw [hjhn] at this; cases this
    have hA3 : ∀ j sp, H (tmp j) = some sp → T3 (tmp j) = some sp := fun j sp e => by
      have h2 : j ≠ i + 1 := fun z => by rw [z, hi _ (by lia)] at e; cases e
      rw [eT3, upd_ne _ _ (tmp_ne h2)]; exact hA2 _ _ (hA j sp e)
    rw [← eT3]
    iterate 2 walk_at "mj"
    refine X_for (fun vs q H' => vs = iL (List.range cnt) ∧ ∃ T' f, H' = Fm H T' i (ovr m0 [Str.ofString "k"] f) ∧ (∀ j sp, H (tmp j) = some sp → T' (tmp j) = some sp) ∧ T' (tmp (i + 1)) = some (.cell (some (.loc (tmp jh)))) ∧ T' (tmp jh) = some (.list (iL (highs nd D q)))) ?_
    iterate 10 walk_at "mj"
    refine f_loc m1 ?_
    iterate 1 walk_at "mj"
    refine c_len (vs := (List.range cnt).map fun k => PV.loc (nl k)) (Fm_of_H hA3 hii hn) (by simp; lia) ?_
    rw [List.length_map, List.length_range]
    iterate 1 walk_at "mj"
    refine c_range (k := cnt) (al_tmp fun jr T4 hjr hjrn hT4 hA4 hE4 => ?_)
    refine ⟨.rng cnt, iL (List.range cnt), ⟨tmp jr, rfl, Fm_gett hjr hT4, by lia, rfl⟩, ⟨rfl, T4, _, by rw [ovr_self] <;> rfl, fun j sp e => hA4 _ _ (hA3 j sp e), hA4 _ _ h3c, hA4 _ _ h3l⟩, ?_, ?_, ?_⟩
    · rintro q H' ⟨-, T', f, rfl, hA', hC', hL'⟩
      exact ⟨rfl, _, _, Fm_gett hjh hL'⟩
    · rintro q v H' hv ⟨-, T', f, rfl, hA', hC', hL'⟩
      have hq : q < cnt := by have := (List.getElem?_eq_some_iff.mp hv).1; simpa [iL] using this
      have ev : v = .int (q : Int) := by
        unfold iL at hv
        rw [List.getElem?_map, List.getElem?_range hq] at hv
        exact (Option.some.inj hv).symm
      subst ev
      obtain ⟨hnq, hnlt, hnz⟩ := hnl q hq
      refine f_st ?_
      rw [ovr_st (by decide)]
      iterate 4 walk_at "mj"
      refine E_cell (l := tmp (i + 1)) (p := .loc (tmp jh)) (by rfl) (Fm_gett (by lia) hC') ?_
      refine m_list (Fm_gett hjh hL') F.slot_list_append ty_list_append ?_
      iterate 5 walk_at "mj"
      refine f_loc m2 ?_
      refine op_in_list (Fm_of_H hA' hii hd) eqv_iL ?_
      rw [inside_iL]
      have e1 : highs nd D (q + 1) = highs nd D q ++ [if q ∈ D then 0 else 1 + maxL ((nd q).map fun j => (highs nd D q)[j]?.getD 0)] := rfl
      by_cases hqD : q ∈ D
      · rw [decide_eq_true hqD]
        iterate 4 walk_at "mj"
        refine c_append (Fm_gett hjh hL') (by have := highs_len (nd := nd) (D := D) q; simp [iL]; lia) ?_
        rw [Fm_modt hjh]
        iterate 3 walk_at "mj"
        refine ⟨rfl, _, _, rfl, fun j sp e => (upd_ne _ _ (tmp_ne fun z => by rw [z, hjn] at e; cases e)).trans (hA' j sp e), (upd_ne _ _ (tmp_ne (Ne.symm hjh2))).trans hC', ?_⟩
        rw [upd_self, e1, if_pos hqD]
        simp [iL]
      · rw [decide_eq_false hqD]
        iterate 14 walk_at "mj"
        refine ⟨by first | exact Nat.zero_le _ | simp, al_tmp fun j1 T5 hj1 hj1n hT5 hA5 hE5 => ?_⟩
        have k1 : ∀ j sp, H (tmp j) = some sp → T5 (tmp j) = some sp := fun j sp e => hA5 _ _ (hA' j sp e)
        refine E_comp [(Str.ofString "high", tmp (i + 1))] (fun _ => true) (fun v => match v with | .int x => .int (((highs nd D q)[x.toNat]?.getD 0 : Nat) : Int) | v => v) ?_ (hin := fun x hx => ⟨(Str.ofString "high", tmp (i + 1)), List.Mem.head _, by rw [List.mem_singleton.mp hx]⟩)
        iterate 1 walk_at "mj"
        refine f_loc m1 ?_
        iterate 1 walk_at "mj"
        refine sub_list (p := .loc (nl q)) (Fm_of_H k1 hii hn) (by lia) (by lia) (by simp [hq]) ?_
        refine ⟨.list (nl q), iL (nd q), ⟨rfl, Fm_of_H k1 hii hnq⟩, by simp [iL]; lia, ?_, ?_, ⟨_, _, Fm_of_H k1 hii hnq⟩, al_tmp fun j2 T6 hj2 hj2n hT6 hA6 hE6 => ?_⟩
        · intro lc m H' v hv hab hm hx
          exact Ts_nil ⟨rfl, Grows.refl _⟩
        · intro lc m H' v hv _ hab hm hx
          obtain ⟨x, hxm, rfl⟩ := List.mem_map.mp hv
          have hxq := hnlt x hxm
          have hcc : H' (tmp (i + 1)) = some (.cell (some (.loc (tmp jh)))) := hab _ _ (Fm_gett (by lia) (hA5 _ _ hC'))
          have hcl : H' (tmp jh) = some (.list (iL (highs nd D q))) := hab _ _ (Fm_gett hjh (hA5 _ _ hL'))
          have hz := highs_len (nd := nd) (D := D) q
          refine E_sub (E_cell (l := tmp (i + 1)) (p := .loc (tmp jh)) (by rfl) hcc (E_local hm hx (sub_list (p := .int (((highs nd D q)[x]?.getD 0 : Nat) : Int)) hcl (by lia) (by lia) ?_ ⟨rfl, Grows.refl _⟩)))
          have hx2 : x < (highs nd D q).length := by lia
          simp [iL, hx2]
        have k2 : ∀ j sp, H (tmp j) = some sp → T6 (tmp j) = some sp := fun j sp e => hA6 _ _ (k1 j sp e)
        have el : ((iL (nd q)).filter (fun _ => true)).map (fun v => match v with | PV.int x => PV.int (((highs nd D q)[x.toNat]?.getD 0 : Nat) : Int) | v => v) = iL ((nd q).map fun j => (highs nd D q)[j]?.getD 0) := by
          unfold iL
          rw [List.filter_eq_self.mpr (fun _ _ => rfl), List.map_map, List.map_map]; rfl
        rw [el] at hT6
        refine op_addL (Fm_gett hj1 (hA6 _ _ hT5)) (Fm_gett hj2 hT6) (by simp [iL]; lia) (al_tmp fun j3 T7 hj3 hj3n hT7 hA7 hE7 => ?_)
        have k3 : ∀ j sp, H (tmp j) = some sp → T7 (tmp j) = some sp := fun j sp e => hA7 _ _ (k2 j sp e)
        have e0 : [PV.int 0] ++ iL ((nd q).map fun j => (highs nd D q)[j]?.getD 0) = ((0 :: (nd q).map fun j => (highs nd D q)[j]?.getD 0).map fun x : Nat => (x : Int)).map PV.int := by simp [iL]
        rw [e0] at hT7
        iterate 1 walk_at "mj"
        refine c_max (Fm_gett hj3 hT7) (by simp) fun mx hmx hge => ?_
        obtain ⟨x, hx, rfl⟩ := List.mem_map.mp hmx
        have ex : x = maxL ((nd q).map fun j => (highs nd D q)[j]?.getD 0) := by
          have h1 : x ≤ maxL ((nd q).map fun j => (highs nd D q)[j]?.getD 0) := by
            rcases List.mem_cons.mp hx with rfl | hx
            · exact Nat.zero_le _
            · exact maxL_ge hx
          rcases maxL_mem (l := (nd q).map fun j => (highs nd D q)[j]?.getD 0) with h | h
          · lia
          · have := hge _ (List.mem_map_of_mem (List.mem_cons_of_mem 0 h))
            lia
        refine op_add ?_
        iterate 1 walk_at "mj"
        have hL7 := hA7 _ _ (hA6 _ _ (hA5 _ _ hL'))
        refine c_append (Fm_gett hjh hL7) (by have := highs_len (nd := nd) (D := D) q; simp [iL]; lia) ?_
        rw [Fm_modt hjh]
        iterate 3 walk_at "mj"
        refine ⟨rfl, _, _, rfl, fun j sp e => (upd_ne _ _ (tmp_ne fun z => by rw [z, hjn] at e; cases e)).trans (k3 j sp e), (upd_ne _ _ (tmp_ne (Ne.symm hjh2))).trans (hA7 _ _ (hA6 _ _ (hA5 _ _ hC'))), ?_⟩
        rw [upd_self, e1, if_neg hqD, ← ex]
        simp [iL]
    · rintro H' ⟨-, T', f, rfl, hA', hC', hL'⟩
      rw [show (iL (List.range cnt)).length = cnt by simp [iL]] at hL'
      iterate 8 walk_at "mj"
      refine E_cell (l := tmp (i + 1)) (p := .loc (tmp jh)) (by rfl) (Fm_gett (by lia) hC') ?_
      iterate 1 walk_at "mj"
      have hne : ((highs nd D cnt).map fun x : Nat => (x : Int)) ≠ [] := fun z => by
        have := congrArg List.length z
        rw [List.length_map, highs_len] at this
        simp at this; lia
      refine c_max (xs := (highs nd D cnt).map fun x : Nat => (x : Int)) (Fm_gett hjh (by rw [hL', iL_int])) hne fun mx hmx hge => ?_
      iterate 2 walk_at "mj"
      obtain ⟨x, hx, rfl⟩ := List.mem_map.mp hmx
      have ex : x = maxL (highs nd D cnt) := by
        have h1 := maxL_ge hx
        rcases maxL_mem (l := highs nd D cnt) with h | h
        · lia
        · have := hge _ (List.mem_map_of_mem h)
          lia
      refine ⟨by show PV.int (x : Int) = _; rw [ex], ?_⟩
      rw [trimR_no hA' hii fun _ _ _ => rfl, ov_same]
end
-- M43
section
variable {px : Px}
variable {n : Nat} {X : XT} {w : Wd} {σ : Sg} {H : Hp}

theorem fn_inj0 : ∀ j, j < 21 → ∀ k, k < 21 → fn j = fn k → j = k := by decide +kernel
theorem fn_inj {j k : Nat} (hj : j < 21) (hk : k < 21) (e : fn j = fn k) : j = k := fn_inj0 j hj k hk e
theorem inside_fn {l : List Nat} {k : Nat} (hl : ∀ j ∈ l, j < 21) (hk : k < 21) : inside (.str (fn k)) (sL fn l) = decide (k ∈ l) := by
  unfold inside sL
  rw [Bool.eq_iff_iff, decide_eq_true_iff]
  simp only [List.any_map, List.any_eq_true, Function.comp, eqv_str]
  constructor
  · rintro ⟨j, hj, e⟩
    have : fn j = fn k := by simpa using e
    exact fn_inj (hl j hj) hk this ▸ hj
  · intro h
    exact ⟨k, h, by simp⟩
theorem eqv_fn {l : List Nat} {k : Nat} : ∀ q ∈ sL fn l, (q.eqv (.str (fn k))).isSome = true := by
  intro q hq
  obtain ⟨j, -, rfl⟩ := List.mem_map.mp hq
  rfl
theorem noEq : ∀ j, j < 21 → (Builtin.Str.occurrences (nm j) (Str.ofString "=") 0 (nm j).length 1).isEmpty = true := by decide +kernel
theorem noStar : ∀ j, j < 21 → (Builtin.Str.occurrences (nm j) (Str.ofString "*") 0 (nm j).length 1).isEmpty = true := by decide +kernel
theorem c_init_targets (O : (Cx px).Ok) {N : Hp} {k jl : Nat} {y : Str} (hn : N (8, k) = none) (hl : H (tmp jl) = some (.list [.str y])) (hN : ∀ l : Loc, l.1 ≠ 0 → H l = N l) :
    JCode (Cx px) (n + 1) X (.ref 151) [.loc (1, k), .loc (tmp jl)] [] [] (fun p H' => ∃ N', H' = ov N' H ∧ (p = .loc (8, k) ∧ N' = upd N (8, k) (.list [.str y]))) H := by
  refine' con_fn O [(Str.ofString "self", PV.loc (1, k)), (Str.ofString "items", PV.loc (tmp jl))] ?ho ?hcd ?hbind ?hloc hN ?h ?hcell ?hco ?hgen ?hk
  case ho => refine' look_fn ?g; case g => show List.lookup _ (Mine.KH _) = _; k_is
  case hcd => show codeIn (Mine.KH _) _ _ = true; k_is
  case hbind =>
    intro c s vs us _ d d'
    obtain ⟨u0, u1, rfl, d0, d1⟩ := d.inv2
    have := d'.inv0; subst this
    exact ⟨_, BindsTo.of_eq rfl, .cons d0 (.cons d1 (.nil))⟩
  case hloc => rfl
  case hcell => decide
  case hco => rfl
  case hgen => rfl
  case hk => rfl
  case h =>
    intro i hi QI hQI
    have hji : jl ≠ i := fun z => by rw [z, hi] at hl; cases hl
    iterate 4 walk_at "mj"
    refine ⟨by simp, al_nm (8, k) (by simp) hn ?_⟩
    iterate 3 walk_at "mj"
    refine X_for (fun vs q H' => vs = [.str y] ∧ ∃ f, H' = Fm (upd N (8, k) (.list (if q = 0 then [] else [.str y]))) H i (ovr ((sto (fun y => List.lookup y [(Str.ofString "self", PV.loc (1, k)), (Str.ofString "items", PV.loc (tmp jl))].reverse) (Str.ofString "targets") (PV.loc (8, k)))) [Str.ofString "target"] f)) ?_
    iterate 1 walk_at "mj"
    refine ⟨.list (tmp jl), [.str y], ⟨rfl, Fm_gett hji hl⟩, ⟨rfl, _, by rw [ovr_self]; rfl⟩, ?_, ?_, ?_⟩
    · rintro q H' ⟨-, f, rfl⟩
      exact ⟨Fm_gett hji hl, _, _, Fm_gett hji hl⟩
    · rintro q v H' hv ⟨-, f, rfl⟩
      have hq : q = 0 := by have := (List.getElem?_eq_some_iff.mp hv).1; simpa using this
      subst hq
      have ev : v = .str y := (Option.some.inj hv).symm
      subst ev
      refine f_st ?_
      rw [ovr_st (by decide)]
      iterate 13 walk_at "mj"
      refine c_isi_str ?_
      iterate 0 walk_at "mj"
      refine t_bool ?_
      iterate 5 walk_at "mj"
      refine m_list (vs := []) (Fm_get (by first | exact nz rfl | simp) (upd_self ..)) F.slot_list_append ty_list_append ?_
      iterate 4 walk_at "mj"
      refine c_append (vs := []) (Fm_get (by first | exact nz rfl | simp) (upd_self ..)) (by simp) ?_
      rw [Fm_mod (by simp), upd_upd]
      iterate 5 walk_at "mj"
      exact ⟨rfl, _, rfl⟩
    · rintro H' ⟨-, f, rfl⟩
      iterate 6 walk_at "mj"
      exact ⟨_, _, _, rfl, fun _ _ e => e, rfl, rfl⟩
theorem c_init_uptodate (O : (Cx px).Ok) {N : Hp} {k jl : Nat} (hn : N (11, k) = none) (hl : H (tmp jl) = some (.list [])) (hN : ∀ l : Loc, l.1 ≠ 0 → H l = N l) :
    JCode (Cx px) (n + 1) X (.ref 158) [.loc (1, k), .loc (tmp jl)] [] [] (fun p H' => ∃ N', H' = ov N' H ∧ (p = .loc (11, k) ∧ N' = upd N (11, k) (.list []))) H := by
  refine' con_fn O [(Str.ofString "self", PV.loc (1, k)), (Str.ofString "items", PV.loc (tmp jl))] ?ho ?hcd ?hbind ?hloc hN ?h ?hcell ?hco ?hgen ?hk
  case ho => refine' look_fn ?g; case g => show List.lookup _ (Mine.KH _) = _; k_is
  case hcd => show codeIn (Mine.KH _) _ _ = true; k_is
  case hbind =>
    intro c s vs us _ d d'
    obtain ⟨u0, u1, rfl, d0, d1⟩ := d.inv2
    have := d'.inv0; subst this
    exact ⟨_, BindsTo.of_eq rfl, .cons d0 (.cons d1 (.nil))⟩
  case hloc => rfl
  case hcell => decide
  case hco => rfl
  case hgen => rfl
  case hk => rfl
  case h =>
    intro i hi QI hQI
    have hji : jl ≠ i := fun z => by rw [z, hi] at hl; cases hl
    iterate 4 walk_at "mj"
    refine ⟨by simp, al_nm (11, k) (by simp) hn ?_⟩
    iterate 3 walk_at "mj"
    refine X_for (fun vs q H' => vs = [] ∧ H' = Fm (upd N (11, k) (.list [])) H i ((sto (fun y => List.lookup y [(Str.ofString "self", PV.loc (1, k)), (Str.ofString "items", PV.loc (tmp jl))].reverse) (Str.ofString "uptodate") (PV.loc (11, k))))) ?_
    iterate 1 walk_at "mj"
    refine ⟨.list (tmp jl), [], ⟨rfl, Fm_gett hji hl⟩, ⟨rfl, rfl⟩, ?_, ?_, ?_⟩
    · rintro q H' ⟨-, rfl⟩
      exact ⟨Fm_gett hji hl, _, _, Fm_gett hji hl⟩
    · rintro q v H' hv
      cases hv
    · rintro H' ⟨-, rfl⟩
      iterate 6 walk_at "mj"
      exact ⟨_, _, _, rfl, fun _ _ e => e, rfl, rfl⟩
theorem c_expand_file (O : (Cx px).Ok) {N : Hp} {k jl : Nat} {a : Str → Option PV} {l : List Nat} (ob : Ob N (1, k) (2, k) aTask taskNames a) (ha : a (Str.ofString "file_dep") = some (.loc (6, k))) (h6 : N (6, k) = some (.list [])) (hl : H (tmp jl) = some (.list (sL fn l))) (hlt : ∀ j ∈ l, j < 21) (hln : l.Nodup) (hlz : l.length ≤ 100) (hN : ∀ l : Loc, l.1 ≠ 0 → H l = N l) :
    JCode (Cx px) (n + 1) X (.ref 165) [.loc (1, k), .loc (tmp jl)] [] [] (fun p H' => ∃ N', H' = ov N' H ∧ (p = .none ∧ N' = upd N (6, k) (.list (sL fn l)))) H := by
  refine' con_fn O [(Str.ofString "self", PV.loc (1, k)), (Str.ofString "file_dep", PV.loc (tmp jl))] ?ho ?hcd ?hbind ?hloc hN ?h ?hcell ?hco ?hgen ?hk
  case ho => refine' look_fn ?g; case g => show List.lookup _ (Mine.KH _) = _; k_is
  case hcd => show codeIn (Mine.KH _) _ _ = true; k_is
  case hbind =>
    intro c s vs us _ d d'
    obtain ⟨u0, u1, rfl, d0, d1⟩ := d.inv2
    have := d'.inv0; subst this
    exact ⟨_, BindsTo.of_eq rfl, .cons d0 (.cons d1 (.nil))⟩
  case hloc => rfl
  case hcell => decide
  case hco => rfl
  case hgen => rfl
  case hk => rfl
  case h =>
    intro i hi QI hQI
    have hji : jl ≠ i := fun z => by rw [z, hi] at hl; cases hl
    have obq : ∀ L, Ob (upd N (6, k) (.list L)) (1, k) (2, k) aTask taskNames a := fun L => ⟨ob.1, ob.2, (upd_ne _ _ (by first | exact nef rfl | simp)).trans ob.3, (upd_ne _ _ (by first | exact nef rfl | simp)).trans ob.4⟩
    iterate 1 walk_at "mj"
    refine X_for (fun vs q H' => vs = sL fn l ∧ ∃ f, H' = Fm (upd N (6, k) (.list (sL fn (l.take q)))) H i (ovr (fun y => List.lookup y [(Str.ofString "self", PV.loc (1, k)), (Str.ofString "file_dep", PV.loc (tmp jl))].reverse) [Str.ofString "dep"] f)) ?_
    iterate 1 walk_at "mj"
    refine ⟨.list (tmp jl), sL fn l, ⟨rfl, Fm_gett hji hl⟩, ⟨rfl, _, by rw [ovr_self, show sL fn (l.take 0) = [] from rfl, upd_same h6]⟩, ?_, ?_, ?_⟩
    · rintro q H' ⟨-, f, rfl⟩
      exact ⟨Fm_gett hji hl, _, _, Fm_gett hji hl⟩
    · rintro q v H' hv ⟨-, f, rfl⟩
      have hq : q < l.length := by have := (List.getElem?_eq_some_iff.mp hv).1; simpa [sL] using this
      have ev : v = .str (fn l[q]) := by simp only [sL, List.getElem?_map, List.getElem?_eq_getElem hq] at hv; exact (Option.some.inj hv).symm
      subst ev
      have hnot : l[q] ∉ l.take q := fun h1 => by
        obtain ⟨r, hr, e⟩ := List.getElem_of_mem h1
        rw [List.length_take] at hr
        rw [List.getElem_take] at e
        have := (List.getElem_inj hln).mp e
        lia
      refine f_st ?_
      rw [ovr_st (by decide)]
      iterate 13 walk_at "mj"
      refine c_isi_str ?_
      iterate 0 walk_at "mj"
      refine t_bool ?_
      iterate 7 walk_at "mj"
      refine f_get O (obq _) ha (kaT _ _ (by decide)) ?_
      iterate 0 walk_at "mj"
      refine op_notin_list (vs := sL fn (l.take q)) (Fm_get (by first | exact nz rfl | simp) (upd_self ..)) eqv_fn ?_
      rw [inside_fn (fun j hj => hlt j (List.mem_of_mem_take hj)) (hlt _ (List.getElem_mem hq)), decide_eq_false hnot]
      refine ⟨true, rfl, fun _ => ?_, fun h => (nomatch h)⟩
      iterate 5 walk_at "mj"
      refine f_get O (obq _) ha (kaT _ _ (by decide)) ?_
      refine m_list (vs := sL fn (l.take q)) (Fm_get (by first | exact nz rfl | simp) (upd_self ..)) F.slot_list_append ty_list_append ?_
      iterate 4 walk_at "mj"
      refine c_append (vs := sL fn (l.take q)) (Fm_get (by first | exact nz rfl | simp) (upd_self ..)) (by simp [sL]; lia) ?_
      rw [Fm_mod (by simp), upd_upd]
      iterate 7 walk_at "mj"
      rw [show sL fn (l.take q) ++ [PV.str (fn l[q])] = sL fn (l.take (q + 1)) by rw [List.take_succ_eq_append_getElem hq]; simp only [sL, List.map_append, List.map_cons, List.map_nil]]
      exact ⟨rfl, _, rfl⟩
    · rintro H' ⟨-, f, rfl⟩
      iterate 3 walk_at "mj"
      refine ⟨_, _, _, rfl, fun _ _ e => e, rfl, ?_⟩
      rw [show (sL fn l).length = l.length by simp [sL], List.take_length]
theorem c_expand_task (O : (Cx px).Ok) {N : Hp} {k jl : Nat} {a : Str → Option PV} {l : List Nat} (ob : Ob N (1, k) (2, k) aTask taskNames a) (ha : a (Str.ofString "task_dep") = some (.loc (3, k))) (h3 : N (3, k) = some (.list [])) (hl : H (tmp jl) = some (.list (sL nm l))) (hlt : ∀ j ∈ l, j < 21) (hlz : l.length ≤ 100) (hN : ∀ l : Loc, l.1 ≠ 0 → H l = N l) :
    JCode (Cx px) (n + 1) X (.ref 172) [.loc (1, k), .loc (tmp jl)] [] [] (fun p H' => ∃ N', H' = ov N' H ∧ (p = .none ∧ N' = upd N (3, k) (.list (sL nm l)))) H := by
  refine' con_fn O [(Str.ofString "self", PV.loc (1, k)), (Str.ofString "task_dep", PV.loc (tmp jl))] ?ho ?hcd ?hbind ?hloc hN ?h ?hcell ?hco ?hgen ?hk
  case ho => refine' look_fn ?g; case g => show List.lookup _ (Mine.KH _) = _; k_is
  case hcd => show codeIn (Mine.KH _) _ _ = true; k_is
  case hbind =>
    intro c s vs us _ d d'
    obtain ⟨u0, u1, rfl, d0, d1⟩ := d.inv2
    have := d'.inv0; subst this
    exact ⟨_, BindsTo.of_eq rfl, .cons d0 (.cons d1 (.nil))⟩
  case hloc => rfl
  case hcell => decide
  case hco => rfl
  case hgen => rfl
  case hk => rfl
  case h =>
    intro i hi QI hQI
    have hji : jl ≠ i := fun z => by rw [z, hi] at hl; cases hl
    have obq : ∀ L, Ob (upd N (3, k) (.list L)) (1, k) (2, k) aTask taskNames a := fun L => ⟨ob.1, ob.2, (upd_ne _ _ (by first | exact nef rfl | simp)).trans ob.3, (upd_ne _ _ (by first | exact nef rfl | simp)).trans ob.4⟩
    iterate 1 walk_at "mj"
    refine X_for (fun vs q H' => vs = sL nm l ∧ ∃ f, H' = Fm (upd N (3, k) (.list (sL nm (l.take q)))) H i (ovr (fun y => List.lookup y [(Str.ofString "self", PV.loc (1, k)), (Str.ofString "task_dep", PV.loc (tmp jl))].reverse) [Str.ofString "dep"] f)) ?_
    iterate 1 walk_at "mj"
    refine ⟨.list (tmp jl), sL nm l, ⟨rfl, Fm_gett hji hl⟩, ⟨rfl, _, by rw [ovr_self, show sL nm (l.take 0) = [] from rfl, upd_same h3]⟩, ?_, ?_, ?_⟩
    · rintro q H' ⟨-, f, rfl⟩
      exact ⟨Fm_gett hji hl, _, _, Fm_gett hji hl⟩
    · rintro q v H' hv ⟨-, f, rfl⟩
      have hq : q < l.length := by have := (List.getElem?_eq_some_iff.mp hv).1; simpa [sL] using this
      have ev : v = .str (nm l[q]) := by simp only [sL, List.getElem?_map, List.getElem?_eq_getElem hq] at hv; exact (Option.some.inj hv).symm
      subst ev
      refine f_st ?_
      rw [ovr_st (by decide)]
      iterate 6 walk_at "mj"
      refine op_inS ?_
      rw [noStar _ (hlt _ (List.getElem_mem hq))]
      refine ⟨false, rfl, fun h => (nomatch h), fun _ => ?_⟩
      iterate 5 walk_at "mj"
      refine f_get O (obq _) ha (kaT _ _ (by decide)) ?_
      refine m_list (vs := sL nm (l.take q)) (Fm_get (by first | exact nz rfl | simp) (upd_self ..)) F.slot_list_append ty_list_append ?_
      iterate 4 walk_at "mj"
      refine c_append (vs := sL nm (l.take q)) (Fm_get (by first | exact nz rfl | simp) (upd_self ..)) (by simp [sL]; lia) ?_
      rw [Fm_mod (by simp), upd_upd]
      iterate 5 walk_at "mj"
      rw [show sL nm (l.take q) ++ [PV.str (nm l[q])] = sL nm (l.take (q + 1)) by rw [List.take_succ_eq_append_getElem hq]; simp only [sL, List.map_append, List.map_cons, List.map_nil]]
      exact ⟨rfl, _, rfl⟩
    · rintro H' ⟨-, f, rfl⟩
      iterate 3 walk_at "mj"
      refine ⟨_, _, _, rfl, fun _ _ e => e, rfl, ?_⟩
      rw [show (sL nm l).length = l.length by simp [sL], List.take_length]
end
-- M44
section
variable {px : Px}
variable {n : Nat} {X : XT} {w : Wd} {σ : Sg} {H : Hp}

noncomputable def Wd.tsk (w : Wd) (k : Nat) (t : TS) : Wd := { w with tk := fun j => if j = k then some t else w.tk j }
theorem upd_tnew {k : Nat} {ts : TS} : ∀ {U : List (Nat × Spec)}, w.dd = none → w.tk k = none → (∀ b, b < 20 → hpT k ts b = U.lookup b) → (∀ x ∈ U, x.1 < 20) → U.foldr (fun x H => upd H (x.1, k) x.2) (hp w) = hp (w.tsk k ts) := by
  intro U h hk hU hlt
  have gen : ∀ (U : List (Nat × Spec)), (∀ x ∈ U, x.1 < 20) → ∀ l : Loc, U.foldr (fun x H => upd H (x.1, k) x.2) (hp w) l = if l.2 = k ∧ l.1 < 20 then (match U.lookup l.1 with | some s => some s | none => hp w l) else hp w l := by
    intro U
    induction U with
    | nil => intro _ l; simp
    | cons x U ih =>
      intro hx l
      obtain ⟨a, s⟩ := x
      rw [List.foldr_cons]
      by_cases e : l = (a, k)
      · rw [e, upd_self]
        simp [hx (a, s) (.head _), List.lookup_cons]
      · rw [upd_ne _ _ e, ih (fun y hy => hx y (.tail _ hy))]
        by_cases h2 : l.2 = k ∧ l.1 < 20
        · rw [if_pos h2, if_pos h2]
          have : (l.1 == a) = false := beq_eq_false_iff_ne.mpr fun q => e (Prod.ext q h2.1)
          rw [List.lookup_cons, this]
        · rw [if_neg h2, if_neg h2]
  funext l
  rw [gen U hlt l]
  obtain ⟨b, j⟩ := l
  by_cases h2 : j = k ∧ b < 20
  · rw [if_pos h2]
    obtain ⟨rfl, hb⟩ := h2
    have e1 : hp (w.tsk j ts) (b, j) = hpT j ts b := hp_t (if_pos rfl) hb
    rw [e1, hU b hb]
    have e2 : hp w (b, j) = none := by unfold hp; simp only [hb, if_true, hk]
    simp only
    cases U.lookup b with
    | none => exact e2
    | some s => rfl
  · rw [if_neg h2]
    unfold hp
    by_cases hb : b < 20
    · have hj : j ≠ k := fun e => h2 ⟨e, hb⟩
      simp only [hb, if_true, Wd.tsk, if_neg hj]
    · simp only [hb, if_false, Wd.tsk, h]
theorem task_new_ok {k : Nat} {ts : TS} : ∀ b, b < 20 → hpT k ts b = List.lookup b [(2, Spec.attrs taskNames (taskAt k)), (12, .dict []), (8, .list [.str (fn k)]), (11, .list []), (10, .list []), (4, .list []), (7, .list []), (3, .list (sL nm ts.td)), (6, .list (sL fn ts.fd)), (9, .list []), (5, .list []), (13, .dict []), (1, .inst aTask (2, k))] := by
  iterate 20 refine lt_step ?_ rfl
  exact fun b h => absurd h (Nat.not_lt_zero b)
noncomputable def taskA0 (k : Nat) : Str → Option PV := fun y => if y = Str.ofString "actions" then some (.loc (9, k)) else if y = Str.ofString "setup_tasks" then some (.loc (5, k)) else if y = Str.ofString "options" then some .none else if y = Str.ofString "name" then some (.str (nm k)) else none
noncomputable def taskA1 (k : Nat) : Str → Option PV := fun y => if y = Str.ofString "calc_dep" then some (.loc (4, k)) else if y = Str.ofString "wild_dep" then some (.loc (7, k)) else if y = Str.ofString "task_dep" then some (.loc (3, k)) else if y = Str.ofString "file_dep" then some (.loc (6, k)) else if y = Str.ofString "dep_changed" then some .none else taskA0 k y
theorem c_init_deps (O : (Cx px).Ok) {N1 : Hp} {k jf jt : Nat} {ts : TS} (h1 : N1 (1, k) = some (.inst aTask (2, k))) (hn : ∀ b ∈ [3, 4, 6, 7], N1 (b, k) = none) (hf : H (tmp jf) = some (.list (sL fn ts.fd))) (ht : H (tmp jt) = some (.list (sL nm ts.td)))
    (hfl : ∀ j ∈ ts.fd, j < 21) (hfn : ts.fd.Nodup) (hfz : ts.fd.length ≤ 100) (htl : ∀ j ∈ ts.td, j < 21) (htz : ts.td.length ≤ 100) (hN : ∀ l : Loc, l.1 ≠ 0 → H l = upd N1 (2, k) (.attrs taskNames (taskA0 k)) l) :
    JCode (Cx px) (n + 3) X (.ref 144) [.loc (1, k), .loc (tmp jf), .loc (tmp jt), .raw (.ref 128)] [] [] (fun p H' => ∃ N', H' = ov N' H ∧ (p = .none ∧ N' = upd (upd (upd (upd (upd N1 (6, k) (.list (sL fn ts.fd))) (3, k) (.list (sL nm ts.td))) (7, k) (.list [])) (4, k) (.list [])) (2, k) (.attrs taskNames (taskA1 k)))) H := by
  refine' con_fn O [(Str.ofString "self", PV.loc (1, k)), (Str.ofString "file_dep", PV.loc (tmp jf)), (Str.ofString "task_dep", PV.loc (tmp jt)), (Str.ofString "calc_dep", PV.raw (.ref 128))] ?ho ?hcd ?hbind ?hloc hN ?h ?hcell ?hco ?hgen ?hk
  case ho => refine' look_fn ?g; case g => show List.lookup _ (Mine.KH _) = _; k_is
  case hcd => show codeIn (Mine.KH _) _ _ = true; k_is
  case hbind =>
    intro c s vs us _ d d'
    obtain ⟨u0, u1, u2, u3, rfl, d0, d1, d2, d3⟩ := d.inv4
    have := d'.inv0; subst this
    exact ⟨_, BindsTo.of_eq rfl, .cons d0 (.cons d1 (.cons d2 (.cons d3 (.nil))))⟩
  case hloc => rfl
  case hcell => decide
  case hco => rfl
  case hgen => rfl
  case hk => rfl
  case h =>
    intro i hi QI hQI
    have hif : jf ≠ i := fun z => by rw [z, hi] at hf; cases hf
    have hit : jt ≠ i := fun z => by rw [z, hi] at ht; cases ht
    have n3 := hn 3 (by simp)
    have n4 := hn 4 (by simp)
    have n6 := hn 6 (by simp)
    have n7 := hn 7 (by simp)
    iterate 4 walk_at "mj"
    refine b_set O (by first | exact h1 | exact h1 _ (by decide) | exact h1 _ (by decide) (by decide) | simp [upd, h1]) (ksT _ _ (by decide)) (by decide) ?_
    iterate 5 walk_at "mj"
    refine ⟨by first | exact Nat.zero_le _ | simp, ?_⟩
    refine b_nm (6, k) ?_ (by first | exact n6 | exact n6 _ (by decide) | exact n6 _ (by decide) (by decide) | simp [upd, n6])
    iterate 1 walk_at "mj"
    refine b_set O (by first | exact h1 | exact h1 _ (by decide) | exact h1 _ (by decide) (by decide) | simp [upd, h1]) (ksT _ _ (by decide)) (by decide) ?_
    iterate 5 walk_at "mj"
    refine f_methK O (ob_b (by first | exact h1 | exact h1 _ (by decide) | exact h1 _ (by decide) (by decide) | simp [upd, h1])) rfl (kmT_expand_file_dep _) ?_
    iterate 4 walk_at "mj"
    refine use_fn (c_expand_file (k := k) (jl := jf) (l := ts.fd) O (ob_b (by first | exact h1 | exact h1 _ (by decide) | exact h1 _ (by decide) (by decide) | simp [upd, h1])) rfl (by simp [upd]) (Fm_gett hif hf) hfl hfn hfz fun l hl => Fm_nm hl) ?_
    rintro p N' ⟨rfl, rfl⟩
    rw [upd_comm (l := (2, k)) (by simp), upd_upd]
    iterate 5 walk_at "mj"
    refine ⟨by first | exact Nat.zero_le _ | simp, ?_⟩
    refine b_nm (3, k) ?_ (by first | exact n3 | exact n3 _ (by decide) | exact n3 _ (by decide) (by decide) | simp [upd, n3])
    iterate 1 walk_at "mj"
    refine b_set O (by first | exact h1 | exact h1 _ (by decide) | exact h1 _ (by decide) (by decide) | simp [upd, h1]) (ksT _ _ (by decide)) (by decide) ?_
    iterate 5 walk_at "mj"
    refine ⟨by first | exact Nat.zero_le _ | simp, ?_⟩
    refine b_nm (7, k) ?_ (by first | exact n7 | exact n7 _ (by decide) | exact n7 _ (by decide) (by decide) | simp [upd, n7])
    iterate 1 walk_at "mj"
    refine b_set O (by first | exact h1 | exact h1 _ (by decide) | exact h1 _ (by decide) (by decide) | simp [upd, h1]) (ksT _ _ (by decide)) (by decide) ?_
    iterate 5 walk_at "mj"
    refine t_list (Fm_gett hit ht) (by simp [sL]; lia) ?_
    have tail : ∀ (L : List PV), L = sL nm ts.td → True := fun _ _ => trivial
    cases hb : (sL nm ts.td).isEmpty with
    | false =>
      refine ⟨fun _ => ?_, fun h => (nomatch (show true = false from h))⟩
      iterate 4 walk_at "mj"
      refine f_methK O (ob_b (by first | exact h1 | exact h1 _ (by decide) | exact h1 _ (by decide) (by decide) | simp [upd, h1])) rfl (kmT_expand_task_dep _) ?_
      iterate 4 walk_at "mj"
      refine use_fn (c_expand_task (k := k) (jl := jt) (l := ts.td) O (ob_b (by first | exact h1 | exact h1 _ (by decide) | exact h1 _ (by decide) (by decide) | simp [upd, h1])) rfl (by simp [upd]) (Fm_gett hit ht) htl htz fun l hl => Fm_nm hl) ?_
      rintro p N' ⟨rfl, rfl⟩
      rw [upd_comm (l := (2, k)) (by simp), upd_comm (l := (7, k)) (l' := (3, k)) (by simp), upd_upd]
      iterate 7 walk_at "mj"
      refine ⟨by first | exact Nat.zero_le _ | simp, ?_⟩
      refine b_nm (4, k) ?_ (by first | exact n4 | exact n4 _ (by decide) | exact n4 _ (by decide) (by decide) | simp [upd, n4])
      iterate 1 walk_at "mj"
      refine b_set O (by first | exact h1 | exact h1 _ (by decide) | exact h1 _ (by decide) (by decide) | simp [upd, h1]) (ksT _ _ (by decide)) (by decide) ?_
      iterate 5 walk_at "mj"
      refine t_tup0 O (a := 128) (by show List.lookup _ (Mine.KH _) = _; k_is) ?_
      iterate 5 walk_at "mj"
      exact ⟨_, _, _, rfl, fun _ _ e => e, rfl, rfl⟩
    | true =>
      have e0 : sL nm ts.td = [] := List.isEmpty_iff.mp hb
      refine ⟨fun h => (nomatch (show false = true from h)), fun _ => ?_⟩
      iterate 6 walk_at "mj"
      refine ⟨by first | exact Nat.zero_le _ | simp, ?_⟩
      refine b_nm (4, k) ?_ (by first | exact n4 | exact n4 _ (by decide) | exact n4 _ (by decide) (by decide) | simp [upd, n4])
      iterate 1 walk_at "mj"
      refine b_set O (by first | exact h1 | exact h1 _ (by decide) | exact h1 _ (by decide) (by decide) | simp [upd, h1]) (ksT _ _ (by decide)) (by decide) ?_
      iterate 5 walk_at "mj"
      refine t_tup0 O (a := 128) (by show List.lookup _ (Mine.KH _) = _; k_is) ?_
      iterate 5 walk_at "mj"
      rw [e0]
      exact ⟨_, _, _, rfl, fun _ _ e => e, rfl, rfl⟩
end
-- M45
section
variable {px : Px}
variable {n : Nat} {X : XT} {w : Wd} {σ : Sg} {H : Hp}

theorem c_task_init (O : (Cx px).Ok) {k jf jg jt : Nat} {ts : TS} (hd : w.dd = none) (hk : w.tk k = none) (hk21 : k < 21) (hf : H (tmp jf) = some (.list (sL fn ts.fd))) (hg : H (tmp jg) = some (.list [.str (fn k)])) (ht : H (tmp jt) = some (.list (sL nm ts.td)))
    (hfl : ∀ j ∈ ts.fd, j < 21) (hfn : ts.fd.Nodup) (hfz : ts.fd.length ≤ 100) (htl : ∀ j ∈ ts.td, j < 21) (htz : ts.td.length ≤ 100) (hN : ∀ l : Loc, l.1 ≠ 0 → H l = upd (upd (hp w) (2, k) (.attrs taskNames fun _ => none)) (1, k) (.inst aTask (2, k)) l) :
    JCode (Cx px) (n + 4) X (.ref 137) [.loc (1, k), .str (nm k), .none] [Str.ofString "file_dep", Str.ofString "targets", Str.ofString "task_dep"] [.loc (tmp jf), .loc (tmp jg), .loc (tmp jt)] (fun p H' => ∃ N', H' = ov N' H ∧ (p = .none ∧ N' = hp (w.tsk k ts))) H := by
  rw [upd_comm (by simp)] at hN
  refine' con_fn O [(Str.ofString "self", PV.loc (1, k)), (Str.ofString "name", PV.str (nm k)), (Str.ofString "actions", PV.none), (Str.ofString "file_dep", PV.loc (tmp jf)), (Str.ofString "targets", PV.loc (tmp jg)), (Str.ofString "task_dep", PV.loc (tmp jt)), (Str.ofString "uptodate", PV.raw (.ref 127)), (Str.ofString "calc_dep", PV.raw (.ref 128)), (Str.ofString "setup", PV.raw (.ref 129)), (Str.ofString "subtask_of", PV.none), (Str.ofString "has_subtask", PV.bool false), (Str.ofString "getargs", PV.none)] ?ho ?hcd ?hbind ?hloc hN ?h ?hcell ?hco ?hgen ?hk
  case ho => refine' look_fn ?g; case g => show List.lookup _ (Mine.KH _) = _; k_is
  case hcd => show codeIn (Mine.KH _) _ _ = true; k_is
  case hbind =>
    intro c s vs us hK dd d'
    obtain ⟨u0, u1, u2, rfl, d0, d1, d2⟩ := dd.inv3
    obtain ⟨u3, u4, u5, rfl, d3, d4, d5⟩ := d'.inv3
    refine ⟨[(Str.ofString "self", u0), (Str.ofString "name", u1), (Str.ofString "actions", u2), (Str.ofString "file_dep", u3), (Str.ofString "targets", u4), (Str.ofString "task_dep", u5), (Str.ofString "uptodate", .ref 127), (Str.ofString "calc_dep", .ref 128), (Str.ofString "setup", .ref 129), (Str.ofString "subtask_of", .none), (Str.ofString "has_subtask", .bool false), (Str.ofString "getargs", .none)], ?_, .cons d0 (.cons d1 (.cons d2 (.cons d3 (.cons d4 (.cons d5 (.cons (p := .raw (.ref 127)) rfl (.cons (p := .raw (.ref 128)) rfl (.cons (p := .raw (.ref 129)) rfl (.cons (p := .none) rfl (.cons (p := .bool false) rfl (.cons (p := .none) rfl .nil)))))))))))⟩
    exact binds_K hK rfl (by (show List.lookup _ (Mine.KH _) = _); k_is) rfl rfl rfl
  case hloc => rfl
  case hcell => decide
  case hco => rfl
  case hgen => rfl
  case hk => rfl
  case h =>
    intro i hi QI hQI
    have hif : jf ≠ i := fun z => by rw [z, hi] at hf; cases hf
    have hit : jt ≠ i := fun z => by rw [z, hi] at ht; cases ht
    have hig : jg ≠ i := fun z => by rw [z, hi] at hg; cases hg
    have nn : ∀ a, a < 20 → hp w (a, k) = none := fun a ha => by unfold hp; simp only [ha, if_true, hk]
    have h1 : upd (hp w) (1, k) (.inst aTask (2, k)) (1, k) = some (.inst aTask (2, k)) := upd_self ..
    obtain ⟨N1, eN1⟩ : ∃ N1, N1 = upd (hp w) (1, k) (.inst aTask (2, k)) := ⟨_, rfl⟩
    rw [← eN1] at h1
    have nN : ∀ a, a < 20 → a ≠ 1 → N1 (a, k) = none := fun a ha h => by rw [eN1, upd_ne _ _ (by simp [h]), nn a ha]
    show JS _ _ _ _ _ _ (Fm (upd (upd (hp w) (1, k) (.inst aTask (2, k))) (2, k) (.attrs taskNames fun _ => none)) H i _)
    rw [← eN1]
    iterate 4 walk_at "mj"
    refine t_none ?_
    iterate 2 walk_at "mj"
    refine b_nm (13, k) ?_ (nN _ (by decide) (by decide))
    iterate 7 walk_at "mj"
    refine op_inS ?_
    rw [noEq _ hk21]
    refine ⟨false, rfl, fun h => (nomatch h), fun _ => ?_⟩
    iterate 6 walk_at "mj"
    refine b_set O (by first | exact h1 | exact h1 _ (by decide) | exact h1 _ (by decide) (by decide) | simp [upd, h1]) (ksT _ _ (by decide)) (by decide) ?_
    iterate 5 walk_at "mj"
    refine b_set O (by first | exact h1 | exact h1 _ (by decide) | exact h1 _ (by decide) (by decide) | simp [upd, h1]) (ksT _ _ (by decide)) (by decide) ?_
    iterate 10 walk_at "mj"
    refine c_list_tup0 O (a := 129) (by show List.lookup _ (Mine.KH _) = _; k_is) ?_
    refine b_nm (5, k) ?_ (by first | exact nN | exact nN _ (by decide) | exact nN _ (by decide) (by decide) | simp [upd, nN])
    iterate 1 walk_at "mj"
    refine b_set O (by first | exact h1 | exact h1 _ (by decide) | exact h1 _ (by decide) (by decide) | simp [upd, h1]) (ksT _ _ (by decide)) (by decide) ?_
    iterate 6 walk_at "mj"
    refine op_is ?_
    iterate 1 walk_at "mj"
    refine ⟨fun _ => ?_, fun h => (nomatch (show true = false from h))⟩
    iterate 4 walk_at "mj"
    refine ⟨by first | exact Nat.zero_le _ | simp, ?_⟩
    refine b_nm (9, k) ?_ (by first | exact nN | exact nN _ (by decide) | exact nN _ (by decide) (by decide) | simp [upd, nN])
    iterate 1 walk_at "mj"
    refine b_set O (by first | exact h1 | exact h1 _ (by decide) | exact h1 _ (by decide) (by decide) | simp [upd, h1]) (ksT _ _ (by decide)) (by decide) ?_
    iterate 7 walk_at "mj"
    refine f_methK O (ob_b (by first | exact h1 | exact h1 _ (by decide) | exact h1 _ (by decide) (by decide) | simp [upd, h1])) rfl (kmT_init_deps _) ?_
    iterate 8 walk_at "mj"
    refine use_fn (c_init_deps (k := k) (jf := jf) (jt := jt) (ts := ts) O (N1 := upd (upd (upd N1 (13, k) (.dict [])) (5, k) (.list [])) (9, k) (.list [])) (by first | exact h1 | exact h1 _ (by decide) | exact h1 _ (by decide) (by decide) | simp [upd, h1]) (by intro b hb; simp only [List.mem_cons, List.not_mem_nil, or_false] at hb; rcases hb with rfl | rfl | rfl | rfl <;> simp [upd, nN]) (Fm_gett hif hf) (Fm_gett hit ht) hfl hfn hfz htl htz fun l hl => Fm_nm hl) ?_
    rintro p N' ⟨rfl, rfl⟩
    iterate 6 walk_at "mj"
    refine t_tup0 O (a := 127) (by show List.lookup _ (Mine.KH _) = _; k_is) ?_
    iterate 3 walk_at "mj"
    refine ⟨by first | exact Nat.zero_le _ | simp, al_tmp fun ju T1 hju hjun hT1 hA1 hE1 => ?_⟩
    iterate 6 walk_at "mj"
    refine b_set O (by first | exact h1 | exact h1 _ (by decide) | exact h1 _ (by decide) (by decide) | simp [upd, h1]) (ksT _ _ (by decide)) (by decide) ?_
    iterate 6 walk_at "mj"
    refine f_get O (ob_b (by first | exact h1 | exact h1 _ (by decide) | exact h1 _ (by decide) (by decide) | simp [upd, h1])) rfl (kaT _ _ (by decide)) ?_
    refine t_dict O (kvs := []) (b_at (by simp [upd])) (by simp) ?_
    iterate 0 walk_at "mj"
    refine ⟨fun h => (nomatch (show false = true from h)), fun _ => ?_⟩
    iterate 6 walk_at "mj"
    refine ⟨by first | exact Nat.zero_le _ | simp, ?_⟩
    refine b_nm (10, k) ?_ (by first | exact nN | exact nN _ (by decide) | exact nN _ (by decide) (by decide) | simp [upd, nN])
    iterate 1 walk_at "mj"
    refine b_set O (by first | exact h1 | exact h1 _ (by decide) | exact h1 _ (by decide) (by decide) | simp [upd, h1]) (ksT _ _ (by decide)) (by decide) ?_
    iterate 5 walk_at "mj"
    refine f_methK O (ob_b (by first | exact h1 | exact h1 _ (by decide) | exact h1 _ (by decide) (by decide) | simp [upd, h1])) rfl (kmT_init_uptodate _) ?_
    iterate 4 walk_at "mj"
    refine use_fn (c_init_uptodate (k := k) (jl := ju) O (by first | exact nN | exact nN _ (by decide) | exact nN _ (by decide) (by decide) | simp [upd, nN]) (Fm_gett hju hT1) fun l hl => Fm_nm hl) ?_
    rintro p N' ⟨rfl, rfl⟩
    rw [upd_comm (l := (2, k)) (l' := (11, k)) (by simp)]
    iterate 1 walk_at "mj"
    refine b_set O (by first | exact h1 | exact h1 _ (by decide) | exact h1 _ (by decide) (by decide) | simp [upd, h1]) (ksT _ _ (by decide)) (by decide) ?_
    iterate 5 walk_at "mj"
    refine f_methK O (ob_b (by first | exact h1 | exact h1 _ (by decide) | exact h1 _ (by decide) (by decide) | simp [upd, h1])) rfl (kmT_init_targets _) ?_
    iterate 4 walk_at "mj"
    refine use_fn (c_init_targets (k := k) (jl := jg) (y := fn k) O (by first | exact nN | exact nN _ (by decide) | exact nN _ (by decide) (by decide) | simp [upd, nN]) (Fm_gett hig (hA1 _ _ hg)) fun l hl => Fm_nm hl) ?_
    rintro p N' ⟨rfl, rfl⟩
    rw [upd_comm (l := (2, k)) (l' := (8, k)) (by simp)]
    iterate 1 walk_at "mj"
    refine b_set O (by first | exact h1 | exact h1 _ (by decide) | exact h1 _ (by decide) (by decide) | simp [upd, h1]) (ksT _ _ (by decide)) (by decide) ?_
    iterate 5 walk_at "mj"
    refine b_set O (by first | exact h1 | exact h1 _ (by decide) | exact h1 _ (by decide) (by decide) | simp [upd, h1]) (ksT _ _ (by decide)) (by decide) ?_
    iterate 5 walk_at "mj"
    refine b_set O (by first | exact h1 | exact h1 _ (by decide) | exact h1 _ (by decide) (by decide) | simp [upd, h1]) (ksT _ _ (by decide)) (by decide) ?_
    iterate 5 walk_at "mj"
    refine b_set O (by first | exact h1 | exact h1 _ (by decide) | exact h1 _ (by decide) (by decide) | simp [upd, h1]) (ksT _ _ (by decide)) (by decide) ?_
    iterate 4 walk_at "mj"
    refine b_nm (12, k) ?_ (by first | exact nN | exact nN _ (by decide) | exact nN _ (by decide) (by decide) | simp [upd, nN])
    iterate 1 walk_at "mj"
    refine b_set O (by first | exact h1 | exact h1 _ (by decide) | exact h1 _ (by decide) (by decide) | simp [upd, h1]) (ksT _ _ (by decide)) (by decide) ?_
    iterate 5 walk_at "mj"
    refine b_set O (by first | exact h1 | exact h1 _ (by decide) | exact h1 _ (by decide) (by decide) | simp [upd, h1]) (ksT _ _ (by decide)) (by decide) ?_
    iterate 3 walk_at "mj"
    refine ⟨_, _, _, rfl, fun j sp e => hA1 _ _ e, rfl, ?_⟩
    rw [eN1]
    exact upd_tnew (U := [(2, Spec.attrs taskNames (taskAt k)), (12, .dict []), (8, .list [.str (fn k)]), (11, .list []), (10, .list []), (4, .list []), (7, .list []), (3, .list (sL nm ts.td)), (6, .list (sL fn ts.fd)), (9, .list []), (5, .list []), (13, .dict []), (1, .inst aTask (2, k))]) hd hk task_new_ok (by intro x hx; simp only [List.mem_cons, List.not_mem_nil, or_false] at hx; rcases hx with rfl | rfl | rfl | rfl | rfl | rfl | rfl | rfl | rfl | rfl | rfl | rfl | rfl <;> simp)
/-- Task(name, None, file_dep=.., targets=.., task_dep=..), called in a body -/
theorem new_task (O : (Cx px).Ok) {k jf jg jt : Nat} {ts : TS} {T : Hp} {i : Nat} {m : Str → Option PV} {Q : PV → Hp → Prop} (hd : w.dd = none) (hk : w.tk k = none) (hk21 : k < 21) (hif : jf ≠ i) (hig : jg ≠ i) (hit : jt ≠ i) (hf : T (tmp jf) = some (.list (sL fn ts.fd))) (hg : T (tmp jg) = some (.list [.str (fn k)])) (ht : T (tmp jt) = some (.list (sL nm ts.td)))
    (hfl : ∀ j ∈ ts.fd, j < 21) (hfn : ts.fd.Nodup) (hfz : ts.fd.length ≤ 100) (htl : ∀ j ∈ ts.td, j < 21) (htz : ts.td.length ≤ 100)
    (h : Q (.loc (1, k)) (Fm (hp (w.tsk k ts)) T i m)) : JCall (Cx px) (n + 5) X (.ref 223) [.str (nm k), .none] [Str.ofString "file_dep", Str.ofString "targets", Str.ofString "task_dep"] [.loc (tmp jf), .loc (tmp jg), .loc (tmp jt)] Q (Fm (hp w) T i m) := by
  have e : upd (upd (Fm (hp w) T i m) (2, k) (.attrs taskNames fun _ => none)) (1, k) (.inst aTask (2, k)) = Fm (upd (upd (hp w) (2, k) (.attrs taskNames fun _ => none)) (1, k) (.inst aTask (2, k))) T i m := by
    rw [Fm_mod (by simp), Fm_mod (by simp)]
  have nn : ∀ a, a < 20 → hp w (a, k) = none := fun a ha => by unfold hp; simp only [ha, if_true, hk]
  have hN : ∀ l : Loc, l.1 ≠ 0 → Fm (upd (upd (hp w) (2, k) (.attrs taskNames fun _ => none)) (1, k) (.inst aTask (2, k))) T i m l = upd (upd (hp w) (2, k) (.attrs taskNames fun _ => none)) (1, k) (.inst aTask (2, k)) l := fun l hl => Fm_nm hl
  refine (call_cls (C := (Cx px)) (n := n + 4) O (cl := 223) (fI := 137) (1, k) (2, k) taskNames (mkT _) (kmT_init _).2.1 (kmT_init _).2.2 (by simp) (by simp) (by simp) ((Fm_nm (by first | exact nz rfl | simp)).trans (nn _ (by decide))) ((Fm_nm (by first | exact nz rfl | simp)).trans (nn _ (by decide))) (by decide) ?_).call
  rw [e]
  refine (c_task_init (n := n) (X := X) O hd hk hk21 (Fm_gett hif hf) (Fm_gett hig hg) (Fm_gett hit ht) hfl hfn hfz htl htz hN).mono fun p H' ⟨N', e1, e2, e3⟩ => ?_
  subst e1 e3
  rw [ov_Fm]
  exact ⟨e2, h⟩
end
-- M46
/-! a dict, while its values are walked -/
section
variable {C : Ctx} {F : FC} {n : Nat} {X : XT} {H : Hp} {c : Cf} {s : Shared}
theorem St.walked {l : Loc} {kvs : List (Str × PV)} (S : St C c H s) (e : H l = some (.dict kvs)) : ∃ ep, St C c (upd H l (.fdict kvs ep)) s := by
  obtain ⟨kvs', ⟨o, es, ep, ho, r⟩, d⟩ := S.reg l _ e
  exact ⟨ep, S.updH (sp := .fdict kvs ep) e ⟨rfl, fun _ _ => rfl⟩ ⟨kvs', ⟨o, es, ho, r⟩, d⟩ rfl s.drawn s.toks⟩
theorem St.walkedOut {l : Loc} {kvs : List (Str × PV)} {ep : Nat} (S : St C c H s) (e : H l = some (.fdict kvs ep)) : St C c (upd H l (.dict kvs)) s := by
  obtain ⟨kvs', ⟨o, es, ho, r⟩, d⟩ := S.reg l _ e
  exact S.updH (sp := .dict kvs) e ⟨rfl, fun _ _ => rfl⟩ ⟨kvs', ⟨o, es, ep, ho, r⟩, d⟩ rfl s.drawn s.toks
/-- from here on the dict at l is walked -/
theorem E_walk {x : Expr} {Q : PV → Hp → Prop} (l : Loc) (h : JE C F n X x (fun p H₁ => ∃ kvs, H₁ l = some (.dict kvs) ∧ ∀ ep, Q p (upd H₁ l (.fdict kvs ep))) H) : JE C F n X x Q H := by
  intro A c s a i S
  refine (wpP (h A c s a i S) fun v s₁ p H₁ c₁ x₁ d₁ S₁ hq => ?_)
  obtain ⟨kvs, e, q⟩ := hq
  obtain ⟨ep, S₂⟩ := S₁.walked e
  exact ⟨p, _, c₁, x₁, d₁, S₂, q ep⟩
/-- the walk is over -/
theorem S_walked {ss : List Stmt} {Q : AF → Hp → Prop} {l : Loc} {kvs : List (Str × PV)} {ep : Nat} (e : H l = some (.fdict kvs ep)) (h : JS C F n X ss Q (upd H l (.dict kvs))) : JS C F n X ss Q H :=
  fun A c s a i S => h A c s a i (S.walkedOut e)
theorem op_notin_fdict (O : C.Ok) {l : Loc} {kvs : List (Str × PV)} {ep : Nat} {k : Str} {Q : PV → Hp → Prop} (hl : H l = some (.fdict kvs ep)) (h : Q (.bool (!(dget kvs k).isSome)) H) : J2 C n X (fun u v => compareOp .NotIn u v) (.str k) (.loc l) Q H := by
  rintro A c s u v _ dk ⟨rfl, ul⟩ S
  have S' := S.walkedOut hl
  have hl' : upd H l (.dict kvs) l = some (.dict kvs) := upd_self ..
  obtain ⟨kvs', e, d⟩ := S'.dict hl'
  refine wpAny_notIn_of (knd := C.sk) (sk_is dk) (S'.modules O hl') e.mapOf ((S.same s.drawn (s.toks + 1)).post (p := .bool _) ?_ h)
  have := d.get k
  revert this
  cases dget kvs k <;> cases valueAt kvs' k <;> intro z <;> first | rfl | exact z.elim
end
-- M47
section
variable {px : Px}
variable {n : Nat} {X : XT} {w : Wd} {σ : Sg} {H : Hp}

noncomputable def Wd.cs (w : Wd) (a : Nat) (sp : Spec) : Wd := { w with ct := fun b => if b = a then some sp else w.ct b }
theorem upd_c {a : Nat} {sp : Spec} (h1 : ¬ a < 20) (h2 : a < 30) : upd (hp w) (a, 0) sp = hp (w.cs a sp) := by
  funext l
  obtain ⟨b, j⟩ := l
  by_cases e : (b, j) = ((a, 0) : Loc)
  · rw [e, upd_self, hp_c h1 h2]; exact (if_pos rfl).symm
  · rw [upd_ne _ _ e]
    unfold hp
    by_cases h20 : b < 20
    · simp only [h20, if_true]; rfl
    · by_cases h30 : b < 30
      · simp only [h20, h30, if_true, if_false]
        by_cases hj : j = 0
        · simp only [hj, if_true]
          have : b ≠ a := fun z => e (by rw [z, hj])
          exact (if_neg this).symm
        · simp only [hj, if_false]
      · simp only [h20, h30, if_false]; rfl
theorem hpT_td {k b : Nat} {ts : TS} {td : List Nat} (hb : b ≠ 3) : hpT k ts b = hpT k ⟨td, ts.fd⟩ b := by
  rcases Nat.lt_or_ge b 14 with h | h
  · have key : ∀ b, b < 14 → b ≠ 3 → hpT k ts b = hpT k ⟨td, ts.fd⟩ b := by
      iterate 14 refine lt_step ?_ (fun hb => by first | rfl | exact absurd rfl hb)
      exact fun b h => absurd h (Nat.not_lt_zero b)
    exact key b h hb
  · rw [hpT_none h, hpT_none h]
theorem upd_td {k : Nat} {ts : TS} {td : List Nat} (hd : w.dd = none) (ht : w.tk k = some ts) : upd (hp w) (3, k) (.list (sL nm td)) = hp (w.tsk k ⟨td, ts.fd⟩) := by
  funext l
  obtain ⟨b, j⟩ := l
  by_cases e : (b, j) = ((3, k) : Loc)
  · rw [e, upd_self]
    exact ((hp_t (a := 3) (w := w.tsk k ⟨td, ts.fd⟩) (t := ⟨td, ts.fd⟩) (if_pos rfl) (by decide)).trans rfl).symm
  · rw [upd_ne _ _ e]
    unfold hp
    by_cases h20 : b < 20
    · simp only [h20, if_true]
      by_cases hj : j = k
      · subst hj
        have hb : b ≠ 3 := fun z => e (by rw [z])
        simp only [ht, Wd.tsk, if_true]
        exact hpT_td hb
      · simp only [Wd.tsk, hj, if_false]
    · simp only [h20, if_false, Wd.tsk, hd]
theorem tsk_same {k : Nat} {ts : TS} (ht : w.tk k = some ts) : w.tsk k ts = w := by
  obtain ⟨a, b, c⟩ := w
  unfold Wd.tsk
  congr 1
  funext j
  split
  · rename_i e; rw [e]; exact ht.symm
  · rfl
theorem tsk_tsk {k : Nat} {a b : TS} : (w.tsk k a).tsk k b = w.tsk k b := by
  unfold Wd.tsk
  congr 1
  funext j
  dsimp only
  split <;> rfl
noncomputable def mD (f : Nat → Str) (g : Nat → PV) (l : List Nat) : List (Str × PV) := l.map fun j => (f j, g j)
theorem dget_mD {f : Nat → Str} {g : Nat → PV} (inj : ∀ j, j < 21 → ∀ k, k < 21 → f j = f k → j = k) {l : List Nat} {k : Nat} (hl : ∀ j ∈ l, j < 21) (hk : k < 21) : dget (mD f g l) (f k) = if k ∈ l then some (g k) else none := by
  induction l with
  | nil => rfl
  | cons j r ih =>
    have ih := ih fun x hx => hl x (.tail _ hx)
    unfold mD dget at ih ⊢
    rw [List.map_cons, List.find?_cons]
    by_cases e : j = k
    · subst e; simp
    · have : decide (f j = f k) = false := decide_eq_false fun q => e (inj _ (hl j (.head _)) _ hk q)
      simp only [this]
      rw [ih]
      have e' : k ≠ j := fun q => e q.symm
      simp [e']
theorem dput_mD {f : Nat → Str} {g : Nat → PV} (inj : ∀ j, j < 21 → ∀ k, k < 21 → f j = f k → j = k) {l : List Nat} {k : Nat} (hl : ∀ j ∈ l, j < 21) (hk : k < 21) (h : k ∉ l) : dput (mD f g l) (f k) (g k) = mD f g (l ++ [k]) := by
  unfold dput
  have : (mD f g l).any (fun kv => decide (kv.1 = f k)) = false := by
    rw [Bool.eq_false_iff]
    intro q
    obtain ⟨kv, hm, e⟩ := List.any_eq_true.mp q
    obtain ⟨j, hj, rfl⟩ := List.mem_map.mp hm
    exact h (inj _ (hl j hj) _ hk (of_decide_eq_true e) ▸ hj)
  rw [this]
  simp [mD]
noncomputable abbrev tgtD := mD fn fun j => PV.str (nm j)
noncomputable abbrev taskD := mD nm fun j => PV.loc (1, j)
theorem c_add_implicit (O : (Cx px).Ok) {k : Nat} {ts : TS} {tgt : List Nat} (hd : w.dd = none) (ht : w.tk k = some ts) (h23 : w.ct 23 = some (.dict (tgtD tgt))) (hft : ∀ j ∈ ts.fd, j ∈ tgt) (htl : ∀ j ∈ tgt, j < 21) (hdis : ∀ j ∈ ts.fd, j ∉ ts.td) (hfn : ts.fd.Nodup) (htd : ∀ j ∈ ts.td, j < 21)
    (hz1 : ts.td.length ≤ 100) (hz2 : ts.fd.length ≤ 100) (hN : ∀ l : Loc, l.1 ≠ 0 → H l = hp w l) :
    JCode (Cx px) (n + 1) X (.ref 327) [.loc (23, 0), .loc (1, k), .loc (6, k)] [] [] (fun p H' => ∃ N', H' = ov N' H ∧ (p = .none ∧ N' = hp (w.tsk k ⟨ts.td ++ ts.fd, ts.fd⟩))) H := by
  refine' con_fn O [(Str.ofString "targets", PV.loc (23, 0)), (Str.ofString "task", PV.loc (1, k)), (Str.ofString "deps_list", PV.loc (6, k))] ?ho ?hcd ?hbind ?hloc hN ?h ?hcell ?hco ?hgen ?hk
  case ho => refine' look_fn ?g; case g => show List.lookup _ (Mine.KH _) = _; k_is
  case hcd => show codeIn (Mine.KH _) _ _ = true; k_is
  case hbind =>
    intro c s vs us _ d d'
    obtain ⟨u0, u1, u2, rfl, d0, d1, d2⟩ := d.inv3
    have := d'.inv0; subst this
    exact ⟨_, BindsTo.of_eq rfl, .cons d0 (.cons d1 (.cons d2 (.nil)))⟩
  case hloc => rfl
  case hcell => decide
  case hco => rfl
  case hgen => rfl
  case hk => rfl
  case h =>
    intro i hi QI hQI
    iterate 1 walk_at "mj"
    refine X_for (fun vs q H' => vs = sL fn ts.fd ∧ ∃ f, H' = Fm (hp (w.tsk k ⟨ts.td ++ ts.fd.take q, ts.fd⟩)) H i (ovr (fun y => List.lookup y [(Str.ofString "targets", PV.loc (23, 0)), (Str.ofString "task", PV.loc (1, k)), (Str.ofString "deps_list", PV.loc (6, k))].reverse) [Str.ofString "dep"] f)) ?_
    iterate 1 walk_at "mj"
    have h6 : ∀ td, hp (w.tsk k ⟨td, ts.fd⟩) (6, k) = some (.list (sL fn ts.fd)) := fun td => (hp_t (w := w.tsk k ⟨td, ts.fd⟩) (t := ⟨td, ts.fd⟩) (if_pos rfl) (by decide)).trans rfl
    have h3 : ∀ td, hp (w.tsk k ⟨td, ts.fd⟩) (3, k) = some (.list (sL nm td)) := fun td => (hp_t (w := w.tsk k ⟨td, ts.fd⟩) (t := ⟨td, ts.fd⟩) (if_pos rfl) (by decide)).trans rfl
    have h23' : ∀ td, hp (w.tsk k ⟨td, ts.fd⟩) (23, 0) = some (.dict (tgtD tgt)) := fun td => (hp_c (w := w.tsk k ⟨td, ts.fd⟩) (by decide) (by decide)).trans h23
    have e0 : w.tsk k ⟨ts.td, ts.fd⟩ = w := tsk_same ht
    refine ⟨.list (6, k), sL fn ts.fd, ⟨rfl, Fm_get (by simp) (by rw [← e0]; exact h6 _)⟩, ⟨rfl, _, by rw [ovr_self, List.take_zero, List.append_nil, e0]⟩, ?_, ?_, ?_⟩
    · rintro q H' ⟨-, f, rfl⟩
      exact ⟨Fm_get (by simp) (h6 _), _, _, Fm_get (by simp) (h6 _)⟩
    · rintro q v H' hv ⟨-, f, rfl⟩
      have hq : q < ts.fd.length := by have := (List.getElem?_eq_some_iff.mp hv).1; simpa [sL] using this
      have ev : v = .str (fn ts.fd[q]) := by simp only [sL, List.getElem?_map, List.getElem?_eq_getElem hq] at hv; exact (Option.some.inj hv).symm
      subst ev
      have hm := List.getElem_mem hq
      have hmt := hft _ hm
      have hnot : ts.fd[q] ∉ ts.td ++ ts.fd.take q := fun h => by
        rcases List.mem_append.mp h with h | h
        · exact hdis _ hm h
        · obtain ⟨r, hr, e⟩ := List.getElem_of_mem h
          rw [List.length_take] at hr
          rw [List.getElem_take] at e
          have := (List.getElem_inj hfn).mp e
          lia
      have hlt : ∀ j ∈ ts.td ++ ts.fd.take q, j < 21 := fun j h => by
        rcases List.mem_append.mp h with h | h
        · exact htd _ h
        · exact htl _ (hft _ (List.mem_of_mem_take h))
      have hget : dget (tgtD tgt) (fn ts.fd[q]) = some (.str (nm ts.fd[q])) := by rw [dget_mD fn_inj0 htl (htl _ hmt), if_pos hmt]
      refine f_st ?_
      rw [ovr_st (by decide)]
      iterate 8 walk_at "mj"
      refine op_in_dict O (Fm_get (by first | exact nz rfl | simp) (h23' _)) ?_
      rw [hget]
      refine ⟨true, rfl, fun _ => ?_, fun h => (nomatch h)⟩
      iterate 5 walk_at "mj"
      refine sub_dict (p := .str (nm ts.fd[q])) (Fm_get (by first | exact nz rfl | simp) (h23' _)) hget ?_
      iterate 2 walk_at "mj"
      refine f_get O (ob_t (w := w.tsk k ⟨_, _⟩) (k := k) (if_pos rfl)) rfl (kaT _ _ (by decide)) ?_
      iterate 0 walk_at "mj"
      refine op_notin_list (vs := sL nm (ts.td ++ ts.fd.take q)) (Fm_get (by first | exact nz rfl | simp) (h3 _)) eqv_sL ?_
      rw [inside_sL hlt (htl _ hmt), decide_eq_false hnot]
      refine ⟨true, rfl, fun _ => ?_, fun h => (nomatch h)⟩
      iterate 7 walk_at "mj"
      refine f_get O (ob_t (w := w.tsk k ⟨_, _⟩) (k := k) (if_pos rfl)) rfl (kaT _ _ (by decide)) ?_
      refine m_list (vs := sL nm (ts.td ++ ts.fd.take q)) (Fm_get (by first | exact nz rfl | simp) (h3 _)) F.slot_list_append ty_list_append ?_
      iterate 5 walk_at "mj"
      refine sub_dict (p := .str (nm ts.fd[q])) (Fm_get (by first | exact nz rfl | simp) (h23' _)) hget ?_
      iterate 1 walk_at "mj"
      refine c_append (vs := sL nm (ts.td ++ ts.fd.take q)) (Fm_get (by first | exact nz rfl | simp) (h3 _)) (by simp [sL]; lia) ?_
      rw [show sL nm (ts.td ++ ts.fd.take q) ++ [PV.str (nm ts.fd[q])] = sL nm (ts.td ++ ts.fd.take (q + 1)) by rw [List.take_succ_eq_append_getElem hq]; simp only [sL, List.map_append, List.map_cons, List.map_nil, List.append_assoc]]
      rw [Fm_mod (by simp), upd_td (w := w.tsk k ⟨ts.td ++ ts.fd.take q, ts.fd⟩) (ts := ⟨ts.td ++ ts.fd.take q, ts.fd⟩) hd (if_pos rfl), tsk_tsk]
      iterate 5 walk_at "mj"
      exact ⟨rfl, _, rfl⟩
    · rintro H' ⟨-, f, rfl⟩
      iterate 3 walk_at "mj"
      refine ⟨_, _, _, rfl, fun _ _ e => e, rfl, ?_⟩
      rw [show (sL fn ts.fd).length = ts.fd.length by simp [sL], List.take_length]
end
-- M48
section
variable {px : Px}
variable {n : Nat} {X : XT} {w : Wd} {σ : Sg} {H : Hp}

theorem cs_self {a : Nat} {sp : Spec} : (w.cs a sp).ct a = some sp := if_pos rfl
theorem cs_cs {a : Nat} {x y : Spec} : (w.cs a x).cs a y = w.cs a y := by
  unfold Wd.cs
  congr 1
  funext j
  dsimp only
  split <;> rfl
noncomputable def imp (t : TS) : TS := ⟨t.td ++ t.fd, t.fd⟩
noncomputable def Wd.imps (w : Wd) (S : List Nat) : Wd := { w with tk := fun j => (w.tk j).map fun t => if j ∈ S then imp t else t }
theorem imps_nil : w.imps [] = w := by
  obtain ⟨a, b, c⟩ := w
  unfold Wd.imps
  congr 1
  funext j
  show (a j).map (fun t => t) = a j
  simp
theorem imps_get {S : List Nat} {k : Nat} {t : TS} (h : w.tk k = some t) (hk : k ∉ S) : (w.imps S).tk k = some t := by
  show (w.tk k).map _ = _
  rw [h]; simp [hk]
theorem imps_step {S : List Nat} {k : Nat} {t : TS} (h : w.tk k = some t) (hk : k ∉ S) : (w.imps S).tsk k ⟨t.td ++ t.fd, t.fd⟩ = w.imps (S ++ [k]) := by
  unfold Wd.imps Wd.tsk
  congr 1
  funext j
  dsimp only
  by_cases e : j = k
  · subst e; simp [h, imp]
  · simp [e]
theorem set_implicit_cls (O : (Cx px).Ok) {Q : Value → List PV → Hp → Prop} (h : Q (.ref 327) [] H) : JMeth (Cx px) n X (Str.ofString "add_implicit_task_dep") (.raw (.ref 368)) Q H := by
  refine' m_static_cls (cl := 368) (p := 329) (mc := .type "type") (f := .ref 327) (rest := [.bool false]) O ?a ?b ?c ?d ?e h
  case a => show specialIn (Mine.KH _) _ _ = _; k_is
  case b => show readsIn (Mine.KH _) _ _ = _; k_is
  case c => show findCls (Mine.KH _) _ _ _ = _; k_is
  case d => show recIn (Mine.KH _) _ _ = _; k_is
  case e => rfl
theorem c_set_implicit (O : (Cx px).Ok) {jl : Nat} {ord : List Nat} {ts : Nat → TS} (hd : w.dd = none) (ho : ∀ k ∈ ord, k < 21 ∧ w.tk k = some (ts k)) (hon : ord.Nodup) (hoz : ord.length ≤ 100) (h23 : w.ct 23 = some (.dict []))
    (hft : ∀ k ∈ ord, ∀ j ∈ (ts k).fd, j ∈ ord) (hdis : ∀ k ∈ ord, ∀ j ∈ (ts k).fd, j ∉ (ts k).td) (hfn : ∀ k ∈ ord, (ts k).fd.Nodup) (htd : ∀ k ∈ ord, ∀ j ∈ (ts k).td, j < 21)
    (hz1 : ∀ k ∈ ord, (ts k).td.length ≤ 100) (hz2 : ∀ k ∈ ord, (ts k).fd.length ≤ 100) (hl : H (tmp jl) = some (.list (ord.map fun k => PV.loc (1, k)))) (hN : ∀ l : Loc, l.1 ≠ 0 → H l = hp w l) :
    JCode (Cx px) (n + 2) X (.ref 317) [.loc (23, 0), .loc (tmp jl)] [] [] (fun p H' => ∃ N', H' = ov N' H ∧ (p = .none ∧ N' = hp ((w.cs 23 (.dict (tgtD ord))).imps ord))) H := by
  refine' con_fn O [(Str.ofString "targets", PV.loc (23, 0)), (Str.ofString "task_list", PV.loc (tmp jl))] ?ho ?hcd ?hbind ?hloc hN ?h ?hcell ?hco ?hgen ?hk
  case ho => refine' look_fn ?g; case g => show List.lookup _ (Mine.KH _) = _; k_is
  case hcd => show codeIn (Mine.KH _) _ _ = true; k_is
  case hbind =>
    intro c s vs us _ d d'
    obtain ⟨u0, u1, rfl, d0, d1⟩ := d.inv2
    have := d'.inv0; subst this
    exact ⟨_, BindsTo.of_eq rfl, .cons d0 (.cons d1 (.nil))⟩
  case hloc => rfl
  case hcell => decide
  case hco => rfl
  case hgen => rfl
  case hk => rfl
  case h =>
    intro i hi QI hQI
    have hji : jl ≠ i := fun z => by rw [z, hi] at hl; cases hl
    have nin : ∀ q, (hq : q < ord.length) → ord[q] ∉ ord.take q := fun q hq h1 => by
      obtain ⟨r, hr, e⟩ := List.getElem_of_mem h1
      rw [List.length_take] at hr
      rw [List.getElem_take] at e
      have := (List.getElem_inj hon).mp e
      lia
    have e0 : w.cs 23 (.dict (tgtD [])) = w := by
      obtain ⟨a, b, c⟩ := w
      unfold Wd.cs
      congr 1
      funext j
      dsimp only
      split
      · rename_i e; rw [e]; exact h23.symm
      · rfl
    iterate 1 walk_at "mj"
    refine X_for (fun vs q H' => vs = (ord.map fun k => PV.loc (1, k)) ∧ ∃ f, H' = Fm (hp (w.cs 23 (.dict (tgtD (ord.take q))))) H i (ovr (fun y => List.lookup y [(Str.ofString "targets", PV.loc (23, 0)), (Str.ofString "task_list", PV.loc (tmp jl))].reverse) [Str.ofString "task", Str.ofString "target"] f)) ?_
    iterate 1 walk_at "mj"
    refine ⟨.list (tmp jl), _, ⟨rfl, Fm_gett hji hl⟩, ⟨rfl, _, by rw [ovr_self, List.take_zero, e0]⟩, ?_, ?_, ?_⟩
    · rintro q H' ⟨-, f, rfl⟩
      exact ⟨Fm_gett hji hl, _, _, Fm_gett hji hl⟩
    · rintro q v H' hv ⟨-, f, rfl⟩
      have hq : q < ord.length := by have := (List.getElem?_eq_some_iff.mp hv).1; simpa using this
      have ev : v = .loc (1, ord[q]) := by simp only [List.getElem?_map, List.getElem?_eq_getElem hq] at hv; exact (Option.some.inj hv).symm
      subst ev
      have hm := List.getElem_mem hq
      have hk21 := (ho _ hm).1
      have htk : ∀ a sp, (w.cs a sp).tk ord[q] = some (ts ord[q]) := fun _ _ => (ho _ hm).2
      have h8 : ∀ sp, hp (w.cs 23 sp) (8, ord[q]) = some (.list [.str (fn ord[q])]) := fun sp => (hp_t (htk _ _) (by decide)).trans rfl
      have h23' : ∀ sp, hp (w.cs 23 sp) (23, 0) = some sp := fun sp => (hp_c (by decide) (by decide)).trans cs_self
      have hlt : ∀ j ∈ ord.take q, j < 21 := fun j hj => (ho _ (List.mem_of_mem_take hj)).1
      have hget : dget (tgtD (ord.take q)) (fn ord[q]) = none := by rw [dget_mD fn_inj0 hlt hk21, if_neg (nin q hq)]
      refine f_st ?_
      rw [ovr_st (by decide)]
      iterate 2 walk_at "mj"
      refine X_for (fun vs r H' => vs = [PV.str (fn ord[q])] ∧ ∃ f, H' = Fm (hp (w.cs 23 (.dict (tgtD (if r = 0 then ord.take q else ord.take q ++ [ord[q]]))))) H i (ovr (fun y => List.lookup y [(Str.ofString "targets", PV.loc (23, 0)), (Str.ofString "task_list", PV.loc (tmp jl))].reverse) [Str.ofString "task", Str.ofString "target"] f) ∧ f (Str.ofString "task") = some (.loc (1, ord[q]))) ?_
      iterate 2 walk_at "mj"
      refine f_get O (ob_t (htk _ _)) rfl (kaT _ _ (by decide)) ?_
      refine ⟨.list (8, ord[q]), _, ⟨rfl, Fm_get (by simp) (h8 _)⟩, ⟨rfl, _, rfl, rfl⟩, ?_, ?_, ?_⟩
      · rintro r H' ⟨-, f, rfl, hf⟩
        exact ⟨Fm_get (by simp) (h8 _), _, _, Fm_get (by simp) (h8 _)⟩
      · rintro r v H' hv ⟨-, f, rfl, hf⟩
        have hr : r = 0 := by have := (List.getElem?_eq_some_iff.mp hv).1; simpa using this
        subst hr
        have ev : v = .str (fn ord[q]) := (Option.some.inj hv).symm
        subst ev
        refine f_st ?_
        rw [ovr_st (by decide)]
        iterate 6 walk_at "mj"
        refine op_in_dict O (kvs := tgtD (ord.take q)) (Fm_get (by first | exact nz rfl | simp) (h23' _)) ?_
        rw [hget]
        refine ⟨false, rfl, fun h => (nomatch h), fun _ => ?_⟩
        iterate 5 walk_at "mj"
        refine f_loc (p := .loc (1, ord[q])) hf ?_
        refine f_get O (ob_t (htk _ _)) rfl (kaT _ _ (by decide)) ?_
        iterate 2 walk_at "mj"
        refine op_setitem O (kvs := tgtD (ord.take q)) (Fm_get (by first | exact nz rfl | simp) (h23' _)) (by simp [mD]; lia) ?_
        rw [Fm_mod (by simp), upd_c (by decide) (by decide)]
        rw [cs_cs, dput_mD (g := fun j => PV.str (nm j)) fn_inj0 hlt hk21 (nin q hq)]
        iterate 3 walk_at "mj"
        exact ⟨rfl, _, rfl, hf⟩
      · rintro H' ⟨-, f, rfl, hf⟩
        iterate 3 walk_at "mj"
        refine ⟨rfl, f, ?_⟩
        rw [List.take_succ_eq_append_getElem hq]; rfl
    · rintro H' ⟨-, f, rfl⟩
      rw [show (ord.map fun k => PV.loc (1, k)).length = ord.length by simp, List.take_length]
      obtain ⟨w1, e1⟩ : ∃ w1, w1 = w.cs 23 (.dict (tgtD ord)) := ⟨_, rfl⟩
      have hd1 : w1.dd = none := by rw [e1]; exact hd
      have ht1 : ∀ k ∈ ord, w1.tk k = some (ts k) := fun k hk => by rw [e1]; exact (ho k hk).2
      have h231 : w1.ct 23 = some (.dict (tgtD ord)) := by rw [e1]; exact cs_self
      rw [← e1]
      iterate 2 walk_at "mj"
      refine X_for (fun vs q H' => vs = (ord.map fun k => PV.loc (1, k)) ∧ ∃ f', H' = Fm (hp (w1.imps (ord.take q))) H i (ovr (ovr (fun y => List.lookup y [(Str.ofString "targets", PV.loc (23, 0)), (Str.ofString "task_list", PV.loc (tmp jl))].reverse) [Str.ofString "task", Str.ofString "target"] f) [Str.ofString "task"] f')) ?_
      iterate 1 walk_at "mj"
      refine ⟨.list (tmp jl), _, ⟨rfl, Fm_gett hji hl⟩, ⟨rfl, _, by rw [ovr_self, List.take_zero, imps_nil]⟩, ?_, ?_, ?_⟩
      · rintro q H' ⟨-, f', rfl⟩
        exact ⟨Fm_gett hji hl, _, _, Fm_gett hji hl⟩
      · rintro q v H' hv ⟨-, f', rfl⟩
        have hq : q < ord.length := by have := (List.getElem?_eq_some_iff.mp hv).1; simpa using this
        have ev : v = .loc (1, ord[q]) := by simp only [List.getElem?_map, List.getElem?_eq_getElem hq] at hv; exact (Option.some.inj hv).symm
        subst ev
        have hm := List.getElem_mem hq
        have htq := imps_get (ht1 _ hm) (nin q hq)
        refine f_st ?_
        rw [ovr_st (by decide)]
        iterate 5 walk_at "mj"
        refine set_implicit_cls O ?_
        iterate 8 walk_at "mj"
        refine f_get O (ob_t htq) rfl (kaT _ _ (by decide)) ?_
        iterate 1 walk_at "mj"
        refine use_fn (c_add_implicit (w := w1.imps (ord.take q)) (k := ord[q]) (ts := ts ord[q]) (tgt := ord) O hd1 htq h231 (hft _ hm) (fun j hj => (ho j hj).1) (hdis _ hm) (hfn _ hm) (htd _ hm) (hz1 _ hm) (hz2 _ hm) fun l hl => Fm_nm hl) ?_
        rintro p N' ⟨rfl, rfl⟩
        rw [imps_step (ht1 _ hm) (nin q hq), ← List.take_succ_eq_append_getElem hq]
        iterate 3 walk_at "mj"
        exact ⟨rfl, _, rfl⟩
      · rintro H' ⟨-, f', rfl⟩
        iterate 3 walk_at "mj"
        refine ⟨_, _, _, rfl, fun _ _ e => e, rfl, ?_⟩
        rw [show (ord.map fun k => PV.loc (1, k)).length = ord.length by simp, List.take_length, e1]
end
-- M49
section
variable {px : Px}
variable {n : Nat} {X : XT} {w : Wd} {σ : Sg} {H : Hp}

/-- the TaskControl object stands, with the attributes a -/
noncomputable def CtlOb (w : Wd) (a : Str → Option PV) : Prop := w.ct 20 = some (.inst aCtl (21, 0)) ∧ w.ct 21 = some (.attrs ctlNames a)
theorem CtlOb.ob {a : Str → Option PV} (h : CtlOb w a) : Ob (hp w) (20, 0) (21, 0) aCtl ctlNames a := ⟨by simp, by simp, (hp_c (by decide) (by decide)).trans h.1, (hp_c (by decide) (by decide)).trans h.2⟩
theorem CtlOb.cs {a : Str → Option PV} (h : CtlOb w a) {b : Nat} {sp : Spec} (h1 : b ≠ 20) (h2 : b ≠ 21) : CtlOb (w.cs b sp) a := ⟨(if_neg (Ne.symm h1)).trans h.1, (if_neg (Ne.symm h2)).trans h.2⟩
theorem cs_same {a : Nat} {sp : Spec} (h : w.ct a = some sp) : w.cs a sp = w := by
  obtain ⟨x, y, z⟩ := w
  unfold Wd.cs
  congr 1
  funext j
  dsimp only
  split
  · rename_i e; rw [e]; exact h.symm
  · rfl
theorem c_check (O : (Cx px).Ok) {a : Str → Option PV} {ord : List Nat} {ts : Nat → TS} (hc : CtlOb w a) (ha : a (Str.ofString "tasks") = some (.loc (22, 0))) (h22 : w.ct 22 = some (.dict (taskD ord))) (ho : ∀ k ∈ ord, k < 21 ∧ w.tk k = some (ts k))
    (htd : ∀ k ∈ ord, ∀ j ∈ (ts k).td, j ∈ ord) (hz : ord.length ≤ 100) (hN : ∀ l : Loc, l.1 ≠ 0 → H l = hp w l) :
    JCode (Cx px) (n + 1) X (.ref 310) [.loc (20, 0)] [] [] (fun p H' => ∃ N', H' = ov N' H ∧ (p = .none ∧ N' = hp w)) H := by
  refine' con_fn O [(Str.ofString "self", PV.loc (20, 0))] ?ho ?hcd ?hbind ?hloc hN ?h ?hcell ?hco ?hgen ?hk
  case ho => refine' look_fn ?g; case g => show List.lookup _ (Mine.KH _) = _; k_is
  case hcd => show codeIn (Mine.KH _) _ _ = true; k_is
  case hbind =>
    intro c s vs us _ d d'
    obtain ⟨u0, rfl, d0⟩ := d.inv1
    have := d'.inv0; subst this
    exact ⟨_, BindsTo.of_eq rfl, .cons d0 (.nil)⟩
  case hloc => rfl
  case hcell => decide
  case hco => rfl
  case hgen => rfl
  case hk => rfl
  case h =>
    intro i hi QI hQI
    have h22' : hp w (22, 0) = some (.dict (taskD ord)) := (hp_c (by decide) (by decide)).trans h22
    iterate 1 walk_at "mj"
    refine X_forI (E_walk (22, 0) ?_)
    iterate 3 walk_at "mj"
    refine f_get O hc.ob ha (kaC _ _ (by decide)) ?_
    refine m_dict (vs := taskD ord) (Fm_get (by first | exact nz rfl | simp) h22') F.slot_dict_values ty_dict_values ?_
    iterate 1 walk_at "mj"
    refine c_values O (kvs := taskD ord) (Fm_get (by first | exact nz rfl | simp) h22') (al_tmp fun jv T1 hjv hjvn hT1 hA1 hE1 => ?_)
    refine ⟨taskD ord, Fm_get (by simp) h22', fun ep => ?_⟩
    rw [Fm_mod (by simp), upd_c (by decide) (by decide)]
    have hcw : CtlOb (w.cs 22 (.fdict (taskD ord) ep)) a := hc.cs (by decide) (by decide)
    have hfd : hp (w.cs 22 (.fdict (taskD ord) ep)) (22, 0) = some (.fdict (taskD ord) ep) := (hp_c (by decide) (by decide)).trans cs_self
    refine ⟨.vals (22, 0) ep, ord.map fun j => PV.loc (1, j), fun q H' => ∃ f, H' = Fm (hp (w.cs 22 (.fdict (taskD ord) ep))) T1 i (ovr (fun y => List.lookup y [(Str.ofString "self", PV.loc (20, 0))].reverse) [Str.ofString "task", Str.ofString "dep", Str.ofString "setup_task"] f), ⟨tmp jv, taskD ord, rfl, Fm_gett hjv hT1, Fm_get (by simp) hfd, ?_⟩, ⟨_, by rw [ovr_self] <;> rfl⟩, ?_, ?_, ?_⟩
    · simp [mD]
    · rintro q H' ⟨f, rfl⟩
      exact ⟨⟨taskD ord, Fm_get (by simp) hfd, by simp [mD]⟩, _, _, Fm_get (by simp) hfd⟩
    · rintro q v H' hv ⟨f, rfl⟩
      have hq : q < ord.length := by have := (List.getElem?_eq_some_iff.mp hv).1; simpa using this
      have ev : v = .loc (1, ord[q]) := by simp only [List.getElem?_map, List.getElem?_eq_getElem hq] at hv; exact (Option.some.inj hv).symm
      subst ev
      have hm := List.getElem_mem hq
      have htk : ∀ b sp, (w.cs b sp).tk ord[q] = some (ts ord[q]) := fun _ _ => (ho _ hm).2
      have h3 : ∀ b sp, hp (w.cs b sp) (3, ord[q]) = some (.list (sL nm (ts ord[q]).td)) := fun b sp => (hp_t (htk b sp) (by decide)).trans rfl
      have h5 : ∀ b sp, hp (w.cs b sp) (5, ord[q]) = some (.list []) := fun b sp => (hp_t (htk b sp) (by decide)).trans rfl
      refine f_st ?_
      rw [ovr_st (by decide)]
      iterate 2 walk_at "mj"
      refine X_for (fun vs r H' => vs = sL nm (ts ord[q]).td ∧ ∃ f, H' = Fm (hp (w.cs 22 (.fdict (taskD ord) ep))) T1 i (ovr (fun y => List.lookup y [(Str.ofString "self", PV.loc (20, 0))].reverse) [Str.ofString "task", Str.ofString "dep", Str.ofString "setup_task"] f) ∧ f (Str.ofString "task") = some (.loc (1, ord[q]))) ?_
      iterate 2 walk_at "mj"
      refine f_get O (ob_t (htk _ _)) rfl (kaT _ _ (by decide)) ?_
      refine ⟨.list (3, ord[q]), _, ⟨rfl, Fm_get (by simp) (h3 _ _)⟩, ⟨rfl, _, rfl, rfl⟩, ?_, ?_, ?_⟩
      · rintro r H' ⟨-, f, rfl, hf⟩
        exact ⟨Fm_get (by simp) (h3 _ _), _, _, Fm_get (by simp) (h3 _ _)⟩
      · rintro r v H' hv ⟨-, f, rfl, hf⟩
        have hr : r < (ts ord[q]).td.length := by have := (List.getElem?_eq_some_iff.mp hv).1; simpa [sL] using this
        have ev : v = .str (nm (ts ord[q]).td[r]) := by simp only [sL, List.getElem?_map, List.getElem?_eq_getElem hr] at hv; exact (Option.some.inj hv).symm
        subst ev
        have hmr := htd _ hm _ (List.getElem_mem hr)
        have hget : dget (taskD ord) (nm (ts ord[q]).td[r]) = some (.loc (1, (ts ord[q]).td[r])) := by rw [dget_mD nm_inj0 (fun j hj => (ho j hj).1) (ho _ hmr).1, if_pos hmr]
        refine f_st ?_
        rw [ovr_st (by decide)]
        iterate 7 walk_at "mj"
        refine f_get O hcw.ob ha (kaC _ _ (by decide)) ?_
        refine op_notin_fdict O (kvs := taskD ord) (Fm_get (by first | exact nz rfl | simp) hfd) ?_
        rw [hget]
        refine ⟨false, rfl, fun h => (nomatch h), fun _ => ?_⟩
        iterate 4 walk_at "mj"
        exact ⟨rfl, _, rfl, hf⟩
      · rintro H' ⟨-, f, rfl, hf⟩
        iterate 2 walk_at "mj"
        refine X_for (fun vs r H' => vs = [] ∧ H' = Fm (hp (w.cs 22 (.fdict (taskD ord) ep))) T1 i (ovr (fun y => List.lookup y [(Str.ofString "self", PV.loc (20, 0))].reverse) [Str.ofString "task", Str.ofString "dep", Str.ofString "setup_task"] f)) ?_
        iterate 1 walk_at "mj"
        refine f_loc (p := .loc (1, ord[q])) hf ?_
        refine f_get O (ob_t (htk _ _)) rfl (kaT _ _ (by decide)) ?_
        refine ⟨.list (5, ord[q]), _, ⟨rfl, Fm_get (by simp) (h5 _ _)⟩, ⟨rfl, rfl⟩, ?_, ?_, ?_⟩
        · rintro r H' ⟨-, rfl⟩
          exact ⟨Fm_get (by simp) (h5 _ _), _, _, Fm_get (by simp) (h5 _ _)⟩
        · rintro r v H' hv
          cases hv
        · rintro H' ⟨-, rfl⟩
          iterate 3 walk_at "mj"
          exact ⟨f, rfl⟩
    · rintro H' ⟨f, rfl⟩
      refine ⟨fun _ => ?_, fun h => absurd rfl h⟩
      refine S_walked (l := (22, 0)) (Fm_get (by first | exact nz rfl | simp) hfd) ?_
      rw [Fm_mod (by simp), upd_c (by decide) (by decide), cs_cs, cs_same h22]
      iterate 2 walk_at "mj"
      exact ⟨_, _, _, rfl, fun j sp e => hA1 _ _ e, rfl, rfl⟩
end
-- M50
section
variable {px : Px}
variable {n : Nat} {X : XT} {w : Wd} {σ : Sg} {H : Hp}

noncomputable def ctlAt (sel : PV) : Str → Option PV := at_ [(Str.ofString "selected_tasks", sel), (Str.ofString "_def_order", .loc (24, 0)), (Str.ofString "targets", .loc (23, 0)), (Str.ofString "tasks", .loc (22, 0))]
noncomputable def Wd.ctl (w : Wd) (A : Str → Option PV) (t g o : Option Spec) : Wd :=
  { w with ct := fun b => if b = 20 then some (.inst aCtl (21, 0)) else if b = 21 then some (.attrs ctlNames A) else if b = 22 then t else if b = 23 then g else if b = 24 then o else none }
section
variable {A B : Str → Option PV} {t g o : Option Spec} {sp : Spec}
theorem ctl_ct (w : Wd) {b : Nat} {w' : Wd} (h1 : w'.tk = w.tk) (h2 : w'.dd = w.dd) (h : ∀ c, w'.ct c = if c = b then some sp else w.ct c) : w.cs b sp = w' := by
  obtain ⟨x, y, z⟩ := w'
  obtain ⟨x', y', z'⟩ := w
  unfold Wd.cs
  simp only at h1 h2 h ⊢
  subst h1 h2
  congr 1
  funext c
  exact (h c).symm
theorem ctl_c21 : (w.ctl A t g o).cs 21 (.attrs ctlNames B) = w.ctl B t g o := by
  refine ctl_ct _ rfl rfl fun c => ?_
  unfold Wd.ctl
  dsimp only
  by_cases h1 : c = 20
  · subst h1; rfl
  · by_cases h2 : c = 21
    · subst h2; rfl
    · simp only [h1, h2, if_false]
theorem ctl_c22 : (w.ctl A t g o).cs 22 sp = w.ctl A (some sp) g o := by
  refine ctl_ct _ rfl rfl fun c => ?_
  unfold Wd.ctl
  dsimp only
  by_cases h2 : c = 22
  · subst h2; rfl
  · simp only [h2, if_false]
theorem ctl_c23 : (w.ctl A t g o).cs 23 sp = w.ctl A t (some sp) o := by
  refine ctl_ct _ rfl rfl fun c => ?_
  unfold Wd.ctl
  dsimp only
  by_cases h2 : c = 23
  · subst h2; rfl
  · simp only [h2, if_false]
theorem ctl_c24 : (w.ctl A t g o).cs 24 sp = w.ctl A t g (some sp) := by
  refine ctl_ct _ rfl rfl fun c => ?_
  unfold Wd.ctl
  dsimp only
  by_cases h2 : c = 24
  · subst h2; rfl
  · simp only [h2, if_false]
theorem ctl_21 : upd (hp (w.ctl A t g o)) (21, 0) (.attrs ctlNames B) = hp (w.ctl B t g o) := by rw [upd_c (by decide) (by decide), ctl_c21]
theorem ctl_22 : upd (hp (w.ctl A t g o)) (22, 0) sp = hp (w.ctl A (some sp) g o) := by rw [upd_c (by decide) (by decide), ctl_c22]
theorem ctl_23 : upd (hp (w.ctl A t g o)) (23, 0) sp = hp (w.ctl A t (some sp) o) := by rw [upd_c (by decide) (by decide), ctl_c23]
theorem ctl_24 : upd (hp (w.ctl A t g o)) (24, 0) sp = hp (w.ctl A t g (some sp)) := by rw [upd_c (by decide) (by decide), ctl_c24]
theorem ctl_new (h : ∀ b, w.ct b = none) : upd (upd (hp w) (21, 0) (.attrs ctlNames A)) (20, 0) (.inst aCtl (21, 0)) = hp (w.ctl A none none none) := by
  rw [upd_c (by decide) (by decide), upd_c (by decide) (by decide)]
  congr 1
  refine ctl_ct _ rfl rfl fun c => ?_
  unfold Wd.ctl Wd.cs
  dsimp only
  by_cases h1 : c = 20
  · subst h1; rfl
  · by_cases h2 : c = 21
    · subst h2; rfl
    · simp only [h1, h2, if_false, h c]
      repeat' split
      all_goals rfl
theorem ctl_is : CtlOb (w.ctl A t g o) A := ⟨rfl, rfl⟩
theorem ctl_g22 : hp (w.ctl A t g o) (22, 0) = t := (hp_c (by decide) (by decide)).trans rfl
theorem ctl_g23 : hp (w.ctl A t g o) (23, 0) = g := (hp_c (by decide) (by decide)).trans rfl
theorem ctl_g24 : hp (w.ctl A t g o) (24, 0) = o := (hp_c (by decide) (by decide)).trans rfl
theorem ctl_imps {S : List Nat} : (w.ctl A t g o).imps S = (w.imps S).ctl A t g o := rfl
end
theorem set_implicit_obj (O : (Cx px).Ok) {N T : Hp} {i : Nat} {m a : Str → Option PV} {Q : Value → List PV → Hp → Prop} (ob : Ob N (20, 0) (21, 0) aCtl ctlNames a) (ha : a (Str.ofString "set_implicit_deps") = none) (h : Q (.ref 317) [] (Fm N T i m)) : JMeth (Cx px) n X (Str.ofString "set_implicit_deps") (.loc (20, 0)) Q (Fm N T i m) := by
  refine' m_static (cl := 368) (p := 319) (f := .ref 317) (rest := [.bool false]) O ob.e ob.f ha ?a ?b ?c ?d ?e ?f ?g ?h ?i h
  case a => show plainGet (Mine.KH _) _ _ = _; k_is
  case b => show hasDictIn (Mine.KH _) _ = _; k_is
  case c => show findIn (Mine.KH _) _ _ = _; k_is
  case d =>
    have e : typeIn (Mine.KH px.w.params) (.ref 319) = some (.type "staticmethod") := by k_is
    show (Option.any _ (typeIn (Mine.KH px.w.params) (.ref 319))) = true
    rw [e]; rfl
  case e => show specialIn (Mine.KH _) _ _ = _; k_is
  case f => show takesIn (Mine.KH _) _ = _; k_is
  case g => show recIn (Mine.KH _) _ _ = _; k_is
  case h => rfl
  case i => decide
theorem c_ctl_init (O : (Cx px).Ok) {jl : Nat} {ord : List Nat} {ts : Nat → TS} (hd : w.dd = none) (ho : ∀ k ∈ ord, k < 21 ∧ w.tk k = some (ts k)) (hon : ord.Nodup) (hoz : ord.length ≤ 100)
    (hft : ∀ k ∈ ord, ∀ j ∈ (ts k).fd, j ∈ ord) (hdis : ∀ k ∈ ord, ∀ j ∈ (ts k).fd, j ∉ (ts k).td) (hfn : ∀ k ∈ ord, (ts k).fd.Nodup) (htd : ∀ k ∈ ord, ∀ j ∈ (ts k).td, j ∈ ord)
    (hz1 : ∀ k ∈ ord, (ts k).td.length ≤ 100) (hz2 : ∀ k ∈ ord, (ts k).fd.length ≤ 100) (hl : H (tmp jl) = some (.list (ord.map fun k => PV.loc (1, k)))) (hN : ∀ l : Loc, l.1 ≠ 0 → H l = hp (w.ctl (fun _ => none) none none none) l) :
    JCode (Cx px) (n + 3) X (.ref 303) [.loc (20, 0), .loc (tmp jl)] [] [] (fun p H' => ∃ N', H' = ov N' H ∧ (p = .none ∧ N' = hp ((w.imps ord).ctl (ctlAt .none) (some (.dict (taskD ord))) (some (.dict (tgtD ord))) (some (.list (sL nm ord)))))) H := by
  refine' con_fn O [(Str.ofString "self", PV.loc (20, 0)), (Str.ofString "task_list", PV.loc (tmp jl))] ?ho ?hcd ?hbind ?hloc hN ?h ?hcell ?hco ?hgen ?hk
  case ho => refine' look_fn ?g; case g => show List.lookup _ (Mine.KH _) = _; k_is
  case hcd => show codeIn (Mine.KH _) _ _ = true; k_is
  case hbind =>
    intro c s vs us _ d d'
    obtain ⟨u0, u1, rfl, d0, d1⟩ := d.inv2
    have := d'.inv0; subst this
    exact ⟨_, BindsTo.of_eq rfl, .cons d0 (.cons d1 (.nil))⟩
  case hloc => rfl
  case hcell => decide
  case hco => rfl
  case hgen => rfl
  case hk => rfl
  case h =>
    intro i hi QI hQI
    have hji : jl ≠ i := fun z => by rw [z, hi] at hl; cases hl
    have nin : ∀ q, (hq : q < ord.length) → ord[q] ∉ ord.take q := fun q hq h1 => by
      obtain ⟨r, hr, e⟩ := List.getElem_of_mem h1
      rw [List.length_take] at hr
      rw [List.getElem_take] at e
      have := (List.getElem_inj hon).mp e
      lia
    iterate 3 walk_at "mj"
    refine al_nm (22, 0) (by simp) ctl_g22 ?_
    rw [ctl_22]
    iterate 1 walk_at "mj"
    refine f_set O ctl_is.ob (ksC _ _ (by decide)) (by decide) ?_
    rw [ctl_21]
    iterate 4 walk_at "mj"
    refine al_nm (23, 0) (by simp) ctl_g23 ?_
    rw [ctl_23]
    iterate 1 walk_at "mj"
    refine f_set O ctl_is.ob (ksC _ _ (by decide)) (by decide) ?_
    rw [ctl_21]
    iterate 5 walk_at "mj"
    refine ⟨by simp, al_nm (24, 0) (by simp) ctl_g24 ?_⟩
    rw [ctl_24]
    iterate 1 walk_at "mj"
    refine f_set O ctl_is.ob (ksC _ _ (by decide)) (by decide) ?_
    rw [ctl_21]
    iterate 5 walk_at "mj"
    refine f_set O ctl_is.ob (ksC _ _ (by decide)) (by decide) ?_
    rw [ctl_21]
    iterate 2 walk_at "mj"
    refine X_for (fun vs q H' => vs = (ord.map fun k => PV.loc (1, k)) ∧ ∃ f, H' = Fm (hp (w.ctl (ctlAt .none) (some (.dict (taskD (ord.take q)))) (some (.dict [])) (some (.list (sL nm (ord.take q)))))) H i (ovr (fun y => List.lookup y [(Str.ofString "self", PV.loc (20, 0)), (Str.ofString "task_list", PV.loc (tmp jl))].reverse) [Str.ofString "task"] f)) ?_
    iterate 1 walk_at "mj"
    refine ⟨.list (tmp jl), _, ⟨rfl, Fm_gett hji hl⟩, ⟨rfl, _, by rw [ovr_self]; rfl⟩, ?_, ?_, ?_⟩
    · rintro q H' ⟨-, f, rfl⟩
      exact ⟨Fm_gett hji hl, _, _, Fm_gett hji hl⟩
    · rintro q v H' hv ⟨-, f, rfl⟩
      have hq : q < ord.length := by have := (List.getElem?_eq_some_iff.mp hv).1; simpa using this
      have ev : v = .loc (1, ord[q]) := by simp only [List.getElem?_map, List.getElem?_eq_getElem hq] at hv; exact (Option.some.inj hv).symm
      subst ev
      have hm := List.getElem_mem hq
      have hk21 := (ho _ hm).1
      have htk : ∀ A t g o, (w.ctl A t g o).tk ord[q] = some (ts ord[q]) := fun _ _ _ _ => (ho _ hm).2
      have hlt : ∀ j ∈ ord.take q, j < 21 := fun j hj => (ho _ (List.mem_of_mem_take hj)).1
      have hget : dget (taskD (ord.take q)) (nm ord[q]) = none := by rw [dget_mD nm_inj0 hlt hk21, if_neg (nin q hq)]
      refine f_st ?_
      rw [ovr_st (by decide)]
      iterate 14 walk_at "mj"
      refine c_isi_inst O (ob_t (htk _ _ _ _)).e (ob_t (htk _ _ _ _)).f ?_
      iterate 0 walk_at "mj"
      refine t_bool ?_
      refine ⟨fun h => (nomatch (show false = true from h)), fun _ => ?_⟩
      iterate 7 walk_at "mj"
      refine f_get O (ob_t (htk _ _ _ _)) rfl (kaT _ _ (by decide)) ?_
      iterate 2 walk_at "mj"
      refine f_get O ctl_is.ob rfl (kaC _ _ (by decide)) ?_
      refine op_in_dict O (kvs := taskD (ord.take q)) (Fm_get (by first | exact nz rfl | simp) ctl_g22) ?_
      rw [hget]
      refine ⟨false, rfl, fun h => (nomatch h), fun _ => ?_⟩
      iterate 7 walk_at "mj"
      refine f_get O ctl_is.ob rfl (kaC _ _ (by decide)) ?_
      iterate 2 walk_at "mj"
      refine f_get O (ob_t (htk _ _ _ _)) rfl (kaT _ _ (by decide)) ?_
      refine op_setitem O (kvs := taskD (ord.take q)) (Fm_get (by first | exact nz rfl | simp) ctl_g22) (by simp [mD]; lia) ?_
      rw [Fm_mod (by simp), ctl_22, dput_mD (g := fun j => PV.loc (1, j)) nm_inj0 hlt hk21 (nin q hq)]
      iterate 6 walk_at "mj"
      refine f_get O ctl_is.ob rfl (kaC _ _ (by decide)) ?_
      refine m_list (vs := sL nm (ord.take q)) (Fm_get (by first | exact nz rfl | simp) ctl_g24) F.slot_list_append ty_list_append ?_
      iterate 4 walk_at "mj"
      refine f_get O (ob_t (htk _ _ _ _)) rfl (kaT _ _ (by decide)) ?_
      iterate 1 walk_at "mj"
      refine c_append (vs := sL nm (ord.take q)) (Fm_get (by first | exact nz rfl | simp) ctl_g24) (by simp [sL]; lia) ?_
      rw [Fm_mod (by simp), ctl_24]
      rw [show sL nm (ord.take q) ++ [PV.str (nm ord[q])] = sL nm (ord.take (q + 1)) by rw [List.take_succ_eq_append_getElem hq]; simp only [sL, List.map_append, List.map_cons, List.map_nil], ← List.take_succ_eq_append_getElem hq]
      iterate 3 walk_at "mj"
      exact ⟨rfl, _, rfl⟩
    · rintro H' ⟨-, f, rfl⟩
      rw [show (ord.map fun k => PV.loc (1, k)).length = ord.length by simp, List.take_length]
      obtain ⟨w1, e1⟩ : ∃ w1, w1 = w.ctl (ctlAt .none) (some (.dict (taskD ord))) (some (.dict [])) (some (.list (sL nm ord))) := ⟨_, rfl⟩
      have hc1 : CtlOb w1 (ctlAt .none) := by rw [e1]; exact ctl_is
      have h22 : w1.ct 22 = some (.dict (taskD ord)) := by rw [e1]; rfl
      have h23 : w1.ct 23 = some (.dict []) := by rw [e1]; rfl
      have hd1 : w1.dd = none := by rw [e1]; exact hd
      have ho1 : ∀ k ∈ ord, k < 21 ∧ w1.tk k = some (ts k) := by rw [e1]; exact ho
      have efin : (w1.cs 23 (.dict (tgtD ord))).imps ord = (w.imps ord).ctl (ctlAt .none) (some (.dict (taskD ord))) (some (.dict (tgtD ord))) (some (.list (sL nm ord))) := by rw [e1, ctl_c23, ctl_imps]
      rw [← e1]
      obtain ⟨m1, em1⟩ : ∃ m1, m1 = ovr (fun y => List.lookup y [(Str.ofString "self", PV.loc (20, 0)), (Str.ofString "task_list", PV.loc (tmp jl))].reverse) [Str.ofString "task"] f := ⟨_, rfl⟩
      have hs1 : m1 (Str.ofString "self") = some (.loc (20, 0)) := by rw [em1]; rfl
      have hl1 : m1 (Str.ofString "task_list") = some (.loc (tmp jl)) := by rw [em1]; rfl
      rw [← em1]
      have h22' : hp w1 (22, 0) = some (.dict (taskD ord)) := (hp_c (by decide) (by decide)).trans h22
      iterate 2 walk_at "mj"
      refine X_forI (E_walk (22, 0) ?_)
      iterate 2 walk_at "mj"
      refine f_loc hs1 ?_
      refine f_get O hc1.ob rfl (kaC _ _ (by decide)) ?_
      refine m_dict (vs := taskD ord) (Fm_get (by first | exact nz rfl | simp) h22') F.slot_dict_values ty_dict_values ?_
      iterate 1 walk_at "mj"
      refine c_values O (kvs := taskD ord) (Fm_get (by first | exact nz rfl | simp) h22') (al_tmp fun jv T1 hjv hjvn hT1 hA1 hE1 => ?_)
      refine ⟨taskD ord, Fm_get (by simp) h22', fun ep => ?_⟩
      rw [Fm_mod (by simp), upd_c (by decide) (by decide)]
      have hfd : hp (w1.cs 22 (.fdict (taskD ord) ep)) (22, 0) = some (.fdict (taskD ord) ep) := (hp_c (by decide) (by decide)).trans cs_self
      refine ⟨.vals (22, 0) ep, ord.map fun j => PV.loc (1, j), fun q H' => ∃ f, H' = Fm (hp (w1.cs 22 (.fdict (taskD ord) ep))) T1 i (ovr m1 [Str.ofString "task"] f), ⟨tmp jv, taskD ord, rfl, Fm_gett hjv hT1, Fm_get (by simp) hfd, ?_⟩, ⟨_, by rw [ovr_self] <;> rfl⟩, ?_, ?_, ?_⟩
      · simp [mD]
      · rintro q H' ⟨f, rfl⟩
        exact ⟨⟨taskD ord, Fm_get (by simp) hfd, by simp [mD]⟩, _, _, Fm_get (by simp) hfd⟩
      · rintro q v H' hv ⟨f', rfl⟩
        have hq : q < ord.length := by have := (List.getElem?_eq_some_iff.mp hv).1; simpa using this
        have ev : v = .loc (1, ord[q]) := by simp only [List.getElem?_map, List.getElem?_eq_getElem hq] at hv; exact (Option.some.inj hv).symm
        subst ev
        have hm := List.getElem_mem hq
        have htk : ∀ b sp, (w1.cs b sp).tk ord[q] = some (ts ord[q]) := fun _ _ => (ho1 _ hm).2
        have h7 : ∀ b sp, hp (w1.cs b sp) (7, ord[q]) = some (.list []) := fun b sp => (hp_t (htk b sp) (by decide)).trans rfl
        refine f_st ?_
        rw [ovr_st (by decide)]
        iterate 2 walk_at "mj"
        refine X_for (fun vs r H' => vs = [] ∧ H' = Fm (hp (w1.cs 22 (.fdict (taskD ord) ep))) T1 i (ovr m1 [Str.ofString "task"] (sto f' (Str.ofString "task") (.loc (1, ord[q]))))) ?_
        iterate 2 walk_at "mj"
        refine f_get O (ob_t (htk _ _)) rfl (kaT _ _ (by decide)) ?_
        refine ⟨.list (7, ord[q]), _, ⟨rfl, Fm_get (by simp) (h7 _ _)⟩, ⟨rfl, rfl⟩, ?_, ?_, ?_⟩
        · rintro r H' ⟨-, rfl⟩
          exact ⟨Fm_get (by simp) (h7 _ _), _, _, Fm_get (by simp) (h7 _ _)⟩
        · rintro r v H' hv
          cases hv
        · rintro H' ⟨-, rfl⟩
          iterate 3 walk_at "mj"
          exact ⟨_, rfl⟩
      · rintro H' ⟨f', rfl⟩
        refine ⟨fun _ => ?_, fun h => absurd rfl h⟩
        refine S_walked (l := (22, 0)) (Fm_get (by first | exact nz rfl | simp) hfd) ?_
        rw [Fm_mod (by simp), upd_c (by decide) (by decide), cs_cs, cs_same h22]
        iterate 3 walk_at "mj"
        refine f_loc (m := ovr m1 [Str.ofString "task"] f') hs1 ?_
        refine f_methK O hc1.ob rfl (kmC_check_dep_names _) ?_
        iterate 1 walk_at "mj"
        refine use_fn (c_check (ts := ts) O hc1 rfl h22 ho1 htd hoz fun l hl => Fm_nm hl) ?_
        rintro p N' ⟨rfl, rfl⟩
        iterate 4 walk_at "mj"
        refine f_loc (m := ovr m1 [Str.ofString "task"] f') hs1 ?_
        refine set_implicit_obj O hc1.ob rfl ?_
        iterate 3 walk_at "mj"
        refine f_loc (m := ovr m1 [Str.ofString "task"] f') hs1 ?_
        refine f_get O hc1.ob rfl (kaC _ _ (by decide)) ?_
        iterate 1 walk_at "mj"
        refine f_loc (m := ovr m1 [Str.ofString "task"] f') hl1 ?_
        iterate 1 walk_at "mj"
        refine use_fn (c_set_implicit (jl := jl) (ord := ord) (ts := ts) O hd1 ho1 hon hoz h23 hft hdis hfn (fun k hk j hj => (ho _ (htd k hk j hj)).1) hz1 hz2 (Fm_gett hji (hA1 _ _ hl)) fun l hl => Fm_nm hl) ?_
        rintro p N' ⟨rfl, rfl⟩
        rw [efin]
        iterate 3 walk_at "mj"
        exact ⟨_, _, _, rfl, fun j sp e => hA1 _ _ e, rfl, rfl⟩
/-- TaskControl(task_list), called in a body -/
theorem new_ctl (O : (Cx px).Ok) {jl : Nat} {ord : List Nat} {ts : Nat → TS} {T : Hp} {i : Nat} {m : Str → Option PV} {Q : PV → Hp → Prop} (hd : w.dd = none) (hct : ∀ b, w.ct b = none) (ho : ∀ k ∈ ord, k < 21 ∧ w.tk k = some (ts k)) (hon : ord.Nodup) (hoz : ord.length ≤ 100)
    (hft : ∀ k ∈ ord, ∀ j ∈ (ts k).fd, j ∈ ord) (hdis : ∀ k ∈ ord, ∀ j ∈ (ts k).fd, j ∉ (ts k).td) (hfn : ∀ k ∈ ord, (ts k).fd.Nodup) (htd : ∀ k ∈ ord, ∀ j ∈ (ts k).td, j ∈ ord)
    (hz1 : ∀ k ∈ ord, (ts k).td.length ≤ 100) (hz2 : ∀ k ∈ ord, (ts k).fd.length ≤ 100) (hji : jl ≠ i) (hl : T (tmp jl) = some (.list (ord.map fun k => PV.loc (1, k))))
    (h : Q (.loc (20, 0)) (Fm (hp ((w.imps ord).ctl (ctlAt .none) (some (.dict (taskD ord))) (some (.dict (tgtD ord))) (some (.list (sL nm ord))))) T i m)) : JCall (Cx px) (n + 4) X (.ref 368) [.loc (tmp jl)] [] [] Q (Fm (hp w) T i m) := by
  have e : upd (upd (Fm (hp w) T i m) (21, 0) (.attrs ctlNames fun _ => none)) (20, 0) (.inst aCtl (21, 0)) = Fm (hp (w.ctl (fun _ => none) none none none)) T i m := by
    rw [Fm_mod (by simp), Fm_mod (by simp), ctl_new hct]
  refine (call_cls (C := (Cx px)) (n := n + 3) O (cl := 368) (fI := 303) (20, 0) (21, 0) ctlNames (mkC _) (kmC_init _).2.1 (kmC_init _).2.2 (by simp) (by simp) (by simp) ((Fm_nm (by first | exact nz rfl | simp)).trans ((hp_c (by decide) (by decide)).trans (hct _))) ((Fm_nm (by first | exact nz rfl | simp)).trans ((hp_c (by decide) (by decide)).trans (hct _))) (by decide) ?_).call
  rw [e]
  refine (c_ctl_init (n := n) (X := X) (jl := jl) (ord := ord) (ts := ts) O hd ho hon hoz hft hdis hfn htd hz1 hz2 (Fm_gett hji hl) fun l hl => Fm_nm hl).mono fun p H' ⟨N', e1, e2, e3⟩ => ?_
  subst e1 e3
  rw [ov_Fm]
  exact ⟨e2, h⟩
end
-- M51
section
variable {px : Px}
variable {n : Nat} {X : XT} {w : Wd} {σ : Sg} {H : Hp}

theorem ctlAt_sel {s p : PV} : ((sto (ctlAt s) (Str.ofString "selected_tasks") p)) = ctlAt p := by
  unfold sto
  funext y
  by_cases h : y = Str.ofString "selected_tasks"
  · rw [if_pos h, h]; rfl
  · rw [if_neg h]; simp only [ctlAt, at_, if_neg h]
theorem c_process (O : (Cx px).Ok) {t g o : Option Spec} (hN : ∀ l : Loc, l.1 ≠ 0 → H l = hp (w.ctl (ctlAt .none) t g o) l) :
    JCode (Cx px) (n + 1) X (.ref 358) [.loc (20, 0), .none] [] [] (fun p H' => ∃ N', H' = ov N' H ∧ (p = .none ∧ N' = hp (w.ctl (ctlAt (.loc (24, 0))) t g o))) H := by
  refine' con_fn O [(Str.ofString "self", PV.loc (20, 0)), (Str.ofString "task_selection", PV.none)] ?ho ?hcd ?hbind ?hloc hN ?h ?hcell ?hco ?hgen ?hk
  case ho => refine' look_fn ?g; case g => show List.lookup _ (Mine.KH _) = _; k_is
  case hcd => show codeIn (Mine.KH _) _ _ = true; k_is
  case hbind =>
    intro c s vs us _ d d'
    obtain ⟨u0, u1, rfl, d0, d1⟩ := d.inv2
    have := d'.inv0; subst this
    exact ⟨_, BindsTo.of_eq rfl, .cons d0 (.cons d1 (.nil))⟩
  case hloc => rfl
  case hcell => decide
  case hco => rfl
  case hgen => rfl
  case hk => rfl
  case h =>
    intro i hi QI hQI
    iterate 5 walk_at "mj"
    refine op_isnot ?_
    refine ⟨false, rfl, fun h => (nomatch h), fun _ => ?_⟩
    iterate 4 walk_at "mj"
    refine f_get O ctl_is.ob rfl (kaC _ _ (by decide)) ?_
    iterate 1 walk_at "mj"
    refine f_set O ctl_is.ob (ksC _ _ (by decide)) (by decide) ?_
    rw [ctl_21, ctlAt_sel]
    iterate 5 walk_at "mj"
    exact ⟨_, _, _, rfl, fun _ _ e => e, rfl, rfl⟩
noncomputable def sg0 (tr : List Nat) : Sg := ⟨fun _ => none, [], [], [], tr, none⟩
theorem upd_dnew {σ : Sg} (hn : ∀ k, σ.nd k = none) : ∀ {U : List (Nat × Spec)}, w.dd = none → (∀ b, ¬ b < 30 → b < 40 → hpD σ b = U.lookup b) → (∀ x ∈ U, ¬ x.1 < 30 ∧ x.1 < 40) → U.foldr (fun x H => upd H (x.1, 0) x.2) (hp w) = hp (w.sg σ) := by
  intro U h hU hlt
  have gen : ∀ (U : List (Nat × Spec)), (∀ x ∈ U, ¬ x.1 < 30 ∧ x.1 < 40) → ∀ l : Loc, U.foldr (fun x H => upd H (x.1, 0) x.2) (hp w) l = if l.2 = 0 ∧ ¬ l.1 < 30 ∧ l.1 < 40 then (match U.lookup l.1 with | some s => some s | none => hp w l) else hp w l := by
    intro U
    induction U with
    | nil => intro _ l; simp
    | cons x U ih =>
      intro hx l
      obtain ⟨a, s⟩ := x
      rw [List.foldr_cons]
      by_cases e : l = (a, 0)
      · have h1 := hx (a, s) (.head _)
        have h1a : ¬ a < 30 := h1.1
        have h1b : a < 40 := h1.2
        rw [e, upd_self, if_pos ⟨rfl, h1a, h1b⟩]
        simp [List.lookup_cons]
      · rw [upd_ne _ _ e, ih (fun y hy => hx y (.tail _ hy))]
        by_cases h2 : l.2 = 0 ∧ ¬ l.1 < 30 ∧ l.1 < 40
        · rw [if_pos h2, if_pos h2]
          have : (l.1 == a) = false := beq_eq_false_iff_ne.mpr fun q => e (Prod.ext q h2.1)
          rw [List.lookup_cons, this]
        · rw [if_neg h2, if_neg h2]
  funext l
  rw [gen U hlt l]
  obtain ⟨b, j⟩ := l
  unfold hp
  by_cases h20 : b < 20
  · rw [if_neg (by rintro ⟨-, q, -⟩; exact q (by lia))]
    simp only [h20, if_true]; rfl
  · by_cases h30 : b < 30
    · rw [if_neg (by rintro ⟨-, q, -⟩; exact q h30)]
      simp only [h20, h30, if_true, if_false]; rfl
    · by_cases h40 : b < 40
      · by_cases hj : j = 0
        · rw [if_pos ⟨hj, h30, h40⟩]
          simp only [h20, h30, h40, hj, if_true, if_false, h, Wd.sg]
          rw [hU b h30 h40]
          cases U.lookup b <;> rfl
        · rw [if_neg (fun q => hj q.1)]
          simp only [h20, h30, h40, hj, if_true, if_false, h, Wd.sg]
      · rw [if_neg (fun q => h40 q.2.2)]
        simp only [h20, h30, h40, if_false, h, Wd.sg, hn]
theorem dis_new_ok {tr : List Nat} : ∀ b, ¬ b < 30 → b < 40 → hpD (sg0 tr) b = List.lookup b [(31, Spec.attrs disNames (disAt (sg0 tr))), (35, .list (sL nm tr)), (34, .list []), (33, .dict []), (32, .dict []), (30, .inst aDis (31, 0))] := by
  intro b h1 h2
  revert h1
  revert h2
  revert b
  iterate 10 refine lt_step ?_ fun _ => rfl
  exact fun b h h' => absurd h h'
theorem c_dis_init (O : (Cx px).Ok) {ord : List Nat} (hd : w.dd = none) (h24 : w.ct 24 = some (.list (sL nm ord))) (hz : ord.length ≤ 100) (hN : ∀ l : Loc, l.1 ≠ 0 → H l = upd (upd (hp w) (31, 0) (.attrs disNames fun _ => none)) (30, 0) (.inst aDis (31, 0)) l) :
    JCode (Cx px) (n + 1) X (.ref 414) [.loc (30, 0), .loc (22, 0), .loc (23, 0), .loc (24, 0)] [] [] (fun p H' => ∃ N', H' = ov N' H ∧ (p = .none ∧ N' = hp (w.sg (sg0 ord.reverse)))) H := by
  rw [upd_comm (by simp)] at hN
  refine' con_fn O [(Str.ofString "self", PV.loc (30, 0)), (Str.ofString "tasks", PV.loc (22, 0)), (Str.ofString "targets", PV.loc (23, 0)), (Str.ofString "selected_tasks", PV.loc (24, 0))] ?ho ?hcd ?hbind ?hloc hN ?h ?hcell ?hco ?hgen ?hk
  case ho => refine' look_fn ?g; case g => show List.lookup _ (Mine.KH _) = _; k_is
  case hcd => show codeIn (Mine.KH _) _ _ = true; k_is
  case hbind =>
    intro c s vs us _ d d'
    obtain ⟨u0, u1, u2, u3, rfl, d0, d1, d2, d3⟩ := d.inv4
    have := d'.inv0; subst this
    exact ⟨_, BindsTo.of_eq rfl, .cons d0 (.cons d1 (.cons d2 (.cons d3 (.nil))))⟩
  case hloc => rfl
  case hcell => decide
  case hco => rfl
  case hgen => rfl
  case hk => rfl
  case h =>
    intro i hi QI hQI
    have nn : ∀ a, ¬ a < 30 → a < 40 → hp w (a, 0) = none := fun a h1 h2 => by unfold hp; simp only [show ¬ a < 20 by lia, h1, h2, if_true, if_false, hd]
    have h1 : upd (hp w) (30, 0) (.inst aDis (31, 0)) (30, 0) = some (.inst aDis (31, 0)) := upd_self ..
    obtain ⟨N1, eN1⟩ : ∃ N1, N1 = upd (hp w) (30, 0) (.inst aDis (31, 0)) := ⟨_, rfl⟩
    rw [← eN1] at h1
    have nN : ∀ a, ¬ a < 30 → a < 40 → a ≠ 30 → N1 (a, 0) = none := fun a h2 h3 h => by rw [eN1, upd_ne _ _ (by simp [h]), nn a h2 h3]
    have n24 : N1 (24, 0) = some (.list (sL nm ord)) := by rw [eN1, upd_ne _ _ (by first | exact nef rfl | simp)]; exact (hp_c (by decide) (by decide)).trans h24
    show JS _ _ _ _ _ _ (Fm (upd (upd (hp w) (30, 0) (.inst aDis (31, 0))) (31, 0) (.attrs disNames fun _ => none)) H i _)
    rw [← eN1]
    iterate 4 walk_at "mj"
    refine b_set O (by first | exact h1 | exact h1 _ (by decide) | exact h1 _ (by decide) (by decide) | simp [upd, h1]) (ksD _ _ (by decide)) (by decide) ?_
    iterate 5 walk_at "mj"
    refine b_set O (by first | exact h1 | exact h1 _ (by decide) | exact h1 _ (by decide) (by decide) | simp [upd, h1]) (ksD _ _ (by decide)) (by decide) ?_
    iterate 5 walk_at "mj"
    refine b_set O (by first | exact h1 | exact h1 _ (by decide) | exact h1 _ (by decide) (by decide) | simp [upd, h1]) (ksD _ _ (by decide)) (by decide) ?_
    iterate 4 walk_at "mj"
    refine b_nm (32, 0) ?_ (by first | exact nN | exact nN _ (by decide) | exact nN _ (by decide) (by decide) | simp [upd, nN])
    iterate 1 walk_at "mj"
    refine b_set O (by first | exact h1 | exact h1 _ (by decide) | exact h1 _ (by decide) (by decide) | simp [upd, h1]) (ksD _ _ (by decide)) (by decide) ?_
    iterate 4 walk_at "mj"
    refine b_nm (33, 0) ?_ (by first | exact nN | exact nN _ (by decide) | exact nN _ (by decide) (by decide) | simp [upd, nN])
    iterate 1 walk_at "mj"
    refine b_set O (by first | exact h1 | exact h1 _ (by decide) | exact h1 _ (by decide) (by decide) | simp [upd, h1]) (ksD _ _ (by decide)) (by decide) ?_
    iterate 5 walk_at "mj"
    refine ⟨by first | exact Nat.zero_le _ | simp, ?_⟩
    refine b_nm (34, 0) ?_ (by first | exact nN | exact nN _ (by decide) | exact nN _ (by decide) (by decide) | simp [upd, nN])
    iterate 1 walk_at "mj"
    refine b_set O (by first | exact h1 | exact h1 _ (by decide) | exact h1 _ (by decide) (by decide) | simp [upd, h1]) (ksD _ _ (by decide)) (by decide) ?_
    iterate 3 walk_at "mj"
    refine E_list_rev O (g_list _) (g_reversed _) ?_
    iterate 1 walk_at "mj"
    refine ⟨(24, 0), sL nm ord, rfl, b_at (by first | exact n24 | exact n24 _ (by decide) | exact n24 _ (by decide) (by decide) | simp [upd, n24]), by simp [sL]; lia, ?_⟩
    refine b_nm (35, 0) ?_ (by first | exact nN | exact nN _ (by decide) | exact nN _ (by decide) (by decide) | simp [upd, nN])
    rw [show (sL nm ord).reverse = sL nm ord.reverse by simp [sL]]
    iterate 1 walk_at "mj"
    refine b_set O (by first | exact h1 | exact h1 _ (by decide) | exact h1 _ (by decide) (by decide) | simp [upd, h1]) (ksD _ _ (by decide)) (by decide) ?_
    iterate 5 walk_at "mj"
    refine b_set O (by first | exact h1 | exact h1 _ (by decide) | exact h1 _ (by decide) (by decide) | simp [upd, h1]) (ksD _ _ (by decide)) (by decide) ?_
    iterate 3 walk_at "mj"
    refine ⟨_, _, _, rfl, fun j sp e => e, rfl, ?_⟩
    rw [eN1]
    exact upd_dnew (σ := sg0 ord.reverse) (fun _ => rfl) (U := [(31, Spec.attrs disNames (disAt (sg0 ord.reverse))), (35, .list (sL nm ord.reverse)), (34, .list []), (33, .dict []), (32, .dict []), (30, .inst aDis (31, 0))]) hd dis_new_ok (by intro x hx; simp only [List.mem_cons, List.not_mem_nil, or_false] at hx; rcases hx with rfl | rfl | rfl | rfl | rfl | rfl <;> simp)
theorem c_task_dispatcher (O : (Cx px).Ok) {t g : Option Spec} {ord : List Nat} (hd : w.dd = none) (hz : ord.length ≤ 100) (hN : ∀ l : Loc, l.1 ≠ 0 → H l = hp (w.ctl (ctlAt (.loc (24, 0))) t g (some (.list (sL nm ord)))) l) :
    JCode (Cx px) (n + 3) X (.ref 365) [.loc (20, 0)] [] [] (fun p H' => ∃ N', H' = ov N' H ∧ (p = .loc (30, 0) ∧ N' = hp ((w.ctl (ctlAt (.loc (24, 0))) t g (some (.list (sL nm ord)))).sg (sg0 ord.reverse)))) H := by
  refine' con_fn O [(Str.ofString "self", PV.loc (20, 0))] ?ho ?hcd ?hbind ?hloc hN ?h ?hcell ?hco ?hgen ?hk
  case ho => refine' look_fn ?g; case g => show List.lookup _ (Mine.KH _) = _; k_is
  case hcd => show codeIn (Mine.KH _) _ _ = true; k_is
  case hbind =>
    intro c s vs us _ d d'
    obtain ⟨u0, rfl, d0⟩ := d.inv1
    have := d'.inv0; subst this
    exact ⟨_, BindsTo.of_eq rfl, .cons d0 (.nil)⟩
  case hloc => rfl
  case hcell => decide
  case hco => rfl
  case hgen => rfl
  case hk => rfl
  case h =>
    intro i hi QI hQI
    iterate 5 walk_at "mj"
    refine f_get O ctl_is.ob rfl (kaC _ _ (by decide)) ?_
    iterate 1 walk_at "mj"
    refine op_isnot ?_
    refine ⟨true, rfl, rfl, ?_⟩
    iterate 10 walk_at "mj"
    refine f_get O ctl_is.ob rfl (kaC _ _ (by decide)) ?_
    iterate 3 walk_at "mj"
    refine f_get O ctl_is.ob rfl (kaC _ _ (by decide)) ?_
    iterate 3 walk_at "mj"
    refine f_get O ctl_is.ob rfl (kaC _ _ (by decide)) ?_
    iterate 1 walk_at "mj"
    obtain ⟨w1, e1⟩ : ∃ w1, w1 = w.ctl (ctlAt (.loc (24, 0))) t g (some (.list (sL nm ord))) := ⟨_, rfl⟩
    have hd1 : w1.dd = none := by rw [e1]; exact hd
    have h24 : w1.ct 24 = some (.list (sL nm ord)) := by rw [e1]; rfl
    rw [← e1]
    have nn : ∀ a, ¬ a < 30 → a < 40 → hp w1 (a, 0) = none := fun a h1 h2 => by unfold hp; simp only [show ¬ a < 20 by lia, h1, h2, if_true, if_false, hd1]
    refine (call_cls (C := (Cx px)) (n := n + 1) O (cl := 474) (fI := 414) (30, 0) (31, 0) disNames (mkD _) (kmD_init _).2.1 (kmD_init _).2.2 (by simp) (by simp) (by simp) ((Fm_nm (by first | exact nz rfl | simp)).trans (nn _ (by decide) (by decide))) ((Fm_nm (by first | exact nz rfl | simp)).trans (nn _ (by decide) (by decide))) (by decide) ?_).call
    rw [Fm_mod (by simp), Fm_mod (by simp)]
    refine (c_dis_init (n := n) (ord := ord) O hd1 h24 hz fun l hl => Fm_nm hl).mono fun p H' ⟨N', e2, e3, e4⟩ => ?_
    subst e2 e4
    rw [ov_Fm]
    refine ⟨e3, ?_⟩
    iterate 2 walk_at "mj"
    exact ⟨_, _, _, rfl, fun _ _ e => e, rfl, by rw [e1]⟩
end
-- M52
/-! the rounds: what holds between the steps of the law -/
structure RI (nt : Nat) (dp : Nat → List Nat) (σ : Sg) (D Hd : List Nat) (over : Bool) : Prop where
  li : LI nt dp none noPd σ
  nodup : (D ++ Hd).Nodup
  lt : ∀ x ∈ D ++ Hd, x < nt
  ok : ∀ x, okn σ x = true ↔ x ∈ D
  ph : ∀ x, phn σ x = true ↔ x ∈ D ∨ x ∈ Hd
  dep : ∀ x ∈ Hd, ∀ y ∈ dp x, y ∈ D
  ov : over = true → ∀ x, x < nt → x ∈ D ∨ x ∈ Hd
/-- no task is free -/
noncomputable def Stuck (nt : Nat) (dp : Nat → List Nat) (D Hd : List Nat) : Prop := ∀ j, j < nt → j ∉ D → j ∉ Hd → ∃ x ∈ dp j, x ∉ D
section
variable {nt : Nat} {dp : Nat → List Nat} {σ σ' : Sg} {D Hd : List Nat} {over : Bool}
theorem bool_iff_false {b : Bool} {p : Prop} (h : b = true ↔ p) (hp : ¬ p) : b = false := by
  cases b with
  | false => rfl
  | true => exact absurd (h.mp rfl) hp
theorem RI.got {k : Nat} (R : RI nt dp σ D Hd over) (g : GotOk nt dp σ k σ') : over = false ∧ RI nt dp σ' D (Hd ++ [k]) false := by
  obtain ⟨I, hc, hk, hp, ho, hph, hd⟩ := g
  have hkn : ¬ (k ∈ D ∨ k ∈ Hd) := fun q => by have := (R.ph k).mpr q; rw [hp] at this; cases this
  refine ⟨?_, I, ?_, fun x hx => ?_, fun x => by rw [ho]; exact R.ok x, fun x => ?_, fun x hx => ?_, fun q => nomatch q⟩
  · cases hov : over with
    | false => rfl
    | true => exact absurd (R.ov hov k hk) hkn
  · rw [← List.append_assoc, List.nodup_append]
    refine ⟨R.nodup, by simp, fun x hx y hy => ?_⟩
    rw [List.mem_singleton.mp hy]
    rintro rfl
    exact hkn (List.mem_append.mp hx)
  · rw [← List.append_assoc] at hx
    rcases List.mem_append.mp hx with hx | hx
    · exact R.lt x hx
    · rw [List.mem_singleton.mp hx]; exact hk
  · rw [hph, Bool.or_eq_true, R.ph, decide_eq_true_iff, List.mem_append, List.mem_singleton, or_assoc]
  · rcases List.mem_append.mp hx with hx | hx
    · exact R.dep x hx
    · rw [List.mem_singleton.mp hx]
      exact fun y hy => (R.ok y).mp (hd y hy)
theorem RI.none (R : RI nt dp σ D Hd over) (g : NoneOk nt dp σ σ') (ov' : Bool) (hov : ov' = true → ∀ x, x < nt → x ∈ D ∨ x ∈ Hd) : RI nt dp σ' D Hd ov' ∧ Stuck nt dp D Hd := by
  have g' := g
  obtain ⟨I, hc, hr, ht, ho, hph⟩ := g
  refine ⟨⟨I, R.nodup, R.lt, fun x => by rw [ho]; exact R.ok x, fun x => by rw [hph]; exact R.ph x, R.dep, hov⟩, fun j hj h1 h2 => ?_⟩
  obtain ⟨-, x, hx, hxo⟩ := g'.wait hj (bool_iff_false (R.ph j) fun q => q.elim h1 h2)
  exact ⟨x, hx, fun q => by have := (R.ok x).mpr q; rw [hxo] at this; cases this⟩
theorem RI.non (R : RI nt dp σ D Hd over) (g : NoneOk nt dp σ σ') (hw : σ'.wt = []) : RI nt dp σ' D Hd true ∧ Stuck nt dp D Hd := by
  refine R.none g true fun _ j hj => ?_
  cases hp : phn σ j with
  | true => exact (R.ph j).mp hp
  | false =>
    have := (g.wait hj hp).1
    rw [hw] at this; cases this
theorem RI.hold (hdlt : ∀ k, ∀ j ∈ dp k, j < k) (R : RI nt dp σ D Hd over) (g : NoneOk nt dp σ σ') (hw : σ'.wt ≠ []) : over = false ∧ RI nt dp σ' D Hd false ∧ Stuck nt dp D Hd ∧ Hd ≠ [] := by
  obtain ⟨j, hj⟩ : ∃ j, j ∈ σ'.wt := by
    cases h : σ'.wt with
    | nil => exact absurd h hw
    | cons x r => exact ⟨x, .head _⟩
  obtain ⟨d, hd, -, hph, -⟩ := g.1.wt j hj
  have hjn := g.1.lt j d hd
  have hjp : phn σ j = false := by rw [← g.2.2.2.2.2 j, phn_of hd, hph]
  have hjm : ¬ (j ∈ D ∨ j ∈ Hd) := fun q => by have := (R.ph j).mpr q; rw [hjp] at this; cases this
  obtain ⟨R', S⟩ := R.none g false fun q => nomatch q
  refine ⟨?_, R', S, fun he => ?_⟩
  · cases hov : over with
    | false => rfl
    | true => exact absurd (R.ov hov j hjn) hjm
  · subst he
    have key : ∀ b j, j < b → j < nt → j ∉ D → False := fun b => by
      induction b with
      | zero => intro j h; exact absurd h (Nat.not_lt_zero _)
      | succ b ih =>
        intro j h hn hD
        obtain ⟨x, hx, hxD⟩ := S j hn hD (fun q => nomatch q)
        have := hdlt j x hx
        exact ih x (by lia) (by lia) hxD
    exact key (j + 1) j (Nat.lt_succ_self j) hjn fun q => hjm (.inl q)
/-- a task in hand ends -/
theorem RI.ends {k : Nat} (R : RI nt dp σ D (k :: Hd) over) : ∃ d, σ.nd k = some d ∧ d.ph = true ∧ d.ok = false ∧ k < nt ∧ SW (σ.set k { d with ok := true }) ∧ (∀ j e, (σ.set k { d with ok := true }).nd j = some e → j < nt) ∧
    (∀ x ∈ d.wm, ∃ e, (σ.set k { d with ok := true }).nd x = some e ∧ k ∈ e.wr) ∧ RI nt dp (updW (σ.set k { d with ok := true }) k d.wm) (D ++ [k]) Hd over := by
  have hp : phn σ k = true := (R.ph k).mpr (.inr (.head _))
  have hkD : k ∉ D := fun q => by
    have := (List.nodup_append.mp R.nodup).2.2 k q k (.head _)
    exact this rfl
  obtain ⟨d, hd⟩ : ∃ d, σ.nd k = some d := by
    cases h : σ.nd k with
    | none => unfold phn at hp; rw [h] at hp; cases hp
    | some d => exact ⟨d, rfl⟩
  have hdp : d.ph = true := by rw [← phn_of hd]; exact hp
  have hdo : d.ok = false := by rw [← okn_of hd]; exact bool_iff_false (R.ok k) hkD
  obtain ⟨I1, hw⟩ := R.li.ends hd hdp hdo
  have wn : d.wm.Nodup := (R.li.sw.wm k d hd).2
  have ok1 : ∀ x, okn (σ.set k { d with ok := true }) x = (okn σ x || decide (x = k)) := fun x => by
    by_cases q : x = k
    · rw [q, okn_of Sg.set_self]; simp
    · unfold okn; rw [Sg.set_ne q]; simp [q]
  have ph1 : ∀ x, phn (σ.set k { d with ok := true }) x = phn σ x := fun x => by
    by_cases q : x = k
    · rw [q, phn_of Sg.set_self, phn_of hd]
    · unfold phn; rw [Sg.set_ne q]
  obtain ⟨I2, -, ho2, hp2⟩ := LI.upd (S := d.wm) wn I1 (by rw [ok1]; simp) hw
  have e0 : D ++ k :: Hd = (D ++ [k]) ++ Hd := by simp
  refine ⟨d, hd, hdp, hdo, R.li.lt k d hd, I1.sw, I1.lt, hw, I2, by rw [← e0]; exact R.nodup, by rw [← e0]; exact R.lt, fun x => ?_, fun x => ?_, fun x hx y hy => List.mem_append.mpr (.inl (R.dep x (.tail _ hx) y hy)), fun q x hx => ?_⟩
  · rw [ho2, ok1, Bool.or_eq_true, R.ok, decide_eq_true_iff, List.mem_append, List.mem_singleton]
  · rw [hp2, ph1, R.ph, List.mem_append, List.mem_singleton, List.mem_cons, or_assoc]
  · rcases R.ov q x hx with h | h
    · exact .inl (List.mem_append.mpr (.inl h))
    · rcases List.mem_cons.mp h with h | h
      · exact .inl (List.mem_append.mpr (.inr (List.mem_singleton.mpr h)))
      · exact .inr h
theorem RI.begin (hnt : nt ≤ 20) {tr : List Nat} (hn : tr.Nodup) (ht : ∀ j, j ∈ tr ↔ j < nt) : RI nt dp (sg0 tr) [] [] false := by
  have s : SW (sg0 tr) := ⟨fun k => ⟨fun h => (nomatch h), fun ⟨d, h⟩ => (nomatch h)⟩, fun k h => (nomatch h), List.nodup_nil, fun k h => (nomatch h), List.nodup_nil, fun k h => (nomatch h), List.nodup_nil, fun k h => (nomatch h), fun k h => by have := (ht k).mp h; lia, hn, fun k d h => (nomatch h), fun k d h => (nomatch h), fun k d h => (nomatch h)⟩
  refine ⟨⟨s, fun j d h => (nomatch h), fun j d h => (nomatch h), fun j d h => (nomatch h), fun j d h => (nomatch h), fun j d x h => (nomatch h), fun j d h => (nomatch h), fun j d h => (nomatch h), fun j h => (nomatch h), fun j h => (nomatch h), fun j d h => (nomatch h), fun j h => (ht j).mp h, fun j h => .inl ((ht j).mpr h), fun j h => (nomatch h)⟩, List.nodup_nil, fun x h => (nomatch h), fun x => ⟨fun h => (nomatch h), fun h => (nomatch h)⟩, fun x => ⟨fun h => (nomatch h), fun h => (nomatch h.elim id id)⟩, fun x h => (nomatch h), fun q => nomatch q⟩
theorem RI.has (R : RI nt dp σ D Hd over) {x : Nat} (hx : x ∈ Hd) : ∃ d, σ.nd x = some d := by
  have hp : phn σ x = true := (R.ph x).mpr (.inr hx)
  cases h : σ.nd x with
  | none => unfold phn at hp; rw [h] at hp; cases hp
  | some d => exact ⟨d, rfl⟩
theorem RI.out (R : RI nt dp σ D Hd over) {x : Nat} (hx : x ∈ Hd) : x ∉ D := fun q => (List.nodup_append.mp R.nodup).2.2 x q x hx rfl
theorem RI.cast {D' Hd' : List Nat} (R : RI nt dp σ D Hd over) (h1 : D = D') (h2 : Hd = Hd') : RI nt dp σ D' Hd' over := by subst h1 h2; exact R
theorem Stuck.of {nd : Nat → List Nat} (h : Stuck nt dp D Hd) (e : ∀ k, k < nt → ∀ j, j ∈ nd k ↔ j ∈ dp k) : Stuck nt nd D Hd := fun j h1 h2 h3 => by
  obtain ⟨x, hx, h4⟩ := h j h1 h2 h3
  exact ⟨x, (e j h1 x).mpr hx, h4⟩
theorem RI.dlen (R : RI nt dp σ D Hd over) : D.length + Hd.length ≤ nt := by
  rw [← List.length_append]
  exact len21 nt _ R.nodup R.lt

theorem count_one (h : (D ++ Hd).Nodup) (x : Nat) : ((iL Hd).countP fun q => q.eqv (.int (x : Int)) == some true) ≤ 1 := by
  have hn : Hd.Nodup := (List.nodup_append.mp h).2.1
  clear h
  unfold iL
  rw [List.countP_map]
  induction Hd with
  | nil => exact Nat.zero_le _
  | cons y r ih =>
    obtain ⟨h1, h2⟩ := List.nodup_cons.mp hn
    rw [List.countP_cons]
    by_cases e : y = x
    · subst e
      have : List.countP ((fun q => q.eqv (.int (y : Int)) == some true) ∘ fun x : Nat => PV.int (x : Int)) r = 0 := by
        rw [List.countP_eq_zero]
        intro z hz hq
        have hq : (z : Int) = y := by simpa [eqv_int, Function.comp] using hq
        exact h1 (by have : z = y := by lia
                     exact this ▸ hz)
      rw [this]; split <;> simp
    · have : ¬ (((fun q => q.eqv (.int (x : Int)) == some true) ∘ fun x : Nat => PV.int (x : Int)) y = true) := fun hq => by
        have hq : (y : Int) = x := by simpa [eqv_int, Function.comp] using hq
        lia
      rw [if_neg this]; exact ih h2
/-! the longest row of needs shortens by one -/
theorem maxL_pred' : ∀ (l : List Nat) (a : Nat), (l.map (· - 1)).foldl max (a - 1) = l.foldl max a - 1
  | [], a => rfl
  | x :: r, a => by
    rw [List.map_cons, List.foldl_cons, List.foldl_cons, ← maxL_pred' r (max a x), Nat.sub_max_sub_right]
theorem maxL_pred (l : List Nat) : maxL (l.map (· - 1)) = maxL l - 1 := maxL_pred' l 0
variable {nd : Nat → List Nat}
theorem highs_old {n j : Nat} (h : j < n) : (highs nd D (n + 1))[j]? = (highs nd D n)[j]? := by
  show (highs nd D n ++ _)[j]? = _
  rw [List.getElem?_append_left (by rw [highs_len]; exact h)]
theorem highs_new {n : Nat} : (highs nd D (n + 1))[n]? = some (if n ∈ D then 0 else 1 + maxL ((nd n).map fun j => (highs nd D n)[j]?.getD 0)) := by
  show (highs nd D n ++ _)[n]? = _
  rw [List.getElem?_append_right (by rw [highs_len]; exact Nat.le_refl _), highs_len, Nat.sub_self]; rfl
theorem highs_in {i : Nat} (hi : i ∈ D) : ∀ n, (highs nd D n)[i]?.getD 0 = 0
  | 0 => rfl
  | n + 1 => by
    by_cases h : i < n
    · rw [highs_old h]; exact highs_in hi n
    · by_cases h2 : i = n
      · subst h2; rw [highs_new, if_pos hi]; rfl
      · rw [List.getElem?_eq_none (by rw [highs_len]; lia)]; rfl
theorem highs_out {i : Nat} (hi : i ∉ D) : ∀ n, i < n → 1 ≤ (highs nd D n)[i]?.getD 0
  | 0, h => absurd h (Nat.not_lt_zero _)
  | n + 1, h => by
    by_cases h2 : i = n
    · subst h2; rw [highs_new, if_neg hi]; exact Nat.le_add_right _ _
    · rw [highs_old (by lia)]; exact highs_out hi n (by lia)
theorem highs_pred (hlt : ∀ k, k < nt → ∀ j ∈ nd k, j < k) (hdep : ∀ x ∈ Hd, ∀ y ∈ nd x, y ∈ D) (hs : Stuck nt nd D Hd) : ∀ n, n ≤ nt → ∀ j : Nat, (highs nd (D ++ Hd) n)[j]?.getD 0 = (highs nd D n)[j]?.getD 0 - 1
  | 0, _, j => rfl
  | n + 1, hn, j => by
    have ih := highs_pred hlt hdep hs n (by lia)
    by_cases h : j < n
    · rw [highs_old h, highs_old h]; exact ih j
    · by_cases h2 : j = n
      · subst h2
        rw [highs_new, highs_new]
        have em : ((nd j).map fun i => (highs nd (D ++ Hd) j)[i]?.getD 0) = ((nd j).map fun i => (highs nd D j)[i]?.getD 0).map (· - 1) := by
          rw [List.map_map]
          exact List.map_congr_left fun i _ => ih i
        rw [em, maxL_pred]
        by_cases hD : j ∈ D
        · rw [if_pos (List.mem_append.mpr (.inl hD)), if_pos hD]; rfl
        · rw [if_neg hD]
          by_cases hH : j ∈ Hd
          · rw [if_pos (List.mem_append.mpr (.inr hH))]
            have e0 : maxL ((nd j).map fun i => (highs nd D j)[i]?.getD 0) = 0 := by
              rcases maxL_mem (l := (nd j).map fun i => (highs nd D j)[i]?.getD 0) with q | q
              · exact q
              · obtain ⟨i, hi, e⟩ := List.mem_map.mp q
                rw [← e]; exact highs_in (hdep j hH i hi) j
            rw [e0]; rfl
          · rw [if_neg fun q => (List.mem_append.mp q).elim hD hH]
            obtain ⟨x, hx, hxD⟩ := hs j (by lia) hD hH
            have h1 := highs_out (nd := nd) hxD j (hlt j (by lia) x hx)
            have h2 : (highs nd D j)[x]?.getD 0 ≤ maxL ((nd j).map fun i => (highs nd D j)[i]?.getD 0) := maxL_ge (List.mem_map.mpr ⟨x, hx, rfl⟩)
            show 1 + (_ - 1) = 1 + _ - 1
            lia
      · rw [List.getElem?_eq_none (by rw [highs_len]; lia), List.getElem?_eq_none (by rw [highs_len]; lia)]; rfl
theorem longest_pred (hlt : ∀ k, k < nt → ∀ j ∈ nd k, j < k) (hdep : ∀ x ∈ Hd, ∀ y ∈ nd x, y ∈ D) (hs : Stuck nt nd D Hd) (hne : ∃ x ∈ Hd, x < nt ∧ x ∉ D) : (maxL (highs nd (D ++ Hd) nt) : Int) = (maxL (highs nd D nt) : Int) - 1 := by
  have e : highs nd (D ++ Hd) nt = (highs nd D nt).map (· - 1) := by
    refine List.ext_getElem? fun j => ?_
    have h := highs_pred hlt hdep hs nt (Nat.le_refl _) j
    rw [List.getElem?_map]
    by_cases hj : j < nt
    · rw [List.getElem?_eq_getElem (by rw [highs_len]; exact hj), List.getElem?_eq_getElem (by rw [highs_len]; exact hj)] at h ⊢
      exact congrArg some h
    · rw [List.getElem?_eq_none (by rw [highs_len]; lia), List.getElem?_eq_none (by rw [highs_len]; lia)]; rfl
  rw [e, maxL_pred]
  obtain ⟨x, hx, hxn, hxD⟩ := hne
  have h1 := highs_out (nd := nd) hxD nt hxn
  have h2 : (highs nd D nt)[x]?.getD 0 ≤ maxL (highs nd D nt) := by
    refine maxL_ge ?_
    rw [List.getElem?_eq_getElem (by rw [highs_len]; exact hxn)]
    exact List.getElem_mem _
  lia
/-- all has ended -/
theorem RI.all (R : RI nt dp σ D [] true) {ys : List Int} (h1 : ys.Perm (D.map fun x : Nat => (x : Int))) (h2 : ys.Pairwise (· ≤ ·)) : ys = (List.range nt).map fun x : Nat => (x : Int) := by
  have hn : D.Nodup := (List.nodup_append.mp R.nodup).1
  have hp : D.Perm (List.range nt) := by
    rw [List.perm_ext_iff_of_nodup hn List.nodup_range]
    intro x
    rw [List.mem_range]
    exact ⟨fun h => R.lt x (List.mem_append.mpr (.inl h)), fun h => (R.ov rfl x h).elim id fun q => nomatch q⟩
  refine (h1.trans (hp.map _)).eq_of_pairwise (fun a b _ _ h h' => Int.le_antisymm h h') h2 ?_
  rw [List.pairwise_map]
  exact List.pairwise_le_range.imp fun h => by lia
end
-- M53
section
variable {px : Px}
variable {n : Nat} {X : XT} {w : Wd} {σ : Sg} {H : Hp}

noncomputable def w0 : Wd := ⟨fun _ => none, fun _ => none, none⟩
theorem hp_w0 : hp w0 = fun _ => none := by
  funext l
  unfold hp w0
  dsimp only
  repeat' split
  all_goals rfl
/-- a temporary other than the frame's -/
noncomputable def At (T : Hp) (i j : Nat) (sp : Spec) : Prop := j ≠ i ∧ T (tmp j) = some sp
section
variable {N T T' : Hp} {i j k : Nat} {m : Str → Option PV} {sp sp' : Spec}
theorem At.get (h : At T i j sp) : Fm N T i m (tmp j) = some sp := Fm_gett h.1 h.2
theorem At.up (h : At T i j sp) (hA : ∀ k q, T k = some q → T' k = some q) : At T' i j sp := ⟨h.1, hA _ _ h.2⟩
theorem At.set (h : At T i j sp) (hne : k ≠ j) : At (upd T (tmp k) sp') i j sp := ⟨h.1, (upd_ne _ _ (tmp_ne (Ne.symm hne))).trans h.2⟩
theorem At.self (h : k ≠ i) : At (upd T (tmp k) sp) i k sp := ⟨h, upd_self ..⟩
theorem At.ne (h : At T i j sp) (h' : At T i k sp') (hs : sp ≠ sp') : k ≠ j := fun e => by
  subst e
  have := h.2.symm.trans h'.2
  exact hs (Option.some.inj this)
theorem At.nek (h : At T i j sp) (h' : At T i k sp') (hs : sp.kind ≠ sp'.kind) : k ≠ j := h.ne h' fun e => hs (by rw [e])
theorem At.new (h : At T i j sp) (h' : T (tmp k) = none) : k ≠ j := fun e => by
  subst e
  rw [h.2] at h'; cases h'
end
structure LS (T : Hp) (i : Nat) (p1 p2 p3 p4 p5 p6 p7 p8 p9 : Option PV) : Prop where
  c1 : At T i (i + 1) (.cell p1)
  c2 : At T i (i + 1 + 1) (.cell p2)
  c3 : At T i (i + 1 + 1 + 1) (.cell p3)
  c4 : At T i (i + 1 + 1 + 1 + 1) (.cell p4)
  c5 : At T i (i + 1 + 1 + 1 + 1 + 1) (.cell p5)
  c6 : At T i (i + 1 + 1 + 1 + 1 + 1 + 1) (.cell p6)
  c7 : At T i (i + 1 + 1 + 1 + 1 + 1 + 1 + 1) (.cell p7)
  c8 : At T i (i + 1 + 1 + 1 + 1 + 1 + 1 + 1 + 1) (.cell p8)
  c9 : At T i (i + 1 + 1 + 1 + 1 + 1 + 1 + 1 + 1 + 1) (.cell p9)
section
variable {T T' : Hp} {i k : Nat} {p1 p2 p3 p4 p5 p6 p7 p8 p9 : Option PV} {q : Option PV} {sp : Spec}
theorem LS.up (s : LS T i p1 p2 p3 p4 p5 p6 p7 p8 p9) (hA : ∀ k q, T k = some q → T' k = some q) : LS T' i p1 p2 p3 p4 p5 p6 p7 p8 p9 := ⟨s.c1.up hA, s.c2.up hA, s.c3.up hA, s.c4.up hA, s.c5.up hA, s.c6.up hA, s.c7.up hA, s.c8.up hA, s.c9.up hA⟩
theorem LS.oth (s : LS T i p1 p2 p3 p4 p5 p6 p7 p8 p9) {sp0 : Spec} (h : At T i k sp0) (hk : sp0.kind ≠ 6) : LS (upd T (tmp k) sp) i p1 p2 p3 p4 p5 p6 p7 p8 p9 := ⟨s.c1.set (s.c1.nek h (Ne.symm hk)), s.c2.set (s.c2.nek h (Ne.symm hk)), s.c3.set (s.c3.nek h (Ne.symm hk)), s.c4.set (s.c4.nek h (Ne.symm hk)), s.c5.set (s.c5.nek h (Ne.symm hk)), s.c6.set (s.c6.nek h (Ne.symm hk)), s.c7.set (s.c7.nek h (Ne.symm hk)), s.c8.set (s.c8.nek h (Ne.symm hk)), s.c9.set (s.c9.nek h (Ne.symm hk))⟩
theorem LS.set1 (s : LS T i p1 p2 p3 p4 p5 p6 p7 p8 p9) : LS (upd T (tmp (i + 1)) (.cell q)) i q p2 p3 p4 p5 p6 p7 p8 p9 := ⟨At.self (by lia), s.c2.set (by lia), s.c3.set (by lia), s.c4.set (by lia), s.c5.set (by lia), s.c6.set (by lia), s.c7.set (by lia), s.c8.set (by lia), s.c9.set (by lia)⟩
theorem LS.set2 (s : LS T i p1 p2 p3 p4 p5 p6 p7 p8 p9) : LS (upd T (tmp (i + 1 + 1)) (.cell q)) i p1 q p3 p4 p5 p6 p7 p8 p9 := ⟨s.c1.set (by lia), At.self (by lia), s.c3.set (by lia), s.c4.set (by lia), s.c5.set (by lia), s.c6.set (by lia), s.c7.set (by lia), s.c8.set (by lia), s.c9.set (by lia)⟩
theorem LS.set3 (s : LS T i p1 p2 p3 p4 p5 p6 p7 p8 p9) : LS (upd T (tmp (i + 1 + 1 + 1)) (.cell q)) i p1 p2 q p4 p5 p6 p7 p8 p9 := ⟨s.c1.set (by lia), s.c2.set (by lia), At.self (by lia), s.c4.set (by lia), s.c5.set (by lia), s.c6.set (by lia), s.c7.set (by lia), s.c8.set (by lia), s.c9.set (by lia)⟩
theorem LS.set4 (s : LS T i p1 p2 p3 p4 p5 p6 p7 p8 p9) : LS (upd T (tmp (i + 1 + 1 + 1 + 1)) (.cell q)) i p1 p2 p3 q p5 p6 p7 p8 p9 := ⟨s.c1.set (by lia), s.c2.set (by lia), s.c3.set (by lia), At.self (by lia), s.c5.set (by lia), s.c6.set (by lia), s.c7.set (by lia), s.c8.set (by lia), s.c9.set (by lia)⟩
theorem LS.set5 (s : LS T i p1 p2 p3 p4 p5 p6 p7 p8 p9) : LS (upd T (tmp (i + 1 + 1 + 1 + 1 + 1)) (.cell q)) i p1 p2 p3 p4 q p6 p7 p8 p9 := ⟨s.c1.set (by lia), s.c2.set (by lia), s.c3.set (by lia), s.c4.set (by lia), At.self (by lia), s.c6.set (by lia), s.c7.set (by lia), s.c8.set (by lia), s.c9.set (by lia)⟩
theorem LS.set6 (s : LS T i p1 p2 p3 p4 p5 p6 p7 p8 p9) : LS (upd T (tmp (i + 1 + 1 + 1 + 1 + 1 + 1)) (.cell q)) i p1 p2 p3 p4 p5 q p7 p8 p9 := ⟨s.c1.set (by lia), s.c2.set (by lia), s.c3.set (by lia), s.c4.set (by lia), s.c5.set (by lia), At.self (by lia), s.c7.set (by lia), s.c8.set (by lia), s.c9.set (by lia)⟩
theorem LS.set7 (s : LS T i p1 p2 p3 p4 p5 p6 p7 p8 p9) : LS (upd T (tmp (i + 1 + 1 + 1 + 1 + 1 + 1 + 1)) (.cell q)) i p1 p2 p3 p4 p5 p6 q p8 p9 := ⟨s.c1.set (by lia), s.c2.set (by lia), s.c3.set (by lia), s.c4.set (by lia), s.c5.set (by lia), s.c6.set (by lia), At.self (by lia), s.c8.set (by lia), s.c9.set (by lia)⟩
theorem LS.set8 (s : LS T i p1 p2 p3 p4 p5 p6 p7 p8 p9) : LS (upd T (tmp (i + 1 + 1 + 1 + 1 + 1 + 1 + 1 + 1)) (.cell q)) i p1 p2 p3 p4 p5 p6 p7 q p9 := ⟨s.c1.set (by lia), s.c2.set (by lia), s.c3.set (by lia), s.c4.set (by lia), s.c5.set (by lia), s.c6.set (by lia), s.c7.set (by lia), At.self (by lia), s.c9.set (by lia)⟩
theorem LS.set9 (s : LS T i p1 p2 p3 p4 p5 p6 p7 p8 p9) : LS (upd T (tmp (i + 1 + 1 + 1 + 1 + 1 + 1 + 1 + 1 + 1)) (.cell q)) i p1 p2 p3 p4 p5 p6 p7 p8 q := ⟨s.c1.set (by lia), s.c2.set (by lia), s.c3.set (by lia), s.c4.set (by lia), s.c5.set (by lia), s.c6.set (by lia), s.c7.set (by lia), s.c8.set (by lia), At.self (by lia)⟩
end

theorem lay9 {H : Hp} {i : Nat} {m cm : Str → Option PV} : layC (upd H (tmp i) (.ns m)) cm [(Str.ofString "came", tmp (i + 1 + 1 + 1 + 1 + 1 + 1 + 1 + 1 + 1)), (Str.ofString "done", tmp (i + 1 + 1 + 1 + 1 + 1 + 1 + 1 + 1)), (Str.ofString "files", tmp (i + 1 + 1 + 1 + 1 + 1 + 1 + 1)), (Str.ofString "k", tmp (i + 1 + 1 + 1 + 1 + 1 + 1)), (Str.ofString "numbers", tmp (i + 1 + 1 + 1 + 1 + 1)), (Str.ofString "tasks", tmp (i + 1 + 1 + 1 + 1)), (Str.ofString "needs", tmp (i + 1 + 1 + 1)), (Str.ofString "count", tmp (i + 1 + 1)), (Str.ofString "a", tmp (i + 1))] = Fm H (upd (upd (upd (upd (upd (upd (upd (upd (upd H (tmp (i + 1)) (.cell (cm (Str.ofString "a")))) (tmp (i + 1 + 1)) (.cell (cm (Str.ofString "count")))) (tmp (i + 1 + 1 + 1)) (.cell (cm (Str.ofString "needs")))) (tmp (i + 1 + 1 + 1 + 1)) (.cell (cm (Str.ofString "tasks")))) (tmp (i + 1 + 1 + 1 + 1 + 1)) (.cell (cm (Str.ofString "numbers")))) (tmp (i + 1 + 1 + 1 + 1 + 1 + 1)) (.cell (cm (Str.ofString "k")))) (tmp (i + 1 + 1 + 1 + 1 + 1 + 1 + 1)) (.cell (cm (Str.ofString "files")))) (tmp (i + 1 + 1 + 1 + 1 + 1 + 1 + 1 + 1)) (.cell (cm (Str.ofString "done")))) (tmp (i + 1 + 1 + 1 + 1 + 1 + 1 + 1 + 1 + 1)) (.cell (cm (Str.ofString "came")))) i m := by
  show upd (upd (upd (upd (upd (upd (upd (upd (upd (upd H (tmp i) (.ns m)) _ _) _ _) _ _) _ _) _ _) _ _) _ _) _ _) _ _ = _
  rw [Fm_of (N := H) (fun _ _ => rfl), Fm_modt (by lia), Fm_modt (by lia), Fm_modt (by lia), Fm_modt (by lia), Fm_modt (by lia), Fm_modt (by lia), Fm_modt (by lia), Fm_modt (by lia), Fm_modt (by lia)]
theorem ab_of (xs : List Int) : ∃ a b : Int, ((xs.map PV.int).take 2 ++ [PV.int 0, PV.int 0]).take 2 = [PV.int a, PV.int b] := by
  match xs with
  | [] => exact ⟨0, 0, rfl⟩
  | [x] => exact ⟨x, 0, rfl⟩
  | x :: y :: r => exact ⟨x, y, rfl⟩
theorem mod_nat (x : Int) {k : Int} (hk : 0 < k) : 0 ≤ x.fmod k ∧ x.fmod k < k := ⟨Int.fmod_nonneg_of_pos x hk, Int.fmod_lt_of_pos x hk⟩
noncomputable abbrev numD := mD nm fun j : Nat => PV.int (j : Int)
noncomputable def fdf (a : Int) (nd : Nat → List Nat) (k : Nat) : List Nat := (nd k).filter fun n : Nat => (a.fdiv 40 + (n : Int) + (k : Int)).fmod 3 == 0
noncomputable def tdf (a : Int) (nd : Nat → List Nat) (k : Nat) : List Nat := (nd k).filter fun n : Nat => !decide (n ∈ fdf a nd k)
/-- while the tasks are made: qn lists of needs, qm numbers, qt tasks -/
structure SU (a : Int) (ln lt lm i qn qm qt : Nat) (w : Wd) (T : Hp) (nd : Nat → List Nat) (nl : Nat → Nat) : Prop where
  dd : w.dd = none
  ct : ∀ b, w.ct b = none
  tk : ∀ k, w.tk k = if k < qt then some ⟨tdf a nd k, fdf a nd k⟩ else none
  ndl : ∀ k, k < qn → (∀ x ∈ nd k, x < k) ∧ (nd k).Nodup
  nls : ∀ k, k < qn → At T i (nl k) (.list (iL (nd k)))
  nne : ∀ k, k < qn → ln ≠ nl k ∧ lt ≠ nl k
  lne : lt ≠ ln
  ns : At T i ln (.list ((List.range qn).map fun k => PV.loc (tmp (nl k))))
  ts : At T i lt (.list ((List.range qt).map fun k => PV.loc (1, k)))
  ms : At T i lm (.dict (numD (List.range qm)))
section
variable {a : Int} {ln lt lm i qn qm qt q c : Nat} {w : Wd} {T T' : Hp} {nd : Nat → List Nat} {nl : Nat → Nat}
theorem SU.up (U : SU a ln lt lm i qn qm qt w T nd nl) (hA : ∀ k q, T k = some q → T' k = some q) : SU a ln lt lm i qn qm qt w T' nd nl :=
  ⟨U.dd, U.ct, U.tk, U.ndl, fun k hk => (U.nls k hk).up hA, U.nne, U.lne, U.ns.up hA, U.ts.up hA, U.ms.up hA⟩
theorem SU.cell (U : SU a ln lt lm i qn qm qt w T nd nl) {o p : Option PV} (h : At T i c (.cell o)) : SU a ln lt lm i qn qm qt w (upd T (tmp c) (.cell p)) nd nl :=
  ⟨U.dd, U.ct, U.tk, U.ndl, fun k hk => (U.nls k hk).set ((U.nls k hk).nek h (by first | exact Nat.ne_of_beq_eq_false rfl | simp [Spec.kind])), U.nne, U.lne, U.ns.set (U.ns.nek h (by first | exact Nat.ne_of_beq_eq_false rfl | simp [Spec.kind])), U.ts.set (U.ts.nek h (by first | exact Nat.ne_of_beq_eq_false rfl | simp [Spec.kind])), U.ms.set (U.ms.nek h (by first | exact Nat.ne_of_beq_eq_false rfl | simp [Spec.kind]))⟩
noncomputable def put1 {α : Type} (f : Nat → α) (q : Nat) (x : α) : Nat → α := fun k => if k = q then x else f k
theorem put1_self {α : Type} {f : Nat → α} {x : α} : put1 f q x q = x := if_pos rfl
theorem put1_ne {α : Type} {f : Nat → α} {k : Nat} {x : α} (h : k ≠ q) : put1 f q x k = f k := if_neg h
/-- one more list of needs -/
theorem SU.need (U : SU a ln lt lm i q q q w T nd nl) {l : List Nat} {jn : Nat} (h : At T i jn (.list (iL l))) (h1 : ln ≠ jn) (h2 : lt ≠ jn) (hl : (∀ x ∈ l, x < q) ∧ l.Nodup) :
    SU a ln lt lm i (q + 1) q q w (upd T (tmp ln) (.list (((List.range q).map fun k => PV.loc (tmp (nl k))) ++ [.loc (tmp jn)]))) (put1 nd q l) (put1 nl q jn) := by
  have cs : ∀ k, k < q + 1 → k = q ∨ (k ≠ q ∧ k < q) := fun k hk => by lia
  refine ⟨U.dd, U.ct, fun k => ?_, fun k hk => ?_, fun k hk => ?_, fun k hk => ?_, U.lne, ?_, U.ts.set (Ne.symm U.lne), U.ms.set (U.ms.nek U.ns (by first | exact Nat.ne_of_beq_eq_false rfl | simp [Spec.kind]))⟩
  · rw [U.tk k]
    by_cases hk : k < q
    · rw [if_pos hk, if_pos hk]
      have e : fdf a (put1 nd q l) k = fdf a nd k := by unfold fdf; rw [put1_ne (by lia)]
      unfold tdf
      rw [e, put1_ne (by lia)]
    · rw [if_neg hk, if_neg hk]
  · rcases cs k hk with rfl | ⟨h1, h2⟩
    · rw [put1_self]; exact hl
    · rw [put1_ne h1]; exact U.ndl k h2
  · rcases cs k hk with rfl | ⟨h3, h4⟩
    · rw [put1_self, put1_self]; exact h.set h1
    · rw [put1_ne h3, put1_ne h3]; exact (U.nls k h4).set (U.nne k h4).1
  · rcases cs k hk with rfl | ⟨h3, h4⟩
    · rw [put1_self]; exact ⟨h1, h2⟩
    · rw [put1_ne h3]; exact U.nne k h4
  · have e : ((List.range (q + 1)).map fun k => PV.loc (tmp (put1 nl q jn k))) = ((List.range q).map fun k => PV.loc (tmp (nl k))) ++ [.loc (tmp jn)] := by
      rw [List.range_succ, List.map_append, List.map_cons, List.map_nil, put1_self]
      congr 1
      exact List.map_congr_left fun k hk => by rw [put1_ne (by have := List.mem_range.mp hk; lia)]
    rw [e]
    exact At.self U.ns.1
/-- one more number -/
theorem SU.number (U : SU a ln lt lm i qn q qt w T nd nl) : SU a ln lt lm i qn (q + 1) qt w (upd T (tmp lm) (.dict (numD (List.range (q + 1))))) nd nl :=
  ⟨U.dd, U.ct, U.tk, U.ndl, fun k hk => (U.nls k hk).set ((U.nls k hk).nek U.ms (by first | exact Nat.ne_of_beq_eq_false rfl | simp [Spec.kind])), U.nne, U.lne, U.ns.set (U.ns.nek U.ms (by first | exact Nat.ne_of_beq_eq_false rfl | simp [Spec.kind])), U.ts.set (U.ts.nek U.ms (by first | exact Nat.ne_of_beq_eq_false rfl | simp [Spec.kind])), At.self U.ms.1⟩
/-- one more task -/
theorem SU.task (U : SU a ln lt lm i qn qm q w T nd nl) : SU a ln lt lm i qn qm (q + 1) (w.tsk q ⟨tdf a nd q, fdf a nd q⟩) (upd T (tmp lt) (.list (((List.range q).map fun k => PV.loc (1, k)) ++ [.loc (1, q)]))) nd nl := by
  refine ⟨U.dd, U.ct, fun k => ?_, U.ndl, fun k hk => (U.nls k hk).set (U.nne k hk).2, U.nne, U.lne, U.ns.set U.lne, ?_, U.ms.set (U.ms.nek U.ts (by first | exact Nat.ne_of_beq_eq_false rfl | simp [Spec.kind]))⟩
  · show (if k = q then _ else w.tk k) = _
    by_cases e : k = q
    · subst e; rw [if_pos rfl, if_pos (Nat.lt_succ_self k)]
    · rw [if_neg e, U.tk k]
      by_cases h : k < q
      · rw [if_pos h, if_pos (by lia)]
      · rw [if_neg h, if_neg (by lia)]
  · have e : ((List.range (q + 1)).map fun k => PV.loc (1, k)) = ((List.range q).map fun k => PV.loc (1, k)) ++ [.loc (1, q)] := by
      rw [List.range_succ, List.map_append, List.map_cons, List.map_nil]
    rw [e]
    exact At.self U.ts.1
end
/-- what the rounds only read -/
structure LF (cnt ln lm i : Nat) (T : Hp) (nd : Nat → List Nat) (nl : Nat → Nat) : Prop where
  nls : ∀ k, k < cnt → At T i (nl k) (.list (iL (nd k)))
  ns : At T i ln (.list ((List.range cnt).map fun k => PV.loc (tmp (nl k))))
  ms : At T i lm (.dict (numD (List.range cnt)))
theorem LF.up {cnt ln lm i : Nat} {T T' : Hp} {nd : Nat → List Nat} {nl : Nat → Nat} (U : LF cnt ln lm i T nd nl) (hA : ∀ k q, T k = some q → T' k = some q) : LF cnt ln lm i T' nd nl :=
  ⟨fun k hk => (U.nls k hk).up hA, U.ns.up hA, U.ms.up hA⟩
theorem LF.cell {cnt ln lm i c : Nat} {T : Hp} {nd : Nat → List Nat} {nl : Nat → Nat} (U : LF cnt ln lm i T nd nl) {o p : Option PV} (h : At T i c (.cell o)) : LF cnt ln lm i (upd T (tmp c) (.cell p)) nd nl :=
  ⟨fun k hk => (U.nls k hk).set ((U.nls k hk).nek h (by first | exact Nat.ne_of_beq_eq_false rfl | simp [Spec.kind])), U.ns.set (U.ns.nek h (by first | exact Nat.ne_of_beq_eq_false rfl | simp [Spec.kind])), U.ms.set (U.ms.nek h (by first | exact Nat.ne_of_beq_eq_false rfl | simp [Spec.kind]))⟩
theorem upd_up {T : Hp} {j : Nat} {sp : Spec} (h : T (tmp j) = none) : ∀ k q, T k = some q → upd T (tmp j) sp k = some q := fun k q e => (upd_ne _ _ fun z => by rw [z, h] at e; cases e).trans e
theorem upd_ok (h : w.dd = some σ) {k : Nat} {d : Nd} (hk : σ.nd k = some d) : upd (hp w) (41, k) (.attrs nodeNames (sto (nodeAt k d) (Str.ofString "run_status") (.str (Str.ofString "successful")))) = hp (w.sg (σ.set k { d with ok := true })) := by
  unfold sto
  refine upd_n h hk (by decide) fun b hb => ?_
  by_cases e : b = 41
  · subst e
    rw [if_pos rfl]
    show some (Spec.attrs nodeNames (nodeAt k { d with ok := true })) = _
    congr 2
    funext y
    by_cases h1 : y = Str.ofString "run_status"
    · rw [if_pos h1, h1]; rfl
    · rw [if_neg h1]
      by_cases h2 : y = Str.ofString "phase"
      · rw [h2]; rfl
      · simp only [nodeAt, at_, if_neg h1]
  · rw [if_neg e]
    unfold hpN
    split <;> first | rfl | lia
/-- a comprehension stored in a cell -/
theorem X_assignC {C : Ctx} {F : FC} {n : Nat} {X : XT} {H : Hp} {x : Str} {np : Pos} {e : Expr} {pos : Pos} {Q : AF → Hp → Prop} (h : JE C F n X e (fun p H₁ => JStore C F x p (Q .next) H₁) H) (hs : autoParam (∀ c, swapsWith e (some (.Name x np)) pos.line (F.env c) = pure false) Au.a8) :
    JX C F n X (.Assign [.Name x np] e pos) Q H := by
  intro A c s a i S
  refine wpAny_Assign_Name (wpP (h A c s a i S) fun u s₁ p H₁ c₁ x₁ d₁ S₁ h₁ => ?_) (hs _)
  have := h₁ A (PostX X c) c₁ s₁ u (i.ext x₁) d₁ S₁
  rw [FC.env_ext i x₁] at this
  exact (wpV this fun _ s₂ H₂ c₂ x₂ S₂ q => ⟨.next, H₂, c₂, x₁.trans x₂, rfl, S₂, q⟩)
theorem str_short : ∀ k : Nat, k < 21 → (Str.ofString (toString (k : Int))).length ≤ 2 := by decide +kernel
theorem bits21 : ∀ k : Nat, k < 21 → Builtin.Int.intBits (k : Int) ≤ 64 := by decide +kernel
theorem len_t : (Str.ofString "t").length = 1 := by decide +kernel
theorem len_f : (Str.ofString "f").length = 1 := by decide +kernel
end
/-- the cells, the first five filled for good -/
noncomputable def L5 (i : Nat) (a : Int) (cnt ln lt lm : Nat) (T : Hp) (p6 p7 p8 p9 : Option PV) : Prop := LS T i (some (.int a)) (some (.int cnt)) (some (.loc (tmp ln))) (some (.loc (tmp lt))) (some (.loc (tmp lm))) p6 p7 p8 p9
section
variable {T T' : Hp} {i k : Nat} {a : Int} {cnt ln lt lm : Nat} {p6 p7 p8 p9 q : Option PV} {sp : Spec}
theorem L5.up (s : L5 i a cnt ln lt lm T p6 p7 p8 p9) (hA : ∀ k q, T k = some q → T' k = some q) : L5 i a cnt ln lt lm T' p6 p7 p8 p9 := LS.up s hA
theorem L5.oth (s : L5 i a cnt ln lt lm T p6 p7 p8 p9) {sp0 : Spec} (h : At T i k sp0) (hk : sp0.kind ≠ 6) : L5 i a cnt ln lt lm (upd T (tmp k) sp) p6 p7 p8 p9 := LS.oth s h hk
theorem L5.set6 (s : L5 i a cnt ln lt lm T p6 p7 p8 p9) : L5 i a cnt ln lt lm (upd T (tmp (i + 1 + 1 + 1 + 1 + 1 + 1)) (.cell q)) q p7 p8 p9 := LS.set6 s
theorem L5.set7 (s : L5 i a cnt ln lt lm T p6 p7 p8 p9) : L5 i a cnt ln lt lm (upd T (tmp (i + 1 + 1 + 1 + 1 + 1 + 1 + 1)) (.cell q)) p6 q p8 p9 := LS.set7 s
theorem L5.set8 (s : L5 i a cnt ln lt lm T p6 p7 p8 p9) : L5 i a cnt ln lt lm (upd T (tmp (i + 1 + 1 + 1 + 1 + 1 + 1 + 1 + 1)) (.cell q)) p6 p7 q p9 := LS.set8 s
theorem L5.set9 (s : L5 i a cnt ln lt lm T p6 p7 p8 p9) : L5 i a cnt ln lt lm (upd T (tmp (i + 1 + 1 + 1 + 1 + 1 + 1 + 1 + 1 + 1)) (.cell q)) p6 p7 p8 q := LS.set9 s
end
-- M54
/-- what stands between two statements of a round -/
structure RS (i : Nat) (a : Int) (cnt ln lt lm : Nat) (nd : Nat → List Nat) (nl : Nat → Nat) (Dn : List Nat) (r jd : Nat) (ck cf cw : Option PV) (Hd : List Nat) (over : Bool) (T : Hp) (f : Str → Option PV) (jh : Nat) : Prop where
  L : LF cnt ln lm i T nd nl
  S : L5 i a cnt ln lt lm T ck cf (some (.loc (tmp jd))) cw
  dn : At T i jd (.list (iL Dn))
  hn : At T i jh (.list (nodes Hd))
  fr : f (Str.ofString "rounds") = some (.int (r : Nat))
  fh : f (Str.ofString "hand") = some (.loc (tmp jh))
  fo : f (Str.ofString "over") = some (.bool over)
noncomputable abbrev lawNs : List Str := [Str.ofString "rounds", Str.ofString "hand", Str.ofString "over", Str.ofString "took", Str.ofString "node", Str.ofString "longest", Str.ofString "ended"]
/-- between two rounds -/
inductive LawA (i : Nat) (a : Int) (cnt ln lt lm : Nat) (nd : Nat → List Nat) (nl : Nat → Nat) (dp : Nat → List Nat) (wD : Wd) (m4 : Str → Option PV) (k : Nat) (H' : Hp) : Prop
  | mk (σ : Sg) (Dn Hd : List Nat) (over : Bool) (r : Nat) (T : Hp) (f : Str → Option PV) (jd jh : Nat) (ck cf cw : Option PV) (e : H' = Fm (hp (wD.sg σ)) T i (ovr m4 lawNs f)) (R : RI cnt dp σ Dn Hd over) (rs : RS i a cnt ln lt lm nd nl Dn r jd ck cf cw Hd over T f jh) (hr : r ≤ Dn.length) (hk : k = cnt - Dn.length)
/-- while a round's tasks are taken -/
inductive LawB (i : Nat) (a : Int) (cnt ln lt lm : Nat) (nd : Nat → List Nat) (nl : Nat → Nat) (dp : Nat → List Nat) (wD : Wd) (m4 : Str → Option PV) (Dn : List Nat) (r jd : Nat) (ck cf cw : Option PV) (P : List Nat → Bool → Prop) (H' : Hp) : Prop
  | mk (σ : Sg) (Hd : List Nat) (over : Bool) (T : Hp) (f : Str → Option PV) (jh : Nat) (e : H' = Fm (hp (wD.sg σ)) T i (ovr m4 lawNs f)) (R : RI cnt dp σ Dn Hd over) (rs : RS i a cnt ln lt lm nd nl Dn r jd ck cf cw Hd over T f jh) (p : P Hd over)
/-- while a round's tasks end -/
inductive LawC (i : Nat) (a : Int) (cnt ln lt lm : Nat) (nd : Nat → List Nat) (nl : Nat → Nat) (dp : Nat → List Nat) (wD : Wd) (m4 : Str → Option PV) (Dn Hd : List Nat) (r jd jh jc : Nat) (ck cf : Option PV) (vs : List PV) (q : Nat) (H' : Hp) : Prop
  | mk (hv : vs = nodes Hd) (σ : Sg) (H2 : List Nat) (over : Bool) (T : Hp) (f : Str → Option PV) (jh2 : Nat) (e : H' = Fm (hp (wD.sg σ)) T i (ovr m4 lawNs f)) (R : RI cnt dp σ (Dn ++ Hd.take q) (Hd.drop q ++ H2) over) (hn : At T i jh (.list (nodes Hd))) (rs : RS i a cnt ln lt lm nd nl (Dn ++ Hd) (r + 1) jd ck cf (some (.loc (tmp jc))) H2 over T f jh2)
/-- while the tasks are built -/
inductive LawT (i : Nat) (a : Int) (cnt ln lt lm : Nat) (m2 : Str → Option PV) (vs : List PV) (q : Nat) (H' : Hp) : Prop
  | mk (hv : vs = iL (List.range cnt)) (w : Wd) (T : Hp) (nd : Nat → List Nat) (nl : Nat → Nat) (ck cf : Option PV) (e : H' = Fm (hp w) T i m2) (U : SU a ln lt lm i q q q w T nd nl) (S : L5 i a cnt ln lt lm T ck cf none none)
/-- the tasks in order -/
inductive LawO (w : Wd) (T : Hp) (i cnt : Nat) (m2 : Str → Option PV) (p : PV) (H' : Hp) : Prop
  | mk (ord : List Nat) (jl : Nat) (T' : Hp) (e : H' = Fm (hp w) T' i m2) (ep : p = .loc (tmp jl)) (l : At T' i jl (.list (ord.map fun k => PV.loc (1, k)))) (up : ∀ k q, T k = some q → T' k = some q) (nd : ord.Nodup) (m : ∀ x, x ∈ ord ↔ x < cnt)
section
variable {px : Px}
variable {n : Nat} {X : XT} {w : Wd} {σ : Sg} {H : Hp}
set_option maxHeartbeats 8000000 in
theorem c_law (O : (Cx px).Ok) {sa : Addr} {vals : List Value} {xs : List Int} (hL : px.hb.IsList sa vals.toArray) (hI : IntsAre vals xs) (hz : xs.length ≤ 63) :
    JCode (Cx px) (n + 20) X (.ref 500) [.raw (.ref sa)] [] [] (fun p H' => p = .bool true) (hp w0) := by
  refine' call_cellsR O [Str.ofString "script"] ?ho ?hcd ?hbind ?hns ?hkind ?h ?hnd ?hco ?hgen ?hk
  case ho => refine' look_fn ?g; case g => show List.lookup _ (Mine.KH _) = _; k_is
  case hcd => show codeIn (Mine.KH _) _ _ = true; k_is
  case hbind =>
    intro vs h
    obtain ⟨a, r0, rfl, h0⟩ := len_succ h
    obtain rfl := List.eq_nil_of_length_eq_zero h0
    rfl
  case hns => rfl
  case hkind =>
    intro x hx
    simp only [List.mem_cons, List.not_mem_nil, or_false] at hx
    rcases hx with rfl
    exact .inl rfl
  case hnd => decide
  case hco => rfl
  case hgen => rfl
  case hk => rfl
  case h =>
    intro i hi QI hQI
    show JS _ _ _ _ _ _ (layC (upd (hp w0) (tmp i) (.ns _)) _ [(Str.ofString "came", tmp (i + 1 + 1 + 1 + 1 + 1 + 1 + 1 + 1 + 1)), (Str.ofString "done", tmp (i + 1 + 1 + 1 + 1 + 1 + 1 + 1 + 1)), (Str.ofString "files", tmp (i + 1 + 1 + 1 + 1 + 1 + 1 + 1)), (Str.ofString "k", tmp (i + 1 + 1 + 1 + 1 + 1 + 1)), (Str.ofString "numbers", tmp (i + 1 + 1 + 1 + 1 + 1)), (Str.ofString "tasks", tmp (i + 1 + 1 + 1 + 1)), (Str.ofString "needs", tmp (i + 1 + 1 + 1)), (Str.ofString "count", tmp (i + 1 + 1)), (Str.ofString "a", tmp (i + 1))])
    rw [lay9]
    generalize hm0 : bindLP _ _ _ = m0
    revert m0; refine bar ?_; intro m0 hm0
    generalize hcm : bindCP _ _ _ = cm
    revert cm; refine bar ?_; intro cm hcm
    have ms : m0 (Str.ofString "script") = some (.raw (.ref sa)) := by rw [← hm0]; rfl
    have vz : vals.length = xs.length := by have := (Mine.IntsAre.denL (c := ⟨fun _ => none, [], fun _ => 0, fun _ => False⟩) hI).length; simpa using this.symm
    have cmn : ∀ x, cm x = none := fun x => by rw [← hcm]; rfl
    obtain ⟨T, eT⟩ : ∃ T, T = (upd (upd (upd (upd (upd (upd (upd (upd (upd (hp w0) (tmp (i + 1)) (.cell (cm (Str.ofString "a")))) (tmp (i + 1 + 1)) (.cell (cm (Str.ofString "count")))) (tmp (i + 1 + 1 + 1)) (.cell (cm (Str.ofString "needs")))) (tmp (i + 1 + 1 + 1 + 1)) (.cell (cm (Str.ofString "tasks")))) (tmp (i + 1 + 1 + 1 + 1 + 1)) (.cell (cm (Str.ofString "numbers")))) (tmp (i + 1 + 1 + 1 + 1 + 1 + 1)) (.cell (cm (Str.ofString "k")))) (tmp (i + 1 + 1 + 1 + 1 + 1 + 1 + 1)) (.cell (cm (Str.ofString "files")))) (tmp (i + 1 + 1 + 1 + 1 + 1 + 1 + 1 + 1)) (.cell (cm (Str.ofString "done")))) (tmp (i + 1 + 1 + 1 + 1 + 1 + 1 + 1 + 1 + 1)) (.cell (cm (Str.ofString "came")))) := ⟨_, rfl⟩
    have c1 : At T i (i + 1) (.cell none) := ⟨by lia, by rw [eT]; simp [upd, tmp, cmn]⟩
    have c2 : At T i (i + 1 + 1) (.cell none) := ⟨by lia, by rw [eT]; simp [upd, tmp, cmn]⟩
    have c3 : At T i (i + 1 + 1 + 1) (.cell none) := ⟨by lia, by rw [eT]; simp [upd, tmp, cmn]⟩
    have c4 : At T i (i + 1 + 1 + 1 + 1) (.cell none) := ⟨by lia, by rw [eT]; simp [upd, tmp, cmn]⟩
    have c5 : At T i (i + 1 + 1 + 1 + 1 + 1) (.cell none) := ⟨by lia, by rw [eT]; simp [upd, tmp, cmn]⟩
    have c6 : At T i (i + 1 + 1 + 1 + 1 + 1 + 1) (.cell none) := ⟨by lia, by rw [eT]; simp [upd, tmp, cmn]⟩
    have c7 : At T i (i + 1 + 1 + 1 + 1 + 1 + 1 + 1) (.cell none) := ⟨by lia, by rw [eT]; simp [upd, tmp, cmn]⟩
    have c8 : At T i (i + 1 + 1 + 1 + 1 + 1 + 1 + 1 + 1) (.cell none) := ⟨by lia, by rw [eT]; simp [upd, tmp, cmn]⟩
    have c9 : At T i (i + 1 + 1 + 1 + 1 + 1 + 1 + 1 + 1 + 1) (.cell none) := ⟨by lia, by rw [eT]; simp [upd, tmp, cmn]⟩
    rw [← eT]
    clear hm0 hcm eT
    iterate 1 walk_at "mj"
    refine X_tuple (xs := [(Str.ofString "a", _), (Str.ofString "b", _)]) ?_
    iterate 3 walk_at "mj"
    refine f_loc ms ?_
    refine ⟨xs.map PV.int, isListOf_base hL (fun c => by simpa using Mine.IntsAre.denL hI), by simp; lia, al_tmp fun j1 T1 hj1 hn1 hT1 hA1 hE1 => ?_⟩
    iterate 6 walk_at "mj"
    refine ⟨by first | exact Nat.zero_le _ | simp, al_tmp fun j2 T2 hj2 hn2 hT2 hA2 hE2 => ?_⟩
    refine op_addL (Fm_gett hj1 (hA2 _ _ hT1)) (Fm_gett hj2 hT2) (by simp; lia) (al_tmp fun j3 T3 hj3 hn3 hT3 hA3 hE3 => ?_)
    refine ⟨_, isListOf_loc (Fm_gett hj3 hT3), by simp; lia, al_tmp fun j4 T4 hj4 hn4 hT4 hA4 hE4 => ?_⟩
    obtain ⟨a, b, eab⟩ := ab_of xs
    have hT4 : T4 (tmp j4) = some (.list [.int a, .int b]) := hT4.trans (congrArg (fun l => some (Spec.list l)) eab)
    have hA04 : ∀ k q, T k = some q → T4 k = some q := fun k q e => hA4 _ _ (hA3 _ _ (hA2 _ _ (hA1 _ _ e)))
    refine ⟨tmp j4, _, rfl, .inl (Fm_gett hj4 hT4), rfl, ?_⟩
    have S0 : LS T4 i none none none none none none none none none := (LS.mk c1 c2 c3 c4 c5 c6 c7 c8 c9).up hA04
    show JStore _ _ _ _ (fun H' => JStores _ _ _ _ _ H') _
    refine st_cell (l := tmp (i + 1)) (by rfl) S0.c1.get ?_
    rw [Fm_modt (by lia)]
    obtain ⟨T5, eT5⟩ : ∃ T', T' = upd T4 (tmp (i + 1)) (.cell (some (.int a))) := ⟨_, rfl⟩
    have S1 := S0.set1 (q := some (.int a))
    rw [← eT5] at S1
    rw [← eT5]
    show JStore _ _ _ _ (fun H' => JStores _ _ _ _ _ H') _
    refine f_st ?_
    generalize hm1 : ((sto m0 (Str.ofString "b") (PV.int b))) = m1
    revert m1; refine bar ?_; intro m1 hm1
    have ms1 : m1 (Str.ofString "script") = some (.raw (.ref sa)) := by rw [← hm1]; exact ms
    have mb1 : m1 (Str.ofString "b") = some (.int b) := by rw [← hm1]; rfl
    show SeqQ _ _ _ _ _ _ _ _
    iterate 2 walk_at "mj"
    refine X_tuple (xs := [(Str.ofString "hands", _), (Str.ofString "shape", _), (Str.ofString "count", _)]) ?_
    iterate 5 walk_at "mj"
    refine E_cell (l := tmp (i + 1)) (p := .int a) (by rfl) S1.c1.get ?_
    iterate 1 walk_at "mj"
    refine op_mod (by decide) ?_
    refine op_add ?_
    iterate 3 walk_at "mj"
    refine E_cell (l := tmp (i + 1)) (p := .int a) (by rfl) S1.c1.get ?_
    iterate 1 walk_at "mj"
    refine op_div (by decide) (by decide) ?_
    iterate 1 walk_at "mj"
    refine op_mod (by decide) ?_
    iterate 5 walk_at "mj"
    refine f_loc mb1 ?_
    iterate 1 walk_at "mj"
    refine op_add ?_
    iterate 1 walk_at "mj"
    refine op_mod (by decide) ?_
    refine op_add ?_
    iterate 1 walk_at "mj"
    obtain ⟨hands, ehands, hh2, hh5⟩ : ∃ hands : Nat, 2 + a.fmod 4 = (hands : Int) ∧ 2 ≤ hands ∧ hands ≤ 5 := by
      obtain ⟨h1, h2⟩ := mod_nat a (k := 4) (by decide)
      exact ⟨(2 + a.fmod 4).toNat, by lia, by lia, by lia⟩
    obtain ⟨cnt, ecnt, hc3, hc20⟩ : ∃ cnt : Nat, 3 + (b + 7).fmod 18 = (cnt : Int) ∧ 3 ≤ cnt ∧ cnt ≤ 20 := by
      obtain ⟨h1, h2⟩ := mod_nat (b + 7) (k := 18) (by decide)
      exact ⟨(3 + (b + 7).fmod 18).toNat, by lia, by lia, by lia⟩
    obtain ⟨shape, eshape⟩ : ∃ shape : Int, shape = (a.fdiv 5).fmod 4 := ⟨_, rfl⟩
    rw [ehands, ecnt, ← eshape]
    refine ⟨by first | exact Nat.zero_le _ | simp, al_tmp fun j5 T6 hj5 hn5 hT6 hA6 hE6 => ?_⟩
    refine ⟨tmp j5, _, rfl, .inr (Fm_gett hj5 hT6), rfl, ?_⟩
    have S2 := S1.up hA6
    show JStore _ _ _ _ (fun H' => JStores _ _ _ _ _ H') _
    refine f_st ?_
    show JStore _ _ _ _ (fun H' => JStores _ _ _ _ _ H') _
    refine f_st ?_
    show JStore _ _ _ _ (fun H' => JStores _ _ _ _ _ H') _
    refine st_cell (l := tmp (i + 1 + 1)) (by rfl) S2.c2.get ?_
    rw [Fm_modt (by lia)]
    obtain ⟨T7, eT7⟩ : ∃ T', T' = upd T6 (tmp (i + 1 + 1)) (.cell (some (.int cnt))) := ⟨_, rfl⟩
    have S3 := S2.set2 (q := some (.int cnt))
    rw [← eT7] at S3
    rw [← eT7]
    generalize hm2 : ((sto (sto m1 (Str.ofString "hands") (PV.int hands)) (Str.ofString "shape") (PV.int shape))) = m2
    revert m2; refine bar ?_; intro m2 hm2
    have ms2 : m2 (Str.ofString "script") = some (.raw (.ref sa)) := by rw [← hm2]; exact ms1
    have mb2 : m2 (Str.ofString "b") = some (.int b) := by rw [← hm2]; exact mb1
    have mh2 : m2 (Str.ofString "hands") = some (.int hands) := by rw [← hm2]; rfl
    have mp2 : m2 (Str.ofString "shape") = some (.int shape) := by rw [← hm2]; rfl
    show SeqQ _ _ _ _ _ _ _ _
    iterate 2 walk_at "mj"
    refine X_tuple (xs := [(Str.ofString "needs", _), (Str.ofString "tasks", _), (Str.ofString "numbers", _)]) ?_
    iterate 4 walk_at "mj"
    refine ⟨by first | exact Nat.zero_le _ | simp, al_tmp fun ln T8 hln hnln hTln hA8 hE8 => ?_⟩
    iterate 3 walk_at "mj"
    refine ⟨by first | exact Nat.zero_le _ | simp, al_tmp fun lt T9 hlt hnlt hTlt hA9 hE9 => ?_⟩
    iterate 2 walk_at "mj"
    refine al_tmp fun lm T10 hlm hnlm hTlm hA10 hE10 => ?_
    iterate 1 walk_at "mj"
    refine ⟨by first | exact Nat.zero_le _ | simp, al_tmp fun jt T11 hjt hnjt hTjt hA11 hE11 => ?_⟩
    refine ⟨tmp jt, _, rfl, .inr (Fm_gett hjt hTjt), rfl, ?_⟩
    have S4 := S3.up (T' := T11) fun k q e => hA11 _ _ (hA10 _ _ (hA9 _ _ (hA8 _ _ e)))
    have n0 : At T11 i ln (.list []) := ⟨hln, hA11 _ _ (hA10 _ _ (hA9 _ _ hTln))⟩
    have t0 : At T11 i lt (.list []) := ⟨hlt, hA11 _ _ (hA10 _ _ hTlt)⟩
    have m0' : At T11 i lm (.dict []) := ⟨hlm, hA11 _ _ hTlm⟩
    have hnt : lt ≠ ln := At.new ⟨hln, hTln⟩ hnlt
    show JStore _ _ _ _ (fun H' => JStores _ _ _ _ _ H') _
    refine st_cell (l := tmp (i + 1 + 1 + 1)) (by rfl) S4.c3.get ?_
    rw [Fm_modt (by lia)]
    obtain ⟨T12, eT12⟩ : ∃ T', T' = upd T11 (tmp (i + 1 + 1 + 1)) (.cell (some (.loc (tmp ln)))) := ⟨_, rfl⟩
    have S5 := S4.set3 (q := some (.loc (tmp ln)))
    rw [← eT12] at S5
    have n1 := n0.set (sp' := .cell (some (.loc (tmp ln)))) (n0.nek S4.c3 (by first | exact Nat.ne_of_beq_eq_false rfl | simp [Spec.kind]))
    rw [← eT12] at n1
    have t1 := t0.set (sp' := .cell (some (.loc (tmp ln)))) (t0.nek S4.c3 (by first | exact Nat.ne_of_beq_eq_false rfl | simp [Spec.kind]))
    rw [← eT12] at t1
    have m1' := m0'.set (sp' := .cell (some (.loc (tmp ln)))) (m0'.nek S4.c3 (by first | exact Nat.ne_of_beq_eq_false rfl | simp [Spec.kind]))
    rw [← eT12] at m1'
    rw [← eT12]
    show JStore _ _ _ _ (fun H' => JStores _ _ _ _ _ H') _
    refine st_cell (l := tmp (i + 1 + 1 + 1 + 1)) (by rfl) S5.c4.get ?_
    rw [Fm_modt (by lia)]
    obtain ⟨T13, eT13⟩ : ∃ T', T' = upd T12 (tmp (i + 1 + 1 + 1 + 1)) (.cell (some (.loc (tmp lt)))) := ⟨_, rfl⟩
    have S6 := S5.set4 (q := some (.loc (tmp lt)))
    rw [← eT13] at S6
    have n2 := n1.set (sp' := .cell (some (.loc (tmp lt)))) (n1.nek S5.c4 (by first | exact Nat.ne_of_beq_eq_false rfl | simp [Spec.kind]))
    rw [← eT13] at n2
    have t2 := t1.set (sp' := .cell (some (.loc (tmp lt)))) (t1.nek S5.c4 (by first | exact Nat.ne_of_beq_eq_false rfl | simp [Spec.kind]))
    rw [← eT13] at t2
    have m2' := m1'.set (sp' := .cell (some (.loc (tmp lt)))) (m1'.nek S5.c4 (by first | exact Nat.ne_of_beq_eq_false rfl | simp [Spec.kind]))
    rw [← eT13] at m2'
    rw [← eT13]
    show JStore _ _ _ _ (fun H' => JStores _ _ _ _ _ H') _
    refine st_cell (l := tmp (i + 1 + 1 + 1 + 1 + 1)) (by rfl) S6.c5.get ?_
    rw [Fm_modt (by lia)]
    obtain ⟨T14, eT14⟩ : ∃ T', T' = upd T13 (tmp (i + 1 + 1 + 1 + 1 + 1)) (.cell (some (.loc (tmp lm)))) := ⟨_, rfl⟩
    have S7 := S6.set5 (q := some (.loc (tmp lm)))
    rw [← eT14] at S7
    have n3 := n2.set (sp' := .cell (some (.loc (tmp lm)))) (n2.nek S6.c5 (by first | exact Nat.ne_of_beq_eq_false rfl | simp [Spec.kind]))
    rw [← eT14] at n3
    have t3 := t2.set (sp' := .cell (some (.loc (tmp lm)))) (t2.nek S6.c5 (by first | exact Nat.ne_of_beq_eq_false rfl | simp [Spec.kind]))
    rw [← eT14] at t3
    have m3' := m2'.set (sp' := .cell (some (.loc (tmp lm)))) (m2'.nek S6.c5 (by first | exact Nat.ne_of_beq_eq_false rfl | simp [Spec.kind]))
    rw [← eT14] at m3'
    rw [← eT14]
    show SeqQ _ _ _ _ _ _ _ _
    iterate 2 walk_at "mj"
    refine X_for (LawT i a cnt ln lt lm m2) ?_
    iterate 5 walk_at "mj"
    refine E_cell (l := tmp (i + 1 + 1)) (p := .int cnt) (by rfl) S7.c2.get ?_
    iterate 1 walk_at "mj"
    refine c_range (k := cnt) (al_tmp fun jr T15 hjr hjrn hT15 hA15 hE15 => ?_)
    refine ⟨.rng cnt, iL (List.range cnt), ⟨tmp jr, rfl, Fm_gett hjr hT15, by lia, rfl⟩, ⟨rfl, w0, T15, fun _ => [], fun _ => 0, none, none, rfl, ⟨rfl, fun _ => rfl, fun k => by simp [w0], fun k hk => absurd hk (Nat.not_lt_zero k), fun k hk => absurd hk (Nat.not_lt_zero k), fun k hk => absurd hk (Nat.not_lt_zero k), hnt, n3.up hA15, t3.up hA15, m3'.up hA15⟩, S7.up hA15⟩, ?_, ?_, ?_⟩
    · rintro q H' ⟨-, w, T, nd, nl, ck, cf, rfl, U, S⟩
      exact ⟨rfl, _, _, U.ns.get⟩
    · rintro q v H' hv ⟨-, w, T, nd, nl, ck, cf, rfl, U, S⟩
      have hq : q < cnt := by have := (List.getElem?_eq_some_iff.mp hv).1; simpa [iL] using this
      have ev : v = .int (q : Int) := by
        unfold iL at hv
        rw [List.getElem?_map, List.getElem?_range hq] at hv
        exact (Option.some.inj hv).symm
      subst ev
      clear hv
      refine st_cell (l := tmp (i + 1 + 1 + 1 + 1 + 1 + 1)) (by rfl) S.c6.get ?_
      rw [Fm_modt (by lia)]
      obtain ⟨Ta, eTa⟩ : ∃ T', T' = upd T (tmp (i + 1 + 1 + 1 + 1 + 1 + 1)) (.cell (some (.int (q : Int)))) := ⟨_, rfl⟩
      have Sa := S.set6 (q := some (.int (q : Int)))
      rw [← eTa] at Sa
      have Ua := U.cell (p := some (.int (q : Int))) S.c6
      rw [← eTa] at Ua
      rw [← eTa]
      have hck : ∀ (k : Nat), k < 21 → (if (k : Int) < 0 then 0 - (k : Int) else (k : Int)) < 1000000 := fun k hk => by split <;> lia
      iterate 4 walk_at "mj"
      refine E_cell (l := tmp (i + 1 + 1 + 1)) (p := .loc (tmp ln)) (by rfl) Sa.c3.get ?_
      refine m_list Ua.ns.get F.slot_list_append ty_list_append ?_
      iterate 7 walk_at "mj"
      refine f_loc mp2 ?_
      iterate 1 walk_at "mj"
      refine E_cell (l := tmp (i + 1 + 1 + 1 + 1 + 1 + 1)) (p := .int (q : Int)) (by rfl) Sa.c6.get ?_
      iterate 1 walk_at "mj"
      refine E_cell (l := tmp (i + 1 + 1)) (p := .int cnt) (by rfl) Sa.c2.get ?_
      iterate 1 walk_at "mj"
      refine JE.via (P := fun p H' => H' = Fm (hp w) Ta i m2 ∧ ∃ num : Int, 0 ≤ num ∧ p = .int num) ?_ ?_
      · iterate 4 walk_at "mj"
        refine E_cell (l := tmp (i + 1 + 1 + 1 + 1 + 1 + 1)) (p := .int (q : Int)) (by rfl) Sa.c6.get ?_
        iterate 1 walk_at "mj"
        refine op_add ?_
        iterate 5 walk_at "mj"
        refine f_loc ms2 ?_
        iterate 1 walk_at "mj"
        refine c_len_base hL (by rw [List.size_toArray, vz]; lia) ?_
        refine op_lt ?_
        refine ⟨_, rfl, fun h => ?_, fun h => ?_⟩
        · have hlt2 : q + 2 < xs.length := by rw [List.size_toArray, vz] at h; have := of_decide_eq_true h; lia
          obtain ⟨u, hu, t, rfl⟩ := (Mine.IntsAre.denL (c := ⟨fun _ => none, [], fun _ => 0, fun _ => False⟩) hI).get (i := q + 2) (p := .int xs[q + 2]) (by rw [List.getElem?_map, List.getElem?_eq_getElem hlt2]; rfl)
          iterate 6 walk_at "mj"
          refine f_loc ms2 ?_
          iterate 1 walk_at "mj"
          refine E_cell (l := tmp (i + 1 + 1 + 1 + 1 + 1 + 1)) (p := .int (q : Int)) (by rfl) Sa.c6.get ?_
          iterate 1 walk_at "mj"
          refine op_add ?_
          refine sub_base hL (i := xs[q + 2]) (t := t) (by lia) (by lia) (by rw [show ((q : Int) + 2).toNat = q + 2 by lia]; simpa using hu) ?_
          iterate 1 walk_at "mj"
          refine c_abs ?_
          refine EndE_intro (by assumption) ?_
          exact ⟨rfl, _, by split <;> lia, rfl⟩
        · iterate 7 walk_at "mj"
          refine f_loc mb2 ?_
          iterate 1 walk_at "mj"
          refine c_abs ?_
          iterate 2 walk_at "mj"
          refine E_cell (l := tmp (i + 1 + 1 + 1 + 1 + 1 + 1)) (p := .int (q : Int)) (by rfl) Sa.c6.get ?_
          iterate 0 walk_at "mj"
          refine E_cell (l := tmp (i + 1 + 1 + 1 + 1 + 1 + 1)) (p := .int (q : Int)) (by rfl) Sa.c6.get ?_
          refine op_mul (IntMulOk.of_left (bits21 q (by lia))) ?_
          iterate 1 walk_at "mj"
          refine op_mul (IntMulOk.of_right (by decide)) ?_
          refine op_add ?_
          iterate 2 walk_at "mj"
          refine E_cell (l := tmp (i + 1 + 1 + 1 + 1 + 1 + 1)) (p := .int (q : Int)) (by rfl) Sa.c6.get ?_
          refine op_mul (IntMulOk.of_left (by decide)) ?_
          refine op_add ?_
          have hqq : 0 ≤ (q : Int) * q := Int.mul_nonneg (by lia) (by lia)
          refine EndE_intro (by assumption) ?_
          exact ⟨rfl, _, by split <;> lia, rfl⟩
      rintro p H' ⟨rfl, num, hnum, rfl⟩
      iterate 1 walk_at "mj"
      refine ((c_needs (shape := shape) (count := (cnt : Int)) (number := num) (k := q) O (by lia) ⟨by lia, by lia⟩ hnum).mono fun p H' h => ?_).call
      obtain ⟨l, jn, hl1, hl2, hjn, rfl, rfl⟩ := h
      obtain ⟨hjni, hjnT⟩ := Fm_fresh hjn
      rw [Fm_modt hjni]
      obtain ⟨Tb, eTb⟩ : ∃ T', T' = upd Ta (tmp jn) (.list (iL l)) := ⟨_, rfl⟩
      have hAb : ∀ k q, Ta k = some q → Tb k = some q := fun k q e => by rw [eTb, upd_ne _ _ fun z => by rw [z, hjnT] at e; cases e]; exact e
      have Sb := Sa.up hAb
      have Ub := Ua.up hAb
      have lb : At Tb i jn (.list (iL l)) := ⟨hjni, by rw [eTb, upd_self]⟩
      have jnln : ln ≠ jn := Ne.symm (Ua.ns.new hjnT)
      have jnlt : lt ≠ jn := Ne.symm (Ua.ts.new hjnT)
      rw [← eTb]
      iterate 1 walk_at "mj"
      refine c_append Ub.ns.get (by simp; lia) ?_
      rw [Fm_modt hln]
      obtain ⟨Tc, eTc⟩ : ∃ T', T' = upd Tb (tmp ln) (.list (((List.range q).map fun k => PV.loc (tmp (nl k))) ++ [.loc (tmp jn)])) := ⟨_, rfl⟩
      have UC : SU a ln lt lm i (q + 1) q q w Tc (put1 nd q l) (put1 nl q jn) := eTc ▸ Ub.need lb jnln jnlt ⟨hl1, hl2⟩
      have SC : L5 i a cnt ln lt lm Tc (some (.int (q : Int))) cf none none := eTc ▸ Sb.oth Ub.ns (by first | exact Nat.ne_of_beq_eq_false rfl | simp [Spec.kind])
      have hgn : ((List.range (q + 1)).map fun k => PV.loc (tmp (put1 nl q jn k)))[((q : Int)).toNat]? = some (.loc (tmp jn)) := by
        rw [List.getElem?_map, show ((q : Int)).toNat = q from rfl, List.getElem?_range (Nat.lt_succ_self q)]
        show some (PV.loc (tmp (put1 nl q jn q))) = _
        rw [put1_self]
      have lC : At Tc i jn (.list (iL l)) := by have := UC.nls q (Nat.lt_succ_self q); rw [put1_self, put1_self] at this; exact this
      have lz : l.length ≤ 21 := len21 21 l hl2 fun x hx => by have := hl1 x hx; lia
      rw [← eTc]
      clear Sa Ua Sb Ub lb
      iterate 2 walk_at "mj"
      refine X_assignC ?_
      refine E_comp [(Str.ofString "k", tmp (i + 1 + 1 + 1 + 1 + 1 + 1)), (Str.ofString "a", tmp (i + 1))] (fun v => match v with | .int x => (a.fdiv 40 + x + (q : Int)).fmod 3 == 0 | _ => false) (fun v => v) ?_ (hin := (fun x hx => by
          rcases List.mem_cons.mp hx with rfl | hx
          · exact ⟨(Str.ofString "k", tmp (i + 1 + 1 + 1 + 1 + 1 + 1)), List.Mem.tail _ (List.Mem.tail _ (List.Mem.tail _ (List.Mem.head _))), rfl⟩
          rw [List.mem_singleton.mp hx]
          exact ⟨(Str.ofString "a", tmp (i + 1)), List.Mem.tail _ (List.Mem.tail _ (List.Mem.tail _ (List.Mem.tail _ (List.Mem.tail _ (List.Mem.tail _ (List.Mem.tail _ (List.Mem.tail _ (List.Mem.head _)))))))), rfl⟩))
      iterate 1 walk_at "mj"
      refine E_cell (l := tmp (i + 1 + 1 + 1)) (p := .loc (tmp ln)) (by rfl) SC.c3.get ?_
      iterate 0 walk_at "mj"
      refine E_cell (l := tmp (i + 1 + 1 + 1 + 1 + 1 + 1)) (p := .int (q : Int)) (by rfl) SC.c6.get ?_
      refine sub_list (p := .loc (tmp jn)) UC.ns.get (by lia) (by lia) hgn ?_
      refine ⟨.list (tmp jn), iL l, ⟨rfl, lC.get⟩, by simp [iL]; lia, ?_, ?_, ⟨_, _, lC.get⟩, al_tmp fun jf Td hjf hjfn hTd hAd hEd => ?_⟩
      · intro lc m H' v hv hab hm hx
        obtain ⟨x, hxm, rfl⟩ := List.mem_map.mp hv
        have ha : H' (tmp (i + 1)) = some (.cell (some (.int a))) := hab _ _ SC.c1.get
        have hk : H' (tmp (i + 1 + 1 + 1 + 1 + 1 + 1)) = some (.cell (some (.int (q : Int)))) := hab _ _ SC.c6.get
        refine Ts_one ?_
        iterate 5 walk_at "mj"
        refine E_cell (l := tmp (i + 1)) (p := .int a) (by rfl) ha ?_
        iterate 1 walk_at "mj"
        refine op_div (by decide) (by decide) ?_
        refine E_local hm hx ?_
        refine op_add ?_
        refine E_cell (l := tmp (i + 1 + 1 + 1 + 1 + 1 + 1)) (p := .int (q : Int)) (by rfl) hk ?_
        refine op_add ?_
        iterate 1 walk_at "mj"
        refine op_mod (by decide) ?_
        iterate 1 walk_at "mj"
        refine op_eq ?_
        exact ⟨_, rfl, rfl, Grows.refl _⟩
      · intro lc m H' v hv _ hab hm hx
        exact E_local hm hx ⟨rfl, Grows.refl _⟩
      have ef : (List.filter (fun v => match v with | PV.int x => (a.fdiv 40 + x + (q : Int)).fmod 3 == 0 | _ => false) (iL l)).map (fun v => v) = iL (fdf a (put1 nd q l) q) := by
        unfold iL fdf
        rw [List.map_id', List.filter_map, put1_self]; rfl
      rw [ef] at hTd
      have SD := SC.up hAd
      have UD := UC.up hAd
      have fD : At Td i jf (.list (iL (fdf a (put1 nd q l) q))) := ⟨hjf, hTd⟩
      have lD := lC.up hAd
      clear SC UC lC
      refine st_cell (l := tmp (i + 1 + 1 + 1 + 1 + 1 + 1 + 1)) (by rfl) SD.c7.get ?_
      rw [Fm_modt (by lia)]
      obtain ⟨Te, eTe⟩ : ∃ T', T' = upd Td (tmp (i + 1 + 1 + 1 + 1 + 1 + 1 + 1)) (.cell (some (.loc (tmp jf)))) := ⟨_, rfl⟩
      have SE := SD.set7 (q := some (.loc (tmp jf)))
      rw [← eTe] at SE
      have fE := fD.set (sp' := .cell (some (.loc (tmp jf)))) (fD.nek SD.c7 (by first | exact Nat.ne_of_beq_eq_false rfl | simp [Spec.kind]))
      rw [← eTe] at fE
      have lE := lD.set (sp' := .cell (some (.loc (tmp jf)))) (lD.nek SD.c7 (by first | exact Nat.ne_of_beq_eq_false rfl | simp [Spec.kind]))
      rw [← eTe] at lE
      have UE := UD.cell (p := some (.loc (tmp jf))) SD.c7
      rw [← eTe] at UE
      rw [← eTe]
      clear SD UD lD fD
      iterate 3 walk_at "mj"
      refine E_cell (l := tmp (i + 1 + 1 + 1 + 1 + 1 + 1)) (p := .int (q : Int)) (by rfl) SE.c6.get ?_
      iterate 0 walk_at "mj"
      refine E_cell (l := tmp (i + 1 + 1 + 1 + 1 + 1)) (p := .loc (tmp lm)) (by rfl) SE.c5.get ?_
      iterate 7 walk_at "mj"
      refine E_cell (l := tmp (i + 1 + 1 + 1 + 1 + 1 + 1)) (p := .int (q : Int)) (by rfl) SE.c6.get ?_
      iterate 1 walk_at "mj"
      refine c_str (hck q (by lia)) ?_
      refine op_addS (sizeLine_big (by rw [len_t]; have := str_short q (by lia); lia)) ?_
      refine op_setitem O (kvs := numD (List.range q)) (k := nm q) UE.ms.get (by simp [mD]; lia) ?_
      rw [Fm_modt hlm, dput_mD (g := fun j : Nat => PV.int (j : Int)) nm_inj0 (fun j hj => by have := List.mem_range.mp hj; lia) (by lia) (by simp), ← List.range_succ]
      obtain ⟨Tf, eTf⟩ : ∃ T', T' = upd Te (tmp lm) (.dict (numD (List.range (q + 1)))) := ⟨_, rfl⟩
      have UF : SU a ln lt lm i (q + 1) (q + 1) q w Tf (put1 nd q l) (put1 nl q jn) := eTf ▸ UE.number
      have SF : L5 i a cnt ln lt lm Tf (some (.int (q : Int))) (some (.loc (tmp jf))) none none := eTf ▸ SE.oth UE.ms (by first | exact Nat.ne_of_beq_eq_false rfl | simp [Spec.kind])
      have fF : At Tf i jf (.list (iL (fdf a (put1 nd q l) q))) := eTf ▸ fE.set (fE.nek UE.ms (by first | exact Nat.ne_of_beq_eq_false rfl | simp [Spec.kind]))
      have lF : At Tf i jn (.list (iL l)) := eTf ▸ lE.set (lE.nek UE.ms (by first | exact Nat.ne_of_beq_eq_false rfl | simp [Spec.kind]))
      rw [← eTf]
      clear SE UE fE lE
      have fdq : ∀ x ∈ fdf a (put1 nd q l) q, x < q := fun x hx => by
        unfold fdf at hx
        rw [put1_self] at hx
        exact hl1 x (List.mem_filter.mp hx).1
      have fdn : (fdf a (put1 nd q l) q).Nodup := by
        unfold fdf
        rw [put1_self]
        exact hl2.filter _
      have fdz : (fdf a (put1 nd q l) q).length ≤ 21 := len21 21 _ fdn fun x hx => by have := fdq x hx; lia
      have tdq : ∀ x ∈ tdf a (put1 nd q l) q, x < q := fun x hx => by
        unfold tdf at hx
        rw [put1_self] at hx
        exact hl1 x (List.mem_filter.mp hx).1
      have tdn : (tdf a (put1 nd q l) q).Nodup := by
        unfold tdf
        rw [put1_self]
        exact hl2.filter _
      have tdz : (tdf a (put1 nd q l) q).length ≤ 21 := len21 21 _ tdn fun x hx => by have := tdq x hx; lia
      iterate 4 walk_at "mj"
      refine E_cell (l := tmp (i + 1 + 1 + 1 + 1)) (p := .loc (tmp lt)) (by rfl) SF.c4.get ?_
      refine m_list UF.ts.get F.slot_list_append ty_list_append ?_
      iterate 5 walk_at "mj"
      refine' CW_KW O ?e [Str.ofString "file_dep", Str.ofString "targets", Str.ofString "task_dep"] ?_
      case e => show keepIn (Mine.KH _) _ = true; k_is
      iterate 8 walk_at "mj"
      refine E_cell (l := tmp (i + 1 + 1 + 1 + 1 + 1 + 1)) (p := .int (q : Int)) (by rfl) SF.c6.get ?_
      iterate 1 walk_at "mj"
      refine c_str (hck q (by lia)) ?_
      refine op_addS (sizeLine_big (by rw [len_t]; have := str_short q (by lia); lia)) ?_
      iterate 4 walk_at "mj"
      refine E_comp [] (fun _ => true) (fun v => match v with | .int x => .str (Str.ofString "f" ++ Str.ofString (toString x)) | v => v) ?_ (hin := fun x hx => nomatch hx)
      iterate 0 walk_at "mj"
      refine E_cell (l := tmp (i + 1 + 1 + 1 + 1 + 1 + 1 + 1)) (p := .loc (tmp jf)) (by rfl) SF.c7.get ?_
      refine ⟨.list (tmp jf), iL (fdf a (put1 nd q l) q), ⟨rfl, fF.get⟩, by simp [iL]; lia, ?_, ?_, ⟨_, _, fF.get⟩, al_tmp fun jg Tg hjg hjgn hTg hAg hEg => ?_⟩
      · intro lc m H' v hv hab hm hx
        exact Ts_nil ⟨rfl, Grows.refl _⟩
      · intro lc m H' v hv _ hab hm hx
        obtain ⟨x, hxm, rfl⟩ := List.mem_map.mp hv
        have hxq := fdq x hxm
        iterate 7 walk_at "mj"
        refine E_local hm hx ?_
        iterate 1 walk_at "mj"
        refine c_str (hck x (by lia)) ?_
        refine op_addS (sizeLine_big (by rw [len_f]; have := str_short x (by lia); lia)) ?_
        exact ⟨rfl, Grows.refl _⟩
      have eg : (List.filter (fun _ => true) (iL (fdf a (put1 nd q l) q))).map (fun v => match v with | PV.int x => PV.str (Str.ofString "f" ++ Str.ofString (toString x)) | v => v) = sL fn (fdf a (put1 nd q l) q) := by
        unfold iL
        rw [List.filter_eq_self.mpr (fun _ _ => rfl), List.map_map]; rfl
      rw [eg] at hTg
      have gG : At Tg i jg (.list (sL fn (fdf a (put1 nd q l) q))) := ⟨hjg, hTg⟩
      have SG := SF.up hAg
      have UG := UF.up hAg
      have fG := fF.up hAg
      have lG := lF.up hAg
      clear SF UF fF lF
      iterate 10 walk_at "mj"
      refine E_cell (l := tmp (i + 1 + 1 + 1 + 1 + 1 + 1)) (p := .int (q : Int)) (by rfl) SG.c6.get ?_
      iterate 1 walk_at "mj"
      refine c_str (hck q (by lia)) ?_
      refine op_addS (sizeLine_big (by rw [len_f]; have := str_short q (by lia); lia)) ?_
      iterate 1 walk_at "mj"
      refine ⟨by first | exact Nat.zero_le _ | simp, al_tmp fun jh Th hjh hjhn hTh hAh hEh => ?_⟩
      have gH := gG.up hAh
      have SH := SG.up hAh
      have UH := UG.up hAh
      have fH := fG.up hAh
      have lH := lG.up hAh
      have hH : At Th i jh (.list [.str (fn q)]) := ⟨hjh, hTh⟩
      clear SG UG fG lG gG
      iterate 1 walk_at "mj"
      refine E_comp [(Str.ofString "files", tmp (i + 1 + 1 + 1 + 1 + 1 + 1 + 1))] (fun v => match v with | .int x => !decide (x.toNat ∈ fdf a (put1 nd q l) q) | _ => false) (fun v => match v with | .int x => .str (Str.ofString "t" ++ Str.ofString (toString x)) | v => v) ?_ (hin := (fun x hx => ⟨(Str.ofString "files", tmp (i + 1 + 1 + 1 + 1 + 1 + 1 + 1)), List.Mem.tail _ (List.Mem.tail _ (List.Mem.head _)), by rw [List.mem_singleton.mp hx]⟩))
      iterate 1 walk_at "mj"
      refine E_cell (l := tmp (i + 1 + 1 + 1)) (p := .loc (tmp ln)) (by rfl) SH.c3.get ?_
      iterate 0 walk_at "mj"
      refine E_cell (l := tmp (i + 1 + 1 + 1 + 1 + 1 + 1)) (p := .int (q : Int)) (by rfl) SH.c6.get ?_
      refine sub_list (p := .loc (tmp jn)) UH.ns.get (by lia) (by lia) hgn ?_
      refine ⟨.list (tmp jn), iL l, ⟨rfl, lH.get⟩, by simp [iL]; lia, ?_, ?_, ⟨_, _, lH.get⟩, al_tmp fun jk Tk hjk hjkn hTk hAk hEk => ?_⟩
      · intro lc m H' v hv hab hm hx
        obtain ⟨x, hxm, rfl⟩ := List.mem_map.mp hv
        have hf7 : H' (tmp (i + 1 + 1 + 1 + 1 + 1 + 1 + 1)) = some (.cell (some (.loc (tmp jf)))) := hab _ _ SH.c7.get
        have hfl : H' (tmp jf) = some (.list (iL (fdf a (put1 nd q l) q))) := hab _ _ fH.get
        refine Ts_one ?_
        refine B_cmp ?_
        refine E_local hm hx ?_
        refine E_cell (l := tmp (i + 1 + 1 + 1 + 1 + 1 + 1 + 1)) (p := .loc (tmp jf)) (by rfl) hf7 ?_
        refine op_notin_list hfl eqv_iL ?_
        rw [inside_iL]
        exact ⟨_, rfl, rfl, Grows.refl _⟩
      · intro lc m H' v hv _ hab hm hx
        obtain ⟨x, hxm, rfl⟩ := List.mem_map.mp hv
        have hxq := hl1 x hxm
        iterate 7 walk_at "mj"
        refine E_local hm hx ?_
        iterate 1 walk_at "mj"
        refine c_str (hck x (by lia)) ?_
        refine op_addS (sizeLine_big (by rw [len_t]; have := str_short x (by lia); lia)) ?_
        exact ⟨rfl, Grows.refl _⟩
      have ek : (List.filter (fun v => match v with | PV.int x => !decide (x.toNat ∈ fdf a (put1 nd q l) q) | _ => false) (iL l)).map (fun v => match v with | PV.int x => PV.str (Str.ofString "t" ++ Str.ofString (toString x)) | v => v) = sL nm (tdf a (put1 nd q l) q) := by
        unfold iL tdf
        rw [List.filter_map, List.map_map, put1_self]; rfl
      rw [ek] at hTk
      have UK := UH.up hAk
      have SK := SH.up hAk
      iterate 1 walk_at "mj"
      refine new_task (w := w) (k := q) (jf := jg) (jg := jh) (jt := jk) (ts := ⟨tdf a (put1 nd q l) q, fdf a (put1 nd q l) q⟩) O UK.dd (by rw [UK.tk, if_neg (Nat.lt_irrefl q)]) (by lia) hjg hjh hjk (hAk _ _ gH.2) (hAk _ _ hTh) hTk (fun j hj => by have := fdq j hj; lia) fdn (by show (fdf a (put1 nd q l) q).length ≤ 100; lia) (fun j hj => by have := tdq j hj; lia) (by show (tdf a (put1 nd q l) q).length ≤ 100; lia) ?_
      iterate 1 walk_at "mj"
      refine c_append UK.ts.get (by simp; lia) ?_
      rw [Fm_modt hlt]
      iterate 3 walk_at "mj"
      exact ⟨rfl, _, _, _, _, _, _, rfl, UK.task, SK.oth UK.ts (by first | exact Nat.ne_of_beq_eq_false rfl | simp [Spec.kind])⟩
    · rintro H' ⟨-, w, T, nd, nl, ck, cf, rfl, U, S⟩
      rw [show (iL (List.range cnt)).length = cnt by simp [iL]] at U
      clear n3 t3 m3' S7 hT15
      iterate 8 walk_at "mj"
      refine JE.via (P := LawO w T i cnt m2) ?_ ?_
      · iterate 5 walk_at "mj"
        refine E_cell (l := tmp (i + 1)) (p := .int a) (by rfl) S.c1.get ?_
        iterate 1 walk_at "mj"
        refine op_div (by decide) (by decide) ?_
        iterate 1 walk_at "mj"
        refine op_mod (by decide) ?_
        iterate 1 walk_at "mj"
        refine op_eq ?_
        refine ⟨_, rfl, fun h => ?_, fun h => ?_⟩
        · refine E_cell (l := tmp (i + 1 + 1 + 1 + 1)) (p := .loc (tmp lt)) (by rfl) S.c4.get ?_
          refine EndE_intro (by assumption) ?_
          exact ⟨List.range cnt, lt, T, rfl, rfl, U.ts, fun _ _ e => e, List.nodup_range, fun x => List.mem_range⟩
        · refine E_comp [(Str.ofString "tasks", tmp (i + 1 + 1 + 1 + 1)), (Str.ofString "count", tmp (i + 1 + 1))] (fun _ => true) (fun v => match v with | .int x => .loc (1, cnt - 1 - x.toNat) | v => v) ?_ (hin := (fun x hx => by
          rcases List.mem_cons.mp hx with rfl | hx
          · exact ⟨(Str.ofString "tasks", tmp (i + 1 + 1 + 1 + 1)), List.Mem.tail _ (List.Mem.tail _ (List.Mem.tail _ (List.Mem.tail _ (List.Mem.tail _ (List.Mem.head _))))), rfl⟩
          rw [List.mem_singleton.mp hx]
          exact ⟨(Str.ofString "count", tmp (i + 1 + 1)), List.Mem.tail _ (List.Mem.tail _ (List.Mem.tail _ (List.Mem.tail _ (List.Mem.tail _ (List.Mem.tail _ (List.Mem.tail _ (List.Mem.head _))))))), rfl⟩))
          iterate 5 walk_at "mj"
          refine E_cell (l := tmp (i + 1 + 1)) (p := .int cnt) (by rfl) S.c2.get ?_
          iterate 1 walk_at "mj"
          refine c_range (k := cnt) (al_tmp fun jr Ta hjr hjrn hTa hAa hEa => ?_)
          have Sa := S.up hAa
          have Ua := U.up hAa
          refine ⟨.rng cnt, iL (List.range cnt), ⟨tmp jr, rfl, Fm_gett hjr hTa, by lia, rfl⟩, by simp [iL]; lia, ?_, ?_, ⟨_, _, Ua.ns.get⟩, al_tmp fun jo Tb hjo hjon hTb hAb hEb => ?_⟩
          · intro lc m H' v hv hab hm hx
            exact Ts_nil ⟨rfl, Grows.refl _⟩
          · intro lc m H' v hv _ hab hm hx
            obtain ⟨x, hxm, rfl⟩ := List.mem_map.mp hv
            have hxc := List.mem_range.mp hxm
            have h2 : H' (tmp (i + 1 + 1)) = some (.cell (some (.int cnt))) := hab _ _ Sa.c2.get
            have h4 : H' (tmp (i + 1 + 1 + 1 + 1)) = some (.cell (some (.loc (tmp lt)))) := hab _ _ Sa.c4.get
            have hl : H' (tmp lt) = some (.list ((List.range cnt).map fun k => PV.loc (1, k))) := hab _ _ Ua.ts.get
            refine E_sub ?_
            refine E_cell (l := tmp (i + 1 + 1 + 1 + 1)) (p := .loc (tmp lt)) (by rfl) h4 ?_
            refine E_bin (E_bin ?_)
            refine E_cell (l := tmp (i + 1 + 1)) (p := .int cnt) (by rfl) h2 ?_
            refine E_int ?_
            refine op_sub ?_
            refine E_local hm hx ?_
            refine op_sub ?_
            refine sub_list (p := .loc (1, cnt - 1 - x)) hl (by lia) (by lia) ?_ ⟨rfl, Grows.refl _⟩
            rw [show ((cnt : Int) - 1 - (x : Int)).toNat = cnt - 1 - x by lia, List.getElem?_map, List.getElem?_range (by lia)]; rfl
          · have eo : (List.filter (fun _ => true) (iL (List.range cnt))).map (fun v => match v with | PV.int x => PV.loc (1, cnt - 1 - x.toNat) | v => v) = (List.range cnt).reverse.map fun k => PV.loc (1, k) := by
              have er : (List.range cnt).reverse = (List.range cnt).map fun x => cnt - 1 - x := by
                refine List.ext_getElem (by simp) fun j h1 h2 => ?_
                simp
              unfold iL
              rw [List.filter_eq_self.mpr (fun _ _ => rfl), List.map_map, er, List.map_map]; rfl
            rw [eo] at hTb
            refine EndE_intro (by assumption) ?_
            exact ⟨(List.range cnt).reverse, jo, Tb, rfl, rfl, ⟨hjo, hTb⟩, fun k q e => hAb _ _ (hAa _ _ e), nodup_rev List.nodup_range, fun x => by rw [List.mem_reverse, List.mem_range]⟩
      rintro p H' ⟨ord, jl, Tc, rfl, rfl, lo, hAc, hon, hom⟩
      have Uc := U.up hAc
      have Sc := S.up hAc
      clear U S
      have fds : ∀ k, ∀ j ∈ fdf a nd k, j ∈ nd k := fun k j hj => (List.mem_filter.mp hj).1
      have tds : ∀ k, ∀ j ∈ tdf a nd k, j ∈ nd k := fun k j hj => (List.mem_filter.mp hj).1
      have dis : ∀ k, ∀ j ∈ fdf a nd k, j ∉ tdf a nd k := fun k j hj hm => by
        have := (List.mem_filter.mp hm).2
        simp [hj] at this
      have ndo : ∀ k ∈ ord, ∀ j ∈ nd k, j ∈ ord := fun k hk j hj => by
        have h1 := (hom k).mp hk
        have h2 := (Uc.ndl k h1).1 j hj
        exact (hom j).mpr (by lia)
      have ndz : ∀ k ∈ ord, (nd k).length ≤ 21 := fun k hk => len21 21 _ (Uc.ndl k ((hom k).mp hk)).2 fun j hj => by
        have h1 := (hom k).mp hk
        have h2 := (Uc.ndl k h1).1 j hj
        lia
      have hoz : ord.length ≤ 100 := by
        have := len21 21 ord hon fun j hj => by have := (hom j).mp hj; lia
        lia
      iterate 1 walk_at "mj"
      refine new_ctl (w := w) (jl := jl) (ord := ord) (ts := fun k => ⟨tdf a nd k, fdf a nd k⟩) O Uc.dd Uc.ct (fun k hk => ⟨by have := (hom k).mp hk; lia, by rw [Uc.tk, if_pos ((hom k).mp hk)]⟩) hon hoz
        (fun k hk j hj => ndo k hk j (fds k j hj)) (fun k hk j hj => dis k j hj) (fun k hk => (Uc.ndl k ((hom k).mp hk)).2.filter _) (fun k hk j hj => ndo k hk j (tds k j hj))
        (fun k hk => Nat.le_trans (List.length_filter_le _ _) (Nat.le_trans (ndz k hk) (by decide))) (fun k hk => Nat.le_trans (List.length_filter_le _ _) (Nat.le_trans (ndz k hk) (by decide))) lo.1 lo.2 ?_
      refine f_st ?_
      iterate 5 walk_at "mj"
      refine f_methK O ctl_is.ob rfl (kmC_process _) ?_
      iterate 4 walk_at "mj"
      refine use_fn (c_process (w := w.imps ord) O fun l hl => Fm_nm hl) ?_
      rintro p N' ⟨rfl, rfl⟩
      iterate 5 walk_at "mj"
      refine f_methK O ctl_is.ob rfl (kmC_task_dispatcher _) ?_
      iterate 1 walk_at "mj"
      refine use_fn (c_task_dispatcher (w := w.imps ord) (ord := ord) O Uc.dd hoz fun l hl => Fm_nm hl) ?_
      rintro p N' ⟨rfl, rfl⟩
      refine f_st ?_
      generalize hm3 : ((sto (sto m2 (Str.ofString "control") (PV.loc (20, 0))) (Str.ofString "dispatcher") (PV.loc (30, 0)))) = m3
      revert m3; refine bar ?_; intro m3 hm3
      have mh3 : m3 (Str.ofString "hands") = some (.int hands) := by rw [← hm3]; exact mh2
      have md3 : m3 (Str.ofString "dispatcher") = some (.loc (30, 0)) := by rw [← hm3]; rfl
      clear hm3 ms2 mb2 mp2 mh2
      obtain ⟨dp, edp⟩ : ∃ dp : Nat → List Nat, dp = fun k => if k < cnt then tdf a nd k ++ fdf a nd k else [] := ⟨_, rfl⟩
      obtain ⟨wD, ewD⟩ : ∃ wD, wD = (w.imps ord).ctl (ctlAt (.loc (24, 0))) (some (.dict (taskD ord))) (some (.dict (tgtD ord))) (some (.list (sL nm ord))) := ⟨_, rfl⟩
      have D : TD wD cnt dp (taskD ord) := by
        refine ⟨hc20, fun k hk => ⟨imp ⟨tdf a nd k, fdf a nd k⟩, ?_, ?_⟩, fun k j hj => ?_, fun k => ?_, by rw [ewD]; rfl, fun k hk => ?_⟩
        · rw [ewD]
          show (w.tk k).map (fun t => if k ∈ ord then imp t else t) = _
          rw [Uc.tk, if_pos hk, Option.map_some, if_pos ((hom k).mpr hk)]
        · rw [edp]; dsimp only; rw [if_pos hk]; rfl
        · rw [edp] at hj
          dsimp only at hj
          split at hj
          · rename_i hk
            rcases List.mem_append.mp hj with hj | hj
            · exact (Uc.ndl k hk).1 j (tds k j hj)
            · exact (Uc.ndl k hk).1 j (fds k j hj)
          · cases hj
        · rw [edp]
          dsimp only
          split
          · rename_i hk
            rw [List.nodup_append]
            exact ⟨(Uc.ndl k hk).2.filter _, (Uc.ndl k hk).2.filter _, fun x hx y hy e => dis k x (e ▸ hy) hx⟩
          · exact List.nodup_nil
        · rw [dget_mD nm_inj0 (fun j hj => by have := (hom j).mp hj; lia) (by lia), if_pos ((hom k).mpr hk)]
      have dpn : ∀ k, k < cnt → ∀ j, j ∈ nd k ↔ j ∈ dp k := fun k hk j => by
        rw [edp]
        dsimp only
        rw [if_pos hk, List.mem_append]
        constructor
        · intro hj
          by_cases h : j ∈ fdf a nd k
          · exact .inr h
          · exact .inl (List.mem_filter.mpr ⟨hj, by simp [h]⟩)
        · rintro (h | h)
          · exact tds k j h
          · exact fds k j h
      have R0 : RI cnt dp (sg0 ord.reverse) [] [] false := RI.begin hc20 (nodup_rev hon) fun j => by rw [List.mem_reverse]; exact hom j
      rw [← ewD]
      iterate 2 walk_at "mj"
      refine X_tuple (xs := [(Str.ofString "done", _), (Str.ofString "rounds", _), (Str.ofString "hand", _), (Str.ofString "over", _)]) ?_
      iterate 4 walk_at "mj"
      refine ⟨by first | exact Nat.zero_le _ | simp, al_tmp fun jd Td hjd hjdn hTd hAd hEd => ?_⟩
      iterate 5 walk_at "mj"
      refine ⟨by first | exact Nat.zero_le _ | simp, al_tmp fun jh Te hjh hjhn hTe hAe hEe => ?_⟩
      iterate 3 walk_at "mj"
      refine ⟨by first | exact Nat.zero_le _ | simp, al_tmp fun jt Tf hjt hjtn hTf hAf hEf => ?_⟩
      refine ⟨tmp jt, _, rfl, .inr (Fm_gett hjt hTf), rfl, ?_⟩
      have LD : LF cnt ln lm i Tf nd nl := (LF.mk Uc.nls Uc.ns Uc.ms).up fun k q e => hAf _ _ (hAe _ _ (hAd _ _ e))
      have SD := Sc.up (T' := Tf) fun k q e => hAf _ _ (hAe _ _ (hAd _ _ e))
      have dD : At Tf i jd (.list (iL [])) := ⟨hjd, hAf _ _ (hAe _ _ hTd)⟩
      have hD : At Tf i jh (.list (nodes [])) := ⟨hjh, hAf _ _ hTe⟩
      show JStore _ _ _ _ (fun H' => JStores _ _ _ _ _ H') _
      refine st_cell (l := tmp (i + 1 + 1 + 1 + 1 + 1 + 1 + 1 + 1)) (by rfl) SD.c8.get ?_
      rw [Fm_modt (by lia)]
      obtain ⟨Tg, eTg⟩ : ∃ T', T' = upd Tf (tmp (i + 1 + 1 + 1 + 1 + 1 + 1 + 1 + 1)) (.cell (some (.loc (tmp jd)))) := ⟨_, rfl⟩
      have SG := SD.set8 (q := some (.loc (tmp jd)))
      rw [← eTg] at SG
      have dG := dD.set (sp' := .cell (some (.loc (tmp jd)))) (dD.nek SD.c8 (by first | exact Nat.ne_of_beq_eq_false rfl | simp [Spec.kind]))
      rw [← eTg] at dG
      have hG := hD.set (sp' := .cell (some (.loc (tmp jd)))) (hD.nek SD.c8 (by first | exact Nat.ne_of_beq_eq_false rfl | simp [Spec.kind]))
      rw [← eTg] at hG
      have LG := LD.cell (p := some (.loc (tmp jd))) SD.c8
      rw [← eTg] at LG
      rw [← eTg]
      show JStore _ _ _ _ (fun H' => JStores _ _ _ _ _ H') _
      refine f_st ?_
      show JStore _ _ _ _ (fun H' => JStores _ _ _ _ _ H') _
      refine f_st ?_
      show JStore _ _ _ _ (fun H' => JStores _ _ _ _ _ H') _
      refine f_st ?_
      show SeqQ _ _ _ _ _ _ _ _
      have ndl := Uc.ndl
      clear SD LD dD hD Uc Sc
      generalize hm4 : ((sto (sto (sto m3 (Str.ofString "rounds") (PV.int 0)) (Str.ofString "hand") (PV.loc (tmp jh))) (Str.ofString "over") (PV.bool false))) = m4
      revert m4; refine bar ?_; intro m4 hm4
      have mh4 : m4 (Str.ofString "hands") = some (.int hands) := by rw [← hm4]; exact mh3
      have md4 : m4 (Str.ofString "dispatcher") = some (.loc (30, 0)) := by rw [← hm4]; exact md3
      have fr0 : m4 (Str.ofString "rounds") = some (.int ((0 : Nat) : Int)) := by rw [← hm4]; rfl
      have fh0 : m4 (Str.ofString "hand") = some (.loc (tmp jh)) := by rw [← hm4]; rfl
      have fo0 : m4 (Str.ofString "over") = some (.bool false) := by rw [← hm4]; rfl
      clear hm4 mh3 md3

      iterate 2 walk_at "mj"
      refine X_while (LawA i a cnt ln lt lm nd nl dp wD m4) cnt
        ⟨sg0 ord.reverse, [], [], false, 0, Tg, m4, jd, jh, _, _, _, by rw [ovr_self] <;> rfl, R0, ⟨LG, SG, dG, hG, fr0, fh0, fo0⟩, Nat.le_refl _, rfl⟩ ?_
      clear R0 LG SG dG hG fr0 fh0 fo0
      rintro k H' ⟨σ, Dn, Hd, over, r, T, f, jd, jh, ck, cf, cw, rfl, R, ⟨L, S, dn, hn, fr, fh, fo⟩, hr, rfl⟩
      iterate 1 walk_at "mj"
      refine f_loc (p := .int (r : Nat)) fr ?_
      refine E_cell (l := tmp (i + 1 + 1)) (p := .int cnt) (by rfl) S.c2.get ?_
      refine op_le ?_
      have hDc : Dn.length ≤ cnt := by have := R.dlen; lia
      rw [decide_eq_true (show (r : Int) ≤ (cnt : Int) by lia)]
      refine ⟨true, rfl, fun _ => ?_, fun h => (nomatch h)⟩
      iterate 2 walk_at "mj"
      refine JX.via (P := fun fl H' => fl = .next ∧ LawB i a cnt ln lt lm nd nl dp wD m4 Dn r jd ck cf cw (fun Hd over => (hands ≤ Hd.length ∨ Stuck cnt dp Dn Hd) ∧ (Hd = [] → over = true)) H') ?_ ?_
      · intro QJ hQJ
        refine X_while (fun k H' => LawB i a cnt ln lt lm nd nl dp wD m4 Dn r jd ck cf cw (fun Hd _ => k = hands - Hd.length) H') (hands - Hd.length) ⟨σ, Hd, over, T, f, jh, rfl, R, ⟨L, S, dn, hn, fr, fh, fo⟩, rfl⟩ ?_
        clear R L S dn hn fr fh fo
        rintro k H' ⟨σ, Hd, over, T, f, jh, rfl, R, ⟨L, S, dn, hn, fr, fh, fo⟩, rfl⟩
        have hHc : Hd.length ≤ cnt := by have := R.dlen; lia
        iterate 6 walk_at "mj"
        refine f_loc (p := .loc (tmp jh)) fh ?_
        iterate 1 walk_at "mj"
        refine c_len hn.get (by simp [nodes]; lia) ?_
        refine f_loc (m := ovr m4 lawNs f) (p := .int hands) mh4 ?_
        refine op_lt ?_
        refine ⟨_, rfl, fun h => ?_, fun h => ?_⟩
        · have hlt : Hd.length < hands := by have := of_decide_eq_true h; simp [nodes] at this; lia
          iterate 8 walk_at "mj"
          refine f_loc (m := ovr m4 lawNs f) (p := .loc (30, 0)) md4 ?_
          iterate 3 walk_at "mj"
          refine ((c_took (w := wD.sg σ) (σ := σ) (σu := σ) (pr := .none) O D.sg rfl (fun hN => c_update0 (σ := σ) O rfl hN) R.li fun l hl => Fm_nm hl).mono fun p H' hT => ?_).call
          obtain ⟨o, ho, hT⟩ := hT
          cases o with
          | go σ' => exact ho.elim
          | got k σ' =>
            obtain ⟨jn, hjn, rfl, rfl⟩ := hT
            obtain ⟨hjni, hjnT⟩ := Fm_fresh hjn
            rw [upd_ov_Fm hjni]
            obtain ⟨rfl, R'⟩ := R.got ho
            obtain ⟨T1, eT1⟩ : ∃ T', T' = upd T (tmp jn) (.list [.loc (40, k)]) := ⟨_, rfl⟩
            have hA1 : ∀ k q, T k = some q → T1 k = some q := eT1 ▸ upd_up hjnT
            have tk : At T1 i jn (.list [.loc (40, k)]) := ⟨hjni, by rw [eT1, upd_self]⟩
            rw [← eT1]
            refine f_st ?_
            rw [ovr_st (by decide)]
            iterate 6 walk_at "mj"
            refine f_loc (p := .bool false) fo ?_
            refine t_bool ?_
            iterate 9 walk_at "mj"
            refine op_is ?_
            refine f_st ?_
            rw [ovr_st (by decide)]
            iterate 6 walk_at "mj"
            refine t_list (vs := [.loc (40, k)]) tk.get (by simp) ?_
            refine ⟨fun h => (nomatch (show false = true from h)), fun _ => ?_⟩
            iterate 5 walk_at "mj"
            refine f_loc (p := .loc (tmp jh)) fh ?_
            iterate 1 walk_at "mj"
            refine op_addL (hn.up hA1).get tk.get (by simp [nodes]; lia) (al_tmp fun j2 T2 hj2 hjn2 hT2 hA2 hE2 => ?_)
            have hA : ∀ k q, T k = some q → T2 k = some q := fun k q e => hA2 _ _ (hA1 _ _ e)
            have hT2 : T2 (tmp j2) = some (.list (nodes (Hd ++ [k]))) := by rw [hT2]; simp [nodes]
            refine f_st ?_
            rw [ovr_st (by decide)]
            iterate 3 walk_at "mj"
            exact ⟨hands - (Hd ++ [k]).length, by simp; lia, σ', Hd ++ [k], false, T2, _, j2, rfl, R', ⟨L.up hA, S.up hA, dn.up hA, ⟨hj2, hT2⟩, fr, rfl, rfl⟩, rfl⟩
          | hold σ' =>
            obtain ⟨jn, hjn, rfl, rfl⟩ := hT
            obtain ⟨hjni, hjnT⟩ := Fm_fresh hjn
            rw [upd_ov_Fm hjni]
            obtain ⟨rfl, R', hst, hne⟩ := R.hold D.dlt ho.1 ho.2
            obtain ⟨T1, eT1⟩ : ∃ T', T' = upd T (tmp jn) (.list []) := ⟨_, rfl⟩
            have hA1 : ∀ k q, T k = some q → T1 k = some q := eT1 ▸ upd_up hjnT
            have tk : At T1 i jn (.list []) := ⟨hjni, by rw [eT1, upd_self]⟩
            rw [← eT1]
            refine f_st ?_
            rw [ovr_st (by decide)]
            iterate 6 walk_at "mj"
            refine f_loc (p := .bool false) fo ?_
            refine t_bool ?_
            iterate 9 walk_at "mj"
            refine op_is ?_
            refine f_st ?_
            rw [ovr_st (by decide)]
            iterate 6 walk_at "mj"
            refine t_list (vs := []) tk.get (by simp) ?_
            refine ⟨fun _ => ?_, fun h => (nomatch (show true = false from h))⟩
            iterate 6 walk_at "mj"
            exact ⟨rfl, σ', Hd, false, T1, _, jh, rfl, R', ⟨L.up hA1, S.up hA1, dn.up hA1, hn.up hA1, fr, fh, rfl⟩, .inr hst, fun e => absurd e hne⟩
          | non σ' =>
            obtain ⟨rfl, rfl⟩ := hT
            rw [ov_Fm]
            obtain ⟨R', hst⟩ := R.non ho.1 ho.2
            refine f_st ?_
            rw [ovr_st (by decide)]
            iterate 2 walk_at "mj"
            refine JX.via (P := fun fl H' => fl = .next ∧ H' = Fm (hp (wD.sg σ')) T i (ovr m4 lawNs (sto f (Str.ofString "took") PV.none))) ?_ ?_
            · iterate 5 walk_at "mj"
              refine f_loc (p := .bool over) fo ?_
              refine t_bool ?_
              refine ⟨fun _ => ?_, fun _ => ?_⟩
              · iterate 4 walk_at "mj"
                refine op_isnot ?_
                refine ⟨false, rfl, fun h => (nomatch h), fun _ => ?_⟩
                iterate 3 walk_at "mj"
                exact ⟨rfl, rfl⟩
              · iterate 3 walk_at "mj"
                exact ⟨rfl, rfl⟩
            rintro fl H' ⟨rfl, rfl⟩
            iterate 6 walk_at "mj"
            refine op_is ?_
            refine f_st ?_
            rw [ovr_st (by decide)]
            iterate 6 walk_at "mj"
            refine t_none ?_
            refine ⟨fun _ => ?_, fun h => (nomatch (show true = false from h))⟩
            iterate 6 walk_at "mj"
            exact ⟨rfl, σ', Hd, true, T, _, jh, rfl, R', ⟨L, S, dn, hn, fr, fh, rfl⟩, .inr hst, fun _ => rfl⟩
        · have hge : hands ≤ Hd.length := by have := of_decide_eq_false h; simp [nodes] at this; lia
          refine EndQ_intro (by assumption) ?_
          exact ⟨rfl, σ, Hd, over, T, f, jh, rfl, R, ⟨L, S, dn, hn, fr, fh, fo⟩, .inl hge, fun e => by rw [e] at hge; simp at hge; lia⟩
      rintro fl H' ⟨rfl, σ, Hd, over, T, f, jh, rfl, R, ⟨L, S, dn, hn, fr, fh, fo⟩, hst, hov⟩
      have hlen := R.dlen
      iterate 4 walk_at "mj"
      refine f_loc (p := .loc (tmp jh)) fh ?_
      iterate 2 walk_at "mj"
      refine ⟨by first | exact Nat.zero_le _ | simp, al_tmp fun j1 T1 hj1 hjn1 hT1 hA1 hE1 => ?_⟩
      refine op_eqL_nil (hn.up hA1).get (Fm_gett hj1 hT1) ?_
      by_cases hHe : Hd = []
      · subst hHe
        obtain rfl := hov rfl
        refine ⟨true, rfl, fun _ => ?_, fun h => (nomatch h)⟩
        iterate 9 walk_at "mj"
        refine f_loc (p := .bool true) fo ?_
        refine t_bool ?_
        iterate 7 walk_at "mj"
        refine E_cell (l := tmp (i + 1 + 1 + 1 + 1 + 1 + 1 + 1 + 1)) (p := .loc (tmp jd)) (by rfl) (S.up hA1).c8.get ?_
        iterate 1 walk_at "mj"
        refine c_sorted (xs := Dn.map fun x : Nat => (x : Int)) (by rw [← iL_int]; exact (dn.up hA1).get) (by simp; lia) fun ys hys1 hys2 => al_tmp fun j2 T2 hj2 hjn2 hT2 hA2 hE2 => ?_
        refine E_comp [] (fun _ => true) (fun v => v) ?_ (hin := fun x hx => nomatch hx)
        iterate 5 walk_at "mj"
        refine E_cell (l := tmp (i + 1 + 1)) (p := .int cnt) (by rfl) ((S.up hA1).up hA2).c2.get ?_
        iterate 1 walk_at "mj"
        refine c_range (k := cnt) (al_tmp fun j3 T3 hj3 hjn3 hT3 hA3 hE3 => ?_)
        refine ⟨.rng cnt, iL (List.range cnt), ⟨tmp j3, rfl, Fm_gett hj3 hT3, by lia, rfl⟩, by simp [iL]; lia, ?_, ?_, ⟨_, _, Fm_gett hj3 hT3⟩, al_tmp fun j4 T4 hj4 hjn4 hT4 hA4 hE4 => ?_⟩
        · intro lc m H' v hv hab hm hx
          exact Ts_nil ⟨rfl, Grows.refl _⟩
        · intro lc m H' v hv _ hab hm hx
          exact E_local hm hx ⟨rfl, Grows.refl _⟩
        have e4 : (List.filter (fun _ => true) (iL (List.range cnt))).map (fun v => v) = ((List.range cnt).map fun x : Nat => (x : Int)).map PV.int := by
          rw [List.filter_eq_self.mpr (fun _ _ => rfl), List.map_id', iL_int]
        rw [e4] at hT4
        refine op_eqL_int (Fm_gett hj2 (hA4 _ _ (hA3 _ _ hT2))) (Fm_gett hj4 hT4) ?_
        rw [decide_eq_true (R.all hys1 hys2)]
        iterate 2 walk_at "mj"
        rfl
      · have hHb : (nodes Hd).isEmpty = false := by cases Hd with | nil => exact absurd rfl hHe | cons x r => rfl
        have hHl : 1 ≤ Hd.length := by cases Hd with | nil => exact absurd rfl hHe | cons x r => simp
        rw [hHb]
        refine ⟨false, rfl, fun h => (nomatch h), fun _ => ?_⟩
        replace L := L.up hA1
        replace S := S.up hA1
        replace dn := dn.up hA1
        replace hn := hn.up hA1
        clear hjn1 hT1 hA1 hE1
        iterate 3 walk_at "mj"
        refine X_aug (m := ovr m4 lawNs f) (i := (r : Nat)) (j := 1) Fm_self fr ?_
        iterate 1 walk_at "mj"
        refine ⟨rfl, ?_⟩
        refine f_st ?_
        rw [ovr_st (by decide)]
        obtain ⟨f1, ef1⟩ : ∃ f1 : Str → Option PV, f1 = (sto f (Str.ofString "rounds") (PV.int ((r : Nat) + 1))) := ⟨_, rfl⟩
        have fr1 : f1 (Str.ofString "rounds") = some (.int ((r + 1 : Nat) : Int)) := by rw [ef1]; rfl
        have fh1 : f1 (Str.ofString "hand") = some (.loc (tmp jh)) := by rw [ef1]; exact fh
        have fo1 : f1 (Str.ofString "over") = some (.bool over) := by rw [ef1]; exact fo
        rw [← ef1]
        clear ef1 fr fh fo
        iterate 2 walk_at "mj"
        refine X_assignC ?_
        refine E_comp [(Str.ofString "numbers", tmp (i + 1 + 1 + 1 + 1 + 1))] (fun _ => true) (fun v => match v with | .loc l => .int (l.2 : Nat) | v => v) ?_ (hin := (fun x hx => ⟨(Str.ofString "numbers", tmp (i + 1 + 1 + 1 + 1 + 1)), List.Mem.tail _ (List.Mem.tail _ (List.Mem.tail _ (List.Mem.tail _ (List.Mem.head _)))), by rw [List.mem_singleton.mp hx]⟩))
        refine f_loc (p := .loc (tmp jh)) fh1 ?_
        refine ⟨.list (tmp jh), nodes Hd, ⟨rfl, hn.get⟩, by simp [nodes]; lia, ?_, ?_, ⟨_, _, hn.get⟩, al_tmp fun jc T2 hjc hjcn hT2 hA2 hE2 => ?_⟩
        · intro lc m H' v hv hab hm hx
          exact Ts_nil ⟨rfl, Grows.refl _⟩
        · intro lc m H' v hv _ hab hm hx
          obtain ⟨x, hxm, rfl⟩ := List.mem_map.mp hv
          obtain ⟨d, hd⟩ := R.has hxm
          have hxc := R.lt x (List.mem_append.mpr (.inr hxm))
          obtain ⟨ts, hts, -⟩ := D.tk x hxc
          refine E_sub ?_
          refine E_cell (l := tmp (i + 1 + 1 + 1 + 1 + 1)) (p := .loc (tmp lm)) (by rfl) (hab _ _ S.c5.get) ?_
          refine E_attr (E_attr (E_local hm hx ?_))
          refine op_attr O (hab _ _ (ob_n (w := wD.sg σ) rfl hd).e) (hab _ _ (ob_n (w := wD.sg σ) rfl hd).f) rfl (kaN _ _ (by decide)) ?_
          refine op_attr O (hab _ _ (ob_t (w := wD.sg σ) hts).e) (hab _ _ (ob_t (w := wD.sg σ) hts).f) rfl (kaT _ _ (by decide)) ?_
          exact sub_dict (p := .int (x : Nat)) (hab _ _ L.ms.get) (by rw [dget_mD nm_inj0 (fun j hj => by have := List.mem_range.mp hj; lia) (by lia), if_pos (List.mem_range.mpr hxc)]) ⟨rfl, Grows.refl _⟩
        have e2 : (List.filter (fun _ => true) (nodes Hd)).map (fun v => match v with | PV.loc l => PV.int (l.2 : Nat) | v => v) = iL Hd := by
          unfold nodes iL
          rw [List.filter_eq_self.mpr (fun _ _ => rfl), List.map_map]; rfl
        rw [e2] at hT2
        replace L := L.up hA2
        replace S := S.up hA2
        replace dn := dn.up hA2
        replace hn := hn.up hA2
        have cm2 : At T2 i jc (.list (iL Hd)) := ⟨hjc, hT2⟩
        clear hjcn hT2 hA2 hE2
        refine st_cell (l := tmp (i + 1 + 1 + 1 + 1 + 1 + 1 + 1 + 1 + 1)) (by rfl) S.c9.get ?_
        rw [Fm_modt (by lia)]
        obtain ⟨T3, eT3⟩ : ∃ T', T' = upd T2 (tmp (i + 1 + 1 + 1 + 1 + 1 + 1 + 1 + 1 + 1)) (.cell (some (.loc (tmp jc)))) := ⟨_, rfl⟩
        have S3 := S.set9 (q := some (.loc (tmp jc)))
        rw [← eT3] at S3
        have dn3 := dn.set (sp' := .cell (some (.loc (tmp jc)))) (dn.nek S.c9 (by first | exact Nat.ne_of_beq_eq_false rfl | simp [Spec.kind]))
        rw [← eT3] at dn3
        have hn3 := hn.set (sp' := .cell (some (.loc (tmp jc)))) (hn.nek S.c9 (by first | exact Nat.ne_of_beq_eq_false rfl | simp [Spec.kind]))
        rw [← eT3] at hn3
        have cm3 := cm2.set (sp' := .cell (some (.loc (tmp jc)))) (cm2.nek S.c9 (by first | exact Nat.ne_of_beq_eq_false rfl | simp [Spec.kind]))
        rw [← eT3] at cm3
        have L3 := L.cell (p := some (.loc (tmp jc))) S.c9
        rw [← eT3] at L3
        rw [← eT3]
        clear S dn hn cm2 L
        iterate 9 walk_at "mj"
        refine E_comp [(Str.ofString "needs", tmp (i + 1 + 1 + 1)), (Str.ofString "done", tmp (i + 1 + 1 + 1 + 1 + 1 + 1 + 1 + 1)), (Str.ofString "came", tmp (i + 1 + 1 + 1 + 1 + 1 + 1 + 1 + 1 + 1))] (fun _ => false) (fun v => v) ?_ (hin := (fun x hx => by
          rcases List.mem_cons.mp hx with rfl | hx
          · exact ⟨(Str.ofString "needs", tmp (i + 1 + 1 + 1)), List.Mem.tail _ (List.Mem.tail _ (List.Mem.tail _ (List.Mem.tail _ (List.Mem.tail _ (List.Mem.tail _ (List.Mem.head _)))))), rfl⟩
          rcases List.mem_cons.mp hx with rfl | hx
          · exact ⟨(Str.ofString "done", tmp (i + 1 + 1 + 1 + 1 + 1 + 1 + 1 + 1)), List.Mem.tail _ (List.Mem.head _), rfl⟩
          rw [List.mem_singleton.mp hx]
          exact ⟨(Str.ofString "came", tmp (i + 1 + 1 + 1 + 1 + 1 + 1 + 1 + 1 + 1)), List.Mem.head _, rfl⟩))
        refine E_cell (l := tmp (i + 1 + 1 + 1 + 1 + 1 + 1 + 1 + 1 + 1)) (p := .loc (tmp jc)) (by rfl) S3.c9.get ?_
        refine ⟨.list (tmp jc), iL Hd, ⟨rfl, cm3.get⟩, by simp [iL]; lia, ?_, ?_, ⟨_, _, cm3.get⟩, al_tmp fun je T4 hje hjen hT4 hA4 hE4 => ?_⟩
        · intro lc m H' v hv hab hm hx
          obtain ⟨x, hxm, rfl⟩ := List.mem_map.mp hv
          have hxc := R.lt x (List.mem_append.mpr (.inr hxm))
          have c3 : H' (tmp (i + 1 + 1 + 1)) = some (.cell (some (.loc (tmp ln)))) := hab _ _ S3.c3.get
          have c8 : H' (tmp (i + 1 + 1 + 1 + 1 + 1 + 1 + 1 + 1)) = some (.cell (some (.loc (tmp jd)))) := hab _ _ S3.c8.get
          have c9 : H' (tmp (i + 1 + 1 + 1 + 1 + 1 + 1 + 1 + 1 + 1)) = some (.cell (some (.loc (tmp jc)))) := hab _ _ S3.c9.get
          have hd' : H' (tmp jd) = some (.list (iL Dn)) := hab _ _ dn3.get
          have hc' : H' (tmp jc) = some (.list (iL Hd)) := hab _ _ cm3.get
          have hn' : H' (tmp ln) = some (.list ((List.range cnt).map fun k => PV.loc (tmp (nl k)))) := hab _ _ L3.ns.get
          have hx' : H' (tmp (nl x)) = some (.list (iL (nd x))) := hab _ _ (L3.nls x hxc).get
          have hxz : (nd x).length ≤ 21 := len21 21 _ (ndl x hxc).2 fun j hj => by have := (ndl x hxc).1 j hj; lia
          refine Ts_one (B_bool ?_)
          refine All_or (B_cmp ?_)
          refine E_local hm hx ?_
          refine E_cell (l := tmp (i + 1 + 1 + 1 + 1 + 1 + 1 + 1 + 1)) (p := .loc (tmp jd)) (by rfl) c8 ?_
          refine op_in_list hd' eqv_iL ?_
          rw [inside_iL, decide_eq_false (R.out hxm)]
          refine ⟨false, rfl, fun _ => ?_, fun h => (nomatch h)⟩
          refine All_or (B_cmp ?_)
          refine E_meth _ ?_
          refine E_cell (l := tmp (i + 1 + 1 + 1 + 1 + 1 + 1 + 1 + 1 + 1)) (p := .loc (tmp jc)) (by rfl) c9 ?_
          refine m_list hc' F.slot_list_count ty_list_count ?_
          refine CW_B (A_cons (E_local hm hx (A_nil ?_)))
          refine c_count hc' eqv_iL ?_
          refine E_int ?_
          refine op_gt ?_
          rw [decide_eq_false (by have := count_one (R.nodup) x; lia)]
          refine ⟨false, rfl, fun _ => ?_, fun h => (nomatch h)⟩
          refine All_or (B_cmp ?_)
          refine E_comp [(Str.ofString "done", tmp (i + 1 + 1 + 1 + 1 + 1 + 1 + 1 + 1))] (fun v => match v with | .int y => !decide (y.toNat ∈ Dn) | _ => false) (fun v => v) ?_ (hin := fun y hy => ⟨(Str.ofString "done", tmp (i + 1 + 1 + 1 + 1 + 1 + 1 + 1 + 1)), List.Mem.tail _ (List.Mem.head _), by rw [List.mem_singleton.mp hy]⟩)
          refine E_sub ?_
          refine E_cell (l := tmp (i + 1 + 1 + 1)) (p := .loc (tmp ln)) (by rfl) c3 ?_
          refine E_local hm hx ?_
          refine sub_list (p := .loc (tmp (nl x))) hn' (by lia) (by lia) (by rw [show ((x : Nat) : Int).toNat = x from rfl, List.getElem?_map, List.getElem?_range hxc]; rfl) ?_
          refine ⟨.list (tmp (nl x)), iL (nd x), ⟨rfl, hx'⟩, by simp [iL]; lia, ?_, ?_, ⟨_, _, hx'⟩, alloc_tmp fun ja hja => ?_⟩
          · intro lc2 m2 H2 v2 hv2 hab2 hm2 hx2
            obtain ⟨y, hym, rfl⟩ := List.mem_map.mp hv2
            refine Ts_one (B_cmp ?_)
            refine E_local hm2 hx2 ?_
            refine E_cell (l := tmp (i + 1 + 1 + 1 + 1 + 1 + 1 + 1 + 1)) (p := .loc (tmp jd)) (by rfl) (hab2 _ _ c8) ?_
            refine op_notin_list (hab2 _ _ hd') eqv_iL ?_
            rw [inside_iL]
            exact ⟨_, rfl, rfl, Grows.refl _⟩
          · intro lc2 m2 H2 v2 hv2 _ hab2 hm2 hx2
            exact E_local hm2 hx2 ⟨rfl, Grows.refl _⟩
          have e0 : (List.filter (fun v => match v with | PV.int y => !decide (y.toNat ∈ Dn) | _ => false) (iL (nd x))).map (fun v => v) = [] := by
            rw [List.map_id', List.filter_eq_nil_iff]
            intro v hv
            obtain ⟨y, hy, rfl⟩ := List.mem_map.mp hv
            have : y ∈ Dn := R.dep x hxm y ((dpn x hxc y).mp hy)
            simp [this]
          rw [e0]
          refine E_list (A_nil ⟨by simp, alloc_tmp fun jb hjb => ?_⟩)
          have hjab : jb ≠ ja := fun e => by rw [e, upd_self] at hjb; cases hjb
          have hjb' : H' (tmp jb) = none := by rw [← upd_ne H' (Spec.list []) (tmp_ne hjab)]; exact hjb
          refine op_neL_nil (xs := []) ((upd_ne _ _ (tmp_ne (Ne.symm hjab))).trans (upd_self ..)) (upd_self ..) ?_
          refine ⟨false, rfl, fun _ => All_or_nil ⟨rfl, ((Grows.refl _).tmp hja).tmp hjb'⟩, fun h => (nomatch h)⟩
        · intro lc m H' v hv ht hab hm hx
          cases ht
        have e4 : (List.filter (fun _ => false) (iL Hd)).map (fun v => v) = [] := by
          rw [List.map_id', List.filter_eq_nil_iff]
          intro v hv; simp
        rw [e4] at hT4
        iterate 1 walk_at "mj"
        refine c_len (vs := []) (Fm_gett hje hT4) (by simp) ?_
        iterate 1 walk_at "mj"
        refine op_gt ?_
        refine ⟨false, rfl, fun h => (nomatch h), fun _ => ?_⟩
        replace L3 := L3.up hA4
        replace S3 := S3.up hA4
        replace dn3 := dn3.up hA4
        replace hn3 := hn3.up hA4
        replace cm3 := cm3.up hA4
        clear hjen hT4 hA4 hE4
        have need := fun k (hk : k < cnt) => (⟨(L3.nls k hk).get, (ndl k hk).1, Nat.le_trans (len21 21 _ (ndl k hk).2 fun j hj => by have := (ndl k hk).1 j hj; lia) (by decide)⟩ : Fm (hp (wD.sg σ)) T4 i (ovr m4 lawNs f1) (tmp (nl k)) = some (.list (iL (nd k))) ∧ (∀ j ∈ nd k, j < k) ∧ (nd k).length ≤ 100)
        iterate 9 walk_at "mj"
        refine E_cell (l := tmp (i + 1 + 1 + 1)) (p := .loc (tmp ln)) (by rfl) S3.c3.get ?_
        iterate 1 walk_at "mj"
        refine E_cell (l := tmp (i + 1 + 1 + 1 + 1 + 1 + 1 + 1 + 1)) (p := .loc (tmp jd)) (by rfl) S3.c8.get ?_
        iterate 1 walk_at "mj"
        refine ((c_longest (cnt := cnt) (nd := nd) (nl := fun k => tmp (nl k)) (ln := tmp ln) (ld := tmp jd) (D := Dn) O ⟨by lia, by lia⟩ L3.ns.get need dn3.get).mono fun p H' h => ?_).call
        obtain ⟨rfl, rfl⟩ := h
        refine f_st ?_
        rw [ovr_st (by decide)]
        obtain ⟨f2, ef2⟩ : ∃ f2 : Str → Option PV, f2 = (sto f1 (Str.ofString "longest") (PV.int (maxL (highs nd Dn cnt) : Nat))) := ⟨_, rfl⟩
        have fr2 : f2 (Str.ofString "rounds") = some (.int ((r + 1 : Nat) : Int)) := by rw [ef2]; exact fr1
        have fh2 : f2 (Str.ofString "hand") = some (.loc (tmp jh)) := by rw [ef2]; exact fh1
        have fo2 : f2 (Str.ofString "over") = some (.bool over) := by rw [ef2]; exact fo1
        have fl2 : f2 (Str.ofString "longest") = some (.int (maxL (highs nd Dn cnt) : Nat)) := by rw [ef2]; rfl
        rw [← ef2]
        clear ef2 fr1 fh1 fo1 need
        iterate 4 walk_at "mj"
        refine E_cell (l := tmp (i + 1 + 1 + 1 + 1 + 1 + 1 + 1 + 1)) (p := .loc (tmp jd)) (by rfl) S3.c8.get ?_
        refine E_cell (l := tmp (i + 1 + 1 + 1 + 1 + 1 + 1 + 1 + 1 + 1)) (p := .loc (tmp jc)) (by rfl) S3.c9.get ?_
        refine op_addL dn3.get cm3.get (by simp [iL]; lia) (al_tmp fun jd5 T5 hjd5 hjdn5 hT5 hA5 hE5 => ?_)
        have hT5 : T5 (tmp jd5) = some (.list (iL (Dn ++ Hd))) := by rw [hT5]; simp [iL]
        have dn5 : At T5 i jd5 (.list (iL (Dn ++ Hd))) := ⟨hjd5, hT5⟩
        replace L3 := L3.up hA5
        replace S3 := S3.up hA5
        replace hn3 := hn3.up hA5
        clear dn3 cm3 hjdn5 hT5 hA5 hE5
        refine st_cell (l := tmp (i + 1 + 1 + 1 + 1 + 1 + 1 + 1 + 1)) (by rfl) S3.c8.get ?_
        rw [Fm_modt (by lia)]
        obtain ⟨T6, eT6⟩ : ∃ T', T' = upd T5 (tmp (i + 1 + 1 + 1 + 1 + 1 + 1 + 1 + 1)) (.cell (some (.loc (tmp jd5)))) := ⟨_, rfl⟩
        have S6 := S3.set8 (q := some (.loc (tmp jd5)))
        rw [← eT6] at S6
        have dn6 := dn5.set (sp' := .cell (some (.loc (tmp jd5)))) (dn5.nek S3.c8 (by first | exact Nat.ne_of_beq_eq_false rfl | simp [Spec.kind]))
        rw [← eT6] at dn6
        have hn6 := hn3.set (sp' := .cell (some (.loc (tmp jd5)))) (hn3.nek S3.c8 (by first | exact Nat.ne_of_beq_eq_false rfl | simp [Spec.kind]))
        rw [← eT6] at hn6
        have L6 := L3.cell (p := some (.loc (tmp jd5))) S3.c8
        rw [← eT6] at L6
        rw [← eT6]
        clear S3 L3 dn5 hn3
        have need := fun k (hk : k < cnt) => (⟨(L6.nls k hk).get, (ndl k hk).1, Nat.le_trans (len21 21 _ (ndl k hk).2 fun j hj => by have := (ndl k hk).1 j hj; lia) (by decide)⟩ : Fm (hp (wD.sg σ)) T6 i (ovr m4 lawNs f2) (tmp (nl k)) = some (.list (iL (nd k))) ∧ (∀ j ∈ nd k, j < k) ∧ (nd k).length ≤ 100)
        iterate 2 walk_at "mj"
        refine JX.via (P := fun fl H' => fl = .next ∧ H' = Fm (hp (wD.sg σ)) T6 i (ovr m4 lawNs f2)) ?_ ?_
        · iterate 10 walk_at "mj"
          refine f_loc (p := .loc (tmp jh)) fh2 ?_
          iterate 1 walk_at "mj"
          refine c_len hn6.get (by simp [nodes]; lia) ?_
          refine f_loc (m := ovr m4 lawNs f2) (p := .int hands) mh4 ?_
          refine op_lt ?_
          refine ⟨_, rfl, fun h => ?_, fun h => ?_⟩
          · have hlt : Hd.length < hands := by have := of_decide_eq_true h; simp [nodes] at this; lia
            have hs : Stuck cnt nd Dn Hd := (hst.resolve_left (by lia)).of dpn
            iterate 7 walk_at "mj"
            refine E_cell (l := tmp (i + 1 + 1 + 1)) (p := .loc (tmp ln)) (by rfl) S6.c3.get ?_
            iterate 1 walk_at "mj"
            refine E_cell (l := tmp (i + 1 + 1 + 1 + 1 + 1 + 1 + 1 + 1)) (p := .loc (tmp jd5)) (by rfl) S6.c8.get ?_
            iterate 1 walk_at "mj"
            refine ((c_longest (cnt := cnt) (nd := nd) (nl := fun k => tmp (nl k)) (ln := tmp ln) (ld := tmp jd5) (D := Dn ++ Hd) O ⟨by lia, by lia⟩ L6.ns.get need dn6.get).mono fun p H' h => ?_).call
            obtain ⟨rfl, rfl⟩ := h
            iterate 1 walk_at "mj"
            refine f_loc (p := .int (maxL (highs nd Dn cnt) : Nat)) fl2 ?_
            iterate 1 walk_at "mj"
            refine op_sub ?_
            refine op_ne ?_
            obtain ⟨x, hx⟩ : ∃ x, x ∈ Hd := by cases Hd with | nil => exact absurd rfl hHe | cons x r => exact ⟨x, .head _⟩
            have hpred := longest_pred (nt := cnt) (nd := nd) (D := Dn) (Hd := Hd) (fun k hk => (ndl k hk).1) (fun x hx y hy => R.dep x hx y ((dpn x (R.lt x (List.mem_append.mpr (.inr hx))) y).mp hy)) hs ⟨x, hx, R.lt x (List.mem_append.mpr (.inr hx)), R.out hx⟩
            rw [hpred]
            refine ⟨false, by simp, fun h => (nomatch h), fun _ => ?_⟩
            iterate 3 walk_at "mj"
            exact ⟨rfl, rfl⟩
          · iterate 3 walk_at "mj"
            exact ⟨rfl, rfl⟩
        rintro fl H' ⟨rfl, rfl⟩
        clear need fl2
        iterate 2 walk_at "mj"
        refine X_swap (names := [Str.ofString "ended", Str.ofString "hand"]) ?_
        iterate 2 walk_at "mj"
        refine f_loc (p := .loc (tmp jh)) fh2 ?_
        iterate 3 walk_at "mj"
        refine ⟨by first | exact Nat.zero_le _ | simp, al_tmp fun jh7 T7 hjh7 hjhn7 hT7 hA7 hE7 => ?_⟩
        iterate 1 walk_at "mj"
        refine ⟨by first | exact Nat.zero_le _ | simp, al_tmp fun jt8 T8 hjt8 hjtn8 hT8 hA8 hE8 => ?_⟩
        refine ⟨tmp jt8, _, rfl, Fm_gett hjt8 hT8, rfl, ?_⟩
        show JStore _ _ _ _ (fun H' => JStores _ _ _ _ _ H') _
        refine f_st ?_
        rw [ovr_st (by decide)]
        show JStore _ _ _ _ (fun H' => JStores _ _ _ _ _ H') _
        refine f_st ?_
        rw [ovr_st (by decide)]
        show SeqQ _ _ _ _ _ _ _ _
        have hA68 : ∀ k q, T6 k = some q → T8 k = some q := fun k q e => hA8 _ _ (hA7 _ _ e)
        have h28 : At T8 i jh7 (.list (nodes [])) := ⟨hjh7, hA8 _ _ hT7⟩
        obtain ⟨f3, ef3⟩ : ∃ f3 : Str → Option PV, f3 = (sto (sto f2 (Str.ofString "hand") (PV.loc (tmp jh7))) (Str.ofString "ended") (PV.loc (tmp jh))) := ⟨_, rfl⟩
        have fr3 : f3 (Str.ofString "rounds") = some (.int ((r + 1 : Nat) : Int)) := by rw [ef3]; exact fr2
        have fh3 : f3 (Str.ofString "hand") = some (.loc (tmp jh7)) := by rw [ef3]; rfl
        have fo3 : f3 (Str.ofString "over") = some (.bool over) := by rw [ef3]; exact fo2
        have fe3 : f3 (Str.ofString "ended") = some (.loc (tmp jh)) := by rw [ef3]; rfl
        rw [← ef3]
        clear ef3 fr2 fh2 fo2
        replace L6 := L6.up hA68
        replace S6 := S6.up hA68
        replace dn6 := dn6.up hA68
        replace hn6 := hn6.up hA68
        clear hA68 hA7 hA8 hT7 hT8 hE7 hE8 hjhn7 hjtn8
        iterate 2 walk_at "mj"
        refine X_for (LawC i a cnt ln lt lm nd nl dp wD m4 Dn Hd r jd5 jh jc ck cf) ?_
        refine f_loc (p := .loc (tmp jh)) fe3 ?_
        refine ⟨.list (tmp jh), nodes Hd, ⟨rfl, hn6.get⟩, ⟨rfl, σ, [], over, T8, f3, jh7, rfl, R.cast (by simp) (by simp), hn6, L6, S6, dn6, h28, fr3, fh3, fo3⟩, ?_, ?_, ?_⟩
        · rintro q H' ⟨-, σ, H2, over, T, f, jh2, rfl, R, hn, L, S, dn, h2, fr, fh, fo⟩
          exact ⟨hn.get, _, _, hn.get⟩
        · rintro q v H' hv ⟨-, σ, H2, over, T, f, jh2, rfl, R, hn, L, S, dn, h2, fr, fh, fo⟩
          have hq : q < Hd.length := by have := (List.getElem?_eq_some_iff.mp hv).1; simpa [nodes] using this
          have ev : v = .loc (40, Hd[q]) := by simp only [nodes, List.getElem?_map, List.getElem?_eq_getElem hq] at hv; exact (Option.some.inj hv).symm
          subst ev
          clear hv L6 S6 dn6 hn6 h28 fr3 fh3 fo3 fe3
          have hHz : H2.length ≤ 100 := by have := R.dlen; simp only [List.length_append] at this; lia
          obtain ⟨d, hd, hdp, hdo, hkc, hsw, hlt', hwm, R2⟩ := (R.cast (D' := Dn ++ Hd.take q) (Hd' := Hd[q] :: (Hd.drop (q + 1) ++ H2)) rfl (by rw [List.drop_eq_getElem_cons hq]; rfl)).ends
          have R3 := R2.cast (D' := Dn ++ Hd.take (q + 1)) (Hd' := Hd.drop (q + 1) ++ H2) (by rw [List.take_succ_eq_append_getElem hq, List.append_assoc]) rfl
          clear R R2
          refine f_st ?_
          rw [ovr_st (by decide)]
          iterate 5 walk_at "mj"
          refine f_set O (ob_n (w := wD.sg σ) rfl hd) (ksN _ _ (by decide)) (by decide) ?_
          rw [upd_ok (w := wD.sg σ) rfl hd]
          obtain ⟨σ1, e1⟩ : ∃ σ1, σ1 = σ.set Hd[q] { d with ok := true } := ⟨_, rfl⟩
          have hd1 : σ1.nd Hd[q] = some { d with ok := true } := by rw [e1]; exact Sg.set_self
          rw [← e1] at hsw hlt' hwm R3
          rw [← e1, show (wD.sg σ).sg σ1 = wD.sg σ1 from rfl]
          clear e1 hd
          iterate 8 walk_at "mj"
          refine f_loc (m := ovr m4 lawNs _) (p := .loc (30, 0)) md4 ?_
          iterate 3 walk_at "mj"
          refine ((c_took (w := wD.sg σ1) (σ := σ1) (σu := updW σ1 Hd[q] d.wm) (pr := .loc (40, Hd[q])) O D.sg rfl (fun hN => c_update1 (w := wD.sg σ1) (σ := σ1) (k := Hd[q]) (d := { d with ok := true }) O D.sg rfl hsw hd1 rfl hlt' hwm hN) R3.li fun l hl => Fm_nm hl).mono fun p H' hT => ?_).call
          obtain ⟨o, ho, hT⟩ := hT
          cases o with
          | go σ' => exact ho.elim
          | got k σ' =>
            obtain ⟨jn, hjn, rfl, rfl⟩ := hT
            obtain ⟨hjni, hjnT⟩ := Fm_fresh hjn
            rw [upd_ov_Fm hjni]
            obtain ⟨rfl, R'⟩ := R3.got ho
            obtain ⟨T1, eT1⟩ : ∃ T', T' = upd T (tmp jn) (.list [.loc (40, k)]) := ⟨_, rfl⟩
            have hA1 : ∀ k q, T k = some q → T1 k = some q := eT1 ▸ upd_up hjnT
            have tk : At T1 i jn (.list [.loc (40, k)]) := ⟨hjni, by rw [eT1, upd_self]⟩
            rw [show (wD.sg σ1).sg σ' = wD.sg σ' from rfl, ← eT1]
            refine f_st ?_
            rw [ovr_st (by decide)]
            iterate 6 walk_at "mj"
            refine f_loc (p := .bool false) fo ?_
            refine t_bool ?_
            iterate 9 walk_at "mj"
            refine op_is ?_
            refine f_st ?_
            rw [ovr_st (by decide)]
            iterate 4 walk_at "mj"
            refine f_loc (p := .loc (tmp jh2)) fh ?_
            iterate 2 walk_at "mj"
            refine t_list (vs := [.loc (40, k)]) tk.get (by simp) ?_
            refine ⟨fun h => (nomatch (show true = false from h)), fun _ => ?_⟩
            refine op_addL (h2.up hA1).get tk.get (by simp [nodes]; lia) (al_tmp fun j2 T2 hj2 hjn2 hT2 hA2 hE2 => ?_)
            have hA : ∀ k q, T k = some q → T2 k = some q := fun k q e => hA2 _ _ (hA1 _ _ e)
            have hT2 : T2 (tmp j2) = some (.list (nodes (H2 ++ [k]))) := by rw [hT2]; simp [nodes]
            refine f_st ?_
            rw [ovr_st (by decide)]
            iterate 3 walk_at "mj"
            exact ⟨rfl, σ', H2 ++ [k], false, T2, _, j2, rfl, R'.cast rfl (by rw [List.append_assoc]), hn.up hA, L.up hA, S.up hA, dn.up hA, ⟨hj2, hT2⟩, fr, rfl, rfl⟩
          | hold σ' =>
            obtain ⟨jn, hjn, rfl, rfl⟩ := hT
            obtain ⟨hjni, hjnT⟩ := Fm_fresh hjn
            rw [upd_ov_Fm hjni]
            obtain ⟨rfl, R', -, -⟩ := R3.hold D.dlt ho.1 ho.2
            obtain ⟨T1, eT1⟩ : ∃ T', T' = upd T (tmp jn) (.list []) := ⟨_, rfl⟩
            have hA1 : ∀ k q, T k = some q → T1 k = some q := eT1 ▸ upd_up hjnT
            have tk : At T1 i jn (.list []) := ⟨hjni, by rw [eT1, upd_self]⟩
            rw [show (wD.sg σ1).sg σ' = wD.sg σ' from rfl, ← eT1]
            refine f_st ?_
            rw [ovr_st (by decide)]
            iterate 6 walk_at "mj"
            refine f_loc (p := .bool false) fo ?_
            refine t_bool ?_
            iterate 9 walk_at "mj"
            refine op_is ?_
            refine f_st ?_
            rw [ovr_st (by decide)]
            iterate 4 walk_at "mj"
            refine f_loc (p := .loc (tmp jh2)) fh ?_
            iterate 2 walk_at "mj"
            refine t_list (vs := []) tk.get (by simp) ?_
            refine ⟨fun _ => ?_, fun h => (nomatch (show false = true from h))⟩
            iterate 2 walk_at "mj"
            refine ⟨by first | exact Nat.zero_le _ | simp, al_tmp fun j3 T3 hj3 hjn3 hT3 hA3 hE3 => ?_⟩
            refine op_addL ((h2.up hA1).up hA3).get (Fm_gett hj3 hT3) (by simp [nodes]; lia) (al_tmp fun j2 T2 hj2 hjn2 hT2 hA2 hE2 => ?_)
            have hA : ∀ k q, T k = some q → T2 k = some q := fun k q e => hA2 _ _ (hA3 _ _ (hA1 _ _ e))
            have hT2 : T2 (tmp j2) = some (.list (nodes H2)) := by rw [hT2]; simp
            refine f_st ?_
            rw [ovr_st (by decide)]
            iterate 3 walk_at "mj"
            exact ⟨rfl, σ', H2, false, T2, _, j2, rfl, R', hn.up hA, L.up hA, S.up hA, dn.up hA, ⟨hj2, hT2⟩, fr, rfl, rfl⟩
          | non σ' =>
            obtain ⟨rfl, rfl⟩ := hT
            rw [ov_Fm, show (wD.sg σ1).sg σ' = wD.sg σ' from rfl]
            obtain ⟨R', -⟩ := R3.non ho.1 ho.2
            refine f_st ?_
            rw [ovr_st (by decide)]
            iterate 2 walk_at "mj"
            refine JX.via (P := fun fl H' => fl = .next ∧ H' = Fm (hp (wD.sg σ')) T i (ovr m4 lawNs (sto (sto f (Str.ofString "node") (PV.loc (40, Hd[q]))) (Str.ofString "took") PV.none))) ?_ ?_
            · iterate 5 walk_at "mj"
              refine f_loc (p := .bool over) fo ?_
              refine t_bool ?_
              refine ⟨fun _ => ?_, fun _ => ?_⟩
              · iterate 4 walk_at "mj"
                refine op_isnot ?_
                refine ⟨false, rfl, fun h => (nomatch h), fun _ => ?_⟩
                iterate 3 walk_at "mj"
                exact ⟨rfl, rfl⟩
              · iterate 3 walk_at "mj"
                exact ⟨rfl, rfl⟩
            rintro fl H' ⟨rfl, rfl⟩
            iterate 6 walk_at "mj"
            refine op_is ?_
            refine f_st ?_
            rw [ovr_st (by decide)]
            iterate 4 walk_at "mj"
            refine f_loc (p := .loc (tmp jh2)) fh ?_
            iterate 2 walk_at "mj"
            refine t_none ?_
            refine ⟨fun _ => ?_, fun h => (nomatch (show false = true from h))⟩
            iterate 2 walk_at "mj"
            refine ⟨by first | exact Nat.zero_le _ | simp, al_tmp fun j3 T3 hj3 hjn3 hT3 hA3 hE3 => ?_⟩
            refine op_addL (h2.up hA3).get (Fm_gett hj3 hT3) (by simp [nodes]; lia) (al_tmp fun j2 T2 hj2 hjn2 hT2 hA2 hE2 => ?_)
            have hA : ∀ k q, T k = some q → T2 k = some q := fun k q e => hA2 _ _ (hA3 _ _ e)
            have hT2 : T2 (tmp j2) = some (.list (nodes H2)) := by rw [hT2]; simp
            refine f_st ?_
            rw [ovr_st (by decide)]
            iterate 3 walk_at "mj"
            exact ⟨rfl, σ', H2, true, T2, _, j2, rfl, R', hn.up hA, L.up hA, S.up hA, dn.up hA, ⟨hj2, hT2⟩, fr, rfl, rfl⟩
        · rintro H' ⟨-, σ, H2, over, T, f, jh2, rfl, R, hn, L, S, dn, h2, fr, fh, fo⟩
          have R' := R.cast (D' := Dn ++ Hd) (Hd' := H2) (by simp [nodes]) (by simp [nodes])
          iterate 3 walk_at "mj"
          exact ⟨cnt - (Dn ++ Hd).length, by simp; lia, σ, Dn ++ Hd, H2, over, r + 1, T, f, jd5, jh2, _, _, _, rfl, R', ⟨L, S, dn, h2, fr, fh, fo⟩, by simp; lia, rfl⟩
end
-- MJ
theorem law_good {prog : Program} {ww : World} {p : Program} {loose : List Str} {mg mb : Str → Option Value} {s1 : Shared} {c : ClaimW} {cl : Str → Option Addr} {mean : ExcName → Option Value} {args : List WData}
    (O : (Cx ⟨prog, ww, s1.heap, s1.os, p, loose, mg, mb⟩).Ok) {fa sa : Addr} {vals : List Value} {xs : List Int} (hf : mg (Str.ofString "law") = some (.ref fa)) (hg : s1.gens = #[]) (hL : s1.heap.IsList sa vals.toArray) (hI : IntsAre vals xs) (hz : xs.length ≤ 63)
    (hr : ∀ cls, c.raises args cls = false) (hp_ : c.post args (.bool true) args = true) :
    codeAny (model prog ww) callerA (.call (.ref fa) ⟨[.ref sa], []⟩) (GoodWG c cl mean args s1) s1 := by
  have h5 : mg (Str.ofString "law") = some (.ref 500) := mg_of O.k O.top.g (by show nsIn (Mine.KH _) _ _ = _; k_is)
  rw [hf] at h5
  cases h5
  have a0 : AOK 20 ⟨fun _ => none, [], fun _ => 0, fun _ => False⟩ callerA := ⟨rfl, by decide, by decide, ⟨[], rfl, rfl, fun e h => nomatch h⟩, fun l h => nomatch h⟩
  have S0 : St (Cx ⟨prog, ww, s1.heap, s1.os, p, loose, mg, mb⟩) ⟨fun _ => none, [], fun _ => 0, fun _ => False⟩ (hp w0) s1 := by
    have e : ∀ l sp, hp w0 l = some sp → False := fun l sp h => by rw [hp_w0] at h; cases h
    exact ⟨fun b o h => h, fun b o h => (nomatch h), fun l sp h => (e l sp h).elim, fun l sp h => (e l sp h).elim, fun l l' sp sp' h => (e l sp h).elim, fun l sp h => (e l sp h).elim, fun l sp h => (e l sp h).elim, ⟨0, fun i _ h => h⟩, fun l _ h => h.elim, fun l h => (nomatch h), rfl, hg, Nat.le_refl _⟩
  refine codeAny_mono (c_law (n := 0) (X := XF) O hL hI hz callerA _ s1 [.ref sa] [] a0 (.cons (p := .raw (.ref sa)) rfl .nil) .nil S0) fun r s' z => ?_
  rcases r with e | (_ | _ | _ | v)
  · obtain ⟨_, _, z⟩ := z; exact z.elim
  · exact z.elim
  · exact z.elim
  · exact z.elim
  · obtain ⟨q, H', c', x, d, S, rfl⟩ := z
    have : v = .bool true := d
    subst this
    exact ⟨.inl ⟨_, _, [], rfl, hr, .bool true, hp_, fun _ => ⟨List.nodup_nil, fun a h => nomatch h⟩⟩, .of_keep S.base, S.os, .of_eq S.gens⟩
end Mine
theorem Mine.holds.tw16908686848171061149 : True := trivial
theorem Mine.holds.tw10322258209740374209 : True := trivial
theorem Mine.holds.tw17010690905149526139 : True := trivial
theorem Mine.holds.tw15156761227186173156 : True := trivial
theorem Mine.holds.tw5122118583077364885 : True := trivial
theorem Mine.holds.tw4957349377997413466 : True := trivial
theorem Mine.holds.tw2885563936232898386 : True := trivial
theorem Mine.holds.tw15670438280644718882 : True := trivial
theorem Mine.holds.tw1700579792848505499 : True := trivial
theorem Mine.holds.tw11114960661488863699 : True := trivial
theorem Mine.holds.tw10202850474951982929 : True := trivial
theorem Mine.holds.tw11806138238454745823 : True := trivial
theorem Mine.holds.tw6395653109993136463 : True := trivial
theorem Mine.holds.tw12319878282176305035 : True := trivial
theorem Mine.holds.tw5147101223392088260 : True := trivial
theorem Mine.holds.tw14065199288804575434 : True := trivial
theorem Mine.holds.tw13242031216646247119 : True := trivial
theorem Mine.holds.tw6432892733701750983 : True := trivial
theorem Mine.holds.tw11912746480142201407 : True := trivial
theorem Mine.holds.tw13153363017490239224 : True := trivial
theorem Mine.holds.tw2723127242021318006 : True := trivial
theorem Mine.holds.tw6041834218112440573 : True := trivial
theorem Mine.holds.tw17516628693364819773 : True := trivial
theorem Mine.holds.tw1694365943786939192 : True := trivial
theorem Mine.holds.tw15865388815827422373 : True := trivial
theorem Mine.holds.tw15121643081674855912 : True := trivial
theorem Mine.holds.tw15999506906063005157 : True := trivial
theorem Mine.holds.tw4003707132336311454 : True := trivial
theorem Mine.holds.tw16880556292197207165 : True := trivial
theorem Mine.holds.tw10795573026208878615 : True := trivial
theorem Mine.holds.tw10662077994204786153 : True := trivial
theorem Mine.holds.tw17516818768086975123 : True := trivial
theorem Mine.holds.tw13934561362821362623 : True := trivial
theorem Mine.holds.tw5857794014393010482 : True := trivial
theorem Mine.holds.tw12098404996450287289 : True := trivial
theorem Mine.holds.tw12056596633878991817 : True := trivial
theorem Mine.holds.tw16075053759526825020 : True := trivial
theorem Mine.holds.tw3964553439336064567 : True := trivial
theorem Mine.holds.tw10028576996824322293 : True := trivial
theorem Mine.holds.tw4408763645494598628 : True := trivial
theorem Mine.holds.tw2180479604254433311 : True := trivial
theorem Mine.holds.tw4500180452004054980 : True := trivial
theorem Mine.holds.tw12736823529576279204 : True := trivial
theorem Mine.holds.tw18232564904221570389 : True := trivial
theorem Mine.holds.tw5259053182002985842 : True := trivial
theorem Mine.holds.tw8684541073956307770 : True := trivial
theorem Mine.holds.tw14856189802965030758 : True := trivial
theorem Mine.holds.tw2980642449514264586 : True := trivial
theorem Mine.holds.tw5990180441110522300 : True := trivial
theorem Mine.holds.tw6987649320729488474 : True := trivial
theorem Mine.holds.tw10726778698580467152 : True := trivial
theorem Mine.holds.tw7810582327123544015 : True := trivial
theorem Mine.holds.tw12698916279152862973 : True := trivial
theorem Mine.holds.tw12584058235822683084 : True := trivial
theorem Mine.holds.tw12095597400677081514 : True := trivial
theorem Mine.holds.tw17533166617710000329 : True := trivial
theorem Mine.holds.tw2448847960820234738 : True := trivial
theorem Mine.holds.tw17294395744611713098 : True := trivial
theorem Mine.holds.tw12008902284401382014 : True := trivial
theorem Mine.holds.tw8403075241119356948 : True := trivial
theorem Mine.holds.tw303617358959260456 : True := trivial
theorem Mine.holds.tw16478504620199068264 : True := trivial
theorem Mine.holds.tw8087799500789234286 : True := trivial
theorem Mine.holds.tw9327718836232418737 : True := trivial
theorem Mine.holds.tw17647985033660283594 : True := trivial
theorem Mine.holds.tw8253004272172430988 : True := trivial
theorem Mine.holds.tw9259533211598610082 : True := trivial
theorem Mine.holds.tw1389151227800987198 : True := trivial
theorem Mine.holds.tw17305823854243098232 : True := trivial
theorem Mine.holds.tw9890372494799421562 : True := trivial
theorem Mine.holds.tw915018914566706432 : True := trivial
theorem Mine.holds.tw7074641181814816541 : True := trivial
theorem Mine.holds.tw12135579543755162760 : True := trivial
theorem Mine.holds.tw7943873644019274615 : True := trivial
theorem Mine.holds.tw820627826665183454 : True := trivial
theorem Mine.holds.tw14341210406198164329 : True := trivial
theorem Mine.holds.tw8413133151647880539 : True := trivial
theorem Mine.holds.tw8218819101457601776 : True := trivial
theorem Mine.holds.tw2585008018627690749 : True := trivial
theorem Mine.holds.tw9523873602847724419 : True := trivial
theorem Mine.holds.tw9107170298555381705 : True := trivial
theorem Mine.holds.tw1833173380454153921 : True := trivial
theorem Mine.holds.tw12084871131945615253 : True := trivial
theorem Mine.holds.tw5252246860307943348 : True := trivial
theorem Mine.holds.tw5588498093969417903 : True := trivial
theorem Mine.holds.tw8903297777125119442 : True := trivial
theorem Mine.holds.tw1438057683635843531 : True := trivial
theorem Mine.holds.tw15216533652830951187 : True := trivial
theorem Mine.holds.tw4399152324972305773 : True := trivial
theorem Mine.holds.tw13002855754428957212 : True := trivial
theorem Mine.holds.tw10876536743886354276 : True := trivial
theorem Mine.holds.tw15296638952792297585 : True := trivial
theorem Mine.holds.tw13651502964188933756 : True := trivial
theorem Mine.holds.tw3280128972450656526 : True := trivial
theorem Mine.holds.tw11612728935029869629 : True := trivial
theorem Mine.holds.tw4137054072099604216 : True := trivial
theorem Mine.holds.tw14205006904943715905 : True := trivial
theorem Mine.holds.tw17779192219718171531 : True := trivial
theorem Mine.holds.tw1714096750540956960 : True := trivial
theorem Mine.holds.tw16801115162389100519 : True := trivial
theorem Mine.holds.tw6305404595935261976 : True := trivial
theorem Mine.holds.tw14607219995997415800 : True := trivial
theorem Mine.holds.tw14263331781698699780 : True := trivial
theorem Mine.holds.tw12808162357026388105 : True := trivial
theorem Mine.holds.tw6871585250140865760 : True := trivial
theorem Mine.holds.tw11319453509113102234 : True := trivial
theorem Mine.holds.tw1211747854080251252 : True := trivial
theorem Mine.holds.tw17180457848445815676 : True := trivial
theorem Mine.holds.tw15136828946037461428 : True := trivial
theorem Mine.holds.tw1986877004247180340 : True := trivial
theorem Mine.holds.tw13338651292558784369 : True := trivial
theorem Mine.holds.tw17129278960223170533 : True := trivial
theorem Mine.holds.tw5923573193019433623 : True := trivial
theorem Mine.holds.tw17148229171239856432 : True := trivial
theorem Mine.holds.tw6330134614895140133 : True := trivial
theorem Mine.holds.tw9140063382869304120 : True := trivial
theorem Mine.holds.tw5763553328388235881 : True := trivial
theorem Mine.holds.tw8844102623358338796 : True := trivial
theorem Mine.holds.tw11619669790576578751 : True := trivial
theorem Mine.holds.tw10705619171732726748 : True := trivial
theorem Mine.holds.tw9766128667603022514 : True := trivial
theorem Mine.holds.tw12629177860411813126 : True := trivial
theorem Mine.holds.tw8239031253751857358 : True := trivial
theorem Mine.holds.tw15663057623668237757 : True := trivial
theorem Mine.holds.tw3381435865837020940 : True := trivial
theorem Mine.holds.tw7877780744568003191 : True := trivial
theorem Mine.holds.tw9188266559522036927 : True := trivial
theorem Mine.holds.tw9816476011544392670 : True := trivial
theorem Mine.holds.tw7154447938429058438 : True := trivial
theorem Mine.holds.tw13676757877788619591 : True := trivial
theorem Mine.holds.tw7118747031804142146 : True := trivial
theorem Mine.holds.tw5583946556138506119 : True := trivial
theorem Mine.holds.tw187104208977503339 : True := trivial
theorem Mine.holds.tw13384883100587833847 : True := trivial
theorem Mine.holds.tw17301085495529702629 : True := trivial
theorem Mine.holds.tw13370180491053348 : True := trivial
theorem Mine.holds.tw13416111870119765123 : True := trivial
theorem Mine.holds.tw142377125942736700 : True := trivial
theorem Mine.holds.tw8801499457356032720 : True := trivial
theorem Mine.holds.tw15985840036639034899 : True := trivial
theorem Mine.holds.tw8163853742193369449 : True := trivial
theorem Mine.holds.tw3279077582325829838 : True := trivial
theorem Mine.holds.tw1316056555746827224 : True := trivial
theorem Mine.holds.tw17510143785770761814 : True := trivial
theorem Mine.holds.tw11394987932868277362 : True := trivial
theorem Mine.holds.tw16461013251600362008 : True := trivial
theorem Mine.holds.tw16049930973857864354 : True := trivial
theorem Mine.holds.tw8115153917610635543 : True := trivial
theorem Mine.holds.tw8277820557490507997 : True := trivial
theorem Mine.holds.tw15785218014132313688 : True := trivial
theorem Mine.holds.tw9039863090174473464 : True := trivial
theorem Mine.holds.tw16740147826971877517 : True := trivial
theorem Mine.holds.tw3529921767576855348 : True := trivial
theorem Mine.holds.tw4320952357017371039 : True := trivial
theorem Mine.holds.tw18263738317455877889 : True := trivial
theorem Mine.holds.tw4286360187039589740 : True := trivial
theorem Mine.holds.tw10066566674380323332 : True := trivial
theorem Mine.holds.tw4252685499439207924 : True := trivial
theorem Mine.holds.tw15421342739227911939 : True := trivial
theorem Mine.holds.tw9784731065822230439 : True := trivial
theorem Mine.holds.tw2167384251425162797 : True := trivial
theorem Mine.holds.tw11896979934692212325 : True := trivial
theorem Mine.holds.tw13130249910395747862 : True := trivial
theorem Mine.holds.tw10595842591828190984 : True := trivial
theorem Mine.holds.tw5932082505621288647 : True := trivial
theorem Mine.holds.tw5112738896828158680 : True := trivial
theorem Mine.holds.tw15462992800728643659 : True := trivial
theorem Mine.holds.tw3210078786618844196 : True := trivial
theorem Mine.holds.tw945861476033566700 : True := trivial
theorem Mine.holds.tw14027143162585244968 : True := trivial
theorem Mine.holds.tw13980644296350529377 : True := trivial
theorem Mine.holds.tw9284948610034456067 : True := trivial
theorem Mine.holds.tw12370703938092414502 : True := trivial
theorem Mine.holds.tw150268843892594924 : True := trivial
theorem Mine.holds.tw8393340031374782525 : True := trivial
theorem Mine.holds.tw5323918697378788693 : True := trivial
theorem Mine.holds.tw2335221107431800076 : True := trivial
theorem Mine.holds.tw13926404443759844560 : True := trivial
theorem Mine.holds.tw10843207457187830352 : True := trivial
theorem Mine.holds.tw11723004889028688699 : True := trivial
theorem Mine.holds.tw8943767207682116370 : True := trivial
theorem Mine.holds.tw98196739984318054 : True := trivial
theorem Mine.holds.tw7923702915469573346 : True := trivial
theorem Mine.holds.tw10840139340582571922 : True := trivial
theorem Mine.holds.tw1180276462324527112 : True := trivial
theorem Mine.holds.tw4374827463496512255 : True := trivial
theorem Mine.holds.tw5878047611234877577 : True := trivial
theorem Mine.holds.tw10859938921441162988 : True := trivial
theorem Mine.holds.tw8551410553514715252 : True := trivial
theorem Mine.holds.tw12762722769849151566 : True := trivial
theorem Mine.holds.tw18202751451028033538 : True := trivial
theorem Mine.holds.tw3930379177928381544 : True := trivial
theorem Mine.holds.tw2296293446034493066 : True := trivial
theorem Mine.holds.tw16900590462404453081 : True := trivial
theorem Mine.holds.tw4998001990490953706 : True := trivial
theorem Mine.holds.tw9321796208036801940 : True := trivial
theorem Mine.holds.tw7885888744534978006 : True := trivial
theorem Mine.holds.tw138917058343750897 : True := trivial
theorem Mine.holds.tw8365977135183407358 : True := trivial
theorem Mine.holds.tw685634667276709000 : True := trivial
theorem Mine.holds.tw1974762919298152056 : True := trivial
theorem Mine.holds.tw6606875086121380550 : True := trivial
theorem Mine.holds.tw12322914241283428633 : True := trivial
theorem Mine.holds.tw17076291190057227869 : True := trivial
theorem Mine.holds.tw9866653766423218390 : True := trivial
theorem Mine.holds.tw244668840739839672 : True := trivial
theorem Mine.holds.tw10576265454180977796 : True := trivial
theorem Mine.holds.tw10853043219271619230 : True := trivial
theorem Mine.holds.tw12354433232887552844 : True := trivial
theorem Mine.holds.tw5948040445239067262 : True := trivial
theorem Mine.holds.tw2976685253332725484 : True := trivial
theorem Mine.holds.tw1272921112123746405 : True := trivial
theorem Mine.holds.tw298297018594106725 : True := trivial
theorem Mine.holds.tw14786066558164337950 : True := trivial
theorem Mine.holds.tw17144610094948777349 : True := trivial
theorem Mine.holds.tw10705761992013847755 : True := trivial
theorem Mine.holds.tw14438757958421221462 : True := trivial
theorem Mine.holds.tw5225467491883748592 : True := trivial
theorem Mine.holds.tw15942494369296127945 : True := trivial
theorem Mine.holds.tw4529002996912422141 : True := trivial
theorem Mine.holds.tw8664812251140827045 : True := trivial
theorem Mine.holds.tw17629714610472425511 : True := trivial
theorem Mine.holds.tw9569093901706499007 : True := trivial
theorem Mine.holds.tw17591727778206626035 : True := trivial
theorem Mine.holds.tw8827755016177155863 : True := trivial
theorem Mine.holds.tw13942211991455542721 : True := trivial
theorem Mine.holds.tw11037822914523747621 : True := trivial
theorem Mine.holds.tw14012497318314112844 : True := trivial
theorem Mine.holds.tw4132201380793018340 : True := trivial
theorem Mine.holds.tw13306226422529918579 : True := trivial
theorem Mine.holds.tw11379536335273661636 : True := trivial
theorem Mine.holds.tw10817008591213730988 : True := trivial
theorem Mine.holds.tw9732041140710341944 : True := trivial
theorem Mine.holds.tw2720468260678641542 : True := trivial
theorem Mine.holds.tw11647182259668861994 : True := trivial
theorem Mine.holds.tw3521771025164786240 : True := trivial
theorem Mine.holds.tw12870647732520690006 : True := trivial
theorem Mine.holds.tw1118671588950128205 : True := trivial
theorem Mine.holds.tw16760418933842767799 : True := trivial
theorem Mine.holds.tw9160933379109621080 : True := trivial
theorem Mine.holds.tw14691085348537605332 : True := trivial
theorem Mine.holds.tw17551835440721493442 : True := trivial
theorem Mine.holds.tw1466284255255076664 : True := trivial
theorem Mine.holds.tw15969937429085165904 : True := trivial
theorem Mine.holds.tw3378624336152846145 : True := trivial
theorem Mine.holds.tw17274456146704370614 : True := trivial
theorem Mine.holds.tw4381346726385406224 : True := trivial
theorem Mine.holds.tw14635519672683665818 : True := trivial
theorem Mine.holds.tw17856180979147524769 : True := trivial
theorem Mine.holds.tw16179787414501680475 : True := trivial
theorem Mine.holds.tw5016061194280584464 : True := trivial
theorem Mine.holds.tw3906943341852370832 : True := trivial
theorem Mine.holds.tw5791938023122869331 : True := trivial
theorem Mine.holds.tw6460966521098074893 : True := trivial
theorem Mine.holds.tw15477653585598255317 : True := trivial
theorem Mine.holds.tw8035951141280138642 : True := trivial
theorem Mine.holds.tw5471403574791894133 : True := trivial
theorem Mine.holds.tw11750193621415288269 : True := trivial
theorem Mine.holds.tw3969078344035082030 : True := trivial
theorem Mine.holds.tw4624323801304008105 : True := trivial
theorem Mine.holds.tw1032644102275906610 : True := trivial
theorem Mine.holds.tw8944343764007091065 : True := trivial
theorem Mine.holds.tw7119377499074729706 : True := trivial
theorem Mine.holds.tw9408521175777228426 : True := trivial
theorem Mine.holds.tw12657093848384798476 : True := trivial
theorem Mine.holds.tw341249449185904685 : True := trivial
theorem Mine.holds.tw16239030619513480838 : True := trivial
theorem Mine.holds.tw7998808928282977731 : True := trivial
theorem Mine.holds.tw5599412692616142259 : True := trivial
theorem Mine.holds.tw7794074229983474189 : True := trivial
theorem Mine.holds.tw11341941285841758863 : True := trivial
theorem Mine.holds.tw14777700561071354170 : True := trivial
theorem Mine.holds.tw1672651397029140864 : True := trivial
theorem Mine.holds.tw3914980098763439061 : True := trivial
theorem Mine.holds.tw17779774989671706653 : True := trivial
theorem Mine.holds.tw14453804969608289915 : True := trivial
theorem Mine.holds.tw16451975095625300501 : True := trivial
theorem Mine.holds.tw10894570999934473159 : True := trivial
theorem Mine.holds.tw17417429595627488627 : True := trivial
theorem Mine.holds.tw8583004682187828996 : True := trivial
theorem Mine.holds.tw6118206324766035986 : True := trivial
theorem Mine.holds.tw18148179280279774915 : True := trivial
theorem Mine.holds.tw5619803957841784048 : True := trivial
theorem Mine.holds.tw10634055019105834221 : True := trivial
theorem Mine.holds.tw16617498834693519143 : True := trivial
theorem Mine.holds.tw4952593789767209597 : True := trivial
theorem Mine.holds.tw10009309266167291388 : True := trivial
theorem Mine.holds.tw6816380694822836728 : True := trivial
theorem Mine.holds.tw9638990691586225099 : True := trivial
theorem Mine.holds.tw3349518531870832243 : True := trivial
theorem Mine.holds.tw14781169843320478655 : True := trivial
theorem Mine.holds.tw14400433609042604536 : True := trivial
theorem Mine.holds.tw15733542881966949079 : True := trivial
theorem Mine.holds.tw15203487316939043196 : True := trivial
theorem Mine.holds.tw14083959995102712966 : True := trivial
theorem Mine.holds.tw3937267528351423324 : True := trivial
theorem Mine.holds.tw15659084048362614264 : True := trivial
theorem Mine.holds.tw2003794701753356343 : True := trivial
theorem Mine.holds.tw17549760099613038055 : True := trivial
theorem Mine.holds.tw5078402968320093544 : True := trivial
theorem Mine.holds.tw10269081998898121243 : True := trivial
theorem Mine.holds.tw4302478151189881795 : True := trivial
theorem Mine.holds.tw10061326939861387809 : True := trivial
theorem Mine.holds.tw7516632072315021061 : True := trivial
theorem Mine.holds.tw3092724735428445279 : True := trivial
theorem Mine.holds.tw2370105137638165564 : True := trivial
theorem Mine.holds.tw14404905868111484630 : True := trivial
theorem Mine.holds.tw12467034654032377186 : True := trivial
theorem Mine.holds.tw10520202591518659360 : True := trivial
theorem Mine.holds.tw11502601298335438083 : True := trivial
theorem Mine.holds.tw16878984735049331645 : True := trivial
theorem Mine.holds.tw7580357766596436714 : True := trivial
theorem Mine.holds.tw4636335402390110268 : True := trivial
theorem Mine.holds.tw4921510776622977656 : True := trivial
theorem Mine.holds.tw8868445881999480663 : True := trivial
theorem Mine.holds.tw6216033271563703469 : True := trivial
theorem Mine.holds.tw14083834280242248106 : True := trivial
theorem Mine.holds.tw13200177327426563521 : True := trivial
theorem Mine.holds.tw11322816463052944642 : True := trivial
theorem Mine.holds.tw16124510186991490168 : True := trivial
theorem Mine.holds.tw6674158366018852832 : True := trivial
theorem Mine.holds.tw1906216828905148153 : True := trivial
theorem Mine.holds.tw14394845925615563878 : True := trivial
theorem Mine.holds.tw1876284267304334591 : True := trivial
theorem Mine.holds.tw707885073954110949 : True := trivial
theorem Mine.holds.tw13860560629476652642 : True := trivial
theorem Mine.holds.tw2972900019843275892 : True := trivial
theorem Mine.holds.tw8324913547053779211 : True := trivial
theorem Mine.holds.tw2406459529592591507 : True := trivial
theorem Mine.holds.tw2697976716319701033 : True := trivial
theorem Mine.holds.tw10280545108713110612 : True := trivial
theorem Mine.holds.tw4422276619278600727 : True := trivial
theorem Mine.holds.tw16315053957116525436 : True := trivial
theorem Mine.holds.tw13219762378693318442 : True := trivial
theorem Mine.holds.tw6072511530176384962 : True := trivial
theorem Mine.holds.tw5498966250228494579 : True := trivial
theorem Mine.holds.tw14271935136423247726 : True := trivial
theorem Mine.holds.tw4698078265318845332 : True := trivial
theorem Mine.holds.tw854715265852234644 : True := trivial
theorem Mine.holds.tw2277698456845511444 : True := trivial
theorem Mine.holds.tw14947864908287233490 : True := trivial
theorem Mine.holds.tw5282283922864298156 : True := trivial
theorem Mine.holds.tw185807328385624810 : True := trivial
theorem Mine.holds.tw5082999880386992228 : True := trivial
theorem Mine.holds.tw11569915684508697678 : True := trivial
theorem Mine.holds.tw17642598502550569490 : True := trivial
theorem Mine.holds.tw18224010420261798391 : True := trivial
theorem Mine.holds.tw10698829266838348154 : True := trivial
theorem Mine.holds.tw7221694943082674061 : True := trivial
theorem Mine.holds.tw13341946137322399123 : True := trivial
theorem Mine.holds.tw7791430327242384495 : True := trivial
theorem Mine.holds.tw4989695622661515502 : True := trivial
theorem Mine.holds.tw4046193847619289583 : True := trivial
theorem Mine.holds.tw14432740918813763817 : True := trivial
theorem Mine.holds.tw759334954848157859 : True := trivial
theorem Mine.holds.tw6027180799015181879 : True := trivial
theorem Mine.holds.tw9250495785965993271 : True := trivial
theorem Mine.holds.tw4480811336153992742 : True := trivial
theorem Mine.holds.tw10531532615022067580 : True := trivial
theorem Mine.holds.tw9462340624215136286 : True := trivial
theorem Mine.holds.tw960582308587345451 : True := trivial
theorem Mine.holds.tw4954732016240277505 : True := trivial
theorem Mine.holds.tw5959074840488112208 : True := trivial
theorem Mine.holds.tw15356600547250028879 : True := trivial
theorem Mine.holds.tw9430090754398894584 : True := trivial
theorem Mine.holds.tw4475622257904601326 : True := trivial
theorem Mine.holds.tw15305512045591798990 : True := trivial
theorem Mine.holds.tw11759793716441912868 : True := trivial
theorem Mine.holds.tw6159885450047824267 : True := trivial
theorem Mine.holds.tw11408340709373832527 : True := trivial
theorem Mine.holds.tw17087466662150396210 : True := trivial
theorem Mine.holds.tw10954607271099289585 : True := trivial
theorem Mine.holds.tw9878063783549791415 : True := trivial
theorem Mine.holds.tw1569810199879761147 : True := trivial
theorem Mine.holds.tw7235909688915465346 : True := trivial
theorem Mine.holds.tw2084331650109322480 : True := trivial
theorem Mine.holds.tw2781561513384061212 : True := trivial
theorem Mine.holds.tw14085268106739128817 : True := trivial
theorem Mine.holds.tw11311999394344832113 : True := trivial
theorem Mine.holds.tw9245723823536211039 : True := trivial
theorem Mine.holds.tw12733908048491186811 : True := trivial
theorem Mine.holds.tw9441326970708011783 : True := trivial
theorem Mine.holds.tw5295917329084666069 : True := trivial
theorem Mine.holds.tw4532548537324856634 : True := trivial
theorem Mine.holds.tw3589964763223657672 : True := trivial
theorem Mine.holds.tw1477864382951527211 : True := trivial
theorem Mine.holds.tw9160814584890018001 : True := trivial
theorem Mine.holds.tw10675174832548182787 : True := trivial
theorem Mine.holds.tw7798976556582896058 : True := trivial
theorem Mine.holds.tw8571184235532366510 : True := trivial
theorem Mine.holds.tw6489310206099298910 : True := trivial
theorem Mine.holds.tw4381757428849502282 : True := trivial
theorem Mine.holds.tw1446027475299390936 : True := trivial
theorem Mine.holds.tw3083665863380995925 : True := trivial
theorem Mine.holds.tw6735552807121987811 : True := trivial
theorem Mine.holds.tw17597196502641442581 : True := trivial
theorem Mine.holds.tw2682973687022302978 : True := trivial
theorem Mine.holds.tw1639197193820686003 : True := trivial
theorem Mine.holds.tw14642846902033847964 : True := trivial
theorem Mine.holds.tw2936799095737714382 : True := trivial
theorem Mine.holds.tw10240100896771907615 : True := trivial
theorem Mine.holds.tw8323465864499181419 : True := trivial
theorem Mine.holds.tw1882270145967814011 : True := trivial
theorem Mine.holds.tw15043986215568586124 : True := trivial
theorem Mine.holds.tw9486143321106344294 : True := trivial
theorem Mine.holds.tw151567797773009622 : True := trivial
theorem Mine.holds.tw5857869478962280401 : True := trivial
theorem Mine.holds.tw14062913937729191461 : True := trivial
theorem Mine.holds.tw18374689057720224539 : True := trivial
theorem Mine.holds.tw10645105620128953169 : True := trivial
theorem Mine.holds.tw96072713605637463 : True := trivial
theorem Mine.holds.tw12542415522573167287 : True := trivial
theorem Mine.holds.tw9143120035062812437 : True := trivial
theorem Mine.holds.tw1382383790286775375 : True := trivial
theorem Mine.holds.tw4717937361131159733 : True := trivial
theorem Mine.holds.tw11566098377363298415 : True := trivial
theorem Mine.holds.tw11899092608841805274 : True := trivial
theorem Mine.holds.tw2156681307112010326 : True := trivial
theorem Mine.holds.tw16139409775219458943 : True := trivial
theorem Mine.holds.tw2160012875989923789 : True := trivial
theorem Mine.holds.tw14533596452844920548 : True := trivial
theorem Mine.holds.tw4796666493748621973 : True := trivial
theorem Mine.holds.tw9855210162650666830 : True := trivial
theorem Mine.holds.tw16939745714101447976 : True := trivial
theorem Mine.holds.tw1686462557126633389 : True := trivial
theorem Mine.holds.tw14786868411472786527 : True := trivial
theorem Mine.holds.tw10447927361281507451 : True := trivial
theorem Mine.holds.tw4753448620645791293 : True := trivial
theorem Mine.holds.tw7058599786907716777 : True := trivial
theorem Mine.holds.tw7398177500901678427 : True := trivial
theorem Mine.holds.tw16955119412671694080 : True := trivial
theorem Mine.holds.tw3093010850272755244 : True := trivial
theorem Mine.holds.tw12553914923479104506 : True := trivial
theorem Mine.holds.tw9309047703646887916 : True := trivial
theorem Mine.holds.tw15573729904360925794 : True := trivial
theorem Mine.holds.tw17858152450515298520 : True := trivial
theorem Mine.holds.tw13334661261001831826 : True := trivial
theorem Mine.holds.tw11413208387583891290 : True := trivial
theorem Mine.holds.tw12091882185175152326 : True := trivial
theorem Mine.holds.tw7047203234742669986 : True := trivial
theorem Mine.holds.tw4583756282420477746 : True := trivial
theorem Mine.holds.tw12788872388335264594 : True := trivial
theorem Mine.holds.tw12004910477815969792 : True := trivial
theorem Mine.holds.tw16796854770986717008 : True := trivial
theorem Mine.holds.tw11818566221774970091 : True := trivial
theorem Mine.holds.tw15919173128261314395 : True := trivial
theorem Mine.holds.tw8260078842695283502 : True := trivial
theorem Mine.holds.tw2929439407932294337 : True := trivial
theorem Mine.holds.tw10828986214106111531 : True := trivial
theorem Mine.holds.tw99148262030102190 : True := trivial
theorem Mine.holds.tw10491065262344570346 : True := trivial
theorem Mine.holds.tw10953125311028157021 : True := trivial
theorem Mine.holds.tw12633084752571091873 : True := trivial
theorem Mine.holds.tw3339025504875072537 : True := trivial
theorem Mine.holds.tw2667925813562934949 : True := trivial
theorem Mine.holds.tw4659233104850659043 : True := trivial
theorem Mine.holds.tw4397353207691548035 : True := trivial
theorem Mine.holds.tw3256209041318659551 : True := trivial
theorem Mine.holds.tw11775407622660791982 : True := trivial
theorem Mine.holds.tw12039203186867382747 : True := trivial
theorem Mine.holds.tw5006882278849481289 : True := trivial
theorem Mine.holds.tw13281364814482169325 : True := trivial
theorem Mine.holds.tw8006095370074002437 : True := trivial
theorem Mine.holds.tw12929723366055764138 : True := trivial
theorem Mine.holds.tw1095465085569150570 : True := trivial
theorem Mine.holds.tw4702539438339769474 : True := trivial
theorem Mine.holds.tw5099458221760260784 : True := trivial
theorem Mine.holds.tw4077311611012620791 : True := trivial
theorem Mine.holds.tw576298715544257586 : True := trivial
theorem Mine.holds.tw16682935309838494251 : True := trivial
theorem Mine.holds.tw14247145606103189434 : True := trivial
theorem Mine.holds.tw6099975724469302500 : True := trivial
theorem Mine.holds.tw6396523623945614605 : True := trivial
theorem Mine.holds.tw10981351503976158137 : True := trivial
theorem Mine.holds.tw11040456503202229835 : True := trivial
theorem Mine.holds.tw18145382148040430673 : True := trivial
theorem Mine.holds.tw9260842090827677427 : True := trivial
theorem Mine.holds.tw15580662879708500073 : True := trivial
theorem Mine.holds.tw8868040359437915812 : True := trivial
theorem Mine.holds.tw4021013208564600997 : True := trivial
theorem Mine.holds.tw10494946348260405530 : True := trivial
theorem Mine.holds.tw13108245259352980691 : True := trivial
theorem Mine.holds.tw3081346186701454755 : True := trivial
theorem Mine.holds.tw6424660084863691381 : True := trivial
theorem Mine.holds.tw13373784697917265674 : True := trivial
theorem Mine.holds.tw12774209864397607762 : True := trivial
theorem Mine.holds.tw9518972631687950247 : True := trivial
theorem Mine.holds.tw2395109189467087578 : True := trivial
theorem Mine.holds.tw8087273147054526846 : True := trivial
theorem Mine.holds.tw2395783193375807797 : True := trivial
theorem Mine.holds.tw5981487413272766262 : True := trivial
theorem Mine.holds.tw12158838097934144204 : True := trivial
theorem Mine.holds.tw9930548314228155742 : True := trivial
theorem Mine.holds.tw7258431392514884226 : True := trivial
theorem Mine.holds.tw2490583276235294983 : True := trivial
theorem Mine.holds.tw3864012138097595758 : True := trivial
theorem Mine.holds.tw17500814259130102135 : True := trivial
theorem Mine.holds.tw1349225773494744244 : True := trivial
theorem Mine.holds.tw3393808461323943489 : True := trivial
theorem Mine.holds.tw18193256452927958525 : True := trivial
theorem Mine.holds.tw2752272122444995253 : True := trivial
theorem Mine.holds.tw7350330377624401328 : True := trivial
theorem Mine.holds.tw14571696787620697854 : True := trivial
theorem Mine.holds.tw7129523546110730894 : True := trivial
theorem Mine.holds.tw3101148707280403237 : True := trivial
theorem Mine.holds.tw10677865647760817919 : True := trivial
theorem Mine.holds.tw8070350036930755802 : True := trivial
theorem Mine.holds.tw949623864930693503 : True := trivial
theorem Mine.holds.tw16141144775947785660 : True := trivial
theorem Mine.holds.tw15750308709622187472 : True := trivial
theorem Mine.holds.tw1357463484097335404 : True := trivial
theorem Mine.holds.tw8143335708233088440 : True := trivial
theorem Mine.holds.tw11822188140940861840 : True := trivial
theorem Mine.holds.tw3579776383272448420 : True := trivial
theorem Mine.holds.tw12160635655254385198 : True := trivial
theorem Mine.holds.tw6545324650690627985 : True := trivial
theorem Mine.holds.tw12540800736699631050 : True := trivial
theorem Mine.holds.tw1508545211966159021 : True := trivial
theorem Mine.holds.tw14149781006570564392 : True := trivial
theorem Mine.holds.tw15349486494167490861 : True := trivial
theorem Mine.holds.tw12941468149822085856 : True := trivial
theorem Mine.holds.tw2451063411067222376 : True := trivial
theorem Mine.holds.tw10637851664137882224 : True := trivial
theorem Mine.holds.tw7442186320969616419 : True := trivial
theorem Mine.holds.tw15027879205694222834 : True := trivial
theorem Mine.holds.tw13757568721421367004 : True := trivial
theorem Mine.holds.tw9647410926604887880 : True := trivial
theorem Mine.holds.tw17254660705983429885 : True := trivial
theorem Mine.holds.tw6654929391614583909 : True := trivial
theorem Mine.holds.tw9367411864662104596 : True := trivial
theorem Mine.holds.tw2562329033357795767 : True := trivial
theorem Mine.holds.tw18078616723997116376 : True := trivial
theorem Mine.holds.tw11021402016762074336 : True := trivial
theorem Mine.holds.tw15326264675407861456 : True := trivial
theorem Mine.holds.tw7548614866355832645 : True := trivial
theorem Mine.holds.tw12468101337765408714 : True := trivial
theorem Mine.holds.tw9072656965561520583 : True := trivial
theorem Mine.holds.tw10684964147190113176 : True := trivial
theorem Mine.holds.tw15383290158734973844 : True := trivial
theorem Mine.holds.tw8102643725754146565 : True := trivial
theorem Mine.holds.tw15987345220168432620 : True := trivial
theorem Mine.holds.tw6896159741398044905 : True := trivial
theorem Mine.holds.tw3834328006691320696 : True := trivial
theorem Mine.holds.tw5015485144833937494 : True := trivial
theorem Mine.holds.tw13356387430892511905 : True := trivial
theorem Mine.holds.tw5031978486770369989 : True := trivial
theorem Mine.holds.tw7840918076549728228 : True := trivial
theorem Mine.holds.tw15815842588268232306 : True := trivial
theorem Mine.holds.tw154871700347349385 : True := trivial
theorem Mine.holds.tw63030109126827207 : True := trivial
theorem Mine.holds.tw7389893730484166007 : True := trivial
theorem Mine.holds.tw10274680400919065884 : True := trivial
theorem Mine.holds.tw4043779546988386903 : True := trivial
theorem Mine.holds.tw13602253286356535353 : True := trivial
theorem Mine.holds.tw16762735861678686087 : True := trivial
theorem Mine.holds.tw17027350548333183925 : True := trivial
theorem Mine.holds.tw11968577826497805164 : True := trivial
theorem Mine.holds.tw13150661809386230508 : True := trivial
theorem Mine.holds.tw18173914834931495973 : True := trivial
theorem Mine.holds.tw14977296931134136204 : True := trivial
theorem Mine.holds.tw16898140867199733807 : True := trivial
theorem Mine.holds.tw13945929957867325323 : True := trivial
theorem Mine.holds.tw8105830805119860317 : True := trivial
theorem Mine.holds.tw9232459349045140238 : True := trivial
theorem Mine.holds.tw1213666046027356511 : True := trivial
theorem Mine.holds.tw7366336091430424897 : True := trivial
theorem Mine.holds.tw17714467908841036005 : True := trivial
theorem Mine.holds.tw17765825090018352961 : True := trivial
theorem Mine.holds.tw3811385743445658432 : True := trivial
theorem Mine.holds.tw14314133134477209284 : True := trivial
theorem Mine.holds.tw12947342387834907416 : True := trivial
theorem Mine.holds.tw15814798929938293467 : True := trivial
theorem Mine.holds.tw9712817358965380444 : True := trivial
theorem Mine.holds.tw16532224993992427823 : True := trivial
theorem Mine.holds.tw7991519602905016326 : True := trivial
theorem Mine.holds.tw1692041494862269998 : True := trivial
theorem Mine.holds.tw9370115536473471133 : True := trivial
theorem Mine.holds.tw14375228850674640113 : True := trivial
theorem Mine.holds.tw13208604148985916543 : True := trivial
theorem Mine.holds.tw5274829272982666545 : True := trivial
theorem Mine.holds.tw16286308178466712102 : True := trivial
theorem Mine.holds.tw12306811582311103309 : True := trivial
theorem Mine.holds.tw7122917452565745793 : True := trivial
theorem Mine.holds.tw4876135695594978501 : True := trivial
theorem Mine.holds.tw8086972369959518483 : True := trivial
set_option maxHeartbeats 8000000
set_option Elab.async true
theorem Mine.holds : PySem.Challenge.rw_ak0004_01.Holds := by
  w_on
  o_law
  o_head (kHook Mine.KH [2, 3, 64, 65, 77, 78, 127, 128, 129, 130, 136, 137, 143, 144, 150, 151, 157, 158, 164, 165, 171, 172, 222, 223, 279, 280, 302, 303, 309, 310, 316, 317, 319, 326, 327, 329, 357, 358, 364, 365, 367, 368, 385, 386, 392, 393, 395, 396, 413, 414, 420, 421, 427, 428, 429, 435, 436, 442, 443, 449, 450, 456, 457, 470, 471, 473, 474, 482, 483, 487, 488, 494, 495, 499, 500] (fun _ => by kernel_rfl))
  case hw => w_witness2
  intro w s0 s1 mg mb G Y fa o pm cd doc dV kV ho hd hcd hD hmg hg args vals as hpre hlay hrd hwl hlo
  have KX := kIn_of Y
  refine Ground.open G ?_
  intro T B D TE TW
  have hmg2 : mg (Str.ofString "law") = some (.ref fa) := hmg
  clear ho hd hcd hD hmg B D TE TW
  wrow_args hpre hlay hrd hwl hlo
  all_goals first | refine callC_kw (enter_call ?_) | refine enter_call ?_
  rename Heap.IsList _ _ _ => hL
  rename IntsAre _ _ => hI
  rename ¬ (_ < _) => hz
  refine Mine.law_good (p := _) (loose := _) (mb := mb) ⟨KX, topRead_of T⟩ hmg2 hg hL hI (by lia) (raisesW_false ?_) ?_
  · wrow_none_raised
  · wrow_post
set_option Elab.async false
theorem PySem.Challenge.cw_ak0004_01_holds : PySem.Challenge.rw_ak0004_01.Holds := by
  exact Mine.holds
