import PyProof.Rows.All
import Wide.All
import OpenK.AllK
import Wide.FinOn
import PySem.Challenge.RW_om0109_01
set_option Elab.async false
set_option maxRecDepth 100000
set_option tactic.hygienic false
set_option linter.unusedVariables false
section
open PySem PySem.W PySem.W.X PyProof.Rows
set_option maxHeartbeats 8000000
namespace Mine
open PySem.Challenge (pw_om0109_01)
noncomputable abbrev pg : Program := PySem.Challenge.pw_om0109_01
noncomputable def stAt (i : Nat) : Stmt := pg.main.body.getD i (.Pass ⟨0, 0, 0, 0⟩)
noncomputable def stIn (i j : Nat) : Stmt := match stAt i with
  | .ClassDef _ _ _ b _ _ _ _ _ _ _ => b.getD j (.Pass ⟨0, 0, 0, 0⟩)
  | s => s
noncomputable def fdOf (st : Stmt) (qual : PySem.Str) (dV pm : PySem.Value) (c : Addr) : FuncData := match st with
  | .FunctionDef name args body _ _ _ scope _ _ _ => { name, qualname := qual, params := args, body := .stmts body, scope, globals := 3, closure := [], defaults := dV, kwdefaults := .none, pyModule := pm, code := .ref c, builtins := 0 }
  | _ => default
noncomputable def fnObj (st : Stmt) (qual : PySem.Str) (dV pm : PySem.Value) (c : Addr) : Obj := { cls := .type "function", data := .func (fdOf st qual dV pm c) }
noncomputable def k2 (P : Params) : Obj := ⟨.none, none, (.dict #[] 0), #[]⟩
noncomputable def k3 (P : Params) : Obj := ⟨(.type "dict"), none, (.dict #[⟨PyData.keyHash P "__name__", (.str "__name__" 165), (.str "law_om0109_01" 541)⟩, ⟨PyData.keyHash P "__doc__", (.str "__doc__" 166), .none⟩, ⟨PyData.keyHash P "__package__", (.str "__package__" 167), .none⟩, ⟨PyData.keyHash P "__loader__", (.str "__loader__" 168), (.builtin "__main__.__loader__#opaque")⟩, ⟨PyData.keyHash P "__spec__", (.str "__spec__" 169), .none⟩, ⟨PyData.keyHash P "__annotations__", (.str "__annotations__" 170), (.ref 6)⟩, ⟨PyData.keyHash P "__builtins__", (.str "__builtins__" 171), (.ref 4)⟩, ⟨PyData.keyHash P "__file__", (.str "__file__" 173), (.str "/claim/cut.py" 172)⟩, ⟨PyData.keyHash P "__cached__", (.str "__cached__" 174), .none⟩, ⟨PyData.keyHash P "_wall", (.str "_wall" 193), (.ref 21)⟩, ⟨PyData.keyHash P "_NODE_OUT", (.str "_NODE_OUT" 198), (.int (-1) 197)⟩, ⟨PyData.keyHash P "_NODE_DONE", (.str "_NODE_DONE" 201), (.int (-2) 200)⟩, ⟨PyData.keyHash P "_NodeInfo", (.str "_NodeInfo" 238), (.ref 40)⟩, ⟨PyData.keyHash P "CycleError", (.str "CycleError" 256), (.ref 55)⟩, ⟨PyData.keyHash P "TopologicalSorter", (.str "TopologicalSorter" 375), (.ref 137)⟩, ⟨PyData.keyHash P "Int2AP", (.str "Int2AP" 387), (.ref 148)⟩, ⟨PyData.keyHash P "_get_sep", (.str "_get_sep" 396), (.ref 155)⟩, ⟨PyData.keyHash P "_plain_name", (.str "_plain_name" 407), (.ref 162)⟩, ⟨PyData.keyHash P "ABCMeta", (.str "ABCMeta" 433), (.ref 179)⟩, ⟨PyData.keyHash P "_ABCLike", (.str "_ABCLike" 476), (.ref 212)⟩, ⟨PyData.keyHash P "_abc_plain_meta", (.str "_abc_plain_meta" 483), (.ref 221)⟩, ⟨PyData.keyHash P "fspath", (.str "fspath" 495), (.ref 228)⟩, ⟨PyData.keyHash P "splitroot", (.str "splitroot" 506), (.ref 235)⟩, ⟨PyData.keyHash P "basename", (.str "basename" 515), (.ref 242)⟩, ⟨PyData.keyHash P "dirname", (.str "dirname" 525), (.ref 249)⟩, ⟨PyData.keyHash P "normpath", (.str "normpath" 540), (.ref 256)⟩, ⟨PyData.keyHash P "_law_names", (.str "_law_names" 548), (.ref 263)⟩, ⟨PyData.keyHash P "_law_spelled", (.str "_law_spelled" 558), (.ref 270)⟩, ⟨PyData.keyHash P "_law_empty", (.str "_law_empty" 564), (.ref 275)⟩, ⟨PyData.keyHash P "_law_put", (.str "_law_put" 573), (.ref 282)⟩, ⟨PyData.keyHash P "_law_tree", (.str "_law_tree" 579), (.ref 287)⟩, ⟨PyData.keyHash P "_law_refusal", (.str "_law_refusal" 588), (.ref 294)⟩, ⟨PyData.keyHash P "_law_served", (.str "_law_served" 594), (.ref 299)⟩, ⟨PyData.keyHash P "_law_wishes", (.str "_law_wishes" 600), (.ref 304)⟩, ⟨PyData.keyHash P "_law_words", (.str "_law_words" 606), (.ref 309)⟩, ⟨PyData.keyHash P "law", (.str "law" 612), (.ref 314)⟩] 36), #[]⟩
noncomputable def k35 (P : Params) : Obj := ⟨(.type "code"), none, (.fields #[(.str "__init__" 218), (.str "_NodeInfo.__init__" 219), (.str "/claim/cut.py" 220), (.int (10) 0), (.int (2) 0), (.int (0) 0), (.int (0) 0), (.int (3) 0), (.ref 30), (.bool true), (.int (181) 0), (.ref 31), .none, (.ref 32), (.ref 33), (.ref 34), (.int (223) 0), (.int (10) 0), (.str "/claim/cut.py" 224)]), #[]⟩
noncomputable def k36 (P : Params) : Obj := fnObj (stIn 4 1) "_NodeInfo.__init__" .none (.str "cpy313.graphlib" 194) 35
noncomputable def k39 (P : Params) : Obj := ⟨(.type "dict"), none, (.dict #[⟨PyData.keyHash P "__module__", (.str "__module__" 209), (.str "cpy313.graphlib" 194)⟩, ⟨PyData.keyHash P "__firstlineno__", (.str "__firstlineno__" 213), (.int (7) 212)⟩, ⟨PyData.keyHash P "__slots__", (.str "__slots__" 217), (.ref 29)⟩, ⟨PyData.keyHash P "__init__", (.str "__init__" 225), (.ref 36)⟩, ⟨PyData.keyHash P "__static_attributes__", (.str "__static_attributes__" 229), (.ref 37)⟩, ⟨PyData.keyHash P "node", (.str "node" 231), (.ref 41)⟩, ⟨PyData.keyHash P "npredecessors", (.str "npredecessors" 233), (.ref 42)⟩, ⟨PyData.keyHash P "successors", (.str "successors" 235), (.ref 43)⟩, ⟨PyData.keyHash P "__doc__", (.str "__doc__" 236), .none⟩] 5), #[]⟩
noncomputable def k40 (P : Params) : Obj := ⟨(.type "type"), none, (.cls { name := "_NodeInfo", bases := [(.type "object")], mro := [(.ref 40), (.type "object")], ns := 39, qualname := "_NodeInfo", hasDict := false, slotNames := ["node", "npredecessors", "successors"] }), #[none, none, some (.str "_NodeInfo" 202), some (.str "_NodeInfo" 210), some (.builtin "object.__new__"), some (.bool false)]⟩
noncomputable def k41 (P : Params) : Obj := ⟨(.type "member_descriptor"), none, (.fields #[(.str "node" 230), (.ref 40), (.builtin "proto.slot"), (.builtin "proto.slot#set"), (.int (2) 0)]), #[]⟩
noncomputable def k42 (P : Params) : Obj := ⟨(.type "member_descriptor"), none, (.fields #[(.str "npredecessors" 232), (.ref 40), (.builtin "proto.slot"), (.builtin "proto.slot#set"), (.int (1) 0)]), #[]⟩
noncomputable def k43 (P : Params) : Obj := ⟨(.type "member_descriptor"), none, (.fields #[(.str "successors" 234), (.ref 40), (.builtin "proto.slot"), (.builtin "proto.slot#set"), (.int (0) 0)]), #[]⟩
noncomputable def k66 (P : Params) : Obj := ⟨(.type "tuple"), none, (.seq #[.none] 0), #[]⟩
noncomputable def k72 (P : Params) : Obj := ⟨(.type "code"), none, (.fields #[(.str "__init__" 269), (.str "TopologicalSorter.__init__" 270), (.str "/claim/cut.py" 271), (.int (18) 0), (.int (2) 0), (.int (0) 0), (.int (0) 0), (.int (3) 0), (.ref 67), (.bool true), (.int (181) 0), (.ref 68), .none, (.ref 69), (.ref 70), (.ref 71), (.int (276) 0), (.int (18) 0), (.str "/claim/cut.py" 277)]), #[]⟩
noncomputable def k73 (P : Params) : Obj := fnObj (stIn 6 0) "TopologicalSorter.__init__" (.ref 66) (.str "cpy313.graphlib" 194) 72
noncomputable def k79 (P : Params) : Obj := ⟨(.type "code"), none, (.fields #[(.str "_get_nodeinfo" 279), (.str "TopologicalSorter._get_nodeinfo" 280), (.str "/claim/cut.py" 281), (.int (27) 0), (.int (2) 0), (.int (0) 0), (.int (0) 0), (.int (3) 0), (.ref 74), (.bool true), (.int (181) 0), (.ref 75), .none, (.ref 76), (.ref 77), (.ref 78), (.int (285) 0), (.int (27) 0), (.str "/claim/cut.py" 286)]), #[]⟩
noncomputable def k80 (P : Params) : Obj := fnObj (stIn 6 1) "TopologicalSorter._get_nodeinfo" .none (.str "cpy313.graphlib" 194) 79
noncomputable def k86 (P : Params) : Obj := ⟨(.type "code"), none, (.fields #[(.str "add" 288), (.str "TopologicalSorter.add" 289), (.str "/claim/cut.py" 290), (.int (32) 0), (.int (2) 0), (.int (0) 0), (.int (0) 0), (.int (7) 0), (.ref 81), (.bool true), (.int (181) 0), (.ref 82), .none, (.ref 83), (.ref 84), (.ref 85), (.int (297) 0), (.int (32) 0), (.str "/claim/cut.py" 298)]), #[]⟩
noncomputable def k87 (P : Params) : Obj := fnObj (stIn 6 2) "TopologicalSorter.add" .none (.str "cpy313.graphlib" 194) 86
noncomputable def k91 (P : Params) : Obj := ⟨(.type "code"), none, (.fields #[(.str "prepare" 300), (.str "TopologicalSorter.prepare" 301), (.str "/claim/cut.py" 302), (.int (41) 0), (.int (1) 0), (.int (0) 0), (.int (0) 0), (.int (3) 0), (.ref 88), (.bool true), (.int (181) 0), (.ref 89), .none, .none, .none, (.ref 90), (.int (303) 0), (.int (41) 0), (.str "/claim/cut.py" 304)]), #[]⟩
noncomputable def k92 (P : Params) : Obj := fnObj (stIn 6 3) "TopologicalSorter.prepare" .none (.str "cpy313.graphlib" 194) 91
noncomputable def k98 (P : Params) : Obj := ⟨(.type "code"), none, (.fields #[(.str "get_ready" 306), (.str "TopologicalSorter.get_ready" 307), (.str "/claim/cut.py" 308), (.int (49) 0), (.int (1) 0), (.int (0) 0), (.int (0) 0), (.int (3) 0), (.ref 93), (.bool true), (.int (181) 0), (.ref 94), .none, (.ref 95), (.ref 96), (.ref 97), (.int (313) 0), (.int (49) 0), (.str "/claim/cut.py" 314)]), #[]⟩
noncomputable def k99 (P : Params) : Obj := fnObj (stIn 6 4) "TopologicalSorter.get_ready" .none (.str "cpy313.graphlib" 194) 98
noncomputable def k105 (P : Params) : Obj := ⟨(.type "code"), none, (.fields #[(.str "is_active" 316), (.str "TopologicalSorter.is_active" 317), (.str "/claim/cut.py" 318), (.int (60) 0), (.int (1) 0), (.int (0) 0), (.int (0) 0), (.int (3) 0), (.ref 100), (.bool true), (.int (181) 0), (.ref 101), .none, (.ref 102), (.ref 103), (.ref 104), (.int (320) 0), (.int (60) 0), (.str "/claim/cut.py" 321)]), #[]⟩
noncomputable def k106 (P : Params) : Obj := fnObj (stIn 6 5) "TopologicalSorter.is_active" .none (.str "cpy313.graphlib" 194) 105
noncomputable def k112 (P : Params) : Obj := ⟨(.type "code"), none, (.fields #[(.str "__bool__" 323), (.str "TopologicalSorter.__bool__" 324), (.str "/claim/cut.py" 325), (.int (65) 0), (.int (1) 0), (.int (0) 0), (.int (0) 0), (.int (3) 0), (.ref 107), (.bool true), (.int (181) 0), (.ref 108), .none, (.ref 109), (.ref 110), (.ref 111), (.int (327) 0), (.int (65) 0), (.str "/claim/cut.py" 328)]), #[]⟩
noncomputable def k113 (P : Params) : Obj := fnObj (stIn 6 6) "TopologicalSorter.__bool__" .none (.str "cpy313.graphlib" 194) 112
noncomputable def k119 (P : Params) : Obj := ⟨(.type "code"), none, (.fields #[(.str "done" 330), (.str "TopologicalSorter.done" 331), (.str "/claim/cut.py" 332), (.int (68) 0), (.int (1) 0), (.int (0) 0), (.int (0) 0), (.int (7) 0), (.ref 114), (.bool true), (.int (181) 0), (.ref 115), .none, (.ref 116), (.ref 117), (.ref 118), (.int (341) 0), (.int (68) 0), (.str "/claim/cut.py" 342)]), #[]⟩
noncomputable def k120 (P : Params) : Obj := fnObj (stIn 6 7) "TopologicalSorter.done" .none (.str "cpy313.graphlib" 194) 119
noncomputable def k126 (P : Params) : Obj := ⟨(.type "code"), none, (.fields #[(.str "_find_cycle" 344), (.str "TopologicalSorter._find_cycle" 345), (.str "/claim/cut.py" 346), (.int (91) 0), (.int (1) 0), (.int (0) 0), (.int (0) 0), (.int (3) 0), (.ref 121), (.bool true), (.int (181) 0), (.ref 122), .none, (.ref 123), (.ref 124), (.ref 125), (.int (354) 0), (.int (91) 0), (.str "/claim/cut.py" 355)]), #[]⟩
noncomputable def k127 (P : Params) : Obj := fnObj (stIn 6 8) "TopologicalSorter._find_cycle" .none (.str "cpy313.graphlib" 194) 126
noncomputable def k136 (P : Params) : Obj := ⟨(.type "dict"), none, (.dict #[⟨PyData.keyHash P "__module__", (.str "__module__" 264), (.str "cpy313.graphlib" 194)⟩, ⟨PyData.keyHash P "__firstlineno__", (.str "__firstlineno__" 268), (.int (16) 267)⟩, ⟨PyData.keyHash P "__init__", (.str "__init__" 278), (.ref 73)⟩, ⟨PyData.keyHash P "_get_nodeinfo", (.str "_get_nodeinfo" 287), (.ref 80)⟩, ⟨PyData.keyHash P "add", (.str "add" 299), (.ref 87)⟩, ⟨PyData.keyHash P "prepare", (.str "prepare" 305), (.ref 92)⟩, ⟨PyData.keyHash P "get_ready", (.str "get_ready" 315), (.ref 99)⟩, ⟨PyData.keyHash P "is_active", (.str "is_active" 322), (.ref 106)⟩, ⟨PyData.keyHash P "__bool__", (.str "__bool__" 329), (.ref 113)⟩, ⟨PyData.keyHash P "done", (.str "done" 343), (.ref 120)⟩, ⟨PyData.keyHash P "_find_cycle", (.str "_find_cycle" 356), (.ref 127)⟩, ⟨PyData.keyHash P "static_order", (.str "static_order" 363), (.ref 134)⟩, ⟨PyData.keyHash P "__static_attributes__", (.str "__static_attributes__" 368), (.ref 135)⟩, ⟨PyData.keyHash P "__dict__", (.str "__dict__" 370), (.ref 138)⟩, ⟨PyData.keyHash P "__weakref__", (.str "__weakref__" 372), (.ref 139)⟩, ⟨PyData.keyHash P "__doc__", (.str "__doc__" 373), .none⟩] 4), #[]⟩
noncomputable def k137 (P : Params) : Obj := ⟨(.type "type"), none, (.cls { name := "TopologicalSorter", bases := [(.type "object")], mro := [(.ref 137), (.type "object")], ns := 136, qualname := "TopologicalSorter", hasDict := true, slotNames := [] }), #[none, none, some (.str "TopologicalSorter" 257), some (.str "TopologicalSorter" 265), some (.builtin "object.__new__"), some (.bool true)]⟩
noncomputable def k138 (P : Params) : Obj := ⟨(.type "getset_descriptor"), none, (.fields #[(.str "__dict__" 369), (.ref 137), (.builtin "function.__dict__"), (.builtin "function.__dict__#set")]), #[]⟩
noncomputable def k139 (P : Params) : Obj := ⟨(.type "getset_descriptor"), none, (.fields #[(.str "__weakref__" 371), (.ref 137), (.builtin "ExceptionGroup.__weakref__"), .none]), #[]⟩
noncomputable def k147 (P : Params) : Obj := ⟨(.type "code"), none, (.fields #[(.str "Int2AP" 378), (.str "Int2AP" 379), (.str "/claim/cut.py" 380), (.int (123) 0), (.int (1) 0), (.int (0) 0), (.int (0) 0), (.int (3) 0), (.ref 142), (.bool true), (.int (181) 0), (.ref 143), .none, (.ref 144), (.ref 145), (.ref 146), (.int (385) 0), (.int (123) 0), (.str "/claim/cut.py" 386)]), #[]⟩
noncomputable def k148 (P : Params) : Obj := fnObj (stAt 8) "Int2AP" .none (.str "cpy313.imaplib" 376) 147
noncomputable def k154 (P : Params) : Obj := ⟨(.type "code"), none, (.fields #[(.str "_get_sep" 390), (.str "_get_sep" 391), (.str "/claim/cut.py" 392), (.int (132) 0), (.int (1) 0), (.int (0) 0), (.int (0) 0), (.int (3) 0), (.ref 149), (.bool true), (.int (181) 0), (.ref 150), .none, (.ref 151), (.ref 152), (.ref 153), (.int (394) 0), (.int (132) 0), (.str "/claim/cut.py" 395)]), #[]⟩
noncomputable def k155 (P : Params) : Obj := fnObj (stAt 10) "_get_sep" .none (.str "cpy313.posixpath" 388) 154
noncomputable def k227 (P : Params) : Obj := ⟨(.type "code"), none, (.fields #[(.str "fspath" 486), (.str "fspath" 487), (.str "/claim/cut.py" 488), (.int (168) 0), (.int (1) 0), (.int (0) 0), (.int (0) 0), (.int (3) 0), (.ref 222), (.bool true), (.int (181) 0), (.ref 223), .none, (.ref 224), (.ref 225), (.ref 226), (.int (493) 0), (.int (168) 0), (.str "/claim/cut.py" 494)]), #[]⟩
noncomputable def k228 (P : Params) : Obj := fnObj (stAt 19) "fspath" .none (.str "os" 484) 227
noncomputable def k234 (P : Params) : Obj := ⟨(.type "code"), none, (.fields #[(.str "splitroot" 498), (.str "splitroot" 499), (.str "/claim/cut.py" 500), (.int (185) 0), (.int (1) 0), (.int (0) 0), (.int (0) 0), (.int (3) 0), (.ref 229), (.bool true), (.int (181) 0), (.ref 230), .none, (.ref 231), (.ref 232), (.ref 233), (.int (504) 0), (.int (185) 0), (.str "/claim/cut.py" 505)]), #[]⟩
noncomputable def k235 (P : Params) : Obj := fnObj (stAt 21) "splitroot" .none (.str "cpy313.posixpath" 496) 234
noncomputable def k241 (P : Params) : Obj := ⟨(.type "code"), none, (.fields #[(.str "basename" 507), (.str "basename" 508), (.str "/claim/cut.py" 509), (.int (199) 0), (.int (1) 0), (.int (0) 0), (.int (0) 0), (.int (3) 0), (.ref 236), (.bool true), (.int (181) 0), (.ref 237), .none, (.ref 238), (.ref 239), (.ref 240), (.int (513) 0), (.int (199) 0), (.str "/claim/cut.py" 514)]), #[]⟩
noncomputable def k242 (P : Params) : Obj := fnObj (stAt 22) "basename" .none (.str "cpy313.posixpath" 496) 241
noncomputable def k248 (P : Params) : Obj := ⟨(.type "code"), none, (.fields #[(.str "dirname" 516), (.str "dirname" 517), (.str "/claim/cut.py" 518), (.int (204) 0), (.int (1) 0), (.int (0) 0), (.int (0) 0), (.int (3) 0), (.ref 243), (.bool true), (.int (181) 0), (.ref 244), .none, (.ref 245), (.ref 246), (.ref 247), (.int (523) 0), (.int (204) 0), (.str "/claim/cut.py" 524)]), #[]⟩
noncomputable def k249 (P : Params) : Obj := fnObj (stAt 23) "dirname" .none (.str "cpy313.posixpath" 496) 248
noncomputable def k255 (P : Params) : Obj := ⟨(.type "code"), none, (.fields #[(.str "normpath" 526), (.str "normpath" 527), (.str "/claim/cut.py" 528), (.int (212) 0), (.int (1) 0), (.int (0) 0), (.int (0) 0), (.int (3) 0), (.ref 250), (.bool true), (.int (181) 0), (.ref 251), .none, (.ref 252), (.ref 253), (.ref 254), (.int (538) 0), (.int (212) 0), (.str "/claim/cut.py" 539)]), #[]⟩
noncomputable def k256 (P : Params) : Obj := fnObj (stAt 24) "normpath" .none (.str "cpy313.posixpath" 496) 255
noncomputable def k262 (P : Params) : Obj := ⟨(.type "code"), none, (.fields #[(.str "_law_names" 543), (.str "_law_names" 544), (.str "/claim/cut.py" 545), (.int (238) 0), (.int (0) 0), (.int (0) 0), (.int (0) 0), (.int (3) 0), (.ref 257), (.bool true), (.int (181) 0), (.ref 258), .none, (.ref 259), (.ref 260), (.ref 261), (.int (546) 0), (.int (238) 0), (.str "/claim/cut.py" 547)]), #[]⟩
noncomputable def k263 (P : Params) : Obj := fnObj (stAt 26) "_law_names" .none (.str "law_om0109_01" 541) 262
noncomputable def k269 (P : Params) : Obj := ⟨(.type "code"), none, (.fields #[(.str "_law_spelled" 549), (.str "_law_spelled" 550), (.str "/claim/cut.py" 551), (.int (240) 0), (.int (2) 0), (.int (0) 0), (.int (0) 0), (.int (3) 0), (.ref 264), (.bool true), (.int (181) 0), (.ref 265), .none, (.ref 266), (.ref 267), (.ref 268), (.int (556) 0), (.int (240) 0), (.str "/claim/cut.py" 557)]), #[]⟩
noncomputable def k270 (P : Params) : Obj := fnObj (stAt 27) "_law_spelled" .none (.str "law_om0109_01" 541) 269
noncomputable def k274 (P : Params) : Obj := ⟨(.type "code"), none, (.fields #[(.str "_law_empty" 559), (.str "_law_empty" 560), (.str "/claim/cut.py" 561), (.int (244) 0), (.int (1) 0), (.int (0) 0), (.int (0) 0), (.int (3) 0), (.ref 271), (.bool true), (.int (181) 0), (.ref 272), .none, .none, .none, (.ref 273), (.int (562) 0), (.int (244) 0), (.str "/claim/cut.py" 563)]), #[]⟩
noncomputable def k275 (P : Params) : Obj := fnObj (stAt 28) "_law_empty" .none (.str "law_om0109_01" 541) 274
noncomputable def k281 (P : Params) : Obj := ⟨(.type "code"), none, (.fields #[(.str "_law_put" 565), (.str "_law_put" 566), (.str "/claim/cut.py" 567), (.int (252) 0), (.int (3) 0), (.int (0) 0), (.int (0) 0), (.int (3) 0), (.ref 276), (.bool true), (.int (181) 0), (.ref 277), .none, (.ref 278), (.ref 279), (.ref 280), (.int (571) 0), (.int (252) 0), (.str "/claim/cut.py" 572)]), #[]⟩
noncomputable def k282 (P : Params) : Obj := fnObj (stAt 29) "_law_put" .none (.str "law_om0109_01" 541) 281
noncomputable def k286 (P : Params) : Obj := ⟨(.type "code"), none, (.fields #[(.str "_law_tree" 574), (.str "_law_tree" 575), (.str "/claim/cut.py" 576), (.int (258) 0), (.int (2) 0), (.int (0) 0), (.int (0) 0), (.int (3) 0), (.ref 283), (.bool true), (.int (181) 0), (.ref 284), .none, .none, .none, (.ref 285), (.int (577) 0), (.int (258) 0), (.str "/claim/cut.py" 578)]), #[]⟩
noncomputable def k287 (P : Params) : Obj := fnObj (stAt 30) "_law_tree" .none (.str "law_om0109_01" 541) 286
noncomputable def k293 (P : Params) : Obj := ⟨(.type "code"), none, (.fields #[(.str "_law_refusal" 580), (.str "_law_refusal" 581), (.str "/claim/cut.py" 582), (.int (268) 0), (.int (2) 0), (.int (0) 0), (.int (0) 0), (.int (3) 0), (.ref 288), (.bool true), (.int (181) 0), (.ref 289), .none, (.ref 290), (.ref 291), (.ref 292), (.int (586) 0), (.int (268) 0), (.str "/claim/cut.py" 587)]), #[]⟩
noncomputable def k294 (P : Params) : Obj := fnObj (stAt 31) "_law_refusal" .none (.str "law_om0109_01" 541) 293
noncomputable def k298 (P : Params) : Obj := ⟨(.type "code"), none, (.fields #[(.str "_law_served" 589), (.str "_law_served" 590), (.str "/claim/cut.py" 591), (.int (274) 0), (.int (3) 0), (.int (0) 0), (.int (0) 0), (.int (3) 0), (.ref 295), (.bool true), (.int (181) 0), (.ref 296), .none, .none, .none, (.ref 297), (.int (592) 0), (.int (274) 0), (.str "/claim/cut.py" 593)]), #[]⟩
noncomputable def k299 (P : Params) : Obj := fnObj (stAt 32) "_law_served" .none (.str "law_om0109_01" 541) 298
noncomputable def k303 (P : Params) : Obj := ⟨(.type "code"), none, (.fields #[(.str "_law_wishes" 595), (.str "_law_wishes" 596), (.str "/claim/cut.py" 597), (.int (293) 0), (.int (3) 0), (.int (0) 0), (.int (0) 0), (.int (3) 0), (.ref 300), (.bool true), (.int (181) 0), (.ref 301), .none, .none, .none, (.ref 302), (.int (598) 0), (.int (293) 0), (.str "/claim/cut.py" 599)]), #[]⟩
noncomputable def k304 (P : Params) : Obj := fnObj (stAt 33) "_law_wishes" .none (.str "law_om0109_01" 541) 303
noncomputable def k308 (P : Params) : Obj := ⟨(.type "code"), none, (.fields #[(.str "_law_words" 601), (.str "_law_words" 602), (.str "/claim/cut.py" 603), (.int (303) 0), (.int (1) 0), (.int (0) 0), (.int (0) 0), (.int (3) 0), (.ref 305), (.bool true), (.int (181) 0), (.ref 306), .none, .none, .none, (.ref 307), (.int (604) 0), (.int (303) 0), (.str "/claim/cut.py" 605)]), #[]⟩
noncomputable def k309 (P : Params) : Obj := fnObj (stAt 34) "_law_words" .none (.str "law_om0109_01" 541) 308
noncomputable def k313 (P : Params) : Obj := ⟨(.type "code"), none, (.fields #[(.str "law" 607), (.str "law" 608), (.str "/claim/cut.py" 609), (.int (316) 0), (.int (1) 0), (.int (0) 0), (.int (0) 0), (.int (3) 0), (.ref 310), (.bool true), (.int (181) 0), (.ref 311), .none, .none, .none, (.ref 312), (.int (610) 0), (.int (316) 0), (.str "/claim/cut.py" 611)]), #[]⟩
noncomputable def k314 (P : Params) : Obj := fnObj (stAt 35) "law" .none (.str "law_om0109_01" 541) 313
noncomputable def kAs : List Addr := [2, 3, 35, 36, 39, 40, 41, 42, 43, 66, 72, 73, 79, 80, 86, 87, 91, 92, 98, 99, 105, 106, 112, 113, 119, 120, 126, 127, 136, 137, 138, 139, 147, 148, 154, 155, 227, 228, 234, 235, 241, 242, 248, 249, 255, 256, 262, 263, 269, 270, 274, 275, 281, 282, 286, 287, 293, 294, 298, 299, 303, 304, 308, 309, 313, 314]
noncomputable def myK (P : Params) : Frag := [(2, k2 P), (3, k3 P), (35, k35 P), (36, k36 P), (39, k39 P), (40, k40 P), (41, k41 P), (42, k42 P), (43, k43 P), (66, k66 P), (72, k72 P), (73, k73 P), (79, k79 P), (80, k80 P), (86, k86 P), (87, k87 P), (91, k91 P), (92, k92 P), (98, k98 P), (99, k99 P), (105, k105 P), (106, k106 P), (112, k112 P), (113, k113 P), (119, k119 P), (120, k120 P), (126, k126 P), (127, k127 P), (136, k136 P), (137, k137 P), (138, k138 P), (139, k139 P), (147, k147 P), (148, k148 P), (154, k154 P), (155, k155 P), (227, k227 P), (228, k228 P), (234, k234 P), (235, k235 P), (241, k241 P), (242, k242 P), (248, k248 P), (249, k249 P), (255, k255 P), (256, k256 P), (262, k262 P), (263, k263 P), (269, k269 P), (270, k270 P), (274, k274 P), (275, k275 P), (281, k281 P), (282, k282 P), (286, k286 P), (287, k287 P), (293, k293 P), (294, k294 P), (298, k298 P), (299, k299 P), (303, k303 P), (304, k304 P), (308, k308 P), (309, k309 P), (313, k313 P), (314, k314 P)]
noncomputable def q : Program := { pw_om0109_01 with main := { pw_om0109_01.main with body := pw_om0109_01.main.body.drop 35 } }
noncomputable def loose : List PySem.Str := ["_wall", "_NODE_OUT", "_NODE_DONE", "_NodeInfo", "CycleError", "TopologicalSorter", "Int2AP", "_get_sep", "_plain_name", "ABCMeta", "_ABCLike", "_abc_plain_meta", "fspath", "splitroot", "basename", "dirname", "normpath", "_law_names", "_law_spelled", "_law_empty", "_law_put", "_law_tree", "_law_refusal", "_law_served", "_law_wishes", "_law_words"]
theorem kKeys (P : Params) : kAs = (myK P).map (·.1) := rfl
end Mine
end
section
open PySem PySem.W PySem.W.X PyProof.Rows
set_option maxHeartbeats 8000000
namespace Mine
open PySem.Challenge (pw_om0109_01 rw_om0109_01)
theorem left : LeftO pw_om0109_01 q loose (fun s => xlAt q [] s && recOk [] s) (fun s => kAs.map s.heap.get?) (fun w => (myK w.params).map fun p => some p.2) 4600 := fun w => by kernel_rfl
theorem said : rw_om0109_01.wellSaid = true := by kernel_rfl
theorem saidRow : rw_om0109_01.row.wellSaid = true := row_said said
theorem ok3 : (chainsOk q && opensWell pw_om0109_01 && (frees rw_om0109_01.row.toRowW && rw_om0109_01.row.within.isEmpty)) = true := by kernel_rfl
noncomputable def lawD : DefRec × List (PySem.Str × PySem.Expr) := match defOf q rw_om0109_01.row.name with
  | some x => x
  | none => (⟨default, default, default, default, default⟩, [])
theorem prom : rw_om0109_01.row.toRowW.promised := by w_witness2
theorem head (hc : WalkO q loose (XL q []) (InK myK) rw_om0109_01.row.toRowW lawD.1 lawD.2 fun f vs => call f vs) : rw_om0109_01.Holds := by
  refine holds_law said fun V => ?_
  refine holds_open (q := q) (loose := loose) (Xt := fun s => xlAt q [] s && recOk [] s) (XP := XL q []) (Yf := fun s => kAs.map s.heap.get?) (Ya := fun w => (myK w.params).map fun (p : Addr × Obj) => some p.2) (YP := InK myK) (N := 4600) left (InK.of kKeys) InK.keeps (fun s e => xl_of s (Bool.and_eq_true_iff.mp e).1) XL.keeps ?_ ?_ ?_ (fun s e => recFacts_of (Bool.and_eq_true_iff.mp e).2) rfl saidRow ok3 ⟨rfl, rfl, rfl, rfl, rfl, by decide +kernel⟩ prom hc
  · kernel_rfl
  · kernel_rfl
  · kernel_rfl
end Mine
end
section
open PySem PySem.W PySem.W.X PyProof.Rows
set_option maxHeartbeats 8000000
namespace Mine
noncomputable def known : List PySem.Str := startupNames ++ loose ++ (recsOf q).map (·.name) ++ (litsOf q).map (·.1) ++ (clssOf q loose).map (·.name)
theorem looseSub : ((looseW q loose).all fun x => known.contains x) = true := by kernel_rfl
theorem clssSub : (((clssOf q (looseW q loose)).map (·.name)).all fun x => known.contains x) = true := by kernel_rfl
theorem topR {mean : ExcName → Option PySem.Value} {mg mb : PySem.Str → Option PySem.Value} {h : Heap} (T : Top q (looseW q loose) mean mg mb h) : TopRead q loose mg mb h := by
  refine ⟨T.g, T.b, T.nolimit, T.builtins, fun x h1 h2 h3 h4 h5 => ?_⟩
  have hx : x ∉ known := by
    unfold known; simp only [List.mem_append, not_or]; exact ⟨⟨⟨⟨h1, h2⟩, h3⟩, h4⟩, h5⟩
  have sub : ∀ l : List PySem.Str, (l.all fun x => known.contains x) = true → x ∉ l := fun l hl hm => hx (by simpa using List.all_eq_true.mp hl x hm)
  exact T.free x h1 (sub _ looseSub) h3 h4 (sub _ clssSub)
end Mine
end
section
open PySem PySem.W PySem.Calls PyProof.Rows
namespace Mine
/-- a goal is put aside while a fact is opened -/
theorem withGoal {G : Prop} (k : ∀ X : Prop, (G → X) → X) : G := k G id
theorem out3 {α β γ : Type} {X Y Z : α → β → γ → Prop} {G : Prop} (h : ∃ a b c, X a b c ∧ Y a b c ∧ Z a b c) (k : ∀ a b c, X a b c → Y a b c → Z a b c → G) : G := by
  obtain ⟨a, b, c, x, y, z⟩ := h
  exact k a b c x y z
theorem out2 {α β : Type} {X Y Z : α → β → Prop} {G : Prop} (h : ∃ a b, X a b ∧ Y a b ∧ Z a b) (k : ∀ a b, X a b → Y a b → Z a b → G) : G := by
  obtain ⟨a, b, x, y, z⟩ := h
  exact k a b x y z

/-- abstract values: values up to tokens -/
inductive AV where
  | none
  | bool (b : Bool)
  | int (i : Int)
  | str (s : PySem.Str)
  | strT (s : PySem.Str) (u : Tok)
  | bytes (b : Array UInt8)
  | type (n : String)
  | builtin (n : String)
  | ref (a : Addr)

noncomputable def AV.val (t : Tok) : AV → PySem.Value
  | .none => .none
  | .bool b => .bool b
  | .int i => .int i t
  | .str s => .str s t
  | .strT s u => .str s u
  | .bytes b => .bytes b t
  | .type n => .type n
  | .builtin n => .builtin n
  | .ref a => .ref a

noncomputable def AV.Is (a : AV) (v : PySem.Value) : Prop := ∃ t, v = a.val t

noncomputable def Vs : List AV → List PySem.Value → Prop
  | [], [] => True
  | x :: xs, v :: vs => x.Is v ∧ Vs xs vs
  | _, _ => False

theorem Vs.length : ∀ {xs : List AV} {vs : List PySem.Value}, Vs xs vs → xs.length = vs.length
  | [], [], _ => rfl
  | _ :: _, _ :: _, h => by simp [Vs.length h.2]
theorem Vs.append : ∀ {xs ys : List AV} {vs us : List PySem.Value}, Vs xs vs → Vs ys us → Vs (xs ++ ys) (vs ++ us)
  | [], _, [], _, _, h => h
  | _ :: _, _, _ :: _, _, h, h' => ⟨h.1, Vs.append h.2 h'⟩
theorem Vs.get : ∀ {xs : List AV} {vs : List PySem.Value} {i : Nat} {x : AV}, Vs xs vs → xs[i]? = some x → ∃ v, vs[i]? = some v ∧ x.Is v
  | _ :: _, v :: _, 0, _, h, e => ⟨v, rfl, by simp only [List.getElem?_cons_zero, Option.some.injEq] at e; rw [← e]; exact h.1⟩
  | _ :: _, _ :: _, i + 1, _, h, e => by
    obtain ⟨v, hv, hi⟩ := Vs.get (i := i) h.2 (by simpa using e)
    exact ⟨v, by simpa using hv, hi⟩
theorem Vs.take : ∀ {xs : List AV} {vs : List PySem.Value} (n : Nat), Vs xs vs → Vs (xs.take n) (vs.take n)
  | [], [], n, _ => by simp [Vs]
  | _ :: _, _ :: _, 0, _ => by simp [Vs]
  | _ :: _, _ :: _, n + 1, h => ⟨h.1, Vs.take n h.2⟩
theorem Vs.drop : ∀ {xs : List AV} {vs : List PySem.Value} (n : Nat), Vs xs vs → Vs (xs.drop n) (vs.drop n)
  | [], [], n, _ => by simp [Vs]
  | _ :: _, _ :: _, 0, h => h
  | _ :: _, _ :: _, n + 1, h => Vs.drop n h.2
/-- pairs -/
noncomputable def Ps : List (PySem.Str × AV) → List (PySem.Str × PySem.Value) → Prop
  | [], [] => True
  | x :: xs, v :: vs => x.1 = v.1 ∧ x.2.Is v.2 ∧ Ps xs vs
  | _, _ => False

/-- abstract objects -/
inductive AO where
  | list (xs : List AV)
  | tuple (xs : List AV)
  | dict (es : List (PySem.Str × AV))
  | set (ks : List PySem.Str)
  | cell (v : Option AV)
  | ns (loc : List (PySem.Str × AV))
  | inst (C d : Addr)
  | slotted (C d : Addr) (vs : List (Option AV))
  | raw (P : Obj → Prop)

/-- the newest first -/
noncomputable abbrev Loc := List (PySem.Str × AV)
noncomputable def lk (x : PySem.Str) : Loc → Option AV
  | [] => none
  | (y, v) :: l => match y == x with
    | true => some v
    | false => lk x l
theorem lk_cons_self (x : PySem.Str) (v : AV) (l : Loc) : lk x ((x, v) :: l) = some v := by simp [lk]
theorem lk_cons_ne {x y : PySem.Str} (v : AV) (l : Loc) (h : y ≠ x) : lk x ((y, v) :: l) = lk x l := by
  have : (y == x) = false := by simp [h]
  rw [lk, this]
noncomputable def LocIs (h : Heap) (L : Addr) (loc : Loc) : Prop := ∃ m, h.Ns L m ∧ ∀ x v, lk x loc = some v → ∃ v', m x = some v' ∧ v.Is v'

noncomputable def optIs : Option AV → Option PySem.Value → Prop
  | none, none => True
  | some a, some v => a.Is v
  | _, _ => False

noncomputable def Os : List (Option AV) → List (Option PySem.Value) → Prop
  | [], [] => True
  | x :: xs, v :: vs => optIs x v ∧ Os xs vs
  | _, _ => False

/-- the heap bears the abstract object at a -/
noncomputable def AO.In (w : World) (h : Heap) (a : Addr) : AO → Prop
  | .list xs => ∃ items m, h.get? a = some { cls := .type "list", data := .seq items m } ∧ Vs xs items.toList
  | .tuple xs => ∃ items m, h.get? a = some { cls := .type "tuple", data := .seq items m } ∧ Vs xs items.toList
  | .dict es => (a == sysModules) = false ∧ ∃ kvs, h.DictOf (strKind pg w) a kvs ∧ Ps es kvs
  | .set ks => h.SetOf (strKind pg w) a (fun k => decide (k ∈ ks)) ks.length
  | .cell v => ∃ v', h.IsCell a v' ∧ optIs v v'
  | .ns loc => ∃ m : PySem.Str → Option PySem.Value, (∃ o es ep, h.get? a = some o ∧ o.data = .dict es ep ∧ StrKeys es ∧ (∀ name, nsFind es name = m name) ∧ es.size ≤ loc.length) ∧ ∀ x, optIs (lk x loc) (m x)
  | .inst C d => ∃ o, h.get? a = some o ∧ o.cls = .ref C ∧ o.dict = some d ∧ o.data = .plain
  | .slotted C d vs => ∃ o, h.get? a = some o ∧ o.cls = .ref C ∧ o.dict = some d ∧ o.data = .plain ∧ ∃ l : List (Option PySem.Value), o.slots = l.toArray ∧ Os vs l
  | .raw P => ∃ o, h.get? a = some o ∧ P o
end Mine
end
section
open PySem PySem.W PySem.Calls PyProof.Rows
namespace Mine

theorem AO.In.of_eq {w : World} {h h' : Heap} {a : Addr} {X : AO} (x : X.In w h a) (e : h'.get? a = h.get? a) : X.In w h' a := by
  cases X with
  | list xs => obtain ⟨items, m, ho, v⟩ := x; exact ⟨items, m, e.trans ho, v⟩
  | tuple xs => obtain ⟨items, m, ho, v⟩ := x; exact ⟨items, m, e.trans ho, v⟩
  | ns loc => obtain ⟨m, ⟨o, es, ep, ho, r⟩, v⟩ := x; exact ⟨m, ⟨o, es, ep, e.trans ho, r⟩, v⟩
  | dict es => obtain ⟨z, kvs, ⟨o, b, c, ho, r⟩, v⟩ := x; exact ⟨z, kvs, ⟨o, b, c, e.trans ho, r⟩, v⟩
  | set ks => obtain ⟨o, b, c, d, ho, r⟩ := x; exact ⟨o, b, c, d, e.trans ho, r⟩
  | cell v => obtain ⟨v', ⟨o, ho, r⟩, q⟩ := x; exact ⟨v', ⟨o, e.trans ho, r⟩, q⟩
  | inst C d => obtain ⟨o, ho, r⟩ := x; exact ⟨o, e.trans ho, r⟩
  | slotted C d vs => obtain ⟨o, ho, r⟩ := x; exact ⟨o, e.trans ho, r⟩
  | raw P => obtain ⟨o, ho, r⟩ := x; exact ⟨o, e.trans ho, r⟩
theorem AO.In.there {w : World} {h : Heap} {a : Addr} {X : AO} (x : X.In w h a) : ∃ o, h.get? a = some o := by
  cases X with
  | list xs => obtain ⟨items, m, ho, v⟩ := x; exact ⟨_, ho⟩
  | tuple xs => obtain ⟨items, m, ho, v⟩ := x; exact ⟨_, ho⟩
  | ns loc => obtain ⟨m, ⟨o, es, ep, ho, r⟩, v⟩ := x; exact ⟨o, ho⟩
  | dict es => obtain ⟨z, kvs, ⟨o, b, c, ho, r⟩, v⟩ := x; exact ⟨o, ho⟩
  | set ks => obtain ⟨o, b, c, d, ho, r⟩ := x; exact ⟨o, ho⟩
  | cell v => obtain ⟨v', ⟨o, ho, r⟩, q⟩ := x; exact ⟨o, ho⟩
  | inst C d => obtain ⟨o, ho, r⟩ := x; exact ⟨o, ho⟩
  | slotted C d vs => obtain ⟨o, ho, r⟩ := x; exact ⟨o, ho⟩
  | raw P => obtain ⟨o, ho, r⟩ := x; exact ⟨o, ho⟩

noncomputable abbrev HP := Addr → Option AO
noncomputable def HP.set (hp : HP) (a : Addr) (X : AO) : HP := fun b => if b = a then some X else hp b
noncomputable def HP.del (hp : HP) (a : Addr) : HP := fun b => if b = a then none else hp b
/-- hp holds no more than hp' -/
noncomputable def HP.Sub (hp hp' : HP) : Prop := ∀ a X, hp a = some X → hp' a = some X
theorem HP.Sub.refl (hp : HP) : hp.Sub hp := fun V V e => e
theorem HP.Sub.trans {a b c : HP} (x : a.Sub b) (y : b.Sub c) : a.Sub c := fun V V e => y _ _ (x _ _ e)
@[simp] theorem HP.set_self (hp : HP) (a : Addr) (X : AO) : (hp.set a X) a = some X := if_pos rfl
theorem HP.set_ne {hp : HP} {a b : Addr} {X : AO} (h : b ≠ a) : (hp.set a X) b = hp b := if_neg h
theorem HP.set_of {hp : HP} {a b : Addr} {X Y : AO} (h : b ≠ a) (e : hp b = some Y) : (hp.set a X) b = some Y := (if_neg h).trans e
theorem HP.sub_set {hp : HP} {a : Addr} {X : AO} (h : hp a = none) : hp.Sub (hp.set a X) := fun b Y e => by
  have : b ≠ a := by rintro rfl; rw [h] at e; cases e
  rw [HP.set_ne this]; exact e
theorem HP.set_sub {hp hp' : HP} {a : Addr} {X : AO} (h : hp.Sub hp') : (hp.set a X).Sub (hp'.set a X) := fun b Y e => by
  by_cases q : b = a
  · subst q; simpa using e
  · rw [HP.set_ne q] at e ⊢; exact h _ _ e
@[simp] theorem HP.set_set (hp : HP) (a : Addr) (X Y : AO) : (hp.set a X).set a Y = hp.set a Y := by
  funext b; unfold HP.set; split <;> rfl

/-- a heap with some objects out of sight -/
noncomputable def hideP (p : Addr → Bool) (h : Heap) : Heap := ⟨h.objs.mapIdx fun i o => if p i then { o with data := .freed } else o, h.life⟩
theorem hideP_get (p : Addr → Bool) (h : Heap) (b : Addr) : (hideP p h).get? b = if p b then none else h.get? b := by
  unfold hideP Heap.get?
  simp only [Array.getElem?_mapIdx]
  cases hq : h.objs[b]? with
  | none => simp
  | some o =>
    simp only [Option.map_some]
    refine withGoal fun goalX goalBack => ?_
    obtain ⟨c, d, dt, sl⟩ := o
    refine goalBack ?_
    clear goalBack goalX
    cases p b <;> simp

/-- what stands fast for the whole proof -/
structure Gd where
  w : World
  B : Heap
  os : OsState
  /-- no exception is being handled -/
  hn : Bool

/-- the frames' addresses -/
noncomputable def SA (A : Around) : List Addr := match A.frames with | some l => l.filterMap (·.frame) | none => []

structure At (g : Gd) (S : List Addr) (h₀ : Heap) (hp : HP) (s : Shared) : Prop where
  keep : ∀ b o, h₀.get? b = some o → ∃ sl, s.heap.get? b = some { o with slots := sl } ∧ (b ∉ S → sl = o.slots)
  own : ∀ a X, hp a = some X → X.In g.w s.heap a ∧ h₀.get? a = none
  gens : s.gens = #[]
  os : s.os = g.os
  tok : 1 ≤ s.toks

structure Cx (g : Gd) (n : Nat) (A : Around) (h₀ : Heap) : Prop where
  handled : g.hn = true → A.handled = none
  depth : A.depth + n ≤ 600
  units : A.units + 20 * n ≤ 9000
  base : g.B.StaysIn h₀
  frames : ∃ l, A.frames = some l ∧ h₀.FunFrames g.B l

/-- all trees of the proof run so: no exception leaves -/
noncomputable def WH (g : Gd) (n : Nat) {α β : Type} (t : Sem α) (hp : HP) (Rel : β → α → Prop) (Q : β → HP → Prop) : Prop :=
  ∀ (A : Around) (E : PySem.Value → Shared → Prop) (h₀ : Heap) (s : Shared), Cx g n A h₀ → At g (SA A) h₀ hp s →
    wpAny (model pg g.w) A t (fun a s' => ∃ b hp', Rel b a ∧ At g (SA A) h₀ hp' s' ∧ Q b hp') E s

section
variable {g : Gd} {n : Nat} {α β γ δ : Type} {hp hp' : HP}

theorem At.sub {S : List Addr} {h₀ : Heap} {s : Shared} (x : At g S h₀ hp s) (h : hp'.Sub hp) : At g S h₀ hp' s :=
  ⟨x.keep, fun a X e => x.own a X (h a X e), x.gens, x.os, x.tok⟩
theorem At.toks {S : List Addr} {h₀ : Heap} {s : Shared} (x : At g S h₀ hp s) {t : Nat} (ht : 1 ≤ t) : At g S h₀ hp { s with toks := t } := ⟨x.keep, x.own, x.gens, x.os, ht⟩
theorem At.fresh {S : List Addr} {h₀ : Heap} {s : Shared} (x : At g S h₀ hp s) : h₀.get? s.heap.objs.size = none := by
  cases q : h₀.get? s.heap.objs.size with
  | none => rfl
  | some o => obtain ⟨sl, e, _⟩ := x.keep _ _ q; exact absurd (Heap.lt_size e) (Nat.lt_irrefl _)
theorem At.freshP {S : List Addr} {h₀ : Heap} {s : Shared} (x : At g S h₀ hp s) : hp s.heap.objs.size = none := by
  cases q : hp s.heap.objs.size with
  | none => rfl
  | some X => obtain ⟨o, e⟩ := (x.own _ _ q).1.there; exact absurd (Heap.lt_size e) (Nat.lt_irrefl _)
/-- a new object -/
theorem At.push {S : List Addr} {h₀ : Heap} {s : Shared} {o : Obj} {X : AO} (x : At g S h₀ hp s) (hX : X.In g.w (s.heap.push o) s.heap.objs.size) :
    At g S h₀ (hp.set s.heap.objs.size X) { s with heap := s.heap.push o } := by
  refine ⟨fun b ob e => ?_, fun a Y e => ?_, x.gens, x.os, x.tok⟩
  · obtain ⟨sl, e', r⟩ := x.keep b ob e; exact ⟨sl, Heap.get?_push_of_some _ e', r⟩
  · by_cases q : a = s.heap.objs.size
    · subst q; rw [HP.set_self] at e; cases e; exact ⟨hX, x.fresh⟩
    · rw [HP.set_ne q] at e
      obtain ⟨y, z⟩ := x.own a Y e
      refine ⟨?_, z⟩
      obtain ⟨o', ho'⟩ := y.there
      exact y.of_eq ((Heap.get?_push_of_some _ ho').trans ho'.symm)
/-- a new object that nobody speaks of -/
theorem At.push0 {S : List Addr} {h₀ : Heap} {s : Shared} (o : Obj) (x : At g S h₀ hp s) : At g S h₀ hp { s with heap := s.heap.push o } := by
  refine ⟨fun b ob e => ?_, fun a Y e => ?_, x.gens, x.os, x.tok⟩
  · obtain ⟨sl, e', r⟩ := x.keep b ob e; exact ⟨sl, Heap.get?_push_of_some _ e', r⟩
  · obtain ⟨y, z⟩ := x.own a Y e
    refine ⟨?_, z⟩
    obtain ⟨o', ho'⟩ := y.there
    exact y.of_eq ((Heap.get?_push_of_some _ ho').trans ho'.symm)
/-- one object turned -/
theorem At.put {S : List Addr} {h₀ : Heap} {s : Shared} {h' : Heap} {a : Addr} {X Y : AO} (x : At g S h₀ hp s) (e : hp a = some X) (hs : ∀ b o, b ≠ a → s.heap.get? b = some o → h'.get? b = some o)
    (hY : Y.In g.w h' a) : At g S h₀ (hp.set a Y) { s with heap := h' } := by
  have ha := (x.own a X e).2
  refine ⟨fun b ob eb => ?_, fun b Z e => ?_, x.gens, x.os, x.tok⟩
  · obtain ⟨sl, e', r⟩ := x.keep b ob eb
    exact ⟨sl, hs b _ (fun q => by rw [q, ha] at eb; cases eb) e', r⟩
  · by_cases q : b = a
    · subst q; rw [HP.set_self] at e; cases e; exact ⟨hY, ha⟩
    · rw [HP.set_ne q] at e
      obtain ⟨y, z⟩ := x.own b Z e
      refine ⟨?_, z⟩
      obtain ⟨o', ho'⟩ := y.there
      exact y.of_eq ((hs b _ q ho').trans ho'.symm)
/-- heaps that keep all -/
theorem At.ext {S : List Addr} {h₀ : Heap} {s : Shared} {h' : Heap} (x : At g S h₀ hp s) (hs : ∀ b o, s.heap.get? b = some o → h'.get? b = some o) : At g S h₀ hp { s with heap := h' } := by
  refine ⟨fun b ob e => ?_, fun b Z e => ?_, x.gens, x.os, x.tok⟩
  · obtain ⟨sl, e', r⟩ := x.keep b ob e; exact ⟨sl, hs b _ e', r⟩
  · obtain ⟨y, z⟩ := x.own b Z e
    refine ⟨?_, z⟩
    obtain ⟨o', ho'⟩ := y.there
    exact y.of_eq ((hs b _ ho').trans ho'.symm)

theorem Cx.in1 {A : Around} {h₀ : Heap} (c : Cx g (n + 1) A h₀) : Cx g n A.in1 h₀ := ⟨c.handled, by have := c.depth; show A.depth + n ≤ 600; lia, by have := c.units; show A.units + 1 + 20 * n ≤ 9000; lia, c.base, c.frames⟩
theorem WH.bind {t : Sem α} {f : α → Sem γ} {Rel : β → α → Prop} {Rel' : δ → γ → Prop} {Q : δ → HP → Prop}
    (h : WH g n t hp Rel fun b hp' => ∀ a, Rel b a → WH g n (f a) hp' Rel' Q) : WH g n (t >>= f) hp Rel' Q :=
  fun A E h₀ s c x => wpAny_bind (wpAny_mono (h A E h₀ s c x) (fun V V ⟨_, _, r, y, q⟩ => q _ r A E h₀ _ c y) fun V V e => e)
theorem WH.pure {a : α} {b : β} {Rel : β → α → Prop} {Q : β → HP → Prop} (r : Rel b a) (q : Q b hp) : WH g n (Pure.pure a) hp Rel Q :=
  fun V V V V V x => wpAny_pure ⟨b, hp, r, x, q⟩
/-- forget objects at the end -/
theorem WH.post {t : Sem α} {Rel : β → α → Prop} {Q Q' : β → HP → Prop} (h : WH g n t hp Rel Q) (k : ∀ b hp', Q b hp' → ∃ hp'', hp''.Sub hp' ∧ Q' b hp'') : WH g n t hp Rel Q' :=
  fun A E h₀ s c x => wpAny_mono (h A E h₀ s c x) (fun V V ⟨b, hp', r, y, q⟩ => let ⟨hp'', u, v⟩ := k _ _ q; ⟨b, hp'', r, y.sub u, v⟩) fun V V e => e
end

structure AtB (g : Gd) (S : List Addr) (h₀ : Heap) (L : Addr) (loc : Loc) (hp : HP) (s : Shared) : Prop where
  at_ : At g S h₀ hp s
  loc : LocIs s.heap L loc
  hpL : hp L = none
  hL : h₀.get? L = none

structure CxB (g : Gd) (n : Nat) (A : Around) (L : Addr) (h₀ : Heap) : Prop where
  handled : g.hn = true → A.handled = none
  depth : A.depth + n ≤ 600
  units : A.units + 20 * n ≤ 9000
  base : g.B.StaysIn h₀
  frames : ∃ l, A.frames = some l ∧ ∀ h' : Heap, (∀ b o, h₀.get? b = some o → ∃ sl, h'.get? b = some { o with slots := sl }) → (∃ m, h'.Ns L m) → h'.FunFrames g.B l

noncomputable def WB (g : Gd) (n : Nat) (L : Addr) {α β : Type} (t : Sem α) (loc : Loc) (hp : HP) (Rel : β → α → Prop) (Q : β → Loc → HP → Prop) : Prop :=
  ∀ (A : Around) (E : PySem.Value → Shared → Prop) (h₀ : Heap) (s : Shared), CxB g n A L h₀ → AtB g (SA A) h₀ L loc hp s →
    wpAny (model pg g.w) A t (fun a s' => ∃ b loc' hp', Rel b a ∧ AtB g (SA A) h₀ L loc' hp' s' ∧ Q b loc' hp') E s

section
variable {g : Gd} {n : Nat} {L : Addr} {α β γ δ : Type} {loc loc' : Loc} {hp hp' : HP}
theorem WB.mono {t : Sem α} {Rel : β → α → Prop} {Q Q' : β → Loc → HP → Prop} (h : WB g n L t loc hp Rel Q) (k : ∀ b l hp', Q b l hp' → Q' b l hp') : WB g n L t loc hp Rel Q' :=
  fun A E h₀ s c x => wpAny_mono (h A E h₀ s c x) (fun V V ⟨b, l, hp', r, y, q⟩ => ⟨b, l, hp', r, y, k _ _ _ q⟩) fun V V e => e
theorem WB.pure {a : α} {b : β} {Rel : β → α → Prop} {Q : β → Loc → HP → Prop} (r : Rel b a) (q : Q b loc hp) : WB g n L (Pure.pure a) loc hp Rel Q :=
  fun V V V V V x => wpAny_pure ⟨b, loc, hp, r, x, q⟩
theorem AtB.sub {S : List Addr} {h₀ : Heap} {s : Shared} (x : AtB g S h₀ L loc hp s) (h : hp'.Sub hp) : AtB g S h₀ L loc hp' s :=
  ⟨x.at_.sub h, x.loc, (by
    cases q : hp' L with
    | none => rfl
    | some X => have := h _ _ q; rw [x.hpL] at this; cases this), x.hL⟩
theorem WB.sub {t : Sem α} {Rel : β → α → Prop} {Q : β → Loc → HP → Prop} (h : WB g n L t loc hp' Rel Q) (k : hp'.Sub hp) : WB g n L t loc hp Rel Q :=
  fun A E h₀ s c x => h A E h₀ s c (x.sub k)
/-- forget locals or reorder them -/
theorem WB.locs {t : Sem α} {Rel : β → α → Prop} {Q : β → Loc → HP → Prop} (h : WB g n L t loc' hp Rel Q) (k : ∀ x v, lk x loc' = some v → lk x loc = some v) : WB g n L t loc hp Rel Q :=
  fun A E h₀ s c x => h A E h₀ s c ⟨x.at_, let ⟨m, a, b⟩ := x.loc; ⟨m, a, fun y v e => b y v (k y v e)⟩, x.hpL, x.hL⟩
/-- what is done on the heap alone, done in a frame -/
theorem WB.lift {t : Sem α} {Rel : β → α → Prop} {Q : β → Loc → HP → Prop} (h : WH g n t hp Rel fun b hp' => Q b loc hp') : WB g n L t loc hp Rel Q := by
  intro A E h₀ s c x
  obtain ⟨m, hn, hm⟩ := x.loc
  refine withGoal fun goalX goalBack => ?_
  obtain ⟨oL, esL, epL, hoL, hdL⟩ := id hn
  refine goalBack ?_
  clear goalBack goalX
  have hid : ∀ b, hp b = none → (hideP (fun a => (hp a).isSome) s.heap).get? b = s.heap.get? b := fun b e => by rw [hideP_get]; simp [e]
  have hsome : ∀ b X, hp b = some X → (hideP (fun a => (hp a).isSome) s.heap).get? b = none := fun b X e => by rw [hideP_get]; simp [e]
  have keep : ∀ b o, h₀.get? b = some o → ∃ sl, (hideP (fun a => (hp a).isSome) s.heap).get? b = some { o with slots := sl } ∧ (b ∉ SA A → sl = o.slots) := fun b o e => by
    obtain ⟨sl, e', r⟩ := x.at_.keep b o e
    refine ⟨sl, ?_, r⟩
    rw [hid b ?_]; exact e'
    cases q : hp b with
    | none => rfl
    | some X => have := (x.at_.own b X q).2; rw [this] at e; cases e
  obtain ⟨l, hl, hf⟩ := c.frames
  have hLk : (hideP (fun a => (hp a).isSome) s.heap).get? L = some oL := (hid L x.hpL).trans hoL
  have ff := hf (hideP (fun a => (hp a).isSome) s.heap) (fun b o e => let ⟨sl, q, _⟩ := keep b o e; ⟨sl, q⟩) ⟨m, ⟨oL, esL, epL, hLk, hdL⟩⟩
  have base : g.B.StaysIn (hideP (fun a => (hp a).isSome) s.heap) := fun b o e => by
    obtain ⟨sl, q, r⟩ := keep b o (c.base b o e)
    have : b ∉ SA A := fun hb => by
      unfold SA at hb; rw [hl] at hb
      obtain ⟨z, _⟩ := ff.mem hb
      rw [z] at e; cases e
    rw [q, r this]
  refine wpAny_mono (h A E _ s ⟨c.handled, c.depth, c.units, base, l, hl, ff⟩ ⟨fun b o e => ⟨o.slots, ?_, fun V => rfl⟩, fun a X e => ⟨(x.at_.own a X e).1, hsome a X e⟩, x.at_.gens, x.at_.os, x.at_.tok⟩) (fun a s' hh => ?_) fun V V e => e
  · rw [hideP_get] at e; split at e
    · cases e
    · exact e
  · refine out2 hh fun b hp' r y q => ?_
    refine ⟨b, loc, hp', r, ⟨⟨fun b o e => ?_, fun a X e => ⟨(y.own a X e).1, ?_⟩, y.gens, y.os, y.tok⟩, ?_, ?_, x.hL⟩, q⟩
    · obtain ⟨sl, e', r'⟩ := keep b o e
      obtain ⟨sl2, e2, r2⟩ := y.keep b _ e'
      exact ⟨sl2, e2, fun hb => (r2 hb).trans (r' hb)⟩
    · cases z : h₀.get? a with
      | none => rfl
      | some o => obtain ⟨sl, e', _⟩ := keep a o z; rw [(y.own a X e).2] at e'; cases e'
    · obtain ⟨sl, e', _⟩ := y.keep L oL hLk
      exact ⟨m, ⟨_, esL, epL, e', hdL⟩, hm⟩
    · cases z : hp' L with
      | none => rfl
      | some X => rw [(y.own L X z).2] at hLk; cases hLk
end
end Mine
end
section
open PySem PySem.W PySem.Calls PyProof.Rows
namespace Mine

structure GndB (g : Gd) : Prop where
  kin : (myK g.w.params).In g.B
  top : ∃ mg mb, TopRead q loose mg mb g.B
structure Gnd (g : Gd) : Prop extends GndB g where
  hn : g.hn = true

inductive AF where
  | next | brk | cont
  | ret (v : AV)
noncomputable def AF.Is : AF → Flow → Prop
  | .next, f => f = .next
  | .brk, f => f = .brk
  | .cont, f => f = .cont
  | .ret v, f => ∃ v', f = .ret v' ∧ v.Is v'

section
variable {g : Gd} {n : Nat} {A : Around} {L : Addr} {h₀ : Heap} {s : Shared} {loc : Loc} {hp : HP}
theorem stays (c : CxB g n A L h₀) (x : AtB g (SA A) h₀ L loc hp s) : g.B.StaysIn s.heap := by
  obtain ⟨l, hl, hf⟩ := c.frames
  obtain ⟨m, hn, _⟩ := x.loc
  have ff := hf s.heap (fun b o e => let ⟨sl, q, _⟩ := x.at_.keep b o e; ⟨sl, q⟩) ⟨m, hn⟩
  intro b o e
  obtain ⟨sl, q, r⟩ := x.at_.keep b o (c.base b o e)
  have : b ∉ SA A := fun hb => by
    unfold SA at hb; rw [hl] at hb
    obtain ⟨z, _⟩ := ff.mem hb
    rw [z] at e; cases e
  rw [q, r this]
theorem staysH (c : Cx g n A h₀) (x : At g (SA A) h₀ hp s) : g.B.StaysIn s.heap := by
  obtain ⟨l, hl, ff⟩ := c.frames
  intro b o e
  obtain ⟨sl, q, r⟩ := x.keep b o (c.base b o e)
  have : b ∉ SA A := fun hb => by
    unfold SA at hb; rw [hl] at hb
    obtain ⟨z, _⟩ := ff.mem hb
    rw [z] at e; cases e
  rw [q, r this]
theorem AtB.toks (x : AtB g (SA A) h₀ L loc hp s) {t : Nat} (ht : 1 ≤ t) : AtB g (SA A) h₀ L loc hp { s with toks := t } := ⟨x.at_.toks ht, x.loc, x.hpL, x.hL⟩
end

noncomputable abbrev EV (g : Gd) (n : Nat) (env : Env) (e : PySem.Expr) (loc : Loc) (hp : HP) (Q : AV → Loc → HP → Prop) : Prop := WB g n env.locals (eval e env) loc hp AV.Is Q
noncomputable abbrev EX (g : Gd) (n : Nat) (env : Env) (e : Stmt) (loc : Loc) (hp : HP) (Q : AF → Loc → HP → Prop) : Prop := WB g n env.locals (exec e env) loc hp AF.Is Q
noncomputable abbrev XS (g : Gd) (n : Nat) (env : Env) (e : List Stmt) (loc : Loc) (hp : HP) (Q : AF → Loc → HP → Prop) : Prop := WB g n env.locals (execs e env) loc hp AF.Is Q
noncomputable abbrev TT (g : Gd) (n : Nat) (env : Env) (e : PySem.Expr) (loc : Loc) (hp : HP) (Q : Bool → Loc → HP → Prop) : Prop := WB g n env.locals (isTrue e env (eval e env)) loc hp (Eq (α := Bool)) Q
noncomputable abbrev UN (g : Gd) (n : Nat) (L : Addr) (t : Sem Unit) (loc : Loc) (hp : HP) (Q : Loc → HP → Prop) : Prop := WB g n L t loc hp (fun (_ _ : Unit) => True) fun V l h => Q l h
/-- several expressions, one behind the other -/
noncomputable abbrev ES (g : Gd) (n : Nat) (env : Env) (pos : Pos) (es : List PySem.Expr) (loc : Loc) (hp : HP) (Q : List AV → Loc → HP → Prop) : Prop := WB g n env.locals (spliced (backTo pos (starEach es env))) loc hp Vs Q

section
variable {g : Gd} {n : Nat} {env : Env} {loc : Loc} {hp : HP}

noncomputable abbrev Then (g : Gd) (n : Nat) (env : Env) (rest : List Stmt) (Q : AF → Loc → HP → Prop) : AF → Loc → HP → Prop := fun f l h => match f with | .next => XS g n env rest l h Q | f => Q f l h
noncomputable abbrev Br (g : Gd) (n : Nat) (env : Env) (body orelse : List Stmt) (Q : AF → Loc → HP → Prop) : Bool → Loc → HP → Prop := fun b l h => if b then XS g n env body l h Q else XS g n env orelse l h Q
theorem XS_nil {Q : AF → Loc → HP → Prop} (q : Q .next loc hp) : XS g n env [] loc hp Q := fun V V V V V x => wpAny_execs_nil ⟨.next, loc, hp, rfl, x, q⟩
theorem XS_cons {st : Stmt} {rest : List Stmt} {Q : AF → Loc → HP → Prop}
    (h : EX g n env st loc hp (Then g n env rest Q)) : XS g n env (st :: rest) loc hp Q := by
  intro A E h₀ s c x
  refine wpAny_execs_cons (wpAny_mono (h A E h₀ s c x) (fun f s' hh => ?_) fun V V e => e)
  refine out3 hh fun b l hp' r y q => ?_
  cases b with
  | next => cases r; exact q A E h₀ _ c y
  | brk => cases r; exact ⟨.brk, l, hp', rfl, y, q⟩
  | cont => cases r; exact ⟨.cont, l, hp', rfl, y, q⟩
  | ret v => obtain ⟨v', rfl, hv⟩ := r; exact ⟨.ret v, l, hp', ⟨v', rfl, hv⟩, y, q⟩
theorem EV_int {i : Int} {k : Nat} {pos : Pos} {Q : AV → Loc → HP → Prop} (q : Q (.int i) loc hp) : EV g n env (.Constant (.int i) k pos) loc hp Q :=
  fun V V V s V x => wpAny_Constant_int ⟨.int i, loc, hp, ⟨s.toks, rfl⟩, x.toks (Nat.le_add_left 1 _), q⟩
theorem EV_str {i : PySem.Str} {k : Nat} {pos : Pos} {Q : AV → Loc → HP → Prop} (q : Q (.str i) loc hp) : EV g n env (.Constant (.str i) k pos) loc hp Q :=
  fun V V V s V x => wpAny_Constant_str ⟨.str i, loc, hp, ⟨s.toks, rfl⟩, x.toks (Nat.le_add_left 1 _), q⟩
theorem EV_none {k : Nat} {pos : Pos} {Q : AV → Loc → HP → Prop} (q : Q .none loc hp) : EV g n env (.Constant .none k pos) loc hp Q :=
  fun V V V V V x => wpAny_Constant_none ⟨.none, loc, hp, ⟨0, rfl⟩, x, q⟩
theorem EV_bool {b : Bool} {k : Nat} {pos : Pos} {Q : AV → Loc → HP → Prop} (q : Q (.bool b) loc hp) : EV g n env (.Constant (.bool b) k pos) loc hp Q :=
  fun V V V V V x => wpAny_Constant_bool ⟨.bool b, loc, hp, ⟨0, rfl⟩, x, q⟩
theorem EV_bytes {b : List UInt8} {k : Nat} {pos : Pos} {Q : AV → Loc → HP → Prop} (q : Q (.bytes b.toArray) loc hp) : EV g n env (.Constant (.bytes b) k pos) loc hp Q := by
  intro A E h₀ s c x
  show wpAny _ _ (mkTextBytes b.toArray) _ _ _
  exact wpAny_mkTextBytes ⟨.bytes b.toArray, loc, hp, ⟨s.toks, rfl⟩, x.toks (Nat.le_add_left 1 _), q⟩

theorem EV_local {x : PySem.Str} {pos : Pos} {v : AV} {Q : AV → Loc → HP → Prop} (hk : env.scope.kind = .function) (hl : env.kindOf x = some .local) (hv : lk x loc = some v) (q : Q v loc hp)
    (hd : (x == ("__debug__" : PySem.Str)) = false := by decide) : EV g n env (.Name x pos) loc hp Q := by
  intro A E h₀ s c y
  obtain ⟨m, hn, hm⟩ := y.loc
  obtain ⟨v', e, hi⟩ := hm x v hv
  exact wpAny_Name (wpAny_loadName_local hk hl hn e ⟨v, loc, hp, hi, y, q⟩) hd
theorem EV_cell {x : PySem.Str} {pos : Pos} {v : AV} {c : Addr} {Q : AV → Loc → HP → Prop} (hk : env.scope.kind = .function) (hl : env.kindOf x = some .cell) (hc : env.cells.lookup x = some c) (hv : hp c = some (.cell (some v))) (q : Q v loc hp)
    (hd : (x == ("__debug__" : PySem.Str)) = false := by decide) : EV g n env (.Name x pos) loc hp Q := by
  intro A E h₀ s cx y
  obtain ⟨v', hi, ho⟩ := (y.at_.own c _ hv).1
  cases v' with
  | none => exact ho.elim
  | some u => exact wpAny_Name (wpAny_loadName_cell hk hl hc hi ⟨v, loc, hp, ho, y, q⟩) hd
theorem EV_global {x : PySem.Str} {pos : Pos} {v : PySem.Value} {av : AV} {Q : AV → Loc → HP → Prop} (G : Gnd g) (hk : env.scope.kind = .function) (hg : env.globals = mainGlobals) (hx : env.kindOf x = some .globalImplicit)
    (e : nsIn (myK g.w.params) mainGlobals x = some (some v)) (hv : av.Is v) (q : Q av loc hp) (hd : (x == ("__debug__" : PySem.Str)) = false := by decide) : EV g n env (.Name x pos) loc hp Q := by
  intro A E h₀ s cx y
  obtain ⟨mg, mb, T⟩ := G.top
  exact Name_function_global hk hx (loadGlobal_global (env := env) (by rw [hg]; exact T.g.keeps (stays cx y)) (mg_of G.kin T.g e) ⟨av, loc, hp, hv, y, q⟩) hd
theorem EV_builtin {x : PySem.Str} {pos : Pos} {v : PySem.Value} {av : AV} {Q : AV → Loc → HP → Prop} (G : Gnd g) (hk : env.scope.kind = .function) (hg : env.globals = mainGlobals) (hb : env.builtins = builtinsNs) (hx : env.kindOf x = some .globalImplicit)
    (e : nsIn (myK g.w.params) mainGlobals x = some none) (hv' : bootBuiltins x = some v) (hn : x ≠ "__name__") (hv : av.Is v) (q : Q av loc hp) (hd : (x == ("__debug__" : PySem.Str)) = false := by decide) : EV g n env (.Name x pos) loc hp Q := by
  intro A E h₀ s cx y
  obtain ⟨mg, mb, T⟩ := G.top
  exact Name_function_global hk hx (loadGlobal_builtin (env := env) (by rw [hg]; exact T.g.keeps (stays cx y)) (mg_none_of G.kin T.g e) (by rw [hb]; exact T.b.keeps (stays cx y)) ((T.builtins x hn).trans hv') ⟨av, loc, hp, hv, y, q⟩) hd

theorem EV_BinOp {l r : PySem.Expr} {op : Operator} {pos : Pos} {Q : AV → Loc → HP → Prop}
    (h : EV g n env l loc hp fun a l₁ h₁ => EV g n env r l₁ h₁ fun b l₂ h₂ => ∀ va vb, a.Is va → b.Is vb → WB g n env.locals (binaryOp op va vb) l₂ h₂ AV.Is Q) : EV g n env (.BinOp l op r pos) loc hp Q :=
  fun A E h₀ s c x => wpAny_BinOp (wpAny_mono (h A E h₀ s c x) (fun V V ⟨_, _, _, ra, xa, ka⟩ => wpAny_mono (ka A E h₀ _ c xa) (fun V V ⟨_, _, _, rb, xb, kb⟩ => kb _ _ ra rb A E h₀ _ c xb) fun V V e => e) fun V V e => e)
theorem EV_Compare {l r : PySem.Expr} {op : CmpOp} {pos : Pos} {Q : AV → Loc → HP → Prop}
    (h : EV g n env l loc hp fun a l₁ h₁ => EV g n env r l₁ h₁ fun b l₂ h₂ => ∀ va vb, a.Is va → b.Is vb → WB g n env.locals (compareOp op va vb) l₂ h₂ AV.Is Q)
    (hm : behindInMarks op r = false := by with_unfolding_all rfl) : EV g n env (.Compare l [op] [r] pos) loc hp Q :=
  fun A E h₀ s c x => wpAny_Compare1 (wpAny_mono (h A E h₀ s c x) (fun V V ⟨_, _, _, ra, xa, ka⟩ => wpAny_mono (ka A E h₀ _ c xa) (fun V V ⟨_, _, _, rb, xb, kb⟩ => kb _ _ ra rb A E h₀ _ c xb) fun V V e => e) fun V V e => e) hm
theorem TT_Compare {l r : PySem.Expr} {op : CmpOp} {pos : Pos} {Q : Bool → Loc → HP → Prop}
    (h : EV g n env l loc hp fun a l₁ h₁ => EV g n env r l₁ h₁ fun b l₂ h₂ => ∀ va vb, a.Is va → b.Is vb → WB g n env.locals (compareOp op va vb) l₂ h₂ AV.Is fun v l₃ h₃ => ∃ b, v = .bool b ∧ Q b l₃ h₃)
    (hm : behindInMarks op r = false := by with_unfolding_all rfl) : TT g n env (.Compare l [op] [r] pos) loc hp Q :=
  fun A E h₀ s c x => wpAny_isTrue_Compare1 (wpAny_mono (h A E h₀ s c x) (fun V V ⟨_, _, _, ra, xa, ka⟩ => wpAny_mono (ka A E h₀ _ c xa) (fun V V ⟨_, _, _, rb, xb, kb⟩ => wpAny_mono (kb _ _ ra rb A E h₀ _ c xb)
    (fun v s' ⟨_, l₃, h₃, ⟨_, hv⟩, y, b, hb, q⟩ => by subst hb; subst hv; exact wpAny_truthy_bool ⟨b, l₃, h₃, rfl, y, q⟩) fun V V e => e) fun V V e => e) fun V V e => e) hm
theorem TT_Not {e : PySem.Expr} {pos : Pos} {Q : Bool → Loc → HP → Prop} (h : TT g n env e loc hp fun b l h => Q (!b) l h) : TT g n env (.UnaryOp .Not e pos) loc hp Q :=
  fun A E h₀ s c x => wpAny_isTrue_Not (wpAny_mono (h A E h₀ s c x) (fun V V ⟨b, l, h, r, y, q⟩ => ⟨!b, l, h, by rw [r], y, q⟩) fun V V e => e)
theorem TT_value {e : PySem.Expr} {Q : Bool → Loc → HP → Prop} (h : EV g n env e loc hp fun a l h => ∀ va, a.Is va → WB g n env.locals (truthy va) l h (Eq (α := Bool)) Q)
    (he : isTrue e env (eval e env) = (do let v ← eval e env; standAt e.pos; holding [v] (truthy v)) := by rfl) : TT g n env e loc hp Q :=
  fun A E h₀ s c x => wpAny_isTrue_value (wpAny_mono (h A E h₀ s c x) (fun V V ⟨_, _, _, r, y, q⟩ => q _ r A E h₀ _ c y) fun V V e => e) he
noncomputable abbrev AL (g : Gd) (n : Nat) (env : Env) (op : BoolOp) (es : List PySem.Expr) (loc : Loc) (hp : HP) (Q : Bool → Loc → HP → Prop) : Prop := WB g n env.locals (allTrue op es env) loc hp (Eq (α := Bool)) Q
theorem TT_BoolOp {op : BoolOp} {es : List PySem.Expr} {pos : Pos} {Q : Bool → Loc → HP → Prop} (h : AL g n env op es loc hp Q) : TT g n env (.BoolOp op es pos) loc hp Q :=
  fun A E h₀ s c x => wpAny_isTrue_BoolOp (h A E h₀ s c x)
theorem AL_and_nil {Q : Bool → Loc → HP → Prop} (q : Q true loc hp) : AL g n env .And [] loc hp Q := fun V V V V V x => wpAny_allTrue_And_nil ⟨true, loc, hp, rfl, x, q⟩
theorem AL_or_nil {Q : Bool → Loc → HP → Prop} (q : Q false loc hp) : AL g n env .Or [] loc hp Q := fun V V V V V x => wpAny_allTrue_Or_nil ⟨false, loc, hp, rfl, x, q⟩
noncomputable abbrev AndK (g : Gd) (n : Nat) (env : Env) (es : List PySem.Expr) (Q : Bool → Loc → HP → Prop) : Bool → Loc → HP → Prop := fun b l h => if b then AL g n env .And es l h Q else Q false l h
noncomputable abbrev OrK (g : Gd) (n : Nat) (env : Env) (es : List PySem.Expr) (Q : Bool → Loc → HP → Prop) : Bool → Loc → HP → Prop := fun b l h => if b then Q true l h else AL g n env .Or es l h Q
theorem AL_and {e : PySem.Expr} {es : List PySem.Expr} {Q : Bool → Loc → HP → Prop} (h : TT g n env e loc hp (AndK g n env es Q)) : AL g n env .And (e :: es) loc hp Q :=
  fun A E h₀ s c x => wpAny_allTrue_And_cons (wpAny_mono (h A E h₀ s c x) (fun V V ⟨b, l, h, r, y, q⟩ => by subst r; cases b <;> first | exact ⟨false, l, h, rfl, y, q⟩ | exact q A E h₀ _ c y) fun V V e => e)
theorem AL_or {e : PySem.Expr} {es : List PySem.Expr} {Q : Bool → Loc → HP → Prop} (h : TT g n env e loc hp (OrK g n env es Q)) : AL g n env .Or (e :: es) loc hp Q :=
  fun A E h₀ s c x => wpAny_allTrue_Or_cons (wpAny_mono (h A E h₀ s c x) (fun V V ⟨b, l, h, r, y, q⟩ => by subst r; cases b <;> first | exact ⟨true, l, h, rfl, y, q⟩ | exact q A E h₀ _ c y) fun V V e => e)

theorem EX_If {test : PySem.Expr} {body orelse : List Stmt} {pos : Pos} {Q : AF → Loc → HP → Prop}
    (h : TT g n env test loc hp (Br g n env body orelse Q)) : EX g n env (.If test body orelse pos) loc hp Q :=
  fun A E h₀ s c x => wpAny_If (wpAny_mono (h A E h₀ s c x) (fun V V ⟨b, l, h, r, y, q⟩ => by subst r; cases b <;> exact q A E h₀ _ c y) fun V V e => e)
theorem EX_Return {e : PySem.Expr} {pos : Pos} {Q : AF → Loc → HP → Prop} (h : EV g n env e loc hp fun a l h => Q (.ret a) l h) : EX g n env (.Return (some e) pos) loc hp Q :=
  fun A E h₀ s c x => wpAny_Return_some (wpAny_mono (h A E h₀ s c x) (fun v V ⟨b, l, h, r, y, q⟩ => ⟨.ret b, l, h, ⟨v, rfl, r⟩, y, q⟩) fun V V e => e)
theorem EX_Break {pos : Pos} {Q : AF → Loc → HP → Prop} (q : Q .brk loc hp) : EX g n env (.Break pos) loc hp Q := fun V V V V V x => wpAny_Break ⟨.brk, loc, hp, rfl, x, q⟩
theorem EX_Continue {pos : Pos} {Q : AF → Loc → HP → Prop} (q : Q .cont loc hp) : EX g n env (.Continue pos) loc hp Q := fun V V V V V x => wpAny_Continue ⟨.cont, loc, hp, rfl, x, q⟩
theorem EX_Expr {e : PySem.Expr} {pos : Pos} {Q : AF → Loc → HP → Prop} (h : EV g n env e loc hp fun V l h => Q .next l h) (hi : interactive env = false := by rfl) (hs : swapsWith e none pos.line env = pure false := by rfl) : EX g n env (.Expr e pos) loc hp Q :=
  fun A E h₀ s c x => wpAny_Expr_any (wpAny_mono (h A E h₀ s c x) (fun V V ⟨_, l, h, _, y, q⟩ => ⟨.next, l, h, rfl, y, q⟩) fun V V e => e) hi hs

/-- a store into a local -/
theorem ST_local {x : PySem.Str} {v : PySem.Value} {a : AV} {Q : Loc → HP → Prop} (ha : a.Is v) (q : Q ((x, a) :: loc) hp) (hk : env.scope.kind = .function) (hl : env.kindOf x = some .local) :
    UN g n env.locals (storeName env x v) loc hp Q := by
  intro A E h₀ s c y
  obtain ⟨m, hn, hm⟩ := y.loc
  refine wpAny_storeName_local hl hn (fun h' hn' hs' => ⟨(), (x, a) :: loc, hp, trivial, ⟨⟨fun b o e => ?_, fun b X e => ?_, y.at_.gens, y.at_.os, Nat.le_add_left 1 _⟩, ⟨_, hn', fun z u e => ?_⟩, y.hpL, y.hL⟩, q⟩) (by rw [hk]; rfl)
  · obtain ⟨sl, e', r⟩ := y.at_.keep b o e
    exact ⟨sl, (hs'.2 b (by rintro rfl; rw [y.hL] at e; cases e)).trans e', r⟩
  · have hb : b ≠ env.locals := by rintro rfl; rw [y.hpL] at e; cases e
    obtain ⟨i, z⟩ := y.at_.own b X e
    exact ⟨i.of_eq (hs'.2 b hb), z⟩
  · by_cases hz : z = x
    · subst hz; rw [lk_cons_self] at e; cases e; exact ⟨v, by simp, ha⟩
    · rw [lk_cons_ne _ _ (Ne.symm hz)] at e
      obtain ⟨v', e', i⟩ := hm z u e
      exact ⟨v', by simp [hz, e'], i⟩
/-- a store into a cell -/
theorem ST_cell {x : PySem.Str} {v : PySem.Value} {a : AV} {c : Addr} {o : Option AV} {Q : Loc → HP → Prop} (ha : a.Is v) (hc : env.cells.lookup x = some c) (hv : hp c = some (.cell o)) (q : Q loc (hp.set c (.cell (some a)))) (hk : env.scope.kind = .function) (hl : env.kindOf x = some .cell) :
    UN g n env.locals (storeName env x v) loc hp Q := by
  refine WB.lift (Q := fun V l h => Q l h) ?_
  intro A E h₀ s cx y
  obtain ⟨v', hi, ho⟩ := (y.own c _ hv).1
  refine wpAny_storeName_cell hk hl hc hi fun h' hi' hs' => ⟨(), hp.set c (.cell (some a)), trivial, y.put hv (fun b o hb e => (hs'.2 b hb).trans e) ⟨_, hi', ha⟩, q⟩

theorem EX_Assign {x : PySem.Str} {p' pos : Pos} {e : PySem.Expr} {Q : AF → Loc → HP → Prop}
    (h : EV g n env e loc hp fun a l h => ∀ v, a.Is v → UN g n env.locals (storeName env x v) l h fun l h => Q .next l h) (hs : swapsWith e (some (.Name x p')) pos.line env = pure false := by rfl) : EX g n env (.Assign [.Name x p'] e pos) loc hp Q :=
  fun A E h₀ s c x => wpAny_Assign_Name (wpAny_mono (h A E h₀ s c x) (fun V V ⟨_, _, _, r, y, q⟩ => wpAny_mono (q _ r A E h₀ _ c y) (fun V V ⟨_, l, h, _, y, q⟩ => ⟨.next, l, h, rfl, y, q⟩) fun V V e => e) fun V V e => e) hs

theorem ES_nil {pos : Pos} {Q : List AV → Loc → HP → Prop} (q : Q [] loc hp) : ES g n env pos [] loc hp Q := fun V V V V V x => wpAny_items_nil ⟨[], loc, hp, trivial, x, q⟩
theorem ES_cons {pos : Pos} {e : PySem.Expr} {es : List PySem.Expr} {Q : List AV → Loc → HP → Prop} (h : EV g n env e loc hp fun a l h => ES g n env pos es l h fun as l h => Q (a :: as) l h)
    (he : starEach (e :: es) env = (false, eval e env) :: starEach es env := by rfl) : ES g n env pos (e :: es) loc hp Q :=
  fun A E h₀ s c x => wpAny_items_cons (wpAny_mono (h A E h₀ s c x) (fun V V ⟨a, _, _, r, y, q⟩ => wpAny_mono (q A E h₀ _ c y) (fun V V ⟨as, l, h, r', y, q⟩ => ⟨a :: as, l, h, ⟨r, r'⟩, y, q⟩) fun V V e => e) fun V V e => e) he
end
/-- what a proof knows of its environment -/
structure FEnv (env : Env) (nms : List (PySem.Str × NameKind)) (cs : List (PySem.Str × Addr)) : Prop where
  kind : env.scope.kind = .function
  glob : env.globals = mainGlobals
  blt : env.builtins = builtinsNs
  look : ∀ x, env.kindOf x = nms.lookup x
  cells : env.cells = cs
section
variable {g : Gd} {n : Nat} {env : Env} {loc : Loc} {hp : HP} {nms : List (PySem.Str × NameKind)} {cs : List (PySem.Str × Addr)}
theorem interactive_no (F : FEnv env nms cs) : interactive env = false := by unfold interactive; rw [F.kind]; rfl
theorem L_ {x : PySem.Str} {pos : Pos} {v : AV} {Q : AV → Loc → HP → Prop} (F : FEnv env nms cs) (hl : nms.lookup x = some .local) (hv : lk x loc = some v) (hd : (x == ("__debug__" : PySem.Str)) = false) (q : Q v loc hp) : EV g n env (.Name x pos) loc hp Q :=
  EV_local F.kind ((F.look x).trans hl) hv q hd
theorem C_ {x : PySem.Str} {pos : Pos} {v : AV} {c : Addr} {Q : AV → Loc → HP → Prop} (F : FEnv env nms cs) (hl : nms.lookup x = some .cell) (hc : cs.lookup x = some c) (hd : (x == ("__debug__" : PySem.Str)) = false) (hv : hp c = some (.cell (some v))) (q : Q v loc hp) : EV g n env (.Name x pos) loc hp Q :=
  EV_cell F.kind ((F.look x).trans hl) (F.cells ▸ hc) hv q hd
theorem G_ {x : PySem.Str} {pos : Pos} {v : PySem.Value} {av : AV} {Q : AV → Loc → HP → Prop} (F : FEnv env nms cs) (G : Gnd g) (e : nsIn (myK g.w.params) mainGlobals x = some (some v)) (hl : nms.lookup x = some .globalImplicit) (hv : av.Is v) (hd : (x == ("__debug__" : PySem.Str)) = false) (q : Q av loc hp) : EV g n env (.Name x pos) loc hp Q :=
  EV_global G F.kind F.glob ((F.look x).trans hl) e hv q hd
theorem B_ {x : PySem.Str} {pos : Pos} {v : PySem.Value} {av : AV} {Q : AV → Loc → HP → Prop} (F : FEnv env nms cs) (G : Gnd g) (e : nsIn (myK g.w.params) mainGlobals x = some none) (hv' : bootBuiltins x = some v) (hl : nms.lookup x = some .globalImplicit) (hn : x ≠ "__name__") (hv : av.Is v) (hd : (x == ("__debug__" : PySem.Str)) = false) (q : Q av loc hp) : EV g n env (.Name x pos) loc hp Q :=
  EV_builtin G F.kind F.glob F.blt ((F.look x).trans hl) e hv' hn hv q hd
theorem X_ {e : PySem.Expr} {pos : Pos} {Q : AF → Loc → HP → Prop} (F : FEnv env nms cs) (hs : swapsWith e none pos.line env = pure false) (h : EV g n env e loc hp fun V l h => Q .next l h) : EX g n env (.Expr e pos) loc hp Q := EX_Expr h (interactive_no F) hs
theorem SL_ {x : PySem.Str} {a : AV} {Q : Loc → HP → Prop} (F : FEnv env nms cs) (hl : nms.lookup x = some .local) (q : Q ((x, a) :: loc) hp) : ∀ v, a.Is v → UN g n env.locals (storeName env x v) loc hp Q :=
  fun V ha => ST_local ha q F.kind ((F.look x).trans hl)
theorem SC_ {x : PySem.Str} {a : AV} {c : Addr} {o : Option AV} {Q : Loc → HP → Prop} (F : FEnv env nms cs) (hl : nms.lookup x = some .cell) (hc : cs.lookup x = some c) (hv : hp c = some (.cell o)) (q : Q loc (hp.set c (.cell (some a)))) : ∀ v, a.Is v → UN g n env.locals (storeName env x v) loc hp Q :=
  fun V ha => ST_cell ha (F.cells ▸ hc) hv q F.kind ((F.look x).trans hl)
end
end Mine
end
section
open PySem PySem.W PySem.Calls PyProof.Rows
namespace Mine

theorem Ps.append : ∀ {xs ys : List (PySem.Str × AV)} {vs us : List (PySem.Str × PySem.Value)}, Ps xs vs → Ps ys us → Ps (xs ++ ys) (vs ++ us)
  | [], _, [], _, _, h => h
  | _ :: _, _, _ :: _, _, h, h' => ⟨h.1, h.2.1, Ps.append h.2.2 h'⟩
theorem Ps.reverse : ∀ {xs : List (PySem.Str × AV)} {vs : List (PySem.Str × PySem.Value)}, Ps xs vs → Ps xs.reverse vs.reverse
  | [], [], h => h
  | x :: xs, v :: vs, h => by
    rw [List.reverse_cons, List.reverse_cons]
    exact Ps.append (Ps.reverse h.2.2) ⟨h.1, h.2.1, trivial⟩
theorem Ps.lookup {x : PySem.Str} {a : AV} : ∀ {xs : List (PySem.Str × AV)} {vs : List (PySem.Str × PySem.Value)}, Ps xs vs → lk x xs = some a → ∃ v, vs.lookup x = some v ∧ a.Is v
  | (y, b) :: xs, (z, u) :: vs, h, e => by
    have h1 : y = z := h.1
    subst h1
    by_cases q : y = x
    · subst q
      rw [lk_cons_self] at e; cases e
      exact ⟨u, by simp, h.2.1⟩
    · rw [lk_cons_ne _ _ q] at e
      obtain ⟨v, e', i⟩ := Ps.lookup h.2.2 e
      refine ⟨v, ?_, i⟩
      rw [List.lookup_cons]
      have : (x == y) = false := by simp [Ne.symm q]
      rw [this]; exact e'

noncomputable def retOf : AF → AV
  | .ret v => v
  | _ => .none

section
variable {g : Gd} {n : Nat} {hp : HP}

/-- what the new frame of a call is -/
theorem enterB {A : Around} {h₀ h₁ : Heap} {s : Shared} {env : Env} {m : PySem.Str → Option PySem.Value} {bl : Loc} {tk : Nat} (htk : 1 ≤ tk) (c : Cx g (n + 1) A h₀) (y : At g (SA A) h₀ hp s) (hk : env.scope.kind = .function) (hf : env.frame = some env.locals)
    (hL : env.locals = s.heap.objs.size) (hn : h₁.Ns env.locals m) (hm : ∀ x v, lk x bl = some v → ∃ v', m x = some v' ∧ v.Is v') (hs : ∀ b o, s.heap.get? b = some o → h₁.get? b = some o) :
    CxB g n (A.deeper env) env.locals h₀ ∧ AtB g (SA (A.deeper env)) h₀ env.locals bl hp { s with heap := h₁, toks := tk } := by
  obtain ⟨l, hl, ff⟩ := c.frames
  have hB : g.B.get? env.locals = none := by
    cases z : g.B.get? env.locals with
    | none => rfl
    | some o => have := Heap.lt_size (staysH c y _ _ z); rw [hL] at this; exact absurd this (Nat.lt_irrefl _)
  have hfr : (A.deeper env).frames = some (env :: l) := by show A.frames.map (env :: ·) = _; rw [hl]; rfl
  have hSA : SA (A.deeper env) = env.locals :: SA A := by unfold SA; rw [hfr, hl]; simp [hf]
  refine ⟨⟨c.handled, by have := c.depth; show A.depth + 1 + n ≤ 600; lia, by have := c.units; show A.units + 3 + 20 * n ≤ 9000; lia, c.base, env :: l, hfr, fun h' hk' hns => ?_⟩, ⟨⟨fun b o e => ?_, fun a X e => ?_, y.gens, y.os, htk⟩, ⟨m, hn, hm⟩, hL ▸ y.freshP, hL ▸ y.fresh⟩⟩
  · refine withGoal fun goalX goalBack => ?_
    obtain ⟨m', o, es, ep, ho, hd, _⟩ := hns
    refine goalBack ?_
    clear goalBack goalX
    refine ⟨by rw [hk]; decide, ⟨env.locals, o, hf, hB, ho, fun vs q => by rw [hd] at q; cases q⟩, ff.of_keeps fun b o e V => ?_⟩
    obtain ⟨sl, q⟩ := hk' b o e
    exact ⟨_, q, rfl⟩
  · obtain ⟨sl, e', r⟩ := y.keep b o e
    exact ⟨sl, hs _ _ e', fun hb => r fun q => hb (by rw [hSA]; exact .tail _ q)⟩
  · obtain ⟨i, z⟩ := y.own a X e
    obtain ⟨o', ho'⟩ := i.there
    exact ⟨i.of_eq ((hs _ _ ho').trans ho'.symm), z⟩
theorem leaveB {A : Around} {h₀ : Heap} {s' : Shared} {env : Env} {loc : Loc} (hf : env.frame = some env.locals) (x : AtB g (SA (A.deeper env)) h₀ env.locals loc hp s') : At g (SA A) h₀ hp s' := by
  refine ⟨fun b o e => ?_, x.at_.own, x.at_.gens, x.at_.os, x.at_.tok⟩
  obtain ⟨sl, e', r⟩ := x.at_.keep b o e
  refine ⟨sl, e', fun hb => r fun q => ?_⟩
  unfold SA at q hb
  show False
  have : (A.deeper env).frames = A.frames.map (env :: ·) := rfl
  rw [this] at q
  cases hA : A.frames with
  | none => rw [hA] at q; cases q
  | some l =>
    rw [hA] at q hb
    simp only [Option.map_some, List.filterMap_cons, hf] at q
    rcases List.mem_cons.mp q with rfl | q
    · rw [x.hL] at e; cases e
    · exact hb q

/-- a call of a def of the text's own, no cells -/
theorem WH_call {f : Addr} {fd : FuncData} {body : List Stmt} {vals : List PySem.Value} {Q : AV → HP → Prop} (G : Gnd g) (ho : (myK g.w.params).lookup f = some { cls := .type "function", data := .func fd })
    (hcd : codeIn (myK g.w.params) fd.code fd.qualname = true) (hbody : fd.body = .stmts body)
    (hbind : WH g n (bindArgs fd ⟨vals, []⟩) hp (fun (bl : Loc) binds => Ps bl binds ∧ ∀ x ∈ binds, fd.scope.names.lookup x.1 = some .local) fun bl hp' => ∀ L, hp' L = none → XS g n (callEnv fd L f) body bl.reverse hp' fun fl V hp'' => Q (retOf fl) hp'')
    (hcell : ∀ x ∈ fd.scope.names, x.2 ≠ .cell) (hco : fd.scope.isCoroutine = false := by rfl) (hgen : fd.scope.isGenerator = false := by rfl) (hk : fd.scope.kind = .function := by rfl) :
    WH g (n + 1) (call (.ref f) vals) hp AV.Is Q := by
  intro A E h₀ s c y
  have st := staysH c y
  obtain ⟨mg, mb, T⟩ := G.top
  have hroom : A.depth < recursionLimit := by have := c.depth; show A.depth < 1000; lia
  refine wpAny_call (codeAny_call_function hroom (st _ _ (G.kin _ _ ho)) rfl hco hgen hbody (codeRec_of (G.kin.keeps st) hcd) ?_)
  refine wpAny_mono (hbind A.in1 _ h₀ s c.in1 y) (fun binds s₁ hh => ?_) fun V V e => e
  refine out2 hh fun bl hp' hR y' hq => ?_
  obtain ⟨hps, hloc⟩ := hR
  have st' := staysH c y'
  refine wpAny_newFunctionEnv hcell hloc (fun h₁ hns hsb => ⟨(T.nolimit.keeps st').fresh _ hsb, ?_⟩) hk
  have keeps : ∀ b o, s₁.heap.get? b = some o → h₁.get? b = some o := fun b o e => hsb.extBut b o (Nat.ne_of_lt (Heap.lt_size e)) (Heap.get?_push_of_some _ e)
  obtain ⟨cx, ab⟩ := enterB (env := callEnv fd s₁.heap.objs.size f) (bl := bl.reverse) (tk := s₁.toks + binds.length) (Nat.le_add_right_of_le y'.tok) c y' hk rfl rfl hns (fun x v e => (Ps.reverse hps).lookup e) keeps
  refine codeAny_func (wpAny_mono (hq _ y'.freshP _ _ h₀ _ cx ab) (fun fl s' hh => ?_) fun V V e => e)
  refine out3 hh fun b loc' hp'' r z q => ?_
  have za := leaveB (A := A) (env := callEnv fd s₁.heap.objs.size f) rfl z
  cases b with
  | next => cases r; exact ⟨.none, hp'', ⟨0, rfl⟩, za, q⟩
  | brk => cases r; exact ⟨.none, hp'', ⟨0, rfl⟩, za, q⟩
  | cont => cases r; exact ⟨.none, hp'', ⟨0, rfl⟩, za, q⟩
  | ret v => obtain ⟨v', rfl, hv⟩ := r; exact ⟨v, hp'', hv, za, q⟩

/-- the same, the environment as far as it is known -/
theorem W_call {f : Addr} {fd : FuncData} {body : List Stmt} {nms : List (PySem.Str × NameKind)} {vals : List PySem.Value} {binds : List (PySem.Str × PySem.Value)} {bl : Loc} {Q : AV → HP → Prop} (G : Gnd g) (ho : (myK g.w.params).lookup f = some { cls := .type "function", data := .func fd })
    (hcd : codeIn (myK g.w.params) fd.code fd.qualname = true) (hbody : fd.body = .stmts body) (hnm : fd.scope.names = nms) (hg : fd.globals = mainGlobals ∧ fd.builtins = builtinsNs ∧ fd.closure = [])
    (hb : bindArgs fd ⟨vals, []⟩ = pure binds) (hps : Ps bl binds) (hloc : (binds.all fun x => decide (nms.lookup x.1 = some .local)) = true) (hcell : (nms.all fun x => decide (x.2 ≠ .cell)) = true)
    (hs : fd.scope.isCoroutine = false ∧ fd.scope.isGenerator = false ∧ fd.scope.kind = .function)
    (h : ∀ env, FEnv env nms [] → hp env.locals = none → XS g n env body bl.reverse hp fun fl V hp'' => Q (retOf fl) hp'') :
    WH g (n + 1) (call (.ref f) vals) hp AV.Is Q := by
  subst hnm
  refine WH_call G ho hcd hbody ?_ (fun x hx => by simpa using List.all_eq_true.mp hcell x hx) hs.1 hs.2.1 hs.2.2
  rw [hb]
  refine WH.pure ⟨hps, locs hloc⟩ fun L hL => h _ ⟨hs.2.2, hg.1, hg.2.1, fun V => rfl, hg.2.2⟩ hL

end
end Mine
end
section
open PySem PySem.W PySem.Calls PyProof.Rows
namespace Mine

noncomputable def AO.ty : AO → Option String
  | .list _ => some "list"
  | .tuple _ => some "tuple"
  | .dict _ => some "dict"
  | .set _ => some "set"
  | _ => none
noncomputable def aty (hp : HP) : AV → Option String
  | .none => some "NoneType"
  | .bool _ => some "bool"
  | .int _ => some "int"
  | .str _ => some "str"
  | .strT _ _ => some "str"
  | .bytes _ => some "bytes"
  | .ref a => (hp a).bind AO.ty
  | _ => none
section
variable {g : Gd} {S : List Addr} {h₀ : Heap} {hp : HP} {s : Shared}
theorem aty_is {a : AV} {v : PySem.Value} {T : String} (x : At g S h₀ hp s) (e : aty hp a = some T) (i : a.Is v) : s.TypeIs v T ∧ ∀ b, v = .ref b → ∃ ob, s.heap.get? b = some ob ∧ ob.dict = none := by
  obtain ⟨t, rfl⟩ := i
  cases a with
  | ref a =>
    simp only [aty] at e
    cases hX : hp a with
    | none => rw [hX] at e; cases e
    | some X =>
      rw [hX] at e
      have o := (x.own a X hX).1
      refine (?_ : ∃ ob, s.heap.get? a = some ob ∧ ob.cls = .type T ∧ ob.dict = none).elim fun ob h => ⟨⟨ob, h.1, h.2.1⟩, fun b hb => by cases hb; exact ⟨ob, h.1, h.2.2⟩⟩
      cases X with
      | list xs => cases e; obtain ⟨_, _, ho, _⟩ := o; exact ⟨_, ho, rfl, rfl⟩
      | tuple xs => cases e; obtain ⟨_, _, ho, _⟩ := o; exact ⟨_, ho, rfl, rfl⟩
      | dict es => cases e; obtain ⟨_, _, ⟨_, _, _, ho, hx, _⟩, _⟩ := o; exact ⟨_, ho, hx.1, hx.2.1⟩
      | set ks => cases e; obtain ⟨_, _, _, _, ho, hx, _⟩ := o; exact ⟨_, ho, hx.1, hx.2.1⟩
      | _ => cases e
  | type n => cases e
  | builtin n => cases e
  | none => cases e; exact ⟨rfl, fun b h => by cases h⟩
  | bool b => cases e; exact ⟨rfl, fun b h => by cases h⟩
  | int i => cases e; exact ⟨rfl, fun b h => by cases h⟩
  | str i => cases e; exact ⟨rfl, fun b h => by cases h⟩
  | strT i u => cases e; exact ⟨rfl, fun b h => by cases h⟩
  | bytes i => cases e; exact ⟨rfl, fun b h => by cases h⟩
theorem list_at {a : Addr} {xs : List AV} (x : At g S h₀ hp s) (e : hp a = some (.list xs)) : ∃ items m, s.heap.get? a = some { cls := .type "list", data := .seq items m } ∧ s.heap.IsList a items ∧ Vs xs items.toList ∧ items.size = xs.length := by
  refine withGoal fun goalX goalBack => ?_
  obtain ⟨items, m, ho, v⟩ := (x.own a _ e).1
  refine goalBack ?_
  clear goalBack goalX
  exact ⟨items, m, ho, ⟨_, ho, rfl, m, rfl⟩, v, by rw [v.length]; simp⟩
theorem tuple_at {a : Addr} {xs : List AV} (x : At g S h₀ hp s) (e : hp a = some (.tuple xs)) : ∃ items m, s.heap.get? a = some { cls := .type "tuple", data := .seq items m } ∧ s.heap.IsTuple a items ∧ Vs xs items.toList ∧ items.size = xs.length := by
  refine withGoal fun goalX goalBack => ?_
  obtain ⟨items, m, ho, v⟩ := (x.own a _ e).1
  refine goalBack ?_
  clear goalBack goalX
  exact ⟨items, m, ho, ⟨_, ho, rfl, m, rfl⟩, v, by rw [v.length]; simp⟩
end

section
variable {g : Gd} {n : Nat} {env : Env} {loc : Loc} {hp : HP}

theorem WH_newList {xs : List AV} {vs : List PySem.Value} {Q : AV → HP → Prop} (hv : Vs xs vs) (hz : xs.length ≤ 100000) (q : ∀ a, hp a = none → Q (.ref a) (hp.set a (.list xs))) : WH g n (newList vs) hp AV.Is Q := by
  intro A E h₀ s c x
  refine wpAny_newObj_type ⟨.ref _, _, ⟨0, rfl⟩, x.push (X := .list xs) ⟨vs.toArray, 0, Heap.get?_push_size _ rfl, by simpa using hv⟩, q _ x.freshP⟩ ?_
  show vs.toArray.size ≤ sizeLine
  rw [List.size_toArray, ← hv.length, sizeLine_eq]; lia
theorem WH_newTuple {xs : List AV} {vs : List PySem.Value} {Q : AV → HP → Prop} (hv : Vs xs vs) (hz : xs.length ≤ 100000) (q : ∀ a, hp a = none → Q (.ref a) (hp.set a (.tuple xs))) : WH g n (newTuple vs) hp AV.Is Q := by
  intro A E h₀ s c x
  refine wpAny_newObj_type ⟨.ref _, _, ⟨0, rfl⟩, x.push (X := .tuple xs) ⟨vs.toArray, 0, Heap.get?_push_size _ rfl, by simpa using hv⟩, q _ x.freshP⟩ ?_
  show vs.toArray.size ≤ sizeLine
  rw [List.size_toArray, ← hv.length, sizeLine_eq]; lia
theorem EV_List {es : List PySem.Expr} {pos : Pos} {Q : AV → Loc → HP → Prop} (h : ES g n env pos es loc hp fun xs l h => xs.length ≤ 100000 ∧ ∀ a, h a = none → Q (.ref a) l (h.set a (.list xs))) : EV g n env (.List es pos) loc hp Q := by
  intro A E h₀ s c x
  rw [arm_eval_List]
  refine wpAny_bind (wpAny_standAt (wpAny_bind (wpAny_mono (h A E h₀ s c x) (fun vs s₁ hh => ?_) fun V V e => e)))
  refine out3 hh fun xs l h' r y hQ => ?_
  obtain ⟨hz, q⟩ := hQ
  exact WB.lift (loc := l) (Q := Q) (WH_newList r hz q) A E h₀ s₁ c y
theorem EV_Tuple {es : List PySem.Expr} {k : Nat} {pos : Pos} {Q : AV → Loc → HP → Prop} (h : ES g n env pos es loc hp fun xs l h => xs.length ≤ 100000 ∧ ∀ a, h a = none → Q (.ref a) l (h.set a (.tuple xs))) : EV g n env (.Tuple es k pos) loc hp Q := by
  intro A E h₀ s c x
  rw [arm_eval_Tuple]
  refine wpAny_bind (wpAny_standAt (wpAny_bind (wpAny_mono (h A E h₀ s c x) (fun vs s₁ hh => ?_) fun V V e => e)))
  refine out3 hh fun xs l h' r y hQ => ?_
  obtain ⟨hz, q⟩ := hQ
  exact WB.lift (loc := l) (Q := Q) (WH_newTuple r hz q) A E h₀ s₁ c y

/-- the text's own def, called by its name -/
theorem EV_def {x : PySem.Str} {f : Addr} {fd : FuncData} {p pos : Pos} {e : PySem.Expr} {es : List PySem.Expr} {Q : AV → Loc → HP → Prop} (G : Gnd g) (hk : env.scope.kind = .function) (hg : env.globals = mainGlobals) (hx : env.kindOf x = some .globalImplicit)
    (hn : nsIn (myK g.w.params) mainGlobals x = some (some (.ref f))) (ho : (myK g.w.params).lookup f = some { cls := .type "function", data := .func fd })
    (h : ES g n env pos (e :: es) loc hp fun xs l h => ∀ vs, Vs xs vs → WB g n env.locals (call (.ref f) vs) l h AV.Is Q) (hd : (x == ("__debug__" : PySem.Str)) = false := by decide)
    (he : starEach (e :: es) env = (false, eval e env) :: starEach es env := by rfl) : EV g n env (.Call (.Name x p) (e :: es) [] pos) loc hp Q := by
  intro A E h₀ s c y
  refine Call_Name rfl ?_
  obtain ⟨mg, mb, T⟩ := G.top
  refine Name_function_global hk hx (loadGlobal_global (env := env) (by rw [hg]; exact T.g.keeps (stays c y)) (mg_of G.kin T.g hn) ?_) hd
  refine callWith_def (o := { cls := .type "function", data := .func fd }) (fd := fd) rfl (wpAny_mono (h A E h₀ s c y) (fun vs s₁ hh => ?_) fun V V e => e) he
  refine out3 hh fun xs l h' r y' q => ?_
  exact ⟨stays c y' _ _ (G.kin _ _ ho), q vs r A E h₀ s₁ c y'⟩
theorem EV_def0 {x : PySem.Str} {f : Addr} {fd : FuncData} {p pos : Pos} {Q : AV → Loc → HP → Prop} (G : Gnd g) (hk : env.scope.kind = .function) (hg : env.globals = mainGlobals) (hx : env.kindOf x = some .globalImplicit)
    (hn : nsIn (myK g.w.params) mainGlobals x = some (some (.ref f))) (ho : (myK g.w.params).lookup f = some { cls := .type "function", data := .func fd })
    (h : WB g n env.locals (call (.ref f) []) loc hp AV.Is Q) (hd : (x == ("__debug__" : PySem.Str)) = false := by decide) : EV g n env (.Call (.Name x p) [] [] pos) loc hp Q := by
  intro A E h₀ s c y
  refine Call_Name (trees := []) rfl ?_
  obtain ⟨mg, mb, T⟩ := G.top
  refine Name_function_global hk hx (loadGlobal_global (env := env) (by rw [hg]; exact T.g.keeps (stays c y)) (mg_of G.kin T.g hn) ?_) hd
  exact callWith_function (o := { cls := .type "function", data := .func fd }) (fd := fd) (PySem.evalArgs_none ⟨⟨stays c y _ _ (G.kin _ _ ho), rfl⟩, h A E h₀ s c y⟩)
/-- a built-in function, called by its name -/
theorem EV_fn {x : PySem.Str} {id : String} {p pos : Pos} {e : PySem.Expr} {es : List PySem.Expr} {Q : AV → Loc → HP → Prop} (G : Gnd g) (hk : env.scope.kind = .function) (hg : env.globals = mainGlobals) (hb : env.builtins = builtinsNs) (hx : env.kindOf x = some .globalImplicit)
    (hn : nsIn (myK g.w.params) mainGlobals x = some none) (hv : bootBuiltins x = some (.builtin id)) (hne : x ≠ "__name__")
    (h : ES g n env pos (e :: es) loc hp fun xs l h => ∀ vs, Vs xs vs → WB g n env.locals (call (.builtin id) vs) l h AV.Is Q) (hd : (x == ("__debug__" : PySem.Str)) = false := by decide)
    (he : starEach (e :: es) env = (false, eval e env) :: starEach es env := by rfl) (hplain : (backTo pos (starEach es env)).any (·.1) = false := by rfl) : EV g n env (.Call (.Name x p) (e :: es) [] pos) loc hp Q := by
  intro A E h₀ s c y
  refine Call_Name rfl ?_
  obtain ⟨mg, mb, T⟩ := G.top
  refine Name_function_global hk hx (loadGlobal_builtin (env := env) (by rw [hg]; exact T.g.keeps (stays c y)) (mg_none_of G.kin T.g hn) (by rw [hb]; exact T.b.keeps (stays c y)) ((T.builtins x hne).trans hv) ?_) hd
  refine PyProof.Rows.callWith_builtin1 (wpAny_mono (h A E h₀ s c y) (fun vs s₁ hh => ?_) fun V V e => e) he hplain
  refine out3 hh fun xs l h' r y' q => ?_
  exact q vs r A E h₀ s₁ c y'
/-- a built-in type, called by its name -/
theorem EV_ty {x : PySem.Str} {T' : String} {p pos : Pos} {e : PySem.Expr} {es : List PySem.Expr} {Q : AV → Loc → HP → Prop} (G : Gnd g) (hk : env.scope.kind = .function) (hg : env.globals = mainGlobals) (hb : env.builtins = builtinsNs) (hx : env.kindOf x = some .globalImplicit)
    (hn : nsIn (myK g.w.params) mainGlobals x = some none) (hv : bootBuiltins x = some (.type T')) (hne : x ≠ "__name__")
    (h : ES g n env pos (e :: es) loc hp fun xs l h => ∀ vs, Vs xs vs → WB g n env.locals (call (.type T') vs) l h AV.Is Q) (hd : (x == ("__debug__" : PySem.Str)) = false := by decide)
    (he : starEach (e :: es) env = (false, eval e env) :: starEach es env := by rfl) (hplain : (backTo pos (starEach es env)).any (·.1) = false := by rfl) : EV g n env (.Call (.Name x p) (e :: es) [] pos) loc hp Q := by
  intro A E h₀ s c y
  refine Call_Name rfl ?_
  obtain ⟨mg, mb, T⟩ := G.top
  refine Name_function_global hk hx (loadGlobal_builtin (env := env) (by rw [hg]; exact T.g.keeps (stays c y)) (mg_none_of G.kin T.g hn) (by rw [hb]; exact T.b.keeps (stays c y)) ((T.builtins x hne).trans hv) ?_) hd
  refine PyProof.Rows.callWith_type1 (wpAny_mono (h A E h₀ s c y) (fun vs s₁ hh => ?_) fun V V e => e) he hplain
  refine out3 hh fun xs l h' r y' q => ?_
  exact q vs r A E h₀ s₁ c y'
theorem EV_ty0 {x : PySem.Str} {T' : String} {p pos : Pos} {Q : AV → Loc → HP → Prop} (G : Gnd g) (hk : env.scope.kind = .function) (hg : env.globals = mainGlobals) (hb : env.builtins = builtinsNs) (hx : env.kindOf x = some .globalImplicit)
    (hn : nsIn (myK g.w.params) mainGlobals x = some none) (hv : bootBuiltins x = some (.type T')) (hne : x ≠ "__name__")
    (h : WB g n env.locals (call (.type T') []) loc hp AV.Is Q) (hd : (x == ("__debug__" : PySem.Str)) = false := by decide) : EV g n env (.Call (.Name x p) [] [] pos) loc hp Q := by
  intro A E h₀ s c y
  refine Call_Name (trees := backTo pos (starEach [] env)) rfl ?_
  obtain ⟨mg, mb, T⟩ := G.top
  refine Name_function_global hk hx (loadGlobal_builtin (env := env) (by rw [hg]; exact T.g.keeps (stays c y)) (mg_none_of G.kin T.g hn) (by rw [hb]; exact T.b.keeps (stays c y)) ((T.builtins x hne).trans hv) ?_) hd
  exact PyProof.Rows.callWith_type0 (h A E h₀ s c y)

/-- a built-in's method -/
theorem EV_meth {o : PySem.Expr} {name : PySem.Str} {apos pos : Pos} {e : PySem.Expr} {es : List PySem.Expr} {T id : String} {Q : AV → Loc → HP → Prop} (pa : PlainAttrs T) (slot : Slot T name id) (hty : typeOf (.builtin id) = pure (.type "method_descriptor"))
    (h : EV g n env o loc hp fun a l₁ h₁ => aty h₁ a = some T ∧ ES g n env pos (e :: es) l₁ h₁ fun xs l₂ h₂ => ∀ va vs, a.Is va → Vs xs vs → WB g n env.locals (call (.builtin id) (va :: vs)) l₂ h₂ AV.Is Q)
    (hbase : attributeBase o name env (eval o env) = eval o env := by rfl)
    (hfew : ((backTo pos (starEach (e :: es) env)).all (fun x => !x.1) && (backToKw pos (keywordEach [] env)).all (fun x => x.1.isSome)
      && decide ((e :: es).length + ([] : List Keyword).length + (if ([] : List Keyword).isEmpty then 0 else 1) < 30)) = true := by rfl)
    (hline : (apos.endLine == pos.line) = true := by rfl)
    (he : starEach (e :: es) env = (false, eval e env) :: starEach es env := by rfl) (hplain : (backTo pos (starEach es env)).any (·.1) = false := by rfl) :
    EV g n env (.Call (.Attribute o name apos) (e :: es) [] pos) loc hp Q := by
  intro A E h₀ s c y
  refine wpAny_Call_method hbase hfew hline pa slot hty (wpAny_mono (h A E h₀ s c y) (fun v s₁ hh => ?_) fun V V e => e)
  refine out3 hh fun a l₁ h₁ r y₁ hQ => ?_
  obtain ⟨ht, q⟩ := hQ
  obtain ⟨hT, hd⟩ := aty_is y₁.at_ ht r
  refine ⟨hT, hd, callWith_method1 (wpAny_mono (q A E h₀ s₁ c y₁) (fun vs s₂ hh => ?_) fun V V e => e) he hplain⟩
  refine out3 hh fun xs l₂ h₂ r₂ y₂ q => ?_
  exact q v vs r r₂ A E h₀ s₂ c y₂
theorem EV_meth0 {o : PySem.Expr} {name : PySem.Str} {apos pos : Pos} {T id : String} {Q : AV → Loc → HP → Prop} (pa : PlainAttrs T) (slot : Slot T name id) (hty : typeOf (.builtin id) = pure (.type "method_descriptor"))
    (h : EV g n env o loc hp fun a l₁ h₁ => aty h₁ a = some T ∧ ∀ va, a.Is va → WB g n env.locals (call (.builtin id) [va]) l₁ h₁ AV.Is Q)
    (hbase : attributeBase o name env (eval o env) = eval o env := by rfl)
    (hline : (apos.endLine == pos.line) = true := by rfl) :
    EV g n env (.Call (.Attribute o name apos) [] [] pos) loc hp Q := by
  intro A E h₀ s c y
  refine wpAny_Call_method hbase rfl hline pa slot hty (wpAny_mono (h A E h₀ s c y) (fun v s₁ hh => ?_) fun V V e => e)
  refine out3 hh fun a l₁ h₁ r y₁ hQ => ?_
  obtain ⟨ht, q⟩ := hQ
  obtain ⟨hT, hd⟩ := aty_is y₁.at_ ht r
  exact ⟨hT, hd, callWith_method0 (q v r A E h₀ s₁ c y₁)⟩

set_option tactic.hygienic true in
/-- an item -/
theorem subscripted_or (slice : PySem.Expr) (o i : PySem.Value) : subscripted slice false o i = operate [i, o] (getItem o i) ∨ subscripted slice false o i = operate [o, i] (getItem o i) := by
  cases slice <;> first | exact .inr rfl | skip
  case Slice a b c p => cases c with
    | none => exact .inl rfl
    | some => exact .inr rfl
theorem sub_tail {M : Model} {A : Around} {E : PySem.Value → Shared → Prop} {s : Shared} {value slice : PySem.Expr} {o i : PySem.Value} {T id : String} {Q : PySem.Value → Shared → Prop} (hT : s.TypeIs o T)
    (hl : typeLookup (.type T) "__getitem__" = pure (some (.builtin id))) (h : wpAny (model pg M.w) A (getItem o i) Q E s) : wpAny (model pg M.w) A (subscriptTail value slice o i) Q E s := by
  unfold subscriptTail
  refine wpAny_bind ?_
  rw [getitemInPython_of_ne hT.not_modules]
  refine wpAny_bind (wpAny_specialOf hT hl ?_)
  have fin : wpAny (model pg M.w) A (subscripted slice false o i) (fun r s₃ => wpAny (model pg M.w) A (letTemporaryGo value o r >>= fun V => pure r) Q E s₃) E s := by
    rcases subscripted_or slice o i with e | e <;> rw [e] <;> exact wpAny_operating (wpAny_mono h (fun r s₃ h₃ => wpAny_bind (wpAny_letTemporaryGo (Q := fun V s₄ => wpAny (model pg M.w) A (pure r) Q E s₄) (wpAny_pure h₃))) fun V V x => x)
  first | exact wpAny_pure (wpAny_bind fin) | exact wpAny_bind (wpAny_pure (wpAny_bind fin))
theorem EV_Sub {value slice : PySem.Expr} {pos : Pos} {T id : String} {Q : AV → Loc → HP → Prop} (hl : typeLookup (.type T) "__getitem__" = pure (some (.builtin id)))
    (h : EV g n env value loc hp fun a l₁ h₁ => EV g n env slice l₁ h₁ fun b l₂ h₂ => aty h₂ a = some T ∧ ∀ va vb, a.Is va → b.Is vb → WB g n env.locals (getItem va vb) l₂ h₂ AV.Is Q) : EV g n env (.Subscript value slice pos) loc hp Q := by
  intro A E h₀ s c y
  refine Subscript_ (wpAny_mono (h A E h₀ s c y) (fun va s₁ hh => ?_) fun V V e => e)
  refine out3 hh fun a l₁ h₁ ra y₁ q => ?_
  refine wpAny_mono (q A E h₀ s₁ c y₁) (fun vb s₂ hh => ?_) fun V V e => e
  refine out3 hh fun b l₂ h₂ rb y₂ hQ => ?_
  obtain ⟨ht, q⟩ := hQ
  exact sub_tail (M := model pg g.w) (aty_is y₂.at_ ht ra).1 hl (q va vb ra rb A E h₀ s₂ c y₂)

noncomputable abbrev EP (g : Gd) (n : Nat) (env : Env) (e : Option PySem.Expr) (loc : Loc) (hp : HP) (Q : AV → Loc → HP → Prop) : Prop := WB g n env.locals (evalPart e env) loc hp AV.Is Q
theorem EP_none {Q : AV → Loc → HP → Prop} (q : Q .none loc hp) : EP g n env none loc hp Q := WB.pure ⟨0, rfl⟩ q
theorem EP_some {e : PySem.Expr} {Q : AV → Loc → HP → Prop} (h : EV g n env e loc hp Q) : EP g n env (some e) loc hp Q := h
variable {nms : List (PySem.Str × NameKind)} {cs : List (PySem.Str × Addr)}
theorem D_ {x : PySem.Str} {f : Addr} {fd : FuncData} {p pos : Pos} {e : PySem.Expr} {es : List PySem.Expr} {Q : AV → Loc → HP → Prop} (F : FEnv env nms cs) (G : Gnd g) (hn : nsIn (myK g.w.params) mainGlobals x = some (some (.ref f))) (ho : (myK g.w.params).lookup f = some { cls := .type "function", data := .func fd })
    (hl : nms.lookup x = some .globalImplicit) (hd : (x == ("__debug__" : PySem.Str)) = false) (he : starEach (e :: es) env = (false, eval e env) :: starEach es env)
    (h : ES g n env pos (e :: es) loc hp fun xs l h => ∀ vs, Vs xs vs → WB g n env.locals (call (.ref f) vs) l h AV.Is Q) : EV g n env (.Call (.Name x p) (e :: es) [] pos) loc hp Q :=
  EV_def G F.kind F.glob ((F.look x).trans hl) hn ho h hd he
theorem D0_ {x : PySem.Str} {f : Addr} {fd : FuncData} {p pos : Pos} {Q : AV → Loc → HP → Prop} (F : FEnv env nms cs) (G : Gnd g) (hn : nsIn (myK g.w.params) mainGlobals x = some (some (.ref f))) (ho : (myK g.w.params).lookup f = some { cls := .type "function", data := .func fd })
    (hl : nms.lookup x = some .globalImplicit) (hd : (x == ("__debug__" : PySem.Str)) = false)
    (h : WB g n env.locals (call (.ref f) []) loc hp AV.Is Q) : EV g n env (.Call (.Name x p) [] [] pos) loc hp Q :=
  EV_def0 G F.kind F.glob ((F.look x).trans hl) hn ho h hd
theorem BF_ {x : PySem.Str} {id : String} {p pos : Pos} {e : PySem.Expr} {es : List PySem.Expr} {Q : AV → Loc → HP → Prop} (F : FEnv env nms cs) (G : Gnd g) (hn : nsIn (myK g.w.params) mainGlobals x = some none) (hv : bootBuiltins x = some (.builtin id))
    (hl : nms.lookup x = some .globalImplicit) (hne : x ≠ "__name__") (hd : (x == ("__debug__" : PySem.Str)) = false) (he : starEach (e :: es) env = (false, eval e env) :: starEach es env) (hplain : (backTo pos (starEach es env)).any (·.1) = false)
    (h : ES g n env pos (e :: es) loc hp fun xs l h => ∀ vs, Vs xs vs → WB g n env.locals (call (.builtin id) vs) l h AV.Is Q) : EV g n env (.Call (.Name x p) (e :: es) [] pos) loc hp Q :=
  EV_fn G F.kind F.glob F.blt ((F.look x).trans hl) hn hv hne h hd he hplain
theorem BT_ {x : PySem.Str} {T' : String} {p pos : Pos} {e : PySem.Expr} {es : List PySem.Expr} {Q : AV → Loc → HP → Prop} (F : FEnv env nms cs) (G : Gnd g) (hn : nsIn (myK g.w.params) mainGlobals x = some none) (hv : bootBuiltins x = some (.type T'))
    (hl : nms.lookup x = some .globalImplicit) (hne : x ≠ "__name__") (hd : (x == ("__debug__" : PySem.Str)) = false) (he : starEach (e :: es) env = (false, eval e env) :: starEach es env) (hplain : (backTo pos (starEach es env)).any (·.1) = false)
    (h : ES g n env pos (e :: es) loc hp fun xs l h => ∀ vs, Vs xs vs → WB g n env.locals (call (.type T') vs) l h AV.Is Q) : EV g n env (.Call (.Name x p) (e :: es) [] pos) loc hp Q :=
  EV_ty G F.kind F.glob F.blt ((F.look x).trans hl) hn hv hne h hd he hplain
theorem BT0_ {x : PySem.Str} {T' : String} {p pos : Pos} {Q : AV → Loc → HP → Prop} (F : FEnv env nms cs) (G : Gnd g) (hn : nsIn (myK g.w.params) mainGlobals x = some none) (hv : bootBuiltins x = some (.type T'))
    (hl : nms.lookup x = some .globalImplicit) (hne : x ≠ "__name__") (hd : (x == ("__debug__" : PySem.Str)) = false)
    (h : WB g n env.locals (call (.type T') []) loc hp AV.Is Q) : EV g n env (.Call (.Name x p) [] [] pos) loc hp Q :=
  EV_ty0 G F.kind F.glob F.blt ((F.look x).trans hl) hn hv hne h hd
end
end Mine
end
section
open PySem PySem.W PySem.Calls PyProof.Rows
namespace Mine

/-- a tree that puts out one value and changes nothing but the tokens -/
noncomputable def Puts (g : Gd) (t : Sem PySem.Value) (v : AV) : Prop := ∀ (A : Around) (E : PySem.Value → Shared → Prop) (s : Shared) (Q : PySem.Value → Shared → Prop), A.units ≤ 9800 → (∀ u tk, Q (v.val u) { s with toks := tk }) → wpAny (model pg g.w) A t Q E s
noncomputable def PutsB (g : Gd) (t : Sem Bool) (b : Bool) : Prop := ∀ (A : Around) (E : PySem.Value → Shared → Prop) (s : Shared) (Q : Bool → Shared → Prop), A.units ≤ 9800 → (∀ tk, Q b { s with toks := tk }) → wpAny (model pg g.w) A t Q E s

theorem hfit63 {k : Nat} (hz : k ≤ 100000) : ¬ (k : Int) ≥ 2 ^ 63 := by
  have : (2 : Int) ^ 63 = 9223372036854775808 := by decide
  lia
section
variable {g : Gd} {n : Nat} {L : Addr} {loc : Loc} {hp : HP}
theorem WH_puts {t : Sem PySem.Value} {v : AV} {Q : AV → HP → Prop} (h : Puts g t v) (q : Q v hp) : WH g n t hp AV.Is Q :=
  fun A E V s c x => wpAny_with_toks x.tok (h A _ s _ (by have := c.units; lia) fun u V htk => ⟨v, hp, ⟨u, rfl⟩, x.toks htk, q⟩)
theorem WB_puts {t : Sem PySem.Value} {v : AV} {Q : AV → Loc → HP → Prop} (h : Puts g t v) (q : Q v loc hp) : WB g n L t loc hp AV.Is Q := WB.lift (WH_puts h q)
theorem WB_putsB {t : Sem Bool} {b : Bool} {Q : Bool → Loc → HP → Prop} (h : PutsB g t b) (q : Q b loc hp) : WB g n L t loc hp (Eq (α := Bool)) Q :=
  fun A E V s c x => wpAny_with_toks x.at_.tok (h A _ s _ (by have := c.units; lia) fun V htk => ⟨b, loc, hp, rfl, x.toks htk, q⟩)

theorem bin_add {i j : Int} {Q : AV → Loc → HP → Prop} (q : Q (.int (i + j)) loc hp) : ∀ va vb, (AV.int i).Is va → (AV.int j).Is vb → WB g n L (binaryOp .Add va vb) loc hp AV.Is Q := by
  rintro _ _ ⟨t, rfl⟩ ⟨u, rfl⟩; exact WB_puts (v := .int (i + j)) (fun A E s Q V h => PyProof.Rows.add_int (h s.toks (s.toks + 1))) q
theorem bin_sub {i j : Int} {Q : AV → Loc → HP → Prop} (q : Q (.int (i - j)) loc hp) : ∀ va vb, (AV.int i).Is va → (AV.int j).Is vb → WB g n L (binaryOp .Sub va vb) loc hp AV.Is Q := by
  rintro _ _ ⟨t, rfl⟩ ⟨u, rfl⟩; exact WB_puts (v := .int (i - j)) (fun A E s Q V h => PyProof.Rows.sub_int (h s.toks (s.toks + 1))) q
theorem bin_mul {i j : Int} {Q : AV → Loc → HP → Prop} (hm : IntMulOk i j) (q : Q (.int (i * j)) loc hp) : ∀ va vb, (AV.int i).Is va → (AV.int j).Is vb → WB g n L (binaryOp .Mult va vb) loc hp AV.Is Q := by
  rintro _ _ ⟨t, rfl⟩ ⟨u, rfl⟩; exact WB_puts (v := .int (i * j)) (fun A E s Q V h => PyProof.Rows.mul_int (h s.toks (s.toks + 1)) hm) q
theorem bin_div {i j : Int} {Q : AV → Loc → HP → Prop} (hj : j ≠ 0) (hpy : Builtin.divisionGoesByPylong i j = false) (q : Q (.int (i.fdiv j)) loc hp) : ∀ va vb, (AV.int i).Is va → (AV.int j).Is vb → WB g n L (binaryOp .FloorDiv va vb) loc hp AV.Is Q := by
  rintro _ _ ⟨t, rfl⟩ ⟨u, rfl⟩; exact WB_puts (v := .int (i.fdiv j)) (fun A E s Q V h => PyProof.Rows.floordiv_int hj (h s.toks (s.toks + 1)) (.inl hpy)) q
theorem bin_mod {i j : Int} {Q : AV → Loc → HP → Prop} (hj : j ≠ 0) (q : Q (.int (i.fmod j)) loc hp) : ∀ va vb, (AV.int i).Is va → (AV.int j).Is vb → WB g n L (binaryOp .Mod va vb) loc hp AV.Is Q := by
  rintro _ _ ⟨t, rfl⟩ ⟨u, rfl⟩; exact WB_puts (v := .int (i.fmod j)) (fun A E s Q V h => PyProof.Rows.mod_int' hj (h s.toks (s.toks + 1))) q
theorem cmp_eq_int {i j : Int} {Q : AV → Loc → HP → Prop} (q : Q (.bool (i == j)) loc hp) : ∀ va vb, (AV.int i).Is va → (AV.int j).Is vb → WB g n L (compareOp .Eq va vb) loc hp AV.Is Q := by
  rintro _ _ ⟨t, rfl⟩ ⟨u, rfl⟩; exact WB_puts (v := .bool (i == j)) (fun A E s Q V h => PyProof.Rows.eq_int (h 0 s.toks)) q
theorem cmp_ne_int {i j : Int} {Q : AV → Loc → HP → Prop} (q : Q (.bool (i != j)) loc hp) : ∀ va vb, (AV.int i).Is va → (AV.int j).Is vb → WB g n L (compareOp .NotEq va vb) loc hp AV.Is Q := by
  rintro _ _ ⟨t, rfl⟩ ⟨u, rfl⟩; exact WB_puts (v := .bool (i != j)) (fun A E s Q V h => PyProof.Rows.ne_int (h 0 s.toks)) q
theorem cmp_lt_int {i j : Int} {Q : AV → Loc → HP → Prop} (q : Q (.bool (decide (i < j))) loc hp) : ∀ va vb, (AV.int i).Is va → (AV.int j).Is vb → WB g n L (compareOp .Lt va vb) loc hp AV.Is Q := by
  rintro _ _ ⟨t, rfl⟩ ⟨u, rfl⟩; exact WB_puts (v := .bool (decide (i < j))) (fun A E s Q V h => PyProof.Rows.lt_int (h 0 s.toks)) q
theorem cmp_gt_int {i j : Int} {Q : AV → Loc → HP → Prop} (q : Q (.bool (decide (j < i))) loc hp) : ∀ va vb, (AV.int i).Is va → (AV.int j).Is vb → WB g n L (compareOp .Gt va vb) loc hp AV.Is Q := by
  rintro _ _ ⟨t, rfl⟩ ⟨u, rfl⟩; exact WB_puts (v := .bool (decide (j < i))) (fun A E s Q V h => PyProof.Rows.gt_int (h 0 s.toks)) q
theorem cmp_ge_int {i j : Int} {Q : AV → Loc → HP → Prop} (q : Q (.bool (decide (j ≤ i))) loc hp) : ∀ va vb, (AV.int i).Is va → (AV.int j).Is vb → WB g n L (compareOp .GtE va vb) loc hp AV.Is Q := by
  rintro _ _ ⟨t, rfl⟩ ⟨u, rfl⟩; exact WB_puts (v := .bool (decide (j ≤ i))) (fun A E s Q V h => PyProof.Rows.ge_int (h 0 s.toks)) q
theorem un_neg {i : Int} {Q : AV → Loc → HP → Prop} (q : Q (.int (-i)) loc hp) : ∀ va, (AV.int i).Is va → WB g n L (unaryOp .USub va) loc hp AV.Is Q := by
  rintro _ ⟨t, rfl⟩; exact WB_puts (v := .int (-i)) (fun A E s Q V h => PyProof.Rows.neg_int (h s.toks (s.toks + 1))) q

theorem bin_add_str {x y : PySem.Str} {Q : AV → Loc → HP → Prop} (hz : x.length + y.length ≤ 100000) (q : Q (.str (x ++ y)) loc hp) : ∀ va vb, (AV.str x).Is va → (AV.str y).Is vb → WB g n L (binaryOp .Add va vb) loc hp AV.Is Q := by
  rintro _ _ ⟨t, rfl⟩ ⟨u, rfl⟩; exact WB_puts (v := .str (x ++ y)) (fun A E s Q V h => PyProof.Rows.add_str (fun t' tk => h t' tk) (by rw [sizeLine_eq]; lia)) q
theorem cmp_eq_str {x y : PySem.Str} {Q : AV → Loc → HP → Prop} (q : Q (.bool (x == y)) loc hp) : ∀ va vb, (AV.str x).Is va → (AV.str y).Is vb → WB g n L (compareOp .Eq va vb) loc hp AV.Is Q := by
  rintro _ _ ⟨t, rfl⟩ ⟨u, rfl⟩; exact WB_puts (v := .bool (x == y)) (fun A E s Q V h => PyProof.Rows.eq_str (h 0 s.toks)) q
theorem cmp_ne_str {x y : PySem.Str} {Q : AV → Loc → HP → Prop} (q : Q (.bool (x != y)) loc hp) : ∀ va vb, (AV.str x).Is va → (AV.str y).Is vb → WB g n L (compareOp .NotEq va vb) loc hp AV.Is Q := by
  rintro _ _ ⟨t, rfl⟩ ⟨u, rfl⟩; exact WB_puts (v := .bool (x != y)) (fun A E s Q V h => PyProof.Rows.ne_str (h 0 s.toks)) q
theorem tru_str {x : PySem.Str} {Q : Bool → Loc → HP → Prop} (hz : x.length ≤ 100000) (q : Q ((x.length : Int) != 0) loc hp) : ∀ va, (AV.str x).Is va → WB g n L (truthy va) loc hp (Eq (α := Bool)) Q := by
  rintro _ ⟨t, rfl⟩
  exact WB_putsB (b := (x.length : Int) != 0) (fun A E s Q V h => PySem.P.truthy_str (hfit63 hz) (h _)) q
theorem tru_bool {b : Bool} {Q : Bool → Loc → HP → Prop} (q : Q b loc hp) : ∀ va, (AV.bool b).Is va → WB g n L (truthy va) loc hp (Eq (α := Bool)) Q := by
  rintro _ ⟨t, rfl⟩; exact WB_putsB (b := b) (fun A E s Q V h => wpAny_truthy_bool (h s.toks)) q
noncomputable def AV.isNone : AV → Bool
  | .none => true
  | _ => false
theorem cmp_is_none {a : AV} {Q : AV → Loc → HP → Prop} (q : Q (.bool a.isNone) loc hp) : ∀ va vb, a.Is va → (AV.none).Is vb → WB g n L (compareOp .Is va vb) loc hp AV.Is Q := by
  rintro _ _ ⟨t, rfl⟩ ⟨u, rfl⟩; refine WB_puts (v := .bool a.isNone) (fun A E s Q V h => is_none ?_) q; cases a <;> exact h 0 s.toks
theorem cmp_isNot_none {a : AV} {Q : AV → Loc → HP → Prop} (q : Q (.bool (!a.isNone)) loc hp) : ∀ va vb, a.Is va → (AV.none).Is vb → WB g n L (compareOp .IsNot va vb) loc hp AV.Is Q := by
  rintro _ _ ⟨t, rfl⟩ ⟨u, rfl⟩; refine WB_puts (v := .bool (!a.isNone)) (fun A E s Q V h => isNot_none ?_) q; cases a <;> exact h 0 s.toks

/-- forms for calls -/
theorem c_rfind {x y : PySem.Str} {Q : AV → Loc → HP → Prop} (q : Q (.int (Txt.rfind x y)) loc hp) : ∀ va vs, (AV.str x).Is va → Vs [.str y] vs → WB g n L (call (.builtin "str.rfind") (va :: vs)) loc hp AV.Is Q := by
  rintro _ vs ⟨t, rfl⟩ hv
  obtain ⟨v, rfl⟩ : ∃ v, vs = [v] := by cases vs with | nil => cases hv | cons v r => cases r with | nil => exact ⟨v, rfl⟩ | cons _ _ => cases hv.2
  obtain ⟨⟨u, rfl⟩, _⟩ := hv
  exact WB_puts (v := .int (Txt.rfind x y)) (fun A E s Q V h => SC.rfind (h s.toks (s.toks + 1))) q
theorem Vs1 {a : AV} {vs : List PySem.Value} (h : Vs [a] vs) : ∃ t, vs = [a.val t] := by
  cases vs with
  | nil => cases h
  | cons v r => cases r with
    | nil => obtain ⟨⟨t, rfl⟩, _⟩ := h; exact ⟨t, rfl⟩
    | cons _ _ => cases h.2
theorem Vs2 {a b : AV} {vs : List PySem.Value} (h : Vs [a, b] vs) : ∃ t u, vs = [a.val t, b.val u] := by
  cases vs with
  | nil => cases h
  | cons v r => obtain ⟨⟨t, rfl⟩, h⟩ := h; obtain ⟨u, rfl⟩ := Vs1 h; exact ⟨t, u, rfl⟩
theorem Vs3 {a b c : AV} {vs : List PySem.Value} (h : Vs [a, b, c] vs) : ∃ t u w, vs = [a.val t, b.val u, c.val w] := by
  cases vs with
  | nil => cases h
  | cons v r => obtain ⟨⟨t, rfl⟩, h⟩ := h; obtain ⟨u, w, rfl⟩ := Vs2 h; exact ⟨t, u, w, rfl⟩
theorem c_rstrip {x y : PySem.Str} {Q : AV → Loc → HP → Prop} (hz : x.length ≤ 100000) (q : Q (.str (Txt.rstripChars x y)) loc hp) : ∀ va vs, (AV.str x).Is va → Vs [.str y] vs → WB g n L (call (.builtin "str.rstrip") (va :: vs)) loc hp AV.Is Q := by
  rintro _ vs ⟨t, rfl⟩ hv
  obtain ⟨u, rfl⟩ := Vs1 hv
  exact WB_puts (v := .str (Txt.rstripChars x y)) (fun A E s Q V h => SC.rstripChars (fun t' k => h t' k) (by rw [sizeLine_eq]; lia)) q
end
end Mine
end
section
open PySem PySem.W PySem.Calls PyProof.Rows
namespace Mine
section
variable {g : Gd} {n : Nat} {L : Addr} {loc : Loc} {hp : HP}

theorem c_isi_bytes {x : PySem.Str} {Q : AV → Loc → HP → Prop} (q : Q (.bool false) loc hp) : ∀ vs, Vs [.str x, .type "bytes"] vs → WB g n L (call (.builtin "isinstance") vs) loc hp AV.Is Q := by
  intro vs hv
  obtain ⟨t, u, rfl⟩ := Vs2 hv
  exact WB_puts (v := .bool false) (fun A E s Q V h => call_isinstance (isinstance_false_str (by decide) (by kernel_rfl) (by kernel_rfl)) (h 0 (s.toks + 1))) q
theorem c_type_str {x : PySem.Str} {Q : AV → Loc → HP → Prop} (q : Q (.type "str") loc hp) : ∀ vs, Vs [.str x] vs → WB g n L (call (.type "type") vs) loc hp AV.Is Q := by
  intro vs hv
  obtain ⟨t, rfl⟩ := Vs1 hv
  exact WB_puts (v := .type "str") (fun A E s Q V h => PySem.call_type_of (Tx := "str") rfl (by decide) (h 0 s.toks)) q
theorem issub_nested_str {prog : Program} {w : World} {A : Around} {E : PySem.Value → Shared → Prop} {s : Shared} {Q : Fin → Shared → Prop} {k : PySem.Value} {dep : Int} {tk : Tok} (hk : k = .int dep tk) (h : Q (.done (.ret (.bool true))) s) :
    wpAny (model prog w) A (Builtin.«issubclass.nested» ⟨[.type "str", .type "str", k], []⟩) Q E s := by
  subst hk
  have hm : (PySem.Value.type "type" == PySem.Value.type "type") = true := by decide
  have ht : typeOf (.type "str") = pure (.type "type") := by kernel_rfl
  have hs : isSubtype (.type "str") (.type "str") = pure true := by kernel_rfl
  repeat (any_goals (first | assumption | (rw [ht]) | (rw [if_pos hm]) | (rw [hs]) | wp_step))
theorem meets_issub {a : Addr} {items : Array PySem.Value} (hi : items.toList = [.type "str", .type "bytes"]) :
    Meets (Builtin.«issubclass» ⟨[.type "str", .ref a], []⟩) (fun V R s => s.heap.IsTuple a items ∧ R (.ok (.ret (.bool true))) s) := by
  rintro prog w A R s ⟨it, hR⟩
  obtain ⟨items⟩ := items
  have hi : items = [.type "str", .type "bytes"] := hi
  subst hi
  refine withGoal fun goalX goalBack => ?_
  obtain ⟨o, ho, hc, m, hd⟩ := id it
  refine goalBack ?_
  clear goalBack goalX
  refine issubclass_outer ?_
  unfold Builtin.«issubclass.nested»
  show wpAny _ _ (typeOf (.ref a) >>= _) _ _ _
  refine wpAny_bind (wpAny_typeOf it.typeIs ?_)
  rw [if_neg (by decide)]
  refine wpAny_bind ?_
  unfold Builtin.Builtins.unionMembers
  refine wpAny_bind (wpAny_typeOf it.typeIs ?_)
  rw [if_neg (by decide)]
  refine wpAny_pure (wpAny_bind (wpAny_isInstance (b := true) it.typeIs (by kernel_rfl) ?_))
  rw [if_pos rfl, if_neg (by decide)]
  refine wpAny_bind (wpAny_seqItems ho hd ?_)
  simp only [Option.getD_some]
  rw [← Array.forIn_toList]
  simp only [List.forIn_cons]
  refine wpAny_bind (wpAny_bind (wpAny_bind (Calls.call_function_entry (b := Builtin.«issubclass.nested») (by decide +kernel) (by decide +kernel) F.entry_issubclass_nested (by unfold argsOk; kernel_rfl) (issub_nested_str rfl ⟨_, rfl, ?_⟩))))
  refine wpAny_bind (wpAny_truthy_bool ?_)
  rw [if_pos rfl]
  exact wpAny_bind (wpAny_pure (wpAny_pure (wpAny_pure (wpAny_pure hR))))
theorem c_issub {a : Addr} {Q : AV → Loc → HP → Prop} (ha : hp a = some (.tuple [.type "str", .type "bytes"])) (q : Q (.bool true) loc hp) : ∀ vs, Vs [.type "str", .ref a] vs → WB g n L (call (.builtin "issubclass") vs) loc hp AV.Is Q := by
  intro vs hv
  obtain ⟨t, u, rfl⟩ := Vs2 hv
  refine WB.lift (fun A E h₀ s c x => ?_)
  refine withGoal fun goalX goalBack => ?_
  obtain ⟨items, m, ho, it, hi, hz⟩ := tuple_at x ha
  refine goalBack ?_
  clear goalBack goalX
  obtain ⟨u1, u2, hvs⟩ := Vs2 hi
  exact call_function_meets F.kind_issubclass F.plain_issubclass F.entry_issubclass (F.args_issubclass_2 _ _) (meets_issub hvs) ⟨it, ⟨.bool true, hp, ⟨0, rfl⟩, x, q⟩⟩
end
end Mine
end
section
open PySem PySem.W PySem.Calls PyProof.Rows
namespace Mine
section
variable {g : Gd} {n : Nat} {env : Env} {loc : Loc} {hp : HP}
theorem gName {x : PySem.Str} {pos : Pos} {Q : AV → Loc → HP → Prop} (h : EV g n env (.Name x pos) loc hp Q) : EV g n env (.Name x pos) loc hp Q := h
theorem gMeth {x : PySem.Str} {o : PySem.Expr} {p pos : Pos} {es : List PySem.Expr} {Q : AV → Loc → HP → Prop} (h : EV g n env (.Call (.Attribute o x p) es [] pos) loc hp Q) : EV g n env (.Call (.Attribute o x p) es [] pos) loc hp Q := h
theorem gCall {x : PySem.Str} {p pos : Pos} {es : List PySem.Expr} {Q : AV → Loc → HP → Prop} (h : EV g n env (.Call (.Name x p) es [] pos) loc hp Q) : EV g n env (.Call (.Name x p) es [] pos) loc hp Q := h
variable {nms : List (PySem.Str × NameKind)} {cs : List (PySem.Str × Addr)}
theorem BN_ {x : PySem.Str} {pos : Pos} {T : String} {Q : AV → Loc → HP → Prop} (F : FEnv env nms cs) (G : Gnd g) (e : nsIn (myK g.w.params) mainGlobals x = some none) (hv' : bootBuiltins x = some (.type T)) (hl : nms.lookup x = some .globalImplicit) (hn : x ≠ "__name__") (hd : (x == ("__debug__" : PySem.Str)) = false) (q : Q (.type T) loc hp) : EV g n env (.Name x pos) loc hp Q :=
  B_ F G e hv' hl hn ⟨0, rfl⟩ hd q
end
end Mine
end
section
open PySem PySem.W PySem.Calls PyProof.Rows
namespace Mine

section
variable {g : Gd} {n : Nat} {A : Around} {L C : Addr} {h₀ : Heap} {s : Shared} {loc : Loc} {hp : HP}
/-- the frames lie in h₀ or are L -/
theorem notS (c : CxB g n A L h₀) (x : AtB g (SA A) h₀ L loc hp s) {b : Addr} (hb : h₀.get? b = none) (hL : b ≠ L) : b ∉ SA A := by
  intro hS
  obtain ⟨l, hl, hf⟩ := c.frames
  obtain ⟨m, hn, _⟩ := x.loc
  refine withGoal fun goalX goalBack => ?_
  obtain ⟨oL, es, ep, hoL, r⟩ := id hn
  refine goalBack ?_
  clear goalBack goalX
  have ff := hf (hideP (fun a => (h₀.get? a).isNone && a != L) s.heap) (fun b o e => by
    obtain ⟨sl, e', _⟩ := x.at_.keep b o e
    exact ⟨sl, by rw [hideP_get]; simp [e, e']⟩) ⟨m, oL, es, ep, by rw [hideP_get]; simp [hoL], r⟩
  unfold SA at hS; rw [hl] at hS
  refine withGoal fun goalX goalBack => ?_
  obtain ⟨_, o, ho, _⟩ := ff.mem hS
  refine goalBack ?_
  clear goalBack goalX
  rw [hideP_get] at ho; simp [hb, hL] at ho

/-- everything not owned stays; for another frame C in L's place -/
theorem AtB.frameC (x : AtB g (SA A) h₀ L loc hp s) (c : CxB g n A L h₀) {locC : Loc} (hC : hp C = none) (hC0 : h₀.get? C = none) (hn : LocIs s.heap C locC) :
    ∃ h₁, CxB g n A C h₁ ∧ AtB g (SA A) h₁ C locC hp s ∧ ∀ loc' hp' s', AtB g (SA A) h₁ C loc' hp' s' → (C ≠ L → AtB g (SA A) h₀ L loc hp' s') ∧ (C = L → AtB g (SA A) h₀ L loc' hp' s') ∧
      ∀ b o, hp b = none → b ≠ C → b ≠ L → h₀.get? b = none → s.heap.get? b = some o → hp' b = none ∧ s'.heap.get? b = some o := by
  have hid : ∀ b, hp b = none → b ≠ C → (hideP (fun a => (hp a).isSome || a == C) s.heap).get? b = s.heap.get? b := fun b e e' => by rw [hideP_get]; simp [e, e']
  have hsome : ∀ b X, hp b = some X → (hideP (fun a => (hp a).isSome || a == C) s.heap).get? b = none := fun b X e => by rw [hideP_get]; simp [e]
  have hsub : ∀ b o, (hideP (fun a => (hp a).isSome || a == C) s.heap).get? b = some o → s.heap.get? b = some o := fun b o e => by
    rw [hideP_get] at e; split at e
    · cases e
    · exact e
  have hpn : ∀ b o, h₀.get? b = some o → hp b = none ∧ b ≠ C := fun b o e => by
    refine ⟨?_, fun q => ?_⟩
    · cases q : hp b with
      | none => rfl
      | some X => rw [(x.at_.own b X q).2] at e; cases e
    · rw [q, hC0] at e; cases e
  have keep : ∀ b o, h₀.get? b = some o → ∃ sl, (hideP (fun a => (hp a).isSome || a == C) s.heap).get? b = some { o with slots := sl } ∧ (b ∉ SA A → sl = o.slots) := fun b o e => by
    obtain ⟨sl, e', r⟩ := x.at_.keep b o e
    obtain ⟨q1, q2⟩ := hpn b o e
    exact ⟨sl, by rw [hid b q1 q2]; exact e', r⟩
  obtain ⟨l, hl, hf⟩ := c.frames
  obtain ⟨mL, hnL, hmL⟩ := x.loc
  refine withGoal fun goalX goalBack => ?_
  obtain ⟨oL, esL, epL, hoL, hdL⟩ := id hnL
  refine goalBack ?_
  clear goalBack goalX
  refine ⟨hideP (fun a => (hp a).isSome || a == C) s.heap, ⟨c.handled, c.depth, c.units, fun b o e => ?_, l, hl, fun h' hk hns => hf h' (fun b o e => ?_) ?_⟩, ⟨⟨fun b o e => ⟨o.slots, hsub b o e, fun V => rfl⟩, fun a X e => ⟨(x.at_.own a X e).1, hsome a X e⟩, x.at_.gens, x.at_.os, x.at_.tok⟩, hn, hC, by rw [hideP_get]; simp⟩, fun loc' hp' s' y => ?_⟩
  · obtain ⟨q1, q2⟩ := hpn b o (c.base b o e)
    rw [hid b q1 q2]; exact stays c x b o e
  · obtain ⟨sl, e', _⟩ := keep b o e
    obtain ⟨sl2, e2⟩ := hk b _ e'
    exact ⟨sl2, e2⟩
  · by_cases q : C = L
    · rw [← q]; exact hns
    · obtain ⟨sl, e'⟩ := hk L oL (by rw [hid L x.hpL (Ne.symm q)]; exact hoL)
      exact ⟨mL, _, esL, epL, e', hdL⟩
  · have keep' : ∀ b o, h₀.get? b = some o → ∃ sl, s'.heap.get? b = some { o with slots := sl } ∧ (b ∉ SA A → sl = o.slots) := fun b o e => by
      obtain ⟨sl, e', r'⟩ := keep b o e
      obtain ⟨sl2, e2, r2⟩ := y.at_.keep b _ e'
      exact ⟨sl2, e2, fun hb => (r2 hb).trans (r' hb)⟩
    have own' : ∀ a X, hp' a = some X → X.In g.w s'.heap a ∧ h₀.get? a = none := fun a X e => by
      refine ⟨(y.at_.own a X e).1, ?_⟩
      cases z : h₀.get? a with
      | none => rfl
      | some o => obtain ⟨sl, e', _⟩ := keep a o z; rw [(y.at_.own a X e).2] at e'; cases e'
    refine ⟨fun q => ⟨⟨keep', own', y.at_.gens, y.at_.os, y.at_.tok⟩, ?_, ?_, x.hL⟩, fun q => by subst q; exact ⟨⟨keep', own', y.at_.gens, y.at_.os, y.at_.tok⟩, y.loc, y.hpL, x.hL⟩, fun b o e e2 e3 e4 e5 => ⟨?_, ?_⟩⟩
    · obtain ⟨sl, e', _⟩ := y.at_.keep L oL (by rw [hid L x.hpL (Ne.symm q)]; exact hoL)
      exact ⟨mL, ⟨_, esL, epL, e', hdL⟩, hmL⟩
    · cases z : hp' L with
      | none => rfl
      | some X => have := (y.at_.own L X z).2; rw [hid L x.hpL (Ne.symm q), hoL] at this; cases this
    · cases z : hp' b with
      | none => rfl
      | some X => have := (y.at_.own b X z).2; rw [hid b e e2, e5] at this; cases this
    · obtain ⟨sl, e', r⟩ := y.at_.keep b o (by rw [hid b e e2]; exact e5)
      rw [e', r (notS c x e4 e3)]
theorem AtB.frame (x : AtB g (SA A) h₀ L loc hp s) (c : CxB g n A L h₀) :
    ∃ h₁, CxB g n A L h₁ ∧ AtB g (SA A) h₁ L loc hp s ∧ ∀ loc' hp' s', AtB g (SA A) h₁ L loc' hp' s' → AtB g (SA A) h₀ L loc' hp' s' ∧
      ∀ b o, hp b = none → b ≠ L → h₀.get? b = none → s.heap.get? b = some o → hp' b = none ∧ s'.heap.get? b = some o := by
  refine withGoal fun goalX goalBack => ?_
  obtain ⟨h₁, a, b, d⟩ := x.frameC c (C := L) x.hpL x.hL x.loc
  refine goalBack ?_
  clear goalBack goalX
  exact ⟨h₁, a, b, fun loc' hp' s' y => let ⟨_, q, r⟩ := d loc' hp' s' y; ⟨q rfl, fun b o e e2 e3 e4 => r b o e e2 e2 e3 e4⟩⟩
/-- a heap turned at places that nobody owns -/
theorem AtB.turned (x : AtB g (SA A) h₀ L loc hp s) {h' : Heap} {tk : Nat} (htk : 1 ≤ tk) (W : Addr → Prop) (hk : ∀ b o, ¬ W b → s.heap.get? b = some o → h'.get? b = some o)
    (hw : ∀ b, W b → h₀.get? b = none ∧ hp b = none ∧ b ≠ L) : AtB g (SA A) h₀ L loc hp { s with heap := h', toks := tk } := by
  refine ⟨⟨fun b o e => ?_, fun a X e => ?_, x.at_.gens, x.at_.os, htk⟩, ?_, x.hpL, x.hL⟩
  · obtain ⟨sl, e', r⟩ := x.at_.keep b o e
    exact ⟨sl, hk b _ (fun q => by rw [(hw b q).1] at e; cases e) e', r⟩
  · obtain ⟨i, z⟩ := x.at_.own a X e
    obtain ⟨o', ho'⟩ := i.there
    exact ⟨i.of_eq ((hk a o' (fun q => by rw [(hw a q).2.1] at e; cases e) ho').trans ho'.symm), z⟩
  · refine withGoal fun goalX goalBack => ?_
    obtain ⟨m, ⟨o, es, ep, ho, r⟩, hm⟩ := x.loc
    refine goalBack ?_
    clear goalBack goalX
    exact ⟨m, ⟨o, es, ep, hk L o (fun q => (hw L q).2.2 rfl) ho, r⟩, hm⟩
end

theorem Walks.imp {prog : Program} {w : World} {A : Around} {I : Addr} {fp wr : List Addr} {n : Nat} {P P' : Nat → PySem.Value → Prop} {St : Nat → Heap → Prop} (W : Walks prog w A I fp wr n P St) (h : ∀ i v, i < n → P i v → P' i v) : Walks prog w A I fp wr n P' St :=
  ⟨W.sub, W.frame, fun i s Q E hi st k => W.item i s Q E hi st fun v h' tk p => k v h' tk (h i v hi p), W.done, W.self⟩

/-- a thing that can be gone through: during the walk the heap is hp₂, afterwards it is given back -/
structure Src (g : Gd) (a : AV) (hp hp₂ : HP) (xs : List AV) (back : HP → HP) : Prop where
  sub : ∀ b, hp b = none → hp₂ b = none
  bk : ∀ b hp', hp b = none → hp' b = none → back hp' b = none
  go : ∀ (A : Around) (E : PySem.Value → Shared → Prop) (h₀ : Heap) (s : Shared) (v : PySem.Value) (Q : PySem.Value → Shared → Prop), A.handled = none → At g (SA A) h₀ hp s → a.Is v →
    (∀ I fp wr St s₂, (∀ A' : Around, A'.handled = none → Walks pg g.w A' I fp wr xs.length (fun i v => ∃ x, xs[i]? = some x ∧ x.Is v) St) → St 0 s₂.heap → At g (SA A) h₀ hp₂ s₂ →
      (∀ b ∈ fp, hp₂ b = none ∧ (s.heap.get? b = none ∨ (hp b).isSome)) → (∀ i h, St i h → ∀ b ∈ fp, ∃ o, h.get? b = some o) → (∀ b o, s.heap.get? b = some o → s₂.heap.get? b = some o) →
      (∀ s' hp', At g (SA A) h₀ hp' s' → (∀ b o, b ∈ fp → b ∉ wr → s₂.heap.get? b = some o → s'.heap.get? b = some o) → At g (SA A) h₀ (back hp') s') → Q (.ref I) s₂) →
    wpAny (model pg g.w) A (pyIter v) Q E s

/-- what was lent to the walk is still away -/
noncomputable def Lent (h₁ hp₂ h : HP) : Prop := ∀ b, (h₁ b).isSome = true → hp₂ b = none → h b = none
noncomputable def LoopQ (Jn : Loc → HP → Prop) (Q : AF → Loc → HP → Prop) (back : HP → HP) : AF → Loc → HP → Prop
  | .next, l, h => Jn l h
  | .cont, l, h => Jn l h
  | .brk, l, h => Q .next l (back h)
  | .ret v, l, h => Q (.ret v) l (back h)

section
variable {g : Gd} {n : Nat} {env : Env} {loc : Loc} {hp : HP}
theorem EX_ForG {x : PySem.Str} {px pos : Pos} {iter : PySem.Expr} {body : List Stmt} {Q : AF → Loc → HP → Prop} 
    (h : EV g n env iter loc hp fun a l₁ h₁ => ∃ hp₂ xs back, Src g a h₁ hp₂ xs back ∧ ∃ J : Nat → Loc → HP → Prop, J 0 l₁ hp₂ ∧
      (∀ i v l h, xs[i]? = some v → J i l h → Lent h₁ hp₂ h → ∀ u, v.Is u → UN g n env.locals (storeName env x u) l h fun l h => XS g n env body l h (LoopQ (J (i + 1)) Q back)) ∧
      (∀ l h, J xs.length l h → Lent h₁ hp₂ h → Q .next l (back h)))
    (hs : ∀ x, foldedSetIterable iter env x = pure x) (hg : g.hn = true := by first | with_reducible assumption | exact Gnd.hn (by with_reducible assumption)) : EX g n env (.For (.Name x px) iter body [] pos) loc hp Q := by
  intro A E h₀ s c y
  refine wpAny_For (wpAny_mono (h A E h₀ s c y) (fun v s₁ hh => ?_) fun V V e => e) hs
  refine out3 hh fun a l₁ h₁ ra y₁ hQ => ?_
  refine withGoal fun goalX goalBack => ?_
  obtain ⟨hp₂, xs, back, S, J, hJ0, step, fin⟩ := hQ
  refine goalBack ?_
  clear goalBack goalX
  refine S.go A E h₀ s₁ v _ (c.handled hg) y₁.at_ ra fun I fp wr St s₂ W hst y₂ hfp hthere hext hback => ?_
  have fp0 : ∀ b ∈ fp, h₀.get? b = none ∧ b ≠ env.locals := fun b hb => by
    obtain ⟨_, h2⟩ := hfp b hb
    refine withGoal fun goalX goalBack => ?_
    obtain ⟨m, ⟨o, es, ep, ho, r⟩, hm⟩ := y₁.loc
    refine goalBack ?_
    clear goalBack goalX
    rcases h2 with h2 | h2
    · refine ⟨?_, by rintro rfl; rw [h2] at ho; cases ho⟩
      cases z : h₀.get? b with
      | none => rfl
      | some o => obtain ⟨sl, e', _⟩ := y₁.at_.keep b o z; rw [h2] at e'; cases e'
    · obtain ⟨X, hX⟩ := Option.isSome_iff_exists.mp h2
      exact ⟨(y₁.at_.own b X hX).2, by rintro rfl; rw [y₁.hpL] at hX; cases hX⟩
  have ln0 : ∀ b, (h₁ b).isSome = true → h₀.get? b = none ∧ b ≠ env.locals ∧ ∃ o, s₁.heap.get? b = some o := fun b hb => by
    obtain ⟨X, hX⟩ := Option.isSome_iff_exists.mp hb
    exact ⟨(y₁.at_.own b X hX).2, (by rintro rfl; rw [y₁.hpL] at hX; cases hX), (y₁.at_.own b X hX).1.there⟩
  have z₂ : AtB g (SA A) h₀ env.locals l₁ hp₂ s₂ := ⟨y₂, (by
    refine withGoal fun goalX goalBack => ?_
    obtain ⟨m, ⟨o, es, ep, ho, r⟩, hm⟩ := y₁.loc
    refine goalBack ?_
    clear goalBack goalX
    exact ⟨m, ⟨o, es, ep, hext _ _ ho, r⟩, hm⟩), S.sub _ y₁.hpL, y₁.hL⟩
  have done : ∀ s' l' hp' (b : AF) f, AtB g (SA A) h₀ env.locals l' hp' s' → (∀ b o, b ∈ fp → b ∉ wr → s₂.heap.get? b = some o → s'.heap.get? b = some o) → b.Is f → Q b l' (back hp') →
      ∃ b loc' hp', AF.Is b f ∧ AtB g (SA A) h₀ env.locals loc' hp' s' ∧ Q b loc' hp' := fun s' l' hp' b f z hk r q =>
    ⟨b, l', back hp', r, ⟨hback s' hp' z.at_ hk, z.loc, S.bk _ _ y₁.hpL z.hpL, z.hL⟩, q⟩
  obtain ⟨Inv, hI⟩ : ∃ Inv : Nat → Shared → Prop, ∀ k s', Inv k s' ↔ (∃ i l' hp', St i s'.heap ∧ AtB g (SA A) h₀ env.locals l' hp' s' ∧ J i l' hp' ∧ (∀ b ∈ fp, hp' b = none) ∧ (∀ b o, b ∈ fp → b ∉ wr → s₂.heap.get? b = some o → s'.heap.get? b = some o) ∧
      (∀ b, (h₁ b).isSome = true → hp₂ b = none → hp' b = none ∧ ∃ o, s'.heap.get? b = some o) ∧ i ≤ xs.length ∧ k = xs.length + 1 - i) := ⟨_, fun V V => Iff.rfl⟩
  refine codeAny_forLoop Inv ?_ (xs.length + 1) ((hI _ _).mpr
    ⟨0, l₁, hp₂, hst, z₂, hJ0, fun b hb => (hfp b hb).1, fun V V V V e => e, fun b hb e => ⟨e, let ⟨o, ho⟩ := (ln0 b hb).2.2; ⟨o, hext _ _ ho⟩⟩, Nat.zero_le _, rfl⟩)
  intro k s' hh
  refine withGoal fun goalX goalBack => ?_
  obtain ⟨i, l', hp', hst', z, hJ, hpf, hk, hln, hi, rfl⟩ := (hI k s').mp hh
  refine goalBack ?_
  clear goalBack goalX
  clear hh
  have WA := W A (c.handled hg)
  by_cases hlt : i < xs.length
  · refine wpAny_with_toks z.at_.tok (WA.item i s' _ _ hlt hst' fun v h' tk ⟨x', hx, hv⟩ hst₁ hk₁ htk => ?_)
    have z' := z.turned htk (fun b => b ∈ wr) (fun b o hb e => hk₁ b o hb e) (fun b hb => ⟨(fp0 b (WA.sub b hb)).1, hpf b (WA.sub b hb), (fp0 b (WA.sub b hb)).2⟩)
    refine withGoal fun goalX goalBack => ?_
    obtain ⟨h₁', c₁, w₁, out⟩ := z'.frame c
    refine goalBack ?_
    clear goalBack goalX
    refine wpAny_assign_Name (wpAny_mono (step i x' l' hp' hx hJ (fun b hb e => (hln b hb e).1) v hv A _ h₁' _ c₁ w₁) (fun V s₃ hh => ?_) fun V V e => e)
    refine out3 hh fun V l₃ hp₃ V w₃ k₃ => ?_
    refine wpAny_mono (k₃ A _ h₁' s₃ c₁ w₃) (fun f s₄ hh => ?_) fun V V e => e
    refine out3 hh fun af l₄ hp₄ rf w₄ q₄ => ?_
    obtain ⟨z₄, kept⟩ := out l₄ hp₄ s₄ w₄
    have hst₄ : St (i + 1) s₄.heap := WA.frame _ _ _ hst₁ fun b hb o e => (kept b o (hpf b hb) (fp0 b hb).2 (fp0 b hb).1 e).2
    have hk₄ : ∀ b o, b ∈ fp → b ∉ wr → s₂.heap.get? b = some o → s₄.heap.get? b = some o := fun b o hb hw e => (kept b o (hpf b hb) (fp0 b hb).2 (fp0 b hb).1 (hk₁ b o hw (hk b o hb hw e))).2
    have hpf₄ : ∀ b ∈ fp, hp₄ b = none := fun b hb => let ⟨o, ho⟩ := hthere _ _ hst₁ b hb; (kept b o (hpf b hb) (fp0 b hb).2 (fp0 b hb).1 ho).1
    have hln₄ : ∀ b, (h₁ b).isSome = true → hp₂ b = none → hp₄ b = none ∧ ∃ o, s₄.heap.get? b = some o := fun b hb e => by
      refine withGoal fun goalX goalBack => ?_
      obtain ⟨e1, o, ho⟩ := hln b hb e
      refine goalBack ?_
      clear goalBack goalX
      have : ∃ o, h'.get? b = some o := by
        by_cases hw : b ∈ wr
        · exact hthere _ _ hst₁ b (WA.sub b hw)
        · exact ⟨o, hk₁ b o hw ho⟩
      obtain ⟨o', ho'⟩ := this
      have := kept b o' e1 (ln0 b hb).2.1 (ln0 b hb).1 ho'
      exact ⟨this.1, o', this.2⟩
    cases af with
    | next => cases rf; exact ⟨xs.length + 1 - (i + 1), by omega, (hI _ _).mpr ⟨i + 1, l₄, hp₄, hst₄, z₄, q₄, hpf₄, hk₄, hln₄, hlt, rfl⟩⟩
    | cont => cases rf; exact ⟨xs.length + 1 - (i + 1), by omega, (hI _ _).mpr ⟨i + 1, l₄, hp₄, hst₄, z₄, q₄, hpf₄, hk₄, hln₄, hlt, rfl⟩⟩
    | brk => cases rf; exact done s₄ l₄ hp₄ .next _ z₄ hk₄ rfl q₄
    | ret v => obtain ⟨v', rfl, hv'⟩ := rf; exact done s₄ l₄ hp₄ (.ret v) _ z₄ hk₄ ⟨v', rfl, hv'⟩ q₄
  · have hin : i = xs.length := by omega
    subst hin
    refine wpAny_with_toks z.at_.tok (WA.done s' _ _ hst' fun h' tk hk₁ htk => wpAny_execs_nil ?_)
    have z' := z.turned htk (fun b => b ∈ wr) (fun b o hb e => hk₁ b o hb e) (fun b hb => ⟨(fp0 b (WA.sub b hb)).1, hpf b (WA.sub b hb), (fp0 b (WA.sub b hb)).2⟩)
    exact ⟨.next, l', back hp', rfl, ⟨hback _ hp' z'.at_ fun b o hb hw e => hk₁ b o hw (hk b o hb hw e), z'.loc, S.bk _ _ y₁.hpL z'.hpL, z'.hL⟩, fin l' hp' hJ fun b hb e => (hln b hb e).1⟩
theorem EX_For {x : PySem.Str} {px pos : Pos} {iter : PySem.Expr} {body : List Stmt} {Q : AF → Loc → HP → Prop} 
    (h : EV g n env iter loc hp fun a l₁ h₁ => ∃ hp₂ xs back, Src g a h₁ hp₂ xs back ∧ ∃ J : Nat → Loc → HP → Prop, J 0 l₁ hp₂ ∧
      (∀ i v l h, xs[i]? = some v → J i l h → ∀ u, v.Is u → UN g n env.locals (storeName env x u) l h fun l h => XS g n env body l h (LoopQ (J (i + 1)) Q back)) ∧
      (∀ l h, J xs.length l h → Q .next l (back h)))
    (hs : ∀ x, foldedSetIterable iter env x = pure x := by intro _; rfl) (hg : g.hn = true := by first | with_reducible assumption | exact Gnd.hn (by with_reducible assumption)) : EX g n env (.For (.Name x px) iter body [] pos) loc hp Q :=
  EX_ForG (WB.mono h fun V V V ⟨hp₂, xs, back, S, J, h0, step, fin⟩ => ⟨hp₂, xs, back, S, J, h0, fun i v l h a b V => step i v l h a b, fun l h a V => fin l h a⟩) hs hg
end
end Mine
end
section
open PySem PySem.W PySem.Calls PyProof.Rows
namespace Mine
theorem Vs.getR : ∀ {xs : List AV} {vs : List PySem.Value} {i : Nat} {v : PySem.Value}, Vs xs vs → vs[i]? = some v → ∃ x, xs[i]? = some x ∧ x.Is v
  | [], [], _, _, _, e => by simp at e
  | [], _ :: _, _, _, h, _ => h.elim
  | _ :: _, [], _, _, h, _ => h.elim
  | x :: _, _ :: _, 0, _, h, e => ⟨x, rfl, by simp only [List.getElem?_cons_zero, Option.some.injEq] at e; rw [← e]; exact h.1⟩
  | _ :: _, _ :: _, i + 1, _, h, e => by
    obtain ⟨v, hv, hi⟩ := Vs.getR (i := i) h.2 (by simpa using e)
    exact ⟨v, by simpa using hv, hi⟩

noncomputable def rangeO (k : Nat) : AO := .raw fun o => ∃ t u v, o = { cls := .type "range", data := .fields #[.int 0 t, .int (k : Int) u, .int 1 v] }
theorem HP.del_ne {hp : HP} {a b : Addr} (h : b ≠ a) : (hp.del a) b = hp b := if_neg h
@[simp] theorem HP.del_self (hp : HP) (a : Addr) : (hp.del a) a = none := if_pos rfl
theorem HP.del_sub (hp : HP) (a : Addr) : (hp.del a).Sub hp := fun b X e => by
  by_cases q : b = a
  · subst q; rw [HP.del_self] at e; cases e
  · rw [HP.del_ne q] at e; exact e
theorem HP.del_none {hp : HP} {a b : Addr} (h : hp b = none) : (hp.del a) b = none := by
  by_cases q : b = a
  · subst q; simp
  · rw [HP.del_ne q, h]

section
variable {g : Gd} {hp : HP}
/-- an object is given back to its owner -/
theorem At.give {S : List Addr} {h₀ : Heap} {s : Shared} {l : Addr} {X : AO} {hp' : HP} (x : At g S h₀ hp' s) (hX : X.In g.w s.heap l) (h0 : h₀.get? l = none) : At g S h₀ (hp'.set l X) s := by
  refine ⟨x.keep, fun a Y e => ?_, x.gens, x.os, x.tok⟩
  by_cases q : a = l
  · subst q; rw [HP.set_self] at e; cases e; exact ⟨hX, h0⟩
  · rw [HP.set_ne q] at e; exact x.own a Y e
theorem Src.list {l : Addr} {xs : List AV} (hl : hp l = some (.list xs)) : Src g (.ref l) hp (hp.del l) xs (fun h => h.set l (.list xs)) := by
  refine ⟨fun b e => HP.del_none e, fun b hp' e e' => ?_, fun A E h₀ s v Q hh x hv k => ?_⟩
  · rw [HP.set_ne (by rintro rfl; rw [hl] at e; cases e)]; exact e'
  obtain ⟨t, rfl⟩ := hv
  refine withGoal fun goalX goalBack => ?_
  obtain ⟨items, m, ho, it, hi, hz⟩ := list_at x hl
  refine goalBack ?_
  clear goalBack goalX
  have hne : l ≠ s.heap.objs.size := Nat.ne_of_lt (Heap.lt_size ho)
  refine wpAny_pyIter_list it (k _ [s.heap.objs.size, l] [s.heap.objs.size] (fun i h => h.IsListIter s.heap.objs.size l i ∧ h.IsList l items) _ (fun A' hh' => ?_) ⟨⟨_, Heap.get?_push_size _ rfl, rfl, rfl⟩, _, Heap.get?_push_of_some _ ho, rfl, m, rfl⟩
    ((x.push0 _).sub (HP.del_sub hp l)) (fun b hb => ?_) (fun i h st b hb => ?_) (fun b o e => Heap.get?_push_of_some _ e) fun s' hp' y hk => y.give ?_ (x.own l _ hl).2)
  · rw [← hz]; exact Walks.imp (PySem.Walks.list hh' _ l hne items) fun i v V e => hi.getR (by simpa using e)
  · rcases List.mem_cons.mp hb with rfl | hb
    · exact ⟨HP.del_none x.freshP, .inl (by cases q : s.heap.get? s.heap.objs.size with | none => rfl | some o => exact absurd (Heap.lt_size q) (Nat.lt_irrefl _))⟩
    · simp at hb; subst hb; exact ⟨by simp, .inr (by rw [hl]; rfl)⟩
  · rcases List.mem_cons.mp hb with rfl | hb
    · obtain ⟨o, ho, _⟩ := st.1; exact ⟨o, ho⟩
    · simp at hb; subst hb; obtain ⟨o, ho, _⟩ := st.2; exact ⟨o, ho⟩
  · exact ⟨items, m, hk l _ (by simp) (by simp [hne]) (Heap.get?_push_of_some _ ho), hi⟩
theorem Src.tuple {l : Addr} {xs : List AV} (hl : hp l = some (.tuple xs)) : Src g (.ref l) hp (hp.del l) xs (fun h => h.set l (.tuple xs)) := by
  refine ⟨fun b e => HP.del_none e, fun b hp' e e' => ?_, fun A E h₀ s v Q hh x hv k => ?_⟩
  · rw [HP.set_ne (by rintro rfl; rw [hl] at e; cases e)]; exact e'
  obtain ⟨t, rfl⟩ := hv
  refine withGoal fun goalX goalBack => ?_
  obtain ⟨items, m, ho, it, hi, hz⟩ := tuple_at x hl
  refine goalBack ?_
  clear goalBack goalX
  have hne : l ≠ s.heap.objs.size := Nat.ne_of_lt (Heap.lt_size ho)
  refine wpAny_pyIter_tuple it (k _ [s.heap.objs.size, l] [s.heap.objs.size] (fun i h => h.IsTupleIter s.heap.objs.size l i ∧ h.IsTuple l items) _ (fun A' hh' => ?_) ⟨⟨_, Heap.get?_push_size _ rfl, rfl, rfl⟩, _, Heap.get?_push_of_some _ ho, rfl, m, rfl⟩
    ((x.push0 _).sub (HP.del_sub hp l)) (fun b hb => ?_) (fun i h st b hb => ?_) (fun b o e => Heap.get?_push_of_some _ e) fun s' hp' y hk => y.give ?_ (x.own l _ hl).2)
  · rw [← hz]; exact Walks.imp (PySem.Walks.tuple hh' _ l hne items) fun i v V e => hi.getR (by simpa using e)
  · rcases List.mem_cons.mp hb with rfl | hb
    · exact ⟨HP.del_none x.freshP, .inl (by cases q : s.heap.get? s.heap.objs.size with | none => rfl | some o => exact absurd (Heap.lt_size q) (Nat.lt_irrefl _))⟩
    · simp at hb; subst hb; exact ⟨by simp, .inr (by rw [hl]; rfl)⟩
  · rcases List.mem_cons.mp hb with rfl | hb
    · obtain ⟨o, ho, _⟩ := st.1; exact ⟨o, ho⟩
    · simp at hb; subst hb; obtain ⟨o, ho, _⟩ := st.2; exact ⟨o, ho⟩
  · exact ⟨items, m, hk l _ (by simp) (by simp [hne]) (Heap.get?_push_of_some _ ho), hi⟩
noncomputable def rng (k : Nat) : List AV := (List.range k).map fun i : Nat => .int (i : Int)
theorem Src.range {l : Addr} {k : Nat} (hl : hp l = some (rangeO k)) (hk : k ≤ 8) : Src g (.ref l) hp (hp.del l) (rng k) (fun h => h) := by
  refine ⟨fun b e => HP.del_none e, fun b hp' e e' => e', fun A E h₀ s v Q hh x hv K => ?_⟩
  obtain ⟨t, rfl⟩ := hv
  refine withGoal fun goalX goalBack => ?_
  obtain ⟨o, ho, t, u, v, rfl⟩ := (x.own l _ hl).1
  refine goalBack ?_
  clear goalBack goalX
  have hsm : Builtin.Range.small 0 (k : Int) 1 = true := by
    have : k = 0 ∨ k = 1 ∨ k = 2 ∨ k = 3 ∨ k = 4 ∨ k = 5 ∨ k = 6 ∨ k = 7 ∨ k = 8 := by lia
    rcases this with rfl | rfl | rfl | rfl | rfl | rfl | rfl | rfl | rfl <;> decide +kernel
  have hsz : Builtin.Range.rangeSize 0 (k : Int) 1 = k := by
    have : k = 0 ∨ k = 1 ∨ k = 2 ∨ k = 3 ∨ k = 4 ∨ k = 5 ∨ k = 6 ∨ k = 7 ∨ k = 8 := by lia
    rcases this with rfl | rfl | rfl | rfl | rfl | rfl | rfl | rfl | rfl <;> decide +kernel
  refine wpAny_pyIter_range ho hsm (K _ [s.heap.objs.size] [s.heap.objs.size] (fun i h => IsRangeIter h s.heap.objs.size (0 + (i : Nat) * 1) ((k : Int) - (i : Nat)) 1) _ (fun A' hh' => ?_) ?_
    ((x.push0 _).sub (HP.del_sub hp l)) (fun b hb => ?_) (fun i h st b hb => ?_) (fun b o e => Heap.get?_push_of_some _ e) fun s' hp' y hk => y)
  · rw [rng, List.length_map, List.length_range]
    exact Walks.imp (PySem.Walks.range hh' _ 0 1 k) fun i v hi ⟨t, e⟩ => ⟨.int (i : Int), by simp [hi], t, by rw [e]; simp [AV.val]⟩
  · show IsRangeIter _ _ _ _ _
    rw [hsz]
    have := Heap.get?_push_size s.heap (o := { cls := .type "range_iterator", data := .fields #[rawInt 0, rawInt (k : Int), rawInt 1] }) rfl
    simpa using this
  · simp at hb; subst hb
    exact ⟨HP.del_none x.freshP, .inl (by cases q : s.heap.get? s.heap.objs.size with | none => rfl | some o => exact absurd (Heap.lt_size q) (Nat.lt_irrefl _))⟩
  · simp at hb; subst hb; exact ⟨_, st⟩
end

noncomputable def WhileQ (J : Nat → Loc → HP → Prop) (k : Nat) (Q : AF → Loc → HP → Prop) : AF → Loc → HP → Prop
  | .next, l, h => ∃ m, m < k ∧ J m l h
  | .cont, l, h => ∃ m, m < k ∧ J m l h
  | .brk, l, h => Q .next l h
  | .ret v, l, h => Q (.ret v) l h
section
variable {g : Gd} {n : Nat} {env : Env} {loc : Loc} {hp : HP}
theorem EX_While {test : PySem.Expr} {body orelse : List Stmt} {pos : Pos} {Q : AF → Loc → HP → Prop} (J : Nat → Loc → HP → Prop) (k : Nat) (h0 : J k loc hp)
    (turn : ∀ k l h, J k l h → TT g n env test l h fun b l h => if b then XS g n env body l h (WhileQ J k Q) else XS g n env orelse l h Q) : EX g n env (.While test body orelse pos) loc hp Q := by
  intro A E h₀ s c y
  refine wpAny_While (codeAny_whileLoop (fun k s' => ∃ l' hp', AtB g (SA A) h₀ env.locals l' hp' s' ∧ J k l' hp') ?_ k ⟨loc, hp, y, h0⟩)
  rintro k s' ⟨l', hp', z, hJ⟩
  refine wpAny_mono (turn k l' hp' hJ A _ h₀ s' c z) (fun b s₂ hh => ?_) fun V V e => e
  refine out3 hh fun b' l₂ hp₂ hR z₂ q => ?_
  obtain rfl := hR
  cases b' with
  | false =>
    simp only [Bool.false_eq_true, if_false] at q ⊢
    exact wpAny_mono (q A _ h₀ s₂ c z₂) (fun f s₃ hh => hh) fun V V e => e
  | true =>
    simp only [if_true] at q ⊢
    refine wpAny_mono (q A _ h₀ s₂ c z₂) (fun f s₃ hh => ?_) fun V V e => e
    refine out3 hh fun af l₃ hp₃ rf z₃ q₃ => ?_
    cases af with
    | next => cases rf; obtain ⟨m, hm, j⟩ := q₃; exact ⟨m, hm, l₃, hp₃, z₃, j⟩
    | cont => cases rf; obtain ⟨m, hm, j⟩ := q₃; exact ⟨m, hm, l₃, hp₃, z₃, j⟩
    | brk => cases rf; exact ⟨.next, l₃, hp₃, rfl, z₃, q₃⟩
    | ret v => obtain ⟨v', rfl, hv'⟩ := rf; exact ⟨.ret v, l₃, hp₃, ⟨v', rfl, hv'⟩, z₃, q₃⟩
end
end Mine
end
section
open PySem PySem.W PySem.Calls PyProof.Rows
namespace Mine

/-- the closure of a comprehension -/
noncomputable def closL (cs : List (PySem.Str × Addr)) : List (PySem.Str × NameKind) → List (PySem.Str × Addr) → Option (List (PySem.Str × Addr))
  | [], acc => some acc
  | (x, k) :: r, acc => if k == .free then (match cs.lookup x with | some a => closL cs r ((x, a) :: acc) | none => none) else closL cs r acc
theorem closureFor_loop {env : Env} {cs : List (PySem.Str × Addr)} (hc : env.cells = cs) : ∀ (names : List (PySem.Str × NameKind)) (acc cl : List (PySem.Str × Addr)), closL cs names acc = some cl →
    (forIn names acc fun (p : PySem.Str × NameKind) (r : List (PySem.Str × Addr)) => if (p.2 == NameKind.free) = true then do let a ← cellOf env p.1; pure (ForInStep.yield ((p.1, a) :: r)) else pure (ForInStep.yield r) : Sem (List (PySem.Str × Addr))) = pure cl
  | [], acc, cl, h => by simp [closL] at h; subst h; rfl
  | (x, k) :: r, acc, cl, h => by
    unfold closL at h
    rw [List.forIn_cons]
    cases hk : (k == NameKind.free) with
    | true =>
      rw [hk, if_pos rfl] at h
      cases hx : cs.lookup x with
      | none => rw [hx] at h; cases h
      | some a =>
        rw [hx] at h
        have : cellOf env x = pure a := by unfold cellOf; rw [hc, hx]
        simp only [if_true, this, pure_bind]
        exact closureFor_loop hc r _ cl h
    | false =>
      rw [hk] at h
      simp only [Bool.false_eq_true, if_false, pure_bind] at h ⊢
      exact closureFor_loop hc r _ cl h
theorem closureFor_eq {env : Env} {scope : Scope} {cs cl : List (PySem.Str × Addr)} (hc : env.cells = cs) (h : closL cs scope.names [] = some cl) : closureFor scope env = pure cl := by
  have := closureFor_loop hc scope.names [] cl h
  simp only [closureFor]
  refine Eq.trans ?_ (this)
  simp only [bind_pure]

noncomputable def relN (nms : List (PySem.Str × NameKind)) (names : List (PySem.Str × NameKind)) : List (PySem.Str × NameKind) :=
  names.map fun p => if (p.2 == .free && nms.lookup p.1 == some .cell) then (p.1, .cell) else p
theorem FEnv.comp {env : Env} {nms : List (PySem.Str × NameKind)} {cs cl : List (PySem.Str × Addr)} (F : FEnv env nms cs) {scope : Scope} (hk : scope.kind = .function) (C : Addr) : FEnv (compEnvC scope cl C env) (relN nms scope.names) cl := by
  refine ⟨hk, F.glob, F.blt, fun x => ?_, rfl⟩
  show List.lookup x (relabel scope env).names = _
  congr 1
  unfold relabel relN
  simp only
  refine List.map_congr_left fun p V => ?_
  obtain ⟨a, k⟩ := p
  simp only [F.kind, F.look]
  simp

noncomputable abbrev TS (g : Gd) (n : Nat) (env : Env) (ifs : List PySem.Expr) (loc : Loc) (hp : HP) (Q : Bool → Loc → HP → Prop) : Prop :=
  WB g n env.locals (forIn ifs true fun c r => if r = true then do let ok ← isTrue c env (eval c env); pure (ForInStep.yield ok) else pure (ForInStep.yield r)) loc hp (Eq (α := Bool)) Q
section
variable {g : Gd} {n : Nat} {env : Env} {loc : Loc} {hp : HP}
theorem TS_nil {Q : Bool → Loc → HP → Prop} (q : Q true loc hp) : TS g n env [] loc hp Q := fun V V V V V x => wpAny_tests_nil ⟨true, loc, hp, rfl, x, q⟩
theorem TS_one {e : PySem.Expr} {Q : Bool → Loc → HP → Prop} (q : TT g n env e loc hp Q) : TS g n env [e] loc hp Q := fun A E h₀ s c x => wpAny_tests_one (q A E h₀ s c x)
end

/-- a walk under way, seen from the frame L -/
structure Wk (g : Gd) (A : Around) (h₀ : Heap) (L : Addr) (hp₂ : HP) (xs : List AV) (I : Addr) (fp wr : List Addr) (St : Nat → Heap → Prop) (s₂ : Shared) : Prop where
  W : Walks pg g.w A I fp wr xs.length (fun i v => ∃ x, xs[i]? = some x ∧ x.Is v) St
  st : St 0 s₂.heap
  fp0 : ∀ b ∈ fp, h₀.get? b = none ∧ b ≠ L
  fpn : ∀ b ∈ fp, hp₂ b = none
  there : ∀ i h, St i h → ∀ b ∈ fp, ∃ o, h.get? b = some o

section
variable {g : Gd} {n : Nat} {env : Env} {loc : Loc} {hp : HP}
/-- iter, and then the thing's iterator -/
theorem walk_at_src {A : Around} {E : PySem.Value → Shared → Prop} {h₀ : Heap} {s : Shared} {v : PySem.Value} {a : AV} {L : Addr} {hp₂ : HP} {xs : List AV} {back : HP → HP} {Q : PySem.Value → Shared → Prop}
    (hg : g.hn = true) (S : Src g a hp hp₂ xs back) (c : CxB g n A L h₀) (y₁ : AtB g (SA A) h₀ L loc hp s) (ra : a.Is v)
    (k : ∀ I fp wr St s₂, Wk g A h₀ L hp₂ xs I fp wr St s₂ → AtB g (SA A) h₀ L loc hp₂ s₂ →
      (∀ s' l' hp', AtB g (SA A) h₀ L l' hp' s' → (∀ b o, b ∈ fp → b ∉ wr → s₂.heap.get? b = some o → s'.heap.get? b = some o) → AtB g (SA A) h₀ L l' (back hp') s') → (∀ b o, s.heap.get? b = some o → s₂.heap.get? b = some o) → Q (.ref I) s₂) :
    wpAny (model pg g.w) A (pyIter v) Q E s := by
  refine S.go A E h₀ s v _ (c.handled hg) y₁.at_ ra fun I fp wr St s₂ W hst y₂ hfp hthere hext hback => ?_
  refine k I fp wr St s₂ ⟨W A (c.handled hg), hst, fun b hb => ?_, fun b hb => (hfp b hb).1, hthere⟩ ⟨y₂, ?_, S.sub _ y₁.hpL, y₁.hL⟩ (fun s' l' hp' z hk => ⟨hback s' hp' z.at_ hk, z.loc, S.bk _ _ y₁.hpL z.hpL, z.hL⟩) hext
  · obtain ⟨_, h2⟩ := hfp b hb
    refine withGoal fun goalX goalBack => ?_
    obtain ⟨m, ⟨o, es, ep, ho, r⟩, hm⟩ := y₁.loc
    refine goalBack ?_
    clear goalBack goalX
    rcases h2 with h2 | h2
    · refine ⟨?_, by rintro rfl; rw [h2] at ho; cases ho⟩
      cases z : h₀.get? b with
      | none => rfl
      | some o => obtain ⟨sl, e', _⟩ := y₁.at_.keep b o z; rw [h2] at e'; cases e'
    · obtain ⟨X, hX⟩ := Option.isSome_iff_exists.mp h2
      exact ⟨(y₁.at_.own b X hX).2, by rintro rfl; rw [y₁.hpL] at hX; cases hX⟩
  · refine withGoal fun goalX goalBack => ?_
    obtain ⟨m, ⟨o, es, ep, ho, r⟩, hm⟩ := y₁.loc
    refine goalBack ?_
    clear goalBack goalX
    exact ⟨m, ⟨o, es, ep, hext _ _ ho, r⟩, hm⟩

variable {nms : List (PySem.Str × NameKind)} {cs : List (PySem.Str × Addr)}
/-- what a comprehension's turns do: J i ys hp -/
noncomputable def CompStep (g : Gd) (n : Nat) (nms' : List (PySem.Str × NameKind)) (cl : List (PySem.Str × Addr)) (x : PySem.Str) (ifs : List PySem.Expr) (elt : PySem.Expr) (xs : List AV) (J : Nat → List AV → HP → Prop) : Prop :=
  ∀ i v ys h cenv, xs[i]? = some v → J i ys h → FEnv cenv nms' cl → h cenv.locals = none → TS g n cenv ifs [(x, v)] h fun b l h => if b then EV g n cenv elt l h fun y V h => J (i + 1) (ys ++ [y]) h else J (i + 1) ys h

theorem comp_block {A : Around} {E : PySem.Value → Shared → Prop} {h₀ : Heap} {elt iter : PySem.Expr} {x : PySem.Str} {px : Pos} {ifs : List PySem.Expr} {scope : Scope} {cl : List (PySem.Str × Addr)} {pos : Pos} {s₂ : Shared} {hp₂ : HP} {xs : List AV}
    {I : Addr} {fp wr : List Addr} {St : Nat → Heap → Prop} {RR : PySem.Value → Addr → Result → Shared → Prop} {J : Nat → List AV → HP → Prop}
    (F : FEnv env nms cs) (c : CxB g n A env.locals h₀) (K : Wk g A h₀ env.locals hp₂ xs I fp wr St s₂) (y₂ : AtB g (SA A) h₀ env.locals loc hp₂ s₂)
    (hcell : ∀ y ∈ scope.names, y.2 ≠ .cell) (hkind : scope.kind = .function) (hx : scope.names.lookup x = some .local) (hsz : xs.length ≤ 100000) (hJ0 : J 0 [] hp₂)
    (step : CompStep g n (relN nms scope.names) cl x ifs elt xs J)
    (hRR : ∀ D C s' ys hp', AtB g (SA A) h₀ env.locals loc hp' s' → J xs.length ys hp' → (∃ m, s'.heap.Ns C m) → (∃ items m, s'.heap.get? D = some { cls := .type "list", data := .seq items m } ∧ Vs ys items.toList) →
      hp' D = none → h₀.get? D = none → D ≠ env.locals → hp' C = none → h₀.get? C = none → C ≠ env.locals → D ≠ C → C ∉ fp → s₂.heap.get? D = none → s₂.heap.get? C = none → (∀ b o, b ∈ fp → b ∉ wr → s₂.heap.get? b = some o → s'.heap.get? b = some o) → RR (.ref D) C (.ok .next) s') :
    wpAny (model pg g.w) A (newList []) (fun acc s₃ => wpAny (model pg g.w) A (newFunctionEnv scope env.globals cl [] env.qual none .none (some env)) (fun cenv s₄ =>
      codeAny (model pg g.w) A (.compStart (.ListComp elt [⟨.Name x px, iter, ifs, 0⟩] scope pos) 0 (.ref I) acc { cenv with scope := relabel scope env }) (RR acc cenv.locals) s₄) E s₃) E s₂ := by
  refine wpAny_newObj_type (wpAny_newFunctionEnv hcell (by intro y hy; simp at hy) (fun h₁ hns₁ hsb₁ => ?_) hkind)
  dsimp only at hns₁ hsb₁ ⊢
  generalize hH2 : s₂.heap.push { cls := .type "list", dict := none, data := .seq ([] : List PySem.Value).toArray } = H2 at hns₁ hsb₁ ⊢
  have hC : H2.objs.size = s₂.heap.objs.size + 1 := by rw [← hH2, Heap.size_push]
  have hDC : s₂.heap.objs.size ≠ H2.objs.size := by rw [hC]; exact Nat.ne_of_lt (Nat.lt_succ_self _)
  have below : ∀ b, b < s₂.heap.objs.size → b ≠ H2.objs.size ∧ b ≠ s₂.heap.objs.size := fun b hb => ⟨by rw [hC]; exact Nat.ne_of_lt (Nat.lt_succ_of_lt hb), Nat.ne_of_lt hb⟩
  have old : ∀ b o, s₂.heap.get? b = some o → h₁.get? b = some o := fun b o e => hsb₁.extBut b o (below b (Heap.lt_size e)).1 (Heap.get?_push_of_some _ (hH2 ▸ Heap.get?_push_of_some _ e))
  have hacc : h₁.PlainList s₂.heap.objs.size #[] := ⟨_, hsb₁.extBut _ _ hDC (Heap.get?_push_of_some _ (hH2 ▸ Heap.get?_push_size _ rfl))⟩
  have fresh : ∀ a, s₂.heap.objs.size ≤ a → s₂.heap.get? a = none := fun a ha => by
    cases e : s₂.heap.get? a with
    | none => rfl
    | some o' => exact absurd (Heap.lt_size e) (Nat.not_lt.mpr ha)
  have new : ∀ a, s₂.heap.objs.size ≤ a → hp₂ a = none ∧ h₀.get? a = none ∧ a ≠ env.locals ∧ a ∉ fp := fun a ha => by
    refine ⟨?_, ?_, ?_, fun hf => ?_⟩
    · cases q : hp₂ a with
      | none => rfl
      | some X => obtain ⟨o, e⟩ := (y₂.at_.own _ _ q).1.there; rw [fresh a ha] at e; cases e
    · cases q : h₀.get? a with
      | none => rfl
      | some o => obtain ⟨sl, e, _⟩ := y₂.at_.keep a o q; rw [fresh a ha] at e; cases e
    · rintro rfl; obtain ⟨m, ⟨o, es, ep, ho, r⟩, hm⟩ := y₂.loc; rw [fresh _ ha] at ho; cases ho
    · obtain ⟨o, ho⟩ := K.there _ _ K.st a hf; rw [fresh a ha] at ho; cases ho
  have hDle : s₂.heap.objs.size ≤ s₂.heap.objs.size := Nat.le_refl _
  have hCle : s₂.heap.objs.size ≤ H2.objs.size := by rw [hC]; exact Nat.le_succ _
  have hDfr := fresh _ hDle
  generalize s₂.heap.objs.size = D at *
  have hCfr := fresh _ hCle
  generalize H2.objs.size = C at *
  refine withGoal fun goalX goalBack => ?_
  obtain ⟨hD2, hD0, hDL, hDf⟩ := new D hDle
  refine goalBack ?_
  clear goalBack goalX
  refine withGoal fun goalX goalBack => ?_
  obtain ⟨hC2, hC0, hCL, hCf⟩ := new C hCle
  refine goalBack ?_
  clear goalBack goalX
  have hk : (compEnvC scope cl C env).locals = C := rfl
  have FC : FEnv (compEnvC scope cl C env) (relN nms scope.names) cl := F.comp hkind C
  have hCw : C ∉ wr := fun h => hCf (K.W.sub _ h)
  have hDw : D ∉ wr := fun h => hDf (K.W.sub _ h)
  have loop : ∀ s₃ : Shared, s₃ = { s₂ with heap := h₁, toks := s₂.toks + ([] : List (PySem.Str × PySem.Value)).length } →
      codeAny (model pg g.w) A (.compLoop (.ListComp elt [⟨.Name x px, iter, ifs, 0⟩] scope pos) 0 (.ref I) (.ref D) (compEnvC scope cl C env)) (RR (.ref D) C) s₃ := by
    rintro s₃ rfl
    obtain ⟨Inv, hI⟩ : ∃ Inv : Nat → Shared → Prop, ∀ k s', Inv k s' ↔ (∃ i ys hp', St i s'.heap ∧ AtB g (SA A) h₀ env.locals loc hp' s' ∧ J i ys hp' ∧ (∃ m, s'.heap.Ns C m) ∧ (∃ items, s'.heap.PlainList D items ∧ Vs ys items.toList) ∧ ys.length ≤ i ∧
        hp' D = none ∧ hp' C = none ∧ (∀ b ∈ fp, hp' b = none) ∧ (∀ b o, b ∈ fp → b ∉ wr → s₂.heap.get? b = some o → s'.heap.get? b = some o) ∧ i ≤ xs.length ∧ k = xs.length + 1 - i) := ⟨_, fun V V => Iff.rfl⟩
    refine codeAny_compLoop_tests Inv ?_ (xs.length + 1) ((hI _ _).mpr
      ⟨0, [], hp₂, K.W.frame _ _ _ K.st fun b V o e => old b o e, y₂.turned y₂.at_.tok (fun V => False) (fun b o V e => old b o e) (fun V h => h.elim), hJ0, ⟨_, hns₁⟩, ⟨#[], hacc, trivial⟩, Nat.le_refl _, hD2, hC2, K.fpn, fun b o V V e => old b o e, Nat.zero_le _, rfl⟩)
    intro k s' hh
    refine withGoal fun goalX goalBack => ?_
    obtain ⟨i, ys, hp', hst', z, hJ, ⟨m, hm⟩, ⟨items, hit, hvs⟩, hly, hDn, hCn, hfn, hkp, hi, rfl⟩ := (hI k s').mp hh
    refine goalBack ?_
    clear goalBack goalX
    clear hh
    by_cases hlt : i < xs.length
    · refine wpAny_with_toks z.at_.tok (K.W.item i s' _ _ hlt hst' fun v h' tk ⟨x', hx', hv⟩ hst₁ hk₁ htk => ?_)
      have z' := z.turned htk (fun b => b ∈ wr) (fun b o hb e => hk₁ b o hb e) (fun b hb => ⟨(K.fp0 b (K.W.sub b hb)).1, hfn b (K.W.sub b hb), (K.fp0 b (K.W.sub b hb)).2⟩)
      have hm' : h'.Ns C m := hm.at' fun o e => hk₁ _ o hCw e
      refine withGoal fun goalX goalBack => ?_
      obtain ⟨h₁, c₁, w₁, out⟩ := z'.frameC c (C := C) (locC := []) hCn hC0 ⟨m, hm', fun V V e => by cases e⟩
      refine goalBack ?_
      clear goalBack goalX
      refine wpAny_assign_Name (wpAny_mono (ST_local (env := compEnvC scope cl C env) (Q := fun l h => l = [(x, x')] ∧ h = hp') hv ⟨rfl, rfl⟩ FC.kind (lookup_relabel_local hx) A _ h₁ _ c₁ w₁) (fun V s₃ hh => ?_) fun V V e => e)
      refine out3 hh fun V l₃ hp₃ V w₃ hQ => ?_
      obtain ⟨rfl, rfl⟩ := hQ
      refine wpAny_mono (step i x' ys hp₃ _ hx' hJ FC hCn A _ h₁ s₃ c₁ w₃) (fun ok s₄ hh => ?_) fun V V e => e
      refine out3 hh fun b l₄ hp₄ hR w₄ q₄ => ?_
      obtain rfl := hR
      have nextS : ∀ s₅ l₅ hp₅, AtB g (SA A) h₁ C l₅ hp₅ s₅ → St (i + 1) s₅.heap ∧ AtB g (SA A) h₀ env.locals loc hp₅ s₅ ∧ (∃ m, s₅.heap.Ns C m) ∧ s₅.heap.PlainList D items ∧ hp₅ D = none ∧ hp₅ C = none ∧ (∀ b ∈ fp, hp₅ b = none) ∧
          (∀ b o, b ∈ fp → b ∉ wr → s₂.heap.get? b = some o → s₅.heap.get? b = some o) := fun s₅ l₅ hp₅ w₅ => by
        obtain ⟨z₅, _, kept⟩ := out l₅ hp₅ s₅ w₅
        have kf : ∀ b o, b ∈ fp → h'.get? b = some o → hp₅ b = none ∧ s₅.heap.get? b = some o := fun b o hb e => kept b o (hfn b hb) (fun q => hCf (q ▸ hb)) (K.fp0 b hb).2 (K.fp0 b hb).1 e
        obtain ⟨nn, hDo⟩ := hit
        have hD' := kept D _ hDn hDC hDL hD0 (hk₁ D _ hDw hDo)
        refine ⟨K.W.frame _ _ _ hst₁ fun b hb o e => (kf b o hb e).2, z₅ hCL, ?_, ⟨nn, hD'.2⟩, hD'.1, w₅.hpL, fun b hb => ?_, fun b o hb hw e => (kf b o hb (hk₁ b o hw (hkp b o hb hw e))).2⟩
        · obtain ⟨m, hm, _⟩ := w₅.loc; exact ⟨m, hm⟩
        · obtain ⟨o, ho⟩ := K.there _ _ hst₁ b hb; exact (kf b o hb ho).1
      cases b with
      | false =>
        simp only [Bool.false_eq_true, if_false] at q₄ ⊢
        refine withGoal fun goalX goalBack => ?_
        obtain ⟨a1, a2, a3, a4, a5, a6, a7, a8⟩ := nextS s₄ l₄ hp₄ w₄
        refine goalBack ?_
        clear goalBack goalX
        exact ⟨xs.length + 1 - (i + 1), by omega, (hI _ _).mpr ⟨i + 1, ys, hp₄, a1, a2, q₄, a3, ⟨items, a4, hvs⟩, Nat.le_succ_of_le hly, a5, a6, a7, a8, hlt, rfl⟩⟩
      | true =>
        simp only [if_true] at q₄ ⊢
        refine wpAny_mono (q₄ A _ h₁ s₄ c₁ w₄) (fun y s₅ hh => ?_) fun V V e => e
        refine out3 hh fun ya l₅ hp₅ ry w₅ q₅ => ?_
        refine withGoal fun goalX goalBack => ?_
        obtain ⟨a1, a2, ⟨m5, a3⟩, a4, a5, a6, a7, a8⟩ := nextS s₅ l₅ hp₅ w₅
        refine goalBack ?_
        clear goalBack goalX
        have hisz : items.size ≤ sizeLine := by
          have := hvs.length
          rw [sizeLine_eq]; simp at this; omega
        refine wpAny_list_append_plain (hsz := hisz) a4 fun h₆ hl₆ hs₆ => ?_
        refine ⟨xs.length + 1 - (i + 1), by omega, (hI _ _).mpr ⟨i + 1, ys ++ [ya], hp₅, K.W.frame _ _ _ a1 fun b hb o e => hs₆.extBut b o (fun q => hDf (q ▸ hb)) e, ?_, q₅, ⟨m5, a3.sameBut hs₆ (Ne.symm hDC)⟩, ⟨items.push y, hl₆, ?_⟩, by simp; omega, a5, a6, a7, fun b o hb hw e => hs₆.extBut b o (fun q => hDf (q ▸ hb)) (a8 b o hb hw e), hlt, rfl⟩⟩
        · exact a2.turned a2.at_.tok (fun b => b = D) (fun b o hb e => hs₆.extBut b o hb e) (fun b hb => by subst hb; exact ⟨hD0, a5, hDL⟩)
        · rw [Array.toList_push]; exact hvs.append ⟨ry, trivial⟩
    · have hin : i = xs.length := by omega
      subst hin
      refine wpAny_with_toks z.at_.tok (K.W.done s' _ _ hst' fun h' tk hk₁ htk => ?_)
      have z' := z.turned htk (fun b => b ∈ wr) (fun b o hb e => hk₁ b o hb e) (fun b hb => ⟨(K.fp0 b (K.W.sub b hb)).1, hfn b (K.W.sub b hb), (K.fp0 b (K.W.sub b hb)).2⟩)
      obtain ⟨nn, hDo⟩ := hit
      exact hRR D C _ ys hp' z' hJ ⟨m, hm.at' fun o e => hk₁ _ o hCw e⟩ ⟨items, nn, hk₁ D _ hDw hDo, hvs⟩ hDn hD0 hDL hCn hC0 hCL hDC hCf hDfr hCfr fun b o hb hw e => hk₁ b o hw (hkp b o hb hw e)
  exact codeAny_compStart_list (loop _ rfl) (K.W.self 0 _ _ _ (K.W.frame _ _ _ K.st fun b V o e => old b o e) (loop _ rfl))

theorem EV_ListComp {elt iter : PySem.Expr} {x : PySem.Str} {px : Pos} {ifs : List PySem.Expr} {scope : Scope} {cl : List (PySem.Str × Addr)} {pos : Pos} {Q : AV → Loc → HP → Prop} (F : FEnv env nms cs)
    (hclos : closL cs scope.names [] = some cl) (hcell : (scope.names.all fun x => decide (x.2 ≠ .cell)) = true) (hkind : scope.kind = .function) (hnames : (scope.names.all fun x => decide (x.2 = .local → scope.names.lookup x.1 = some .local)) = true) (hx : scope.names.lookup x = some .local)
    (hs : ∀ x, foldedSetIterable iter env x = pure x)
    (h : EV g n env iter loc hp fun a l₁ h₁ => ∃ hp₂ xs back, Src g a h₁ hp₂ xs back ∧ xs.length ≤ 100000 ∧ ∃ J : Nat → List AV → HP → Prop, J 0 [] hp₂ ∧ CompStep g n (relN nms scope.names) cl x ifs elt xs J ∧
      ∀ ys h, J xs.length ys h → ∀ D, (back h) D = none → Q (.ref D) l₁ ((back h).set D (.list ys)))
    (hg : g.hn = true := by first | with_reducible assumption | exact Gnd.hn (by with_reducible assumption)) :
    EV g n env (.ListComp elt [⟨.Name x px, iter, ifs, 0⟩] scope pos) loc hp Q := by
  intro A E h₀ s c y
  rw [eval_ListComp]
  refine wpAny_comprehension_free (use := none) rfl hs (closureFor_eq F.cells hclos) hkind (fun z hz => of_decide_eq_true (List.all_eq_true.mp hnames z hz)) (wpAny_mono (h A E h₀ s c y) (fun v s₁ hh => ?_) fun V V e => e)
  refine out3 hh fun a l₁ h₁ ra y₁ hQ => ?_
  refine withGoal fun goalX goalBack => ?_
  obtain ⟨hp₂, xs, back, S, hsz, J, hJ0, step, fin⟩ := hQ
  refine goalBack ?_
  clear goalBack goalX
  refine walk_at_src hg S c y₁ ra fun I fp wr St s₂ K z₂ hback hext => ?_
  refine comp_block (RR := fun acc C => compPost (model pg g.w) A E none _ acc C) F c K z₂ (fun z hz => by simpa using List.all_eq_true.mp hcell z hz) hkind hx hsz hJ0 step ?_
  intro D C s' ys hp' z hJ hm hit hD hD0 hDL hC hC0 hCL hDC hCf hDf hCfr hk
  obtain ⟨m, hm⟩ := hm
  refine withGoal fun goalX goalBack => ?_
  obtain ⟨items, mm, hDo, hvs⟩ := hit
  refine goalBack ?_
  clear goalBack goalX
  refine ⟨m, hm, fun h'' hs'' => ?_⟩
  have z' := z.turned (h' := h'') (tk := s'.toks) z.at_.tok (fun b => b = C) (fun b o hb e => hs''.extBut b o hb e) (fun b hb => by subst hb; exact ⟨hC0, hC, hCL⟩)
  have z'' := hback _ _ _ z' fun b o hb hw e => hs''.extBut b o (fun q => hCf (q ▸ hb)) (hk b o hb hw e)
  have hbD : (back hp') D = none := S.bk D hp' (by
    cases q : h₁ D with
    | none => rfl
    | some X => obtain ⟨o, e⟩ := (y₁.at_.own D X q).1.there; have := hext _ _ e; rw [hDf] at this; cases this) hD
  exact ⟨.ref D, l₁, (back hp').set D (.list ys), ⟨0, rfl⟩, ⟨z''.at_.give ⟨items, mm, hs''.extBut D _ hDC hDo, hvs⟩ hD0, z''.loc, (HP.set_ne (Ne.symm hDL)).trans z''.hpL, z''.hL⟩, fin ys hp' hJ D hbD⟩

/-- x = [..], where the list is put away before the comprehension's own name is let go -/
theorem EX_Assign_ListComp {elt iter : PySem.Expr} {x y : PySem.Str} {px py : Pos} {ifs : List PySem.Expr} {scope : Scope} {cl : List (PySem.Str × Addr)} {pos spos : Pos} {Q : AF → Loc → HP → Prop} (F : FEnv env nms cs)
    (hsw : swapsWith (.ListComp elt [⟨.Name x px, iter, ifs, 0⟩] scope pos) (some (.Name y py)) spos.line env = pure true)
    (hclos : closL cs scope.names [] = some cl) (hcell : (scope.names.all fun x => decide (x.2 ≠ .cell)) = true) (hkind : scope.kind = .function) (hnames : (scope.names.all fun x => decide (x.2 = .local → scope.names.lookup x.1 = some .local)) = true) (hx : scope.names.lookup x = some .local)
    (hs : ∀ x, foldedSetIterable iter env x = pure x)
    (h : EV g n env iter loc hp fun a l₁ h₁ => ∃ hp₂ xs back, Src g a h₁ hp₂ xs back ∧ xs.length ≤ 100000 ∧ ∃ J : Nat → List AV → HP → Prop, J 0 [] hp₂ ∧ CompStep g n (relN nms scope.names) cl x ifs elt xs J ∧
      ∀ ys h, J xs.length ys h → ∀ D, (back h) D = none → ∀ v, (AV.ref D).Is v → UN g n env.locals (storeName env y v) l₁ ((back h).set D (.list ys)) fun l h => Q .next l h)
    (hg : g.hn = true := by first | with_reducible assumption | exact Gnd.hn (by with_reducible assumption)) :
    EX g n env (.Assign [.Name y py] (.ListComp elt [⟨.Name x px, iter, ifs, 0⟩] scope pos) spos) loc hp Q := by
  intro A E h₀ s c yy
  rw [exec_Assign_Name_used _ _ _ _ hsw]
  refine wpAny_bind (wpAny_standAt (wpAny_bind ?_))
  show wpAny _ A (do let _ ← comprehension (.ListComp elt [⟨.Name x px, iter, ifs, 0⟩] scope pos) scope env _ (newList []) false (eval iter env) (some (assign (.Name y py) env))) _ _ s
  refine wpAny_bind (wpAny_mono (wpAny_comprehension_free (use := some (assign (.Name y py) env)) (Q := fun V s' => ∃ b loc' hp', AF.Is b .next ∧ AtB g (SA A) h₀ env.locals loc' hp' s' ∧ Q b loc' hp') rfl hs (closureFor_eq F.cells hclos) hkind (fun z hz => of_decide_eq_true (List.all_eq_true.mp hnames z hz))
    (wpAny_mono (h A E h₀ s c yy) (fun v s₁ hh => ?_) fun V V e => e)) (fun V s' hq => wpAny_pure (wpAny_pure hq)) fun V V e => e)
  refine out3 hh fun a l₁ h₁ ra y₁ hQ => ?_
  refine withGoal fun goalX goalBack => ?_
  obtain ⟨hp₂, xs, back, S, hsz, J, hJ0, step, fin⟩ := hQ
  refine goalBack ?_
  clear goalBack goalX
  refine walk_at_src hg S c y₁ ra fun I fp wr St s₂ K z₂ hback hext => ?_
  refine comp_block (RR := fun acc C => compPost (model pg g.w) A E (some (assign (.Name y py) env)) _ acc C) F c K z₂ (fun z hz => by simpa using List.all_eq_true.mp hcell z hz) hkind hx hsz hJ0 step ?_
  intro D C s' ys hp' z hJ hm hit hD hD0 hDL hC hC0 hCL hDC hCf hDf hCfr hk
  obtain ⟨m, hm⟩ := hm
  refine withGoal fun goalX goalBack => ?_
  obtain ⟨items, mm, hDo, hvs⟩ := hit
  refine goalBack ?_
  clear goalBack goalX
  have z'' := hback _ _ _ z hk
  have fr : ∀ b, s₂.heap.get? b = none → hp' b = none → (back hp') b = none := fun b e e' => S.bk b hp' (by
    cases q : h₁ b with
    | none => rfl
    | some X => obtain ⟨o, e2⟩ := (y₁.at_.own b X q).1.there; have := hext _ _ e2; rw [e] at this; cases this) e'
  have hbD : (back hp') D = none := fr D hDf hD
  have z3 : AtB g (SA A) h₀ env.locals l₁ ((back hp').set D (.list ys)) s' := ⟨z''.at_.give ⟨items, mm, hDo, hvs⟩ hD0, z''.loc, (HP.set_ne (Ne.symm hDL)).trans z''.hpL, z''.hL⟩
  refine withGoal fun goalX goalBack => ?_
  obtain ⟨h₂, c₂, w₂, out⟩ := z3.frame c
  refine goalBack ?_
  clear goalBack goalX
  show wpAny _ A (assign (.Name y py) env (.ref D)) _ _ _
  refine wpAny_assign_Name (wpAny_mono (fin ys hp' hJ D hbD _ ⟨0, rfl⟩ A _ h₂ s' c₂ w₂) (fun V s₃ hh => ?_) fun V V e => e)
  refine out3 hh fun V l₃ hp₃ V w₃ q₃ => ?_
  obtain ⟨z₃, kept⟩ := out l₃ hp₃ s₃ w₃
  refine withGoal fun goalX goalBack => ?_
  obtain ⟨oC, esC, epC, hoC, hdC⟩ := id hm
  refine goalBack ?_
  clear goalBack goalX
  have hbC : ((back hp').set D (.list ys)) C = none := (HP.set_ne (Ne.symm hDC)).trans (fr C hCfr hC)
  have kC := kept C oC hbC hCL hC0 hoC
  refine ⟨m, ⟨oC, esC, epC, kC.2, hdC⟩, fun h'' hs'' => ⟨.next, l₃, hp₃, rfl, ?_, q₃⟩⟩
  exact z₃.turned (h' := h'') (tk := s₃.toks) z₃.at_.tok (fun b => b = C) (fun b o hb e => hs''.extBut b o hb e) (fun b hb => by subst hb; exact ⟨hC0, kC.1, hCL⟩)
end
end Mine
end
section
open PySem PySem.W PySem.Calls PyProof.Rows
namespace Mine
theorem iT {P R : Prop} (h : P) : if true = true then P else R := by rw [if_pos rfl]; exact h
theorem iF {P R : Prop} (h : R) : if false = true then P else R := by rw [if_neg (by decide)]; exact h
theorem iB {b : Bool} {P R : Prop} (h : b = true → P) (h' : b = false → R) : if b = true then P else R := by
  cases b with
  | true => exact iT (h rfl)
  | false => exact iF (h' rfl)

noncomputable def ndup : List PySem.Str → Bool
  | [] => true
  | x :: r => (!r.any (fun y => y == x)) && ndup r
theorem ndup_lookup {α : Type} : ∀ {l : List (PySem.Str × α)} {p : PySem.Str × α}, ndup (l.map (·.1)) = true → p ∈ l → l.lookup p.1 = some p.2
  | (x, a) :: r, p, h, hm => by
    simp only [List.map_cons, ndup, Bool.and_eq_true, Bool.not_eq_true'] at h
    rcases List.mem_cons.mp hm with rfl | hm
    · simp
    · have hne : (p.1 == x) = false := by
        have := List.any_eq_false.mp h.1 p.1 (List.mem_map.mpr ⟨p, hm, rfl⟩)
        simpa using this
      rw [List.lookup_cons, hne]
      exact ndup_lookup h.2 hm
/-- the part of the arguments that lies in the frame itself -/
noncomputable def locPart (nms : List (PySem.Str × NameKind)) : Loc → Loc
  | [] => []
  | (x, v) :: r => if nms.lookup x = some .local then locPart nms r ++ [(x, v)] else locPart nms r
noncomputable def cellHP (hp : HP) (bl : Loc) : List (PySem.Str × Addr) → HP
  | [] => hp
  | (x, c) :: r => (cellHP hp bl r).set c (.cell (lk x bl.reverse))

theorem lk_append (x : PySem.Str) : ∀ (l l' : Loc), lk x (l ++ l') = (lk x l).or (lk x l')
  | [], l' => by simp [lk]
  | (y, v) :: l, l' => by
    have e : ∀ r : Loc, lk x ((y, v) :: r) = match y == x with | true => some v | false => lk x r := fun r => by first | (rw [lk]; rfl) | rw [lk]
    rw [List.cons_append, e, e]
    cases h : y == x <;> simp [lk_append x l l']
theorem bindL_ok {kind : PySem.Str → Option NameKind} {nms : List (PySem.Str × NameKind)} (hk : ∀ x, kind x = nms.lookup x) : ∀ {bl : Loc} {binds : List (PySem.Str × PySem.Value)} {m : PySem.Str → Option PySem.Value} {x : PySem.Str} {a : AV}, Ps bl binds →
    (lk x (locPart nms bl) = some a → ∃ v, bindL kind binds m x = some v ∧ a.Is v) ∧ (lk x (locPart nms bl) = none → bindL kind binds m x = m x)
  | [], [], m, x, a, _ => ⟨fun h => by simp [locPart, lk] at h, fun V => rfl⟩
  | (y, b) :: bl, (z, v) :: binds, m, x, a, hp => by
    obtain ⟨h1, h2, h3⟩ := hp
    have h1 : y = z := h1
    subst h1
    unfold bindL locPart
    rw [hk y]
    by_cases hl : nms.lookup y = some .local
    · rw [if_pos hl, if_pos hl]
      obtain ⟨i1, i2⟩ := bindL_ok hk (m := fun y' => if y' = y then some v else m y') (x := x) (a := a) h3
      rw [lk_append]
      cases q : lk x (locPart nms bl) with
      | some a' =>
        refine ⟨fun h => ?_, fun h => by simp at h⟩
        simp at h; subst h
        exact i1 q
      | none =>
        rw [i2 q]
        by_cases hx : y = x
        · subst hx
          refine ⟨fun h => ⟨v, by simp, ?_⟩, fun h => ?_⟩
          · simp [lk] at h; subst h; exact h2
          · simp [lk] at h
        · have : (y == x) = false := by simp [hx]
          refine ⟨fun h => ?_, fun V => by rw [if_neg (Ne.symm hx)]⟩
          simp [lk, this] at h
    · rw [if_neg hl, if_neg hl]; exact bindL_ok hk h3
theorem bindC_ok {kind : PySem.Str → Option NameKind} {nms : List (PySem.Str × NameKind)} (hk : ∀ x, kind x = nms.lookup x) {x : PySem.Str} (hx : nms.lookup x = some .cell) : ∀ {bl : Loc} {binds : List (PySem.Str × PySem.Value)} {m : PySem.Str → Option PySem.Value}, Ps bl binds →
    (∀ a, lk x bl.reverse = some a → ∃ v, bindC kind binds m x = some v ∧ a.Is v) ∧ (lk x bl.reverse = none → bindC kind binds m x = m x)
  | [], [], m, _ => ⟨fun a h => by simp [lk] at h, fun V => rfl⟩
  | (y, b) :: bl, (z, v) :: binds, m, hp => by
    obtain ⟨h1, h2, h3⟩ := hp
    have h1 : y = z := h1
    subst h1
    unfold bindC
    rw [hk y, List.reverse_cons, lk_append]
    by_cases hl : nms.lookup y = some .local
    · have hne : (y == x) = false := by simp; rintro rfl; rw [hx] at hl; cases hl
      rw [if_pos hl]
      obtain ⟨i1, i2⟩ := bindC_ok hk hx (m := m) h3
      have : lk x [(y, b)] = none := by simp [lk, hne]
      rw [this, Option.or_none]; exact ⟨i1, i2⟩
    · rw [if_neg hl]
      obtain ⟨i1, i2⟩ := bindC_ok hk hx (m := fun y' => if y' = y then some v else m y') h3
      cases q : lk x bl.reverse with
      | some a' => refine ⟨fun a h => ?_, fun h => by simp at h⟩; simp at h; subst h; exact i1 _ q
      | none =>
        rw [i2 q]
        by_cases hxy : y = x
        · subst hxy
          refine ⟨fun a h => ⟨v, by simp, ?_⟩, fun h => ?_⟩
          · simp [lk] at h; subst h; exact h2
          · simp [lk] at h
        · have : (y == x) = false := by simp [hxy]
          refine ⟨fun a h => ?_, fun V => by rw [if_neg (Ne.symm hxy)]⟩
          simp [lk, this] at h

section
variable {g : Gd} {n : Nat} {hp : HP}
theorem cellHP_none {bl : Loc} {L : Addr} : ∀ {cs : List (PySem.Str × Addr)}, hp L = none → (∀ p ∈ cs, L < p.2) → (cellHP hp bl cs) L = none
  | [], h, _ => h
  | (x, c) :: r, h, k => by
    unfold cellHP
    rw [HP.set_ne (Nat.ne_of_lt (k (x, c) List.mem_cons_self))]
    exact cellHP_none h fun p hp => k p (List.mem_cons_of_mem _ hp)
theorem At.cells {S : List Addr} {h₀ : Heap} {s : Shared} {bl : Loc} {cm : PySem.Str → Option PySem.Value} (x : At g S h₀ hp s) : ∀ {cs : List (PySem.Str × Addr)}, (∀ p ∈ cs, s.heap.IsCell p.2 (cm p.1) ∧ h₀.get? p.2 = none ∧ optIs (lk p.1 bl.reverse) (cm p.1)) → At g S h₀ (cellHP hp bl cs) s
  | [], _ => x
  | (y, c) :: r, h => by
    obtain ⟨a, b, d⟩ := h (y, c) List.mem_cons_self
    exact (x.cells fun p hp => h p (List.mem_cons_of_mem _ hp)).give ⟨cm y, a, d⟩ b

theorem W_callC {f : Addr} {fd : FuncData} {body : List Stmt} {nms : List (PySem.Str × NameKind)} {vals : List PySem.Value} {binds : List (PySem.Str × PySem.Value)} {bl : Loc} {Q : AV → HP → Prop} (G : Gnd g) (ho : (myK g.w.params).lookup f = some { cls := .type "function", data := .func fd })
    (hcd : codeIn (myK g.w.params) fd.code fd.qualname = true) (hbody : fd.body = .stmts body) (hnm : fd.scope.names = nms) (hg : fd.globals = mainGlobals ∧ fd.builtins = builtinsNs ∧ fd.closure = [])
    (hb : bindArgs fd ⟨vals, []⟩ = pure binds) (hps : Ps bl binds) (hloc : ∀ k, (binds.all fun x => decide (nms.lookup x.1 = some .local) || (decide (nms.lookup x.1 = some .cell) && ((cellsFrom k nms []).lookup x.1).isSome)) = true)
    (hcl : ∀ k, ((cellsFrom k nms []).all fun p => decide (nms.lookup p.1 = some .cell)) = true) (hnd : ∀ k, ndup ((cellsFrom k nms []).map (·.1)) = true)
    (hs : fd.scope.isCoroutine = false ∧ fd.scope.isGenerator = false ∧ fd.scope.kind = .function)
    (h : ∀ env L, env.locals = L → FEnv env nms (cellsFrom (L + 1) nms []) → (∀ a, L ≤ a → hp a = none) → XS g n env body (locPart nms bl) (cellHP hp bl (cellsFrom (L + 1) nms [])) fun fl V hp'' => Q (retOf fl) hp'') :
    WH g (n + 1) (call (.ref f) vals) hp AV.Is Q := by
  subst hnm
  intro A E h₀ s c y
  have st := staysH c y
  obtain ⟨mg, mb, T⟩ := G.top
  have hroom : A.depth < recursionLimit := by have := c.depth; show A.depth < 1000; lia
  have hbig : ∀ a, s.heap.objs.size ≤ a → s.heap.get? a = none := fun a ha => by
    cases q : s.heap.get? a with
    | none => rfl
    | some o => exact absurd (Heap.lt_size q) (Nat.not_lt.mpr ha)
  have hbig0 : ∀ a, s.heap.objs.size ≤ a → h₀.get? a = none := fun a ha => by
    cases q : h₀.get? a with
    | none => rfl
    | some o => obtain ⟨sl, e, _⟩ := y.keep a o q; rw [hbig a ha] at e; cases e
  have hbigP : ∀ a, s.heap.objs.size ≤ a → hp a = none := fun a ha => by
    cases q : hp a with
    | none => rfl
    | some X => obtain ⟨o, e⟩ := (y.own a X q).1.there; rw [hbig a ha] at e; cases e
  refine wpAny_call (codeAny_call_function hroom (st _ _ (G.kin _ _ ho)) rfl hs.1 hs.2.1 hbody (codeRec_of (G.kin.keeps st) hcd) ?_)
  rw [hb, hg.2.2]
  refine wpAny_pure (wpAny_with_toks y.tok (wpAny_newFunctionEnv_cells hs.2.2 (fun x hx => ?_) fun env he s₁ x htk => ?_))
  · have := List.all_eq_true.mp (hloc (s.heap.objs.size + 1)) x hx
    simpa using this
  · subst he
    refine ⟨(T.nolimit.keeps st).keeps x.toInCall.keep, codeAny_func ?_⟩
    show wpAny _ (A.deeper (callEnvC fd s.heap.objs.size f)) (execs body (callEnvC fd s.heap.objs.size f)) _ _ _
    have F : FEnv (callEnvC fd s.heap.objs.size f) fd.scope.names (cellsFrom (s.heap.objs.size + 1) fd.scope.names []) := ⟨hs.2.2, hg.1, hg.2.1, fun V => rfl, rfl⟩
    obtain ⟨h₁, tk, rfl⟩ := x.toInCall.same
    have htk : 1 ≤ tk := htk
    have keeps := x.toInCall.keep
    obtain ⟨cx, ab⟩ := enterB (env := callEnvC fd s.heap.objs.size f) (bl := locPart fd.scope.names bl) (tk := tk) htk c y hs.2.2 rfl rfl x.toInCall.ns (fun z v e => (bindL_ok (fun V => rfl) hps).1 e) keeps
    have cellsOk : ∀ p ∈ cellsFrom (s.heap.objs.size + 1) fd.scope.names [], h₁.IsCell p.2 (bindC (callEnvC fd s.heap.objs.size f).kindOf binds (fun V => none) p.1) ∧ h₀.get? p.2 = none ∧ optIs (lk p.1 bl.reverse) (bindC (callEnvC fd s.heap.objs.size f).kindOf binds (fun V => none) p.1) := fun p hp => by
      have e1 : (cellsFrom (s.heap.objs.size + 1) fd.scope.names []).lookup p.1 = some p.2 := ndup_lookup (hnd _) hp
      have e2 : fd.scope.names.lookup p.1 = some .cell := by simpa using List.all_eq_true.mp (hcl _) p hp
      refine ⟨x.cell p.1 p.2 e1, hbig0 _ (Nat.le_of_lt (x.above p.1 p.2 hp)), ?_⟩
      obtain ⟨i1, i2⟩ := bindC_ok (kind := (callEnvC fd s.heap.objs.size f).kindOf) (fun V => rfl) e2 (m := fun V => none) hps
      cases q : lk p.1 bl.reverse with
      | none => rw [i2 q]; trivial
      | some a => obtain ⟨v, e, i⟩ := i1 a q; rw [e]; exact i
    have ab' : AtB g (SA (A.deeper (callEnvC fd s.heap.objs.size f))) h₀ (callEnvC fd s.heap.objs.size f).locals (locPart fd.scope.names bl) (cellHP hp bl (cellsFrom (s.heap.objs.size + 1) fd.scope.names [])) { s with heap := h₁, toks := tk } :=
      ⟨ab.at_.cells cellsOk, ab.loc, cellHP_none ab.hpL fun p hp => x.above p.1 p.2 hp, ab.hL⟩
    refine wpAny_mono (h _ _ rfl F hbigP _ _ h₀ _ cx ab') (fun fl s' hh => ?_) fun V V e => e
    refine out3 hh fun b loc' hp'' r z q => ?_
    have za := leaveB (A := A) (env := callEnvC fd s.heap.objs.size f) rfl z
    cases b with
    | next => cases r; exact ⟨.none, hp'', ⟨0, rfl⟩, za, q⟩
    | brk => cases r; exact ⟨.none, hp'', ⟨0, rfl⟩, za, q⟩
    | cont => cases r; exact ⟨.none, hp'', ⟨0, rfl⟩, za, q⟩
    | ret v => obtain ⟨v', rfl, hv⟩ := r; exact ⟨v, hp'', hv, za, q⟩
end
end Mine
end
section
open PySem PySem.W PySem.Calls PyProof.Rows
namespace Mine
noncomputable def AV.oi : AV → Option (Option Int)
  | .none => some Option.none
  | .int i => some (some i)
  | _ => Option.none
noncomputable def strsA (ts : List PySem.Str) : List AV := ts.map .str
theorem Vs_strs : ∀ {ts : List PySem.Str} {vs : List PySem.Value}, Vs (strsA ts) vs → ∃ l : List (PySem.Str × Tok), vs = strValues l ∧ l.map (·.1) = ts
  | [], [], _ => ⟨[], rfl, rfl⟩
  | [], _ :: _, h => h.elim
  | _ :: _, [], h => h.elim
  | t :: ts, v :: vs, h => by
    obtain ⟨⟨u, rfl⟩, h2⟩ := h
    obtain ⟨l, rfl, e⟩ := Vs_strs (ts := ts) h2
    exact ⟨(t, u) :: l, rfl, by simp [e]⟩
theorem strs_Vs : ∀ (l : List (PySem.Str × Tok)), Vs (strsA (l.map (·.1))) (strValues l)
  | [] => trivial
  | (_, u) :: l => ⟨⟨u, rfl⟩, strs_Vs l⟩
section
variable {g : Gd} {n : Nat} {env : Env} {L : Addr} {loc : Loc} {hp : HP}
theorem sz_le {k : Nat} (h : k ≤ 100000) : k ≤ sizeLine := by rw [sizeLine_eq]; omega
theorem fit63 {k : Nat} (h : k ≤ 100000) : (k : Int) < 2 ^ 63 := by
  have : (2 : Int) ^ 63 = 9223372036854775808 := by decide
  omega
/-- an object changed in place -/
theorem At.upd {S : List Addr} {h₀ : Heap} {s : Shared} {a : Addr} {X Y : AO} {f : Obj → Obj} (x : At g S h₀ hp s) (e : hp a = some X) (hY : Y.In g.w (s.heap.update a f) a) : At g S h₀ (hp.set a Y) { s with heap := s.heap.update a f } :=
  x.put e (fun b o hb eb => by rw [Heap.get?_update_other _ _ (Ne.symm hb)]; exact eb) hY

theorem EV_Sub_slice_str {value : PySem.Expr} {lo hi : Option PySem.Expr} {p pos : Pos} {Q : AV → Loc → HP → Prop}
    (h : EV g n env value loc hp fun a l₁ h₁ => EP g n env lo l₁ h₁ fun b l₂ h₂ => EP g n env hi l₂ h₂ fun c l₃ h₃ => ∃ x i j, a = .str x ∧ b.oi = some i ∧ c.oi = some j ∧ x.length ≤ 100000 ∧ Q (.str (Txt.slice x i j)) l₃ h₃) :
    EV g n env (.Subscript value (.Slice lo hi none p) pos) loc hp Q := by
  intro A E h₀ s cx y
  refine Subscript_ (wpAny_mono (h A E h₀ s cx y) (fun va s₁ hh => ?_) fun V V e => e)
  refine out3 hh fun a l₁ h₁ ra y₁ q => ?_
  refine wpAny_Slice (wpAny_mono (q A E h₀ s₁ cx y₁) (fun vb s₂ hh => ?_) fun V V e => e)
  refine out3 hh fun b l₂ h₂ rb y₂ q => ?_
  refine wpAny_mono (q A E h₀ s₂ cx y₂) (fun vc s₃ hh => ?_) fun V V e => e
  refine out3 hh fun c l₃ h₃ rc y₃ hQ => ?_
  refine withGoal fun goalX goalBack => ?_
  obtain ⟨x, i, j, rfl, hi, hj, hz, q⟩ := hQ
  refine goalBack ?_
  clear goalBack goalX
  obtain ⟨t, rfl⟩ := ra
  rw [evalPart_none]
  refine wpAny_pure (sub_tail (M := model pg g.w) (T := "str") (typeIs_str _ x t) F.slot_str_getitem.lookup ?_)
  have fin : ∀ (Q' E' : PySem.Value → Shared → Prop) (l u : Option (Int × Tok)), vb = partValue l → vc = partValue u → l.map (·.1) = i → u.map (·.1) = j →
      (∀ t' tk, Q' (.str (Txt.slice x i j) t') { s₃ with heap := s₃.heap.push { cls := .type "slice", data := .fields #[vb, vc, .none] }, toks := tk }) →
      wpAny (model pg g.w) A (getItem (.str x t) (.ref s₃.heap.objs.size)) Q' E' { s₃ with heap := s₃.heap.push { cls := .type "slice", data := .fields #[vb, vc, .none] } } := fun Q' E' l u e1 e2 e3 e4 k => by
    subst e1 e2 e3 e4
    exact wpAny_getItem_str_slice (l := l) (u := u) (st := none) ⟨_, Heap.get?_push_size _ rfl, rfl, rfl⟩ rfl (post_val_or_str ⟨Nat.le_trans (Txt.slice_le x _ _) (sz_le hz), fun t' k' => k t' k'⟩)
  have lst : ∀ v (a : AV) (k : Option Int), a.Is v → a.oi = some k → ∃ l : Option (Int × Tok), v = partValue l ∧ l.map (·.1) = k := fun v a k r e => by
    obtain ⟨t, rfl⟩ := r
    cases a <;> simp [AV.oi] at e
    · subst e; exact ⟨none, rfl, rfl⟩
    · subst e; exact ⟨some (_, t), rfl, rfl⟩
  obtain ⟨l, e1, e3⟩ := lst vb b i rb hi
  obtain ⟨u, e2, e4⟩ := lst vc c j rc hj
  refine wpAny_with_toks (n := 1) y₃.at_.tok (fin _ _ l u e1 e2 e3 e4 fun t' tk htk => ⟨.str (Txt.slice x i j), l₃, h₃, ⟨t', rfl⟩, ?_, q⟩)
  exact y₃.turned htk (fun V => False) (fun b o V e => Heap.get?_push_of_some _ e) (fun V h => h.elim)

theorem gi_list {l : Addr} {xs : List AV} {k : Int} {x : AV} {Q : AV → Loc → HP → Prop} (hl : hp l = some (.list xs)) (h0 : 0 ≤ k) (hz : xs.length ≤ 100000) (hx : xs[k.toNat]? = some x) (q : Q x loc hp) :
    ∀ va vb, (AV.ref l).Is va → (AV.int k).Is vb → WB g n L (getItem va vb) loc hp AV.Is Q := by
  rintro _ _ ⟨t, rfl⟩ ⟨u, rfl⟩
  refine WB.lift fun A E h₀ s c y => ?_
  refine withGoal fun goalX goalBack => ?_
  obtain ⟨items, m, ho, it, hi, hsz⟩ := list_at y hl
  refine goalBack ?_
  clear goalBack goalX
  obtain ⟨v, hv, iv⟩ := hi.get hx
  have : k.toNat < xs.length := (List.getElem?_eq_some_iff.mp hx).1
  exact wpAny_getItem_list it h0 (by have := fit63 hz; omega) (x := v) (by simpa using hv) ⟨x, hp, iv, y, q⟩
theorem gi_last {l : Addr} {xs : List AV} {x : AV} {Q : AV → Loc → HP → Prop} (hl : hp l = some (.list (xs ++ [x]))) (q : Q x loc hp) :
    ∀ va vb, (AV.ref l).Is va → (AV.int (-1)).Is vb → WB g n L (getItem va vb) loc hp AV.Is Q := by
  rintro _ _ ⟨t, rfl⟩ ⟨u, rfl⟩
  refine WB.lift fun A E h₀ s c y => ?_
  refine withGoal fun goalX goalBack => ?_
  obtain ⟨items, m, ho, it, hi, hsz⟩ := list_at y hl
  refine goalBack ?_
  clear goalBack goalX
  obtain ⟨v, hv, iv⟩ := hi.get (i := xs.length) (x := x) (by simp)
  have hsz : items.size = xs.length + 1 := by simpa using hsz
  refine wpAny_getItem_list_neg it (by decide) (by omega) (by decide) (x := v) ?_ ⟨x, hp, iv, y, q⟩
  have : ((-1 : Int) + (items.size : Int)).toNat = xs.length := by omega
  rw [this]; simpa using hv
theorem c_append {l : Addr} {xs : List AV} {x : AV} {Q : AV → Loc → HP → Prop} (hl : hp l = some (.list xs)) (hz : xs.length ≤ 100000) (q : Q .none loc (hp.set l (.list (xs ++ [x])))) :
    ∀ va vs, (AV.ref l).Is va → Vs [x] vs → WB g n L (call (.builtin "list.append") (va :: vs)) loc hp AV.Is Q := by
  rintro _ vs ⟨t, rfl⟩ hv
  obtain ⟨u, rfl⟩ := Vs1 hv
  refine WB.lift fun A E h₀ s c y => ?_
  refine withGoal fun goalX goalBack => ?_
  obtain ⟨items, m, ho, it, hi, hsz⟩ := list_at y hl
  refine goalBack ?_
  clear goalBack goalX
  refine wpAny_list_append_plain ⟨m, ho⟩ (fun h' hl' hs' => ⟨.none, _, ⟨0, rfl⟩, y.put hl (fun b o hb e => hs'.extBut b o hb e) ?_, q⟩) (by rw [hsz]; exact sz_le hz)
  obtain ⟨m', ho'⟩ := hl'
  exact ⟨_, m', ho', by rw [Array.toList_push]; exact hi.append ⟨⟨u, rfl⟩, trivial⟩⟩
theorem c_pop {l : Addr} {xs : List AV} {x : AV} {Q : AV → Loc → HP → Prop} (hl : hp l = some (.list (xs ++ [x]))) (hz : xs.length < 100000) (q : Q x loc (hp.set l (.list xs))) :
    ∀ va, (AV.ref l).Is va → WB g n L (call (.builtin "list.pop") [va]) loc hp AV.Is Q := by
  rintro _ ⟨t, rfl⟩
  refine WB.lift fun A E h₀ s c y => ?_
  refine withGoal fun goalX goalBack => ?_
  obtain ⟨items, m, ho, it, hi, hsz⟩ := list_at y hl
  refine goalBack ?_
  clear goalBack goalX
  have hsz : items.size = xs.length + 1 := by simpa using hsz
  obtain ⟨v, hv, iv⟩ := hi.get (i := xs.length) (x := x) (by simp)
  have hv' : items[items.size - 1]? = some v := by rw [hsz]; simpa using hv
  refine call_meets F.slot_list_pop ⟨_, ho, rfl⟩ F.entry_list_pop (F.args_list_pop_1 _) (MeetsSeq.list_pop_last l items m v hv' (by rw [hsz]; exact sz_le hz)) ⟨ho, ⟨x, _, iv, y.upd (Y := .list xs) hl ?_, q⟩⟩
  refine ⟨(items.toList.eraseIdx (items.size - 1)).toArray, m + 1, (Heap.get?_update_self _ ho rfl).trans (by rw [mapSeq_erase items m _ (by omega)]), ?_⟩
  have := hi.take xs.length
  rw [hsz, Nat.add_sub_cancel, List.eraseIdx_eq_take_drop_succ, List.drop_of_length_le (by simp [hsz])]
  simpa using this
theorem Vs.nil_iff {vs : List PySem.Value} (h : Vs [] vs) : vs = [] := by cases vs with | nil => rfl | cons _ _ => exact h.elim
theorem tru_list {l : Addr} {xs : List AV} {Q : Bool → Loc → HP → Prop} (hl : hp l = some (.list xs)) (hz : xs.length ≤ 100000) (q : Q (!xs.isEmpty) loc hp) : ∀ va, (AV.ref l).Is va → WB g n L (truthy va) loc hp (Eq (α := Bool)) Q := by
  rintro _ ⟨t, rfl⟩ A E h₀ s c y
  refine withGoal fun goalX goalBack => ?_
  obtain ⟨items, m, ho, it, hi, hsz⟩ := list_at y.at_ hl
  refine goalBack ?_
  clear goalBack goalX
  refine wpAny_truthy_list it (by rw [hsz]; exact fit63 hz) ⟨!xs.isEmpty, loc, hp, ?_, y.toks (Nat.le_add_left 1 _), q⟩
  cases xs with
  | nil => have := Vs.nil_iff hi; cases items; simp_all
  | cons x xs => cases items with | mk l => cases l with | nil => exact hi.elim | cons _ _ => rfl
theorem c_len_list {l : Addr} {xs : List AV} {Q : AV → Loc → HP → Prop} (hl : hp l = some (.list xs)) (hz : xs.length ≤ 100000) (q : Q (.int (xs.length : Nat)) loc hp) : ∀ vs, Vs [.ref l] vs → WB g n L (call (.builtin "len") vs) loc hp AV.Is Q := by
  intro vs hv
  obtain ⟨t, rfl⟩ := Vs1 hv
  refine WB.lift fun A E h₀ s c y => ?_
  refine withGoal fun goalX goalBack => ?_
  obtain ⟨items, m, ho, it, hi, hsz⟩ := list_at y hl
  refine goalBack ?_
  clear goalBack goalX
  exact call_len_list it (by rw [hsz]; exact fit63 hz) ⟨.int (xs.length : Nat), hp, ⟨_, by rw [hsz]; rfl⟩, y.toks (Nat.le_add_left 1 _), q⟩
theorem bin_add_list {l b : Addr} {xs ys : List AV} {Q : AV → Loc → HP → Prop} (hl : hp l = some (.list xs)) (hb : hp b = some (.list ys)) (hz : xs.length + ys.length ≤ 100000) (q : ∀ a, hp a = none → Q (.ref a) loc (hp.set a (.list (xs ++ ys)))) :
    ∀ va vb, (AV.ref l).Is va → (AV.ref b).Is vb → WB g n L (binaryOp .Add va vb) loc hp AV.Is Q := by
  rintro _ _ ⟨t, rfl⟩ ⟨u, rfl⟩
  refine WB.lift fun A E h₀ s c y => ?_
  refine withGoal fun goalX goalBack => ?_
  obtain ⟨i1, m1, ho1, it1, hi1, hsz1⟩ := list_at y hl
  refine goalBack ?_
  clear goalBack goalX
  refine withGoal fun goalX goalBack => ?_
  obtain ⟨i2, m2, ho2, it2, hi2, hsz2⟩ := list_at y hb
  refine goalBack ?_
  clear goalBack goalX
  refine P.add_list ho1 ho2 ⟨.ref _, _, ⟨0, rfl⟩, y.push (X := .list (xs ++ ys)) ⟨_, _, Heap.get?_push_size _ rfl, by simpa using hi1.append hi2⟩, q _ y.freshP⟩ ?_
  rw [hsz1, hsz2]; exact sz_le hz
theorem c_split {x y : PySem.Str} {Q : AV → Loc → HP → Prop} (hy : (y.length == 0) = false) (hz : x.length ≤ 100000) (hz2 : (Builtin.Str.partsBetween x (Builtin.Str.occurrences x y 0 x.length (x.length + 1)) y.length).length ≤ 100000) (q : ∀ D, hp D = none → Q (.ref D) loc (hp.set D (.list (strsA (Txt.split x y))))) :
    ∀ va vs, (AV.str x).Is va → Vs [.str y] vs → WB g n L (call (.builtin "str.split") (va :: vs)) loc hp AV.Is Q := by
  rintro _ vs ⟨t, rfl⟩ hv
  obtain ⟨u, rfl⟩ := Vs1 hv
  refine WB.lift fun A E h₀ s c a => ?_
  have fin : ∀ (l : List (PySem.Str × Tok)) tk, 1 ≤ tk → l.map (·.1) = Txt.split x y → ∃ b hp', AV.Is b (.ref s.heap.objs.size) ∧ At g (SA A) h₀ hp' { s with heap := s.heap.push { cls := .type "list", data := .seq (strValues l).toArray }, toks := tk } ∧ Q b loc hp' := fun l tk htk e =>
    ⟨.ref _, _, ⟨0, rfl⟩, (a.push (X := .list (strsA (Txt.split x y))) ⟨_, _, Heap.get?_push_size _ rfl, by rw [← e]; exact strs_Vs l⟩).toks htk, q _ a.freshP⟩
  refine wpAny_with_toks (n := 1) a.tok ?_
  cases h1 : (decide (x.length < y.length) || decide (Builtin.Str.strKind x < Builtin.Str.strKind y))
  · cases hf : (Builtin.Str.occurrences x y 0 x.length (x.length + 1)).isEmpty
    · refine call_meets F.slot_str_split (typeIs_str _ _ _) F.entry_str_split (F.args_str_split_2 _ _) (meets_str_split_sep x y t u h1 hy hf (sz_le hz) (sz_le hz2)) ?_
      show wants _ _ _ { s with toks := _, heap := s.heap.push { cls := .type "list", data := .seq (strsFrom s.toks (Builtin.Str.partsBetween x (Builtin.Str.occurrences x y 0 x.length (x.length + 1)) y.length)).toArray } }
      rw [strsFrom_eq]
      exact fun htk => fin (numbered s.toks _) _ htk ((numbered_texts _ _).trans ((if_neg (ne_true_of_eq_false h1)).trans (if_neg (ne_true_of_eq_false hf))).symm)
    · exact call_meets F.slot_str_split (typeIs_str _ _ _) F.entry_str_split (F.args_str_split_2 _ _) (meets_str_split_not_found x y t u h1 hy hf)
        fun htk => fin [(x, t)] _ htk ((if_neg (ne_true_of_eq_false h1)).trans (if_pos hf)).symm
  · exact call_meets F.slot_str_split (typeIs_str _ _ _) F.entry_str_split (F.args_str_split_2 _ _) (meets_str_split_cannot_occur x y t u h1)
      fun htk => fin [(x, t)] _ htk (if_pos h1).symm
theorem c_join {x : PySem.Str} {D : Addr} {ts : List PySem.Str} {Q : AV → Loc → HP → Prop} (hD : hp D = some (.list (strsA ts))) (hok : JoinOk x ts = true) (q : Q (.str (Txt.join x ts)) loc hp) :
    ∀ va vs, (AV.str x).Is va → Vs [.ref D] vs → WB g n L (call (.builtin "str.join") (va :: vs)) loc hp AV.Is Q := by
  rintro _ vs ⟨t, rfl⟩ hv
  obtain ⟨u, rfl⟩ := Vs1 hv
  refine WB.lift fun A E h₀ s c y => ?_
  refine withGoal fun goalX goalBack => ?_
  obtain ⟨items, m, ho, it, hi, hsz⟩ := list_at y hD
  refine goalBack ?_
  clear goalBack goalX
  obtain ⟨l, hl, e⟩ := Vs_strs hi
  have hit : s.heap.IsList D (strValues l).toArray := by rw [← hl]; simpa using it
  exact wpAny_with_toks (n := 1) y.tok (SC.join hit e hok fun t' k htk => ⟨.str (Txt.join x ts), hp, ⟨t', rfl⟩, y.toks htk, q⟩)
theorem EV_Or2 {e₁ e₂ : PySem.Expr} {pos : Pos} {Q : AV → Loc → HP → Prop} (h : EV g n env e₁ loc hp fun a l h => ∀ va, a.Is va → WB g n env.locals (truthy va) l h (Eq (α := Bool)) fun b l h => if b then Q a l h else EV g n env e₂ l h Q) : EV g n env (.BoolOp .Or [e₁, e₂] pos) loc hp Q :=
  fun A E h₀ s c x => BoolOp_or (wpAny_mono (h A E h₀ s c x) (fun v V ⟨a, _, _, r, y, q⟩ => wpAny_mono (q _ r A E h₀ _ c y) (fun V V ⟨b, l, h, r', y', q'⟩ => by subst r'; cases b <;> first | exact ⟨a, l, h, r, y', q'⟩ | exact BoolOp_one (q' A E h₀ _ c y')) fun V V e => e) fun V V e => e)
theorem EV_And2 {e₁ e₂ : PySem.Expr} {pos : Pos} {Q : AV → Loc → HP → Prop} (h : EV g n env e₁ loc hp fun a l h => ∀ va, a.Is va → WB g n env.locals (truthy va) l h (Eq (α := Bool)) fun b l h => if b then EV g n env e₂ l h Q else Q a l h) : EV g n env (.BoolOp .And [e₁, e₂] pos) loc hp Q :=
  fun A E h₀ s c x => BoolOp_and (wpAny_mono (h A E h₀ s c x) (fun v V ⟨a, _, _, r, y, q⟩ => wpAny_mono (q _ r A E h₀ _ c y) (fun V V ⟨b, l, h, r', y', q'⟩ => by subst r'; cases b <;> first | exact ⟨a, l, h, r, y', q'⟩ | exact BoolOp_one (q' A E h₀ _ c y')) fun V V e => e) fun V V e => e)
theorem EV_IfExp {t b o : PySem.Expr} {pos : Pos} {Q : AV → Loc → HP → Prop} (h : TT g n env t loc hp fun c l h => if c then EV g n env b l h Q else EV g n env o l h Q) : EV g n env (.IfExp t b o pos) loc hp Q :=
  fun A E h₀ s c x => IfExp_ (wpAny_mono (h A E h₀ s c x) (fun V V ⟨b, l, h, r, y, q⟩ => by subst r; cases b <;> exact q A E h₀ _ c y) fun V V e => e)
end
end Mine
end
section
open PySem PySem.W PySem.Calls PyProof.Rows
namespace Mine
section
variable {g : Gd} {n : Nat} {env : Env} {L : Addr} {loc : Loc} {hp : HP}
/-- names stored one behind the other -/
noncomputable def SN (g : Gd) (n : Nat) (env : Env) : List PySem.Str → List AV → Loc → HP → (Loc → HP → Prop) → Prop
  | [], [], l, h, Q => Q l h
  | x :: xs, a :: as, l, h, Q => ∀ v, a.Is v → UN g n env.locals (storeName env x v) l h fun l h => SN g n env xs as l h Q
  | _, _, _, _, _ => False
theorem SN_nil {Q : Loc → HP → Prop} (q : Q loc hp) : SN g n env [] [] loc hp Q := q
theorem SN_cons {x : PySem.Str} {xs : List PySem.Str} {a : AV} {as : List AV} {Q : Loc → HP → Prop} (h : ∀ v, a.Is v → UN g n env.locals (storeName env x v) loc hp fun l h => SN g n env xs as l h Q) : SN g n env (x :: xs) (a :: as) loc hp Q := h
noncomputable def namesOf : List PySem.Expr → Option (List PySem.Str)
  | [] => some []
  | .Name x _ :: r => (namesOf r).map (x :: ·)
  | _ => none
set_option tactic.hygienic true in
theorem namesOf_len : ∀ {es : List PySem.Expr} {ns : List PySem.Str}, namesOf es = some ns → (assignEach es env).length = ns.length ∧ (assignEach es env).findIdx? (·.1) = none
  | [], ns, h => by cases h; exact ⟨rfl, rfl⟩
  | e :: es, ns, h => by
    cases e <;> simp only [namesOf, Option.map_eq_some_iff] at h <;> try contradiction
    rename_i x p
    obtain ⟨ns', h', rfl⟩ := h
    obtain ⟨i, j⟩ := namesOf_len h'
    refine ⟨?_, ?_⟩
    · show (assignEach es env).length + 1 = ns'.length + 1
      rw [i]
    · show List.findIdx? _ ((false, assign (.Name x p) env) :: assignEach es env) = none
      rw [List.findIdx?_cons, j]; rfl
set_option tactic.hygienic true in
theorem SN_assign {A : Around} {E : PySem.Value → Shared → Prop} {h₀ : Heap} {Q : Loc → HP → Prop} (c : CxB g n A env.locals h₀) : ∀ {es : List PySem.Expr} {ns : List PySem.Str} {as : List AV} {vs : List PySem.Value} {s : Shared} {loc : Loc} {hp : HP}, namesOf es = some ns → Vs as vs → AtB g (SA A) h₀ env.locals loc hp s →
    SN g n env ns as loc hp Q → wpAny (model pg g.w) A (assignInOrder ((assignEach es env).map (·.2)) vs) (fun V s' => ∃ l h, AtB g (SA A) h₀ env.locals l h s' ∧ Q l h) E s
  | [], ns, as, vs, s, loc, hp, h, hv, y, k => by
    cases h
    cases as with
    | nil => exact wpAny_pure ⟨loc, hp, y, k⟩
    | cons _ _ => exact k.elim
  | e :: es, ns, as, vs, s, loc, hp, h, hv, y, k => by
    cases e <;> simp only [namesOf, Option.map_eq_some_iff] at h <;> try contradiction
    rename_i x p
    obtain ⟨ns', h', rfl⟩ := h
    cases as with
    | nil => exact k.elim
    | cons a as => cases vs with
      | nil => exact hv.elim
      | cons v vs =>
        show wpAny _ _ (do holding vs (assign (.Name x p) env v); assignInOrder ((assignEach es env).map (·.2)) vs) _ _ _
        refine wpAny_bind (wpAny_holding (wpAny_assign_Name (wpAny_mono (k v hv.1 A E h₀ s c y) (fun V s' hh => ?_) fun V V e => e)))
        refine out3 hh fun V l h V y' k' => ?_
        exact SN_assign c h' hv.2 y' k'
theorem SN_bind {A : Around} {E : PySem.Value → Shared → Prop} {h₀ : Heap} {Q : Loc → HP → Prop} (c : CxB g n A env.locals h₀) : ∀ {ns : List PySem.Str} {as : List AV} {vs : List PySem.Value} {s : Shared} {loc : Loc} {hp : HP}, Vs as vs → AtB g (SA A) h₀ env.locals loc hp s →
    SN g n env ns as loc hp Q → wpAny (model pg g.w) A (assignInOrder (ns.map fun n => bindName env n) vs) (fun V s' => ∃ l h, AtB g (SA A) h₀ env.locals l h s' ∧ Q l h) E s
  | [], as, vs, s, loc, hp, hv, y, k => by
    cases as with
    | nil => exact wpAny_pure ⟨loc, hp, y, k⟩
    | cons _ _ => exact k.elim
  | x :: ns, as, vs, s, loc, hp, hv, y, k => by
    cases as with
    | nil => exact k.elim
    | cons a as => cases vs with
      | nil => exact hv.elim
      | cons v vs =>
        show wpAny _ _ (do holding vs (bindName env x v); assignInOrder (ns.map fun n => bindName env n) vs) _ _ _
        refine wpAny_bind (wpAny_holding (wpAny_bindName (wpAny_mono (k v hv.1 A E h₀ s c y) (fun V s' hh => ?_) fun V V e => e)))
        refine out3 hh fun V l h V y' k' => ?_
        exact SN_bind c hv.2 y' k'
/-- a, b = something that is no tuple in the text (or one whose names are not all local) -/
theorem EX_TupAssign {elts : List PySem.Expr} {k : Nat} {tpos pos : Pos} {value : PySem.Expr} {ns : List PySem.Str} {Q : AF → Loc → HP → Prop} (hns : namesOf elts = some ns)
    (h : EV g n env value loc hp fun a l h => ∃ t xs, a = .ref t ∧ h t = some (.tuple xs) ∧ xs.length = ns.length ∧ SN g n env ns xs l h fun l h => Q .next l h)
    (hs : swapsWithSole [.Tuple elts k tpos] value pos.line env = pure false) (hw : swappedStores [.Tuple elts k tpos] value env = pure none) (hg : g.hn = true := by first | with_reducible assumption | exact Gnd.hn (by with_reducible assumption)) : EX g n env (.Assign [.Tuple elts k tpos] value pos) loc hp Q := by
  intro A E h₀ s c y
  refine Assign_Tuple (wpAny_mono (h A E h₀ s c y) (fun v s₁ hh => ?_) fun V V e => e) hs hw
  refine out3 hh fun a l h' ra y' hQ => ?_
  refine withGoal fun goalX goalBack => ?_
  obtain ⟨t, xs, rfl, ht, hlen, k⟩ := hQ
  refine goalBack ?_
  clear goalBack goalX
  obtain ⟨u, rfl⟩ := ra
  refine withGoal fun goalX goalBack => ?_
  obtain ⟨items, m, ho, it, hi, hsz⟩ := tuple_at y'.at_ ht
  refine goalBack ?_
  clear goalBack goalX
  obtain ⟨e1, e2⟩ := namesOf_len (env := env) hns
  refine wpAny_assign_Tuple (c.handled hg) it (by rw [e1, hsz, hlen]) e2 fun h₁ he => ?_
  have y'' : AtB g (SA A) h₀ env.locals l h' { s₁ with heap := h₁ } := y'.turned (tk := s₁.toks) y'.at_.tok (fun b => b = s₁.heap.objs.size) (fun b o hb e => he b o hb e) (fun b hb => by
    subst hb; refine ⟨y'.at_.fresh, y'.at_.freshP, ?_⟩
    refine withGoal fun goalX goalBack => ?_
    obtain ⟨m, ⟨o, es, ep, ho, r⟩, hm⟩ := y'.loc
    refine goalBack ?_
    clear goalBack goalX
    exact Ne.symm (Nat.ne_of_lt (Heap.lt_size ho)))
  exact wpAny_mono (SN_assign c hns hi y'' k) (fun V s' ⟨l, h, z, q⟩ => ⟨.next, l, h, rfl, z, q⟩) fun V V e => e
/-- a, b = x, y with local names alone: the last is stored first -/
theorem EX_TupSwapped {elts : List PySem.Expr} {k : Nat} {tpos pos : Pos} {value : PySem.Expr} {ns : List PySem.Str} {Q : AF → Loc → HP → Prop}
    (h : EV g n env value loc hp fun a l h => ∃ t xs, a = .ref t ∧ h t = some (.tuple xs) ∧ xs.length = ns.length ∧ SN g n env ns.reverse xs.reverse l h fun l h => Q .next l h)
    (hs : swapsWithSole [.Tuple elts k tpos] value pos.line env = pure false) (hw : swappedStores [.Tuple elts k tpos] value env = pure (some ns)) (hg : g.hn = true := by first | with_reducible assumption | exact Gnd.hn (by with_reducible assumption)) : EX g n env (.Assign [.Tuple elts k tpos] value pos) loc hp Q := by
  intro A E h₀ s c y
  refine Assign_Tuple_swapped (names := ns) (wpAny_mono (h A E h₀ s c y) (fun v s₁ hh => ?_) fun V V e => e) hs hw
  refine out3 hh fun a l h' ra y' hQ => ?_
  refine withGoal fun goalX goalBack => ?_
  obtain ⟨t, xs, rfl, ht, hlen, k⟩ := hQ
  refine goalBack ?_
  clear goalBack goalX
  obtain ⟨u, rfl⟩ := ra
  refine withGoal fun goalX goalBack => ?_
  obtain ⟨items, m, ho, it, hi, hsz⟩ := tuple_at y'.at_ ht
  refine goalBack ?_
  clear goalBack goalX
  rw [← hlen, ← hsz]
  refine wpAny_unpackItems_tuple (c.handled hg) it fun h₁ he => ?_
  have y'' : AtB g (SA A) h₀ env.locals l h' { s₁ with heap := h₁ } := y'.turned (tk := s₁.toks) y'.at_.tok (fun b => b = s₁.heap.objs.size) (fun b o hb e => he b o hb e) (fun b hb => by
    subst hb; refine ⟨y'.at_.fresh, y'.at_.freshP, ?_⟩
    refine withGoal fun goalX goalBack => ?_
    obtain ⟨m, ⟨o, es, ep, ho, r⟩, hm⟩ := y'.loc
    refine goalBack ?_
    clear goalBack goalX
    exact Ne.symm (Nat.ne_of_lt (Heap.lt_size ho)))
  have hrev : ∀ {xs : List AV} {vs : List PySem.Value}, Vs xs vs → Vs xs.reverse vs.reverse := fun {xs} => by
    induction xs with
    | nil => intro vs h; rw [Vs.nil_iff h]; trivial
    | cons x xs ih =>
      intro vs h
      cases vs with
      | nil => exact h.elim
      | cons v vs => rw [List.reverse_cons, List.reverse_cons]; exact (ih h.2).append ⟨h.1, trivial⟩
  exact wpAny_mono (SN_bind c (hrev hi) y'' k) (fun V s' ⟨l, h, z, q⟩ => ⟨.next, l, h, rfl, z, q⟩) fun V V e => e

variable {nms : List (PySem.Str × NameKind)} {cs : List (PySem.Str × Addr)}
/-- swappedStores asks the environment for the names' kinds alone -/
theorem swapped_of {fd : FuncData} (F : FEnv env fd.scope.names cs) (hk : fd.scope.kind = .function) (ts : List PySem.Expr) (v : PySem.Expr) : swappedStores ts v env = swappedStores ts v (callEnv fd 0 0) := by
  have h1 : env.blockKind = (callEnv fd 0 0).blockKind := by
    have : (callEnv fd 0 0).scope.kind = .function := hk
    unfold Env.blockKind; rw [F.kind, this]
  have h2 : env.kindOf = (callEnv fd 0 0).kindOf := funext fun x => F.look x
  unfold swappedStores
  rw [h1, h2]
end
end Mine
end
section
open PySem PySem.W PySem.Calls PyProof.Rows
namespace Mine
theorem iNT {P R : Prop} (h : R) : if (!true) = true then P else R := by rw [if_neg (by decide)]; exact h
/-- l knows all that l' knows -/
noncomputable def Lsub (l' l : Loc) : Prop := ∀ x v, lk x l' = some v → lk x l = some v
theorem Lsub.refl (l : Loc) : Lsub l l := fun V V e => e
theorem Lsub.cons {l' l : Loc} {x : PySem.Str} {v : AV} (h : Lsub l' l) : Lsub ((x, v) :: l') ((x, v) :: l) := fun y w e => by
  by_cases q : x = y
  · subst q; rw [lk_cons_self] at e ⊢; exact e
  · rw [lk_cons_ne _ _ q] at e ⊢; exact h _ _ e
theorem Lsub.skip {l' l : Loc} {x : PySem.Str} {v : AV} (h : Lsub l' l) (e : lk x l' = none) : Lsub l' ((x, v) :: l) := fun y w e' => by
  by_cases q : x = y
  · subst q; rw [e] at e'; cases e'
  · rw [lk_cons_ne _ _ q]; exact h _ _ e'
noncomputable def AllLk (l : Loc) : Loc → Prop
  | [] => True
  | (x, v) :: r => lk x l = some v ∧ AllLk l r
theorem Lsub.all {l : Loc} : ∀ {l' : Loc}, AllLk l l' → Lsub l' l
  | [], _ => fun V V e => by cases e
  | (x, v) :: r, h => fun y u e => by
    by_cases q : x = y
    · subst q; rw [lk_cons_self] at e; cases e; exact h.1
    · rw [lk_cons_ne _ _ q] at e; exact Lsub.all h.2 y u e
section
variable {g : Gd} {n : Nat} {L : Addr} {loc loc' : Loc} {hp hp' : HP} {α β : Type}
theorem WB.weak {t : Sem α} {Rel : β → α → Prop} {Q : β → Loc → HP → Prop} (hl : Lsub loc' loc) (hs : hp'.Sub hp) (h : WB g n L t loc' hp' Rel Q) : WB g n L t loc hp Rel Q := WB.sub (WB.locs h hl) hs
end
section
variable {g : Gd} {n : Nat} {env : Env} {loc : Loc} {hp : HP}
theorem EV_USub {e : PySem.Expr} {pos : Pos} {Q : AV → Loc → HP → Prop} (h : EV g n env e loc hp fun a l h => ∀ va, a.Is va → WB g n env.locals (unaryOp .USub va) l h AV.Is Q) : EV g n env (.UnaryOp .USub e pos) loc hp Q :=
  fun A E h₀ s c x => wpAny_UnaryOp (wpAny_mono (h A E h₀ s c x) (fun V V ⟨_, _, _, r, y, q⟩ => q _ r A E h₀ _ c y) fun V V e => e)
noncomputable def OnF (P : Loc → HP → Prop) : AF → Loc → HP → Prop
  | .next, l, h => P l h
  | .cont, l, h => P l h
  | _, _, _ => False
/-- a loop that nothing leaves -/
theorem EX_ForN {x : PySem.Str} {px pos : Pos} {iter : PySem.Expr} {body : List Stmt} {Q : AF → Loc → HP → Prop}
    (h : EV g n env iter loc hp fun a l₁ h₁ => ∃ hp₂ xs back, Src g a h₁ hp₂ xs back ∧ ∃ J : Nat → Loc → HP → Prop, J 0 l₁ hp₂ ∧
      (∀ i v l h, xs[i]? = some v → J i l h → ∀ u, v.Is u → UN g n env.locals (storeName env x u) l h fun l h => XS g n env body l h (OnF (J (i + 1)))) ∧
      (∀ l h, J xs.length l h → Q .next l (back h)))
    (hs : ∀ x, foldedSetIterable iter env x = pure x) (hg : g.hn = true := by first | with_reducible assumption | exact Gnd.hn (by with_reducible assumption)) : EX g n env (.For (.Name x px) iter body [] pos) loc hp Q := by
  refine EX_For (WB.mono h ?_) hs hg
  rintro a l₁ h₁ ⟨hp₂, xs, back, S, J, h0, step, fin⟩
  refine ⟨hp₂, xs, back, S, J, h0, fun i v l h hi hJ u hu => WB.mono (step i v l h hi hJ u hu) fun V l h k => WB.mono k fun f l h hf => ?_, fin⟩
  cases f with
  | next => exact hf
  | cont => exact hf
  | brk => exact hf.elim
  | ret v => exact hf.elim
end
theorem HP.Sub.set {hp hp' : HP} {a : Addr} {X : AO} (h : hp.Sub hp') : (hp.set a X).Sub (hp'.set a X) := HP.set_sub h
theorem HP.Sub.new {hp hp' : HP} {a : Addr} {X : AO} (h : hp.Sub hp') (e : hp' a = none) : hp.Sub (hp'.set a X) := h.trans (HP.sub_set e)
theorem HP.Sub.setN {hp hp' : HP} {a : Addr} {X : AO} (h : hp.Sub hp') (e : hp a = none) : hp.Sub (hp'.set a X) := fun b Y q => by
  have : b ≠ a := by rintro rfl; rw [e] at q; cases q
  rw [HP.set_ne this]; exact h _ _ q
theorem HP.Sub.non {hp hp' : HP} {a : Addr} (h : hp.Sub hp') (e : hp' a = none) : hp a = none := by
  cases q : hp a with
  | none => rfl
  | some X => rw [h _ _ q] at e; cases e
theorem HP.Sub.del {hp hp' : HP} {a : Addr} (h : hp.Sub hp') (e : hp a = none) : hp.Sub (hp'.del a) := fun b X q => by
  have : b ≠ a := by rintro rfl; rw [e] at q; cases q
  rw [HP.del_ne this]; exact h _ _ q
theorem HP.set_comm {hp : HP} {a b : Addr} {X Y : AO} (h : a ≠ b) : (hp.set a X).set b Y = (hp.set b Y).set a X := by
  funext c; unfold HP.set
  by_cases h1 : c = b
  · subst h1; simp [Ne.symm h]
  · simp [h1]
theorem HP.set_same {hp : HP} {a : Addr} {X : AO} (h : hp a = some X) : hp.set a X = hp := by
  funext c; unfold HP.set
  by_cases h1 : c = a
  · subst h1; simp [h]
  · simp [h1]
theorem HP.del_set {hp : HP} {a : Addr} {X : AO} : (hp.del a).set a X = hp.set a X := by
  funext c; unfold HP.set HP.del
  by_cases h1 : c = a <;> simp [h1]
theorem HP.del_set_same {hp : HP} {a : Addr} {X : AO} (h : hp a = some X) : (hp.del a).set a X = hp := by rw [HP.del_set, HP.set_same h]
theorem HP.del_none_eq {hp : HP} {a : Addr} (h : hp a = none) : hp.del a = hp := by
  funext c; unfold HP.del
  by_cases h1 : c = a
  · subst h1; simp [h]
  · simp [h1]
theorem HP.set_del {hp : HP} {a : Addr} {X : AO} : (hp.set a X).del a = hp.del a := by
  funext c; unfold HP.set HP.del
  by_cases h1 : c = a <;> simp [h1]
theorem HP.set_del_ne {hp : HP} {a b : Addr} {X : AO} (h : a ≠ b) : (hp.set a X).del b = (hp.del b).set a X := by
  funext c; unfold HP.set HP.del
  by_cases h1 : c = b
  · subst h1; simp [Ne.symm h]
  · simp [h1]
end Mine
end
section
open PySem PySem.W PySem.Calls PyProof.Rows
namespace Mine
noncomputable def intsA (ns : List Int) : List AV := ns.map .int
theorem Vs_ints : ∀ {ts : List Int} {vs : List PySem.Value}, Vs (intsA ts) vs → IntsAre vs ts
  | [], [], _ => .nil
  | [], _ :: _, h => h.elim
  | _ :: _, [], h => h.elim
  | t :: ts, v :: vs, h => by
    obtain ⟨⟨u, rfl⟩, h2⟩ := h
    exact .cons t u (Vs_ints h2)
theorem Vs_strsAre : ∀ {ts : List PySem.Str} {vs : List PySem.Value}, Vs (strsA ts) vs → StrsAre vs ts
  | [], [], _ => .nil
  | [], _ :: _, h => h.elim
  | _ :: _, [], h => h.elim
  | t :: ts, v :: vs, h => by
    obtain ⟨⟨u, rfl⟩, h2⟩ := h
    exact .cons t u (Vs_strsAre h2)
theorem HP.ne {hp : HP} {a b : Addr} {X : AO} (h : hp a = none) (k : hp b = some X) : a ≠ b := by rintro rfl; rw [h] at k; cases k
section
variable {g : Gd} {n : Nat} {env : Env} {L : Addr} {loc : Loc} {hp : HP}
theorem cmp_in_ints {l : Addr} {ns : List Int} {k : Int} {Q : AV → Loc → HP → Prop} (hl : hp l = some (.list (intsA ns))) (q : Q (.bool (ns.any (· == k))) loc hp) : ∀ va vb, (AV.int k).Is va → (AV.ref l).Is vb → WB g n L (compareOp .In va vb) loc hp AV.Is Q := by
  rintro _ _ ⟨t, rfl⟩ ⟨u, rfl⟩
  refine WB.lift fun A E h₀ s c y => ?_
  refine withGoal fun goalX goalBack => ?_
  obtain ⟨items, m, ho, it, hi, hsz⟩ := list_at y hl
  refine goalBack ?_
  clear goalBack goalX
  exact in_list_ints (vs := items.toList) (by simpa using it) (Vs_ints hi) ⟨.bool _, hp, ⟨0, rfl⟩, y, q⟩
theorem cmp_notin_ints {l : Addr} {ns : List Int} {k : Int} {Q : AV → Loc → HP → Prop} (hl : hp l = some (.list (intsA ns))) (q : Q (.bool (!(ns.any (· == k)))) loc hp) : ∀ va vb, (AV.int k).Is va → (AV.ref l).Is vb → WB g n L (compareOp .NotIn va vb) loc hp AV.Is Q := by
  rintro _ _ ⟨t, rfl⟩ ⟨u, rfl⟩
  refine WB.lift fun A E h₀ s c y => ?_
  refine withGoal fun goalX goalBack => ?_
  obtain ⟨items, m, ho, it, hi, hsz⟩ := list_at y hl
  refine goalBack ?_
  clear goalBack goalX
  exact notin_list_ints (vs := items.toList) (by simpa using it) (Vs_ints hi) ⟨.bool _, hp, ⟨0, rfl⟩, y, q⟩
theorem c_range {k : Nat} {Q : AV → Loc → HP → Prop} (q : ∀ D, hp D = none → Q (.ref D) loc (hp.set D (rangeO k))) : ∀ vs, Vs [.int (k : Int)] vs → WB g n L (call (.type "range") vs) loc hp AV.Is Q := by
  intro vs hv
  obtain ⟨t, rfl⟩ := Vs1 hv
  refine WB.lift fun A E h₀ s c y => ?_
  refine wpAny_with_toks (n := 1) y.tok (call_range_1 fun htk => ?_)
  exact ⟨.ref _, _, ⟨0, rfl⟩, (y.push (X := rangeO k) ⟨_, Heap.get?_push_size _ rfl, _, _, _, rfl⟩).toks htk, q _ y.freshP⟩
end
end Mine
end
section
open PySem PySem.W PySem.Calls PyProof.Rows
namespace Mine
noncomputable def leS (a b : PySem.Str) : Bool := !Spec.ltCps b.cps.toList a.cps.toList
/-- sorted, and turned round if asked -/
noncomputable def sortB (b : Bool) (ss : List PySem.Str) : List PySem.Str := if b then (ss.mergeSort leS).reverse else ss.mergeSort leS
theorem leS_iff (a b : PySem.Str) : leS a b = true ↔ ¬ b.cps.toList < a.cps.toList := by
  unfold leS; rw [ltCps_eq]; simp
theorem leS_total (a b : PySem.Str) : (leS a b || leS b a) = true := by
  rw [Bool.or_eq_true, leS_iff, leS_iff]
  by_cases h : b.cps.toList < a.cps.toList
  · exact .inr fun h' => absurd (List.lt_trans h h') (List.lt_irrefl _)
  · exact .inl h
theorem leS_trans (a b c : PySem.Str) (h : leS a b = true) (k : leS b c = true) : leS a c = true := by
  rw [leS_iff] at h k ⊢
  rw [List.not_lt] at h k ⊢
  exact List.le_trans h k
theorem leS_antisymm (a b : PySem.Str) (h : leS a b = true) (k : leS b a = true) : a = b := by
  rw [leS_iff] at h k
  rw [List.not_lt] at h k
  have : a.cps.toList = b.cps.toList := List.le_antisymm h k
  cases a; cases b; simpa using this
theorem pairwise_of_sortedS : ∀ {l : List PySem.Str}, sortedS l = true → l.Pairwise fun a b => leS a b = true := by
  have key : ∀ (l : List PySem.Str) (p : PySem.Str), risingS p l = true → (p :: l).Pairwise fun a b => leS a b = true := by
    intro l
    induction l with
    | nil => intro p _; simp
    | cons x r ih =>
      intro p h
      have h : (!Spec.ltCps x.cps.toList p.cps.toList && risingS x r) = true := h
      rw [Bool.and_eq_true] at h
      have h2 := ih x h.2
      refine List.pairwise_cons.mpr ⟨fun y hy => ?_, h2⟩
      have hpx : leS p x = true := h.1
      rcases List.mem_cons.mp hy with rfl | hy
      · exact hpx
      · exact leS_trans _ _ _ hpx (List.rel_of_pairwise_cons h2 hy)
  intro l h
  cases l with
  | nil => exact List.Pairwise.nil
  | cons x r => exact key r x h
theorem sortB_eq {ss ss' : List PySem.Str} (hp : ss'.Perm ss) (hs : sortedS ss' = true) : ss' = ss.mergeSort leS := by
  refine List.Perm.eq_of_pairwise (le := fun a b => leS a b = true) (fun a b V V h k => leS_antisymm a b h k) (pairwise_of_sortedS hs) ?_ (hp.trans (List.mergeSort_perm ss leS).symm)
  exact List.pairwise_mergeSort (fun a b c h k => leS_trans a b c h k) (fun a b => leS_total a b) ss

theorem StrsAre.rev {vs : List PySem.Value} {ss : List PySem.Str} (h : StrsAre vs ss) : StrsAre vs.reverse ss.reverse := by
  have h1 := strsAre_map vs.reverse (fun v hv => h.all v (List.mem_reverse.mp hv))
  rwa [List.map_reverse, h.strs] at h1
theorem StrsAre.Vs : ∀ {vs : List PySem.Value} {ss : List PySem.Str}, StrsAre vs ss → Mine.Vs (strsA ss) vs
  | _, _, .nil => trivial
  | _, _, .cons _ t r => ⟨⟨t, rfl⟩, StrsAre.Vs r⟩
section
variable {prog : Program} {w : World} {A : Around} {E : PySem.Value → Shared → Prop} {s : Shared}
/-- list.sort(reverse=b) on texts -/
theorem sort_rev_strs {a : Addr} {vs : List PySem.Value} {ss : List PySem.Str} {k : Nat} {b : Bool} {P : Fin → Shared → Prop} (ho : s.heap.get? a = some (seqObj "list" vs.toArray k)) (hS : StrsAre vs ss) (h64 : vs.length < 64)
    (h : ∀ (out : Array PySem.Value), StrsAre out.toList (sortB b ss) → P (.done (.ret .none)) { s with heap := sortedHeap s.heap a vs out }) :
    wpAny (model prog w) A (Builtin.«list.sort» ⟨[.ref a], [(Str.ofString "reverse", .bool b)]⟩) P E s := by
  rw [list_sort_rev]
  have ha : a < s.heap.objs.size := Heap.lt_size ho
  refine wpAny_bind (listItems_at ho rfl (wpAny_bind (listUpdate_at ho rfl ?_)))
  obtain ⟨e1, ho1⟩ : ∃ e1, (s.heap.update a (Obj.mapSeq fun V => #[])).get? a = some (seqObj "list" #[] e1) := ⟨_, get?_update_seq ho (fun V => #[])⟩
  refine wpAny_bind (seqEpoch_at ho1 rfl (wpAny_bind (wpAny_newTuple (wpAny_bind (wpAny_newList (wpAny_holding ?_))))))
  have ho6 : (((s.heap.update a (Obj.mapSeq fun V => #[])).push (seqObj "tuple" vs.toArray 0)).push (seqObj "list" #[] 0)).get? a = some (seqObj "list" #[] e1) := by
    rw [Heap.get?_push_ne _ _ _ (by rw [size_push', Heap.size_update]; exact Nat.ne_of_lt (Nat.lt_succ_of_lt ha)), Heap.get?_push_ne _ _ _ (by rw [Heap.size_update]; exact Nat.ne_of_lt ha)]
    exact ho1
  show wpAny (model prog w) A _ P E { s with heap := ((s.heap.update a (Obj.mapSeq fun V => #[])).push (seqObj "tuple" vs.toArray 0)).push (seqObj "list" #[] 0) }
  have hsz : vs.toArray.size = vs.length := by simp
  have fin : ∀ st' : SortSt, (arrOf st').Perm (pairsOf vs) → SortedToK PyProof.Rows.strKind (arrOf st') (pairsOf vs).size →
      P (.done (.ret .none)) { s with heap := sortedHeap s.heap a vs (if b then ((arrOf st').map (·.2)).reverse else (arrOf st').map (·.2)) } := by
    intro st' hp hs
    refine withGoal fun goalX goalBack => ?_
    obtain ⟨ss', h1, h2, h3⟩ := sorted_out_str hS hp hs
    refine goalBack ?_
    clear goalBack goalX
    rw [sortB_eq h2 h3] at h1
    refine h _ ?_
    unfold sortB
    cases b with
    | false => exact h1
    | true => simp only [if_true, Array.toList_reverse]; exact StrsAre.rev h1
  have hstart : (if b = true then (vs.toArray.zip vs.toArray).reverse else vs.toArray.zip vs.toArray).Perm (pairsOf vs) := by
    cases b with
    | false => exact Array.Perm.refl _
    | true => exact Array.perm_iff_toList_perm.mpr (by rw [if_pos rfl, Array.toList_reverse]; exact List.reverse_perm _)
  dsimp only
  have step : ∀ t : Sem Fin, wpAny (model prog w) A t P E { s with heap := ((s.heap.update a (Obj.mapSeq fun V => #[])).push (seqObj "tuple" vs.toArray 0)).push (seqObj "list" #[] 0) } →
      wpAny (model prog w) A (if b = true then (do let _ ← rule "list.sort.reverse"; t) else t) P E { s with heap := ((s.heap.update a (Obj.mapSeq fun V => #[])).push (seqObj "tuple" vs.toArray 0)).push (seqObj "list" #[] 0) } := by
    intro t ht
    split
    · exact wpAny_bind (wpAny_rule ht)
    · exact ht
  refine step _ ?_
  by_cases h2 : vs.toArray.size < 2
  · rw [if_pos h2, if_pos h2]
    refine wpAny_bind (wpAny_pure ?_)
    rw [StateT.run_pure]
    refine wpAny_bind (wpAny_pure ?_)
    dsimp only
    refine wpAny_bind (seqEpoch_at ho6 rfl ?_)
    refine wpAny_bind (listUpdate_at ho6 rfl ?_ (hsz2 := by
      cases b
      · simp only [Bool.false_eq_true, if_false, Array.size_map]; show (vs.toArray.zip vs.toArray).size ≤ _; rw [Array.size_zip, sizeLine_eq]; omega
      · simp only [if_true, Array.size_reverse, Array.size_map]; show (vs.toArray.zip vs.toArray).reverse.size ≤ _; rw [Array.size_reverse, Array.size_zip, sizeLine_eq]; omega))
    simp only [bne_self_eq_false, Bool.false_eq_true, if_false]
    refine wpAny_pure (fin (SortSt.mk' general' (if b = true then (vs.toArray.zip vs.toArray).reverse else vs.toArray.zip vs.toArray) #[] 7 none) hstart ?_)
    intro i j hij hj
    have : i = j := by rw [pairsOf_size] at hj; omega
    subst this; exact KeyOrd.kle_refl _
  · rw [if_neg h2, if_neg h2]
    obtain ⟨v₁, v₂, rest, rfl⟩ : ∃ v₁ v₂ rest, vs = v₁ :: v₂ :: rest := by
      match vs, hsz, h2 with
      | [], _, h2 => simp at h2
      | [_], _, h2 => simp at h2
      | v₁ :: v₂ :: rest, _, _ => exact ⟨v₁, v₂, rest, rfl⟩
    rw [keyKind_strs hS]
    refine wpAny_bind (wpAny_pure ?_)
    refine wpAny_bind (wpAny_mono (wpS_sortRunsK (κ := PyProof.Rows.strKind) strKind_oneLt (a₀ := pairsOf (v₁ :: v₂ :: rest))
      (st := SortSt.mk' oneType' (if b = true then ((v₁ :: v₂ :: rest).toArray.zip (v₁ :: v₂ :: rest).toArray).reverse else (v₁ :: v₂ :: rest).toArray.zip (v₁ :: v₂ :: rest).toArray) #[] 7 none)
      (Q := fun V st' => (arrOf st').Perm (pairsOf (v₁ :: v₂ :: rest)) ∧ failedOf st' = none ∧ SortedToK PyProof.Rows.strKind (arrOf st') (pairsOf (v₁ :: v₂ :: rest)).size)
      (StrsAre.keysOf hS) ⟨hstart, rfl, rfl, rfl⟩ (by rw [pairsOf_size]; simp) (by rw [pairsOf_size]; exact h64) fun st' a1 a2 a3 => ⟨a1, a2, a3⟩) ?_ fun V V e => e)
    rintro ⟨⟨⟩, st'⟩ s' ⟨rfl, hp, hf, hs⟩
    dsimp only
    refine wpAny_bind (seqEpoch_at ho6 rfl ?_)
    refine wpAny_bind (listUpdate_at ho6 rfl ?_ (hsz2 := by
      have e : (Array.map (fun x => x.snd) (arrOf st')).size ≤ sizeLine + 1 := by
        refine Nat.le_trans (Nat.le_of_eq ((Array.size_map ..).trans (hp.size_eq.trans (pairsOf_size _)))) ?_; rw [sizeLine_eq]; omega
      split
      · rw [Array.size_reverse]; exact e
      · exact e))
    rw [hf]
    simp only [bne_self_eq_false, Bool.false_eq_true, if_false]
    exact wpAny_pure (fin st' hp hs)
theorem sorted_rev_strs {l : Addr} {vs : List PySem.Value} {ss : List PySem.Str} {b : Bool} {Q : PySem.Value → Shared → Prop} (hl : s.heap.IsList l vs.toArray) (hS : StrsAre vs ss) (h64 : vs.length < 64)
    (h : ∀ (out : Array PySem.Value), StrsAre out.toList (sortB b ss) → Q (.ref (s.heap.objs.size + 1)) { s with heap := sortedAll s.heap vs out }) :
    wpAny (model prog w) A (call (.builtin "sorted") [.ref l] [(Str.ofString "reverse", .bool b)]) Q E s := by
  refine call_function_entry_kw kind_sorted plain_sorted entry_sorted (args_sorted_rev _ _) ?_
  unfold Builtin.«sorted»
  refine wpAny_bind (m := checkCount "sorted" 1 1 _) (wpAny_pure (wpAny_bind (collect_list hl (wpAny_bind (wpAny_newList ?_)))))
  have hsz : ((s.heap.push (seqObj "list" #[] 0)).update s.heap.objs.size (Obj.mapSeq (· ++ vs.toArray))).objs.size = s.heap.objs.size + 1 := by
    rw [Heap.size_update, size_push']
  have hoL : (((s.heap.push (seqObj "list" #[] 0)).update s.heap.objs.size (Obj.mapSeq (· ++ vs.toArray))).push (seqObj "list" vs.toArray 0)).get? (s.heap.objs.size + 1) = some (seqObj "list" vs.toArray 0) := by
    rw [← hsz]; exact Heap.get?_push_size _ rfl
  show wpAny _ _ _ _ _ { s with heap := ((s.heap.push (seqObj "list" #[] 0)).update s.heap.objs.size (Obj.mapSeq (· ++ vs.toArray))).push (seqObj "list" vs.toArray 0) }
  rw [hsz]
  refine wpAny_bind (wpAny_holding (wpAny_call_entry_kw slot_list_sort ⟨_, hoL, rfl⟩ entry_list_sort (sort_rev_strs hoL hS h64 fun out a1 => ⟨_, rfl, ?_⟩) (args_list_sort_rev _ _)))
  exact wpAny_pure ⟨_, rfl, h out a1⟩
end
section
variable {g : Gd} {n : Nat} {env : Env} {L : Addr} {loc : Loc} {hp : HP}
/-- heaps of sorted() -/
theorem At.sorted {S : List Addr} {h₀ : Heap} {s : Shared} {vs : List PySem.Value} {ss : List PySem.Str} {out : Array PySem.Value} (y : At g S h₀ hp s) (h : StrsAre out.toList ss) :
    At g S h₀ (hp.set (s.heap.objs.size + 1) (.list (strsA ss))) { s with heap := sortedAll s.heap vs out } ∧ hp (s.heap.objs.size + 1) = none := by
  have big : s.heap.get? (s.heap.objs.size + 1) = none := by
    cases q : s.heap.get? (s.heap.objs.size + 1) with
    | none => rfl
    | some o => exact absurd (Heap.lt_size q) (Nat.not_lt.mpr (Nat.le_succ _))
  have h0 : h₀.get? (s.heap.objs.size + 1) = none := by
    cases q : h₀.get? (s.heap.objs.size + 1) with
    | none => rfl
    | some o => obtain ⟨sl, e, _⟩ := y.keep _ o q; rw [big] at e; cases e
  have hpn : hp (s.heap.objs.size + 1) = none := by
    cases q : hp (s.heap.objs.size + 1) with
    | none => rfl
    | some X => obtain ⟨o, e⟩ := (y.own _ X q).1.there; rw [big] at e; cases e
  obtain ⟨e, he⟩ := sortedAll_at s.heap vs out
  exact ⟨(y.ext (h' := sortedAll s.heap vs out) fun b o e => sortedAll_old e).give ⟨out, e, he, StrsAre.Vs h⟩ h0, hpn⟩
theorem c_sorted {l : Addr} {ss : List PySem.Str} {Q : AV → Loc → HP → Prop} (hl : hp l = some (.list (strsA ss))) (h64 : ss.length < 64) (q : ∀ a, hp a = none → Q (.ref a) loc (hp.set a (.list (strsA (sortB false ss))))) :
    ∀ vs, Vs [.ref l] vs → WB g n L (call (.builtin "sorted") vs) loc hp AV.Is Q := by
  intro vs hv
  obtain ⟨t, rfl⟩ := Vs1 hv
  refine WB.lift fun A E h₀ s c y => ?_
  refine withGoal fun goalX goalBack => ?_
  obtain ⟨items, m, ho, it, hi, hsz⟩ := list_at y hl
  refine goalBack ?_
  clear goalBack goalX
  refine sorted_strs (vs := items.toList) (by simpa using it) (Vs_strsAre hi) (by rw [← hi.length]; simpa [strsA] using h64) fun out ss' a1 a2 a3 => ?_
  rw [sortB_eq a2 a3] at a1
  obtain ⟨z, zn⟩ := y.sorted (vs := items.toList) a1
  exact ⟨.ref _, _, ⟨0, rfl⟩, z, q _ zn⟩
theorem c_sorted_rev {l : Addr} {ss : List PySem.Str} {b : Bool} {Q : AV → Loc → HP → Prop} (hl : hp l = some (.list (strsA ss))) (h64 : ss.length < 64) (q : ∀ a, hp a = none → Q (.ref a) loc (hp.set a (.list (strsA (sortB b ss))))) :
    ∀ vs kv, Vs [.ref l] vs → (AV.bool b).Is kv → WB g n L (call (.builtin "sorted") vs [(Str.ofString "reverse", kv)]) loc hp AV.Is Q := by
  rintro vs _ hv ⟨u, rfl⟩
  obtain ⟨t, rfl⟩ := Vs1 hv
  refine WB.lift fun A E h₀ s c y => ?_
  refine withGoal fun goalX goalBack => ?_
  obtain ⟨items, m, ho, it, hi, hsz⟩ := list_at y hl
  refine goalBack ?_
  clear goalBack goalX
  refine sorted_rev_strs (vs := items.toList) (by simpa using it) (Vs_strsAre hi) (by rw [← hi.length]; simpa [strsA] using h64) fun out a1 => ?_
  obtain ⟨z, zn⟩ := y.sorted (vs := items.toList) a1
  exact ⟨.ref _, _, ⟨0, rfl⟩, z, q _ zn⟩
variable {nms : List (PySem.Str × NameKind)} {cs : List (PySem.Str × Addr)}
/-- a built-in function with one keyword -/
theorem BK_ {x : PySem.Str} {id : String} {kn : PySem.Str} {p pos kp : Pos} {e kv : PySem.Expr} {Q : AV → Loc → HP → Prop} (F : FEnv env nms cs) (G : Gnd g) (hn : nsIn (myK g.w.params) mainGlobals x = some none) (hv : bootBuiltins x = some (.builtin id))
    (hl : nms.lookup x = some .globalImplicit) (hne : x ≠ "__name__") (hd : (x == ("__debug__" : PySem.Str)) = false) (he : backTo pos (starEach [e] env) = (false, eval e env) :: backTo pos (starEach [] env)) (hplain : (backTo pos (starEach [e] env)).any (·.1) = false)
    (h : ES g n env pos [e] loc hp fun as l₁ h₁ => EV g n env kv l₁ h₁ fun b l₂ h₂ => ∀ vs v, Vs as vs → b.Is v → WB g n env.locals (call (.builtin id) vs [(kn, v)]) l₂ h₂ AV.Is Q) :
    EV g n env (.Call (.Name x p) [e] [⟨some kn, kv, kp⟩] pos) loc hp Q := by
  intro A E h₀ s c y
  show wpAny _ A (do callWith pos (← eval (.Name x p) env) [] (backTo pos (starEach [e] env)) (backToKw pos (keywordEach [⟨some kn, kv, kp⟩] env))) _ _ _
  refine wpAny_bind ?_
  obtain ⟨mg, mb, T⟩ := G.top
  refine Name_function_global F.kind ((F.look x).trans hl) (loadGlobal_builtin (env := env) (by rw [F.glob]; exact T.g.keeps (stays c y)) (mg_none_of G.kin T.g hn) (by rw [F.blt]; exact T.b.keeps (stays c y)) ((T.builtins x hne).trans hv) ?_) hd
  refine callWith_kw (wpAny_mono (h A E h₀ s c y) (fun vs s₁ hh => ?_) fun V V e => e) he hplain
  refine out3 hh fun as l₁ h₁ r y₁ q => ?_
  refine kws_cons (wpAny_mono (q A E h₀ s₁ c y₁) (fun v s₂ hh => ?_) fun V V e => e)
  refine out3 hh fun b l₂ h₂ rb y₂ q => ?_
  exact kws_nil (q vs v r rb A E h₀ s₂ c y₂)
end
end Mine
end
section
open PySem PySem.W PySem.Calls PyProof.Rows
namespace Mine
noncomputable def bytesA (b : Array UInt8) : List AV := b.toList.map fun c => .int (c.toNat : Int)
section
variable {g : Gd} {n : Nat} {env : Env} {L : Addr} {loc : Loc} {hp : HP}
theorem lstPart {v : PySem.Value} {a : AV} {k : Option Int} (r : a.Is v) (e : a.oi = some k) : IsPart v k := by
  obtain ⟨t, rfl⟩ := r
  cases a <;> simp [AV.oi] at e
  · subst e; exact .none
  · subst e; exact .int _ _
theorem EV_Sub_slice_bytes {value : PySem.Expr} {lo hi : Option PySem.Expr} {p pos : Pos} {Q : AV → Loc → HP → Prop}
    (h : EV g n env value loc hp fun a l₁ h₁ => EP g n env lo l₁ h₁ fun b l₂ h₂ => EP g n env hi l₂ h₂ fun c l₃ h₃ => ∃ x i j, a = .bytes x ∧ b.oi = some i ∧ c.oi = some j ∧ x.size ≤ 100000 ∧ Q (.bytes (KBy.picked x i j)) l₃ h₃) :
    EV g n env (.Subscript value (.Slice lo hi none p) pos) loc hp Q := by
  intro A E h₀ s cx y
  refine Subscript_ (wpAny_mono (h A E h₀ s cx y) (fun va s₁ hh => ?_) fun V V e => e)
  refine out3 hh fun a l₁ h₁ ra y₁ q => ?_
  refine wpAny_Slice (wpAny_mono (q A E h₀ s₁ cx y₁) (fun vb s₂ hh => ?_) fun V V e => e)
  refine out3 hh fun b l₂ h₂ rb y₂ q => ?_
  refine wpAny_mono (q A E h₀ s₂ cx y₂) (fun vc s₃ hh => ?_) fun V V e => e
  refine out3 hh fun c l₃ h₃ rc y₃ hQ => ?_
  refine withGoal fun goalX goalBack => ?_
  obtain ⟨x, i, j, rfl, hi, hj, hz, q⟩ := hQ
  refine goalBack ?_
  clear goalBack goalX
  obtain ⟨t, rfl⟩ := ra
  rw [evalPart_none]
  refine wpAny_pure (sub_tail (M := model pg g.w) (T := "bytes") (typeIs_bytes _ x t) FB.slot_bytes_getitem.lookup ?_)
  refine wpAny_with_toks (n := 1) y₃.at_.tok (getItem_meets (typeIs_bytes _ _ _) (by decide) FB.slot_bytes_getitem FB.entry_bytes_getitem (FB.args_bytes_getitem_2 _ _) (KBc.meets_slice2 x t _ (lstPart rb hi) (lstPart rc hj))
    ⟨Heap.IsSliceOf.new _ _ _ _, Nat.le_trans (KBc.size_picked_le x i j) (sz_le hz), fun t' k htk => ⟨.bytes (KBy.picked x i j), l₃, h₃, ⟨t', rfl⟩, ?_, q⟩⟩)
  exact y₃.turned htk (fun V => False) (fun b o V e => Heap.get?_push_of_some _ e) (fun V h => h.elim)
theorem bin_add_bytes {x y : Array UInt8} {Q : AV → Loc → HP → Prop} (hz : x.size + y.size ≤ 100000) (q : Q (.bytes (x ++ y)) loc hp) : ∀ va vb, (AV.bytes x).Is va → (AV.bytes y).Is vb → WB g n L (binaryOp .Add va vb) loc hp AV.Is Q := by
  rintro _ _ ⟨t, rfl⟩ ⟨u, rfl⟩
  exact WB_puts (v := .bytes (x ++ y)) (fun A E s Q V h => KBa.add_K rfl rfl (by rw [KBw.ints_length, KBw.ints_length]; lia) fun t' k V => h t' k) q
theorem c_abs {a : Int} {Q : AV → Loc → HP → Prop} (q : Q (.int (if a < 0 then -a else a)) loc hp) : ∀ vs, Vs [.int a] vs → WB g n L (call (.builtin "abs") vs) loc hp AV.Is Q := by
  intro vs hv
  obtain ⟨t, rfl⟩ := Vs1 hv
  exact WB_puts (v := .int (if a < 0 then -a else a)) (fun A E s Q V h => call_abs_int h) q
theorem c_int {a : Int} {Q : AV → Loc → HP → Prop} (q : Q (.int a) loc hp) : ∀ vs, Vs [.int a] vs → WB g n L (call (.type "int") vs) loc hp AV.Is Q := by
  intro vs hv
  obtain ⟨t, rfl⟩ := Vs1 hv
  exact WB_puts (v := .int a) (fun A E s Q V h => call_int_int (h t s.toks)) q
theorem tru_int {a : Int} {Q : Bool → Loc → HP → Prop} (q : Q (a != 0) loc hp) : ∀ va, (AV.int a).Is va → WB g n L (truthy va) loc hp (Eq (α := Bool)) Q := by
  rintro _ ⟨t, rfl⟩; exact WB_putsB (b := a != 0) (fun A E s Q V h => P.truthy_int (h s.toks)) q
theorem c_divmod {a b : Int} {Q : AV → Loc → HP → Prop} (hb : b ≠ 0) (hpy : Builtin.divisionGoesByPylong a b = false) (q : ∀ D, hp D = none → Q (.ref D) loc (hp.set D (.tuple [.int (a.fdiv b), .int (a.fmod b)]))) : ∀ vs, Vs [.int a, .int b] vs → WB g n L (call (.builtin "divmod") vs) loc hp AV.Is Q := by
  intro vs hv
  obtain ⟨t, u, rfl⟩ := Vs2 hv
  refine WB.lift fun A E h₀ s c y => ?_
  refine divmod_int hb ⟨.ref _, _, ⟨0, rfl⟩, (y.push (X := .tuple [.int (a.fdiv b), .int (a.fmod b)]) ⟨_, _, Heap.get?_push_size _ rfl, show Vs _ [_, _] from ⟨⟨_, rfl⟩, ⟨_, rfl⟩, trivial⟩⟩).toks (Nat.le_add_left 1 _), q _ y.freshP⟩ (.inl hpy)
theorem c_len_bytes {x : Array UInt8} {Q : AV → Loc → HP → Prop} (hz : x.size ≤ 100000) (q : Q (.int (x.size : Nat)) loc hp) : ∀ vs, Vs [.bytes x] vs → WB g n L (call (.builtin "len") vs) loc hp AV.Is Q := by
  intro vs hv
  obtain ⟨t, rfl⟩ := Vs1 hv
  exact WB_puts (v := .int (x.size : Nat)) (fun A E s Q V h => len_bytes (by lia) (h _ _)) q
theorem cmp_eq_bytes {x y : Array UInt8} {Q : AV → Loc → HP → Prop} (q : Q (.bool (x.toList == y.toList)) loc hp) : ∀ va vb, (AV.bytes x).Is va → (AV.bytes y).Is vb → WB g n L (compareOp .Eq va vb) loc hp AV.Is Q := by
  rintro _ _ ⟨t, rfl⟩ ⟨u, rfl⟩; exact WB_puts (v := .bool (x.toList == y.toList)) (fun A E s Q V h => eq_bytes (h 0 s.toks)) q
theorem Src.bytes {b : Array UInt8} : Src g (.bytes b) hp hp (bytesA b) (fun h => h) := by
  refine ⟨fun b e => e, fun b hp' e e' => e', fun A E h₀ s v Q hh x hv K => ?_⟩
  obtain ⟨t, rfl⟩ := hv
  refine KBw.pyIter_bytes (K _ [s.heap.objs.size] [s.heap.objs.size] (fun i h => KBw.IsBytesIter h s.heap.objs.size b t i) _ (fun A' hh' => ?_) ⟨_, Heap.get?_push_size _ rfl, rfl, rfl⟩
    (x.push0 _) (fun b hb => ?_) (fun i h st b hb => ?_) (fun b o e => Heap.get?_push_of_some _ e) fun s' hp' y hk => y)
  · have hl : (bytesA b).length = b.size := by simp [bytesA]
    rw [hl]
    exact Walks.imp (KBw.walks hh' _ b t) fun i v hi ⟨c, u, e, e'⟩ => ⟨.int (c.toNat : Int), by simp [bytesA, e], u, e'⟩
  · simp at hb; subst hb
    exact ⟨x.freshP, .inl (by cases q : s.heap.get? s.heap.objs.size with | none => rfl | some o => exact absurd (Heap.lt_size q) (Nat.lt_irrefl _))⟩
  · simp at hb; subst hb; obtain ⟨o, ho, _⟩ := st; exact ⟨o, ho⟩
theorem IntsAre.items : ∀ {vs : List PySem.Value} {ns : List Int}, IntsAre vs ns → ∃ xs : List (Int × Tok), vs = xs.map (fun p => .int p.1 p.2) ∧ xs.map (·.1) = ns
  | _, _, .nil => ⟨[], rfl, rfl⟩
  | _, _, .cons n t r => by obtain ⟨xs, rfl, e⟩ := IntsAre.items r; exact ⟨(n, t) :: xs, rfl, by simp [e]⟩
theorem c_minmax {l : Addr} {ns : List Int} {Q : AV → Loc → HP → Prop} (hl : hp l = some (.list (intsA ns))) (hne : ns ≠ []) (id : String) (hid : id = "min" ∨ id = "max") (q : ∀ x ∈ ns, Q (.int x) loc hp) (hg : g.hn = true := by first | with_reducible assumption | exact Gnd.hn (by with_reducible assumption)) : ∀ vs, Vs [.ref l] vs → WB g n L (call (.builtin id) vs) loc hp AV.Is Q := by
  intro vs hv
  obtain ⟨t, rfl⟩ := Vs1 hv
  refine WB.lift fun A E h₀ s c y => ?_
  refine withGoal fun goalX goalBack => ?_
  obtain ⟨items, m, ho, it, hi, hsz⟩ := list_at y hl
  refine goalBack ?_
  clear goalBack goalX
  obtain ⟨xs, hxs, hns⟩ := IntsAre.items (Vs_ints hi)
  have hit : s.heap.IsList l (intItems xs.toArray) := by
    have : items = intItems xs.toArray := by apply Array.toList_inj.mp; simp [intItems, hxs]
    rw [← this]; exact it
  have hpos : 0 < xs.toArray.size := by
    rw [← hns] at hne; cases xs with | nil => exact absurd rfl hne | cons _ _ => simp
  have fin : ∀ (v : PySem.Value) (h' : Heap) (tk i : Nat), (intItems xs.toArray)[i]? = some v → (∀ b o, s.heap.get? b = some o → h'.get? b = some o) → 1 ≤ tk → ∃ b hp', AV.Is b v ∧ At g (SA A) h₀ hp' { s with heap := h', toks := tk } ∧ Q b loc hp' := fun v h' tk i hv hk htk => by
    simp only [intItems, Array.getElem?_map, Option.map_eq_some_iff] at hv
    obtain ⟨p, hp', rfl⟩ := hv
    refine ⟨.int p.1, hp, ⟨p.2, rfl⟩, (y.ext hk).toks htk, q _ ?_⟩
    rw [← hns]; exact List.mem_map.mpr ⟨p, by have := Array.mem_of_getElem? hp'; simpa using this, rfl⟩
  rcases hid with rfl | rfl
  · exact wpAny_with_toks (n := 1) y.tok (min_intList (c.handled hg) hit hpos fun v h' tk hv hk htk => fin v h' tk _ hv hk htk)
  · exact wpAny_with_toks (n := 1) y.tok (max_intList (c.handled hg) hit hpos fun v h' tk hv hk htk => fin v h' tk _ hv hk htk)
theorem cmp_eq_ints {l b : Addr} {ns ms : List Int} {Q : AV → Loc → HP → Prop} (hl : hp l = some (.list (intsA ns))) (hb : hp b = some (.list (intsA ms))) (q : Q (.bool (decide (ns = ms))) loc hp) : ∀ va vb, (AV.ref l).Is va → (AV.ref b).Is vb → WB g n L (compareOp .Eq va vb) loc hp AV.Is Q := by
  rintro _ _ ⟨t, rfl⟩ ⟨u, rfl⟩
  refine WB.lift fun A E h₀ s c y => ?_
  refine withGoal fun goalX goalBack => ?_
  obtain ⟨i1, m1, ho1, it1, hi1, _⟩ := list_at y hl
  refine goalBack ?_
  clear goalBack goalX
  refine withGoal fun goalX goalBack => ?_
  obtain ⟨i2, m2, ho2, it2, hi2, _⟩ := list_at y hb
  refine goalBack ?_
  clear goalBack goalX
  exact ke_eq_ints (xs := i1.toList) (ys := i2.toList) (by simpa using it1) (by simpa using it2) (Vs_ints hi1) (Vs_ints hi2) (by have := c.units; show A.units + 64 < 9900; lia) ⟨.bool _, hp, ⟨0, rfl⟩, y, q⟩
theorem cmp_ne_ints {l b : Addr} {ns ms : List Int} {Q : AV → Loc → HP → Prop} (hl : hp l = some (.list (intsA ns))) (hb : hp b = some (.list (intsA ms))) (q : Q (.bool (!decide (ns = ms))) loc hp) : ∀ va vb, (AV.ref l).Is va → (AV.ref b).Is vb → WB g n L (compareOp .NotEq va vb) loc hp AV.Is Q := by
  rintro _ _ ⟨t, rfl⟩ ⟨u, rfl⟩
  refine WB.lift fun A E h₀ s c y => ?_
  refine withGoal fun goalX goalBack => ?_
  obtain ⟨i1, m1, ho1, it1, hi1, _⟩ := list_at y hl
  refine goalBack ?_
  clear goalBack goalX
  refine withGoal fun goalX goalBack => ?_
  obtain ⟨i2, m2, ho2, it2, hi2, _⟩ := list_at y hb
  refine goalBack ?_
  clear goalBack goalX
  exact ke_ne_ints (xs := i1.toList) (ys := i2.toList) (by simpa using it1) (by simpa using it2) (Vs_ints hi1) (Vs_ints hi2) (by have := c.units; show A.units + 64 < 9900; lia) ⟨.bool _, hp, ⟨0, rfl⟩, y, q⟩
theorem rep_list {α : Type} (a : Array α) : ∀ (k : Nat), ((List.replicate k a).foldl (fun x1 x2 => x1 ++ x2) #[]).toList = (List.replicate k a.toList).flatten := by
  have : ∀ (k : Nat) (acc : Array α), ((List.replicate k a).foldl (fun x1 x2 => x1 ++ x2) acc).toList = acc.toList ++ (List.replicate k a.toList).flatten := by
    intro k
    induction k with
    | zero => simp
    | succ k ih => intro acc; simp [List.replicate_succ, ih]
  intro k; simpa using this k #[]
/-- [0] * k -/
theorem bin_mul_list {l : Addr} {x : AV} {k : Int} {Q : AV → Loc → HP → Prop} (hl : hp l = some (.list [x])) (h0 : 0 ≤ k) (hk : k ≤ 1000) (q : ∀ D, hp D = none → Q (.ref D) loc (hp.set D (.list (List.replicate k.toNat x)))) : ∀ va vb, (AV.ref l).Is va → (AV.int k).Is vb → WB g n L (binaryOp .Mult va vb) loc hp AV.Is Q := by
  rintro _ _ ⟨t, rfl⟩ ⟨u, rfl⟩
  refine WB.lift fun A E h₀ s c y => ?_
  refine withGoal fun goalX goalBack => ?_
  obtain ⟨items, m, ho, it, hi, hsz⟩ := list_at y hl
  refine goalBack ?_
  clear goalBack goalX
  have h63 : (2 : Int) ^ 63 = 9223372036854775808 := by decide
  have h1 : items.size = 1 := by simpa using hsz
  refine wpAny_binaryOp_repeat_ref (T := "list") (U := "int") (by decide) ⟨_, ho, rfl⟩ (fun s' => typeIs_int s' k u) noFill_list_mul F.fills_int_mul F.slot_int_rmul repeat_list F.slot_int_index.lookup
    (call_meets F.slot_int_rmul (typeIs_int s k u) F.entry_int_rmul (F.args_int_rmul_2 _ _) (int___rmul___int_list k u l items m)
      ⟨ho, rfl, ⟨_, ho, rfl⟩, call_meets F.slot_list_mul ⟨_, ho, rfl⟩ F.entry_list_mul (F.args_list_mul_2 _ _)
        (AutoListH.list___mul___list_int_3 l items m k u (by simp [Builtin.List.listFitsIndex]; lia) (by rw [h1]; lia) (by rw [h1]; simp [Builtin.List.listTooLong, sizeLine]; lia))
        ⟨ho, ⟨.ref _, _, ⟨0, rfl⟩, y.push (X := .list (List.replicate k.toNat x)) ⟨_, _, Heap.get?_push_size _ rfl, ?_⟩, q _ y.freshP⟩⟩⟩)
  have hne : items.isEmpty = false := by rw [Array.isEmpty_eq_false_iff]; rintro rfl; simp at h1
  rw [hne, if_neg (by decide), rep_list]
  obtain ⟨v, hv⟩ := Vs1 hi
  rw [hv]
  have : ∀ k : Nat, Vs (List.replicate k x) (List.replicate k [x.val v]).flatten := fun k => by
    induction k with
    | zero => trivial
    | succ k ih => exact ⟨⟨v, rfl⟩, ih⟩
  simpa using this k.toNat
end
end Mine
end
section
open PySem PySem.W PySem.Calls PyProof.Rows
namespace Mine
noncomputable def dstore (es : Loc) (k : PySem.Str) (v : AV) : Loc := if es.any (fun p => p.1 = k) then es.map (fun p => if p.1 = k then (p.1, v) else p) else es ++ [(k, v)]
theorem Ps.len : ∀ {es : Loc} {kvs : List (PySem.Str × PySem.Value)}, Ps es kvs → es.length = kvs.length
  | [], [], _ => rfl
  | _ :: _, _ :: _, h => by simp [Ps.len h.2.2]
theorem Ps.at {k : PySem.Str} {a : AV} : ∀ {es : Loc} {kvs : List (PySem.Str × PySem.Value)}, Ps es kvs → lk k es = some a → ∃ v, valueAt kvs k = some v ∧ a.Is v
  | (y, b) :: es, (z, u) :: kvs, h, e => by
    have h1 : y = z := h.1
    subst h1
    unfold valueAt
    by_cases q : y = k
    · subst q; rw [lk_cons_self] at e; cases e; exact ⟨u, by simp, h.2.1⟩
    · rw [lk_cons_ne _ _ q] at e
      obtain ⟨v, e', i⟩ := Ps.at h.2.2 e
      exact ⟨v, by simpa [q, valueAt] using e', i⟩
theorem Ps.atNone {k : PySem.Str} : ∀ {es : Loc} {kvs : List (PySem.Str × PySem.Value)}, Ps es kvs → lk k es = none → valueAt kvs k = none
  | [], [], _, _ => rfl
  | (y, b) :: es, (z, u) :: kvs, h, e => by
    have h1 : y = z := h.1
    subst h1
    by_cases q : y = k
    · subst q; rw [lk_cons_self] at e; cases e
    · rw [lk_cons_ne _ _ q] at e
      have := Ps.atNone h.2.2 e
      unfold valueAt at this ⊢; simpa [q] using this
theorem Ps.any {k : PySem.Str} : ∀ {es : Loc} {kvs : List (PySem.Str × PySem.Value)}, Ps es kvs → es.any (fun p => p.1 = k) = kvs.any (fun p => p.1 = k)
  | [], [], _ => rfl
  | (y, b) :: es, (z, u) :: kvs, h => by
    have h1 : y = z := h.1
    subst h1
    simp only [List.any_cons, Ps.any h.2.2]
theorem Ps.put {k : PySem.Str} {a : AV} {v : PySem.Value} (ha : a.Is v) : ∀ {es : Loc} {kvs : List (PySem.Str × PySem.Value)}, Ps es kvs → Ps (es.map fun p => if p.1 = k then (p.1, a) else p) (kvs.map fun p => if p.1 = k then (p.1, v) else p)
  | [], [], _ => trivial
  | (y, b) :: es, (z, u) :: kvs, h => by
    have h1 : y = z := h.1
    subst h1
    rw [List.map_cons, List.map_cons]
    by_cases q : y = k
    · rw [if_pos q, if_pos q]; exact ⟨rfl, ha, Ps.put ha h.2.2⟩
    · rw [if_neg q, if_neg q]; exact ⟨rfl, h.2.1, Ps.put ha h.2.2⟩
theorem Ps.stored {k : PySem.Str} {a : AV} {v : PySem.Value} {es : Loc} {kvs : List (PySem.Str × PySem.Value)} (h : Ps es kvs) (ha : a.Is v) : Ps (dstore es k a) (PySem.stored kvs k v) := by
  unfold dstore PySem.stored
  rw [h.any]
  split
  · exact Ps.put ha h
  · exact Ps.append h ⟨rfl, ha, trivial⟩
section
variable {g : Gd} {n : Nat} {env : Env} {L : Addr} {loc : Loc} {hp : HP}
theorem dict_at {S : List Addr} {h₀ : Heap} {s : Shared} {d : Addr} {es : Loc} (x : At g S h₀ hp s) (e : hp d = some (.dict es)) : (d == sysModules) = false ∧ ∃ kvs, s.heap.DictOf (strKind pg g.w) d kvs ∧ Ps es kvs := (x.own d _ e).1
theorem strIs (k : PySem.Str) (t : Tok) : (strKind pg g.w).is k (.str k t) = true := strKind_is pg g.w k t
theorem gi_dict {d : Addr} {es : Loc} {k : PySem.Str} {x : AV} {Q : AV → Loc → HP → Prop} (hd : hp d = some (.dict es)) (hx : lk k es = some x) (q : Q x loc hp) :
    ∀ va vb, (AV.ref d).Is va → (AV.str k).Is vb → WB g n L (getItem va vb) loc hp AV.Is Q := by
  rintro _ _ ⟨t, rfl⟩ ⟨u, rfl⟩
  refine WB.lift fun A E h₀ s c y => ?_
  refine withGoal fun goalX goalBack => ?_
  obtain ⟨_, kvs, hD, hp'⟩ := dict_at y hd
  refine goalBack ?_
  clear goalBack goalX
  obtain ⟨v, hv, iv⟩ := hp'.at hx
  exact wpAny_getItem_of (strIs k u) hD.mapOf hv ⟨x, hp, iv, y.toks (Nat.le_add_left 1 _), q⟩
theorem si_dict {d : Addr} {es : Loc} {k : PySem.Str} {x : AV} {Q : Loc → HP → Prop} (hd : hp d = some (.dict es)) (hz : es.length ≤ 100000) (q : Q loc (hp.set d (.dict (dstore es k x)))) :
    ∀ va vb vx, (AV.ref d).Is va → (AV.str k).Is vb → x.Is vx → UN g n L (setItem va vb vx) loc hp Q := by
  rintro _ _ vx ⟨t, rfl⟩ ⟨u, rfl⟩ hx
  refine WB.lift (Q := fun V l h => Q l h) fun A E h₀ s c y => ?_
  refine withGoal fun goalX goalBack => ?_
  obtain ⟨hs, kvs, hD, hp'⟩ := dict_at y hd
  refine goalBack ?_
  clear goalBack goalX
  refine wpAny_setItem_pairs (strIs k u) hD (fun h' hD' hs' => ⟨(), _, trivial, ((y.put hd (fun b o hb e => hs'.extBut b o hb e) (Y := .dict (dstore es k x)) ⟨hs, _, hD', hp'.stored hx⟩).toks (Nat.le_add_left 1 _)), q⟩) ?_
  rw [← hp'.len]; exact sz_le hz
theorem EX_AssignSub {o i value : PySem.Expr} {pos' pos : Pos} {Q : AF → Loc → HP → Prop}
    (h : EV g n env value loc hp fun x l h => EV g n env o l h fun a l h => EV g n env i l h fun b l h => ∀ va vb vx, a.Is va → b.Is vb → x.Is vx → UN g n env.locals (setItem va vb vx) l h fun l h => Q .next l h)
    (hs : swapsWith value (some (.Subscript o i pos')) pos.line env = pure false) : EX g n env (.Assign [.Subscript o i pos'] value pos) loc hp Q :=
  fun A E h₀ s c x => wpAny_Assign_Subscript (wpAny_mono (h A E h₀ s c x) (fun V V ⟨_, _, _, rx, x1, k1⟩ => wpAny_mono (k1 A E h₀ _ c x1) (fun V V ⟨_, _, _, ra, x2, k2⟩ => wpAny_mono (k2 A E h₀ _ c x2) (fun V V ⟨_, _, _, rb, x3, k3⟩ =>
    wpAny_mono (k3 _ _ _ ra rb rx A E h₀ _ c x3) (fun V V ⟨_, l, h, _, y, q⟩ => ⟨.next, l, h, rfl, y, q⟩) fun V V e => e) fun V V e => e) fun V V e => e) fun V V e => e) hs
theorem low_new (G : Gnd g) {A : Around} {h₀ : Heap} {s : Shared} (c : Cx g n A h₀) (y : At g (SA A) h₀ hp s) : (s.heap.objs.size == sysModules) = false := by
  obtain ⟨mg, mb, T⟩ := G.top
  refine withGoal fun goalX goalBack => ?_
  obtain ⟨mc, ⟨o, es, ep, ho, _⟩, _⟩ := T.nolimit
  refine goalBack ?_
  clear goalBack goalX
  have h1 : cStatics < s.heap.objs.size := Heap.lt_size (staysH c y _ _ ho)
  have h2 : (2 : Nat) < s.heap.objs.size := h1
  have : s.heap.objs.size ≠ sysModules := fun h => by rw [h] at h2; exact absurd h2 (by decide)
  simpa using this
theorem EV_Dict0 {pos : Pos} {Q : AV → Loc → HP → Prop} (G : Gnd g) (q : ∀ D, hp D = none → Q (.ref D) loc (hp.set D (.dict []))) : EV g n env (.Dict [] [] pos) loc hp Q := by
  refine WB.lift fun A E h₀ s c y => ?_
  rw [eval_Dict_empty]
  refine wpAny_bind (wpAny_standAt ?_)
  show wpAny _ _ (newObj _ _) _ _ _
  refine wpAny_newObj_type ⟨.ref _, _, ⟨0, rfl⟩, y.push (X := .dict []) ⟨low_new G c y, [], ?_, trivial⟩, q _ y.freshP⟩
  exact Heap.DictOf.new _
theorem EV_Dict1 {k v : PySem.Expr} {pos : Pos} {Q : AV → Loc → HP → Prop} (G : Gnd g)
    (h : ∀ D, hp D = none → EV g n env k loc (hp.set D (.dict [])) fun a l h => EV g n env v l h fun b l h => ∃ x, a = .str x ∧ h D = some (.dict []) ∧ Q (.ref D) l (h.set D (.dict [(x, b)]))) : EV g n env (.Dict [some k] [v] pos) loc hp Q := by
  intro A E h₀ s c y
  have hLs : env.locals < s.heap.objs.size := by obtain ⟨m, ⟨o, es, ep, ho, r⟩, hm⟩ := y.loc; exact Heap.lt_size ho
  have hlow : (s.heap.objs.size == sysModules) = false := by
    obtain ⟨mg, mb, T⟩ := G.top
    refine withGoal fun goalX goalBack => ?_
    obtain ⟨mc, ⟨o, es, ep, ho, _⟩, _⟩ := T.nolimit
    refine goalBack ?_
    clear goalBack goalX
    have h2 : (2 : Nat) < s.heap.objs.size := Heap.lt_size (stays c y _ _ ho)
    have : s.heap.objs.size ≠ sysModules := fun h => by rw [h] at h2; exact absurd h2 (by decide)
    simpa using this
  have y1 : AtB g (SA A) h₀ env.locals loc (hp.set s.heap.objs.size (.dict [])) { s with heap := s.heap.push { cls := .type "dict", data := .dict #[] } } := by
    refine ⟨y.at_.push (X := .dict []) ⟨hlow, [], Heap.DictOf.new _, trivial⟩, ?_, (HP.set_ne (Nat.ne_of_lt hLs)).trans y.hpL, y.hL⟩
    refine withGoal fun goalX goalBack => ?_
    obtain ⟨m, ⟨o, es, ep, ho, r⟩, hm⟩ := y.loc
    refine goalBack ?_
    clear goalBack goalX
    exact ⟨m, ⟨o, es, ep, Heap.get?_push_of_some _ ho, r⟩, hm⟩
  refine wpAny_Dict_walk (knd := strKind pg g.w) rfl rfl (by simp) (by simp) (pairTrees_cons_walk (wpAny_mono (h _ y.at_.freshP A E h₀ _ c y1) (fun kv s₁ hh => ?_) fun V V e => e))
  refine out3 hh fun a l₁ h₁ ra y₁ q => ?_
  refine wpAny_mono (q A E h₀ s₁ c y₁) (fun vv s₂ hh => pairTrees_nil_walk ?_) fun V V e => e
  refine out3 hh fun b l₂ h₂ rb y₂ hQ => ?_
  refine withGoal fun goalX goalBack => ?_
  obtain ⟨x, rfl, hD, q⟩ := hQ
  refine goalBack ?_
  clear goalBack goalX
  obtain ⟨t, rfl⟩ := ra
  refine withGoal fun goalX goalBack => ?_
  obtain ⟨_, kvs, hDo, hps⟩ := dict_at y₂.at_ hD
  refine goalBack ?_
  clear goalBack goalX
  have hk : kvs = [] := by cases kvs with | nil => rfl | cons _ _ => exact hps.elim
  subst hk
  refine ⟨[(x, vv)], ⟨strIs x t, rfl, trivial⟩, hDo, fun h' hD' hs' => ⟨.ref s.heap.objs.size, l₂, _, ⟨0, rfl⟩, ⟨(y₂.at_.put hD (fun b o hb e => hs'.extBut b o hb e) (Y := .dict [(x, b)]) ⟨hlow, _, hD', ?_⟩).toks (Nat.le_add_left 1 _), ?_, ?_, y₂.hL⟩, q⟩⟩
  · exact ⟨rfl, rb, trivial⟩
  · refine withGoal fun goalX goalBack => ?_
    obtain ⟨m, ⟨o, es, ep, ho, r⟩, hm⟩ := y₂.loc
    refine goalBack ?_
    clear goalBack goalX
    exact ⟨m, ⟨o, es, ep, hs'.extBut _ _ (Nat.ne_of_lt hLs) ho, r⟩, hm⟩
  · exact (HP.set_ne (Nat.ne_of_lt hLs)).trans y₂.hpL
end
end Mine
end
section
open PySem PySem.W PySem.Calls PyProof.Rows
namespace Mine
theorem HP.set_none_iff {hp : HP} {a b : Addr} {X : AO} : (hp.set a X) b = none ↔ b ≠ a ∧ hp b = none := by
  by_cases h : b = a
  · subst h; simp
  · rw [HP.set_ne h]; simp [h]
section
variable {g : Gd} {n : Nat} {env : Env} {L : Addr} {loc : Loc} {hp : HP}
theorem swaps_of {cs : List (PySem.Str × Addr)} {fd : FuncData} (F : FEnv env fd.scope.names cs) (hk : fd.scope.kind = .function) (v : PySem.Expr) (t : Option PySem.Expr) (line : Nat) : swapsWith v t line env = swapsWith v t line (callEnv fd 0 0) := by
  have h0 : (callEnv fd 0 0).scope.kind = .function := hk
  have h1 : env.blockKind = (callEnv fd 0 0).blockKind := by unfold Env.blockKind; rw [F.kind, h0]
  have h2 : env.kindOf = (callEnv fd 0 0).kindOf := funext fun x => F.look x
  have h3 : env.scope.kind = (callEnv fd 0 0).scope.kind := F.kind.trans h0.symm
  unfold swapsWith
  rw [h1, h2, h3]
/-- xs[k:] -/
theorem EV_Sub_from_list {value : PySem.Expr} {lo : PySem.Expr} {p pos : Pos} {Q : AV → Loc → HP → Prop}
    (h : EV g n env value loc hp fun a l₁ h₁ => EV g n env lo l₁ h₁ fun b l₃ h₃ => ∃ t xs k, a = .ref t ∧ h₃ t = some (.list xs) ∧ b = .int ((k : Nat) : Int) ∧ xs.length ≤ 100000 ∧ ∀ D, h₃ D = none → Q (.ref D) l₃ (h₃.set D (.list (xs.drop k)))) :
    EV g n env (.Subscript value (.Slice (some lo) none none p) pos) loc hp Q := by
  intro A E h₀ s cx y
  refine Subscript_ (wpAny_mono (h A E h₀ s cx y) (fun va s₁ hh => ?_) fun V V e => e)
  refine out3 hh fun a l₁ h₁ ra y₁ q => ?_
  refine wpAny_Slice ?_
  show wpAny _ _ (eval lo env) _ _ _
  refine wpAny_mono (q A E h₀ s₁ cx y₁) (fun vb s₂ hh => ?_) fun V V e => e
  rw [evalPart_none]
  refine wpAny_pure (wpAny_pure ?_)
  refine out3 hh fun b l₃ h₃ rb y₃ hQ => ?_
  refine withGoal fun goalX goalBack => ?_
  obtain ⟨t, xs, k, rfl, ht, rfl, hz, q⟩ := hQ
  refine goalBack ?_
  clear goalBack goalX
  obtain ⟨u, rfl⟩ := ra
  obtain ⟨u', rfl⟩ := rb
  refine withGoal fun goalX goalBack => ?_
  obtain ⟨items, m, ho, it, hi, hsz⟩ := list_at y₃.at_ ht
  refine goalBack ?_
  clear goalBack goalX
  have hLs : env.locals < s₂.heap.objs.size := by obtain ⟨m, ⟨o, es, ep, ho, r⟩, hm⟩ := y₃.loc; exact Heap.lt_size ho
  refine sub_tail (M := model pg g.w) (T := "list") ⟨_, Heap.get?_push_of_some _ ho, rfl⟩ slot_list_getitem.lookup ?_
  have y4 : AtB g (SA A) h₀ env.locals l₃ h₃ { s₂ with heap := s₂.heap.push { cls := .type "slice", data := .fields #[.int ((k : Nat) : Int) u', .none, .none] } } :=
    y₃.turned (tk := s₂.toks) y₃.at_.tok (fun V => False) (fun b o V e => Heap.get?_push_of_some _ e) (fun V h => h.elim)
  refine wpAny_getItem_list_slice (lo := some ((k : Nat) : Int)) (hi := none) (st := none) (it.push _) (Heap.IsSliceOf.new _ _ _ _) (.int _ _) .none .none (by simp) ?_ ?_
  · rw [slicePick_from']
    refine ⟨.ref _, l₃, _, ⟨0, rfl⟩, ⟨y4.at_.push (X := .list (xs.drop k)) ⟨_, _, Heap.get?_push_size _ rfl, by simpa using hi.drop k⟩, ?_, ?_, y4.hL⟩, q _ y4.at_.freshP⟩
    · refine withGoal fun goalX goalBack => ?_
      obtain ⟨m, ⟨o, es, ep, ho, r⟩, hm⟩ := y4.loc
      refine goalBack ?_
      clear goalBack goalX
      exact ⟨m, ⟨o, es, ep, Heap.get?_push_of_some _ ho, r⟩, hm⟩
    · refine (HP.set_ne (Nat.ne_of_lt ?_)).trans y4.hpL
      rw [Heap.size_push]; exact Nat.lt_succ_of_lt hLs
  · rw [hsz]; exact sz_le hz
end
end Mine
end
section
open PySem PySem.W PySem.Calls PyProof.Rows
namespace Mine
theorem lookIn_ns {h : Heap} {a : Addr} {m : PySem.Str → Option PySem.Value} (hn : h.Ns a m) : ∃ o, h.get? a = some o ∧ ∀ name, lookIn name o = some (m name) := by
  refine withGoal fun goalX goalBack => ?_
  obtain ⟨o, es, ep, ho, hd, hk, hm⟩ := hn
  refine goalBack ?_
  clear goalBack goalX
  refine ⟨o, ho, fun name => ?_⟩
  unfold lookIn
  rw [hd]
  dsimp only
  have hno : es.toList.any (·.refKey) = false := by
    rw [List.any_eq_false]; intro e he
    obtain ⟨n, t, h⟩ := hk e (by simpa using he)
    simp [DictEntry.refKey, h]
  have : nsFind es name = (es.toList.find? (·.key.isStr name)).map (·.val) := by
    simp [nsFind, findBy, ← Array.find?_toList]
  rw [← hm name, this]
  cases q : es.toList.find? (·.key.isStr name) with
  | some e => rfl
  | none => simp [hno]
theorem find_findIdx {α : Type} (es : Array α) (p : α → Bool) : (es.find? p).isSome = (es.findIdx? p).isSome := by
  cases es with
  | mk l =>
    simp
    induction l with
    | nil => rfl
    | cons a l ih =>
      rw [List.find?_cons, List.any_cons]
      cases h : p a
      · simpa [h] using ih
      · simp
theorem wpAny_nsSet_sz {M : Model} {A : Around} {E : PySem.Value → Shared → Prop} {s : Shared} {a : Addr} {m : PySem.Str → Option PySem.Value} {o : Obj} {es : Array DictEntry} {ep : Nat} {name : PySem.Str} {v : PySem.Value} (ho : s.heap.get? a = some o) (hd : o.data = .dict es ep) (hk : StrKeys es) (hm : ∀ x, nsFind es x = m x) {Q : Unit → Shared → Prop}
    (hQ : ∀ h' o' es' ep', h'.get? a = some o' → o'.data = .dict es' ep' → StrKeys es' → (∀ x, nsFind es' x = if x = name then some v else m x) → es'.size = (if (m name).isSome then es.size else es.size + 1) → Heap.SameBut a s.heap h' → Q () { s with heap := h', toks := s.toks + 1 }) :
    wpAny M A (nsSet a name v) Q E s := by
  intro Γ p _
  simp only [nsSet, strHash, Sem.wp_bind', Sem.wp_cmd_ask, Sem.wp_pure', Sem.wp_cmd_mkText]
  rw [Sem.wp_loadPart_of M Γ _ p { s with toks := s.toks + 1 } (o := o) _ ho]
  have hany : es.any (·.refKey) = false := by
    rw [Array.any_eq_false']; intro e he; obtain ⟨n, t, h⟩ := hk e he; simp [DictEntry.refKey, h]
  simp only [hd, aRefKeyMayBeTheName_eq, aRefKeyMayBeTheNameByArray, hany, Bool.and_false, Bool.false_eq_true, if_false, Sem.wp_cmd_updatePart]
  have hsome : (m name).isSome = (es.findIdx? (·.key.isStr name)).isSome := by
    rw [← hm name]; simp only [nsFind, findBy, Option.isSome_map]
    exact find_findIdx es _
  refine ⟨by rw [ho]; rfl, ?_⟩
  refine withGoal fun goalX goalBack => ?_
  obtain ⟨c, d, dt, sl⟩ := o
  refine goalBack ?_
  clear goalBack goalX
  subst hd
  cases hi : es.findIdx? (·.key.isStr name) with
  | some i =>
    refine hQ _ _ _ ep (Heap.get?_update_self _ ho (by simp only [Obj.putName_eq, Obj.putNameByArray, hi]; rfl)) (by simp only [Obj.putName_eq, Obj.putNameByArray, hi]; rfl) (hk.modify _ _) (fun x => ?_) ?_ (Heap.SameBut.update ..)
    · rw [← hm]; exact findBy_modify (fun n v => v.isStr n) Value.isStr_inj es name x v i hi
    · rw [hsome, hi]; simp
  | none =>
    refine hQ _ _ _ (ep + 1) (Heap.get?_update_self _ ho (by simp only [Obj.putName_eq, Obj.putNameByArray, hi]; rfl)) (by simp only [Obj.putName_eq, Obj.putNameByArray, hi]; rfl) (hk.push _ _ _ _) (fun x => ?_) ?_ (Heap.SameBut.update ..)
    · rw [← hm]
      exact findBy_push (fun n v => v.isStr n) es name x _ _ v (fun y => by
        show (name == y) = decide (y = name)
        by_cases h : y = name
        · subst h; simp
        · have : ¬ name = y := fun e => h e.symm
          simp [h, this]) hi
    · rw [hsome, hi]; simp
section
variable {g : Gd} {n : Nat} {env : Env} {L : Addr} {loc : Loc} {hp : HP}
theorem inst_at {S : List Addr} {h₀ : Heap} {s : Shared} {a C d : Addr} {attrs : Loc} (x : At g S h₀ hp s) (e : hp a = some (.inst C d)) (ed : hp d = some (.ns attrs)) :
    ∃ ox od m, InstAt s.heap a ox C (some od) ∧ ox.dict = some d ∧ s.heap.get? d = some od ∧ s.heap.Ns d m ∧ (∀ name, optIs (lk name attrs) (m name)) ∧ ∀ name, lookIn name od = some (m name) := by
  refine withGoal fun goalX goalBack => ?_
  obtain ⟨ox, hox, hc, hd, hpl⟩ := (x.own a _ e).1
  refine goalBack ?_
  clear goalBack goalX
  refine withGoal fun goalX goalBack => ?_
  obtain ⟨m, ⟨o1, es, ep, ho1, hd1, hk1, hm1, hz1⟩, hm⟩ := (x.own d _ ed).1
  refine goalBack ?_
  clear goalBack goalX
  have hn : s.heap.Ns d m := ⟨o1, es, ep, ho1, hd1, hk1, hm1⟩
  obtain ⟨od, hod, hl⟩ := lookIn_ns hn
  exact ⟨ox, od, m, ⟨hox, hc, by unfold notCls; rw [hpl], by rw [hd]; exact hod⟩, hd, hod, hn, hm, hl⟩
noncomputable def AV.plainV : AV → Bool
  | .builtin _ => false
  | _ => true
theorem handed_plain {a : AV} {v : PySem.Value} (h : a.plainV = true) (i : a.Is v) : handedIn v = true := by
  obtain ⟨t, rfl⟩ := i
  cases a <;> first | rfl | cases h
/-- what a class must be for its instances' own attributes to be read and set plainly -/
structure ClsOk (P : Params) (C : Addr) : Prop where
  ga : findIn (myK P) (.ref C) "__getattribute__" = some (some (.builtin "object.__getattribute__"))
  gt : findIn (myK P) (.ref C) "__getattr__" = some none
  sa : findIn (myK P) (.ref C) "__setattr__" = some (some (.builtin "object.__setattr__"))
  over : plainOver (myK P) C = true
theorem ga_inst (G : Gnd g) {x C d : Addr} {attrs : Loc} {name : PySem.Str} {v : AV} {cd : ClassData} {expr : Bool} {Q : AV → Loc → HP → Prop} (K : ClsOk g.w.params C) (hcd : clsIn (myK g.w.params) C = some cd) (hdict : cd.hasDict = true) (hf : findIn (myK g.w.params) (.ref C) name = some none)
    (hx : hp x = some (.inst C d)) (hd : hp d = some (.ns attrs)) (hv : lk name attrs = some v) (hpv : v.plainV = true) (q : Q v loc hp) : ∀ va, (AV.ref x).Is va → WB g n L (getAttr va name expr) loc hp AV.Is Q := by
  rintro _ ⟨t, rfl⟩
  refine WB.lift fun A E h₀ s c y => ?_
  refine withGoal fun goalX goalBack => ?_
  obtain ⟨ox, od, m, I, _, _, hn, hm, hl⟩ := inst_at y hx hd
  refine goalBack ?_
  clear goalBack goalX
  have hmv := hm name
  rw [hv] at hmv
  cases hmn : m name with
  | none => rw [hmn] at hmv; exact hmv.elim
  | some u =>
    rw [hmn] at hmv
    have hmv : v.Is u := hmv
    refine get_value (G.kin.keeps (staysH c y)) I K.ga (v := u) ?_ (handed_plain hpv hmv) ⟨v, hp, hmv, y.toks (Nat.le_add_left 1 _), q⟩
    unfold findObj
    rw [hcd, Option.bind_some, hf, Option.bind_some]
    simp only [Option.bind_some, W.ownOf, hdict, if_true, hl, hmn]
theorem EV_Attr {value : PySem.Expr} {attr : PySem.Str} {pos : Pos} {Q : AV → Loc → HP → Prop} (hbase : attributeBase value attr env (eval value env) = eval value env)
    (h : EV g n env value loc hp fun a l h => ∀ va, a.Is va → WB g n env.locals (getAttr va attr true) l h AV.Is Q) : EV g n env (.Attribute value attr pos) loc hp Q := by
  intro A E h₀ s c y
  rw [arm_eval_Attribute, hbase]
  refine wpAny_bind (wpAny_mono (h A E h₀ s c y) (fun o s₁ hh => wpAny_bind (wpAny_standAt (wpAny_bind (wpAny_holding ?_)))) fun V V e => e)
  refine out3 hh fun a l h' r y' q => ?_
  refine wpAny_mono (q o r A E h₀ s₁ c y') (fun v s₂ hh => wpAny_bind (wpAny_letTemporaryGo ?_)) fun V V e => e
  exact wpAny_pure hh
theorem map_none (k : PySem.Str) (v : AV) : ∀ es : Loc, es.any (fun p => p.1 = k) = false → es.map (fun p => if p.1 = k then (p.1, v) else p) = es
  | [], _ => rfl
  | (y, b) :: es, h => by
    simp only [List.any_cons, Bool.or_eq_false_iff, decide_eq_false_iff_not] at h
    rw [List.map_cons, if_neg h.1, map_none k v es h.2]
theorem lk_map (k : PySem.Str) (v : AV) (x : PySem.Str) : ∀ es : Loc, es.any (fun p => p.1 = k) = true → lk x (es.map fun p => if p.1 = k then (p.1, v) else p) = if x = k then some v else lk x es
  | [], h => by simp at h
  | (y, b) :: es, h => by
    rw [List.map_cons]
    by_cases q : y = k
    · subst q
      rw [if_pos rfl]
      by_cases r : x = y
      · subst r; rw [lk_cons_self, if_pos rfl]
      · rw [lk_cons_ne _ _ (Ne.symm r), lk_cons_ne _ _ (Ne.symm r), if_neg r]
        cases ha : es.any (fun p => p.1 = y) with
        | true => rw [lk_map y v x es ha, if_neg r]
        | false =>
          rw [map_none y v es ha]
    · rw [if_neg q]
      have h' : es.any (fun p => p.1 = k) = true := by simpa [q] using h
      by_cases r : x = y
      · subst r; rw [lk_cons_self, lk_cons_self, if_neg q]
      · rw [lk_cons_ne _ _ (Ne.symm r), lk_cons_ne _ _ (Ne.symm r)]
        exact lk_map k v x es h'
theorem lk_none_any {k : PySem.Str} : ∀ {es : Loc}, es.any (fun p => p.1 = k) = false → lk k es = none
  | [], _ => rfl
  | (y, b) :: es, h => by
    simp only [List.any_cons, Bool.or_eq_false_iff, decide_eq_false_iff_not] at h
    rw [lk_cons_ne _ _ h.1]; exact lk_none_any h.2
theorem lk_some_any {k : PySem.Str} : ∀ {es : Loc}, es.any (fun p => p.1 = k) = true → (lk k es).isSome = true
  | [], h => by simp at h
  | (y, b) :: es, h => by
    by_cases q : y = k
    · subst q; rw [lk_cons_self]; rfl
    · rw [lk_cons_ne _ _ q]; exact lk_some_any (by simpa [q] using h)
theorem lk_dstore (es : Loc) (k : PySem.Str) (v : AV) (x : PySem.Str) : lk x (dstore es k v) = if x = k then some v else lk x es := by
  unfold dstore
  cases h : es.any (fun p => p.1 = k) with
  | true => rw [if_pos rfl]; exact lk_map k v x es h
  | false =>
    rw [if_neg (by decide), lk_append]
    by_cases q : x = k
    · subst q; rw [lk_none_any h, if_pos rfl, lk_cons_self]; rfl
    · rw [if_neg q, lk_cons_ne _ _ (Ne.symm q)]; simp [lk]
theorem sa_inst (G : Gnd g) {x C d : Addr} {attrs : Loc} {name : PySem.Str} {v : AV} {cd : ClassData} {Q : Loc → HP → Prop} (K : ClsOk g.w.params C) (hcd : clsIn (myK g.w.params) C = some cd) (hdict : cd.hasDict = true) (ht : takerIn (myK g.w.params) C name = some none)
    (hx : hp x = some (.inst C d)) (hd : hp d = some (.ns attrs)) (hz : attrs.length ≤ 1000) (q : Q loc (hp.set d (.ns (dstore attrs name v)))) : ∀ va vv, (AV.ref x).Is va → v.Is vv → UN g n L (setAttr va name vv) loc hp Q := by
  rintro _ vv ⟨t, rfl⟩ hv
  refine WB.lift (Q := fun V l h => Q l h) fun A E h₀ s c y => ?_
  refine withGoal fun goalX goalBack => ?_
  obtain ⟨ox, hox, hc, hdx, hpl⟩ := (y.own x _ hx).1
  refine goalBack ?_
  clear goalBack goalX
  refine withGoal fun goalX goalBack => ?_
  obtain ⟨m, ⟨od, es, ep, hod, hdd, hk, hmm, hsz⟩, hm⟩ := (y.own d _ hd).1
  refine goalBack ?_
  clear goalBack goalX
  have X : (myK g.w.params).In s.heap := G.kin.keeps (staysH c y)
  have I : InstAt s.heap x ox C (some od) := ⟨hox, hc, by unfold notCls; rw [hpl], by rw [hdx]; exact hod⟩
  refine set_plain X I K.sa (osa_open (s := { s with toks := s.toks + 1 }) X I K.over ht fun b => ?_)
  refine withGoal fun goalX goalBack => ?_
  obtain ⟨oc, odi, oda, osl⟩ := ox
  refine goalBack ?_
  clear goalBack goalX
  dsimp only at hc hdx
  subst hc hdx
  refine wpAny_bind (wpAny_pure (wpAny_bind (wpAny_bind (wpAny_loadPart hox (wpAny_bind (Looks.here (s := { s with toks := s.toks + 1 }) (looks_clsIn X hcd) ?_))))))
  rw [hdict]
  refine wpAny_pure (a := some d) (wpAny_bind (wpAny_pure (wpAny_bind ?_)))
  refine wpAny_nsSet_sz (s := { s with toks := s.toks + 1 }) hod hdd hk hmm fun h' o' es' ep' ho' hd' hk' hm' hz' hs' => ?_
  have hlen : es'.size ≤ (dstore attrs name v).length := by
    rw [hz']
    unfold dstore
    have hn := hm name
    cases ha : attrs.any (fun p => p.1 = name) with
    | true =>
      obtain ⟨w, hw⟩ := Option.isSome_iff_exists.mp (lk_some_any ha)
      rw [hw] at hn
      cases hmn : m name with
      | none => rw [hmn] at hn; exact hn.elim
      | some u => simp; exact hsz
    | false =>
      simp only [Bool.false_eq_true, if_false, List.length_append, List.length_singleton]
      split <;> lia
  have hdl : (dstore attrs name v).length ≤ attrs.length + 1 := by unfold dstore; split <;> simp
  refine wpAny_bind (wpAny_lookBehind ho' (by rw [hd']; exact pastItsLine_dict (by rw [sizeLine_eq]; lia)) (wpAny_pure ?_))
  refine ⟨(), _, trivial, (y.put hd (fun b o hb e => hs'.extBut b o hb e) (Y := .ns (dstore attrs name v)) ⟨_, ⟨o', es', ep', ho', hd', hk', hm', hlen⟩, fun z => ?_⟩).toks (Nat.le_add_left 1 _), q⟩
  rw [lk_dstore]
  by_cases hzn : z = name
  · rw [if_pos hzn, if_pos hzn]; exact hv
  · rw [if_neg hzn, if_neg hzn]; exact hm z
theorem EX_AssignAttr {o value : PySem.Expr} {attr : PySem.Str} {pos' pos : Pos} {Q : AF → Loc → HP → Prop}
    (h : EV g n env value loc hp fun x l h => EV g n env o l h fun a l h => ∀ va vx, a.Is va → x.Is vx → UN g n env.locals (setAttr va attr vx) l h fun l h => Q .next l h)
    (hs : swapsWith value (some (.Attribute o attr pos')) pos.line env = pure false) : EX g n env (.Assign [.Attribute o attr pos'] value pos) loc hp Q := by
  intro A E h₀ s c x
  rw [plainObj_exec_Assign_Attribute o attr pos' value pos hs]
  refine wpAny_bind (wpAny_standAt (wpAny_bind (wpAny_mono (h A E h₀ s c x) (fun vx s₁ hh => ?_) fun V V e => e)))
  refine out3 hh fun V V V rx x1 k1 => ?_
  refine wpAny_bind ?_
  rw [arm_assign_Attribute]
  refine wpAny_bind (wpAny_holding (wpAny_mono (k1 A E h₀ _ c x1) (fun va s₂ hh => ?_) fun V V e => e))
  refine out3 hh fun V V V ra x2 k2 => ?_
  refine wpAny_bind (wpAny_standAt (wpAny_bind (wpAny_holding (wpAny_mono (k2 va vx ra rx A E h₀ _ c x2) (fun V s₃ hh => wpAny_release (wpAny_pure ?_)) fun V V e => e))))
  refine out3 hh fun V l h' V y q => ?_
  exact ⟨.next, l, h', rfl, y, q⟩
/-- self.a += e -/
theorem EX_AugAttr {o value : PySem.Expr} {attr : PySem.Str} {op : Operator} {tpos pos : Pos} {Q : AF → Loc → HP → Prop}
    (h : EV g n env o loc hp fun a l h => ∀ va, a.Is va → WB g n env.locals (getAttr va attr true) l h AV.Is fun old l h => EV g n env value l h fun b l h => ∀ vo vb, old.Is vo → b.Is vb → WB g n env.locals (inplaceOp op vo vb) l h AV.Is fun nw l h => ∀ vn, nw.Is vn → UN g n env.locals (setAttr va attr vn) l h fun l h => Q .next l h) :
    EX g n env (.AugAssign (.Attribute o attr tpos) op value pos) loc hp Q := by
  intro A E h₀ s c x
  rw [arm_exec_AugAssign_2]
  refine wpAny_bind (wpAny_standAt (wpAny_bind (wpAny_mono (h A E h₀ s c x) (fun va s₁ hh => ?_) fun V V e => e)))
  refine out3 hh fun V V V ra x1 k1 => ?_
  refine wpAny_bind (wpAny_holding (wpAny_bind (wpAny_standAt (wpAny_bind (wpAny_mono (k1 va ra A E h₀ _ c x1) (fun vo s₂ hh => ?_) fun V V e => e)))))
  refine out3 hh fun V V V ro x2 k2 => ?_
  refine wpAny_bind (wpAny_holding (wpAny_mono (k2 A E h₀ _ c x2) (fun vb s₃ hh => ?_) fun V V e => e))
  refine out3 hh fun V V V rb x3 k3 => ?_
  refine wpAny_bind (wpAny_standAt (wpAny_operating (wpAny_mono (k3 vo vb ro rb A E h₀ _ c x3) (fun vn s₄ hh => ?_) fun V V e => e)))
  refine out3 hh fun V V V rn x4 k4 => ?_
  refine wpAny_bind (wpAny_standAt (wpAny_bind (wpAny_holding (wpAny_mono (k4 vn rn A E h₀ _ c x4) (fun V s₅ hh => wpAny_bind (wpAny_release (wpAny_pure ?_))) fun V V e => e))))
  refine out3 hh fun V l h' V y q => ?_
  exact ⟨.next, l, h', rfl, y, q⟩
end
end Mine
end
section
open PySem PySem.W PySem.Calls PyProof.Rows
namespace Mine
/-- a call that comes back, as code -/
noncomputable def CH (g : Gd) (n : Nat) (f : PySem.Value) (vals : List PySem.Value) (hp : HP) (Q : AV → HP → Prop) : Prop :=
  ∀ (A : Around) (R : Result → Shared → Prop) (h₀ : Heap) (s : Shared), Cx g n A h₀ → At g (SA A) h₀ hp s → (∀ v s' b hp', b.Is v → At g (SA A) h₀ hp' s' → Q b hp' → R (.ok (.ret v)) s') → codeAny (model pg g.w) A (.call f ⟨vals, []⟩) R s
section
variable {g : Gd} {n : Nat} {env : Env} {L : Addr} {loc : Loc} {hp : HP}
theorem CH.wh {f : PySem.Value} {vals : List PySem.Value} {Q : AV → HP → Prop} (h : CH g n f vals hp Q) : WH g n (call f vals) hp AV.Is Q :=
  fun A E h₀ s c y => wpAny_call (h A _ h₀ s c y fun V V b hp' r z q => ⟨b, hp', r, z, q⟩)
/-- a def of the text, no cells, as code -/
theorem C_call {f : Addr} {fd : FuncData} {body : List Stmt} {nms : List (PySem.Str × NameKind)} {vals : List PySem.Value} {Q : AV → HP → Prop} (G : Gnd g) (ho : (myK g.w.params).lookup f = some { cls := .type "function", data := .func fd })
    (hcd : codeIn (myK g.w.params) fd.code fd.qualname = true) (hbody : fd.body = .stmts body) (hnm : fd.scope.names = nms) (hg : fd.globals = mainGlobals ∧ fd.builtins = builtinsNs ∧ fd.closure = [])
    (hbind : WH g n (bindArgs fd ⟨vals, []⟩) hp (fun (bl : Loc) binds => Ps bl binds ∧ ∀ x ∈ binds, nms.lookup x.1 = some .local) fun bl hp' => ∀ env, FEnv env nms [] → hp' env.locals = none → XS g n env body bl.reverse hp' fun fl V hp'' => Q (retOf fl) hp'')
    (hcell : (nms.all fun x => decide (x.2 ≠ .cell)) = true) (hs : fd.scope.isCoroutine = false ∧ fd.scope.isGenerator = false ∧ fd.scope.kind = .function) :
    CH g (n + 1) (.ref f) vals hp Q := by
  subst hnm
  intro A R h₀ s c y back
  have st := staysH c y
  obtain ⟨mg, mb, T⟩ := G.top
  have hroom : A.depth < recursionLimit := by have := c.depth; show A.depth < 1000; lia
  refine codeAny_call_function hroom (st _ _ (G.kin _ _ ho)) rfl hs.1 hs.2.1 hbody (codeRec_of (G.kin.keeps st) hcd) ?_
  refine wpAny_mono (hbind A.in1 _ h₀ s c.in1 y) (fun binds s₁ hh => ?_) fun V V e => e
  refine out2 hh fun bl hp' hR y' hq => ?_
  obtain ⟨hps, hloc⟩ := hR
  have st' := staysH c y'
  rw [hg.2.2]
  refine wpAny_newFunctionEnv (fun x hx => by simpa using List.all_eq_true.mp hcell x hx) hloc (fun h₁ hns hsb => ⟨(T.nolimit.keeps st').fresh _ hsb, ?_⟩) hs.2.2
  have keeps : ∀ b o, s₁.heap.get? b = some o → h₁.get? b = some o := fun b o e => hsb.extBut b o (Nat.ne_of_lt (Heap.lt_size e)) (Heap.get?_push_of_some _ e)
  have hce : newEnv fd.scope s₁.heap.objs.size fd.globals [] (fd.qualname ++ ".<locals>.") (some f) fd.code none fd.builtins = callEnv fd s₁.heap.objs.size f := by unfold callEnv; rw [hg.2.2]
  rw [hce]
  obtain ⟨cx, ab⟩ := enterB (env := callEnv fd s₁.heap.objs.size f) (bl := bl.reverse) (tk := s₁.toks + binds.length) (Nat.le_add_right_of_le y'.tok) c y' hs.2.2 rfl rfl hns (fun x v e => (Ps.reverse hps).lookup e) keeps
  have F : FEnv (callEnv fd s₁.heap.objs.size f) fd.scope.names [] := ⟨hs.2.2, hg.1, hg.2.1, fun V => rfl, hg.2.2⟩
  refine codeAny_func (wpAny_mono (hq _ F y'.freshP _ _ h₀ _ cx ab) (fun fl s' hh => ?_) fun V V e => e)
  refine out3 hh fun b loc' hp'' r z q => ?_
  have za := leaveB (A := A) (env := callEnv fd s₁.heap.objs.size f) rfl z
  cases b with
  | next => cases r; exact back _ _ .none hp'' ⟨0, rfl⟩ za q
  | brk => cases r; exact back _ _ .none hp'' ⟨0, rfl⟩ za q
  | cont => cases r; exact back _ _ .none hp'' ⟨0, rfl⟩ za q
  | ret v => obtain ⟨v', rfl, hv⟩ := r; exact back _ _ v hp'' hv za q
theorem under_tc {A : Around} {h₀ : Heap} {C : Addr} {vals : List PySem.Value} (c : Cx g (n + 1) A h₀) : SA (A.under (.builtin "type.__call__" ⟨.ref C :: vals, []⟩)) = SA A ∧ Cx g n (A.under (.builtin "type.__call__" ⟨.ref C :: vals, []⟩)) h₀ := by
  have hw : (Code.builtin "type.__call__" ⟨.ref C :: vals, []⟩).weight ≤ 1 := by
    have : (Code.builtin "type.__call__" ⟨.ref C :: vals, []⟩).weight = 1 := by with_unfolding_all rfl
    lia
  have hu : (Code.builtin "type.__call__" ⟨.ref C :: vals, []⟩).cUnits = 1 := by with_unfolding_all rfl
  have he : (Code.builtin "type.__call__" ⟨.ref C :: vals, []⟩).envs = [] := by with_unfolding_all rfl
  have hfr : (A.under (.builtin "type.__call__" ⟨.ref C :: vals, []⟩)).frames = A.frames := by
    simp only [Around.under, he]
    cases A.frames <;> simp [pushEnvs]
  refine ⟨by unfold SA; rw [hfr], c.handled, ?_, ?_, c.base, ?_⟩
  · have := c.depth
    show A.depth + _ + n ≤ 600
    lia
  · have := c.units
    show A.units + _ + 20 * n ≤ 9000
    lia
  · rw [hfr]; exact c.frames
/-- a new object of a class: itself and its dict; then __init__ -/
theorem C_make {C fI : Addr} {vals : List PySem.Value} {X : Addr → AO} {Q : AV → HP → Prop} (G : Gnd g) (hm : makesIn (myK g.w.params) C = true) (hi : findIn (myK g.w.params) (.ref C) "__init__" = some (some (.ref fI))) (hf : typeIn (myK g.w.params) (.ref fI) = some (.type "function"))
    (hX : ∀ (h : Heap) x dx, h.get? x = some (instObj C dx) → (X dx).In g.w h x)
    (h : ∀ x dx, hp x = none → hp dx = none → x ≠ dx → CH g n (.ref fI) (.ref x :: vals) ((hp.set dx (.ns [])).set x (X dx)) fun v h => v = .none ∧ Q (.ref x) h) : CH g (n + 1) (.ref C) vals hp Q := by
  intro A R h₀ s c y back
  have st := staysH c y
  have K := G.kin.keeps st
  refine withGoal fun goalX goalBack => ?_
  obtain ⟨hh, gg, d, t, os⟩ := s
  refine goalBack ?_
  clear goalBack goalX
  have y1 : At g (SA A) h₀ (hp.set hh.objs.size (.ns [])) ⟨hh.push emptyDict, gg, d, t, os⟩ := y.push (X := .ns []) ⟨fun V => none, ⟨_, #[], 0, Heap.get?_push_size _ rfl, rfl, fun e he => by simp at he, fun V => rfl, Nat.le_refl _⟩, fun V => trivial⟩
  have hsz : (hh.push emptyDict).objs.size = hh.objs.size + 1 := Heap.size_push ..
  have y2 : At g (SA A) h₀ ((hp.set hh.objs.size (.ns [])).set (hh.objs.size + 1) (X hh.objs.size)) ⟨(hh.push emptyDict).push (instObj C hh.objs.size), gg, d, t, os⟩ := by
    have := y1.push (o := instObj C hh.objs.size) (X := X hh.objs.size) (hX _ _ _ (Heap.get?_push_size _ rfl))
    rw [hsz] at this; exact this
  have hne : hh.objs.size + 1 ≠ hh.objs.size := Nat.succ_ne_self _
  have hpx : hp (hh.objs.size + 1) = none := by
    have := y1.freshP
    rw [hsz, HP.set_ne hne] at this; exact this
  refine make_core (makes_of K hm) (looks_findIn K hi) (fun self => bind_fn K self hf) (.inl rfl) ?_
  obtain ⟨hSA, c'⟩ := under_tc c (vals := vals)
  refine h (hh.objs.size + 1) hh.objs.size hpx y.freshP hne (A.under (.builtin "type.__call__" ⟨.ref C :: vals, []⟩)) _ h₀ _ c' (hSA ▸ y2) ?_
  rw [hSA]
  rintro v s' b hp' r z ⟨rfl, q⟩
  obtain ⟨u, rfl⟩ := r
  exact ⟨rfl, back _ _ (.ref (hh.objs.size + 1)) hp' ⟨0, rfl⟩ z q⟩
end
end Mine
end
section
open PySem PySem.W PySem.Calls PyProof.Rows
namespace Mine
theorem clsOk137 (P : Params) : ClsOk P 137 := ⟨by kernel_rfl, by kernel_rfl, by kernel_rfl, by kernel_rfl⟩
theorem clsOk40 (P : Params) : ClsOk P 40 := ⟨by kernel_rfl, by kernel_rfl, by kernel_rfl, by kernel_rfl⟩
theorem makes137 (P : Params) : makesIn (myK P) 137 = true := by kernel_rfl
theorem makes40 (P : Params) : makesIn (myK P) 40 = true := by kernel_rfl
theorem init137 (P : Params) : findIn (myK P) (.ref 137) "__init__" = some (some (.ref 73)) := by kernel_rfl
theorem init40 (P : Params) : findIn (myK P) (.ref 40) "__init__" = some (some (.ref 36)) := by kernel_rfl
theorem fn73 (P : Params) : typeIn (myK P) (.ref 73) = some (.type "function") := by kernel_rfl
theorem fn36 (P : Params) : typeIn (myK P) (.ref 36) = some (.type "function") := by kernel_rfl
theorem no_n2i (P : Params) : findIn (myK P) (.ref 137) "_node2info" = some none := by kernel_rfl
theorem tk_n2i (P : Params) : takerIn (myK P) 137 "_node2info" = some none := by kernel_rfl
theorem no_rn (P : Params) : findIn (myK P) (.ref 137) "_ready_nodes" = some none := by kernel_rfl
theorem tk_rn (P : Params) : takerIn (myK P) 137 "_ready_nodes" = some none := by kernel_rfl
theorem no_np (P : Params) : findIn (myK P) (.ref 137) "_npassedout" = some none := by kernel_rfl
theorem tk_np (P : Params) : takerIn (myK P) 137 "_npassedout" = some none := by kernel_rfl
theorem no_nf (P : Params) : findIn (myK P) (.ref 137) "_nfinished" = some none := by kernel_rfl
theorem tk_nf (P : Params) : takerIn (myK P) 137 "_nfinished" = some none := by kernel_rfl
end Mine
end
section
open PySem PySem.W PySem.Calls PyProof.Rows
namespace Mine
theorem Os.get : ∀ {vs : List (Option AV)} {l : List (Option PySem.Value)} {i : Nat} {v : AV}, Os vs l → vs[i]? = some (some v) → ∃ u, l[i]? = some (some u) ∧ v.Is u
  | _ :: _, w :: _, 0, v, h, e => by
    simp only [List.getElem?_cons_zero, Option.some.injEq] at e
    subst e
    obtain ⟨h1, _⟩ := h
    cases w with
    | none => exact h1.elim
    | some u => exact ⟨u, rfl, h1⟩
  | _ :: _, _ :: _, i + 1, v, h, e => by
    obtain ⟨u, hu, hi⟩ := Os.get (i := i) h.2 (by simpa using e)
    exact ⟨u, by simpa using hu, hi⟩
section
variable {g : Gd} {n : Nat} {env : Env} {L : Addr} {loc : Loc} {hp : HP}
theorem slot_at {S : List Addr} {h₀ : Heap} {s : Shared} {a C d : Addr} {vs : List (Option AV)} {attrs : Loc} (x : At g S h₀ hp s) (e : hp a = some (.slotted C d vs)) (ed : hp d = some (.ns attrs)) :
    ∃ ox od l, InstAt s.heap a ox C (some od) ∧ ox.slots = l.toArray ∧ Os vs l ∧ ox.dict = some d ∧ ox.data = .plain := by
  refine withGoal fun goalX goalBack => ?_
  obtain ⟨ox, hox, hc, hd, hpl, l, hl, hvs⟩ := (x.own a _ e).1
  refine goalBack ?_
  clear goalBack goalX
  refine withGoal fun goalX goalBack => ?_
  obtain ⟨m, ⟨od, es, ep, hod, r⟩, hm⟩ := (x.own d _ ed).1
  refine goalBack ?_
  clear goalBack goalX
  exact ⟨ox, od, l, ⟨hox, hc, by unfold notCls; rw [hpl], by rw [hd]; exact hod⟩, hl, hvs, hd, hpl⟩
/-- a slot is a member descriptor of the class -/
structure SlotOk (P : Params) (C p : Addr) (name : PySem.Str) (i : Nat) : Prop where
  find : findIn (myK P) (.ref C) name = some (some (.ref p))
  get : specialIn (myK P) (.ref p) "__get__" = some (some (.builtin "member_descriptor.__get__"))
  takes : takesIn (myK P) (.ref p) = some true
  slot : slotIn (myK P) p C = some i
  taker : takerIn (myK P) C name = some (some (.ref p))
  type : typeIn (myK P) (.ref p) = some (.type "member_descriptor")
theorem ga_slot (G : Gnd g) {x C d p : Addr} {vs : List (Option AV)} {attrs : Loc} {name : PySem.Str} {i : Nat} {v : AV} {cd : ClassData} {expr : Bool} {Q : AV → Loc → HP → Prop} (K : ClsOk g.w.params C) (M : SlotOk g.w.params C p name i) (hcd : clsIn (myK g.w.params) C = some cd)
    (hx : hp x = some (.slotted C d vs)) (hd : hp d = some (.ns attrs)) (hv : vs[i]? = some (some v)) (hpv : v.plainV = true) (q : Q v loc hp) : ∀ va, (AV.ref x).Is va → WB g n L (getAttr va name expr) loc hp AV.Is Q := by
  rintro _ ⟨t, rfl⟩
  refine WB.lift fun A E h₀ s c y => ?_
  refine withGoal fun goalX goalBack => ?_
  obtain ⟨ox, od, l, I, hl, hvs, _, _⟩ := slot_at y hx hd
  refine goalBack ?_
  clear goalBack goalX
  obtain ⟨u, hu, iv⟩ := hvs.get hv
  have X := G.kin.keeps (staysH c y)
  refine get_bind X I K.ga (g := .builtin "member_descriptor.__get__") (a := .ref p) ?_ K.gt ?_
  · unfold findObj
    rw [hcd, Option.bind_some, M.find, Option.bind_some]
    simp only [M.get, M.takes, Option.bind_some]
  · refine wpAny_call (slot_get (s := { s with toks := s.toks + 1 }) X I M.slot (v := u) ?_ ?_)
    · rw [hl]; simp [hu]
    · show wpAny _ A (handedOut u) _ _ _
      rw [handedOut_of (handed_plain hpv iv)]
      exact wpAny_pure ⟨v, hp, iv, y.toks (Nat.le_add_left 1 _), q⟩
end
theorem slotOk_node (P : Params) : SlotOk P 40 41 "node" 0 := ⟨by kernel_rfl, by kernel_rfl, by kernel_rfl, by kernel_rfl, by kernel_rfl, by kernel_rfl⟩
theorem slotOk_npred (P : Params) : SlotOk P 40 42 "npredecessors" 1 := ⟨by kernel_rfl, by kernel_rfl, by kernel_rfl, by kernel_rfl, by kernel_rfl, by kernel_rfl⟩
theorem slotOk_succ (P : Params) : SlotOk P 40 43 "successors" 2 := ⟨by kernel_rfl, by kernel_rfl, by kernel_rfl, by kernel_rfl, by kernel_rfl, by kernel_rfl⟩
end Mine
end
section
open PySem PySem.W PySem.Calls PyProof.Rows PySem.Builtin PySem.Builtin.ObjectAttr PySem.Builtin.Getset_descriptor
namespace Mine
noncomputable def setO (vs : List (Option AV)) (i : Nat) (v : AV) : List (Option AV) := (vs ++ List.replicate (i + 1 - vs.length) none).set i (some v)
theorem Os.len : ∀ {vs : List (Option AV)} {l : List (Option PySem.Value)}, Os vs l → vs.length = l.length
  | [], [], _ => rfl
  | _ :: _, _ :: _, h => by simp [Os.len h.2]
theorem Os.append : ∀ {vs ws : List (Option AV)} {l k : List (Option PySem.Value)}, Os vs l → Os ws k → Os (vs ++ ws) (l ++ k)
  | [], _, [], _, _, h => h
  | _ :: _, _, _ :: _, _, h, h' => ⟨h.1, Os.append h.2 h'⟩
theorem Os.rep : ∀ k : Nat, Os (List.replicate k none) (List.replicate k none)
  | 0 => trivial
  | k + 1 => ⟨trivial, Os.rep k⟩
theorem Os.set {v : AV} {u : PySem.Value} (h : v.Is u) : ∀ {vs : List (Option AV)} {l : List (Option PySem.Value)} (i : Nat), Os vs l → Os (vs.set i (some v)) (l.set i (some u))
  | [], [], _, _ => trivial
  | _ :: _, _ :: _, 0, k => ⟨h, k.2⟩
  | _ :: _, _ :: _, i + 1, k => ⟨k.1, Os.set h i k.2⟩
section
variable {g : Gd} {n : Nat} {env : Env} {L : Addr} {loc : Loc} {hp : HP}
theorem slot_put {A : Around} {R : Result → Shared → Prop} {s : Shared} {K : Frag} {x C : Addr} {ox : Obj} {od : Option Obj} {v : PySem.Value} {p i : Nat} (X : K.In s.heap) (I : InstAt s.heap x ox C od) (hp : slotIn K p C = some i) (hi : i < 1000)
    (h : R (.ok (.ret .none)) { s with heap := s.heap.update x fun o => { o with slots := (o.slots ++ Array.replicate (i + 1 - o.slots.size) none).setIfInBounds i (some v) } }) :
    codeAny (model pg g.w) A (.call (.builtin "member_descriptor.__set__") ⟨[.ref p, .ref x, v], []⟩) R s := by
  obtain ⟨n, tn, owner, behind, tb, d, sl, cd, ho, hc, hm, hb, rfl⟩ := slot_of X hp
  obtain ⟨hh, g', dr, t, os⟩ := s
  have L0 := I.type (M := model pg g.w)
  have L1 := looks_mroIn (M := model pg g.w) X hm
  have L2 : Looks (model pg g.w) hh (Slots.slotNamesOf (.ref C)) cd.slotNames := (looks_clsIn X hc).andThen .now
  have hx := I.at_
  dsimp only at ho hx L0 L1
  have f0 := looks_field (M := model pg g.w) ho 0 (v := .str n tn) rfl
  have f1 := looks_field (M := model pg g.w) ho 1 (v := owner) rfl
  have f3 := looks_field (M := model pg g.w) ho 3 (v := .builtin "proto.slot#set") rfl
  have f4 := looks_field (M := model pg g.w) ho 4 (v := .int behind tb) rfl
  refine codeAny_call_builtin KF.slot_mset.plain KF.entry_mset (KF.slot_mset.check _ _ _ _ _ _ _ _ ⟨_, ho, rfl⟩ (KF.args_mset _ _ _) ?_)
  unfold Builtin.«member_descriptor.__set__» descrSet descrStoreThrough descrCheckInstance descrNameAndClass isInstance
  have f5 : Looks (model pg g.w) hh (descrItself (.ref p)) [.ref p] := ((Looks.ld (part := none) ho).andThen .now).andThen (Looks.of_pure (by kernel_rfl))
  repeat lk
  refine ⟨Code.quiet_builtin _ (by decide +kernel), codeAny_builtin KF.entry_slotset ?_⟩
  unfold Builtin.«proto.slot#set» Slots.target
  repeat lk
  rw [if_neg hb]
  refine wpAny_pure (wpAny_bind ?_)
  unfold setSlotAt
  dsimp only
  rw [if_neg (by rw [sizeLine_eq]; lia)]
  exact wpAny_updatePart hx (wpAny_pure h)
theorem sa_slot (G : Gnd g) {x C d p : Addr} {vs : List (Option AV)} {attrs : Loc} {name : PySem.Str} {i : Nat} {v : AV} {Q : Loc → HP → Prop} (K : ClsOk g.w.params C) (M : SlotOk g.w.params C p name i) (hi : i < 1000)
    (hx : hp x = some (.slotted C d vs)) (hd : hp d = some (.ns attrs)) (q : Q loc (hp.set x (.slotted C d (setO vs i v)))) : ∀ va vv, (AV.ref x).Is va → v.Is vv → UN g n L (setAttr va name vv) loc hp Q := by
  rintro _ vv ⟨t, rfl⟩ hv
  refine WB.lift (Q := fun V l h => Q l h) fun A E h₀ s c y => ?_
  obtain ⟨ox, od, l, I, hl, hvs, hdx, hpl⟩ := slot_at y hx hd
  have X := G.kin.keeps (staysH c y)
  refine set_plain X I K.sa (osa_descr (s := { s with toks := s.toks + 1 }) KF.slot_mset X I K.over M.taker M.type ?_)
  refine slot_put (s := { s with toks := s.toks + 1 }) X I M.slot hi ?_
  refine ⟨(), _, trivial, (y.upd hx (Y := .slotted C d (setO vs i v)) ?_).toks (Nat.le_add_left 1 _), q⟩
  refine ⟨_, Heap.get?_update_self _ I.at_ ?_, I.cls, hdx, hpl, (l ++ List.replicate (i + 1 - l.length) none).set i (some vv), ?_, ?_⟩
  · obtain ⟨oc, odi, oda, osl⟩ := ox; dsimp only at hpl; subst hpl; rfl
  · rw [hl]; apply Array.toList_inj.mp; simp [Array.toList_setIfInBounds]
  · unfold setO; rw [hvs.len]; exact Os.set hv i (hvs.append (Os.rep _))
end
end Mine
end
section
open PySem PySem.W PySem.Calls PyProof.Rows
namespace Mine
section
variable {g : Gd} {n : Nat} {env : Env} {L : Addr} {loc : Loc} {hp : HP}
/-- obj.meth(e, ..) -/
theorem EV_imeth (G : Gnd g) {o : PySem.Expr} {name : PySem.Str} {apos pos : Pos} {e : PySem.Expr} {es : List PySem.Expr} {C f : Addr} {fd : FuncData} {Q : AV → Loc → HP → Prop} (K : ClsOk g.w.params C)
    (hf : findIn (myK g.w.params) (.ref C) name = some (some (.ref f))) (ho : (myK g.w.params).lookup f = some { cls := .type "function", data := .func fd }) (hty : typeIn (myK g.w.params) (.ref f) = some (.type "function"))
    (h : EV g n env o loc hp fun a l₁ h₁ => ∃ x d attrs, a = .ref x ∧ h₁ x = some (.inst C d) ∧ h₁ d = some (.ns attrs) ∧ lk name attrs = none ∧ ES g n env pos (e :: es) l₁ h₁ fun xs l₂ h₂ => ∀ vs, Vs xs vs → WB g n env.locals (call (.ref f) (.ref x :: vs)) l₂ h₂ AV.Is Q)
    (hbase : attributeBase o name env (eval o env) = eval o env) (hfew : methodCallForm ((e :: es).length + ([] : List Keyword).length) (backTo pos (starEach (e :: es) env)) (backToKw pos (keywordEach [] env)) = true) (hline : (apos.endLine == pos.line) = true)
    (he : starEach (e :: es) env = (false, eval e env) :: starEach es env) : EV g n env (.Call (.Attribute o name apos) (e :: es) [] pos) loc hp Q := by
  intro A E h₀ s c y
  rw [arm_eval_Call, hbase]
  refine wpAny_bind (wpAny_mono (h A E h₀ s c y) (fun ov s₁ hh => ?_) fun V V e => e)
  refine out3 hh fun a l₁ h₁ ra y₁ hQ => ?_
  refine withGoal fun goalX goalBack => ?_
  obtain ⟨x, d, attrs, rfl, hx, hd, hnone, q⟩ := hQ
  refine goalBack ?_
  clear goalBack goalX
  obtain ⟨u, rfl⟩ := ra
  refine wpAny_bind (wpAny_standAt ?_)
  unfold methodCall
  rw [hfew]
  refine withGoal fun goalX goalBack => ?_
  obtain ⟨ox, od, m, I, _, _, hn, hm, hl⟩ := inst_at y₁.at_ hx hd
  refine goalBack ?_
  clear goalBack goalX
  have X := G.kin.keeps (stays c y₁)
  have hsh : shadowIn (some od) name = some false := by
    unfold shadowIn
    have := hm name
    rw [hnone] at this
    cases hmn : m name with
    | none => simp [hl, hmn]
    | some w => rw [hmn] at this; exact this.elim
  refine wpAny_bind (wpAny_holding ?_)
  unfold calleeOf
  rw [if_pos rfl]
  refine method_fn X I K.ga K.gt hf hty hsh ?_
  dsimp only
  refine wpAny_bind ?_
  unfold methodCallPos
  rw [hline]
  refine wpAny_pure ?_
  refine callWith_function (o := { cls := .type "function", data := .func fd }) (fd := fd) ?_
  have q' := q A E h₀ s₁ c y₁
  rw [he] at q' ⊢
  refine evalArgs_plain (wpAny_mono q' (fun vs s₂ hh => ?_) fun V V e => e)
  refine out3 hh fun xs l₂ h₂ r₂ y₂ q => ?_
  exact ⟨⟨stays c y₂ _ _ (G.kin _ _ ho), rfl⟩, q vs r₂ A E h₀ s₂ c y₂⟩
/-- obj.meth() -/
theorem EV_imeth0 (G : Gnd g) {o : PySem.Expr} {name : PySem.Str} {apos pos : Pos} {C f : Addr} {fd : FuncData} {Q : AV → Loc → HP → Prop} (K : ClsOk g.w.params C)
    (hf : findIn (myK g.w.params) (.ref C) name = some (some (.ref f))) (ho : (myK g.w.params).lookup f = some { cls := .type "function", data := .func fd }) (hty : typeIn (myK g.w.params) (.ref f) = some (.type "function"))
    (h : EV g n env o loc hp fun a l₁ h₁ => ∃ x d attrs, a = .ref x ∧ h₁ x = some (.inst C d) ∧ h₁ d = some (.ns attrs) ∧ lk name attrs = none ∧ WB g n env.locals (call (.ref f) [.ref x]) l₁ h₁ AV.Is Q)
    (hbase : attributeBase o name env (eval o env) = eval o env) (hline : (apos.endLine == pos.line) = true) : EV g n env (.Call (.Attribute o name apos) [] [] pos) loc hp Q := by
  intro A E h₀ s c y
  rw [arm_eval_Call, hbase]
  refine wpAny_bind (wpAny_mono (h A E h₀ s c y) (fun ov s₁ hh => ?_) fun V V e => e)
  refine out3 hh fun a l₁ h₁ ra y₁ hQ => ?_
  refine withGoal fun goalX goalBack => ?_
  obtain ⟨x, d, attrs, rfl, hx, hd, hnone, q⟩ := hQ
  refine goalBack ?_
  clear goalBack goalX
  obtain ⟨u, rfl⟩ := ra
  refine wpAny_bind (wpAny_standAt ?_)
  unfold methodCall
  have hfew : methodCallForm (([] : List PySem.Expr).length + ([] : List Keyword).length) (backTo pos (starEach [] env)) (backToKw pos (keywordEach [] env)) = true := rfl
  rw [hfew]
  refine withGoal fun goalX goalBack => ?_
  obtain ⟨ox, od, m, I, _, _, hn, hm, hl⟩ := inst_at y₁.at_ hx hd
  refine goalBack ?_
  clear goalBack goalX
  have X := G.kin.keeps (stays c y₁)
  have hsh : shadowIn (some od) name = some false := by
    unfold shadowIn
    have := hm name
    rw [hnone] at this
    cases hmn : m name with
    | none => simp [hl, hmn]
    | some w => rw [hmn] at this; exact this.elim
  refine wpAny_bind (wpAny_holding ?_)
  unfold calleeOf
  rw [if_pos rfl]
  refine method_fn X I K.ga K.gt hf hty hsh ?_
  dsimp only
  refine wpAny_bind ?_
  unfold methodCallPos
  rw [hline]
  refine wpAny_pure ?_
  refine callWith_function (o := { cls := .type "function", data := .func fd }) (fd := fd) ?_
  exact PySem.evalArgs_none ⟨⟨stays c y₁ _ _ (G.kin _ _ ho), rfl⟩, q A E h₀ s₁ c y₁⟩
end
end Mine
end
section
open PySem PySem.W PySem.Calls PyProof.Rows
namespace Mine
section
variable {g : Gd} {n : Nat} {env : Env} {L : Addr} {loc : Loc} {hp : HP}
theorem EV_Named {x : PySem.Str} {p pos : Pos} {value : PySem.Expr} {Q : AV → Loc → HP → Prop} (h : EV g n env value loc hp fun a l h => ∀ v, a.Is v → UN g n env.locals (storeName env x v) l h fun l h => Q a l h) : EV g n env (.NamedExpr (.Name x p) value pos) loc hp Q := by
  intro A E h₀ s c y
  rw [arm_eval_NamedExpr]
  refine wpAny_bind (wpAny_mono (h A E h₀ s c y) (fun v s₁ hh => wpAny_bind (wpAny_holding (wpAny_assign_Name ?_))) fun V V e => e)
  refine out3 hh fun a l h' r y' q => ?_
  refine wpAny_mono (q v r A E h₀ s₁ c y') (fun V s₂ hh => wpAny_pure ?_) fun V V e => e
  refine out3 hh fun V l h' V y'' q => ?_
  exact ⟨a, l, h', r, y'', q⟩
/-- d.get(k) -/
theorem c_dget {d : Addr} {es : Loc} {k : PySem.Str} {Q : AV → Loc → HP → Prop} (hd : hp d = some (.dict es)) (q : Q ((lk k es).getD .none) loc hp) : ∀ va vs, (AV.ref d).Is va → Vs [.str k] vs → WB g n L (call (.builtin "dict.get") (va :: vs)) loc hp AV.Is Q := by
  rintro _ vs ⟨t, rfl⟩ hv
  obtain ⟨u, rfl⟩ := Vs1 hv
  refine WB.lift fun A E h₀ s c y => ?_
  refine withGoal fun goalX goalBack => ?_
  obtain ⟨hs, kvs, hD, hp'⟩ := dict_at y hd
  refine goalBack ?_
  clear goalBack goalX
  refine call_meetsIn F.slot_dict_get hD.mapOf.typeIs F.entry_dict_get (F.args_dict_get_2 _ _) (meets_dict_get (strKind pg g.w) d (strIs k u) hs) ⟨_, hD.mapOf, ?_⟩
  cases hk : lk k es with
  | none =>
    rw [hp'.atNone hk]
    rw [hk] at q
    exact ⟨.none, hp, ⟨0, rfl⟩, y.toks (Nat.le_add_left 1 _), q⟩
  | some a =>
    refine withGoal fun goalX goalBack => ?_
    obtain ⟨v, e, i⟩ := hp'.at hk
    refine goalBack ?_
    clear goalBack goalX
    rw [e]; rw [hk] at q
    exact ⟨a, hp, i, y.toks (Nat.le_add_left 1 _), q⟩
/-- o[i] = x = value -/
theorem EX_AssignSubName {o i value : PySem.Expr} {x : PySem.Str} {p1 p2 pos : Pos} {Q : AF → Loc → HP → Prop}
    (h : EV g n env value loc hp fun w l h => EV g n env o l h fun a l h => EV g n env i l h fun b l h => ∀ va vb vx, a.Is va → b.Is vb → w.Is vx → UN g n env.locals (setItem va vb vx) l h fun l h => UN g n env.locals (storeName env x vx) l h fun l h => Q .next l h)
    (hw : swappedStores [.Subscript o i p1, .Name x p2] value env = pure none) : EX g n env (.Assign [.Subscript o i p1, .Name x p2] value pos) loc hp Q := by
  intro A E h₀ s c y
  rw [PyProof.Rows.exec_Assign]
  refine wpAny_bind (wpAny_standAt ?_)
  show wpAny _ A (do
    if ← (pure false : Sem Bool) then _
    else _) _ _ _
  refine wpAny_bind (wpAny_pure ?_)
  rw [if_neg (by decide)]
  refine wpAny_bind (wpAny_mono (h A E h₀ s c y) (fun vx s₁ hh => ?_) fun V V e => e)
  refine out3 hh fun V V V rw' x1 k1 => ?_
  rw [hw]
  refine wpAny_bind (wpAny_pure ?_)
  show wpAny _ A (do (do holding [vx] (assign (.Subscript o i p1) env vx); assign (.Name x p2) env vx); pure Flow.next) _ _ _
  refine wpAny_bind (wpAny_bind (wpAny_holding ?_))
  rw [assign_Subscript]
  refine wpAny_bind (wpAny_holding (wpAny_mono (k1 A E h₀ _ c x1) (fun va s₂ hh => ?_) fun V V e => e))
  refine out3 hh fun V V V ra x2 k2 => ?_
  refine wpAny_bind (wpAny_holding (wpAny_mono (k2 A E h₀ _ c x2) (fun vb s₃ hh => ?_) fun V V e => e))
  refine out3 hh fun V V V rb x3 k3 => ?_
  refine wpAny_bind (wpAny_standAt (wpAny_bind (wpAny_holding (wpAny_mono (k3 _ _ _ ra rb rw' A E h₀ _ c x3) (fun V s₄ hh => wpAny_release ?_) fun V V e => e))))
  refine out3 hh fun V l4 h4 V x4 k4 => ?_
  refine wpAny_assign_Name (wpAny_mono (k4 A E h₀ _ c x4) (fun V s₅ hh => wpAny_pure ?_) fun V V e => e)
  refine out3 hh fun V l h' V y' q => ?_
  exact ⟨.next, l, h', rfl, y', q⟩
end
end Mine
end
section
open PySem PySem.W PySem.Calls PyProof.Rows
namespace Mine
section
variable {g : Gd} {n : Nat} {env : Env} {L : Addr} {loc : Loc} {hp : HP}
/-- del o[i] -/
theorem EX_DelSub {o i : PySem.Expr} {p pos : Pos} {Q : AF → Loc → HP → Prop}
    (h : EV g n env o loc hp fun a l h => EV g n env i l h fun b l h => ∀ va vb, a.Is va → b.Is vb → UN g n env.locals (delItem va vb) l h fun l h => Q .next l h) : EX g n env (.Delete [.Subscript o i p] pos) loc hp Q := by
  intro A E h₀ s c y
  refine wpAny_Delete (wpAny_deleteEach_cons (delete_Subscript (wpAny_mono (h A E h₀ s c y) (fun va s₁ hh => ?_) fun V V e => e)))
  refine out3 hh fun V V V ra x1 k1 => ?_
  refine wpAny_mono (k1 A E h₀ _ c x1) (fun vb s₂ hh => ?_) fun V V e => e
  refine out3 hh fun V V V rb x2 k2 => ?_
  refine wpAny_mono (k2 va vb ra rb A E h₀ _ c x2) (fun V s₃ hh => wpAny_deleteEach_nil ?_) fun V V e => e
  refine out3 hh fun V l h' V y' q => ?_
  exact ⟨.next, l, h', rfl, y', q⟩
noncomputable def dwithout (es : Loc) (k : PySem.Str) : Loc := es.filter fun p => decide (p.1 ≠ k)
theorem Ps.without {k : PySem.Str} : ∀ {es : Loc} {kvs : List (PySem.Str × PySem.Value)}, Ps es kvs → Ps (dwithout es k) (PySem.without kvs k)
  | [], [], _ => trivial
  | (y, b) :: es, (z, u) :: kvs, h => by
    have h1 : y = z := h.1
    subst h1
    have ih := Ps.without (k := k) h.2.2
    unfold dwithout PySem.without at ih ⊢
    by_cases q : y = k
    · subst q; simpa using ih
    · rw [List.filter_cons, List.filter_cons, if_pos (by simp [q]), if_pos (by simp [q])]
      exact ⟨rfl, h.2.1, ih⟩
theorem di_dict {d : Addr} {es : Loc} {k : PySem.Str} {x : AV} {Q : Loc → HP → Prop} (hd : hp d = some (.dict es)) (hx : lk k es = some x) (hz : es.length ≤ 100000) (q : Q loc (hp.set d (.dict (dwithout es k)))) :
    ∀ va vb, (AV.ref d).Is va → (AV.str k).Is vb → UN g n L (delItem va vb) loc hp Q := by
  rintro _ _ ⟨t, rfl⟩ ⟨u, rfl⟩
  refine WB.lift (Q := fun V l h => Q l h) fun A E h₀ s c y => ?_
  refine withGoal fun goalX goalBack => ?_
  obtain ⟨hs, kvs, hD, hp'⟩ := dict_at y hd
  refine goalBack ?_
  clear goalBack goalX
  obtain ⟨v, hv, iv⟩ := hp'.at hx
  show wpAny _ _ (delItem (.ref d) (.str k u)) _ _ _
  unfold delItem
  try with_reducible refine wpAny_holding ?_
  refine wpAny_bind (wpAny_sequenceKey hD.typeIs (by decide) ?_)
  refine wpAny_bind (wpAny_callSpecial?_slot (name := Str.ofString "__delitem__") hD.typeIs PySem.F.slot_dict_delitem
    (call_meetsIn PySem.F.slot_dict_delitem hD.typeIs PySem.F.entry_dict_delitem (PySem.F.args_dict_delitem_2 _ _) (meets_dict_delitem_pairs (strKind pg g.w) d (strIs k u)) ⟨kvs, hD, (by rw [← hp'.len]; exact sz_le hz), by rw [hv]; rfl, fun h' hmm hs' => ?_⟩))
  exact wpAny_pure ⟨(), _, trivial, (y.put hd (fun b o hb e => hs'.extBut b o hb e) (Y := .dict (dwithout es k)) ⟨hs, _, hmm, hp'.without⟩).toks (Nat.le_add_left 1 _), q⟩
theorem cmp_in_dict {d : Addr} {es : Loc} {k : PySem.Str} {Q : AV → Loc → HP → Prop} (hd : hp d = some (.dict es)) (q : Q (.bool (lk k es).isSome) loc hp) : ∀ va vb, (AV.str k).Is va → (AV.ref d).Is vb → WB g n L (compareOp .In va vb) loc hp AV.Is Q := by
  rintro _ _ ⟨t, rfl⟩ ⟨u, rfl⟩
  refine WB.lift fun A E h₀ s c y => ?_
  refine withGoal fun goalX goalBack => ?_
  obtain ⟨hs, kvs, hD, hp'⟩ := dict_at y hd
  refine goalBack ?_
  clear goalBack goalX
  refine wpAny_in_of (strIs k t) hs hD.mapOf ⟨.bool (lk k es).isSome, hp, ⟨0, ?_⟩, y.toks (Nat.le_add_left 1 _), q⟩
  cases hk : lk k es with
  | none => rw [hp'.atNone hk]; rfl
  | some a => obtain ⟨v, e, i⟩ := hp'.at hk; rw [e]; rfl
theorem cmp_in_set {d : Addr} {ks : List PySem.Str} {k : PySem.Str} {Q : AV → Loc → HP → Prop} (hd : hp d = some (.set ks)) (q : Q (.bool (decide (k ∈ ks))) loc hp) : ∀ va vb, (AV.str k).Is va → (AV.ref d).Is vb → WB g n L (compareOp .In va vb) loc hp AV.Is Q := by
  rintro _ _ ⟨t, rfl⟩ ⟨u, rfl⟩
  refine WB.lift fun A E h₀ s c y => ?_
  exact wpAny_inSet_of (strIs k t) rfl (y.own d _ hd).1 ⟨.bool (decide (k ∈ ks)), hp, ⟨0, rfl⟩, y.toks (Nat.le_add_left 1 _), q⟩
theorem c_set0 {Q : AV → Loc → HP → Prop} (q : ∀ D, hp D = none → Q (.ref D) loc (hp.set D (.set []))) : WB g n L (call (.type "set") []) loc hp AV.Is Q := by
  refine WB.lift fun A E h₀ s c y => call_set_0 fun led => ?_
  refine ⟨.ref _, _, ⟨0, rfl⟩, y.push (X := .set []) ?_, q _ y.freshP⟩
  exact ⟨_, #[], 0, _, Heap.get?_push_size _ rfl, ⟨rfl, rfl, rfl⟩, rfl, fun e he => by simp at he, fun k => by simp, by decide, rfl, rfl⟩
theorem c_setadd {d : Addr} {ks : List PySem.Str} {k : PySem.Str} {Q : AV → Loc → HP → Prop} (hd : hp d = some (.set ks)) (hk : k ∉ ks) (hz : ks.length + 1 < scanBound) (q : Q .none loc (hp.set d (.set (k :: ks)))) :
    ∀ va vs, (AV.ref d).Is va → Vs [.str k] vs → WB g n L (call (.builtin "set.add") (va :: vs)) loc hp AV.Is Q := by
  rintro _ vs ⟨t, rfl⟩ hv
  obtain ⟨u, rfl⟩ := Vs1 hv
  refine WB.lift fun A E h₀ s c y => ?_
  refine call_set_add (strIs k u) rfl (y.own d _ hd).1 hz fun h' hs' hS' => ?_
  refine ⟨.none, _, ⟨0, rfl⟩, (y.put hd (fun b o hb e => hs'.extBut b o hb e) (Y := .set (k :: ks)) ?_).toks (Nat.le_add_left 1 _), q⟩
  have e1 : (if (decide (k ∈ ks)) = true then ks.length else ks.length + 1) = (k :: ks).length := by simp [hk]
  have e2 : (fun k' => decide (k' ∈ ks) || decide (k' = k)) = fun k' => decide (k' ∈ k :: ks) := by
    funext k'; rw [Bool.eq_iff_iff]; simp [or_comm]
  rw [e1, e2] at hS'
  exact hS'
theorem c_tuple {l : Addr} {xs : List AV} {Q : AV → Loc → HP → Prop} (hl : hp l = some (.list xs)) (hz : xs.length ≤ 100000) (q : ∀ D, hp D = none → Q (.ref D) loc (hp.set D (.tuple xs))) : ∀ vs, Vs [.ref l] vs → WB g n L (call (.type "tuple") vs) loc hp AV.Is Q := by
  intro vs hv
  obtain ⟨t, rfl⟩ := Vs1 hv
  refine WB.lift fun A E h₀ s c y => ?_
  refine withGoal fun goalX goalBack => ?_
  obtain ⟨items, m, ho, it, hi, hsz⟩ := list_at y hl
  refine goalBack ?_
  clear goalBack goalX
  refine call_tuple_list it (fun h' hk => ?_) (by rw [hsz]; exact sz_le hz)
  have y' := y.ext hk
  exact ⟨.ref _, _, ⟨0, rfl⟩, y'.push (X := .tuple xs) ⟨_, _, Heap.get?_push_size _ rfl, hi⟩, q _ y'.freshP⟩
theorem c_clear {l : Addr} {xs : List AV} {Q : AV → Loc → HP → Prop} (hl : hp l = some (.list xs)) (hz : xs.length ≤ 100000) (q : Q .none loc (hp.set l (.list []))) : ∀ va, (AV.ref l).Is va → WB g n L (call (.builtin "list.clear") [va]) loc hp AV.Is Q := by
  rintro _ ⟨t, rfl⟩
  refine WB.lift fun A E h₀ s c y => ?_
  refine withGoal fun goalX goalBack => ?_
  obtain ⟨items, m, ho, it, hi, hsz⟩ := list_at y hl
  refine goalBack ?_
  clear goalBack goalX
  refine call_meets F.slot_list_clear ⟨_, ho, rfl⟩ F.entry_list_clear (F.args_list_clear_1 _) (AutoSeq1.list_clear_list_0 l items m (by rw [hsz]; exact sz_le hz)) ⟨ho, ⟨.none, _, ⟨0, rfl⟩, y.upd (Y := .list []) hl ?_, q⟩⟩
  exact ⟨#[], _, Heap.get?_update_self _ ho rfl, trivial⟩
theorem c_len_tuple {l : Addr} {xs : List AV} {Q : AV → Loc → HP → Prop} (hl : hp l = some (.tuple xs)) (hz : xs.length ≤ 100000) (q : Q (.int (xs.length : Nat)) loc hp) : ∀ vs, Vs [.ref l] vs → WB g n L (call (.builtin "len") vs) loc hp AV.Is Q := by
  intro vs hv
  obtain ⟨t, rfl⟩ := Vs1 hv
  refine WB.lift fun A E h₀ s c y => ?_
  refine withGoal fun goalX goalBack => ?_
  obtain ⟨items, m, ho, it, hi, hsz⟩ := tuple_at y hl
  refine goalBack ?_
  clear goalBack goalX
  exact PySem.P.len_tuple (n := m) ho (by rw [hsz]; have := fit63 hz; lia) ⟨.int (xs.length : Nat), hp, ⟨_, by rw [hsz]; rfl⟩, y.toks (Nat.le_add_left 1 _), q⟩
theorem c_bool_list {l : Addr} {xs : List AV} {Q : AV → Loc → HP → Prop} (hl : hp l = some (.list xs)) (hz : xs.length ≤ 100000) (q : Q (.bool (!xs.isEmpty)) loc hp) : ∀ vs, Vs [.ref l] vs → WB g n L (call (.type "bool") vs) loc hp AV.Is Q := by
  intro vs hv
  obtain ⟨t, rfl⟩ := Vs1 hv
  refine WB.lift fun A E h₀ s c y => ?_
  refine withGoal fun goalX goalBack => ?_
  obtain ⟨items, m, ho, it, hi, hsz⟩ := list_at y hl
  refine goalBack ?_
  clear goalBack goalX
  show wpAny _ _ (call (.type "bool") [.ref l]) _ _ _
  refine call_bool_1 (S := fun A R s => s.heap.IsList l items ∧ R (.ok (.ret (.bool (!xs.isEmpty)))) { s with toks := s.toks + 1 + 1 }) (Meets.of_wp fun prog w A R s hs => ?_) ⟨it, rfl, .bool _, hp, ⟨0, rfl⟩, y.toks (Nat.le_add_left 1 _), q⟩
  obtain ⟨it, hs⟩ := hs
  refine withGoal fun goalX goalBack => ?_
  obtain ⟨h1, g1, d1, tk, os⟩ := s
  refine goalBack ?_
  clear goalBack goalX
  have f1 := F.conv_sub_bool
  have hfit : (items.size : Int) < 2 ^ 63 := by rw [hsz]; exact fit63 hz
  have e : (!xs.isEmpty) = !items.isEmpty := by
    rw [Array.isEmpty, hsz]; cases xs <;> rfl
  rw [e] at hs
  repeat (any_goals (first | assumption | with_reducible refine wpAny_truthy_list it hfit ?_ | wp_step))
  all_goals first | exact ⟨_, rfl, hs⟩ | skip
theorem ip_add {i j : Int} {Q : AV → Loc → HP → Prop} (q : Q (.int (i + j)) loc hp) : ∀ va vb, (AV.int i).Is va → (AV.int j).Is vb → WB g n L (inplaceOp .Add va vb) loc hp AV.Is Q := by
  rintro _ _ ⟨t, rfl⟩ ⟨u, rfl⟩; exact WB_puts (v := .int (i + j)) (fun A E s Q V h => PySem.AutoIntOps.iadd_0 (h s.toks (s.toks + 1))) q
theorem ip_sub {i j : Int} {Q : AV → Loc → HP → Prop} (q : Q (.int (i - j)) loc hp) : ∀ va vb, (AV.int i).Is va → (AV.int j).Is vb → WB g n L (inplaceOp .Sub va vb) loc hp AV.Is Q := by
  rintro _ _ ⟨t, rfl⟩ ⟨u, rfl⟩; exact WB_puts (v := .int (i - j)) (fun A E s Q V h => PySem.AutoIntOps.isub_0 (h s.toks (s.toks + 1))) q
theorem cmp_is_bool {a b : Bool} {Q : AV → Loc → HP → Prop} (q : Q (.bool (a == b)) loc hp) : ∀ va vb, (AV.bool a).Is va → (AV.bool b).Is vb → WB g n L (compareOp .Is va vb) loc hp AV.Is Q := by
  rintro _ _ ⟨t, rfl⟩ ⟨u, rfl⟩; exact WB_puts (v := .bool (a == b)) (fun A E s Q V h => wpAny_is_plain rfl (by have := h 0 s.toks; cases a <;> cases b <;> exact this)) q
theorem cmp_isNot_bool {a b : Bool} {Q : AV → Loc → HP → Prop} (q : Q (.bool (!(a == b))) loc hp) : ∀ va vb, (AV.bool a).Is va → (AV.bool b).Is vb → WB g n L (compareOp .IsNot va vb) loc hp AV.Is Q := by
  rintro _ _ ⟨t, rfl⟩ ⟨u, rfl⟩; exact WB_puts (v := .bool (!(a == b))) (fun A E s Q V h => wpAny_isNot_plain rfl (by have := h 0 s.toks; cases a <;> cases b <;> exact this)) q
theorem c_sum {l : Addr} {ns : List Int} {Q : AV → Loc → HP → Prop} (hl : hp l = some (.list (intsA ns))) (q : Q (.int ns.sum) loc hp) (hg : g.hn = true := by first | with_reducible assumption | exact Gnd.hn (by with_reducible assumption)) : ∀ vs, Vs [.ref l] vs → WB g n L (call (.builtin "sum") vs) loc hp AV.Is Q := by
  intro vs hv
  obtain ⟨t, rfl⟩ := Vs1 hv
  refine WB.lift fun A E h₀ s c y => ?_
  refine withGoal fun goalX goalBack => ?_
  obtain ⟨items, m, ho, it, hi, hsz⟩ := list_at y hl
  refine goalBack ?_
  clear goalBack goalX
  obtain ⟨xs, hxs, hns⟩ := IntsAre.items (Vs_ints hi)
  have hit : items = intItems xs.toArray := by apply Array.toList_inj.mp; simp [intItems, hxs]
  refine wpAny_with_toks (n := 1) y.tok (sum_intListG (c.handled hg) (hit ▸ it) fun h' tk t' hk htk => ?_)
  refine ⟨.int ns.sum, hp, ⟨t', ?_⟩, (y.ext hk).toks htk, q⟩
  rw [preSum_eq, List.take_of_length_le (by simp), ← hns]; rfl
end
end Mine
end
section
open PySem PySem.W PySem.Calls PyProof.Rows PySem.SeqAt
namespace Mine
theorem Vs_str_at {ss : List PySem.Str} {vs : List PySem.Value} (h : Vs (strsA ss) vs) {j : Nat} {x : PySem.Value} (e : vs[j]? = some x) : ∃ t u, ss[j]? = some t ∧ x = .str t u := by
  obtain ⟨a, ha, i⟩ := h.getR e
  simp only [strsA, List.getElem?_map, Option.map_eq_some_iff] at ha
  obtain ⟨t, ht, rfl⟩ := ha
  obtain ⟨u, rfl⟩ := i
  exact ⟨t, u, ht, rfl⟩
theorem all_eq_iff (ss ts : List PySem.Str) : ((List.range (min ss.length ts.length)).all (fun j => ss[j]? == ts[j]?) && ss.length == ts.length) = decide (ss = ts) := by
  rw [Bool.eq_iff_iff]
  simp only [Bool.and_eq_true, List.all_eq_true, List.mem_range, beq_iff_eq, decide_eq_true_eq]
  constructor
  · rintro ⟨h, hl⟩
    apply List.ext_getElem? 
    intro j
    by_cases hj : j < ss.length
    · exact h j (by omega)
    · rw [List.getElem?_eq_none (by omega), List.getElem?_eq_none (by omega)]
  · rintro rfl; simp
theorem Vs_eqAt {A : Around} {s : Shared} {ss ts : List PySem.Str} {xs ys : Array PySem.Value} (h1 : Vs (strsA ss) xs.toList) (h2 : Vs (strsA ts) ys.toList) : ∀ j (a : j < xs.size) (b : j < ys.size), EqAt A s xs[j] ys[j] (ss[j]? == ts[j]?) := by
  intro j a b
  refine withGoal fun goalX goalBack => ?_
  obtain ⟨t, u, e1, e2⟩ := Vs_str_at h1 (j := j) (x := xs[j]) (by simp [a])
  refine goalBack ?_
  clear goalBack goalX
  refine withGoal fun goalX goalBack => ?_
  obtain ⟨t', u', e3, e4⟩ := Vs_str_at h2 (j := j) (x := ys[j]) (by simp [b])
  refine goalBack ?_
  clear goalBack goalX
  rw [e2, e4, e1, e3]
  have : (some t == some t') = (t == t') := rfl
  rw [this]
  exact EqAt.str_str _ _ _ _
section
variable {g : Gd} {n : Nat} {env : Env} {L : Addr} {loc : Loc} {hp : HP}
theorem cmp_ne_tup {l b : Addr} {ss ts : List PySem.Str} {Q : AV → Loc → HP → Prop} (hl : hp l = some (.tuple (strsA ss))) (hb : hp b = some (.tuple (strsA ts))) (q : Q (.bool (!decide (ss = ts))) loc hp) : ∀ va vb, (AV.ref l).Is va → (AV.ref b).Is vb → WB g n L (compareOp .NotEq va vb) loc hp AV.Is Q := by
  rintro _ _ ⟨t, rfl⟩ ⟨u, rfl⟩
  refine WB.lift fun A E h₀ s c y => ?_
  refine withGoal fun goalX goalBack => ?_
  obtain ⟨i1, m1, ho1, it1, hi1, z1⟩ := tuple_at y hl
  refine goalBack ?_
  clear goalBack goalX
  refine withGoal fun goalX goalBack => ?_
  obtain ⟨i2, m2, ho2, it2, hi2, z2⟩ := tuple_at y hb
  refine goalBack ?_
  clear goalBack goalX
  refine RcNeAt.tuples it1 it2 (by have := c.units; show A.units < 9900; omega) (Vs_eqAt hi1 hi2) pg g.w _ _ ⟨.bool (!decide (ss = ts)), hp, ⟨0, ?_⟩, y, q⟩
  have e1 : i1.size = ss.length := by simpa [strsA] using z1
  have e2 : i2.size = ts.length := by simpa [strsA] using z2
  rw [e1, e2, all_eq_iff]; rfl
theorem cmp_eq_tup {l b : Addr} {ss ts : List PySem.Str} {Q : AV → Loc → HP → Prop} (hl : hp l = some (.tuple (strsA ss))) (hb : hp b = some (.tuple (strsA ts))) (q : Q (.bool (decide (ss = ts))) loc hp) : ∀ va vb, (AV.ref l).Is va → (AV.ref b).Is vb → WB g n L (compareOp .Eq va vb) loc hp AV.Is Q := by
  rintro _ _ ⟨t, rfl⟩ ⟨u, rfl⟩
  refine WB.lift fun A E h₀ s c y => ?_
  refine withGoal fun goalX goalBack => ?_
  obtain ⟨i1, m1, ho1, it1, hi1, z1⟩ := tuple_at y hl
  refine goalBack ?_
  clear goalBack goalX
  refine withGoal fun goalX goalBack => ?_
  obtain ⟨i2, m2, ho2, it2, hi2, z2⟩ := tuple_at y hb
  refine goalBack ?_
  clear goalBack goalX
  refine RcAt.tuples it1 it2 (by have := c.units; show A.units < 9900; omega) (Vs_eqAt hi1 hi2) pg g.w _ _ ⟨.bool (decide (ss = ts)), hp, ⟨0, ?_⟩, y, q⟩
  have e1 : i1.size = ss.length := by simpa [strsA] using z1
  have e2 : i2.size = ts.length := by simpa [strsA] using z2
  rw [e1, e2, all_eq_iff]; rfl
theorem cmp_ne_list_same {l b : Addr} {ss : List PySem.Str} {Q : AV → Loc → HP → Prop} (hl : hp l = some (.list (strsA ss))) (hb : hp b = some (.list (strsA ss))) (q : Q (.bool false) loc hp) : ∀ va vb, (AV.ref l).Is va → (AV.ref b).Is vb → WB g n L (compareOp .NotEq va vb) loc hp AV.Is Q := by
  rintro _ _ ⟨t, rfl⟩ ⟨u, rfl⟩
  refine WB.lift fun A E h₀ s c y => ?_
  refine withGoal fun goalX goalBack => ?_
  obtain ⟨i1, m1, ho1, it1, hi1, z1⟩ := list_at y hl
  refine goalBack ?_
  clear goalBack goalX
  refine withGoal fun goalX goalBack => ?_
  obtain ⟨i2, m2, ho2, it2, hi2, z2⟩ := list_at y hb
  refine goalBack ?_
  clear goalBack goalX
  have e1 : i1.size = ss.length := by simpa [strsA] using z1
  have e2 : i2.size = ss.length := by simpa [strsA] using z2
  refine RcNeAt.lists it1 it2 (by rw [e1, e2]) (by have := c.units; show A.units < 9900; omega) (Vs_eqAt hi1 hi2) pg g.w _ _ ⟨.bool false, hp, ⟨0, ?_⟩, y, q⟩
  have := all_eq_iff ss ss
  rw [Nat.min_self, decide_eq_true rfl, beq_self_eq_true, Bool.and_true] at this
  rw [e1, this]; rfl
/-- row.index(x) -/
theorem c_index {l : Addr} {ss : List PySem.Str} {x : PySem.Str} {j : Nat} {Q : AV → Loc → HP → Prop} (hl : hp l = some (.list (strsA ss))) (hz : ss.length ≤ 100000) (hj : ss[j]? = some x) (hno : ∀ m, m < j → ss[m]? ≠ some x) (q : Q (.int (j : Nat)) loc hp) :
    ∀ va vs, (AV.ref l).Is va → Vs [.str x] vs → WB g n L (call (.builtin "list.index") (va :: vs)) loc hp AV.Is Q := by
  rintro _ vs ⟨t, rfl⟩ hv
  obtain ⟨u, rfl⟩ := Vs1 hv
  refine WB.lift fun A E h₀ s c y => ?_
  refine withGoal fun goalX goalBack => ?_
  obtain ⟨items, m, ho, it, hi, z⟩ := list_at y hl
  refine goalBack ?_
  clear goalBack goalX
  have hsz : items.size = ss.length := by simpa [strsA] using z
  have hjl : j < items.size := by rw [hsz]; exact (List.getElem?_eq_some_iff.mp hj).1
  have key : ∀ k (hk : k < items.size), ∃ t u, ss[k]? = some t ∧ items[k] = .str t u := fun k hk => Vs_str_at hi (by simp [hk])
  refine call_meets F.slot_list_index ⟨_, ho, rfl⟩ F.entry_list_index (F.args_list_index_2 _ _) (list_indexAt l items m none #[] (.str x u) (fun v => match v with | .str t _ => t == x | _ => false) j hjl (by have := fit63 hz; omega) ?_ ?_) ⟨ho, ?_, ⟨.int (j : Nat), hp, ⟨_, rfl⟩, y.toks (Nat.le_add_left 1 _), q⟩⟩
  · refine withGoal fun goalX goalBack => ?_
    obtain ⟨t, u, e1, e2⟩ := key j hjl
    refine goalBack ?_
    clear goalBack goalX
    rw [hj] at e1; cases e1
    rw [e2]; simp
  · intro k hk hkj
    refine withGoal fun goalX goalBack => ?_
    obtain ⟨t, u, e1, e2⟩ := key k hk
    refine goalBack ?_
    clear goalBack goalX
    have := hno k hkj
    rw [e1] at this
    rw [e2]; simp; intro h; exact this (by rw [h])
  · intro v hv
    obtain ⟨k, hk, rfl⟩ := Array.mem_iff_getElem.mp hv
    refine withGoal fun goalX goalBack => ?_
    obtain ⟨t, u, e1, e2⟩ := key k hk
    refine goalBack ?_
    clear goalBack goalX
    rw [e2]
    exact EqAt.str_str _ _ _ _
/-- d.values() -/
noncomputable def valuesO (d : Addr) : AO := .raw fun o => o.cls = .type "dict_values" ∧ o.data = .fields #[.ref d]
theorem c_dvalues {d : Addr} {es : Loc} {Q : AV → Loc → HP → Prop} (hd : hp d = some (.dict es)) (q : ∀ D, hp D = none → Q (.ref D) loc (hp.set D (valuesO d))) : ∀ va, (AV.ref d).Is va → WB g n L (call (.builtin "dict.values") [va]) loc hp AV.Is Q := by
  rintro _ ⟨t, rfl⟩
  refine WB.lift fun A E h₀ s c y => ?_
  refine withGoal fun goalX goalBack => ?_
  obtain ⟨hs, kvs, hD, hp'⟩ := dict_at y hd
  refine goalBack ?_
  clear goalBack goalX
  exact call_meetsIn F.slot_dict_values hD.typeIs F.entry_dict_values (F.args_dict_values_1 _) (meets_dict_values (strKind pg g.w) d hs) ⟨⟨kvs, hD⟩, ⟨.ref _, _, ⟨0, rfl⟩, y.push (X := valuesO d) ⟨_, Heap.get?_push_size _ rfl, rfl, rfl⟩, q _ y.freshP⟩⟩
theorem Ps.getR : ∀ {es : Loc} {kvs : List (PySem.Str × PySem.Value)} {i : Nat} {k : PySem.Str} {v : PySem.Value}, Ps es kvs → kvs[i]? = some (k, v) → ∃ a, es[i]? = some (k, a) ∧ a.Is v
  | [], [], _, _, _, _, e => by simp at e
  | [], _ :: _, _, _, _, h, _ => h.elim
  | _ :: _, [], _, _, _, h, _ => h.elim
  | (y, b) :: _, (z, u) :: _, 0, k, v, h, e => by
    simp only [List.getElem?_cons_zero, Option.some.injEq, Prod.mk.injEq] at e
    obtain ⟨rfl, rfl⟩ := e
    have h1 : y = z := h.1
    subst h1
    exact ⟨b, rfl, h.2.1⟩
  | _ :: _, _ :: _, i + 1, _, _, h, e => by
    obtain ⟨a, ha, ia⟩ := Ps.getR (i := i) h.2.2 (by simpa using e)
    exact ⟨a, by simpa using ha, ia⟩
theorem Src.values {l d : Addr} {es : Loc} (hl : hp l = some (valuesO d)) (hd : hp d = some (.dict es)) : Src g (.ref l) hp (hp.del d) (es.map (·.2)) (fun h => h.set d (.dict es)) := by
  refine ⟨fun b e => HP.del_none e, fun b hp' e e' => ?_, fun A E h₀ s v Q hh x hv k => ?_⟩
  · rw [HP.set_ne (by rintro rfl; rw [hd] at e; cases e)]; exact e'
  obtain ⟨t, rfl⟩ := hv
  refine withGoal fun goalX goalBack => ?_
  obtain ⟨ov, hov, hvc, hvd⟩ := (x.own l _ hl).1
  refine goalBack ?_
  clear goalBack goalX
  refine withGoal fun goalX goalBack => ?_
  obtain ⟨hs, kvs, hD, hps⟩ := dict_at x hd
  refine goalBack ?_
  clear goalBack goalX
  obtain ⟨ep, hA⟩ := hD.dictAt
  obtain ⟨od, hod⟩ := (x.own d _ hd).1.there
  have hne : d ≠ s.heap.objs.size := Nat.ne_of_lt (Heap.lt_size hod)
  refine wpAny_pyIter_values ⟨ov, hov, hvc, hvd⟩ hA (k _ [s.heap.objs.size, d] [s.heap.objs.size] (fun i h => h.IsValIter s.heap.objs.size d i kvs.length ep ∧ h.DictAt (strKind pg g.w) d kvs ep) _ (fun A' hh' => ?_) ⟨⟨_, Heap.get?_push_size _ rfl, rfl, rfl⟩, hA.push _⟩
    ((x.push0 _).sub (HP.del_sub hp d)) (fun b hb => ?_) (fun i h st b hb => ?_) (fun b o e => Heap.get?_push_of_some _ e) fun s' hp' y hk => y.give ?_ (x.own d _ hd).2)
  · have hlen : (es.map (·.2)).length = kvs.length := by rw [List.length_map, hps.len]
    rw [hlen]
    exact Walks.imp (PySem.Walks.dictValues hh' _ d hne kvs ep) fun i v V ⟨k, e⟩ => by
      obtain ⟨a, ha, ia⟩ := hps.getR e
      exact ⟨a, by simp [ha], ia⟩
  · rcases List.mem_cons.mp hb with rfl | hb
    · exact ⟨HP.del_none x.freshP, .inl (by cases q : s.heap.get? s.heap.objs.size with | none => rfl | some o => exact absurd (Heap.lt_size q) (Nat.lt_irrefl _))⟩
    · simp at hb; subst hb; exact ⟨by simp, .inr (by rw [hd]; rfl)⟩
  · rcases List.mem_cons.mp hb with rfl | hb
    · obtain ⟨o, ho, _⟩ := st.1; exact ⟨o, ho⟩
    · simp at hb; subst hb; obtain ⟨o, es, ho, _⟩ := st.2; exact ⟨o, ho⟩
  · refine (x.own d _ hd).1.of_eq ?_
    rw [hk d od (by simp) (by simp [hne]) (Heap.get?_push_of_some _ hod), hod]
end
end Mine
end
section
open PySem PySem.W PySem.Calls PyProof.Rows
namespace Mine
section
variable {g : Gd} {n : Nat} {env : Env} {L : Addr} {loc : Loc} {hp : HP}
/-- reading a fixed dict -/
theorem gi_dictR {d : Addr} {es : Loc} {k : PySem.Str} {x : AV} {P : Obj → Prop} {Q : AV → Loc → HP → Prop} (hd : hp d = some (.raw P)) (hP : ∀ h o, P o → h.get? d = some o → (AO.dict es).In g.w h d) (hx : lk k es = some x) (q : Q x loc hp) :
    ∀ va vb, (AV.ref d).Is va → (AV.str k).Is vb → WB g n L (getItem va vb) loc hp AV.Is Q := by
  rintro _ _ ⟨t, rfl⟩ ⟨u, rfl⟩
  refine WB.lift fun A E h₀ s c y => ?_
  obtain ⟨o, ho, hPo⟩ := (y.own d _ hd).1
  refine withGoal fun goalX goalBack => ?_
  obtain ⟨_, kvs, hD, hp'⟩ := hP _ o hPo ho
  refine goalBack ?_
  clear goalBack goalX
  obtain ⟨v, hv, iv⟩ := hp'.at hx
  exact wpAny_getItem_of (strIs k u) hD.mapOf hv ⟨x, hp, iv, y.toks (Nat.le_add_left 1 _), q⟩
theorem EV_SubR {value slice : PySem.Expr} {pos : Pos} {d : Addr} {es : Loc} {P : Obj → Prop} {Q : AV → Loc → HP → Prop} (hP : ∀ h o, P o → h.get? d = some o → (AO.dict es).In g.w h d)
    (h : EV g n env value loc hp fun a l₁ h₁ => EV g n env slice l₁ h₁ fun b l₂ h₂ => a = .ref d ∧ h₂ d = some (.raw P) ∧ ∀ va vb, a.Is va → b.Is vb → WB g n env.locals (getItem va vb) l₂ h₂ AV.Is Q) : EV g n env (.Subscript value slice pos) loc hp Q := by
  intro A E h₀ s c y
  refine Subscript_ (wpAny_mono (h A E h₀ s c y) (fun va s₁ hh => ?_) fun V V e => e)
  refine out3 hh fun a l₁ h₁ ra y₁ q => ?_
  refine wpAny_mono (q A E h₀ s₁ c y₁) (fun vb s₂ hh => ?_) fun V V e => e
  refine out3 hh fun b l₂ h₂ rb y₂ hQ => ?_
  obtain ⟨rfl, hr, q⟩ := hQ
  obtain ⟨t, rfl⟩ := id ra
  obtain ⟨o, ho, hPo⟩ := (y₂.at_.own d _ hr).1
  refine withGoal fun goalX goalBack => ?_
  obtain ⟨_, kvs, hD, hp'⟩ := hP _ o hPo ho
  refine goalBack ?_
  clear goalBack goalX
  exact sub_tail (M := model pg g.w) hD.typeIs PySem.slot_dict_getitem.lookup (q _ vb ra rb A E h₀ s₂ c y₂)
end
end Mine
end
section
open PySem PySem.W PySem.Calls PyProof.Rows
namespace Mine
/-- an exception with its arguments at t -/
noncomputable def excO (X : String) (t : Addr) : AO := .raw fun o => o.cls = .type X ∧ ∃ vs, o.data = .fields vs ∧ vs[0]? = some (.ref t) ∧ 1 < vs.size
/-- its traceback -/
noncomputable def TbAt (h₀ : Heap) (hp : HP) (h : Heap) (e : Addr) (fl : PySem.Value) : Prop :=
  ∃ oe vs T oT ts, h.get? e = some oe ∧ oe.data = .fields vs ∧ vs[1]? = some (.ref T) ∧ hp T = none ∧ h₀.get? T = none ∧ h.get? T = some oT ∧ oT.data = .fields ts ∧ ts[3]? = some fl
noncomputable def TbAny (h₀ : Heap) (hp : HP) (h : Heap) (e L : Addr) : Prop :=
  (∃ oe vs, h.get? e = some oe ∧ oe.data = .fields vs ∧ vs[1]? = some .none) ∨ TbAt h₀ hp h e .none ∨ TbAt h₀ hp h e (rawInt L)
section
variable {g : Gd} {n : Nat} {A : Around} {E : PySem.Value → Shared → Prop} {env : Env} {outer : List Env} {L : Addr} {h₀ : Heap} {s : Shared} {loc : Loc} {hp : HP}
theorem TbAt.notL {T : Addr} {oT : Obj} {ts : Array PySem.Value} (x : AtB g (SA A) h₀ L loc hp s) (hT : s.heap.get? T = some oT) (hd : oT.data = .fields ts) : T ≠ L := by
  rintro rfl
  refine withGoal fun goalX goalBack => ?_
  obtain ⟨m, ⟨o, es, ep, ho, hdo, r⟩, hm⟩ := x.loc
  refine goalBack ?_
  clear goalBack goalX
  rw [ho] at hT; cases hT; rw [hdo] at hd; cases hd
theorem AtB.slots {h₁ : Heap} (c : CxB g n A L h₀) (x : AtB g (SA A) h₀ L loc hp s) (hs : Heap.SlotsOnly (SA A) s.heap h₁) : AtB g (SA A) h₀ L loc hp { s with heap := h₁ } := by
  refine ⟨⟨fun b o e => ?_, fun a X e => ?_, x.at_.gens, x.at_.os, x.at_.tok⟩, ?_, x.hpL, x.hL⟩
  · obtain ⟨sl, e', r⟩ := x.at_.keep b o e
    by_cases hb : b ∈ SA A
    · obtain ⟨sl2, e2⟩ := hs.2.2 b _ e'
      exact ⟨sl2, e2, fun h => absurd hb h⟩
    · exact ⟨sl, (hs.2.1 b hb).trans e', r⟩
  · obtain ⟨i, z⟩ := x.at_.own a X e
    exact ⟨i.of_eq (hs.2.1 a (notS c x z (by rintro rfl; rw [x.hpL] at e; cases e))), z⟩
  · refine withGoal fun goalX goalBack => ?_
    obtain ⟨m, ⟨o, es, ep, ho, hdo, r⟩, hm⟩ := x.loc
    refine goalBack ?_
    clear goalBack goalX
    obtain ⟨sl, e⟩ := hs.2.2 L o ho
    exact ⟨m, ⟨_, es, ep, e, hdo, r⟩, hm⟩
theorem funFr (c : CxB g n A L h₀) (x : AtB g (SA A) h₀ L loc hp s) {l : List Env} (hl : A.frames = some l) : s.heap.FunFrames g.B l := by
  obtain ⟨l', hl', hf⟩ := c.frames
  rw [hl'] at hl; cases hl
  obtain ⟨m, hn, _⟩ := x.loc
  exact hf s.heap (fun b o e => let ⟨sl, q, _⟩ := x.at_.keep b o e; ⟨sl, q⟩) ⟨m, hn⟩
/-- a field of the exception is set -/
theorem AtB.setE {e t : Addr} {X : String} {oe : Obj} {vs : Array PySem.Value} {v : PySem.Value} (x : AtB g (SA A) h₀ L loc hp s) (he : hp e = some (excO X t)) (ho : s.heap.get? e = some oe) (hd : oe.data = .fields vs) :
    AtB g (SA A) h₀ L loc hp { s with heap := s.heap.update e (Obj.mapFields (·.setIfInBounds 1 v)) } ∧ (s.heap.update e (Obj.mapFields (·.setIfInBounds 1 v))).get? e = some (oe.mapFields (·.setIfInBounds 1 v)) := by
  have hd₃ := Obj.data_mapFields hd (·.setIfInBounds 1 v)
  have h1 := Heap.get?_update_self (Obj.mapFields (·.setIfInBounds 1 v)) ho (Obj.isFreed_of_fields hd₃)
  refine ⟨?_, h1⟩
  refine withGoal fun goalX goalBack => ?_
  obtain ⟨o', ho', hc, vs', hd', h0', hz'⟩ := (x.at_.own e _ he).1
  refine goalBack ?_
  clear goalBack goalX
  rw [ho] at ho'; cases ho'
  rw [hd] at hd'; cases hd'
  have z := x.at_.upd (f := Obj.mapFields (·.setIfInBounds 1 v)) he (Y := excO X t) ⟨_, h1, (Obj.cls_mapFields _ _).trans hc, _, hd₃, by rw [Array.getElem?_setIfInBounds_ne (by decide)]; exact h0', by rw [Array.size_setIfInBounds]; exact hz'⟩
  rw [HP.set_same he] at z
  refine ⟨z, ?_, x.hpL, x.hL⟩
  refine withGoal fun goalX goalBack => ?_
  obtain ⟨m, ⟨o, es, ep, hoL, r⟩, hm⟩ := x.loc
  refine goalBack ?_
  clear goalBack goalX
  refine ⟨m, ⟨o, es, ep, ?_, r⟩, hm⟩
  rw [Heap.get?_update_other _ _ (by rintro rfl; rw [x.hpL] at he; cases he)]; exact hoL
theorem newEntryB {e t : Addr} {X : String} {oe : Obj} {vs : Array PySem.Value} {hd0 : PySem.Value} {b : Bool} {Q : Unit → Shared → Prop} (c : CxB g n A L h₀) (x : AtB g (SA A) h₀ L loc hp s) (hT : A.frames = some (env :: outer)) (hf : env.frame = some L) (he : hp e = some (excO X t)) (ho : s.heap.get? e = some oe) (hd : oe.data = .fields vs)
    (k : ∀ s', AtB g (SA A) h₀ L loc hp s' → TbAt h₀ hp s'.heap e (rawInt L) → Q () s') :
    wpAny (model pg g.w) A (do let a ← frameOf env; let pl ← entryPlaceOf L b; let b ← EntryCells.newEntry hd0 a .none (rawInt L) .none pl; setField (.ref e) 1 b) Q E s := by
  have hSA : SA A = (env :: outer).filterMap (·.frame) := by unfold SA; rw [hT]
  refine wpAny_bind (wpAny_frameOf_fun hT (funFr c x hT) hf fun h₁ hs₁ => ?_)
  rw [← hSA] at hs₁
  have x1 := x.slots c hs₁
  have heS : e ∉ SA A := notS c x (x.at_.own e _ he).2 (by rintro rfl; rw [x.hpL] at he; cases he)
  have he₁ : h₁.get? e = some oe := (hs₁.2.1 e heS).trans ho
  refine wpAny_bind (wpAny_entryPlaceOf fun pl hpl => ?_)
  unfold EntryCells.newEntry newFields
  refine wpAny_bind (wpAny_newObj_type ?_ (hpl.sizeOk5 _ _ _ _ _))
  have hsz : 1 < vs.size := by
    refine withGoal fun goalX goalBack => ?_
    obtain ⟨o', ho', hc, vs', hd', h0', hz'⟩ := (x.at_.own e _ he).1
    refine goalBack ?_
    clear goalBack goalX
    rw [ho] at ho'; cases ho'; rw [hd] at hd'; cases hd'; exact hz'
  generalize hTO : ({ cls := .type "traceback", dict := none, data := .fields ([hd0, .ref L, .none, rawInt L, .none] ++ (if pl.isEmpty then List.replicate 6 Value.none else pl)).toArray } : Obj) = TO
  have hTd : ∃ ts, TO.data = .fields ts ∧ ts[3]? = some (rawInt L) := ⟨_, by rw [← hTO], by first | (simp; done) | (rcases hpl with rfl | ⟨_, _, _, _, _, _, _, rfl⟩ <;> simp)⟩
  obtain ⟨ts, hTd, hT3⟩ := hTd
  have x2 : AtB g (SA A) h₀ L loc hp { s with heap := h₁.push TO } := x1.turned (h' := h₁.push TO) (tk := s.toks) x1.at_.tok (fun V => False) (fun b o V e => Heap.get?_push_of_some _ e) (fun V h => h.elim)
  have he₂ : (h₁.push TO).get? e = some oe := Heap.get?_push_of_some _ he₁
  have hTn : hp h₁.objs.size = none := x1.at_.freshP
  have hT0 : h₀.get? h₁.objs.size = none := x1.at_.fresh
  have hTe : h₁.objs.size ≠ e := Nat.ne_of_gt (Heap.lt_size he₁)
  have hTo : (h₁.push TO).get? h₁.objs.size = some TO := Heap.get?_push_size _ (Obj.isFreed_of_fields hTd)
  obtain ⟨x3, h3⟩ := x2.setE (v := .ref h₁.objs.size) he he₂ hd
  refine wpAny_setField he₂ hd hsz (k _ x3 ⟨_, _, h₁.objs.size, TO, ts, h3, Obj.data_mapFields hd _, by simp [hsz], hTn, hT0, ?_, hTd, hT3⟩)
  show ((h₁.push TO).update e _).get? h₁.objs.size = _
  rw [Heap.get?_update_other _ _ (Ne.symm hTe)]; exact hTo
/-- T's flight is set -/
theorem AtB.setT {T : Addr} {oT : Obj} {ts : Array PySem.Value} {v : PySem.Value} (x : AtB g (SA A) h₀ L loc hp s) (hp0 : hp T = none) (h0 : h₀.get? T = none) (hT : s.heap.get? T = some oT) (hd : oT.data = .fields ts) :
    AtB g (SA A) h₀ L loc hp { s with heap := s.heap.update T (Obj.mapFields (·.setIfInBounds 3 v)) } :=
  x.turned (tk := s.toks) x.at_.tok (fun b => b = T) (fun b o hb e => by rw [Heap.get?_update_other _ _ (Ne.symm hb)]; exact e) (fun b hb => by subst hb; exact ⟨h0, hp0, TbAt.notL x hT hd⟩)
theorem noteB {e t : Addr} {X : String} {Q : Unit → Shared → Prop} (c : CxB g n A L h₀) (x : AtB g (SA A) h₀ L loc hp s) (hT : A.frames = some (env :: outer)) (hf : env.frame = some L) (he : hp e = some (excO X t)) (tb : TbAny h₀ hp s.heap e L)
    (k : ∀ s', AtB g (SA A) h₀ L loc hp s' → TbAt h₀ hp s'.heap e (rawInt L) → Q () s') : wpAny (model pg g.w) A (noteFrame (.ref e) env) Q E s := by
  unfold noteFrame
  simp only [hf]
  rcases tb with ⟨oe, vs, ho, hd, h1⟩ | ⟨oe, vs, T, oT, ts, ho, hd, h1, hT0, hT1, hTo, hTd, h3⟩ | ⟨oe, vs, T, oT, ts, ho, hd, h1, hT0, hT1, hTo, hTd, h3⟩
  · refine wpAny_bind (wpAny_field ho hd h1 ?_)
    rw [if_neg (by decide)]
    exact newEntryB c x hT hf he ho hd k
  · have hTe : e ≠ T := by rintro rfl; rw [he] at hT0; cases hT0
    refine wpAny_bind (wpAny_field ho hd h1 ?_)
    rw [if_pos (show (Value.ref T != Value.none) = true from by simp)]
    refine wpAny_bind (wpAny_field hTo hTd h3 ?_)
    rw [if_neg (show ¬ ((Value.none == rawInt L) = true) from by simp [rawInt])]
    refine wpAny_bind (wpAny_setField hTo hTd (Array.getElem?_eq_some_iff.mp h3).1 ?_)
    exact newEntryB c (x.setT hT0 hT1 hTo hTd) hT hf he (by rw [Heap.get?_update_other _ _ (Ne.symm hTe)]; exact ho) hd k
  · refine wpAny_bind (wpAny_field ho hd h1 ?_)
    rw [if_pos (show (Value.ref T != Value.none) = true from by simp)]
    refine wpAny_bind (wpAny_field hTo hTd h3 ?_)
    rw [if_pos (show (rawInt L == rawInt L) = true from by simp)]
    exact wpAny_pure (k s x ⟨oe, vs, T, oT, ts, ho, hd, h1, hT0, hT1, hTo, hTd, h3⟩)
theorem flightB {e t : Addr} {X : String} {fl : PySem.Value} {f : Option Addr} {Q : Unit → Shared → Prop} (x : AtB g (SA A) h₀ L loc hp s) (he : hp e = some (excO X t)) (tb : TbAt h₀ hp s.heap e fl)
    (k : ∀ s', AtB g (SA A) h₀ L loc hp s' → TbAt h₀ hp s'.heap e (f.elim .none fun f => rawInt f) → Q () s') : wpAny (model pg g.w) A (setFlight (.ref e) f) Q E s := by
  refine withGoal fun goalX goalBack => ?_
  obtain ⟨oe, vs, T, oT, ts, ho, hd, h1, hT0, hT1, hTo, hTd, h3⟩ := tb
  refine goalBack ?_
  clear goalBack goalX
  have hTe : e ≠ T := by rintro rfl; rw [he] at hT0; cases hT0
  unfold setFlight
  refine wpAny_bind (wpAny_field ho hd h1 ?_)
  rw [if_pos (show (Value.ref T != Value.none) = true from by simp)]
  have hz := (Array.getElem?_eq_some_iff.mp h3).1
  refine wpAny_setField hTo hTd hz (k _ (x.setT hT0 hT1 hTo hTd) ⟨oe, vs, T, _, _, ?_, hd, h1, hT0, hT1, Heap.get?_update_self _ hTo (Obj.isFreed_of_fields (Obj.data_mapFields hTd _)), Obj.data_mapFields hTd _, by simp [hz]⟩)
  show (s.heap.update T _).get? e = _
  rw [Heap.get?_update_other _ _ (Ne.symm hTe)]; exact ho
theorem cameB {e t : Addr} {X : String} {fl : PySem.Value} (x : AtB g (SA A) h₀ L loc hp s) (hf : env.frame = some L) (he : hp e = some (excO X t)) (tb : TbAt h₀ hp s.heap e fl)
    (k : ∀ s', AtB g (SA A) h₀ L loc hp s' → TbAt h₀ hp s'.heap e (rawInt L) → E (.ref e) s') : cameBackBy (model pg g.w) A env E (.ref e) s := by
  refine withGoal fun goalX goalBack => ?_
  obtain ⟨oe, vs, T, oT, ts, ho, hd, h1, r⟩ := id tb
  refine goalBack ?_
  clear goalBack goalX
  unfold cameBackBy
  refine wpAny_bind (wpAny_field ho hd h1 ?_)
  rw [if_neg (show ¬ ((Value.ref T == Value.none) = true) from by simp)]
  rw [hf]
  first
    | exact flightB (f := some L) x he tb k
    | exact wpAny_bind (wpAny_pure (flightB (f := some L) x he tb k))
end
end Mine
end
section
open PySem PySem.W PySem.Calls PyProof.Rows
namespace Mine
noncomputable def TopF (env : Env) (fr : Option (List Env)) : Prop := ∃ outer, fr = some (env :: outer)
/-- as WB, where more is known of the frames -/
noncomputable def WT (Tp : Option (List Env) → Prop) (g : Gd) (n : Nat) (L : Addr) {α β : Type} (t : Sem α) (loc : Loc) (hp : HP) (Rel : β → α → Prop) (Q : β → Loc → HP → Prop) : Prop :=
  ∀ (A : Around) (E : PySem.Value → Shared → Prop) (h₀ : Heap) (s : Shared), CxB g n A L h₀ → Tp A.frames → AtB g (SA A) h₀ L loc hp s →
    wpAny (model pg g.w) A t (fun a s' => ∃ b loc' hp', Rel b a ∧ AtB g (SA A) h₀ L loc' hp' s' ∧ Q b loc' hp') E s
/-- an exception comes -/
noncomputable def WR (Tp : Option (List Env) → Prop) (g : Gd) (n : Nat) (L : Addr) {α : Type} (t : Sem α) (loc : Loc) (hp : HP) (X : Addr → Loc → HP → Prop) : Prop :=
  ∀ (A : Around) (E : PySem.Value → Shared → Prop) (h₀ : Heap) (s : Shared), CxB g n A L h₀ → Tp A.frames → AtB g (SA A) h₀ L loc hp s →
    (∀ e s' loc' hp', AtB g (SA A) h₀ L loc' hp' s' → TbAny h₀ hp' s'.heap e L → X e loc' hp' → E (.ref e) s') → wpAny (model pg g.w) A t (fun V V => False) E s
noncomputable def WHR (g : Gd) (n : Nat) {α : Type} (t : Sem α) (hp : HP) (X : Addr → HP → Prop) : Prop :=
  ∀ (A : Around) (E : PySem.Value → Shared → Prop) (h₀ : Heap) (s : Shared), Cx g n A h₀ → At g (SA A) h₀ hp s →
    (∀ e s' hp', At g (SA A) h₀ hp' s' → TbAt h₀ hp' s'.heap e .none → X e hp' → E (.ref e) s') → wpAny (model pg g.w) A t (fun V V => False) E s
noncomputable abbrev EXT (g : Gd) (n : Nat) (env : Env) (e : Stmt) (loc : Loc) (hp : HP) (Q : AF → Loc → HP → Prop) : Prop := WT (TopF env) g n env.locals (exec e env) loc hp AF.Is Q
noncomputable abbrev XST (g : Gd) (n : Nat) (env : Env) (e : List Stmt) (loc : Loc) (hp : HP) (Q : AF → Loc → HP → Prop) : Prop := WT (TopF env) g n env.locals (execs e env) loc hp AF.Is Q
noncomputable abbrev EVR (g : Gd) (n : Nat) (env : Env) (e : PySem.Expr) (loc : Loc) (hp : HP) (X : Addr → Loc → HP → Prop) : Prop := WR (TopF env) g n env.locals (eval e env) loc hp X
noncomputable abbrev EXR (g : Gd) (n : Nat) (env : Env) (e : Stmt) (loc : Loc) (hp : HP) (X : Addr → Loc → HP → Prop) : Prop := WR (TopF env) g n env.locals (exec e env) loc hp X
noncomputable abbrev XSR (g : Gd) (n : Nat) (env : Env) (e : List Stmt) (loc : Loc) (hp : HP) (X : Addr → Loc → HP → Prop) : Prop := WR (TopF env) g n env.locals (execs e env) loc hp X
section
variable {g : Gd} {n : Nat} {L : Addr} {α β : Type} {loc loc' : Loc} {hp hp' : HP} {Tp : Option (List Env) → Prop}
theorem WB.wt {t : Sem α} {Rel : β → α → Prop} {Q : β → Loc → HP → Prop} (h : WB g n L t loc hp Rel Q) : WT Tp g n L t loc hp Rel Q := fun A E h₀ s c V x => h A E h₀ s c x
theorem WT.mono {t : Sem α} {Rel : β → α → Prop} {Q Q' : β → Loc → HP → Prop} (h : WT Tp g n L t loc hp Rel Q) (k : ∀ b l hp', Q b l hp' → Q' b l hp') : WT Tp g n L t loc hp Rel Q' :=
  fun A E h₀ s c T x => wpAny_mono (h A E h₀ s c T x) (fun V V ⟨b, l, hp', r, y, q⟩ => ⟨b, l, hp', r, y, k _ _ _ q⟩) fun V V e => e
theorem WT.weak {t : Sem α} {Rel : β → α → Prop} {Q : β → Loc → HP → Prop} (hl : Lsub loc' loc) (hs : hp'.Sub hp) (h : WT Tp g n L t loc' hp' Rel Q) : WT Tp g n L t loc hp Rel Q :=
  fun A E h₀ s c T x => h A E h₀ s c T ((fun (y : AtB g (SA A) h₀ L loc hp' s) => ⟨y.at_, let ⟨m, a, b⟩ := y.loc; ⟨m, a, fun z v e => b z v (hl z v e)⟩, y.hpL, y.hL⟩) (x.sub hs))
/-- what is done on the heap alone -/
theorem AtB.unlift {A : Around} {h₀ : Heap} {s : Shared} (x : AtB g (SA A) h₀ L loc hp s) (c : CxB g n A L h₀) :
    ∃ h₁, Cx g n A h₁ ∧ At g (SA A) h₁ hp s ∧ (∀ s' hp', At g (SA A) h₁ hp' s' → AtB g (SA A) h₀ L loc hp' s') ∧ ∀ b, h₁.get? b = none → h₀.get? b = none := by
  obtain ⟨m, hn, hm⟩ := x.loc
  refine withGoal fun goalX goalBack => ?_
  obtain ⟨oL, esL, epL, hoL, hdL⟩ := id hn
  refine goalBack ?_
  clear goalBack goalX
  have hid : ∀ b, hp b = none → (hideP (fun a => (hp a).isSome) s.heap).get? b = s.heap.get? b := fun b e => by rw [hideP_get]; simp [e]
  have hsome : ∀ b X, hp b = some X → (hideP (fun a => (hp a).isSome) s.heap).get? b = none := fun b X e => by rw [hideP_get]; simp [e]
  have keep : ∀ b o, h₀.get? b = some o → ∃ sl, (hideP (fun a => (hp a).isSome) s.heap).get? b = some { o with slots := sl } ∧ (b ∉ SA A → sl = o.slots) := fun b o e => by
    obtain ⟨sl, e', r⟩ := x.at_.keep b o e
    refine ⟨sl, ?_, r⟩
    rw [hid b ?_]; exact e'
    cases q : hp b with
    | none => rfl
    | some X => have := (x.at_.own b X q).2; rw [this] at e; cases e
  obtain ⟨l, hl, hf⟩ := c.frames
  have hLk : (hideP (fun a => (hp a).isSome) s.heap).get? L = some oL := (hid L x.hpL).trans hoL
  have ff := hf (hideP (fun a => (hp a).isSome) s.heap) (fun b o e => let ⟨sl, q, _⟩ := keep b o e; ⟨sl, q⟩) ⟨m, ⟨oL, esL, epL, hLk, hdL⟩⟩
  have base : g.B.StaysIn (hideP (fun a => (hp a).isSome) s.heap) := fun b o e => by
    obtain ⟨sl, q, r⟩ := keep b o (c.base b o e)
    have : b ∉ SA A := fun hb => by
      unfold SA at hb; rw [hl] at hb
      obtain ⟨z, _⟩ := ff.mem hb
      rw [z] at e; cases e
    rw [q, r this]
  refine ⟨_, ⟨c.handled, c.depth, c.units, base, l, hl, ff⟩, ⟨fun b o e => ⟨o.slots, ?_, fun V => rfl⟩, fun a X e => ⟨(x.at_.own a X e).1, hsome a X e⟩, x.at_.gens, x.at_.os, x.at_.tok⟩, fun s' hp' y => ?_, fun b e => ?_⟩
  · rw [hideP_get] at e; split at e
    · cases e
    · exact e
  · refine ⟨⟨fun b o e => ?_, fun a X e => ⟨(y.own a X e).1, ?_⟩, y.gens, y.os, y.tok⟩, ?_, ?_, x.hL⟩
    · obtain ⟨sl, e', r'⟩ := keep b o e
      obtain ⟨sl2, e2, r2⟩ := y.keep b _ e'
      exact ⟨sl2, e2, fun hb => (r2 hb).trans (r' hb)⟩
    · cases z : h₀.get? a with
      | none => rfl
      | some o => obtain ⟨sl, e', _⟩ := keep a o z; rw [(y.own a X e).2] at e'; cases e'
    · obtain ⟨sl, e', _⟩ := y.keep L oL hLk
      exact ⟨m, ⟨_, esL, epL, e', hdL⟩, hm⟩
    · cases z : hp' L with
      | none => rfl
      | some X => rw [(y.own L X z).2] at hLk; cases hLk
  · cases z : h₀.get? b with
    | none => rfl
    | some o => obtain ⟨sl, e', _⟩ := keep b o z; rw [e] at e'; cases e'
theorem WHR.lift {t : Sem α} {X : Addr → Loc → HP → Prop} (h : WHR g n t hp fun e hp' => X e loc hp') : WR Tp g n L t loc hp X := by
  intro A E h₀ s c _ x k
  refine withGoal fun goalX goalBack => ?_
  obtain ⟨h₁, c₁, x₁, back, h10⟩ := x.unlift c
  refine goalBack ?_
  clear goalBack goalX
  refine h A E h₁ s c₁ x₁ fun e s' hp' y tb q => k e s' loc hp' (back s' hp' y) (.inr (.inl ?_)) q
  refine withGoal fun goalX goalBack => ?_
  obtain ⟨oe, vs, T, oT, ts, a1, a2, a3, a4, a5, r⟩ := tb
  refine goalBack ?_
  clear goalBack goalX
  exact ⟨oe, vs, T, oT, ts, a1, a2, a3, a4, h10 _ a5, r⟩
end
section
variable {g : Gd} {n : Nat} {env : Env} {loc : Loc} {hp : HP}
theorem XST_nil {Q : AF → Loc → HP → Prop} (q : Q .next loc hp) : XST g n env [] loc hp Q := WB.wt (XS_nil q)
noncomputable abbrev ThenT (g : Gd) (n : Nat) (env : Env) (rest : List Stmt) (Q : AF → Loc → HP → Prop) : AF → Loc → HP → Prop := fun f l h => match f with | .next => XST g n env rest l h Q | f => Q f l h
noncomputable abbrev BrT (g : Gd) (n : Nat) (env : Env) (body orelse : List Stmt) (Q Q' : AF → Loc → HP → Prop) : Bool → Loc → HP → Prop := fun b l h => if b then XST g n env body l h Q else XST g n env orelse l h Q'
theorem XST_cons {st : Stmt} {rest : List Stmt} {Q : AF → Loc → HP → Prop}
    (h : EXT g n env st loc hp (ThenT g n env rest Q)) : XST g n env (st :: rest) loc hp Q := by
  intro A E h₀ s c T x
  refine wpAny_execs_cons (wpAny_mono (h A E h₀ s c T x) (fun f s' hh => ?_) fun V V e => e)
  refine out3 hh fun b l hp' r y q => ?_
  cases b with
  | next => cases r; exact q A E h₀ _ c T y
  | brk => cases r; exact ⟨.brk, l, hp', rfl, y, q⟩
  | cont => cases r; exact ⟨.cont, l, hp', rfl, y, q⟩
  | ret v => obtain ⟨v', rfl, hv⟩ := r; exact ⟨.ret v, l, hp', ⟨v', rfl, hv⟩, y, q⟩
theorem EXT_While {test : PySem.Expr} {body orelse : List Stmt} {pos : Pos} {Q : AF → Loc → HP → Prop} (J : Nat → Loc → HP → Prop) (k : Nat) (h0 : J k loc hp)
    (turn : ∀ k l h, J k l h → TT g n env test l h (BrT g n env body orelse (WhileQ J k Q) Q)) : EXT g n env (.While test body orelse pos) loc hp Q := by
  intro A E h₀ s c T y
  refine wpAny_While (codeAny_whileLoop (fun k s' => ∃ l' hp', AtB g (SA A) h₀ env.locals l' hp' s' ∧ J k l' hp') ?_ k ⟨loc, hp, y, h0⟩)
  rintro k s' ⟨l', hp', z, hJ⟩
  refine wpAny_mono (turn k l' hp' hJ A _ h₀ s' c z) (fun b s₂ hh => ?_) fun V V e => e
  refine out3 hh fun b' l₂ hp₂ hR z₂ q => ?_
  obtain rfl := hR
  cases b' with
  | false =>
    simp only [Bool.false_eq_true, if_false] at q ⊢
    exact wpAny_mono (q A _ h₀ s₂ c T z₂) (fun f s₃ hh => hh) fun V V e => e
  | true =>
    simp only [if_true] at q ⊢
    refine wpAny_mono (q A _ h₀ s₂ c T z₂) (fun f s₃ hh => ?_) fun V V e => e
    refine out3 hh fun af l₃ hp₃ rf z₃ q₃ => ?_
    cases af with
    | next => cases rf; obtain ⟨m, hm, j⟩ := q₃; exact ⟨m, hm, l₃, hp₃, z₃, j⟩
    | cont => cases rf; obtain ⟨m, hm, j⟩ := q₃; exact ⟨m, hm, l₃, hp₃, z₃, j⟩
    | brk => cases rf; exact ⟨.next, l₃, hp₃, rfl, z₃, q₃⟩
    | ret v => obtain ⟨v', rfl, hv'⟩ := rf; exact ⟨.ret v, l₃, hp₃, ⟨v', rfl, hv'⟩, z₃, q₃⟩
/-- the try that meets no exception -/
theorem EXT_Try_ok {body orelse : List Stmt} {h₀' : ExceptHandler} {hs : List ExceptHandler} {pos : Pos} {Q : AF → Loc → HP → Prop}
    (h : XST g n env body loc hp fun f l h => match f with | .next => XST g n env orelse l h Q | f => Q f l h) : EXT g n env (.Try body (h₀' :: hs) orelse [] pos) loc hp Q := by
  intro A E h₀ s c T x
  refine wpAny_Try_except (wpAny_mono (h A _ h₀ s c T x) (fun f s' hh => ?_) fun V V e => e)
  refine out3 hh fun b l hp' r y q => ?_
  cases b with
  | next => cases r; exact q A E h₀ _ c T y
  | brk => cases r; exact ⟨.brk, l, hp', rfl, y, q⟩
  | cont => cases r; exact ⟨.cont, l, hp', rfl, y, q⟩
  | ret v => obtain ⟨v', rfl, hv⟩ := r; exact ⟨.ret v, l, hp', ⟨v', rfl, hv⟩, y, q⟩
noncomputable def Gd.off (g : Gd) : Gd := { g with hn := false }
theorem AtB.off {A : Around} {h₀ : Heap} {s : Shared} {L : Addr} (x : AtB g (SA A) h₀ L loc hp s) : AtB g.off (SA A) h₀ L loc hp s := ⟨⟨x.at_.keep, x.at_.own, x.at_.gens, x.at_.os, x.at_.tok⟩, x.loc, x.hpL, x.hL⟩
theorem AtB.on {A : Around} {h₀ : Heap} {s : Shared} {L : Addr} (x : AtB g.off (SA A) h₀ L loc hp s) : AtB g (SA A) h₀ L loc hp s := ⟨⟨x.at_.keep, x.at_.own, x.at_.gens, x.at_.os, x.at_.tok⟩, x.loc, x.hpL, x.hL⟩
theorem CxB.mark {A : Around} {h₀ : Heap} {L : Addr} {v : Option PySem.Value} (c : CxB g n A L h₀) : CxB g.off n (A.mark v) L h₀ := ⟨fun h => (by cases h), c.depth, c.units, c.base, c.frames⟩
/-- except T: suite -/
theorem EXT_Try_exc {body orelse suite : List Stmt} {b₀ : Stmt} {xn : PySem.Str} {np hpos pos : Pos} {rest : List ExceptHandler} {X T' : String} {Q : AF → Loc → HP → Prop} (G : GndB g) (hk : env.scope.kind = .function) (hgl : env.globals = mainGlobals) (hbl : env.builtins = builtinsNs) (hfr : env.frame = some env.locals)
    (hx : env.kindOf xn = some .globalImplicit) (hn : nsIn (myK g.w.params) mainGlobals xn = some none) (hv : bootBuiltins xn = some (.type T')) (hne : xn ≠ "__name__") (hd : (xn == ("__debug__" : PySem.Str)) = false)
    (hexc : isSubtype (.type T') (.type "BaseException") = pure true) (hnt : isSubtype (.type ((Manifest.find? T').elim "type" fun x => x.metatype)) (.type "tuple") = pure false) (hsub : isSubtype (.type X) (.type T') = pure true)
    (h : XSR g n env body loc hp fun e l h => ∃ t, h e = some (excO X t) ∧ XS g.off n env (b₀ :: suite) l h Q) : EXT g n env (.Try body (.ExceptHandler (some (.Name xn np)) none (b₀ :: suite) hpos :: rest) orelse [] pos) loc hp Q := by
  intro A E h₀ s c T x
  obtain ⟨outer, hT⟩ := T
  refine wpAny_Try_except (wpAny_mono (h A _ h₀ s c ⟨outer, hT⟩ x ?_) (fun V V h => h.elim) fun V V e => e)
  rintro e s' loc' hp' y tb ⟨t, he, q⟩
  refine noteB c y hT hfr he tb fun s₂ y₂ tb₂ => flightB (f := none) y₂ he tb₂ fun s₃ y₃ tb₃ => ?_
  have y₃' : AtB g (SA (A.mark (some (.ref e)))) h₀ env.locals loc' hp' s₃ := y₃
  have c' := c.mark (v := some (.ref e))
  obtain ⟨mg, mb, TR⟩ := G.top
  have st : g.B.StaysIn s₃.heap := stays c y₃
  refine withGoal fun goalX goalBack => ?_
  obtain ⟨oe, hoe, hce, _⟩ := (y₃.at_.own e _ he).1
  refine goalBack ?_
  clear goalBack goalX
  refine wpAny_handleBy_builtin (X := X) (T := T') (b := true) hexc hnt hsub (Name_function_global hk hx (loadGlobal_builtin (env := env) (by rw [hgl]; exact TR.g.keeps st) (mg_none_of G.kin TR.g hn) (by rw [hbl]; exact TR.b.keeps st) ((TR.builtins xn hne).trans hv) ⟨rfl, ⟨oe, hoe, hce⟩, ?_⟩) hd)
  rw [if_pos rfl]
  refine flightB (A := A.mark (some (.ref e))) (f := none) y₃' he tb₃ fun s₄ y₄ tb₄ => ?_
  refine wpAny_mono (q (A.mark (some (.ref e))) _ h₀ s₄ c' y₄.off) (fun f s₅ hh => ?_) fun V V e => e
  refine out3 hh fun b l h' r y₅ q' => ?_
  exact ⟨b, l, h', r, y₅.on, q'⟩
/-- except T as x: suite, which gives something back -/
theorem EXT_Try_as {body orelse suite : List Stmt} {b₀ : Stmt} {xn nm : PySem.Str} {np hpos pos : Pos} {rest : List ExceptHandler} {X T' : String} {Q : AF → Loc → HP → Prop} (G : GndB g) (hk : env.scope.kind = .function) (hgl : env.globals = mainGlobals) (hbl : env.builtins = builtinsNs) (hfr : env.frame = some env.locals)
    (hx : env.kindOf xn = some .globalImplicit) (hn : nsIn (myK g.w.params) mainGlobals xn = some none) (hv : bootBuiltins xn = some (.type T')) (hne : xn ≠ "__name__") (hd : (xn == ("__debug__" : PySem.Str)) = false) (hnm : env.kindOf nm = some .local)
    (hexc : isSubtype (.type T') (.type "BaseException") = pure true) (hnt : isSubtype (.type ((Manifest.find? T').elim "type" fun x => x.metatype)) (.type "tuple") = pure false) (hsub : isSubtype (.type X) (.type T') = pure true)
    (h : XSR g n env body loc hp fun e l h => ∃ t, h e = some (excO X t) ∧ XS g.off n env (b₀ :: suite) ((nm, .ref e) :: l) h fun f V h' => Q f [] h') : EXT g n env (.Try body (.ExceptHandler (some (.Name xn np)) (some nm) (b₀ :: suite) hpos :: rest) orelse [] pos) loc hp Q := by
  intro A E h₀ s c T x
  obtain ⟨outer, hT⟩ := T
  refine wpAny_Try_except (wpAny_mono (h A _ h₀ s c ⟨outer, hT⟩ x ?_) (fun V V h => h.elim) fun V V e => e)
  rintro e s' loc' hp' y tb ⟨t, he, q⟩
  refine noteB c y hT hfr he tb fun s₂ y₂ tb₂ => flightB (f := none) y₂ he tb₂ fun s₃ y₃ tb₃ => ?_
  have y₃' : AtB g (SA (A.mark (some (.ref e)))) h₀ env.locals loc' hp' s₃ := y₃
  have c' := c.mark (v := some (.ref e))
  obtain ⟨mg, mb, TR⟩ := G.top
  have st : g.B.StaysIn s₃.heap := stays c y₃
  refine withGoal fun goalX goalBack => ?_
  obtain ⟨oe, hoe, hce, _⟩ := (y₃.at_.own e _ he).1
  refine goalBack ?_
  clear goalBack goalX
  refine wpAny_handleBy_builtin_as (X := X) (T := T') (b := true) hexc hnt hsub (Name_function_global hk hx (loadGlobal_builtin (env := env) (by rw [hgl]; exact TR.g.keeps st) (mg_none_of G.kin TR.g hn) (by rw [hbl]; exact TR.b.keeps st) ((TR.builtins xn hne).trans hv) ⟨rfl, ⟨oe, hoe, hce⟩, ?_⟩) hd)
  rw [if_pos rfl]
  refine flightB (A := A.mark (some (.ref e))) (f := none) y₃' he tb₃ fun s₄ y₄ tb₄ => ?_
  refine wpAny_mono (ST_local (g := g.off) (n := n) (env := env) (a := .ref e) (x := nm) (Q := fun l h => l = (nm, .ref e) :: loc' ∧ h = hp') ⟨0, rfl⟩ ⟨rfl, rfl⟩ hk hnm (A.mark (some (.ref e))) _ h₀ s₄ c' y₄.off) (fun V s₅ hh => ?_) fun V V e => e
  refine out3 hh fun V l h' V y₅ hQ => ?_
  obtain ⟨rfl, rfl⟩ := hQ
  refine wpAny_mono (q (A.mark (some (.ref e))) _ h₀ s₅ c' y₅) (fun f s₆ hh => ?_) fun V V e => e
  refine out3 hh fun b l h' r y₆ q' => ?_
  obtain ⟨m, hns, hm⟩ := y₆.loc
  refine wpAny_nameGoes hnm hns (by rw [hk]; rfl) fun h'' m'' hns'' hs'' => ⟨b, [], h', r, ?_, q'⟩
  have y₇ : AtB g (SA A) h₀ env.locals l h' s₆ := y₆.on
  refine ⟨⟨fun b o e => ?_, fun a X e => ?_, y₇.at_.gens, y₇.at_.os, Nat.le_add_left 1 _⟩, ⟨m'', hns'', fun V V e => by cases e⟩, y₇.hpL, y₇.hL⟩
  · obtain ⟨sl, e', r⟩ := y₇.at_.keep b o e
    exact ⟨sl, (hs''.2 b (by rintro rfl; rw [y₇.hL] at e; cases e)).trans e', r⟩
  · obtain ⟨i, z⟩ := y₇.at_.own a X e
    exact ⟨i.of_eq (hs''.2 a (by rintro rfl; rw [y₇.hpL] at e; cases e)), z⟩
end
end Mine
end
section
open PySem PySem.W PySem.Calls PyProof.Rows
namespace Mine
noncomputable def isExc (e : Addr) (h : HP) : Prop := ∃ X t, h e = some (excO X t)
section
variable {g : Gd} {n : Nat} {env : Env} {loc : Loc} {hp : HP}
theorem XSR_next {st : Stmt} {rest : List Stmt} {X : Addr → Loc → HP → Prop} (h : EX g n env st loc hp fun f l h => match f with | .next => XSR g n env rest l h X | _ => False) : XSR g n env (st :: rest) loc hp X := by
  intro A E h₀ s c T x k
  refine wpAny_execs_cons (wpAny_mono (h A E h₀ s c x) (fun f s' hh => ?_) fun V V e => e)
  refine out3 hh fun b l hp' r y q => ?_
  cases b with
  | next => cases r; exact q A E h₀ _ c T y k
  | brk => exact q.elim
  | cont => exact q.elim
  | ret v => exact q.elim
theorem XSR_now {st : Stmt} {rest : List Stmt} {X : Addr → Loc → HP → Prop} (h : EXR g n env st loc hp X) : XSR g n env (st :: rest) loc hp X := by
  intro A E h₀ s c T x k
  exact wpAny_execs_cons (wpAny_mono (h A E h₀ s c T x k) (fun f s' hh => hh.elim) fun V V e => e)
theorem EXR_If {test : PySem.Expr} {body orelse : List Stmt} {pos : Pos} {X : Addr → Loc → HP → Prop}
    (h : TT g n env test loc hp fun b l h => if b then XSR g n env body l h X else XSR g n env orelse l h X) : EXR g n env (.If test body orelse pos) loc hp X :=
  fun A E h₀ s c T x k => wpAny_If (wpAny_mono (h A E h₀ s c x) (fun V V ⟨b, l, h, r, y, q⟩ => by subst r; cases b <;> exact q A E h₀ _ c T y k) fun V V e => e)
theorem EXR_Expr {e : PySem.Expr} {pos : Pos} {X : Addr → Loc → HP → Prop} (h : EVR g n env e loc hp X) (hi : interactive env = false) (hs : swapsWith e none pos.line env = pure false) : EXR g n env (.Expr e pos) loc hp X :=
  fun A E h₀ s c T x k => wpAny_Expr_any (wpAny_mono (h A E h₀ s c T x k) (fun V V h => h.elim) fun V V e => e) hi hs
theorem EXR_Assign {x : PySem.Str} {p' pos : Pos} {e : PySem.Expr} {X : Addr → Loc → HP → Prop} (h : EVR g n env e loc hp X) (hs : swapsWith e (some (.Name x p')) pos.line env = pure false) : EXR g n env (.Assign [.Name x p'] e pos) loc hp X :=
  fun A E h₀ s c T x k => wpAny_Assign_Name (wpAny_mono (h A E h₀ s c T x k) (fun V V h => h.elim) fun V V e => e) hs
/-- for: the first item raises -/
theorem EXR_For1 {x : PySem.Str} {px pos : Pos} {iter : PySem.Expr} {body : List Stmt} {X : Addr → Loc → HP → Prop} (hfr : env.frame = some env.locals)
    (h : EV g n env iter loc hp fun a l₁ h₁ => ∃ hp₂ xs back v, Src g a h₁ hp₂ xs back ∧ xs[0]? = some v ∧ ∀ u, v.Is u → UN g n env.locals (storeName env x u) l₁ hp₂ fun l h => XSR g n env body l h fun e l h => isExc e h ∧ X e l h)
    (hs : ∀ x, foldedSetIterable iter env x = pure x) (hg : g.hn = true := by first | with_reducible assumption | exact Gnd.hn (by with_reducible assumption)) : EXR g n env (.For (.Name x px) iter body [] pos) loc hp X := by
  intro A E h₀ s c T y k
  obtain ⟨outer, hT⟩ := T
  refine wpAny_For (wpAny_mono (h A E h₀ s c y) (fun v s₁ hh => ?_) fun V V e => e) hs
  refine out3 hh fun a l₁ h₁ ra y₁ hQ => ?_
  refine withGoal fun goalX goalBack => ?_
  obtain ⟨hp₂, xs, back, v0, S, hx0, step⟩ := hQ
  refine goalBack ?_
  clear goalBack goalX
  refine walk_at_src hg S c y₁ ra fun I fp wr St s₂ K z₂ hback hext => ?_
  refine codeAny_forLoop (fun V s' => s' = s₂) ?_ 0 rfl
  rintro _ s' rfl
  have hlt : 0 < xs.length := (List.getElem?_eq_some_iff.mp hx0).1
  refine wpAny_with_toks z₂.at_.tok (K.W.item 0 s' _ _ hlt K.st fun v h' tk ⟨x', hx, hv⟩ hst₁ hk₁ htk => ?_)
  rw [hx0] at hx; cases hx
  have z' := z₂.turned htk (fun b => b ∈ wr) (fun b o hb e => hk₁ b o hb e) (fun b hb => ⟨(K.fp0 b (K.W.sub b hb)).1, K.fpn b (K.W.sub b hb), (K.fp0 b (K.W.sub b hb)).2⟩)
  refine wpAny_assign_Name (wpAny_mono (step v hv A _ h₀ _ c z') (fun V s₃ hh => ?_) fun V V e => e)
  refine out3 hh fun V l₃ hp₃ V w₃ k₃ => ?_
  refine wpAny_mono (k₃ A _ h₀ s₃ c ⟨outer, hT⟩ w₃ ?_) (fun f s₄ hh => hh.elim) fun V V e => e
  rintro e s₄ l₄ hp₄ w₄ tb ⟨⟨Xn, t, he⟩, q⟩
  refine noteB c w₄ hT hfr he tb fun s₅ w₅ tb₅ => ?_
  exact cameB w₅ hfr he tb₅ fun s₆ w₆ tb₆ => k e s₆ l₄ hp₄ w₆ (.inr (.inr tb₆)) q
/-- raise X(e) -/
theorem EXR_Raise {xn : PySem.Str} {cls nid iid : String} {np cpos pos : Pos} {e : PySem.Expr} {X : Addr → Loc → HP → Prop} (G : Gnd g) (hk : env.scope.kind = .function) (hgl : env.globals = mainGlobals) (hbl : env.builtins = builtinsNs)
    (hx : env.kindOf xn = some .globalImplicit) (hn : nsIn (myK g.w.params) mainGlobals xn = some none) (hv : bootBuiltins xn = some (.type cls)) (hne : xn ≠ "__name__") (hd : (xn == ("__debug__" : PySem.Str)) = false)
    (FC : ExcCallFacts cls nid iid) (FR : ExcRaiseFacts cls) (he : starEach [e] env = (false, eval e env) :: starEach [] env)
    (h : EV g n env e loc hp fun a l h => ∀ t e, h t = none → h e = none → t ≠ e → X e l ((h.set t (.tuple [a])).set e (excO cls t))) : EXR g n env (.Raise (some (.Call (.Name xn np) [e] [] cpos)) none pos) loc hp X := by
  intro A E h₀ s c T y k
  obtain ⟨mg, mb, TR⟩ := G.top
  have st := stays c y
  refine wpAny_Raise_call FC FR (c.handled G.hn) (by rw [he]; rfl) (Name_function_global hk hx (loadGlobal_builtin (env := env) (by rw [hgl]; exact TR.g.keeps st) (mg_none_of G.kin TR.g hn) (by rw [hbl]; exact TR.b.keeps st) ((TR.builtins xn hne).trans hv) ⟨rfl, ?_⟩) hd)
  have hes : ES g n env cpos [e] loc hp fun as l h => ∃ a, as = [a] ∧ ∀ t e, h t = none → h e = none → t ≠ e → X e l ((h.set t (.tuple [a])).set e (excO cls t)) := ES_cons (WB.mono h fun a l h q => ES_nil ⟨a, rfl, q⟩) he
  have hes := hes A E h₀ s c y
  rw [he] at hes ⊢
  refine evalArgs_plain (wpAny_mono hes (fun vs s₁ hh => ?_) fun V V e => e)
  refine out3 hh fun as l h' r y' hQ => ?_
  obtain ⟨a, rfl, q⟩ := hQ
  obtain ⟨u, rfl⟩ := Vs1 r
  refine ⟨rfl, by show 1 ≤ sizeLine; rw [sizeLine_eq]; lia, fun hq e hm => ?_⟩
  refine withGoal fun goalX goalBack => ?_
  obtain ⟨t, hte, htn, htt⟩ := hm.there
  refine goalBack ?_
  clear goalBack goalX
  have hen := hm.new
  have hne' : t ≠ e := by rintro rfl; rw [hte] at htt; cases htt
  have fr : ∀ b, s₁.heap.get? b = none → h' b = none ∧ h₀.get? b = none ∧ b ≠ env.locals := fun b hb => by
    refine ⟨?_, ?_, ?_⟩
    · cases q : h' b with
      | none => rfl
      | some X => obtain ⟨o, e⟩ := (y'.at_.own b X q).1.there; rw [hb] at e; cases e
    · cases q : h₀.get? b with
      | none => rfl
      | some o => obtain ⟨sl, e, _⟩ := y'.at_.keep b o q; rw [hb] at e; cases e
    · rintro rfl; obtain ⟨m, ⟨o, es, ep, ho, r⟩, hm⟩ := y'.loc; rw [hb] at ho; cases ho
  obtain ⟨t1, t2, t3⟩ := fr t htn
  obtain ⟨e1, e2, e3⟩ := fr e hen
  have y1 : AtB g (SA A) h₀ env.locals l h' { s₁ with heap := hq } := y'.turned (tk := s₁.toks) y'.at_.tok (fun V => False) (fun b o V e => hm.keeps b o e) (fun V h => h.elim)
  have y2 : AtB g (SA A) h₀ env.locals l ((h'.set t (.tuple [a])).set e (excO cls t)) { s₁ with heap := hq } :=
    ⟨(y1.at_.give (X := .tuple [a]) ⟨_, _, htt, ⟨u, rfl⟩, trivial⟩ t2).give (X := excO cls t) ⟨_, hte, rfl, _, rfl, rfl, by simp⟩ e2, y1.loc, (HP.set_ne (Ne.symm e3)).trans ((HP.set_ne (Ne.symm t3)).trans y1.hpL), y1.hL⟩
  exact k e _ l _ y2 (.inl ⟨_, _, hte, rfl, rfl⟩) (q t e t1 e1 hne')
/-- obj.meth(e, ..) that raises -/
theorem EVR_imeth (G : Gnd g) {o : PySem.Expr} {name : PySem.Str} {apos pos : Pos} {e : PySem.Expr} {es : List PySem.Expr} {C f : Addr} {fd : FuncData} {X : Addr → Loc → HP → Prop} (K : ClsOk g.w.params C)
    (hf : findIn (myK g.w.params) (.ref C) name = some (some (.ref f))) (ho : (myK g.w.params).lookup f = some { cls := .type "function", data := .func fd }) (hty : typeIn (myK g.w.params) (.ref f) = some (.type "function"))
    (h : EV g n env o loc hp fun a l₁ h₁ => ∃ x d attrs, a = .ref x ∧ h₁ x = some (.inst C d) ∧ h₁ d = some (.ns attrs) ∧ lk name attrs = none ∧ ES g n env pos (e :: es) l₁ h₁ fun xs l₂ h₂ => ∀ vs, Vs xs vs → WR (TopF env) g n env.locals (call (.ref f) (.ref x :: vs)) l₂ h₂ X)
    (hbase : attributeBase o name env (eval o env) = eval o env) (hfew : methodCallForm ((e :: es).length + ([] : List Keyword).length) (backTo pos (starEach (e :: es) env)) (backToKw pos (keywordEach [] env)) = true) (hline : (apos.endLine == pos.line) = true)
    (he : starEach (e :: es) env = (false, eval e env) :: starEach es env) : EVR g n env (.Call (.Attribute o name apos) (e :: es) [] pos) loc hp X := by
  intro A E h₀ s c T y kk
  rw [arm_eval_Call, hbase]
  refine wpAny_bind (wpAny_mono (h A E h₀ s c y) (fun ov s₁ hh => ?_) fun V V e => e)
  refine out3 hh fun a l₁ h₁ ra y₁ hQ => ?_
  refine withGoal fun goalX goalBack => ?_
  obtain ⟨x, d, attrs, rfl, hx, hd, hnone, q⟩ := hQ
  refine goalBack ?_
  clear goalBack goalX
  obtain ⟨u, rfl⟩ := ra
  refine wpAny_bind (wpAny_standAt ?_)
  unfold methodCall
  rw [hfew]
  refine withGoal fun goalX goalBack => ?_
  obtain ⟨ox, od, m, I, _, _, hn, hm, hl⟩ := inst_at y₁.at_ hx hd
  refine goalBack ?_
  clear goalBack goalX
  have X := G.kin.keeps (stays c y₁)
  have hsh : shadowIn (some od) name = some false := by
    unfold shadowIn
    have := hm name
    rw [hnone] at this
    cases hmn : m name with
    | none => simp [hl, hmn]
    | some w => rw [hmn] at this; exact this.elim
  refine wpAny_bind (wpAny_holding ?_)
  unfold calleeOf
  rw [if_pos rfl]
  refine method_fn X I K.ga K.gt hf hty hsh ?_
  dsimp only
  refine wpAny_bind ?_
  unfold methodCallPos
  rw [hline]
  refine wpAny_pure ?_
  refine callWith_function (o := { cls := .type "function", data := .func fd }) (fd := fd) ?_
  have q' := q A E h₀ s₁ c y₁
  rw [he] at q' ⊢
  refine evalArgs_plain (wpAny_mono q' (fun vs s₂ hh => ?_) fun V V e => e)
  refine out3 hh fun xs l₂ h₂ r₂ y₂ q => ?_
  exact ⟨⟨stays c y₂ _ _ (G.kin _ _ ho), rfl⟩, q vs r₂ A E h₀ s₂ c T y₂ kk⟩
/-- a call that raises -/
theorem R_call {f : Addr} {fd : FuncData} {body : List Stmt} {nms : List (PySem.Str × NameKind)} {vals : List PySem.Value} {X : Addr → HP → Prop} (G : Gnd g) (ho : (myK g.w.params).lookup f = some { cls := .type "function", data := .func fd })
    (hcd : codeIn (myK g.w.params) fd.code fd.qualname = true) (hbody : fd.body = .stmts body) (hnm : fd.scope.names = nms) (hg : fd.globals = mainGlobals ∧ fd.builtins = builtinsNs ∧ fd.closure = [])
    (hbind : WH g n (bindArgs fd ⟨vals, []⟩) hp (fun (bl : Loc) binds => Ps bl binds ∧ ∀ x ∈ binds, nms.lookup x.1 = some .local) fun bl hp' => ∀ env, FEnv env nms [] → env.frame = some env.locals → hp' env.locals = none → XSR g n env body bl.reverse hp' fun e V h => isExc e h ∧ X e h)
    (hcell : (nms.all fun x => decide (x.2 ≠ .cell)) = true) (hs : fd.scope.isCoroutine = false ∧ fd.scope.isGenerator = false ∧ fd.scope.kind = .function) :
    WHR g (n + 1) (call (.ref f) vals) hp X := by
  subst hnm
  intro A E h₀ s c y back
  have st := staysH c y
  obtain ⟨mg, mb, T⟩ := G.top
  have hroom : A.depth < recursionLimit := by have := c.depth; show A.depth < 1000; lia
  refine wpAny_call (codeAny_call_function hroom (st _ _ (G.kin _ _ ho)) rfl hs.1 hs.2.1 hbody (codeRec_of (G.kin.keeps st) hcd) ?_)
  refine wpAny_mono (hbind A.in1 _ h₀ s c.in1 y) (fun binds s₁ hh => ?_) fun V V e => e
  refine out2 hh fun bl hp' hR y' hq => ?_
  obtain ⟨hps, hloc⟩ := hR
  have st' := staysH c y'
  rw [hg.2.2]
  refine wpAny_newFunctionEnv (fun x hx => by simpa using List.all_eq_true.mp hcell x hx) hloc (fun h₁ hns hsb => ⟨(T.nolimit.keeps st').fresh _ hsb, ?_⟩) hs.2.2
  have keeps : ∀ b o, s₁.heap.get? b = some o → h₁.get? b = some o := fun b o e => hsb.extBut b o (Nat.ne_of_lt (Heap.lt_size e)) (Heap.get?_push_of_some _ e)
  have hce : newEnv fd.scope s₁.heap.objs.size fd.globals [] (fd.qualname ++ ".<locals>.") (some f) fd.code none fd.builtins = callEnv fd s₁.heap.objs.size f := by unfold callEnv; rw [hg.2.2]
  rw [hce]
  obtain ⟨cx, ab⟩ := enterB (env := callEnv fd s₁.heap.objs.size f) (bl := bl.reverse) (tk := s₁.toks + binds.length) (Nat.le_add_right_of_le y'.tok) c y' hs.2.2 rfl rfl hns (fun x v e => (Ps.reverse hps).lookup e) keeps
  have F : FEnv (callEnv fd s₁.heap.objs.size f) fd.scope.names [] := ⟨hs.2.2, hg.1, hg.2.1, fun V => rfl, hg.2.2⟩
  obtain ⟨l, hl, _⟩ := c.frames
  have hT : (A.deeper (callEnv fd s₁.heap.objs.size f)).frames = some (callEnv fd s₁.heap.objs.size f :: l) := by show A.frames.map _ = _; rw [hl]; rfl
  refine codeAny_func (wpAny_mono (hq _ F rfl y'.freshP _ _ h₀ _ cx ⟨l, hT⟩ ab ?_) (fun fl s' hh => hh.elim) fun V V e => e)
  rintro e s' loc' hp'' z tb ⟨⟨Xn, t, he⟩, q⟩
  unfold leaving
  refine wpAny_bind (noteB cx z hT rfl he tb fun s₂ z₂ tb₂ => ?_)
  refine flightB (f := none) z₂ he tb₂ fun s₃ z₃ tb₃ => ?_
  exact back e s₃ hp'' (leaveB (A := A) (env := callEnv fd s₁.heap.objs.size f) rfl z₃) tb₃ q
/-- a def of the text that holds a try -/
theorem C_callT {f : Addr} {fd : FuncData} {body : List Stmt} {nms : List (PySem.Str × NameKind)} {vals : List PySem.Value} {Q : AV → HP → Prop} (G : Gnd g) (ho : (myK g.w.params).lookup f = some { cls := .type "function", data := .func fd })
    (hcd : codeIn (myK g.w.params) fd.code fd.qualname = true) (hbody : fd.body = .stmts body) (hnm : fd.scope.names = nms) (hg : fd.globals = mainGlobals ∧ fd.builtins = builtinsNs ∧ fd.closure = [])
    (hbind : WH g n (bindArgs fd ⟨vals, []⟩) hp (fun (bl : Loc) binds => Ps bl binds ∧ ∀ x ∈ binds, nms.lookup x.1 = some .local) fun bl hp' => ∀ env, FEnv env nms [] → env.frame = some env.locals → hp' env.locals = none → XST g n env body bl.reverse hp' fun fl V hp'' => Q (retOf fl) hp'')
    (hcell : (nms.all fun x => decide (x.2 ≠ .cell)) = true) (hs : fd.scope.isCoroutine = false ∧ fd.scope.isGenerator = false ∧ fd.scope.kind = .function) :
    CH g (n + 1) (.ref f) vals hp Q := by
  subst hnm
  intro A R h₀ s c y back
  have st := staysH c y
  obtain ⟨mg, mb, T⟩ := G.top
  have hroom : A.depth < recursionLimit := by have := c.depth; show A.depth < 1000; lia
  refine codeAny_call_function hroom (st _ _ (G.kin _ _ ho)) rfl hs.1 hs.2.1 hbody (codeRec_of (G.kin.keeps st) hcd) ?_
  refine wpAny_mono (hbind A.in1 _ h₀ s c.in1 y) (fun binds s₁ hh => ?_) fun V V e => e
  refine out2 hh fun bl hp' hR y' hq => ?_
  obtain ⟨hps, hloc⟩ := hR
  have st' := staysH c y'
  rw [hg.2.2]
  refine wpAny_newFunctionEnv (fun x hx => by simpa using List.all_eq_true.mp hcell x hx) hloc (fun h₁ hns hsb => ⟨(T.nolimit.keeps st').fresh _ hsb, ?_⟩) hs.2.2
  have keeps : ∀ b o, s₁.heap.get? b = some o → h₁.get? b = some o := fun b o e => hsb.extBut b o (Nat.ne_of_lt (Heap.lt_size e)) (Heap.get?_push_of_some _ e)
  have hce : newEnv fd.scope s₁.heap.objs.size fd.globals [] (fd.qualname ++ ".<locals>.") (some f) fd.code none fd.builtins = callEnv fd s₁.heap.objs.size f := by unfold callEnv; rw [hg.2.2]
  rw [hce]
  obtain ⟨cx, ab⟩ := enterB (env := callEnv fd s₁.heap.objs.size f) (bl := bl.reverse) (tk := s₁.toks + binds.length) (Nat.le_add_right_of_le y'.tok) c y' hs.2.2 rfl rfl hns (fun x v e => (Ps.reverse hps).lookup e) keeps
  have F : FEnv (callEnv fd s₁.heap.objs.size f) fd.scope.names [] := ⟨hs.2.2, hg.1, hg.2.1, fun V => rfl, hg.2.2⟩
  obtain ⟨l, hl, _⟩ := c.frames
  have hT : (A.deeper (callEnv fd s₁.heap.objs.size f)).frames = some (callEnv fd s₁.heap.objs.size f :: l) := by show A.frames.map _ = _; rw [hl]; rfl
  refine codeAny_func (wpAny_mono (hq _ F rfl y'.freshP _ _ h₀ _ cx ⟨l, hT⟩ ab) (fun fl s' hh => ?_) fun V V e => e)
  refine out3 hh fun b loc' hp'' r z q => ?_
  have za := leaveB (A := A) (env := callEnv fd s₁.heap.objs.size f) rfl z
  cases b with
  | next => cases r; exact back _ _ .none hp'' ⟨0, rfl⟩ za q
  | brk => cases r; exact back _ _ .none hp'' ⟨0, rfl⟩ za q
  | cont => cases r; exact back _ _ .none hp'' ⟨0, rfl⟩ za q
  | ret v => obtain ⟨v', rfl, hv⟩ := r; exact back _ _ v hp'' hv za q
/-- str(error) -/
theorem c_str_exc {L e t : Addr} {X nm : String} {m : PySem.Str} {Q : AV → Loc → HP → Prop} (FX : ExcStrFacts X nm) (he : hp e = some (excO X t)) (ht : hp t = some (.tuple [.str m])) (q : Q (.str m) loc hp) : ∀ vs, Vs [.ref e] vs → WB g n L (call (.type "str") vs) loc hp AV.Is Q := by
  intro vs hv
  obtain ⟨u, rfl⟩ := Vs1 hv
  refine WB.lift fun A E h₀ s c y => ?_
  refine withGoal fun goalX goalBack => ?_
  obtain ⟨oe, hoe, hce, vs, hd, h0, _⟩ := (y.own e _ he).1
  refine goalBack ?_
  clear goalBack goalX
  refine withGoal fun goalX goalBack => ?_
  obtain ⟨items, mm, ho, it, hi, hsz⟩ := tuple_at y ht
  refine goalBack ?_
  clear goalBack goalX
  obtain ⟨tk, hv⟩ := Vs1 hi
  refine PySem.P.str_of_exc_one FX (by have := c.units; show A.units + 2 < 9900; lia) ⟨oe, vs, hoe, hce, hd, h0⟩ ⟨_, mm, ho, rfl, ?_⟩ ⟨.str m, hp, ⟨tk, rfl⟩, y, q⟩
  have : items = [AV.val tk (AV.str m)].toArray := by apply Array.toList_inj.mp; simpa using hv
  rw [this]; rfl
/-- a built-in type by its name; nothing is asked of what is handled -/
theorem EV_tyB {x : PySem.Str} {T' : String} {p pos : Pos} {e : PySem.Expr} {es : List PySem.Expr} {Q : AV → Loc → HP → Prop} (G : GndB g) (hk : env.scope.kind = .function) (hg : env.globals = mainGlobals) (hb : env.builtins = builtinsNs) (hx : env.kindOf x = some .globalImplicit)
    (hn : nsIn (myK g.w.params) mainGlobals x = some none) (hv : bootBuiltins x = some (.type T')) (hne : x ≠ "__name__")
    (h : ES g n env pos (e :: es) loc hp fun xs l h => ∀ vs, Vs xs vs → WB g n env.locals (call (.type T') vs) l h AV.Is Q) (hd : (x == ("__debug__" : PySem.Str)) = false)
    (he : starEach (e :: es) env = (false, eval e env) :: starEach es env) (hplain : (backTo pos (starEach es env)).any (·.1) = false) : EV g n env (.Call (.Name x p) (e :: es) [] pos) loc hp Q := by
  intro A E h₀ s c y
  refine Call_Name rfl ?_
  obtain ⟨mg, mb, T⟩ := G.top
  refine Name_function_global hk hx (loadGlobal_builtin (env := env) (by rw [hg]; exact T.g.keeps (stays c y)) (mg_none_of G.kin T.g hn) (by rw [hb]; exact T.b.keeps (stays c y)) ((T.builtins x hne).trans hv) ?_) hd
  refine PyProof.Rows.callWith_type1 (wpAny_mono (h A E h₀ s c y) (fun vs s₁ hh => ?_) fun V V e => e) he hplain
  refine out3 hh fun xs l h' r y' q => ?_
  exact q vs r A E h₀ s₁ c y'
end
end Mine
end
section
open PySem PySem.W PySem.Calls PyProof.Rows
namespace Mine
theorem li_ga : typeLookup (.type "list_iterator") "__getattribute__" = pure (some (.builtin "object.__getattribute__")) := by rw [typeLookup_type, builtinLookup_eq_fast]; kernel_rfl
theorem li_next : typeLookup (.type "list_iterator") "__next__" = pure (some (.builtin "list_iterator.__next__")) := by rw [typeLookup_type, builtinLookup_eq_fast]; kernel_rfl
theorem slot_li_ga : Slot "list_iterator" "__getattribute__" "object.__getattribute__" :=
  .of (owner := "object") (n := "__getattribute__") (by rw [typeLookup_type, builtinLookup_eq_fast]; kernel_rfl) (by decide +kernel) (by decide +kernel) (by decide +kernel)
    (by first | exact .inl (by decide +kernel) | exact .inr (by decide +kernel)) (by rw [isSubtype_type]; kernel_rfl)
theorem entry_oga : entryFor table "object.__getattribute__" = some Builtin.«object.__getattribute__» := entryFor_of_tree (by kernel_rfl)
theorem oga_args (a b : PySem.Value) : argsOk "object.__getattribute__" ⟨[a, b], []⟩ := by unfold argsOk; kernel_rfl
section
variable {prog : Program} {w : World} {A : Around} {E : PySem.Value → Shared → Prop} {s : Shared}
theorem wd_type : typeOf (.builtin "list_iterator.__next__") = pure (.type "wrapper_descriptor") := by show builtinType _ = _; rw [builtinType_eq_fast]; kernel_rfl
theorem wd_get : typeLookup (.type "wrapper_descriptor") "__get__" = pure (some (.builtin "wrapper_descriptor.__get__")) := by rw [typeLookup_type, builtinLookup_eq_fast]; kernel_rfl
theorem wd_set : typeLookup (.type "wrapper_descriptor") "__set__" = pure none := by rw [typeLookup_type, builtinLookup_eq_fast]; kernel_rfl
theorem wd_del : typeLookup (.type "wrapper_descriptor") "__delete__" = pure none := by rw [typeLookup_type, builtinLookup_eq_fast]; kernel_rfl
theorem wd_slot : Slot "wrapper_descriptor" "__get__" "wrapper_descriptor.__get__" :=
  .of (owner := "wrapper_descriptor") (n := "__get__") (by rw [typeLookup_type, builtinLookup_eq_fast]; kernel_rfl) (by decide +kernel) (by decide +kernel) (by decide +kernel)
    (by first | exact .inl (by decide +kernel) | exact .inr (by decide +kernel)) (by rw [isSubtype_type]; kernel_rfl)
theorem wd_entry : entryFor table "wrapper_descriptor.__get__" = some Builtin.«wrapper_descriptor.__get__» := entryFor_of_tree (by kernel_rfl)
theorem wd_args (a b c : PySem.Value) : argsOk "wrapper_descriptor.__get__" ⟨[a, b, c], []⟩ := by unfold argsOk; kernel_rfl
theorem li_sub : isSubtype (.type "list_iterator") (.type "list_iterator") = pure true := by rw [isSubtype_type]; kernel_rfl
noncomputable def liObj (l : Addr) (i : Nat) : Obj := { cls := .type "list_iterator", data := .fields #[.ref l, .int i 0] }
noncomputable def mwObj (I : Addr) : Obj := { cls := .type "method-wrapper", data := .fields #[.builtin "list_iterator.__next__", .ref I] }
theorem wd_run {I l : Addr} {i : Nat} {P : Fin → Shared → Prop} (ho : s.heap.get? I = some (liObj l i)) (h : P (.done (.ret (.ref s.heap.objs.size))) { s with heap := s.heap.push (mwObj I) }) :
    wpAny (model prog w) A (Builtin.«wrapper_descriptor.__get__» ⟨[.builtin "list_iterator.__next__", .ref I, .type "list_iterator"], []⟩) P E s := by
  have hT : s.TypeIs (.ref I) "list_iterator" := ⟨_, ho, rfl⟩
  unfold Builtin.«wrapper_descriptor.__get__»
  refine wpAny_bind (wpAny_of_eq (a := (.builtin "list_iterator.__next__", some (.ref I), some (.type "list_iterator"))) (by first | rfl | kernel_rfl) ?_)
  dsimp only
  refine wpAny_bind ?_
  refine wpAny_bind (wpAny_of_eq (a := (Str.ofString "__next__", .type "list_iterator")) (by first | rfl | kernel_rfl) ?_)
  dsimp only
  refine wpAny_bind (wpAny_isInstance hT li_sub ?_)
  refine wpAny_of_eq (a := ()) rfl ?_
  exact wpAny_bind (wpAny_newObj_type (wpAny_pure h))
theorem oga_next {I l : Addr} {i : Nat} {u : Tok} {P : Fin → Shared → Prop} (ho : s.heap.get? I = some (liObj l i)) (h : P (.done (.ret (.ref s.heap.objs.size))) { s with heap := s.heap.push (mwObj I) }) :
    wpAny (model prog w) A (Builtin.«object.__getattribute__» ⟨[.ref I, .str (Str.ofString "__next__") u], []⟩) P E s := by
  have hT : s.TypeIs (.ref I) "list_iterator" := ⟨_, ho, rfl⟩
  unfold Builtin.«object.__getattribute__»
  refine wpAny_bind (wpAny_of_eq (a := (.ref I, [.str (Str.ofString "__next__") u])) (by first | rfl | kernel_rfl) ?_)
  dsimp only
  refine wpAny_bind (wpAny_of_eq (a := Str.ofString "__next__") (by first | rfl | kernel_rfl) ?_)
  refine wpAny_bind (wpAny_typeOf hT (wpAny_bind ?_))
  unfold Builtin.ObjectAttr.find
  refine wpAny_bind (wpAny_of_eq li_next (wpAny_bind ?_))
  refine wpAny_specialOf_val wd_type wd_get (wpAny_bind ?_)
  refine wpAny_bind ?_
  unfold Builtin.ObjectAttr.takesStores
  refine wpAny_bind (wpAny_specialOf_val wd_type wd_set ?_)
  rw [if_neg (by decide)]
  refine wpAny_bind (wpAny_specialOf_val wd_type wd_del (wpAny_pure ?_))
  rw [if_neg (by decide)]
  refine wpAny_pure ?_
  dsimp only
  unfold Builtin.ObjectAttr.ownThenClass Builtin.ObjectAttr.inOwnDict
  dsimp only
  refine wpAny_bind (wpAny_bind ?_)
  unfold Builtin.ObjectAttr.ownDict
  refine wpAny_bind (wpAny_loadPart ho ?_)
  show wpAny _ _ (instanceDict I false) _ _ _
  unfold instanceDict
  refine wpAny_bind (wpAny_loadPart ho ?_)
  refine wpAny_of_eq (a := none) rfl ?_
  refine wpAny_of_eq (a := none) rfl ?_
  dsimp only
  refine wpAny_bind (wpAny_of_eq (a := ()) rfl ?_)
  refine wpAny_bind (wpAny_rule (wpAny_pure ?_))
  dsimp only
  unfold Builtin.ObjectAttr.bindTo
  dsimp only
  exact wpAny_bind (wpAny_holding (wpAny_call_entry wd_slot wd_type wd_entry (wd_run ho ⟨_, rfl, wpAny_pure h⟩) (wd_args _ _ _)))
theorem ga_next {I l : Addr} {i : Nat} {Q : PySem.Value → Shared → Prop} (ho : s.heap.get? I = some (liObj l i)) (h : Q (.ref s.heap.objs.size) { s with heap := s.heap.push (mwObj I), toks := s.toks + 1 }) :
    wpAny (model prog w) A (getAttr (.ref I) "__next__" true) Q E s := by
  have hT : ∀ tk', ({ s with toks := tk' } : Shared).TypeIs (.ref I) "list_iterator" := fun V => ⟨_, ho, rfl⟩
  unfold getAttr getAttrBy
  refine wpAny_bind (wpAny_mkText ?_)
  refine wpAny_holding (wpAny_bind (wpAny_typeOf (hT _) (wpAny_bind (wpAny_of_eq li_ga ?_))))
  dsimp only
  rw [if_neg (by simp [onTheHeap])]
  unfold getAttrByItsOwn
  refine wpAny_bind (wpAny_of_eq (a := none) (by kernel_rfl) ?_)
  refine wpAny_bind (wpAny_attempt (wpAny_holding ?_))
  unfold callGetattribute
  rw [if_neg (by simp [onTheHeap])]
  unfold boundAndCalled
  refine wpAny_bind (wpAny_of_eq (slot_li_ga.bind (.ref I)) ?_)
  dsimp only
  refine wpAny_call_entry (s := { s with toks := s.toks + 1 }) slot_li_ga (hT _) entry_oga (oga_next ho ⟨_, rfl, ?_⟩) (oga_args _ _)
  dsimp only
  unfold handedOut
  exact wpAny_pure h
theorem mw_check (I : Addr) : checkBoundCall "list_iterator.__next__" ⟨[.ref I], []⟩ = pure () := by first | kernel_rfl | rfl
theorem mw_quiet {as : Args} : (Code.builtin "list_iterator.__next__" as).quiet = true := Code.quiet_builtin _ (by decide +kernel)
theorem mw_plain : plainId "list_iterator.__next__" = true := by decide +kernel
theorem mw_call {m I : Addr} {R : Result → Shared → Prop} (hm : s.heap.get? m = some (mwObj I))
    (h : wpAny (model prog w) A.in1 (Builtin.«list_iterator.__next__» ⟨[.ref I], []⟩) (fun fin s' => match fin with | .done f => R (.ok f) s' | .again c' => c'.quiet = true ∧ codeAny (model prog w) A c' R s') (fun e s' => R (.error e) s') s) : codeAny (model prog w) A (.call (.ref m) ⟨[], []⟩) R s := by
  refine codeAny_of_tree ?_
  show wpAny _ A.in1 (callAny (.ref m) ⟨[], []⟩) _ _ s
  simp only [callAny]
  refine wpAny_bind (wpAny_load hm ?_)
  simp only [mwObj, show (Value.type "method-wrapper" == Value.type "method" || Value.type "method-wrapper" == Value.type "builtin_function_or_method" || Value.type "method-wrapper" == Value.type "method-wrapper") = true by decide, if_true]
  refine KFB.if_so (by decide) ?_
  refine wpAny_bind (wpAny_of_eq (a := ()) (mw_check I) ?_)
  refine wpAny_bind (wpAny_pure (wpAny_pure ⟨mw_quiet, codeAny_builtin PySem.entry_listiter_next ?_⟩))
  rw [Around.under_plainId mw_plain _]
  exact h
theorem next_item {I l : Addr} {i : Nat} {items : Array PySem.Value} {k : Nat} {x : PySem.Value} {P : Fin → Shared → Prop} (hI : s.heap.get? I = some (liObj l i)) (hl : s.heap.get? l = some { cls := .type "list", data := .seq items k }) (hx : items[i]? = some x)
    (h : ∀ h', h'.get? I = some (liObj l (i + 1)) → Heap.SameBut I s.heap h' → P (.done (.ret x)) { s with heap := h' }) : wpAny (model prog w) A (Builtin.«list_iterator.__next__» ⟨[.ref I], []⟩) P E s := by
  have hd : (liObj l i).data = .fields #[.ref l, .int i 0] := rfl
  show wpAny _ _ (field (.ref I) 0 >>= _) _ _ s
  refine wpAny_bind (wpAny_field hI hd (x := .ref l) rfl ?_)
  show wpAny _ _ (if (Value.ref l == Value.none) = true then _ else _) _ _ s
  rw [if_neg (show ¬ ((Value.ref l == Value.none) = true) from Bool.false_ne_true)]
  show wpAny _ _ (field (.ref I) 1 >>= _) _ _ s
  refine wpAny_bind (wpAny_field hI hd (x := .int i 0) rfl ?_)
  show wpAny _ _ (seqItems? (.ref l) >>= _) _ _ s
  refine wpAny_bind (wpAny_seqItems hl rfl ?_)
  simp only [Int.toNat_natCast, hx]
  refine wpAny_bind (wpAny_setField hI hd (by simp) (wpAny_pure (h _ ?_ (Heap.SameBut.update ..))))
  exact Heap.get?_update_self _ hI (Obj.isFreed_of_fields (Obj.data_mapFields hd _))
theorem next_end {I l : Addr} {i : Nat} {items : Array PySem.Value} {k : Nat} {P : Fin → Shared → Prop} (hh : A.handled = none) (hI : s.heap.get? I = some (liObj l i)) (hl : s.heap.get? l = some { cls := .type "list", data := .seq items k }) (hx : items[i]? = none)
    (h : ∀ h' e t, Heap.ExtBut I s.heap h' → s.heap.get? e = none → s.heap.get? t = none → t ≠ e → (∃ vs, h'.get? e = some { cls := .type "StopIteration", data := .fields vs } ∧ vs[0]? = some (.ref t) ∧ vs[1]? = some .none) → h'.get? t = some { cls := .type "tuple", data := .seq #[] } → E (.ref e) { s with heap := h' }) :
    wpAny (model prog w) A (Builtin.«list_iterator.__next__» ⟨[.ref I], []⟩) P E s := by
  have hd : (liObj l i).data = .fields #[.ref l, .int i 0] := rfl
  show wpAny _ _ (field (.ref I) 0 >>= _) _ _ s
  refine wpAny_bind (wpAny_field hI hd (x := .ref l) rfl ?_)
  show wpAny _ _ (if (Value.ref l == Value.none) = true then _ else _) _ _ s
  rw [if_neg (show ¬ ((Value.ref l == Value.none) = true) from Bool.false_ne_true)]
  show wpAny _ _ (field (.ref I) 1 >>= _) _ _ s
  refine wpAny_bind (wpAny_field hI hd (x := .int i 0) rfl ?_)
  show wpAny _ _ (seqItems? (.ref l) >>= _) _ _ s
  refine wpAny_bind (wpAny_seqItems hl rfl ?_)
  simp only [Int.toNat_natCast, hx]
  refine wpAny_bind (wpAny_rule (wpAny_bind (wpAny_setField hI hd (by simp) ?_)))
  show wpAny _ _ (newExc (.type "StopIteration") [] >>= _) _ _ _
  refine wpAny_bind ?_
  simp only [newExc, newTuple]
  refine wpAny_bind (wpAny_newObj_type ?_ (by size_fits))
  refine wpAny_bind (m := firstArgMember _ _) (wpAny_of_eq (a := Value.none) (by first | rfl | (simp only [firstArgMember]; rfl)) ?_)
  refine wpAny_newObj_type ?_ (by size_fits)
  simp only [raiseNew]
  refine wpAny_bind (wpAny_handled ?_)
  rw [hh]
  have sz : ∀ (f : Obj → Obj), (s.heap.update I f).objs.size = s.heap.objs.size := fun f => Heap.size_update ..
  have none_ : ∀ a, s.heap.objs.size ≤ a → s.heap.get? a = none := fun a ha => by
    cases q : s.heap.get? a with
    | none => rfl
    | some o => exact absurd (Heap.lt_size q) (Nat.not_lt.mpr ha)
  refine wpAny_bind (wpAny_pure (wpAny_throw (h _ _ s.heap.objs.size (((Heap.SameBut.update ..).extBut.push _).push _) ?_ ?_ ?_ ⟨_, Heap.get?_push_size _ rfl, ?_, rfl⟩ ?_)))
  · refine none_ _ ?_
    rw [Heap.size_push, sz]; exact Nat.le_succ _
  · exact none_ _ (Nat.le_refl _)
  · rw [Heap.size_push, sz]; exact Nat.ne_of_lt (Nat.lt_succ_self _)
  · rw [sz]; rfl
  · refine Heap.get?_push_of_some _ ?_
    have := Heap.get?_push_size (s.heap.update I (Obj.mapFields fun x => x.setIfInBounds 0 Value.none)) (o := { cls := .type "tuple", data := .seq ([] : List PySem.Value).toArray }) rfl
    rw [sz] at this; exact this
end
section
variable {g : Gd} {n : Nat} {env : Env} {L : Addr} {loc : Loc} {hp : HP}
noncomputable def liO (l : Addr) (i : Nat) : AO := .raw fun o => o = liObj l i
noncomputable def mwO (I : Addr) : AO := .raw fun o => o = mwObj I
/-- iter(list) -/
theorem c_iter_list {l : Addr} {xs : List AV} {Q : AV → Loc → HP → Prop} (hl : hp l = some (.list xs)) (q : ∀ D, hp D = none → Q (.ref D) loc (hp.set D (liO l 0))) : ∀ vs, Vs [.ref l] vs → WB g n L (call (.builtin "iter") vs) loc hp AV.Is Q := by
  intro vs hv
  obtain ⟨t, rfl⟩ := Vs1 hv
  refine WB.lift fun A E h₀ s c y => ?_
  refine withGoal fun goalX goalBack => ?_
  obtain ⟨items, m, ho, it, hi, hsz⟩ := list_at y hl
  refine goalBack ?_
  clear goalBack goalX
  show wpAny _ _ (call (.builtin "iter") [.ref l]) _ _ _
  refine Calls.call_function_entry (by decide +kernel) (by decide +kernel) kdk_entry_iter (kdk_args_iter _) ?_
  unfold Builtin.«iter»
  refine wpAny_bind (m := someArgs "iter" 1 2 _) (wpAny_of_eq (a := [Value.ref l]) (by first | rfl | kernel_rfl!) ?_)
  show wpAny _ _ (pyIter (.ref l) >>= _) _ _ _
  refine wpAny_bind (wpAny_pyIter_list it ?_)
  exact wpAny_pure ⟨_, rfl, .ref _, _, ⟨0, rfl⟩, y.push (X := liO l 0) ⟨_, Heap.get?_push_size _ rfl, rfl⟩, q _ y.freshP⟩
/-- it.__next__ -/
theorem ga_nextA {I l : Addr} {i : Nat} {Q : AV → Loc → HP → Prop} (hI : hp I = some (liO l i)) (q : ∀ D, hp D = none → Q (.ref D) loc (hp.set D (mwO I))) : ∀ va, (AV.ref I).Is va → WB g n L (getAttr va "__next__" true) loc hp AV.Is Q := by
  rintro _ ⟨t, rfl⟩
  refine WB.lift fun A E h₀ s c y => ?_
  obtain ⟨o, ho, rfl⟩ := (y.own I _ hI).1
  exact ga_next ho ⟨.ref _, _, ⟨0, rfl⟩, (y.push (X := mwO I) ⟨_, Heap.get?_push_size _ rfl, rfl⟩).toks (Nat.le_add_left 1 _), q _ y.freshP⟩
theorem callWith_mw {M : Model} {A : Around} {E : PySem.Value → Shared → Prop} {s : Shared} {pos : Pos} {u I : Addr} {Q : PySem.Value → Shared → Prop} (ho : s.heap.get? u = some (mwObj I)) (h : wpAny M A (call (.ref u) []) Q E s) : wpAny M A (callWith pos (.ref u) [] [] []) Q E s := by
  unfold callWith
  refine wpAny_bind (wpAny_holding (PySem.evalArgs_none (wpAny_bind (wpAny_standAt ?_))))
  simp only [List.any_nil, Bool.or_false]
  refine wpAny_bind (m := keeperOf (.ref u)) ?_
  unfold keeperOf
  refine wpAny_bind (wpAny_load ho ?_)
  simp only [mwObj, show (Value.type "method-wrapper" != Value.type "method") = true by decide, show (Value.type "method-wrapper" == Value.type "builtin_function_or_method" || Value.type "method-wrapper" == Value.type "method-wrapper") = true by decide, if_true]
  refine wpAny_pure ?_
  exact wpAny_bind (wpAny_mono h (fun r s₂ hr => wpAny_bind (wpAny_holding (wpAny_point (wpAny_pure hr)))) fun V V x => x)
/-- f() for a bound __next__ that gives an item -/
theorem EV_mw {f : PySem.Expr} {pos : Pos} {Q : AV → Loc → HP → Prop} (hf : eval (.Call f [] [] pos) env = (do callWith pos (← eval f env) [] (backTo pos (starEach [] env)) (backToKw pos (keywordEach [] env))))
    (h : EV g n env f loc hp fun a l h => ∃ m I ll i xs x, a = .ref m ∧ h m = some (mwO I) ∧ h I = some (liO ll i) ∧ h ll = some (.list xs) ∧ xs[i]? = some x ∧ Q x l (h.set I (liO ll (i + 1)))) : EV g n env (.Call f [] [] pos) loc hp Q := by
  intro A E h₀ s c y
  show wpAny _ _ (eval (.Call f [] [] pos) env) _ _ _
  rw [hf]
  refine wpAny_bind (wpAny_mono (h A E h₀ s c y) (fun v s₁ hh => ?_) fun V V e => e)
  refine out3 hh fun a l h' r y' hQ => ?_
  refine withGoal fun goalX goalBack => ?_
  obtain ⟨m, I, ll, i, xs, x, rfl, hm, hI, hll, hx, q⟩ := hQ
  refine goalBack ?_
  clear goalBack goalX
  obtain ⟨u, rfl⟩ := r
  have key : WB g n env.locals (call (.ref m) []) l h' AV.Is Q := by
    refine WB.lift fun A E h₀ s c y => ?_
    obtain ⟨o, ho, rfl⟩ := (y.own m _ hm).1
    obtain ⟨o, hoI, rfl⟩ := (y.own I _ hI).1
    refine withGoal fun goalX goalBack => ?_
    obtain ⟨items, k, hol, it, hi, hsz⟩ := list_at y hll
    refine goalBack ?_
    clear goalBack goalX
    obtain ⟨vx, hvx, ivx⟩ := hi.get hx
    refine wpAny_call (mw_call ho (next_item hoI hol (by simpa using hvx) fun hq hI' hs' => ?_))
    exact ⟨x, _, ivx, y.put hI (fun b o hb e => (hs'.2 b hb).trans e) (Y := liO ll (i + 1)) ⟨_, hI', rfl⟩, q⟩
  obtain ⟨o, ho, rfl⟩ := (y'.at_.own m _ hm).1
  exact callWith_mw ho (key A E h₀ s₁ c y')
/-- f() for a bound __next__ at its end -/
theorem EVR_mw {f : PySem.Expr} {pos : Pos} {X : Addr → Loc → HP → Prop} (hf : eval (.Call f [] [] pos) env = (do callWith pos (← eval f env) [] (backTo pos (starEach [] env)) (backToKw pos (keywordEach [] env)))) (hg : g.hn = true)
    (h : EV g n env f loc hp fun a l h => ∃ m I ll i xs, a = .ref m ∧ h m = some (mwO I) ∧ h I = some (liO ll i) ∧ h ll = some (.list xs) ∧ xs[i]? = none ∧ ∀ t e, h t = none → h e = none → t ≠ e → X e l (((h.del I).set t (.tuple [])).set e (excO "StopIteration" t))) : EVR g n env (.Call f [] [] pos) loc hp X := by
  intro A E h₀ s c T y k
  show wpAny _ _ (eval (.Call f [] [] pos) env) _ _ _
  rw [hf]
  refine wpAny_bind (wpAny_mono (h A E h₀ s c y) (fun v s₁ hh => ?_) fun V V e => e)
  refine out3 hh fun a l h' r y' hQ => ?_
  refine withGoal fun goalX goalBack => ?_
  obtain ⟨m, I, ll, i, xs, rfl, hm, hI, hll, hx, q⟩ := hQ
  refine goalBack ?_
  clear goalBack goalX
  obtain ⟨u, rfl⟩ := r
  obtain ⟨o, ho, rfl⟩ := (y'.at_.own m _ hm).1
  obtain ⟨o, hoI, rfl⟩ := (y'.at_.own I _ hI).1
  refine withGoal fun goalX goalBack => ?_
  obtain ⟨items, kk, hol, it, hi, hsz⟩ := list_at y'.at_ hll
  refine goalBack ?_
  clear goalBack goalX
  have hnone : items[i]? = none := by
    rw [Array.getElem?_eq_none_iff, hsz]; exact List.getElem?_eq_none_iff.mp hx
  refine callWith_mw ho (wpAny_call (mw_call ho (next_end (c.handled hg) hoI hol hnone fun hq e t hext hen htn hte hee htt => ?_)))
  refine withGoal fun goalX goalBack => ?_
  obtain ⟨vs, hee, h0, h1⟩ := hee
  refine goalBack ?_
  clear goalBack goalX
  have fr : ∀ b, s₁.heap.get? b = none → h' b = none ∧ h₀.get? b = none ∧ b ≠ env.locals := fun b hb => by
    refine ⟨?_, ?_, ?_⟩
    · cases q : h' b with
      | none => rfl
      | some X => obtain ⟨o, e⟩ := (y'.at_.own b X q).1.there; rw [hb] at e; cases e
    · cases q : h₀.get? b with
      | none => rfl
      | some o => obtain ⟨sl, e, _⟩ := y'.at_.keep b o q; rw [hb] at e; cases e
    · rintro rfl; obtain ⟨m, ⟨o, es, ep, ho, r⟩, hm⟩ := y'.loc; rw [hb] at ho; cases ho
  obtain ⟨t1, t2, t3⟩ := fr t htn
  obtain ⟨e1, e2, e3⟩ := fr e hen
  have hIL : I ≠ env.locals := by rintro rfl; rw [y'.hpL] at hI; cases hI
  have y0 := y'.sub (HP.del_sub h' I)
  have y1 : AtB g (SA A) h₀ env.locals l (h'.del I) { s₁ with heap := hq } := y0.turned (tk := s₁.toks) y'.at_.tok (fun b => b = I) (fun b o hb e => hext b o hb e) (fun b hb => by subst hb; exact ⟨(y'.at_.own b _ hI).2, HP.del_self _ _, hIL⟩)
  have y2 : AtB g (SA A) h₀ env.locals l (((h'.del I).set t (.tuple [])).set e (excO "StopIteration" t)) { s₁ with heap := hq } :=
    ⟨(y1.at_.give (X := .tuple []) ⟨_, _, htt, trivial⟩ t2).give (X := excO "StopIteration" t) ⟨_, hee, rfl, _, rfl, h0, (Array.getElem?_eq_some_iff.mp h1).1⟩ e2, y1.loc, (HP.set_ne (Ne.symm e3)).trans ((HP.set_ne (Ne.symm t3)).trans y1.hpL), y1.hL⟩
  exact k e _ l _ y2 (.inl ⟨_, _, hee, rfl, h1⟩) (q t e t1 e1 hte)
/-- f'..{x!r}..' -/
theorem EV_fr {a b : PySem.Str} {k1 k3 : Nat} {v : PySem.Expr} {p1 p2 p3 pos : Pos} {Q : AV → Loc → HP → Prop} (ha : a.length ≤ 1000) (hb : b.length ≤ 1000)
    (h : EV g n env v loc hp fun c l h => ∃ x, c = .str x ∧ (reprText x).length ≤ 50000 ∧ Q (.str (a ++ reprText x ++ b)) l h) : EV g n env (.JoinedStr [.Constant (.str a) k1 p1, .FormattedValue v 114 none p2, .Constant (.str b) k3 p3] pos) loc hp Q := by
  intro A E h₀ s c y
  refine JoinedStr_many (joinParts_cons (wpAny_Constant_str ⟨?_, joinParts_cons (wpAny_FormattedValue_repr ?_)⟩))
  · rw [Str.length_append]; have : Str.empty.length = 0 := rfl
    rw [this, sizeLine_eq]; omega
  have y1 : AtB g (SA A) h₀ env.locals loc hp { s with toks := s.toks + 1 } := y.toks (Nat.le_add_left 1 _)
  refine wpAny_mono (h A E h₀ _ c y1) (fun vv s₁ hh => ?_) fun V V e => e
  refine out3 hh fun cc l h' r y₁ hQ => ?_
  refine withGoal fun goalX goalBack => ?_
  obtain ⟨x, rfl, hz, q⟩ := hQ
  refine goalBack ?_
  clear goalBack goalX
  obtain ⟨t, rfl⟩ := r
  refine pyReprObj_str ?_ (by rw [sizeLine_eq]; omega)
  refine wpAny_with_toks (n := 1) (s := { s₁ with toks := s₁.toks + 1 }) (Nat.le_add_left 1 _) (formatField_str (fun t' tk htk => ⟨?_, joinParts_cons (wpAny_Constant_str ⟨?_, joinParts_nil ?_ ?_⟩)⟩) (by rw [sizeLine_eq]; omega))
  · rw [Str.length_append, Str.length_append]; have : Str.empty.length = 0 := rfl
    rw [this, sizeLine_eq]; omega
  · rw [Str.length_append, Str.length_append, Str.length_append]; have : Str.empty.length = 0 := rfl
    rw [this, sizeLine_eq]; omega
  · have e0 : Str.empty ++ a = a := by show Str.append Str.empty a = a; cases a; simp [Str.empty, Str.append]
    rw [e0]
    exact ⟨.str (a ++ reprText x ++ b), l, h', ⟨_, rfl⟩, y₁.toks (Nat.le_add_left 1 _), q⟩
  · rw [Str.length_append, Str.length_append, Str.length_append]; have : Str.empty.length = 0 := rfl
    rw [this, sizeLine_eq]; omega
/-- for x in d, where the body may read d (it lies in the heap as something fixed) -/
theorem EXT_ForK {x : PySem.Str} {px pos : Pos} {iter : PySem.Expr} {body : List Stmt} {Q : AF → Loc → HP → Prop}
    (h : EV g n env iter loc hp fun a l₁ h₁ => ∃ d es, a = .ref d ∧ h₁ d = some (.dict es) ∧ ∀ P : Obj → Prop, (∀ h o, P o → h.get? d = some o → (AO.dict es).In g.w h d) → ∃ J : Nat → Loc → HP → Prop, J 0 l₁ (h₁.set d (.raw P)) ∧ (∀ i l h, J i l h → h d = some (.raw P)) ∧
      (∀ i k a l h, es[i]? = some (k, a) → J i l h → ∀ u, (AV.str k).Is u → UN g n env.locals (storeName env x u) l h fun l h => XST g n env body l h (OnF (J (i + 1)))) ∧
      (∀ l h, J es.length l h → Q .next l (h.set d (.dict es))))
    (hs : ∀ x, foldedSetIterable iter env x = pure x) (hg : g.hn = true := by first | with_reducible assumption | exact Gnd.hn (by with_reducible assumption)) : EXT g n env (.For (.Name x px) iter body [] pos) loc hp Q := by
  intro A E h₀ s c T y
  refine wpAny_For (wpAny_mono (h A E h₀ s c y) (fun v s₁ hh => ?_) fun V V e => e) hs
  refine out3 hh fun a l₁ h₁ ra y₁ hQ => ?_
  refine withGoal fun goalX goalBack => ?_
  obtain ⟨d, es, rfl, hd, rest⟩ := hQ
  refine goalBack ?_
  clear goalBack goalX
  obtain ⟨t, rfl⟩ := ra
  refine withGoal fun goalX goalBack => ?_
  obtain ⟨hsm, kvs, hD, hps⟩ := dict_at y₁.at_ hd
  refine goalBack ?_
  clear goalBack goalX
  obtain ⟨ep, hA⟩ := hD.dictAt
  obtain ⟨od, hod⟩ := (y₁.at_.own d _ hd).1.there
  have hIn := (y₁.at_.own d _ hd).1
  have hd0 := (y₁.at_.own d _ hd).2
  refine withGoal fun goalX goalBack => ?_
  obtain ⟨J, hJ0, hJd, step, fin⟩ := rest (fun o => o = od) (fun h o e ho => by subst e; exact hIn.of_eq (ho.trans hod.symm))
  refine goalBack ?_
  clear goalBack goalX
  have hne : d ≠ s₁.heap.objs.size := Nat.ne_of_lt (Heap.lt_size hod)
  have hdL : d ≠ env.locals := by rintro rfl; rw [y₁.hpL] at hd; cases hd
  have hlen : es.length = kvs.length := hps.len
  have hI0 : h₀.get? s₁.heap.objs.size = none := y₁.at_.fresh
  have hIp : h₁ s₁.heap.objs.size = none := y₁.at_.freshP
  have hIL : s₁.heap.objs.size ≠ env.locals := by
    refine withGoal fun goalX goalBack => ?_
    obtain ⟨m, ⟨o, es, ep, ho, r⟩, hm⟩ := y₁.loc
    refine goalBack ?_
    clear goalBack goalX
    exact Ne.symm (Nat.ne_of_lt (Heap.lt_size ho))
  refine wpAny_pyIter_dict hsm hA ?_
  have hst : ({ s₁ with heap := s₁.heap.push { cls := .type "dict_keyiterator", data := .fields #[.ref d, .int 0 0, .int kvs.length 0, .int ep 0] } } : Shared).heap.IsKeyIter s₁.heap.objs.size d 0 kvs.length ep := ⟨_, Heap.get?_push_size _ rfl, rfl, rfl⟩
  have z₂ : AtB g (SA A) h₀ env.locals l₁ (h₁.set d (.raw fun o => o = od)) { s₁ with heap := s₁.heap.push { cls := .type "dict_keyiterator", data := .fields #[.ref d, .int 0 0, .int kvs.length 0, .int ep 0] } } := by
    have z := y₁.turned (h' := s₁.heap.push { cls := .type "dict_keyiterator", data := .fields #[.ref d, .int 0 0, .int kvs.length 0, .int ep 0] }) (tk := s₁.toks) y₁.at_.tok (fun V => False) (fun b o V e => Heap.get?_push_of_some _ e) (fun V h => h.elim)
    exact ⟨z.at_.give ⟨od, Heap.get?_push_of_some _ hod, rfl⟩ hd0, z.loc, (HP.set_ne (Ne.symm hdL)).trans z.hpL, z.hL⟩
  have hIp₂ : (h₁.set d (.raw fun o => o = od)) s₁.heap.objs.size = none := (HP.set_ne (Ne.symm hne)).trans hIp
  have WA := PySem.Walks.dictKeys (knd := strKind pg g.w) (c.handled hg) s₁.heap.objs.size d hne kvs ep
  clear hIp
  revert hst z₂ hIp₂ WA hne hI0 hIL
  generalize s₁.heap.objs.size = I
  generalize ({ s₁ with heap := s₁.heap.push { cls := .type "dict_keyiterator", data := .fields #[.ref d, .int 0 0, .int kvs.length 0, .int ep 0] } } : Shared) = s₂
  intro hne hI0 hIL hst z₂ hIp₂ WA
  have dAt : ∀ h : Heap, h.get? d = some od → h.DictAt (strKind pg g.w) d kvs ep := fun h e => hA.at' fun o ho => by rw [hod] at ho; cases ho; exact e
  obtain ⟨Inv, hI⟩ : ∃ Inv : Nat → Shared → Prop, ∀ k s', Inv k s' ↔ (∃ i l' hp', s'.heap.IsKeyIter I d i kvs.length ep ∧ AtB g (SA A) h₀ env.locals l' hp' s' ∧ J i l' hp' ∧ hp' I = none ∧ i ≤ es.length ∧ k = es.length + 1 - i) := ⟨_, fun V V => Iff.rfl⟩
  refine codeAny_forLoop Inv ?_ (es.length + 1) ((hI _ _).mpr
    ⟨0, l₁, _, hst, z₂, hJ0, hIp₂, Nat.zero_le _, rfl⟩)
  intro k s' hh
  refine withGoal fun goalX goalBack => ?_
  obtain ⟨i, l', hp', hst', z, hJ, hpI, hi, rfl⟩ := (hI k s').mp hh
  refine goalBack ?_
  clear goalBack goalX
  clear hh
  have hdd : s'.heap.get? d = some od := by
    obtain ⟨o, ho, e⟩ := (z.at_.own d _ (hJd i l' hp' hJ)).1
    rw [ho, e]
  by_cases hlt : i < es.length
  · refine wpAny_with_toks z.at_.tok (WA.item i s' _ _ (by rw [← hlen]; exact hlt) ⟨hst', dAt _ hdd⟩ fun v h' tk ⟨k, x', hx, hv⟩ hst₁ hk₁ htk => ?_)
    obtain ⟨a, ha, ia⟩ := hps.getR hx
    have z' := z.turned htk (fun b => b ∈ [I]) (fun b o hb e => hk₁ b o hb e) (fun b hb => by simp at hb; subst hb; exact ⟨hI0, hpI, hIL⟩)
    refine withGoal fun goalX goalBack => ?_
    obtain ⟨h₁, c₁, w₁, out⟩ := z'.frame c
    refine goalBack ?_
    clear goalBack goalX
    have hvs : (AV.str k).Is v := by
      have : (strKind pg g.w).is k v = true := hv
      cases v <;> simp [PySem.strKind, Value.isStrOf] at this
      subst this; exact ⟨_, rfl⟩
    refine wpAny_assign_Name (wpAny_mono (step i k a l' hp' ha hJ v hvs A _ h₁ _ c₁ w₁) (fun V s₃ hh => ?_) fun V V e => e)
    refine out3 hh fun V l₃ hp₃ V w₃ k₃ => ?_
    refine wpAny_mono (k₃ A _ h₁ s₃ c₁ T w₃) (fun f s₄ hh => ?_) fun V V e => e
    refine out3 hh fun af l₄ hp₄ rf w₄ q₄ => ?_
    obtain ⟨z₄, kept⟩ := out l₄ hp₄ s₄ w₄
    obtain ⟨oI, hoI, rI⟩ := hst₁.1
    have kI := kept I oI hpI hIL hI0 hoI
    cases af with
    | next => cases rf; exact ⟨es.length + 1 - (i + 1), by omega, (hI _ _).mpr ⟨i + 1, l₄, hp₄, ⟨oI, kI.2, rI⟩, z₄, q₄, kI.1, hlt, rfl⟩⟩
    | cont => cases rf; exact ⟨es.length + 1 - (i + 1), by omega, (hI _ _).mpr ⟨i + 1, l₄, hp₄, ⟨oI, kI.2, rI⟩, z₄, q₄, kI.1, hlt, rfl⟩⟩
    | brk => exact q₄.elim
    | ret v => exact q₄.elim
  · have hin : i = es.length := by omega
    subst hin
    refine wpAny_with_toks z.at_.tok (WA.done s' _ _ ⟨hlen ▸ hst', dAt _ hdd⟩ fun h' tk hk₁ htk => wpAny_execs_nil ?_)
    have z' := z.turned htk (fun b => b ∈ [I]) (fun b o hb e => hk₁ b o hb e) (fun b hb => by simp at hb; subst hb; exact ⟨hI0, hpI, hIL⟩)
    refine ⟨.next, l', hp'.set d (.dict es), rfl, ⟨z'.at_.give (hIn.of_eq ?_) hd0, z'.loc, (HP.set_ne (Ne.symm hdL)).trans z'.hpL, z'.hL⟩, fin l' hp' hJ⟩
    rw [hod]; exact hk₁ d od (by simp [hne]) hdd
end
end Mine
end
section
open PySem PySem.W PySem.Calls PyProof.Rows
namespace Mine
/-- the sorter, plainly -/
structure Nd where
  name : PySem.Str
  np : Int
  succ : List PySem.Str
structure SS where
  nodes : List Nd
  ready : Option (List PySem.Str)
  passed : Int
  fin : Int
/-- where it lies -/
structure SR where
  d : Addr
  nd : Addr
  rl : Addr
  a : PySem.Str → Addr
  b : PySem.Str → Addr
  c : PySem.Str → Addr
noncomputable def rdyV (r : Option (List PySem.Str)) (rl : Addr) : AV := match r with | none => .none | some _ => .ref rl
noncomputable def sAttrs (nd : Addr) (r : AV) (p f : Int) : Loc := [("_node2info", .ref nd), ("_ready_nodes", r), ("_npassedout", .int p), ("_nfinished", .int f)]
noncomputable def ndDict (R : SR) (ns : List Nd) : Loc := ns.map fun N => (N.name, .ref (R.a N.name))
noncomputable def ndObj (R : SR) (N : Nd) : AO := .slotted 40 (R.b N.name) [some (.str N.name), some (.int N.np), some (.ref (R.c N.name))]
structure SortAt (h : HP) (x : Addr) (S : SS) (R : SR) : Prop where
  hx : h x = some (.inst 137 R.d)
  hd : h R.d = some (.ns (sAttrs R.nd (rdyV S.ready R.rl) S.passed S.fin))
  hnd : h R.nd = some (.dict (ndDict R S.nodes))
  ha : ∀ N ∈ S.nodes, h (R.a N.name) = some (ndObj R N)
  hb : ∀ N ∈ S.nodes, h (R.b N.name) = some (.ns [])
  hc : ∀ N ∈ S.nodes, h (R.c N.name) = some (.list (strsA N.succ))
  inj : ∀ N ∈ S.nodes, ∀ M ∈ S.nodes, R.c N.name = R.c M.name → N.name = M.name
  hr : ∀ l, S.ready = some l → h R.rl = some (.list (strsA l)) ∧ ∀ N ∈ S.nodes, R.c N.name ≠ R.rl
  nodup : (S.nodes.map (·.name)).Nodup
/-- what is its own -/
noncomputable def Foot (x : Addr) (S : SS) (R : SR) (y : Addr) : Prop := y = x ∨ y = R.d ∨ y = R.nd ∨ (∃ l, S.ready = some l ∧ y = R.rl) ∨ ∃ N ∈ S.nodes, y = R.a N.name ∨ y = R.b N.name ∨ y = R.c N.name
section
variable {h h' base : HP} {x : Addr} {S : SS} {R : SR}
theorem SortAt.there (s : SortAt h x S R) {y : Addr} (f : Foot x S R y) : ∃ X, h y = some X := by
  rcases f with rfl | rfl | rfl | ⟨l, e, rfl⟩ | ⟨N, hN, rfl | rfl | rfl⟩
  · exact ⟨_, s.hx⟩
  · exact ⟨_, s.hd⟩
  · exact ⟨_, s.hnd⟩
  · exact ⟨_, (s.hr l e).1⟩
  · exact ⟨_, s.ha N hN⟩
  · exact ⟨_, s.hb N hN⟩
  · exact ⟨_, s.hc N hN⟩
theorem SortAt.congr (s : SortAt h x S R) (e : ∀ y, Foot x S R y → h' y = h y) : SortAt h' x S R :=
  ⟨(e _ (.inl rfl)).trans s.hx, (e _ (.inr (.inl rfl))).trans s.hd, (e _ (.inr (.inr (.inl rfl)))).trans s.hnd, fun N hN => (e _ (.inr (.inr (.inr (.inr ⟨N, hN, .inl rfl⟩))))).trans (s.ha N hN),
    fun N hN => (e _ (.inr (.inr (.inr (.inr ⟨N, hN, .inr (.inl rfl)⟩))))).trans (s.hb N hN), fun N hN => (e _ (.inr (.inr (.inr (.inr ⟨N, hN, .inr (.inr rfl)⟩))))).trans (s.hc N hN), s.inj,
    fun l hl => ⟨(e _ (.inr (.inr (.inr (.inl ⟨l, hl, rfl⟩))))).trans (s.hr l hl).1, (s.hr l hl).2⟩, s.nodup⟩
/-- an address that is not its own -/
theorem SortAt.set (s : SortAt h x S R) {y : Addr} {X : AO} (f : ¬ Foot x S R y) : SortAt (h.set y X) x S R := s.congr fun z fz => HP.set_ne (by rintro rfl; exact f fz)
theorem SortAt.del (s : SortAt h x S R) {y : Addr} (f : ¬ Foot x S R y) : SortAt (h.del y) x S R := s.congr fun z fz => HP.del_ne (by rintro rfl; exact f fz)
theorem SortAt.notFoot (s : SortAt h x S R) {y : Addr} (e : h y = none) : ¬ Foot x S R y := fun f => by obtain ⟨X, hX⟩ := s.there f; rw [e] at hX; cases hX
structure SortIn (base h : HP) (x : Addr) (S : SS) (R : SR) : Prop where
  sub : base.Sub h
  at_ : SortAt h x S R
  sep : ∀ y, Foot x S R y → base y = none
theorem SortIn.notFoot (s : SortIn base h x S R) {y : Addr} {X : AO} (e : base y = some X) : ¬ Foot x S R y := fun f => by rw [s.sep y f] at e; cases e
theorem SortIn.fresh (s : SortIn base h x S R) {y : Addr} {X : AO} (e : h y = none) : SortIn base (h.set y X) x S R := ⟨s.sub.new e, s.at_.set (s.at_.notFoot e), s.sep⟩
theorem SortIn.add (s : SortIn base h x S R) {y : Addr} {X : AO} (e : h y = none) : SortIn (base.set y X) (h.set y X) x S R :=
  ⟨s.sub.set, s.at_.set (s.at_.notFoot e), fun z f => (HP.set_ne (by rintro rfl; exact s.at_.notFoot e f)).trans (s.sep z f)⟩
theorem SortIn.own (s : SortIn base h x S R) {y : Addr} {X Y : AO} (e : base y = some Y) : SortIn (base.set y X) (h.set y X) x S R :=
  ⟨s.sub.set, s.at_.set (s.notFoot e), fun z f => (HP.set_ne (by rintro rfl; exact s.notFoot e f)).trans (s.sep z f)⟩
theorem SortIn.del (s : SortIn base h x S R) {y : Addr} {Y : AO} (e : base y = some Y) : SortIn (base.del y) (h.del y) x S R :=
  ⟨fun z X ez => by
    by_cases q : z = y
    · subst q; rw [HP.del_self] at ez; cases ez
    · rw [HP.del_ne q] at ez ⊢; exact s.sub z X ez, s.at_.del (s.notFoot e), fun z f => HP.del_none (s.sep z f)⟩
theorem SortIn.weak {base' : HP} (s : SortIn base h x S R) (e : base'.Sub base) : SortIn base' h x S R := ⟨e.trans s.sub, s.at_, fun y f => e.non (s.sep y f)⟩
theorem lk_nodup : ∀ {ns : List Nd} {N : Nd} (R : SR), (ns.map (·.name)).Nodup → N ∈ ns → lk N.name (ndDict R ns) = some (.ref (R.a N.name))
  | M :: ns, N, R, hd, hm => by
    rw [List.map_cons, List.nodup_cons] at hd
    show lk N.name ((M.name, .ref (R.a M.name)) :: ndDict R ns) = _
    rcases List.mem_cons.mp hm with rfl | hm
    · rw [lk_cons_self]
    · rw [lk_cons_ne _ _ (fun e => hd.1 (by rw [e]; exact List.mem_map.mpr ⟨N, hm, rfl⟩))]
      exact lk_nodup R hd.2 hm
theorem lk_ndNone : ∀ {ns : List Nd} {k : PySem.Str} (R : SR), k ∉ ns.map (·.name) → lk k (ndDict R ns) = none
  | [], _, _, _ => rfl
  | M :: ns, k, R, hk => by
    rw [List.map_cons, List.mem_cons, not_or] at hk
    show lk k ((M.name, .ref (R.a M.name)) :: ndDict R ns) = _
    rw [lk_cons_ne _ _ (Ne.symm hk.1)]
    exact lk_ndNone R hk.2
/-- a node turned -/
noncomputable def updN (k : PySem.Str) (f : Nd → Nd) (ns : List Nd) : List Nd := ns.map fun N => if N.name = k then f N else N
theorem updN_names {k : PySem.Str} {f : Nd → Nd} (hf : ∀ N, (f N).name = N.name) (ns : List Nd) : (updN k f ns).map (·.name) = ns.map (·.name) := by
  unfold updN
  rw [List.map_map]
  apply List.map_congr_left
  intro N _
  simp only [Function.comp]
  split
  · exact hf N
  · rfl
theorem updN_dict {k : PySem.Str} {f : Nd → Nd} (hf : ∀ N, (f N).name = N.name) (R : SR) (ns : List Nd) : ndDict R (updN k f ns) = ndDict R ns := by
  unfold ndDict updN
  rw [List.map_map]
  apply List.map_congr_left
  intro N _
  simp only [Function.comp]
  split
  · rw [hf N]
  · rfl
theorem updN_mem {k : PySem.Str} {f : Nd → Nd} {ns : List Nd} {M : Nd} (h : M ∈ updN k f ns) : ∃ N ∈ ns, M = if N.name = k then f N else N := by
  obtain ⟨N, hN, e⟩ := List.mem_map.mp h
  exact ⟨N, hN, e.symm⟩
noncomputable def SS.upd (S : SS) (k : PySem.Str) (f : Nd → Nd) : SS := { S with nodes := updN k f S.nodes }
theorem Foot.upd {k : PySem.Str} {f : Nd → Nd} (hf : ∀ N, (f N).name = N.name) {y : Addr} : Foot x (S.upd k f) R y ↔ Foot x S R y := by
  have key : ∀ (P : PySem.Str → Prop), (∃ M ∈ updN k f S.nodes, P M.name) ↔ ∃ N ∈ S.nodes, P N.name := fun P => by
    constructor
    · rintro ⟨M, hM, p⟩
      obtain ⟨N, hN, e⟩ := updN_mem hM
      refine ⟨N, hN, ?_⟩
      subst e; split at p
      · rw [hf N] at p; exact p
      · exact p
    · rintro ⟨N, hN, p⟩
      refine ⟨if N.name = k then f N else N, List.mem_map.mpr ⟨N, hN, rfl⟩, ?_⟩
      split
      · rw [hf N]; exact p
      · exact p
  unfold Foot
  show (_ ∨ _ ∨ _ ∨ _ ∨ ∃ M ∈ updN k f S.nodes, _) ↔ _
  rw [key fun nm => y = R.a nm ∨ y = R.b nm ∨ y = R.c nm]
  rfl
/-- one node's object or list is set anew -/
theorem SortAt.node (s : SortAt h x S R) {N₀ : Nd} {f : Nd → Nd} (hN : N₀ ∈ S.nodes) (hf : ∀ N, (f N).name = N.name) :
    ((∀ N, (f N).succ = N.succ) → SortAt (h.set (R.a N₀.name) (ndObj R (f N₀))) x (S.upd N₀.name f) R) ∧ ((∀ N, (f N).np = N.np) → SortAt (h.set (R.c N₀.name) (.list (strsA (f N₀).succ))) x (S.upd N₀.name f) R) := by
  have aa : ∀ N ∈ S.nodes, R.a N.name = R.a N₀.name → N.name = N₀.name := fun N hM e => by
    have h1 := s.ha N hM
    rw [e, s.ha N₀ hN] at h1
    unfold ndObj at h1
    simp at h1
    exact h1.2.1.symm
  have uniq : ∀ N ∈ S.nodes, N.name = N₀.name → N = N₀ := fun N hM e => by
    have : ∀ (ns : List Nd), (ns.map (·.name)).Nodup → N ∈ ns → N₀ ∈ ns → N = N₀ := by
      intro ns
      induction ns with
      | nil => intro _ h; cases h
      | cons M ns ih =>
        intro hd h1 h2
        rw [List.map_cons, List.nodup_cons] at hd
        rcases List.mem_cons.mp h1 with k1 | k1
        · rcases List.mem_cons.mp h2 with k2 | k2
          · rw [k1, k2]
          · exact absurd (List.mem_map.mpr ⟨N₀, k2, by rw [← e, k1]⟩) hd.1
        · rcases List.mem_cons.mp h2 with k2 | k2
          · exact absurd (List.mem_map.mpr ⟨N, k1, by rw [e, k2]⟩) hd.1
          · exact ih hd.2 k1 k2
    exact this S.nodes s.nodup hM hN
  refine ⟨fun hs => ?_, fun hp => ?_⟩
  · have ne : ∀ {y : Addr} {X : AO}, h y = some X → (∀ C d vs, X ≠ .slotted C d vs) → y ≠ R.a N₀.name := fun {y X} e k q => by
      subst q; rw [s.ha N₀ hN] at e; cases e; exact k _ _ _ rfl
    refine ⟨(HP.set_ne (ne s.hx (by intros; simp))).trans s.hx, (HP.set_ne (ne s.hd (by intros; simp))).trans s.hd, ?_, ?_, ?_, ?_, ?_, ?_, ?_⟩
    · show _ = some (AO.dict (ndDict R (updN _ _ _)))
      rw [updN_dict hf]; exact (HP.set_ne (ne s.hnd (by intros; simp))).trans s.hnd
    · intro M hM
      obtain ⟨N, hN', e⟩ := updN_mem hM
      by_cases q : N.name = N₀.name
      · rw [if_pos q] at e
        obtain rfl := uniq N hN' q
        subst e
        rw [hf N, HP.set_self]
      · rw [if_neg q] at e; subst e
        rw [HP.set_ne fun e => q (aa M hN' e)]; exact s.ha M hN'
    · intro M hM
      obtain ⟨N, hN', e⟩ := updN_mem hM
      have en : M.name = N.name := by subst e; split <;> simp [hf]
      rw [en]; exact (HP.set_ne (ne (s.hb N hN') (by intros; simp))).trans (s.hb N hN')
    · intro M hM
      obtain ⟨N, hN', e⟩ := updN_mem hM
      have en : M.name = N.name ∧ M.succ = N.succ := by subst e; split <;> simp [hf, hs]
      rw [en.1, en.2]; exact (HP.set_ne (ne (s.hc N hN') (by intros; simp))).trans (s.hc N hN')
    · intro M hM M' hM' e
      obtain ⟨N, hN', e1⟩ := updN_mem hM
      obtain ⟨N', hN'', e2⟩ := updN_mem hM'
      have en : M.name = N.name := by subst e1; split <;> simp [hf]
      have en' : M'.name = N'.name := by subst e2; split <;> simp [hf]
      rw [en, en'] at e ⊢; exact s.inj N hN' N' hN'' e
    · intro l hl
      refine ⟨(HP.set_ne (ne (s.hr l hl).1 (by intros; simp))).trans (s.hr l hl).1, fun M hM => ?_⟩
      obtain ⟨N, hN', e1⟩ := updN_mem hM
      have en : M.name = N.name := by subst e1; split <;> simp [hf]
      rw [en]; exact (s.hr l hl).2 N hN'
    · show ((updN _ _ _).map _).Nodup
      rw [updN_names hf]; exact s.nodup
  · have ne : ∀ {y : Addr} {X : AO}, h y = some X → (∀ vs, X ≠ .list vs) → y ≠ R.c N₀.name := fun {y X} e k q => by
      subst q; rw [s.hc N₀ hN] at e; cases e; exact k _ rfl
    refine ⟨(HP.set_ne (ne s.hx (by intros; simp))).trans s.hx, (HP.set_ne (ne s.hd (by intros; simp))).trans s.hd, ?_, ?_, ?_, ?_, ?_, ?_, ?_⟩
    · show _ = some (AO.dict (ndDict R (updN _ _ _)))
      rw [updN_dict hf]; exact (HP.set_ne (ne s.hnd (by intros; simp))).trans s.hnd
    · intro M hM
      obtain ⟨N, hN', e⟩ := updN_mem hM
      have en : M.name = N.name ∧ M.np = N.np := by subst e; split <;> simp [hf, hp]
      have eo : ndObj R M = ndObj R N := by unfold ndObj; rw [en.1, en.2]
      rw [eo, en.1]; exact (HP.set_ne (ne (s.ha N hN') (by unfold ndObj; intros; simp))).trans (s.ha N hN')
    · intro M hM
      obtain ⟨N, hN', e⟩ := updN_mem hM
      have en : M.name = N.name := by subst e; split <;> simp [hf]
      rw [en]; exact (HP.set_ne (ne (s.hb N hN') (by intros; simp))).trans (s.hb N hN')
    · intro M hM
      obtain ⟨N, hN', e⟩ := updN_mem hM
      by_cases q : N.name = N₀.name
      · rw [if_pos q] at e
        obtain rfl := uniq N hN' q
        subst e
        rw [hf N, HP.set_self]
      · rw [if_neg q] at e; subst e
        rw [HP.set_ne fun e => q (s.inj M hN' N₀ hN e)]; exact s.hc M hN'
    · intro M hM M' hM' e
      obtain ⟨N, hN', e1⟩ := updN_mem hM
      obtain ⟨N', hN'', e2⟩ := updN_mem hM'
      have en : M.name = N.name := by subst e1; split <;> simp [hf]
      have en' : M'.name = N'.name := by subst e2; split <;> simp [hf]
      rw [en, en'] at e ⊢; exact s.inj N hN' N' hN'' e
    · intro l hl
      refine ⟨(HP.set_ne fun e => (s.hr l hl).2 N₀ hN e.symm).trans (s.hr l hl).1, fun M hM => ?_⟩
      obtain ⟨N, hN', e1⟩ := updN_mem hM
      have en : M.name = N.name := by subst e1; split <;> simp [hf]
      rw [en]; exact (s.hr l hl).2 N hN'
    · show ((updN _ _ _).map _).Nodup
      rw [updN_names hf]; exact s.nodup
theorem Foot.a {N : Nd} (h : N ∈ S.nodes) : Foot x S R (R.a N.name) := .inr (.inr (.inr (.inr ⟨N, h, .inl rfl⟩)))
theorem Foot.c {N : Nd} (h : N ∈ S.nodes) : Foot x S R (R.c N.name) := .inr (.inr (.inr (.inr ⟨N, h, .inr (.inr rfl)⟩)))
theorem Foot.d : Foot x S R R.d := .inr (.inl rfl)
theorem Foot.rl {l : List PySem.Str} (h : S.ready = some l) : Foot x S R R.rl := .inr (.inr (.inr (.inl ⟨l, h, rfl⟩)))
theorem SortIn.setNp (s : SortIn base h x S R) {N : Nd} {v : Int} (hN : N ∈ S.nodes) : SortIn base (h.set (R.a N.name) (.slotted 40 (R.b N.name) [some (.str N.name), some (.int v), some (.ref (R.c N.name))])) x (S.upd N.name fun N => { N with np := v }) R :=
  ⟨s.sub.setN (s.sep _ (Foot.a hN)), (s.at_.node (f := fun N => { N with np := v }) hN fun V => rfl).1 fun V => rfl, fun y f => s.sep y ((Foot.upd (f := fun N => { N with np := v }) fun V => rfl).mp f)⟩
theorem SortIn.addSucc (s : SortIn base h x S R) {N : Nd} {k : PySem.Str} (hN : N ∈ S.nodes) : SortIn base (h.set (R.c N.name) (.list (strsA (N.succ ++ [k])))) x (S.upd N.name fun N => { N with succ := N.succ ++ [k] }) R :=
  ⟨s.sub.setN (s.sep _ (Foot.c hN)), (s.at_.node (f := fun N => { N with succ := N.succ ++ [k] }) hN fun V => rfl).2 fun V => rfl, fun y f => s.sep y ((Foot.upd (f := fun N => { N with succ := N.succ ++ [k] }) fun V => rfl).mp f)⟩
/-- the counters -/
theorem SortIn.setPF (s : SortIn base h x S R) {p f : Int} : SortIn base (h.set R.d (.ns (sAttrs R.nd (rdyV S.ready R.rl) p f))) x { S with passed := p, fin := f } R := by
  have ne : ∀ {y : Addr} {X : AO}, h y = some X → X ≠ .ns (sAttrs R.nd (rdyV S.ready R.rl) S.passed S.fin) → y ≠ R.d := fun {y X} e k q => by
    subst q; rw [s.at_.hd] at e; cases e; exact k rfl
  refine ⟨s.sub.setN (s.sep _ Foot.d), ⟨(HP.set_ne (ne s.at_.hx (by simp))).trans s.at_.hx, HP.set_self _ _ _, (HP.set_ne (ne s.at_.hnd (by simp))).trans s.at_.hnd, fun N hN => (HP.set_ne (ne (s.at_.ha N hN) (by simp [ndObj]))).trans (s.at_.ha N hN),
    fun N hN => (HP.set_ne (ne (s.at_.hb N hN) (by simp [sAttrs]))).trans (s.at_.hb N hN), fun N hN => (HP.set_ne (ne (s.at_.hc N hN) (by simp))).trans (s.at_.hc N hN), s.at_.inj, fun l hl => ⟨(HP.set_ne (ne (s.at_.hr l hl).1 (by simp))).trans (s.at_.hr l hl).1, (s.at_.hr l hl).2⟩, s.at_.nodup⟩, s.sep⟩
/-- the list of those that are ready -/
theorem SortIn.setRl (s : SortIn base h x S R) {l l' : List PySem.Str} (hl : S.ready = some l) : SortIn base (h.set R.rl (.list (strsA l'))) x { S with ready := some l' } R := by
  have ne : ∀ {y : Addr} {X : AO}, h y = some X → (∀ vs, X ≠ .list vs) → y ≠ R.rl := fun {y X} e k q => by
    subst q; rw [(s.at_.hr l hl).1] at e; cases e; exact k _ rfl
  have hrd : rdyV (some l') R.rl = rdyV S.ready R.rl := by rw [hl]; rfl
  refine ⟨s.sub.setN (s.sep _ (Foot.rl hl)), ⟨(HP.set_ne (ne s.at_.hx (by simp))).trans s.at_.hx, ?_, (HP.set_ne (ne s.at_.hnd (by simp))).trans s.at_.hnd, fun N hN => (HP.set_ne (ne (s.at_.ha N hN) (by simp [ndObj]))).trans (s.at_.ha N hN),
    fun N hN => (HP.set_ne (ne (s.at_.hb N hN) (by simp))).trans (s.at_.hb N hN), fun N hN => (HP.set_ne fun e => (s.at_.hr l hl).2 N hN e).trans (s.at_.hc N hN), s.at_.inj, fun l₂ hl₂ => ?_, s.at_.nodup⟩, fun y f => s.sep y ?_⟩
  · show _ = some (AO.ns (sAttrs _ (rdyV (some l') R.rl) _ _))
    rw [hrd]; exact (HP.set_ne (ne s.at_.hd (by simp))).trans s.at_.hd
  · cases hl₂; exact ⟨HP.set_self _ _ _, (s.at_.hr l hl).2⟩
  · rcases f with f | f | f | ⟨l₂, _, f⟩ | f
    · exact .inl f
    · exact .inr (.inl f)
    · exact .inr (.inr (.inl f))
    · exact .inr (.inr (.inr (.inl ⟨l, hl, f⟩)))
    · exact .inr (.inr (.inr (.inr f)))
end
end Mine
end
section
open PySem PySem.W PySem.Calls PyProof.Rows
namespace Mine
section
variable {g : Gd} {n : Nat} {env : Env} {L : Addr} {loc : Loc} {hp : HP} {nms : List (PySem.Str × NameKind)} {cs : List (PySem.Str × Addr)}
/-- a class of the text, called by its name -/
theorem NW_ {x : PySem.Str} {C : Addr} {p pos : Pos} {e : PySem.Expr} {es : List PySem.Expr} {Q : AV → Loc → HP → Prop} (F : FEnv env nms cs) (G : Gnd g) (hn : nsIn (myK g.w.params) mainGlobals x = some (some (.ref C))) (hkp : keepIn (myK g.w.params) (.ref C) = true)
    (hl : nms.lookup x = some .globalImplicit) (hd : (x == ("__debug__" : PySem.Str)) = false) (he : starEach (e :: es) env = (false, eval e env) :: starEach es env) (hplain : (backTo pos (starEach es env)).any (·.1) = false)
    (h : ES g n env pos (e :: es) loc hp fun xs l h => ∀ vs, Vs xs vs → WB g n env.locals (call (.ref C) vs) l h AV.Is Q) : EV g n env (.Call (.Name x p) (e :: es) [] pos) loc hp Q := by
  intro A E h₀ s c y
  refine Call_Name rfl ?_
  obtain ⟨mg, mb, T⟩ := G.top
  refine Name_function_global F.kind ((F.look x).trans hl) (loadGlobal_global (env := env) (by rw [F.glob]; exact T.g.keeps (stays c y)) (mg_of G.kin T.g hn) ?_) hd
  refine callWith_K (G.kin.keeps (stays c y)) hkp (wpAny_mono (h A E h₀ s c y) (fun vs s₁ hh => ?_) fun V V e => e) he hplain
  refine out3 hh fun xs l h' r y' q => ?_
  exact ⟨G.kin.keeps (stays c y'), q vs r A E h₀ s₁ c y'⟩
theorem NW0_ {x : PySem.Str} {C : Addr} {p pos : Pos} {Q : AV → Loc → HP → Prop} (F : FEnv env nms cs) (G : Gnd g) (hn : nsIn (myK g.w.params) mainGlobals x = some (some (.ref C))) (hkp : keepIn (myK g.w.params) (.ref C) = true)
    (hl : nms.lookup x = some .globalImplicit) (hd : (x == ("__debug__" : PySem.Str)) = false)
    (h : WB g n env.locals (call (.ref C) []) loc hp AV.Is Q) : EV g n env (.Call (.Name x p) [] [] pos) loc hp Q := by
  intro A E h₀ s c y
  refine Call_Name (trees := backTo pos (starEach [] env)) rfl ?_
  obtain ⟨mg, mb, T⟩ := G.top
  refine Name_function_global F.kind ((F.look x).trans hl) (loadGlobal_global (env := env) (by rw [F.glob]; exact T.g.keeps (stays c y)) (mg_of G.kin T.g hn) ?_) hd
  exact callWith_K0 (G.kin.keeps (stays c y)) hkp (h A E h₀ s c y)
end
theorem keep40 (P : Params) : keepIn (myK P) (.ref 40) = true := by kernel_rfl
theorem keep137 (P : Params) : keepIn (myK P) (.ref 137) = true := by kernel_rfl
noncomputable def SS.names (S : SS) : List PySem.Str := S.nodes.map (·.name)
/-- with a node of that name -/
noncomputable def SS.touch (S : SS) (k : PySem.Str) : SS := if k ∈ S.names then S else { S with nodes := S.nodes ++ [⟨k, 0, []⟩] }
noncomputable def upA (f : PySem.Str → Addr) (k : PySem.Str) (a : Addr) : PySem.Str → Addr := fun z => if z = k then a else f z
theorem upA_self (f : PySem.Str → Addr) (k : PySem.Str) (a : Addr) : upA f k a k = a := if_pos rfl
theorem upA_ne {f : PySem.Str → Addr} {k z : PySem.Str} {a : Addr} (h : z ≠ k) : upA f k a z = f z := if_neg h
section
variable {h h' base : HP} {x : Addr} {S : SS} {R : SR}
theorem SortIn.newNode (s : SortIn base h x S R) {k : PySem.Str} {A B C : Addr} (hk : k ∉ S.names) (hA : h A = none) (hB : h B = none) (hC : h C = none) (hAB : A ≠ B) (hAC : A ≠ C) (hBC : B ≠ C)
    (eA : h' A = some (.slotted 40 B [some (.str k), some (.int 0), some (.ref C)])) (eB : h' B = some (.ns [])) (eC : h' C = some (.list [])) (eN : h' R.nd = some (.dict (ndDict R S.nodes ++ [(k, .ref A)])))
    (eO : ∀ y, y ≠ A → y ≠ B → y ≠ C → y ≠ R.nd → h' y = h y) : SortIn base h' x { S with nodes := S.nodes ++ [⟨k, 0, []⟩] } { R with a := upA R.a k A, b := upA R.b k B, c := upA R.c k C } := by
  have kn : ∀ N ∈ S.nodes, N.name ≠ k := fun N hN e => hk (by rw [← e]; exact List.mem_map.mpr ⟨N, hN, rfl⟩)
  have old : ∀ y X, h y = some X → (∀ es, X ≠ .dict es) → h' y = some X := fun y X e k => by
    rw [eO y (by rintro rfl; rw [hA] at e; cases e) (by rintro rfl; rw [hB] at e; cases e) (by rintro rfl; rw [hC] at e; cases e) (by rintro rfl; rw [s.at_.hnd] at e; cases e; exact k _ rfl)]; exact e
  have nx : ∀ {y X}, h y = some X → y ≠ A ∧ y ≠ B ∧ y ≠ C := fun {y X} e => ⟨(by rintro rfl; rw [hA] at e; cases e), (by rintro rfl; rw [hB] at e; cases e), (by rintro rfl; rw [hC] at e; cases e)⟩
  have mem : ∀ {P : Nd → Prop}, (∀ N ∈ S.nodes, P N) → P ⟨k, 0, []⟩ → ∀ N ∈ S.nodes ++ [⟨k, 0, []⟩], P N := fun {P} p q N hN => by
    rcases List.mem_append.mp hN with h | h
    · exact p N h
    · rw [List.mem_singleton.mp h]; exact q
  refine ⟨fun y X e => ?_, ⟨old _ _ s.at_.hx (by simp), old _ _ s.at_.hd (by simp), ?_, mem (fun N hN => ?_) ?_, mem (fun N hN => ?_) ?_, mem (fun N hN => ?_) ?_, ?_, fun l hl => ⟨old _ _ (s.at_.hr l hl).1 (by simp), mem (fun N hN => ?_) ?_⟩, ?_⟩, fun y f => ?_⟩
  · have e' := s.sub _ _ e
    have hnf : ¬ Foot x S R y := s.notFoot e
    rw [eO y (nx e').1 (nx e').2.1 (nx e').2.2 (by rintro rfl; exact hnf (.inr (.inr (.inl rfl))))]; exact e'
  · show h' R.nd = some (AO.dict (ndDict _ (S.nodes ++ _)))
    rw [eN]; unfold ndDict; rw [List.map_append]
    congr 3
    · exact List.map_congr_left fun N hN => by show _ = (N.name, AV.ref (upA R.a k A N.name)); rw [upA_ne (kn N hN)]
    · show _ = [(k, AV.ref (upA R.a k A k))]; rw [upA_self]
  · show h' (upA R.a k A N.name) = some (AO.slotted 40 (upA R.b k B N.name) [_, _, some (.ref (upA R.c k C N.name))])
    rw [upA_ne (kn N hN), upA_ne (kn N hN), upA_ne (kn N hN)]; exact old _ _ (s.at_.ha N hN) (by simp)
  · show h' (upA R.a k A k) = some (AO.slotted 40 (upA R.b k B k) [_, _, some (.ref (upA R.c k C k))])
    rw [upA_self, upA_self, upA_self]; exact eA
  · show h' (upA R.b k B N.name) = _
    rw [upA_ne (kn N hN)]; exact old _ _ (s.at_.hb N hN) (by simp)
  · show h' (upA R.b k B k) = _
    rw [upA_self]; exact eB
  · show h' (upA R.c k C N.name) = _
    rw [upA_ne (kn N hN)]; exact old _ _ (s.at_.hc N hN) (by simp)
  · show h' (upA R.c k C k) = _
    rw [upA_self]; exact eC
  · refine mem (fun N hN => mem (fun M hM e => ?_) (fun e => ?_)) (mem (fun M hM e => ?_) (fun e => rfl))
    · replace e : upA R.c k C N.name = upA R.c k C M.name := e
      rw [upA_ne (kn N hN), upA_ne (kn M hM)] at e; exact s.at_.inj N hN M hM e
    · replace e : upA R.c k C N.name = upA R.c k C k := e
      rw [upA_ne (kn N hN), upA_self] at e; exact absurd e (nx (s.at_.hc N hN)).2.2
    · replace e : upA R.c k C k = upA R.c k C M.name := e
      rw [upA_ne (kn M hM), upA_self] at e; exact absurd e.symm (nx (s.at_.hc M hM)).2.2
  · show upA R.c k C N.name ≠ _
    rw [upA_ne (kn N hN)]; exact (s.at_.hr l hl).2 N hN
  · show upA R.c k C k ≠ _
    rw [upA_self]; exact (nx (s.at_.hr l hl).1).2.2.symm
  · show ((S.nodes ++ [_]).map _).Nodup
    rw [List.map_append, List.nodup_append]
    refine ⟨s.at_.nodup, by simp, ?_⟩
    intro z hz z' hz' e
    subst e
    simp at hz'
    subst hz'
    exact hk hz
  · have bn : ∀ z, h z = none → base z = none := fun z e => s.sub.non e
    rcases f with f | f | f | f | ⟨N, hN, f⟩
    · exact s.sep y (.inl f)
    · exact s.sep y (.inr (.inl f))
    · exact s.sep y (.inr (.inr (.inl f)))
    · exact s.sep y (.inr (.inr (.inr (.inl f))))
    · revert f
      refine mem (P := fun N => (y = upA R.a k A N.name ∨ y = upA R.b k B N.name ∨ y = upA R.c k C N.name) → base y = none) (fun N hN f => ?_) (fun f => ?_) N hN
      · rw [upA_ne (kn N hN), upA_ne (kn N hN), upA_ne (kn N hN)] at f
        exact s.sep y (.inr (.inr (.inr (.inr ⟨N, hN, f⟩))))
      · rw [upA_self, upA_self, upA_self] at f
        rcases f with rfl | rfl | rfl
        · exact bn _ hA
        · exact bn _ hB
        · exact bn _ hC
/-- the ready list comes -/
theorem SortIn.newReady (s : SortIn base h x S R) {rl : Addr} {l : List PySem.Str} (hrl : h rl = none) :
    SortIn base ((h.set rl (.list (strsA l))).set R.d (.ns (sAttrs R.nd (.ref rl) S.passed S.fin))) x { S with ready := some l } { R with rl := rl } := by
  have ne : ∀ {y : Addr} {X : AO}, h y = some X → y ≠ rl := fun {y X} e q => by subst q; rw [hrl] at e; cases e
  have ne2 : ∀ {y : Addr} {X : AO}, h y = some X → X ≠ .ns (sAttrs R.nd (rdyV S.ready R.rl) S.passed S.fin) → y ≠ R.d := fun {y X} e k q => by
    subst q; rw [s.at_.hd] at e; cases e; exact k rfl
  have old : ∀ {y X}, h y = some X → X ≠ .ns (sAttrs R.nd (rdyV S.ready R.rl) S.passed S.fin) → ((h.set rl (.list (strsA l))).set R.d (.ns (sAttrs R.nd (.ref rl) S.passed S.fin))) y = some X := fun {y X} e k => by
    rw [HP.set_ne (ne2 e k), HP.set_ne (ne e)]; exact e
  refine ⟨fun y X e => ?_, ⟨old s.at_.hx (by simp), HP.set_self _ _ _, old s.at_.hnd (by simp), fun N hN => old (s.at_.ha N hN) (by simp [ndObj]), fun N hN => old (s.at_.hb N hN) (by simp [sAttrs]), fun N hN => old (s.at_.hc N hN) (by simp), s.at_.inj, fun l' hl' => ?_, s.at_.nodup⟩, fun y f => ?_⟩
  · have e' := s.sub _ _ e
    rw [HP.set_ne (by rintro rfl; exact s.notFoot e Foot.d), HP.set_ne (ne e')]; exact e'
  · cases hl'
    exact ⟨by rw [HP.set_ne (ne s.at_.hd).symm, HP.set_self], fun N hN => ne (s.at_.hc N hN)⟩
  · rcases f with f | f | f | ⟨_, _, f⟩ | f
    · exact s.sep y (.inl f)
    · exact s.sep y (.inr (.inl f))
    · exact s.sep y (.inr (.inr (.inl f)))
    · subst f; exact s.sub.non hrl
    · exact s.sep y (.inr (.inr (.inr (.inr f))))
theorem SS.touch_mem (S : SS) (k : PySem.Str) : ∃ N ∈ (S.touch k).nodes, N.name = k := by
  unfold SS.touch
  by_cases h : k ∈ S.names
  · rw [if_pos h]; obtain ⟨N, hN, e⟩ := List.mem_map.mp h; exact ⟨N, hN, e⟩
  · rw [if_neg h]; exact ⟨⟨k, 0, []⟩, by simp, rfl⟩
theorem SS.touch_ready (S : SS) (k : PySem.Str) : (S.touch k).ready = S.ready := by unfold SS.touch; split <;> rfl
theorem SS.touch_len (S : SS) (k : PySem.Str) : (S.touch k).nodes.length ≤ S.nodes.length + 1 := by unfold SS.touch; split <;> simp
end
end Mine
end
section
open PySem PySem.W PySem.Calls PyProof.Rows
namespace Mine
section
variable {g : Gd} {n : Nat} {env : Env} {loc : Loc} {hp : HP}
theorem EX_ForL {x : PySem.Str} {px pos : Pos} {iter : PySem.Expr} {body : List Stmt} {Q : AF → Loc → HP → Prop} 
    (h : EV g n env iter loc hp fun a l₁ h₁ => ∃ hp₂ xs back, Src g a h₁ hp₂ xs back ∧ ∃ J : Nat → Loc → HP → Prop, J 0 l₁ hp₂ ∧
      (∀ i v l h, xs[i]? = some v → J i l h → Lent h₁ hp₂ h → ∀ u, v.Is u → UN g n env.locals (storeName env x u) l h fun l h => XS g n env body l h (OnF (J (i + 1)))) ∧
      (∀ l h, J xs.length l h → Lent h₁ hp₂ h → Q .next l (back h)))
    (hs : ∀ x, foldedSetIterable iter env x = pure x) (hg : g.hn = true := by first | with_reducible assumption | exact Gnd.hn (by with_reducible assumption)) : EX g n env (.For (.Name x px) iter body [] pos) loc hp Q :=
  EX_ForG (WB.mono h fun V V V ⟨hp₂, xs, back, S, J, h0, step, fin⟩ => ⟨hp₂, xs, back, S, J, h0, fun i v l h a b c u hu => WB.mono (step i v l h a b c u hu) fun V V V x => WB.mono x fun f V V y => (by cases f <;> first | exact y | exact y.elim), fin⟩) hs hg
end
section
variable {h h' base : HP} {x : Addr} {S : SS} {R : SR}
theorem SortAt.sub (s : SortAt h x S R) (k : h.Sub h') : SortAt h' x S R := s.congr fun y f => by obtain ⟨X, e⟩ := s.there f; rw [e, k _ _ e]
theorem SortIn.sub' (s : SortIn base h x S R) (k : h.Sub h') : SortIn base h' x S R := ⟨s.sub.trans k, s.at_.sub k, s.sep⟩
/-- something that nobody minds is taken away -/
theorem SortIn.drop (s : SortIn base h x S R) {y : Addr} (e : base y = none) (f : ¬ Foot x S R y) : SortIn base (h.del y) x S R := ⟨s.sub.del e, s.at_.del f, s.sep⟩
theorem updN_congr {k : PySem.Str} {f f' : Nd → Nd} {ns : List Nd} (h : ∀ N ∈ ns, N.name = k → f N = f' N) : updN k f ns = updN k f' ns := by
  unfold updN
  refine List.map_congr_left fun N hN => ?_
  split
  · exact h N hN (by assumption)
  · rfl
theorem SortAt.uniq (s : SortAt h x S R) {N M : Nd} (hN : N ∈ S.nodes) (hM : M ∈ S.nodes) (e : N.name = M.name) : N = M := by
  have : ∀ (ns : List Nd), (ns.map (·.name)).Nodup → N ∈ ns → M ∈ ns → N = M := by
    intro ns
    induction ns with
    | nil => intro _ h; cases h
    | cons K ns ih =>
      intro hd h1 h2
      rw [List.map_cons, List.nodup_cons] at hd
      rcases List.mem_cons.mp h1 with k1 | k1
      · rcases List.mem_cons.mp h2 with k2 | k2
        · rw [k1, k2]
        · exact absurd (List.mem_map.mpr ⟨M, k2, by rw [← e, k1]⟩) hd.1
      · rcases List.mem_cons.mp h2 with k2 | k2
        · exact absurd (List.mem_map.mpr ⟨N, k1, by rw [e, k2]⟩) hd.1
        · exact ih hd.2 k1 k2
  exact this S.nodes s.nodup hN hM
end
end Mine
end
section
open PySem PySem.W PySem.Calls PyProof.Rows
namespace Mine
/-- a frame of the search: its node, how far its iterator is, the bound __next__ and the iterator -/
structure Fr' where
  nm : PySem.Str
  i : Nat
  m : Addr
  I : Addr
noncomputable def stkD (ns : List PySem.Str) : Loc := ns.zipIdx.map fun p => (p.1, .int (p.2 : Int))
theorem stkD_snoc (ns : List PySem.Str) (x : PySem.Str) : stkD (ns ++ [x]) = stkD ns ++ [(x, .int (ns.length : Int))] := by
  unfold stkD; rw [List.zipIdx_append]; simp
theorem stkD_keys (ns : List PySem.Str) : (stkD ns).map (·.1) = ns := by
  have : ∀ (ns : List PySem.Str) (k : Nat), ((ns.zipIdx k).map fun p => (p.1, AV.int (p.2 : Int))).map (·.1) = ns := by
    intro ns
    induction ns with
    | nil => intro k; rfl
    | cons a ns ih => intro k; simp only [List.zipIdx_cons, List.map_cons]; rw [ih (k + 1)]
  exact this ns 0
theorem stkD_any (ns : List PySem.Str) (x : PySem.Str) : (stkD ns).any (fun p => p.1 = x) = decide (x ∈ ns) := by
  have h := stkD_keys ns
  rw [Bool.eq_iff_iff, List.any_eq_true]
  simp only [decide_eq_true_eq]
  constructor
  · rintro ⟨p, hp, e⟩; rw [← h, ← e]; exact List.mem_map.mpr ⟨p, hp, rfl⟩
  · intro hx; rw [← h] at hx; obtain ⟨p, hp, e⟩ := List.mem_map.mp hx; exact ⟨p, hp, e⟩
theorem stkD_none {ns : List PySem.Str} {x : PySem.Str} (h : x ∉ ns) : lk x (stkD ns) = none := lk_none_any (by rw [stkD_any]; simp [h])
theorem stkD_some {ns : List PySem.Str} {x : PySem.Str} (h : x ∈ ns) : ∃ v, lk x (stkD ns) = some v := Option.isSome_iff_exists.mp (lk_some_any (by rw [stkD_any]; simp [h]))
theorem stkD_store {ns : List PySem.Str} {x : PySem.Str} (h : x ∉ ns) : dstore (stkD ns) x (.int (ns.length : Int)) = stkD (ns ++ [x]) := by
  unfold dstore; rw [stkD_any, if_neg (by simp [h]), stkD_snoc]
theorem stkD_without {ns : List PySem.Str} {x : PySem.Str} (h : x ∉ ns) : dwithout (stkD (ns ++ [x])) x = stkD ns := by
  unfold dwithout
  rw [stkD_snoc, List.filter_append]
  have h1 : [(x, AV.int (ns.length : Int))].filter (fun p => decide (p.1 ≠ x)) = [] := by simp
  rw [h1, List.append_nil, List.filter_eq_self]
  intro p hp
  simp only [decide_eq_true_eq]
  intro e
  exact h (by rw [← e, ← stkD_keys ns]; exact List.mem_map.mpr ⟨p, hp, rfl⟩)
noncomputable def scOf (S : SS) (k : PySem.Str) : List PySem.Str := ((S.nodes.find? fun N => N.name = k).map (·.succ)).getD []
theorem find_nd {ns : List Nd} (hd : (ns.map (·.name)).Nodup) {N : Nd} (hN : N ∈ ns) : (ns.find? fun M => M.name = N.name) = some N := by
  induction ns with
  | nil => cases hN
  | cons K ns ih =>
    rw [List.map_cons, List.nodup_cons] at hd
    rcases List.mem_cons.mp hN with rfl | h
    · simp
    · rw [List.find?_cons_of_neg]
      · exact ih hd.2 h
      · simp; intro e; exact hd.1 (by rw [e]; exact List.mem_map.mpr ⟨N, h, rfl⟩)
theorem scOf_mem {S : SS} (hd : (S.nodes.map (·.name)).Nodup) {N : Nd} (hN : N ∈ S.nodes) : scOf S N.name = N.succ := by
  unfold scOf; rw [find_nd hd hN]; rfl
/-- how much is left to do -/
noncomputable def mu (S : SS) (fr : List Fr') (ks : List PySem.Str) : Nat :=
  ((S.names.filter fun u => decide (u ∉ ks)).map fun u => 2 * (scOf S u).length + 3).sum + (fr.map fun f => 2 * ((scOf S f.nm).length - f.i) + 1).sum
theorem sum_out (w : PySem.Str → Nat) (u : PySem.Str) (ks : List PySem.Str) (hk : u ∉ ks) : ∀ (L : List PySem.Str), L.Nodup → u ∈ L → ((L.filter fun z => decide (z ∉ ks)).map w).sum = ((L.filter fun z => decide (z ∉ u :: ks)).map w).sum + w u
  | a :: L, hd, hu => by
    rw [List.nodup_cons] at hd
    by_cases e : a = u
    · subst e
      have h1 : (L.filter fun z => decide (z ∉ ks)) = L.filter fun z => decide (z ∉ a :: ks) := by
        refine List.filter_congr fun z hz => ?_
        have : z ≠ a := by rintro rfl; exact hd.1 hz
        simp [this]
      rw [List.filter_cons_of_pos (by simp [hk]), List.filter_cons_of_neg (by simp), List.map_cons, List.sum_cons, h1]; omega
    · have hu' : u ∈ L := by
        rcases List.mem_cons.mp hu with h | h
        · exact absurd h.symm e
        · exact h
      have ih := sum_out w u ks hk L hd.2 hu'
      by_cases ha : a ∈ ks
      · rw [List.filter_cons_of_neg (by simp [ha]), List.filter_cons_of_neg (by simp [ha])]; exact ih
      · rw [List.filter_cons_of_pos (by simp [ha]), List.filter_cons_of_pos (by simp [ha, e]), List.map_cons, List.map_cons, List.sum_cons, List.sum_cons, ih]; omega
theorem mu_push {S : SS} {fr : List Fr'} {ks : List PySem.Str} {u : PySem.Str} {m I : Addr} (hd : S.names.Nodup) (hu : u ∈ S.names) (hk : u ∉ ks) : mu S (fr ++ [⟨u, 0, m, I⟩]) (u :: ks) < mu S fr ks := by
  unfold mu
  rw [sum_out (fun u => 2 * (scOf S u).length + 3) u ks hk S.names hd hu, List.map_append, List.sum_append]
  simp only [List.map_cons, List.map_nil, List.sum_cons, List.sum_nil]
  omega
theorem mu_next {S : SS} {fr : List Fr'} {ks : List PySem.Str} {u : PySem.Str} {i : Nat} {m I : Addr} (hi : i < (scOf S u).length) : mu S (fr ++ [⟨u, i + 1, m, I⟩]) ks < mu S (fr ++ [⟨u, i, m, I⟩]) ks := by
  unfold mu
  rw [List.map_append, List.map_append, List.sum_append, List.sum_append]
  simp only [List.map_cons, List.map_nil, List.sum_cons, List.sum_nil]
  omega
theorem mu_pop {S : SS} {fr : List Fr'} {ks : List PySem.Str} {f : Fr'} : mu S fr ks < mu S (fr ++ [f]) ks := by
  unfold mu
  rw [List.map_append, List.sum_append]
  simp only [List.map_cons, List.map_nil, List.sum_cons, List.sum_nil]
  omega
theorem liO_inj {l l' : Addr} {i i' : Nat} (h : liO l i = liO l' i') : l = l' ∧ i = i' := by
  unfold liO at h
  have h := AO.raw.inj h
  have := (congrFun h (liObj l i)).mp rfl
  unfold liObj at this
  simp at this
  exact ⟨this.1, by omega⟩
theorem liO_mwO {l I : Addr} {i : Nat} (h : liO l i = mwO I) : False := by
  unfold liO mwO at h
  have h := AO.raw.inj h
  have := (congrFun h (liObj l i)).mp rfl
  unfold liObj mwObj at this
  simp at this
/-- the search under way -/
structure FCI (HX : HP) (R : SR) (stk its seen n2s : Addr) (fr : List Fr') (ks : List PySem.Str) (h : HP) : Prop where
  sub : HX.Sub h
  hstk : h stk = some (.list (strsA (fr.map (·.nm))))
  hits : h its = some (.list (fr.map fun f => .ref f.m))
  hseen : h seen = some (.set ks)
  hn2s : h n2s = some (.dict (stkD (fr.map (·.nm))))
  hm : ∀ f ∈ fr, h f.m = some (mwO f.I) ∧ HX f.m = none
  hI : ∀ f ∈ fr, h f.I = some (liO (R.c f.nm) f.i) ∧ HX f.I = none
structure FCP (S : SS) (rk : PySem.Str → Nat) (fr : List Fr') (ks : List PySem.Str) : Prop where
  chain : (fr.map (·.nm)).Pairwise fun a b => rk a < rk b
  inS : ∀ f ∈ fr, f.nm ∈ ks
  ksS : ∀ k ∈ ks, k ∈ S.names
  ksn : ks.Nodup
theorem FCP.top {S : SS} {rk : PySem.Str → Nat} {fr : List Fr'} {f : Fr'} {ks : List PySem.Str} (p : FCP S rk (fr ++ [f]) ks) : FCP S rk fr ks ∧ (∀ z ∈ fr.map (·.nm), rk z < rk f.nm) ∧ f.nm ∉ fr.map (·.nm) := by
  refine withGoal fun goalX goalBack => ?_
  obtain ⟨a, b, c, d⟩ := p
  refine goalBack ?_
  clear goalBack goalX
  rw [List.map_append, List.pairwise_append] at a
  have h : ∀ z ∈ fr.map (·.nm), rk z < rk f.nm := fun z hz => a.2.2 z hz f.nm (by simp)
  exact ⟨⟨a.1, fun g hg => b g (List.mem_append_left _ hg), c, d⟩, h, fun hm => Nat.lt_irrefl _ (h _ hm)⟩
end Mine
end
section
open PySem PySem.W PySem.Calls PyProof.Rows
namespace Mine
section
variable {HX h h' : HP} {S : SS} {R : SR} {stk its seen n2s : Addr} {fr : List Fr'} {f : Fr'} {ks : List PySem.Str} {k : PySem.Str} {m I : Addr} {rk : PySem.Str → Nat}
theorem FCI.push (F : FCI HX R stk its seen n2s fr ks h) (hsi : stk ≠ its) (hXs : HX stk = none) (hXi : HX its = none) (hXe : HX seen = none) (hX2 : HX n2s = none) (hk : k ∉ fr.map (·.nm)) (hI : h I = none) (hm : h m = none) (hIm : I ≠ m) :
    FCI HX R stk its seen n2s (fr ++ [⟨k, 0, m, I⟩]) (k :: ks) ((((((h.set seen (.set (k :: ks))).set I (liO (R.c k) 0)).set m (mwO I)).set its (.list ((fr.map fun f => AV.ref f.m) ++ [.ref m]))).set n2s (.dict (dstore (stkD (fr.map (·.nm))) k (.int ((strsA (fr.map (·.nm))).length : Nat))))).set stk (.list (strsA (fr.map (·.nm)) ++ [.str k]))) := by
  have nI : ∀ {y X}, h y = some X → y ≠ I := fun {y X} e => by rintro rfl; rw [hI] at e; cases e
  have nm : ∀ {y X}, h y = some X → y ≠ m := fun {y X} e => by rintro rfl; rw [hm] at e; cases e
  have c1 : seen ≠ stk := by intro e; have h1 := F.hseen; rw [e, F.hstk] at h1; cases h1
  have c2 : seen ≠ its := by intro e; have h1 := F.hseen; rw [e, F.hits] at h1; cases h1
  have c3 : seen ≠ n2s := by intro e; have h1 := F.hseen; rw [e, F.hn2s] at h1; cases h1
  have c4 : n2s ≠ stk := by intro e; have h1 := F.hn2s; rw [e, F.hstk] at h1; cases h1
  have c5 : n2s ≠ its := by intro e; have h1 := F.hn2s; rw [e, F.hits] at h1; cases h1
  have hlen : ((strsA (fr.map (·.nm))).length : Nat) = (fr.map (·.nm)).length := by simp [strsA]
  have raw : ∀ {y : Addr} {P : Obj → Prop}, h y = some (.raw P) → y ≠ seen ∧ y ≠ I ∧ y ≠ m ∧ y ≠ its ∧ y ≠ n2s ∧ y ≠ stk := fun {y P} e =>
    ⟨(by rintro rfl; rw [F.hseen] at e; cases e), nI e, nm e, (by rintro rfl; rw [F.hits] at e; cases e), (by rintro rfl; rw [F.hn2s] at e; cases e), (by rintro rfl; rw [F.hstk] at e; cases e)⟩
  have old : ∀ {y : Addr} {P : Obj → Prop}, h y = some (.raw P) → ((((((h.set seen (.set (k :: ks))).set I (liO (R.c k) 0)).set m (mwO I)).set its (.list ((fr.map fun f => AV.ref f.m) ++ [.ref m]))).set n2s (.dict (dstore (stkD (fr.map (·.nm))) k (.int ((strsA (fr.map (·.nm))).length : Nat))))).set stk (.list (strsA (fr.map (·.nm)) ++ [.str k]))) y = some (.raw P) := fun {y P} e => by
    refine withGoal fun goalX goalBack => ?_
    obtain ⟨a1, a2, a3, a4, a5, a6⟩ := raw e
    refine goalBack ?_
    clear goalBack goalX
    exact HP.set_of a6 (HP.set_of a5 (HP.set_of a4 (HP.set_of a3 (HP.set_of a2 (HP.set_of a1 e)))))
  refine ⟨?_, ?_, ?_, ?_, ?_, fun g hg => ?_, fun g hg => ?_⟩
  · exact (((((F.sub.setN hXe).setN (F.sub.non hI)).setN (F.sub.non hm)).setN hXi).setN hX2).setN hXs
  · rw [HP.set_self]; simp [strsA]
  · rw [HP.set_ne (Ne.symm hsi), HP.set_ne (Ne.symm c5), HP.set_self]; simp
  · rw [HP.set_ne c1, HP.set_ne c3, HP.set_ne c2, HP.set_ne (nm F.hseen), HP.set_ne (nI F.hseen), HP.set_self]
  · rw [HP.set_ne c4, HP.set_self, hlen, stkD_store hk, List.map_append]; rfl
  · rcases List.mem_append.mp hg with hg | hg
    · exact ⟨old (F.hm g hg).1, (F.hm g hg).2⟩
    · rw [List.mem_singleton.mp hg]
      refine ⟨?_, F.sub.non hm⟩
      exact HP.set_of (nm F.hstk).symm (HP.set_of (nm F.hn2s).symm (HP.set_of (nm F.hits).symm (HP.set_self _ _ _)))
  · rcases List.mem_append.mp hg with hg | hg
    · exact ⟨old (F.hI g hg).1, (F.hI g hg).2⟩
    · rw [List.mem_singleton.mp hg]
      refine ⟨?_, F.sub.non hI⟩
      exact HP.set_of (nI F.hstk).symm (HP.set_of (nI F.hn2s).symm (HP.set_of (nI F.hits).symm (HP.set_of hIm (HP.set_self _ _ _))))
theorem FCI.apart (F : FCI HX R stk its seen n2s (fr ++ [f]) ks h) (hinj : ∀ z ∈ fr.map (·.nm), R.c z = R.c f.nm → z = f.nm) (hk : f.nm ∉ fr.map (·.nm)) : (∀ g ∈ fr, g.m ≠ f.I ∧ g.I ≠ f.I) ∧ f.m ≠ f.I ∧ stk ≠ f.I ∧ its ≠ f.I ∧ seen ≠ f.I ∧ n2s ≠ f.I := by
  have hf : f ∈ fr ++ [f] := by simp
  have hI := (F.hI f hf).1
  refine ⟨fun g hg => ⟨fun e => ?_, fun e => ?_⟩, fun e => ?_, fun e => ?_, fun e => ?_, fun e => ?_, fun e => ?_⟩
  · have h1 := (F.hm g (List.mem_append_left _ hg)).1
    rw [e, hI] at h1; exact liO_mwO (Option.some.inj h1)
  · have h1 := (F.hI g (List.mem_append_left _ hg)).1
    rw [e, hI] at h1
    have hm : g.nm ∈ fr.map (·.nm) := List.mem_map.mpr ⟨g, hg, rfl⟩
    have := hinj g.nm hm (liO_inj (Option.some.inj h1)).1.symm
    exact hk (by rw [← this]; exact hm)
  · have h1 := (F.hm f hf).1
    rw [e, hI] at h1; exact liO_mwO (Option.some.inj h1)
  · have h1 := F.hstk; rw [e, hI] at h1; cases h1
  · have h1 := F.hits; rw [e, hI] at h1; cases h1
  · have h1 := F.hseen; rw [e, hI] at h1; cases h1
  · have h1 := F.hn2s; rw [e, hI] at h1; cases h1
theorem FCI.next (F : FCI HX R stk its seen n2s (fr ++ [f]) ks h) (hinj : ∀ z ∈ fr.map (·.nm), R.c z = R.c f.nm → z = f.nm) (hk : f.nm ∉ fr.map (·.nm)) : FCI HX R stk its seen n2s (fr ++ [⟨f.nm, f.i + 1, f.m, f.I⟩]) ks (h.set f.I (liO (R.c f.nm) (f.i + 1))) := by
  refine withGoal fun goalX goalBack => ?_
  obtain ⟨ap, a1, a2, a3, a4, a5⟩ := F.apart hinj hk
  refine goalBack ?_
  clear goalBack goalX
  have hf : f ∈ fr ++ [f] := by simp
  have e1 : (fr ++ [⟨f.nm, f.i + 1, f.m, f.I⟩] : List Fr').map (·.nm) = (fr ++ [f]).map (·.nm) := by simp
  have e2 : (fr ++ [⟨f.nm, f.i + 1, f.m, f.I⟩] : List Fr').map (fun f => AV.ref f.m) = (fr ++ [f]).map fun f => AV.ref f.m := by simp
  refine ⟨F.sub.setN (F.hI f hf).2, ?_, ?_, HP.set_of a4 F.hseen, ?_, fun g hg => ?_, fun g hg => ?_⟩
  · rw [e1]; exact HP.set_of a2 F.hstk
  · rw [e2]; exact HP.set_of a3 F.hits
  · rw [e1]; exact HP.set_of a5 F.hn2s
  · rcases List.mem_append.mp hg with hg | hg
    · exact ⟨HP.set_of (ap g hg).1 (F.hm g (List.mem_append_left _ hg)).1, (F.hm g (List.mem_append_left _ hg)).2⟩
    · rw [List.mem_singleton.mp hg]; exact ⟨HP.set_of a1 (F.hm f hf).1, (F.hm f hf).2⟩
  · rcases List.mem_append.mp hg with hg | hg
    · exact ⟨HP.set_of (ap g hg).2 (F.hI g (List.mem_append_left _ hg)).1, (F.hI g (List.mem_append_left _ hg)).2⟩
    · rw [List.mem_singleton.mp hg]; exact ⟨HP.set_self _ _ _, (F.hI f hf).2⟩
/-- the top's iterator is at its end: what remains -/
theorem FCI.ended (F : FCI HX R stk its seen n2s (fr ++ [f]) ks h) (hinj : ∀ z ∈ fr.map (·.nm), R.c z = R.c f.nm → z = f.nm) (hk : f.nm ∉ fr.map (·.nm)) (hs : (h.del f.I).Sub h') (hsi : stk ≠ its) (hXs : HX stk = none) (hXi : HX its = none) (hX2 : HX n2s = none) :
    h' stk = some (.list (strsA (fr.map (·.nm)) ++ [.str f.nm])) ∧ h' its = some (.list ((fr.map fun f => AV.ref f.m) ++ [.ref f.m])) ∧ h' n2s = some (.dict (stkD (fr.map (·.nm) ++ [f.nm]))) ∧
    FCI HX R stk its seen n2s fr ks (((h'.set stk (.list (strsA (fr.map (·.nm))))).set n2s (.dict (stkD (fr.map (·.nm))))).set its (.list (fr.map fun f => AV.ref f.m))) := by
  refine withGoal fun goalX goalBack => ?_
  obtain ⟨ap, a1, a2, a3, a4, a5⟩ := F.apart hinj hk
  refine goalBack ?_
  clear goalBack goalX
  have hf : f ∈ fr ++ [f] := by simp
  have old : ∀ {y X}, h y = some X → y ≠ f.I → h' y = some X := fun {y X} e n => hs _ _ (by rw [HP.del_ne n]; exact e)
  have c1 : seen ≠ stk := by intro e; have h1 := F.hseen; rw [e, F.hstk] at h1; cases h1
  have c2 : seen ≠ its := by intro e; have h1 := F.hseen; rw [e, F.hits] at h1; cases h1
  have c3 : seen ≠ n2s := by intro e; have h1 := F.hseen; rw [e, F.hn2s] at h1; cases h1
  have c4 : n2s ≠ stk := by intro e; have h1 := F.hn2s; rw [e, F.hstk] at h1; cases h1
  have c5 : n2s ≠ its := by intro e; have h1 := F.hn2s; rw [e, F.hits] at h1; cases h1
  have raw : ∀ {y : Addr} {P : Obj → Prop}, h y = some (.raw P) → y ≠ its ∧ y ≠ n2s ∧ y ≠ stk := fun {y P} e =>
    ⟨(by rintro rfl; rw [F.hits] at e; cases e), (by rintro rfl; rw [F.hn2s] at e; cases e), (by rintro rfl; rw [F.hstk] at e; cases e)⟩
  refine ⟨?_, ?_, ?_, ⟨?_, ?_, HP.set_self _ _ _, ?_, ?_, fun g hg => ?_, fun g hg => ?_⟩⟩
  · have := old F.hstk a2; rw [this]; simp [strsA]
  · have := old F.hits a3; rw [this]; simp
  · have := old F.hn2s a5; rw [this]; simp
  · have h1 : HX.Sub h' := (F.sub.del (F.hI f hf).2).trans hs
    exact ((h1.setN hXs).setN hX2).setN hXi
  · rw [HP.set_ne hsi, HP.set_ne (Ne.symm c4), HP.set_self]
  · rw [HP.set_ne c2, HP.set_ne c3, HP.set_ne c1]; exact old F.hseen a4
  · rw [HP.set_ne c5, HP.set_self]
  · have e := F.hm g (List.mem_append_left _ hg)
    obtain ⟨b1, b2, b3⟩ := raw e.1
    exact ⟨HP.set_of b1 (HP.set_of b2 (HP.set_of b3 (old e.1 (ap g hg).1))), e.2⟩
  · have e := F.hI g (List.mem_append_left _ hg)
    obtain ⟨b1, b2, b3⟩ := raw e.1
    exact ⟨HP.set_of b1 (HP.set_of b2 (HP.set_of b3 (old e.1 (ap g hg).2))), e.2⟩
theorem FCP.push (p : FCP S rk fr ks) (hk : k ∉ ks) (hkS : k ∈ S.names) (hr : ∀ z ∈ fr.map (·.nm), rk z < rk k) : FCP S rk (fr ++ [⟨k, 0, m, I⟩]) (k :: ks) := by
  refine ⟨?_, fun g hg => ?_, fun z hz => ?_, List.nodup_cons.mpr ⟨hk, p.ksn⟩⟩
  · rw [List.map_append, List.pairwise_append]
    refine ⟨p.chain, by simp, fun a ha b hb => ?_⟩
    simp at hb; subst hb; exact hr a ha
  · rcases List.mem_append.mp hg with hg | hg
    · exact List.mem_cons_of_mem _ (p.inS g hg)
    · rw [List.mem_singleton.mp hg]; exact List.mem_cons_self
  · rcases List.mem_cons.mp hz with rfl | hz
    · exact hkS
    · exact p.ksS z hz
theorem FCP.next (p : FCP S rk (fr ++ [f]) ks) : FCP S rk (fr ++ [⟨f.nm, f.i + 1, f.m, f.I⟩]) ks := by
  refine ⟨?_, fun g hg => ?_, p.ksS, p.ksn⟩
  · have := p.chain; simpa using this
  · rcases List.mem_append.mp hg with hg | hg
    · exact p.inS g (List.mem_append_left _ hg)
    · rw [List.mem_singleton.mp hg]; exact p.inS f (by simp)
theorem nodup_len : ∀ (ks L : List PySem.Str), ks.Nodup → (∀ z ∈ ks, z ∈ L) → ks.length ≤ L.length
  | [], _, _, _ => Nat.zero_le _
  | a :: ks, L, hd, hs => by
    rw [List.nodup_cons] at hd
    have ha := hs a List.mem_cons_self
    have ih := nodup_len ks (L.erase a) hd.2 fun z hz => (List.mem_erase_of_ne (by rintro rfl; exact hd.1 hz)).mpr (hs z (List.mem_cons_of_mem _ hz))
    rw [List.length_erase_of_mem ha] at ih
    have : 0 < L.length := List.length_pos_of_mem ha
    rw [List.length_cons]; omega
theorem FCP.ks_len (p : FCP S rk fr ks) : ks.length ≤ S.names.length := nodup_len ks _ p.ksn p.ksS
end
end Mine
end
section
open PySem PySem.W PySem.Calls PyProof.Rows
namespace Mine
section
variable {g : Gd} {n : Nat} {env : Env} {loc : Loc} {hp : HP} {nms : List (PySem.Str × NameKind)} {cs : List (PySem.Str × Addr)}
/-- what a dict comprehension's turns do -/
noncomputable def CompStepD (g : Gd) (n : Nat) (nms' : List (PySem.Str × NameKind)) (cl : List (PySem.Str × Addr)) (x : PySem.Str) (kx vx : PySem.Expr) (xs : List AV) (J : Nat → Loc → HP → Prop) : Prop :=
  ∀ i v es h cenv, xs[i]? = some v → J i es h → FEnv cenv nms' cl → h cenv.locals = none → EV g n cenv kx [(x, v)] h fun ka l h => ∃ k, ka = .str k ∧ EV g n cenv vx l h fun y V h => J (i + 1) (dstore es k y) h
theorem comp_blockD {A : Around} {E : PySem.Value → Shared → Prop} {h₀ : Heap} {kx vx iter : PySem.Expr} {x : PySem.Str} {px : Pos} {scope : Scope} {cl : List (PySem.Str × Addr)} {pos : Pos} {s₂ : Shared} {hp₂ : HP} {xs : List AV}
    {I : Addr} {fp wr : List Addr} {St : Nat → Heap → Prop} {RR : PySem.Value → Addr → Result → Shared → Prop} {J : Nat → Loc → HP → Prop}
    (F : FEnv env nms cs) (c : CxB g n A env.locals h₀) (K : Wk g A h₀ env.locals hp₂ xs I fp wr St s₂) (y₂ : AtB g (SA A) h₀ env.locals loc hp₂ s₂)
    (hcell : ∀ y ∈ scope.names, y.2 ≠ .cell) (hkind : scope.kind = .function) (hx : scope.names.lookup x = some .local) (hsz : xs.length ≤ 100000) (hJ0 : J 0 [] hp₂)
    (step : CompStepD g n (relN nms scope.names) cl x kx vx xs J)
    (hRR : ∀ D C s' es hp', AtB g (SA A) h₀ env.locals loc hp' s' → J xs.length es hp' → (∃ m, s'.heap.Ns C m) → (∃ kvs, s'.heap.DictOf (strKind pg g.w) D kvs ∧ Ps es kvs) →
      hp' D = none → h₀.get? D = none → D ≠ env.locals → hp' C = none → h₀.get? C = none → C ≠ env.locals → D ≠ C → C ∉ fp → s₂.heap.get? D = none → s₂.heap.get? C = none → (∀ b o, b ∈ fp → b ∉ wr → s₂.heap.get? b = some o → s'.heap.get? b = some o) → s₂.heap.objs.size ≤ D → RR (.ref D) C (.ok .next) s') :
    wpAny (model pg g.w) A newDict (fun acc s₃ => wpAny (model pg g.w) A (newFunctionEnv scope env.globals cl [] env.qual none .none (some env)) (fun cenv s₄ =>
      codeAny (model pg g.w) A (.compStart (.DictComp kx vx [⟨.Name x px, iter, [], 0⟩] scope pos) 0 (.ref I) acc { cenv with scope := relabel scope env }) (RR acc cenv.locals) s₄) E s₃) E s₂ := by
  refine wpAny_newObj_type (wpAny_newFunctionEnv hcell (by intro y hy; simp at hy) (fun h₁ hns₁ hsb₁ => ?_) hkind)
  dsimp only at hns₁ hsb₁ ⊢
  have hnew : (s₂.heap.push { cls := .type "dict", dict := none, data := .dict #[] }).DictOf (strKind pg g.w) s₂.heap.objs.size [] := Heap.DictOf.new s₂.heap
  generalize hH2 : s₂.heap.push { cls := .type "dict", dict := none, data := .dict #[] } = H2 at hns₁ hsb₁ hnew ⊢
  have hC : H2.objs.size = s₂.heap.objs.size + 1 := by rw [← hH2, Heap.size_push]
  have hDC : s₂.heap.objs.size ≠ H2.objs.size := by rw [hC]; exact Nat.ne_of_lt (Nat.lt_succ_self _)
  have below : ∀ b, b < s₂.heap.objs.size → b ≠ H2.objs.size ∧ b ≠ s₂.heap.objs.size := fun b hb => ⟨by rw [hC]; exact Nat.ne_of_lt (Nat.lt_succ_of_lt hb), Nat.ne_of_lt hb⟩
  have old : ∀ b o, s₂.heap.get? b = some o → h₁.get? b = some o := fun b o e => hsb₁.extBut b o (below b (Heap.lt_size e)).1 (Heap.get?_push_of_some _ (hH2 ▸ Heap.get?_push_of_some _ e))
  have hacc : h₁.DictOf (strKind pg g.w) s₂.heap.objs.size [] := hnew.at fun o e => hsb₁.extBut _ _ hDC (Heap.get?_push_of_some _ e)
  have fresh : ∀ a, s₂.heap.objs.size ≤ a → s₂.heap.get? a = none := fun a ha => by
    cases e : s₂.heap.get? a with
    | none => rfl
    | some o' => exact absurd (Heap.lt_size e) (Nat.not_lt.mpr ha)
  have new : ∀ a, s₂.heap.objs.size ≤ a → hp₂ a = none ∧ h₀.get? a = none ∧ a ≠ env.locals ∧ a ∉ fp := fun a ha => by
    refine ⟨?_, ?_, ?_, fun hf => ?_⟩
    · cases q : hp₂ a with
      | none => rfl
      | some X => obtain ⟨o, e⟩ := (y₂.at_.own _ _ q).1.there; rw [fresh a ha] at e; cases e
    · cases q : h₀.get? a with
      | none => rfl
      | some o => obtain ⟨sl, e, _⟩ := y₂.at_.keep a o q; rw [fresh a ha] at e; cases e
    · rintro rfl; obtain ⟨m, ⟨o, es, ep, ho, r⟩, hm⟩ := y₂.loc; rw [fresh _ ha] at ho; cases ho
    · obtain ⟨o, ho⟩ := K.there _ _ K.st a hf; rw [fresh a ha] at ho; cases ho
  have hDle : s₂.heap.objs.size ≤ s₂.heap.objs.size := Nat.le_refl _
  have hCle : s₂.heap.objs.size ≤ H2.objs.size := by rw [hC]; exact Nat.le_succ _
  have hDfr := fresh _ hDle
  have hDge : s₂.heap.objs.size ≤ s₂.heap.objs.size := Nat.le_refl _
  replace hRR := fun C s' es hp' => hRR s₂.heap.objs.size C s' es hp'
  revert hDge hRR
  generalize hDD : s₂.heap.objs.size = D at hDC below hacc hDfr hDle hCle fresh new hnew
  intro hDge hRR
  have hCfr := fresh _ hCle
  generalize H2.objs.size = C at *
  refine withGoal fun goalX goalBack => ?_
  obtain ⟨hD2, hD0, hDL, hDf⟩ := new D hDle
  refine goalBack ?_
  clear goalBack goalX
  refine withGoal fun goalX goalBack => ?_
  obtain ⟨hC2, hC0, hCL, hCf⟩ := new C hCle
  refine goalBack ?_
  clear goalBack goalX
  have hk : (compEnvC scope cl C env).locals = C := rfl
  have FC : FEnv (compEnvC scope cl C env) (relN nms scope.names) cl := F.comp hkind C
  have hCw : C ∉ wr := fun h => hCf (K.W.sub _ h)
  have hDw : D ∉ wr := fun h => hDf (K.W.sub _ h)
  have loop : ∀ s₃ : Shared, s₃ = { s₂ with heap := h₁, toks := s₂.toks + ([] : List (PySem.Str × PySem.Value)).length } →
      codeAny (model pg g.w) A (.compLoop (.DictComp kx vx [⟨.Name x px, iter, [], 0⟩] scope pos) 0 (.ref I) (.ref D) (compEnvC scope cl C env)) (RR (.ref D) C) s₃ := by
    rintro s₃ rfl
    obtain ⟨Inv, hI⟩ : ∃ Inv : Nat → Shared → Prop, ∀ k s', Inv k s' ↔ (∃ i es hp', St i s'.heap ∧ AtB g (SA A) h₀ env.locals loc hp' s' ∧ J i es hp' ∧ (∃ m, s'.heap.Ns C m) ∧ (∃ kvs, s'.heap.DictOf (strKind pg g.w) D kvs ∧ Ps es kvs) ∧ es.length ≤ i ∧
        hp' D = none ∧ hp' C = none ∧ (∀ b ∈ fp, hp' b = none) ∧ (∀ b o, b ∈ fp → b ∉ wr → s₂.heap.get? b = some o → s'.heap.get? b = some o) ∧ i ≤ xs.length ∧ k = xs.length + 1 - i) := ⟨_, fun V V => Iff.rfl⟩
    refine codeAny_compLoop_testsD Inv ?_ (xs.length + 1) ((hI _ _).mpr
      ⟨0, [], hp₂, K.W.frame _ _ _ K.st fun b V o e => old b o e, y₂.turned y₂.at_.tok (fun V => False) (fun b o V e => old b o e) (fun V h => h.elim), hJ0, ⟨_, hns₁⟩, ⟨[], hacc, trivial⟩, Nat.le_refl _, hD2, hC2, K.fpn, fun b o V V e => old b o e, Nat.zero_le _, rfl⟩)
    intro k s' hh
    refine withGoal fun goalX goalBack => ?_
    obtain ⟨i, es, hp', hst', z, hJ, ⟨m, hm⟩, ⟨kvs, hit, hvs⟩, hly, hDn, hCn, hfn, hkp, hi, rfl⟩ := (hI k s').mp hh
    refine goalBack ?_
    clear goalBack goalX
    clear hh
    by_cases hlt : i < xs.length
    · refine wpAny_with_toks z.at_.tok (K.W.item i s' _ _ hlt hst' fun v h' tk ⟨x', hx', hv⟩ hst₁ hk₁ htk => ?_)
      have z' := z.turned htk (fun b => b ∈ wr) (fun b o hb e => hk₁ b o hb e) (fun b hb => ⟨(K.fp0 b (K.W.sub b hb)).1, hfn b (K.W.sub b hb), (K.fp0 b (K.W.sub b hb)).2⟩)
      have hm' : h'.Ns C m := hm.at' fun o e => hk₁ _ o hCw e
      refine withGoal fun goalX goalBack => ?_
      obtain ⟨h₁, c₁, w₁, out⟩ := z'.frameC c (C := C) (locC := []) hCn hC0 ⟨m, hm', fun V V e => by cases e⟩
      refine goalBack ?_
      clear goalBack goalX
      refine wpAny_assign_Name (wpAny_mono (ST_local (env := compEnvC scope cl C env) (Q := fun l h => l = [(x, x')] ∧ h = hp') hv ⟨rfl, rfl⟩ FC.kind (lookup_relabel_local hx) A _ h₁ _ c₁ w₁) (fun V s₃ hh => ?_) fun V V e => e)
      refine out3 hh fun V l₃ hp₃ V w₃ hQ => ?_
      obtain ⟨rfl, rfl⟩ := hQ
      refine wpAny_tests_nil ?_
      simp only [if_true]
      refine wpAny_mono (step i x' es hp₃ _ hx' hJ FC hCn A _ h₁ s₃ c₁ w₃) (fun kv s₄ hh => ?_) fun V V e => e
      refine out3 hh fun V l₄ hp₄ rk w₄ hQ => ?_
      obtain ⟨k, rfl, q₄⟩ := hQ
      refine wpAny_mono (q₄ A _ h₁ s₄ c₁ w₄) (fun y s₅ hh => ?_) fun V V e => e
      refine out3 hh fun ya l₅ hp₅ ry w₅ q₅ => ?_
      obtain ⟨z₅, _, kept⟩ := out l₅ hp₅ s₅ w₅
      have kf : ∀ b o, b ∈ fp → h'.get? b = some o → hp₅ b = none ∧ s₅.heap.get? b = some o := fun b o hb e => kept b o (hfn b hb) (fun q => hCf (q ▸ hb)) (K.fp0 b hb).2 (K.fp0 b hb).1 e
      obtain ⟨od, hod⟩ : ∃ o, s'.heap.get? D = some o := by obtain ⟨o, es', ep', ho, _⟩ := hit; exact ⟨o, ho⟩
      have hD' := kept D od hDn hDC hDL hD0 (hk₁ D _ hDw hod)
      have a1 : St (i + 1) s₅.heap := K.W.frame _ _ _ hst₁ fun b hb o e => (kf b o hb e).2
      have a2 := z₅ hCL
      obtain ⟨m5, a3, _⟩ := w₅.loc
      have a4 : s₅.heap.DictOf (strKind pg g.w) D kvs := hit.at fun o e => by rw [hod] at e; cases e; exact hD'.2
      have a7 : ∀ b ∈ fp, hp₅ b = none := fun b hb => by obtain ⟨o, ho⟩ := K.there _ _ hst₁ b hb; exact (kf b o hb ho).1
      have a8 : ∀ b o, b ∈ fp → b ∉ wr → s₂.heap.get? b = some o → s₅.heap.get? b = some o := fun b o hb hw e => (kf b o hb (hk₁ b o hw (hkp b o hb hw e))).2
      obtain ⟨u, rfl⟩ := rk
      refine wpAny_dictSet_pairs (hsz := by rw [← hvs.len, sizeLine_eq]; omega) (strIs k u) a4 fun h₆ hl₆ hs₆ => ?_
      refine ⟨xs.length + 1 - (i + 1), by omega, (hI _ _).mpr ⟨i + 1, dstore es k ya, hp₅, K.W.frame _ _ _ a1 fun b hb o e => hs₆.extBut b o (fun q => hDf (q ▸ hb)) e, ?_, q₅, ⟨m5, a3.sameBut hs₆ (Ne.symm hDC)⟩, ⟨_, hl₆, hvs.stored ry⟩, ?_, hD'.1, w₅.hpL, a7, fun b o hb hw e => hs₆.extBut b o (fun q => hDf (q ▸ hb)) (a8 b o hb hw e), hlt, rfl⟩⟩
      · exact a2.turned (Nat.le_add_left 1 _) (fun b => b = D) (fun b o hb e => hs₆.extBut b o hb e) (fun b hb => by subst hb; exact ⟨hD0, hD'.1, hDL⟩)
      · have : (dstore es k ya).length ≤ es.length + 1 := by unfold dstore; split <;> simp
        omega
    · have hin : i = xs.length := by omega
      subst hin
      refine wpAny_with_toks z.at_.tok (K.W.done s' _ _ hst' fun h' tk hk₁ htk => ?_)
      have z' := z.turned htk (fun b => b ∈ wr) (fun b o hb e => hk₁ b o hb e) (fun b hb => ⟨(K.fp0 b (K.W.sub b hb)).1, hfn b (K.W.sub b hb), (K.fp0 b (K.W.sub b hb)).2⟩)
      exact hRR C _ es hp' z' hJ ⟨m, hm.at' fun o e => hk₁ _ o hCw e⟩ ⟨kvs, hit.at fun o e => hk₁ D _ hDw e, hvs⟩ hDn hD0 hDL hCn hC0 hCL hDC hCf hDfr hCfr (fun b o hb hw e => hk₁ b o hw (hkp b o hb hw e)) hDge
  exact codeAny_compStart_dict (loop _ rfl) (K.W.self 0 _ _ _ (K.W.frame _ _ _ K.st fun b V o e => old b o e) (loop _ rfl))
theorem EV_DictComp {kx vx iter : PySem.Expr} {x : PySem.Str} {px : Pos} {scope : Scope} {cl : List (PySem.Str × Addr)} {pos : Pos} {Q : AV → Loc → HP → Prop} (G : Gnd g) (F : FEnv env nms cs)
    (hclos : closL cs scope.names [] = some cl) (hcell : (scope.names.all fun x => decide (x.2 ≠ .cell)) = true) (hkind : scope.kind = .function) (hnames : (scope.names.all fun x => decide (x.2 = .local → scope.names.lookup x.1 = some .local)) = true) (hx : scope.names.lookup x = some .local)
    (hs : ∀ x, foldedSetIterable iter env x = pure x)
    (h : EV g n env iter loc hp fun a l₁ h₁ => ∃ hp₂ xs back, Src g a h₁ hp₂ xs back ∧ xs.length ≤ 100000 ∧ ∃ J : Nat → Loc → HP → Prop, J 0 [] hp₂ ∧ CompStepD g n (relN nms scope.names) cl x kx vx xs J ∧
      ∀ es h, J xs.length es h → ∀ D, (back h) D = none → Q (.ref D) l₁ ((back h).set D (.dict es))) :
    EV g n env (.DictComp kx vx [⟨.Name x px, iter, [], 0⟩] scope pos) loc hp Q := by
  intro A E h₀ s c y
  rw [arm_eval_DictComp]
  refine wpAny_comprehension_free (use := none) rfl hs (closureFor_eq F.cells hclos) hkind (fun z hz => of_decide_eq_true (List.all_eq_true.mp hnames z hz)) (wpAny_mono (h A E h₀ s c y) (fun v s₁ hh => ?_) fun V V e => e)
  refine out3 hh fun a l₁ h₁ ra y₁ hQ => ?_
  refine withGoal fun goalX goalBack => ?_
  obtain ⟨hp₂, xs, back, S, hsz, J, hJ0, step, fin⟩ := hQ
  refine goalBack ?_
  clear goalBack goalX
  refine walk_at_src G.hn S c y₁ ra fun I fp wr St s₂ K z₂ hback hext => ?_
  refine comp_blockD (RR := fun acc C => compPost (model pg g.w) A E none _ acc C) F c K z₂ (fun z hz => by simpa using List.all_eq_true.mp hcell z hz) hkind hx hsz hJ0 step ?_
  intro D C s' es hp' z hJ hm hit hD hD0 hDL hC hC0 hCL hDC hCf hDf hCfr hk hDge
  obtain ⟨m, hm⟩ := hm
  obtain ⟨kvs, hDo, hvs⟩ := hit
  have hlow : (D == sysModules) = false := by
    obtain ⟨mg, mb, T⟩ := G.top
    refine withGoal fun goalX goalBack => ?_
    obtain ⟨mc, ⟨o, es, ep, ho, _⟩, _⟩ := T.nolimit
    refine goalBack ?_
    clear goalBack goalX
    have h2 : (2 : Nat) < s₂.heap.objs.size := Heap.lt_size (stays c z₂ _ _ ho)
    have : D ≠ sysModules := fun h => by rw [h] at hDge; exact absurd (Nat.lt_of_lt_of_le h2 hDge) (by decide)
    simpa using this
  refine ⟨m, hm, fun h'' hs'' => ?_⟩
  have z' := z.turned (h' := h'') (tk := s'.toks) z.at_.tok (fun b => b = C) (fun b o hb e => hs''.extBut b o hb e) (fun b hb => by subst hb; exact ⟨hC0, hC, hCL⟩)
  have z'' := hback _ _ _ z' fun b o hb hw e => hs''.extBut b o (fun q => hCf (q ▸ hb)) (hk b o hb hw e)
  have hbD : (back hp') D = none := S.bk D hp' (by
    cases q : h₁ D with
    | none => rfl
    | some X => obtain ⟨o, e⟩ := (y₁.at_.own D X q).1.there; have := hext _ _ e; rw [hDf] at this; cases this) hD
  exact ⟨.ref D, l₁, (back hp').set D (.dict es), ⟨0, rfl⟩, ⟨z''.at_.give ⟨hlow, kvs, hDo.extBut hs''.extBut hDC, hvs⟩ hD0, z''.loc, (HP.set_ne (Ne.symm hDL)).trans z''.hpL, z''.hL⟩, fin es hp' hJ D hbD⟩
end
end Mine
end
section
open PySem PySem.W PySem.Calls PyProof.Rows
namespace Mine
/-- a list of ints that lies in the ground -/
noncomputable def BList (g : Gd) (l : Addr) : Prop := ∃ items, g.B.IsList l items ∧ (∀ v ∈ items.toList, ∃ i t, v = PySem.Value.int i t) ∧ items.size ≤ 100000
theorem ints_of : ∀ (vs : List PySem.Value), (∀ v ∈ vs, ∃ i t, v = PySem.Value.int i t) → ∃ ms : List Int, Vs (intsA ms) vs
  | [], _ => ⟨[], trivial⟩
  | v :: vs, h => by
    obtain ⟨i, t, rfl⟩ := h v List.mem_cons_self
    obtain ⟨ms, hm⟩ := ints_of vs fun w hw => h w (List.mem_cons_of_mem _ hw)
    exact ⟨i :: ms, ⟨t, rfl⟩, hm⟩
theorem pick_mem {items : Array PySem.Value} {lo hi st : Option Int} {v : PySem.Value} (h : v ∈ (slicePick items lo hi st).toList) : v ∈ items.toList := by
  unfold slicePick at h
  simp only [List.mem_filterMap] at h
  obtain ⟨i, _, e⟩ := h
  exact Array.mem_toList_iff.mpr (Array.mem_of_getElem? e)
section
variable {g : Gd} {n : Nat} {env : Env} {L : Addr} {loc : Loc} {hp : HP}
theorem c_sumB {l : Addr} {Q : AV → Loc → HP → Prop} (hB : BList g l) (q : ∀ m, Q (.int m) loc hp) (hg : g.hn = true := by first | with_reducible assumption | exact Gnd.hn (by with_reducible assumption)) : ∀ vs, Vs [.ref l] vs → WB g n L (call (.builtin "sum") vs) loc hp AV.Is Q := by
  intro vs hv
  obtain ⟨t, rfl⟩ := Vs1 hv
  intro A E h₀ s c y
  refine withGoal fun goalX goalBack => ?_
  obtain ⟨items, ⟨o, ho, r⟩, hi, hz⟩ := hB
  refine goalBack ?_
  clear goalBack goalX
  have it : s.heap.IsList l items := ⟨o, stays c y _ _ ho, r⟩
  obtain ⟨ns, hns⟩ := ints_of _ hi
  obtain ⟨xs, hxs, hns⟩ := IntsAre.items (Vs_ints hns)
  have hit : items = intItems xs.toArray := by apply Array.toList_inj.mp; simp [intItems, hxs]
  refine wpAny_with_toks (n := 1) y.at_.tok (sum_intListG (c.handled hg) (hit ▸ it) fun h' tk t' hk htk => ?_)
  exact ⟨.int _, loc, hp, ⟨t', rfl⟩, y.turned htk (fun V => False) (fun b o V e => hk b o e) (fun V h => h.elim), q _⟩
theorem EV_Sub_stepB {value : PySem.Expr} {lo hi st : Option PySem.Expr} {p pos : Pos} {Q : AV → Loc → HP → Prop}
    (h : EV g n env value loc hp fun a l₁ h₁ => EP g n env lo l₁ h₁ fun b l₂ h₂ => EP g n env hi l₂ h₂ fun c l₃ h₃ => EP g n env st l₃ h₃ fun d l₄ h₄ => ∃ l i j k, a = .ref l ∧ BList g l ∧ b.oi = some i ∧ c.oi = some j ∧ d.oi = some k ∧ k ≠ some 0 ∧ ∀ D (ms : List Int), h₄ D = none → ms.length ≤ 100000 → Q (.ref D) l₄ (h₄.set D (.list (intsA ms)))) :
    EV g n env (.Subscript value (.Slice lo hi st p) pos) loc hp Q := by
  intro A E h₀ s cx y
  refine Subscript_ (wpAny_mono (h A E h₀ s cx y) (fun va s₁ hh => ?_) fun V V e => e)
  refine out3 hh fun a l₁ h₁ ra y₁ q => ?_
  refine wpAny_Slice (wpAny_mono (q A E h₀ s₁ cx y₁) (fun vb s₂ hh => ?_) fun V V e => e)
  refine out3 hh fun b l₂ h₂ rb y₂ q => ?_
  refine wpAny_mono (q A E h₀ s₂ cx y₂) (fun vc s₃ hh => ?_) fun V V e => e
  refine out3 hh fun c l₃ h₃ rc y₃ q => ?_
  refine wpAny_mono (q A E h₀ s₃ cx y₃) (fun vd s₄ hh => ?_) fun V V e => e
  refine out3 hh fun d l₄ h₄ rd y₄ hQ => ?_
  refine withGoal fun goalX goalBack => ?_
  obtain ⟨l, i, j, k, rfl, hB, hi, hj, hk, h0, q⟩ := hQ
  refine goalBack ?_
  clear goalBack goalX
  obtain ⟨t, rfl⟩ := ra
  refine withGoal fun goalX goalBack => ?_
  obtain ⟨items, ⟨o, ho, r⟩, hin, hz⟩ := hB
  refine goalBack ?_
  clear goalBack goalX
  have it : s₄.heap.IsList l items := ⟨o, stays cx y₄ _ _ ho, r⟩
  have lst : ∀ v (a : AV) (k : Option Int), a.Is v → a.oi = some k → IsPart v k := fun v a k r e => by
    obtain ⟨t, rfl⟩ := r
    cases a <;> simp [AV.oi] at e
    · subst e; exact .none
    · subst e; exact .int _ t
  obtain ⟨ms, hms⟩ := ints_of (slicePick items i j k).toList fun v hv => hin v (pick_mem hv)
  have hml : ms.length ≤ 100000 := by
    have e1 := hms.length
    have e2 := slicePick_size_le items i j k
    simp [intsA] at e1
    omega
  refine sub_tail (M := model pg g.w) (T := "list") (it.push _).typeIs slot_list_getitem.lookup (wpAny_getItem_list_slice (it.push _) (Heap.IsSliceOf.new ..) (lst _ _ _ rb hi) (lst _ _ _ rc hj) (lst _ _ _ rd hk) h0 ?_ (sz_le hz))
  have y₅ := y₄.turned y₄.at_.tok (fun V => False) (fun b o V e => Heap.get?_push_of_some (h := s₄.heap) { cls := .type "slice", data := .fields #[vb, vc, vd] } e) (fun V h => h.elim)
  have hfr := y₅.at_.freshP
  refine withGoal fun goalX goalBack => ?_
  obtain ⟨m, ⟨oL, esL, epL, hoL, hdL⟩, hm⟩ := y₅.loc
  refine goalBack ?_
  clear goalBack goalX
  refine ⟨.ref _, l₄, _, ⟨0, rfl⟩, ⟨y₅.at_.push (X := .list (intsA ms)) ⟨_, _, Heap.get?_push_size _ rfl, hms⟩, ⟨m, ⟨oL, esL, epL, Heap.get?_push_of_some _ hoL, hdL⟩, hm⟩, ?_, y₅.hL⟩, q _ ms hfr hml⟩
  exact (HP.set_ne (Nat.ne_of_lt (Heap.lt_size hoL))).trans y₅.hpL
end
end Mine
end
section
open PySem PySem.W PySem.Calls PyProof.Rows
namespace Mine
/-- the start: no token may be used yet -/
noncomputable def WH0 (g : Gd) (n : Nat) {α β : Type} (t : Sem α) (hp : HP) (Rel : β → α → Prop) (Q : β → HP → Prop) : Prop :=
  ∀ (A : Around) (E : PySem.Value → Shared → Prop) (h₀ : Heap) (s : Shared), Cx g n A h₀ → At g (SA A) h₀ hp { s with toks := s.toks + 1 } →
    wpAny (model pg g.w) A t (fun a s' => ∃ b hp', Rel b a ∧ At g (SA A) h₀ hp' s' ∧ Q b hp') E s
noncomputable def WB0 (g : Gd) (n : Nat) (L : Addr) {α β : Type} (t : Sem α) (loc : Loc) (hp : HP) (Rel : β → α → Prop) (Q : β → Loc → HP → Prop) : Prop :=
  ∀ (A : Around) (E : PySem.Value → Shared → Prop) (h₀ : Heap) (s : Shared), CxB g n A L h₀ → AtB g (SA A) h₀ L loc hp { s with toks := s.toks + 1 } →
    wpAny (model pg g.w) A t (fun a s' => ∃ b loc' hp', Rel b a ∧ AtB g (SA A) h₀ L loc' hp' s' ∧ Q b loc' hp') E s
noncomputable abbrev XS0 (g : Gd) (n : Nat) (env : Env) (b : List Stmt) (loc : Loc) (hp : HP) (Q : AF → Loc → HP → Prop) : Prop := WB0 g n env.locals (execs b env) loc hp AF.Is Q
noncomputable abbrev EX0 (g : Gd) (n : Nat) (env : Env) (b : Stmt) (loc : Loc) (hp : HP) (Q : AF → Loc → HP → Prop) : Prop := WB0 g n env.locals (exec b env) loc hp AF.Is Q
noncomputable abbrev EV0 (g : Gd) (n : Nat) (env : Env) (e : PySem.Expr) (loc : Loc) (hp : HP) (Q : AV → Loc → HP → Prop) : Prop := WB0 g n env.locals (eval e env) loc hp AV.Is Q
noncomputable abbrev ES0 (g : Gd) (n : Nat) (env : Env) (pos : Pos) (es : List PySem.Expr) (loc : Loc) (hp : HP) (Q : List AV → Loc → HP → Prop) : Prop := WB0 g n env.locals (spliced (backTo pos (starEach es env))) loc hp Vs Q
section
variable {g : Gd} {n : Nat} {env : Env} {L : Addr} {loc : Loc} {hp : HP}
theorem XS0_cons {st : Stmt} {rest : List Stmt} {Q : AF → Loc → HP → Prop}
    (h : EX0 g n env st loc hp fun f l h => match f with | .next => XS g n env rest l h Q | f => Q f l h) : XS0 g n env (st :: rest) loc hp Q := by
  intro A E h₀ s c x
  refine wpAny_execs_cons (wpAny_mono (h A E h₀ s c x) (fun f s' hh => ?_) fun V V e => e)
  refine out3 hh fun b l hp' r y q => ?_
  cases b with
  | next => cases r; exact q A E h₀ _ c y
  | brk => cases r; exact ⟨.brk, l, hp', rfl, y, q⟩
  | cont => cases r; exact ⟨.cont, l, hp', rfl, y, q⟩
  | ret v => obtain ⟨v', rfl, hv⟩ := r; exact ⟨.ret v, l, hp', ⟨v', rfl, hv⟩, y, q⟩
theorem EV0_int {i : Int} {k : Nat} {pos : Pos} {Q : AV → Loc → HP → Prop} (q : Q (.int i) loc hp) : EV0 g n env (.Constant (.int i) k pos) loc hp Q :=
  fun V V V s V x => wpAny_Constant_int ⟨.int i, loc, hp, ⟨s.toks, rfl⟩, x, q⟩
theorem ES0_cons {pos : Pos} {e : PySem.Expr} {es : List PySem.Expr} {Q : List AV → Loc → HP → Prop} (h : EV0 g n env e loc hp fun a l h => ES g n env pos es l h fun as l h => Q (a :: as) l h)
    (he : starEach (e :: es) env = (false, eval e env) :: starEach es env := by rfl) : ES0 g n env pos (e :: es) loc hp Q :=
  fun A E h₀ s c x => wpAny_items_cons (wpAny_mono (h A E h₀ s c x) (fun V V ⟨a, _, _, r, y, q⟩ => wpAny_mono (q A E h₀ _ c y) (fun V V ⟨as, l, h, r', y, q⟩ => ⟨a :: as, l, h, ⟨r, r'⟩, y, q⟩) fun V V e => e) fun V V e => e) he
theorem EV0_List {es : List PySem.Expr} {pos : Pos} {Q : AV → Loc → HP → Prop} (h : ES0 g n env pos es loc hp fun xs l h => xs.length ≤ 100000 ∧ ∀ a, h a = none → Q (.ref a) l (h.set a (.list xs))) : EV0 g n env (.List es pos) loc hp Q := by
  intro A E h₀ s c x
  rw [arm_eval_List]
  refine wpAny_bind (wpAny_standAt (wpAny_bind (wpAny_mono (h A E h₀ s c x) (fun vs s₁ hh => ?_) fun V V e => e)))
  refine out3 hh fun xs l h' r y hQ => ?_
  obtain ⟨hz, q⟩ := hQ
  exact WB.lift (loc := l) (Q := Q) (WH_newList r hz q) A E h₀ s₁ c y
theorem EV0_Tuple {es : List PySem.Expr} {k : Nat} {pos : Pos} {Q : AV → Loc → HP → Prop} (h : ES0 g n env pos es loc hp fun xs l h => xs.length ≤ 100000 ∧ ∀ a, h a = none → Q (.ref a) l (h.set a (.tuple xs))) : EV0 g n env (.Tuple es k pos) loc hp Q := by
  intro A E h₀ s c x
  rw [arm_eval_Tuple]
  refine wpAny_bind (wpAny_standAt (wpAny_bind (wpAny_mono (h A E h₀ s c x) (fun vs s₁ hh => ?_) fun V V e => e)))
  refine out3 hh fun xs l h' r y hQ => ?_
  obtain ⟨hz, q⟩ := hQ
  exact WB.lift (loc := l) (Q := Q) (WH_newTuple r hz q) A E h₀ s₁ c y
theorem EX0_TupAssign {elts : List PySem.Expr} {k : Nat} {tpos pos : Pos} {value : PySem.Expr} {ns : List PySem.Str} {Q : AF → Loc → HP → Prop} (hns : namesOf elts = some ns)
    (h : EV0 g n env value loc hp fun a l h => ∃ t xs, a = .ref t ∧ h t = some (.tuple xs) ∧ xs.length = ns.length ∧ SN g n env ns xs l h fun l h => Q .next l h)
    (hs : swapsWithSole [.Tuple elts k tpos] value pos.line env = pure false) (hw : swappedStores [.Tuple elts k tpos] value env = pure none) (hg : g.hn = true := by first | with_reducible assumption | exact Gnd.hn (by with_reducible assumption)) : EX0 g n env (.Assign [.Tuple elts k tpos] value pos) loc hp Q := by
  intro A E h₀ s c y
  refine Assign_Tuple (wpAny_mono (h A E h₀ s c y) (fun v s₁ hh => ?_) fun V V e => e) hs hw
  refine out3 hh fun a l h' ra y' hQ => ?_
  refine withGoal fun goalX goalBack => ?_
  obtain ⟨t, xs, rfl, ht, hlen, k⟩ := hQ
  refine goalBack ?_
  clear goalBack goalX
  obtain ⟨u, rfl⟩ := ra
  refine withGoal fun goalX goalBack => ?_
  obtain ⟨items, m, ho, it, hi, hsz⟩ := tuple_at y'.at_ ht
  refine goalBack ?_
  clear goalBack goalX
  obtain ⟨e1, e2⟩ := namesOf_len (env := env) hns
  refine wpAny_assign_Tuple (c.handled hg) it (by rw [e1, hsz, hlen]) e2 fun h₁ he => ?_
  have y'' : AtB g (SA A) h₀ env.locals l h' { s₁ with heap := h₁ } := y'.turned (tk := s₁.toks) y'.at_.tok (fun b => b = s₁.heap.objs.size) (fun b o hb e => he b o hb e) (fun b hb => by
    subst hb; refine ⟨y'.at_.fresh, y'.at_.freshP, ?_⟩
    refine withGoal fun goalX goalBack => ?_
    obtain ⟨m, ⟨o, es, ep, ho, r⟩, hm⟩ := y'.loc
    refine goalBack ?_
    clear goalBack goalX
    exact Ne.symm (Nat.ne_of_lt (Heap.lt_size ho)))
  exact wpAny_mono (SN_assign c hns hi y'' k) (fun V s' ⟨l, h, z, q⟩ => ⟨.next, l, h, rfl, z, q⟩) fun V V e => e
theorem W_callC0 {f : Addr} {fd : FuncData} {body : List Stmt} {nms : List (PySem.Str × NameKind)} {vals : List PySem.Value} {binds : List (PySem.Str × PySem.Value)} {bl : Loc} {Q : AV → HP → Prop} (G : Gnd g) (ho : (myK g.w.params).lookup f = some { cls := .type "function", data := .func fd })
    (hcd : codeIn (myK g.w.params) fd.code fd.qualname = true) (hbody : fd.body = .stmts body) (hnm : fd.scope.names = nms) (hg : fd.globals = mainGlobals ∧ fd.builtins = builtinsNs ∧ fd.closure = [])
    (hb : bindArgs fd ⟨vals, []⟩ = pure binds) (hps : Ps bl binds) (hloc : ∀ k, (binds.all fun x => decide (nms.lookup x.1 = some .local) || (decide (nms.lookup x.1 = some .cell) && ((cellsFrom k nms []).lookup x.1).isSome)) = true)
    (hcl : ∀ k, ((cellsFrom k nms []).all fun p => decide (nms.lookup p.1 = some .cell)) = true) (hnd : ∀ k, ndup ((cellsFrom k nms []).map (·.1)) = true)
    (hs : fd.scope.isCoroutine = false ∧ fd.scope.isGenerator = false ∧ fd.scope.kind = .function)
    (h : ∀ env L, env.locals = L → FEnv env nms (cellsFrom (L + 1) nms []) → (∀ a, L ≤ a → hp a = none) → XS0 g n env body (locPart nms bl) (cellHP hp bl (cellsFrom (L + 1) nms [])) fun fl V hp'' => Q (retOf fl) hp'') :
    WH0 g (n + 1) (call (.ref f) vals) hp AV.Is Q := by
  subst hnm
  intro A E h₀ s c y
  have st := staysH c y
  obtain ⟨mg, mb, T⟩ := G.top
  have hroom : A.depth < recursionLimit := by have := c.depth; show A.depth < 1000; lia
  have hbig : ∀ a, s.heap.objs.size ≤ a → s.heap.get? a = none := fun a ha => by
    cases q : s.heap.get? a with
    | none => rfl
    | some o => exact absurd (Heap.lt_size q) (Nat.not_lt.mpr ha)
  have hbig0 : ∀ a, s.heap.objs.size ≤ a → h₀.get? a = none := fun a ha => by
    cases q : h₀.get? a with
    | none => rfl
    | some o => obtain ⟨sl, e, _⟩ := y.keep a o q; rw [hbig a ha] at e; cases e
  have hbigP : ∀ a, s.heap.objs.size ≤ a → hp a = none := fun a ha => by
    cases q : hp a with
    | none => rfl
    | some X => obtain ⟨o, e⟩ := (y.own a X q).1.there; rw [hbig a ha] at e; cases e
  refine wpAny_call (codeAny_call_function hroom (st _ _ (G.kin _ _ ho)) rfl hs.1 hs.2.1 hbody (codeRec_of (G.kin.keeps st) hcd) ?_)
  rw [hb, hg.2.2]
  refine wpAny_pure (wpAny_with_toks (n := 0) (Nat.zero_le _) (wpAny_newFunctionEnv_cells hs.2.2 (fun x hx => ?_) fun env he s₁ x htk => ?_))
  · have := List.all_eq_true.mp (hloc (s.heap.objs.size + 1)) x hx
    simpa using this
  · subst he
    refine ⟨(T.nolimit.keeps st).keeps x.toInCall.keep, codeAny_func ?_⟩
    show wpAny _ (A.deeper (callEnvC fd s.heap.objs.size f)) (execs body (callEnvC fd s.heap.objs.size f)) _ _ _
    have F : FEnv (callEnvC fd s.heap.objs.size f) fd.scope.names (cellsFrom (s.heap.objs.size + 1) fd.scope.names []) := ⟨hs.2.2, hg.1, hg.2.1, fun V => rfl, rfl⟩
    obtain ⟨h₁, tk, rfl⟩ := x.toInCall.same
    have keeps := x.toInCall.keep
    obtain ⟨cx, ab⟩ := enterB (env := callEnvC fd s.heap.objs.size f) (bl := locPart fd.scope.names bl) (tk := tk + 1) (Nat.le_add_left 1 _) c y hs.2.2 rfl rfl x.toInCall.ns (fun z v e => (bindL_ok (fun V => rfl) hps).1 e) keeps
    have cellsOk : ∀ p ∈ cellsFrom (s.heap.objs.size + 1) fd.scope.names [], h₁.IsCell p.2 (bindC (callEnvC fd s.heap.objs.size f).kindOf binds (fun V => none) p.1) ∧ h₀.get? p.2 = none ∧ optIs (lk p.1 bl.reverse) (bindC (callEnvC fd s.heap.objs.size f).kindOf binds (fun V => none) p.1) := fun p hp => by
      have e1 : (cellsFrom (s.heap.objs.size + 1) fd.scope.names []).lookup p.1 = some p.2 := ndup_lookup (hnd _) hp
      have e2 : fd.scope.names.lookup p.1 = some .cell := by simpa using List.all_eq_true.mp (hcl _) p hp
      refine ⟨x.cell p.1 p.2 e1, hbig0 _ (Nat.le_of_lt (x.above p.1 p.2 hp)), ?_⟩
      obtain ⟨i1, i2⟩ := bindC_ok (kind := (callEnvC fd s.heap.objs.size f).kindOf) (fun V => rfl) e2 (m := fun V => none) hps
      cases q : lk p.1 bl.reverse with
      | none => rw [i2 q]; trivial
      | some a => obtain ⟨v, e, i⟩ := i1 a q; rw [e]; exact i
    have ab' : AtB g (SA (A.deeper (callEnvC fd s.heap.objs.size f))) h₀ (callEnvC fd s.heap.objs.size f).locals (locPart fd.scope.names bl) (cellHP hp bl (cellsFrom (s.heap.objs.size + 1) fd.scope.names [])) { s with heap := h₁, toks := tk + 1 } :=
      ⟨ab.at_.cells cellsOk, ab.loc, cellHP_none ab.hpL fun p hp => x.above p.1 p.2 hp, ab.hL⟩
    refine wpAny_mono (h _ _ rfl F hbigP _ _ h₀ _ cx ab') (fun fl s' hh => ?_) fun V V e => e
    refine out3 hh fun b loc' hp'' r z q => ?_
    have za := leaveB (A := A) (env := callEnvC fd s.heap.objs.size f) rfl z
    cases b with
    | next => cases r; exact ⟨.none, hp'', ⟨0, rfl⟩, za, q⟩
    | brk => cases r; exact ⟨.none, hp'', ⟨0, rfl⟩, za, q⟩
    | cont => cases r; exact ⟨.none, hp'', ⟨0, rfl⟩, za, q⟩
    | ret v => obtain ⟨v', rfl, hv⟩ := r; exact ⟨v, hp'', hv, za, q⟩
end
end Mine
end
section
open PySem PySem.W PySem.Calls PyProof.Rows
namespace Mine
noncomputable abbrev fd36 : FuncData := fdOf (stIn 4 1) "_NodeInfo.__init__" .none (.str "cpy313.graphlib" 194) 35
theorem kf36 (P : Params) : (myK P).lookup 36 = some { cls := .type "function", data := .func fd36 } := by kernel_rfl
theorem kc36 (P : Params) : codeIn (myK P) fd36.code fd36.qualname = true := by kernel_rfl
noncomputable abbrev fd73 : FuncData := fdOf (stIn 6 0) "TopologicalSorter.__init__" (.ref 66) (.str "cpy313.graphlib" 194) 72
theorem kf73 (P : Params) : (myK P).lookup 73 = some { cls := .type "function", data := .func fd73 } := by kernel_rfl
theorem kc73 (P : Params) : codeIn (myK P) fd73.code fd73.qualname = true := by kernel_rfl
noncomputable abbrev fd80 : FuncData := fdOf (stIn 6 1) "TopologicalSorter._get_nodeinfo" .none (.str "cpy313.graphlib" 194) 79
theorem kf80 (P : Params) : (myK P).lookup 80 = some { cls := .type "function", data := .func fd80 } := by kernel_rfl
theorem kc80 (P : Params) : codeIn (myK P) fd80.code fd80.qualname = true := by kernel_rfl
noncomputable abbrev fd87 : FuncData := fdOf (stIn 6 2) "TopologicalSorter.add" .none (.str "cpy313.graphlib" 194) 86
theorem kf87 (P : Params) : (myK P).lookup 87 = some { cls := .type "function", data := .func fd87 } := by kernel_rfl
theorem kc87 (P : Params) : codeIn (myK P) fd87.code fd87.qualname = true := by kernel_rfl
noncomputable abbrev fd92 : FuncData := fdOf (stIn 6 3) "TopologicalSorter.prepare" .none (.str "cpy313.graphlib" 194) 91
theorem kf92 (P : Params) : (myK P).lookup 92 = some { cls := .type "function", data := .func fd92 } := by kernel_rfl
theorem kc92 (P : Params) : codeIn (myK P) fd92.code fd92.qualname = true := by kernel_rfl
noncomputable abbrev fd99 : FuncData := fdOf (stIn 6 4) "TopologicalSorter.get_ready" .none (.str "cpy313.graphlib" 194) 98
theorem kf99 (P : Params) : (myK P).lookup 99 = some { cls := .type "function", data := .func fd99 } := by kernel_rfl
theorem kc99 (P : Params) : codeIn (myK P) fd99.code fd99.qualname = true := by kernel_rfl
noncomputable abbrev fd106 : FuncData := fdOf (stIn 6 5) "TopologicalSorter.is_active" .none (.str "cpy313.graphlib" 194) 105
theorem kf106 (P : Params) : (myK P).lookup 106 = some { cls := .type "function", data := .func fd106 } := by kernel_rfl
theorem kc106 (P : Params) : codeIn (myK P) fd106.code fd106.qualname = true := by kernel_rfl
noncomputable abbrev fd113 : FuncData := fdOf (stIn 6 6) "TopologicalSorter.__bool__" .none (.str "cpy313.graphlib" 194) 112
noncomputable abbrev fd120 : FuncData := fdOf (stIn 6 7) "TopologicalSorter.done" .none (.str "cpy313.graphlib" 194) 119
theorem kf120 (P : Params) : (myK P).lookup 120 = some { cls := .type "function", data := .func fd120 } := by kernel_rfl
theorem kc120 (P : Params) : codeIn (myK P) fd120.code fd120.qualname = true := by kernel_rfl
noncomputable abbrev fd127 : FuncData := fdOf (stIn 6 8) "TopologicalSorter._find_cycle" .none (.str "cpy313.graphlib" 194) 126
theorem kf127 (P : Params) : (myK P).lookup 127 = some { cls := .type "function", data := .func fd127 } := by kernel_rfl
theorem kc127 (P : Params) : codeIn (myK P) fd127.code fd127.qualname = true := by kernel_rfl
noncomputable abbrev fd148 : FuncData := fdOf (stAt 8) "Int2AP" .none (.str "cpy313.imaplib" 376) 147
theorem kf148 (P : Params) : (myK P).lookup 148 = some { cls := .type "function", data := .func fd148 } := by kernel_rfl
theorem kc148 (P : Params) : codeIn (myK P) fd148.code fd148.qualname = true := by kernel_rfl
noncomputable abbrev fd155 : FuncData := fdOf (stAt 10) "_get_sep" .none (.str "cpy313.posixpath" 388) 154
theorem kf155 (P : Params) : (myK P).lookup 155 = some { cls := .type "function", data := .func fd155 } := by kernel_rfl
theorem kc155 (P : Params) : codeIn (myK P) fd155.code fd155.qualname = true := by kernel_rfl
noncomputable abbrev fd228 : FuncData := fdOf (stAt 19) "fspath" .none (.str "os" 484) 227
theorem kf228 (P : Params) : (myK P).lookup 228 = some { cls := .type "function", data := .func fd228 } := by kernel_rfl
theorem kc228 (P : Params) : codeIn (myK P) fd228.code fd228.qualname = true := by kernel_rfl
noncomputable abbrev fd235 : FuncData := fdOf (stAt 21) "splitroot" .none (.str "cpy313.posixpath" 496) 234
theorem kf235 (P : Params) : (myK P).lookup 235 = some { cls := .type "function", data := .func fd235 } := by kernel_rfl
theorem kc235 (P : Params) : codeIn (myK P) fd235.code fd235.qualname = true := by kernel_rfl
noncomputable abbrev fd242 : FuncData := fdOf (stAt 22) "basename" .none (.str "cpy313.posixpath" 496) 241
theorem kf242 (P : Params) : (myK P).lookup 242 = some { cls := .type "function", data := .func fd242 } := by kernel_rfl
theorem kc242 (P : Params) : codeIn (myK P) fd242.code fd242.qualname = true := by kernel_rfl
noncomputable abbrev fd249 : FuncData := fdOf (stAt 23) "dirname" .none (.str "cpy313.posixpath" 496) 248
theorem kf249 (P : Params) : (myK P).lookup 249 = some { cls := .type "function", data := .func fd249 } := by kernel_rfl
theorem kc249 (P : Params) : codeIn (myK P) fd249.code fd249.qualname = true := by kernel_rfl
noncomputable abbrev fd256 : FuncData := fdOf (stAt 24) "normpath" .none (.str "cpy313.posixpath" 496) 255
theorem kf256 (P : Params) : (myK P).lookup 256 = some { cls := .type "function", data := .func fd256 } := by kernel_rfl
theorem kc256 (P : Params) : codeIn (myK P) fd256.code fd256.qualname = true := by kernel_rfl
noncomputable abbrev fd263 : FuncData := fdOf (stAt 26) "_law_names" .none (.str "law_om0109_01" 541) 262
theorem kf263 (P : Params) : (myK P).lookup 263 = some { cls := .type "function", data := .func fd263 } := by kernel_rfl
theorem kc263 (P : Params) : codeIn (myK P) fd263.code fd263.qualname = true := by kernel_rfl
noncomputable abbrev fd270 : FuncData := fdOf (stAt 27) "_law_spelled" .none (.str "law_om0109_01" 541) 269
theorem kf270 (P : Params) : (myK P).lookup 270 = some { cls := .type "function", data := .func fd270 } := by kernel_rfl
theorem kc270 (P : Params) : codeIn (myK P) fd270.code fd270.qualname = true := by kernel_rfl
noncomputable abbrev fd275 : FuncData := fdOf (stAt 28) "_law_empty" .none (.str "law_om0109_01" 541) 274
theorem kf275 (P : Params) : (myK P).lookup 275 = some { cls := .type "function", data := .func fd275 } := by kernel_rfl
theorem kc275 (P : Params) : codeIn (myK P) fd275.code fd275.qualname = true := by kernel_rfl
noncomputable abbrev fd282 : FuncData := fdOf (stAt 29) "_law_put" .none (.str "law_om0109_01" 541) 281
theorem kf282 (P : Params) : (myK P).lookup 282 = some { cls := .type "function", data := .func fd282 } := by kernel_rfl
theorem kc282 (P : Params) : codeIn (myK P) fd282.code fd282.qualname = true := by kernel_rfl
noncomputable abbrev fd287 : FuncData := fdOf (stAt 30) "_law_tree" .none (.str "law_om0109_01" 541) 286
theorem kf287 (P : Params) : (myK P).lookup 287 = some { cls := .type "function", data := .func fd287 } := by kernel_rfl
theorem kc287 (P : Params) : codeIn (myK P) fd287.code fd287.qualname = true := by kernel_rfl
noncomputable abbrev fd294 : FuncData := fdOf (stAt 31) "_law_refusal" .none (.str "law_om0109_01" 541) 293
theorem kf294 (P : Params) : (myK P).lookup 294 = some { cls := .type "function", data := .func fd294 } := by kernel_rfl
theorem kc294 (P : Params) : codeIn (myK P) fd294.code fd294.qualname = true := by kernel_rfl
noncomputable abbrev fd299 : FuncData := fdOf (stAt 32) "_law_served" .none (.str "law_om0109_01" 541) 298
theorem kf299 (P : Params) : (myK P).lookup 299 = some { cls := .type "function", data := .func fd299 } := by kernel_rfl
theorem kc299 (P : Params) : codeIn (myK P) fd299.code fd299.qualname = true := by kernel_rfl
noncomputable abbrev fd304 : FuncData := fdOf (stAt 33) "_law_wishes" .none (.str "law_om0109_01" 541) 303
theorem kf304 (P : Params) : (myK P).lookup 304 = some { cls := .type "function", data := .func fd304 } := by kernel_rfl
theorem kc304 (P : Params) : codeIn (myK P) fd304.code fd304.qualname = true := by kernel_rfl
noncomputable abbrev fd309 : FuncData := fdOf (stAt 34) "_law_words" .none (.str "law_om0109_01" 541) 308
theorem kf309 (P : Params) : (myK P).lookup 309 = some { cls := .type "function", data := .func fd309 } := by kernel_rfl
theorem kc309 (P : Params) : codeIn (myK P) fd309.code fd309.qualname = true := by kernel_rfl
noncomputable abbrev fd314 : FuncData := fdOf (stAt 35) "law" .none (.str "law_om0109_01" 541) 313
theorem kf314 (P : Params) : (myK P).lookup 314 = some { cls := .type "function", data := .func fd314 } := by kernel_rfl
theorem kc314 (P : Params) : codeIn (myK P) fd314.code fd314.qualname = true := by kernel_rfl
theorem kn148 (P : Params) : nsIn (myK P) mainGlobals "Int2AP" = some (some (.ref 148)) := by kernel_rfl
theorem kn155 (P : Params) : nsIn (myK P) mainGlobals "_get_sep" = some (some (.ref 155)) := by kernel_rfl
theorem kn228 (P : Params) : nsIn (myK P) mainGlobals "fspath" = some (some (.ref 228)) := by kernel_rfl
theorem kn235 (P : Params) : nsIn (myK P) mainGlobals "splitroot" = some (some (.ref 235)) := by kernel_rfl
theorem kn242 (P : Params) : nsIn (myK P) mainGlobals "basename" = some (some (.ref 242)) := by kernel_rfl
theorem kn249 (P : Params) : nsIn (myK P) mainGlobals "dirname" = some (some (.ref 249)) := by kernel_rfl
theorem kn256 (P : Params) : nsIn (myK P) mainGlobals "normpath" = some (some (.ref 256)) := by kernel_rfl
theorem kn263 (P : Params) : nsIn (myK P) mainGlobals "_law_names" = some (some (.ref 263)) := by kernel_rfl
theorem kn270 (P : Params) : nsIn (myK P) mainGlobals "_law_spelled" = some (some (.ref 270)) := by kernel_rfl
theorem kn275 (P : Params) : nsIn (myK P) mainGlobals "_law_empty" = some (some (.ref 275)) := by kernel_rfl
theorem kn282 (P : Params) : nsIn (myK P) mainGlobals "_law_put" = some (some (.ref 282)) := by kernel_rfl
theorem kn287 (P : Params) : nsIn (myK P) mainGlobals "_law_tree" = some (some (.ref 287)) := by kernel_rfl
theorem kn294 (P : Params) : nsIn (myK P) mainGlobals "_law_refusal" = some (some (.ref 294)) := by kernel_rfl
theorem kn299 (P : Params) : nsIn (myK P) mainGlobals "_law_served" = some (some (.ref 299)) := by kernel_rfl
theorem kn304 (P : Params) : nsIn (myK P) mainGlobals "_law_wishes" = some (some (.ref 304)) := by kernel_rfl
theorem kn309 (P : Params) : nsIn (myK P) mainGlobals "_law_words" = some (some (.ref 309)) := by kernel_rfl
theorem kn314 (P : Params) : nsIn (myK P) mainGlobals "law" = some (some (.ref 314)) := by kernel_rfl
theorem kn_NODE_OUT (P : Params) : nsIn (myK P) mainGlobals "_NODE_OUT" = some (some (.int (-1) 197)) := by kernel_rfl
theorem kn_NODE_DONE (P : Params) : nsIn (myK P) mainGlobals "_NODE_DONE" = some (some (.int (-2) 200)) := by kernel_rfl
theorem kn_NodeInfo (P : Params) : nsIn (myK P) mainGlobals "_NodeInfo" = some (some (.ref 40)) := by kernel_rfl
theorem kn_TopologicalSorter (P : Params) : nsIn (myK P) mainGlobals "TopologicalSorter" = some (some (.ref 137)) := by kernel_rfl
theorem kb_len (P : Params) : nsIn (myK P) mainGlobals "len" = some none := by kernel_rfl
theorem bb_len : bootBuiltins "len" = some (.builtin "len") := by decide +kernel
theorem kb_tuple (P : Params) : nsIn (myK P) mainGlobals "tuple" = some none := by kernel_rfl
theorem bb_tuple : bootBuiltins "tuple" = some (.type "tuple") := by decide +kernel
theorem kb_ValueError (P : Params) : nsIn (myK P) mainGlobals "ValueError" = some none := by kernel_rfl
theorem bb_ValueError : bootBuiltins "ValueError" = some (.type "ValueError") := by decide +kernel
theorem kb_bool (P : Params) : nsIn (myK P) mainGlobals "bool" = some none := by kernel_rfl
theorem bb_bool : bootBuiltins "bool" = some (.type "bool") := by decide +kernel
theorem kb_set (P : Params) : nsIn (myK P) mainGlobals "set" = some none := by kernel_rfl
theorem bb_set : bootBuiltins "set" = some (.type "set") := by decide +kernel
theorem kb_iter (P : Params) : nsIn (myK P) mainGlobals "iter" = some none := by kernel_rfl
theorem bb_iter : bootBuiltins "iter" = some (.builtin "iter") := by decide +kernel
theorem kb_StopIteration (P : Params) : nsIn (myK P) mainGlobals "StopIteration" = some none := by kernel_rfl
theorem bb_StopIteration : bootBuiltins "StopIteration" = some (.type "StopIteration") := by decide +kernel
theorem kb_int (P : Params) : nsIn (myK P) mainGlobals "int" = some none := by kernel_rfl
theorem bb_int : bootBuiltins "int" = some (.type "int") := by decide +kernel
theorem kb_abs (P : Params) : nsIn (myK P) mainGlobals "abs" = some none := by kernel_rfl
theorem bb_abs : bootBuiltins "abs" = some (.builtin "abs") := by decide +kernel
theorem kb_divmod (P : Params) : nsIn (myK P) mainGlobals "divmod" = some none := by kernel_rfl
theorem bb_divmod : bootBuiltins "divmod" = some (.builtin "divmod") := by decide +kernel
theorem kb_isinstance (P : Params) : nsIn (myK P) mainGlobals "isinstance" = some none := by kernel_rfl
theorem bb_isinstance : bootBuiltins "isinstance" = some (.builtin "isinstance") := by decide +kernel
theorem kb_bytes (P : Params) : nsIn (myK P) mainGlobals "bytes" = some none := by kernel_rfl
theorem bb_bytes : bootBuiltins "bytes" = some (.type "bytes") := by decide +kernel
theorem kb_type (P : Params) : nsIn (myK P) mainGlobals "type" = some none := by kernel_rfl
theorem bb_type : bootBuiltins "type" = some (.type "type") := by decide +kernel
theorem kb_issubclass (P : Params) : nsIn (myK P) mainGlobals "issubclass" = some none := by kernel_rfl
theorem bb_issubclass : bootBuiltins "issubclass" = some (.builtin "issubclass") := by decide +kernel
theorem kb_str (P : Params) : nsIn (myK P) mainGlobals "str" = some none := by kernel_rfl
theorem bb_str : bootBuiltins "str" = some (.type "str") := by decide +kernel
theorem kb_range (P : Params) : nsIn (myK P) mainGlobals "range" = some none := by kernel_rfl
theorem bb_range : bootBuiltins "range" = some (.type "range") := by decide +kernel
theorem kb_sorted (P : Params) : nsIn (myK P) mainGlobals "sorted" = some none := by kernel_rfl
theorem bb_sorted : bootBuiltins "sorted" = some (.builtin "sorted") := by decide +kernel
theorem kb_sum (P : Params) : nsIn (myK P) mainGlobals "sum" = some none := by kernel_rfl
theorem bb_sum : bootBuiltins "sum" = some (.builtin "sum") := by decide +kernel
theorem kb_min (P : Params) : nsIn (myK P) mainGlobals "min" = some none := by kernel_rfl
theorem bb_min : bootBuiltins "min" = some (.builtin "min") := by decide +kernel
theorem kb_max (P : Params) : nsIn (myK P) mainGlobals "max" = some none := by kernel_rfl
theorem bb_max : bootBuiltins "max" = some (.builtin "max") := by decide +kernel
end Mine
end
section
open PySem PySem.W PySem.Calls PyProof.Rows
namespace Mine
theorem ex2 {α1 α2 : Type} {P : α1 → α2 → Prop} (a1 : α1) (a2 : α2) (h : P a1 a2) : ∃ a1 a2, P a1 a2 := ⟨a1, a2, h⟩
theorem ex3 {α1 α2 α3 : Type} {P : α1 → α2 → α3 → Prop} (a1 : α1) (a2 : α2) (a3 : α3) (h : P a1 a2 a3) : ∃ a1 a2 a3, P a1 a2 a3 := ⟨a1, a2, a3, h⟩
theorem ex7 {α1 α2 α3 α4 α5 α6 α7 : Type} {P : α1 → α2 → α3 → α4 → α5 → α6 → α7 → Prop} (a1 : α1) (a2 : α2) (a3 : α3) (a4 : α4) (a5 : α5) (a6 : α6) (a7 : α7) (h : P a1 a2 a3 a4 a5 a6 a7) : ∃ a1 a2 a3 a4 a5 a6 a7, P a1 a2 a3 a4 a5 a6 a7 := ⟨a1, a2, a3, a4, a5, a6, a7, h⟩
noncomputable def KD (P : Params) (x : PySem.Str) (f : Addr) (fd : FuncData) : Prop := nsIn (myK P) mainGlobals x = some (some (.ref f)) ∧ (myK P).lookup f = some { cls := .type "function", data := .func fd }
noncomputable def KB (P : Params) (x : PySem.Str) (v : PySem.Value) : Prop := nsIn (myK P) mainGlobals x = some none ∧ bootBuiltins x = some v
noncomputable def KM (T : String) (name : PySem.Str) (id : String) : Prop := PlainAttrs T ∧ Slot T name id ∧ typeOf (.builtin id) = pure (.type "method_descriptor")
theorem kd228 (P : Params) : KD P "fspath" 228 fd228 := ⟨kn228 P, kf228 P⟩
theorem kd155 (P : Params) : KD P "_get_sep" 155 fd155 := ⟨kn155 P, kf155 P⟩
theorem kd235 (P : Params) : KD P "splitroot" 235 fd235 := ⟨kn235 P, kf235 P⟩
theorem kd242 (P : Params) : KD P "basename" 242 fd242 := ⟨kn242 P, kf242 P⟩
theorem kd249 (P : Params) : KD P "dirname" 249 fd249 := ⟨kn249 P, kf249 P⟩
theorem kd256 (P : Params) : KD P "normpath" 256 fd256 := ⟨kn256 P, kf256 P⟩
theorem kd270 (P : Params) : KD P "_law_spelled" 270 fd270 := ⟨kn270 P, kf270 P⟩
theorem kd275 (P : Params) : KD P "_law_empty" 275 fd275 := ⟨kn275 P, kf275 P⟩
theorem kd282 (P : Params) : KD P "_law_put" 282 fd282 := ⟨kn282 P, kf282 P⟩
theorem kd287 (P : Params) : KD P "_law_tree" 287 fd287 := ⟨kn287 P, kf287 P⟩
theorem kd294 (P : Params) : KD P "_law_refusal" 294 fd294 := ⟨kn294 P, kf294 P⟩
theorem kd299 (P : Params) : KD P "_law_served" 299 fd299 := ⟨kn299 P, kf299 P⟩
theorem kd304 (P : Params) : KD P "_law_wishes" 304 fd304 := ⟨kn304 P, kf304 P⟩
theorem kd309 (P : Params) : KD P "_law_words" 309 fd309 := ⟨kn309 P, kf309 P⟩
theorem kd148 (P : Params) : KD P "Int2AP" 148 fd148 := ⟨kn148 P, kf148 P⟩
theorem kbb_isinstance (P : Params) : KB P "isinstance" (.builtin "isinstance") := ⟨kb_isinstance P, bb_isinstance⟩
theorem kbb_issubclass (P : Params) : KB P "issubclass" (.builtin "issubclass") := ⟨kb_issubclass P, bb_issubclass⟩
theorem kbb_len (P : Params) : KB P "len" (.builtin "len") := ⟨kb_len P, bb_len⟩
theorem kbb_abs (P : Params) : KB P "abs" (.builtin "abs") := ⟨kb_abs P, bb_abs⟩
theorem kbb_divmod (P : Params) : KB P "divmod" (.builtin "divmod") := ⟨kb_divmod P, bb_divmod⟩
theorem kbb_sum (P : Params) : KB P "sum" (.builtin "sum") := ⟨kb_sum P, bb_sum⟩
theorem kbb_min (P : Params) : KB P "min" (.builtin "min") := ⟨kb_min P, bb_min⟩
theorem kbb_max (P : Params) : KB P "max" (.builtin "max") := ⟨kb_max P, bb_max⟩
theorem kbb_iter (P : Params) : KB P "iter" (.builtin "iter") := ⟨kb_iter P, bb_iter⟩
theorem kbb_sorted (P : Params) : KB P "sorted" (.builtin "sorted") := ⟨kb_sorted P, bb_sorted⟩
theorem kbb_type (P : Params) : KB P "type" (.type "type") := ⟨kb_type P, bb_type⟩
theorem kbb_int (P : Params) : KB P "int" (.type "int") := ⟨kb_int P, bb_int⟩
theorem kbb_bool (P : Params) : KB P "bool" (.type "bool") := ⟨kb_bool P, bb_bool⟩
theorem kbb_tuple (P : Params) : KB P "tuple" (.type "tuple") := ⟨kb_tuple P, bb_tuple⟩
theorem kbb_range (P : Params) : KB P "range" (.type "range") := ⟨kb_range P, bb_range⟩
theorem km_str_rfind : KM "str" "rfind" "str.rfind" := ⟨F.plainAttrs_str, F.slot_str_rfind, F.type_str_rfind⟩
theorem km_str_rstrip : KM "str" "rstrip" "str.rstrip" := ⟨F.plainAttrs_str, F.slot_str_rstrip, F.type_str_rstrip⟩
theorem km_str_split : KM "str" "split" "str.split" := ⟨F.plainAttrs_str, F.slot_str_split, F.type_str_split⟩
theorem km_str_join : KM "str" "join" "str.join" := ⟨F.plainAttrs_str, F.slot_str_join, F.type_str_join⟩
theorem km_list_append : KM "list" "append" "list.append" := ⟨F.plainAttrs_list, F.slot_list_append, F.type_list_append⟩
theorem km_list_index : KM "list" "index" "list.index" := ⟨F.plainAttrs_list, F.slot_list_index, F.type_list_index⟩
theorem km_dict_get : KM "dict" "get" "dict.get" := ⟨F.plainAttrs_dict, F.slot_dict_get, F.type_dict_get⟩
theorem km_set_add : KM "set" "add" "set.add" := ⟨F.plainAttrs_set, F.slot_set_add, F.type_set_add⟩
theorem km_list_pop : KM "list" "pop" "list.pop" := ⟨F.plainAttrs_list, F.slot_list_pop, F.type_list_pop⟩
theorem km_list_clear : KM "list" "clear" "list.clear" := ⟨F.plainAttrs_list, F.slot_list_clear, F.type_list_clear⟩
theorem km_dict_values : KM "dict" "values" "dict.values" := ⟨F.plainAttrs_dict, F.slot_dict_values, F.type_dict_values⟩
section
variable {g : Gd} {n : Nat} {env : Env} {loc : Loc} {hp : HP} {nms : List (PySem.Str × NameKind)} {cs : List (PySem.Str × Addr)}
theorem DD_ {x : PySem.Str} {f : Addr} {fd : FuncData} {p pos : Pos} {e : PySem.Expr} {es : List PySem.Expr} {Q : AV → Loc → HP → Prop} (F : FEnv env nms cs) (G : Gnd g) (k : KD g.w.params x f fd)
    (hl : nms.lookup x = some .globalImplicit) (hd : (x == ("__debug__" : PySem.Str)) = false) (he : starEach (e :: es) env = (false, eval e env) :: starEach es env)
    (h : ES g n env pos (e :: es) loc hp fun xs l h => ∀ vs, Vs xs vs → WB g n env.locals (call (.ref f) vs) l h AV.Is Q) : EV g n env (.Call (.Name x p) (e :: es) [] pos) loc hp Q :=
  D_ F G k.1 k.2 hl hd he h
theorem BBF_ {x : PySem.Str} {id : String} {p pos : Pos} {e : PySem.Expr} {es : List PySem.Expr} {Q : AV → Loc → HP → Prop} (F : FEnv env nms cs) (G : Gnd g) (k : KB g.w.params x (.builtin id))
    (hl : nms.lookup x = some .globalImplicit) (hne : x ≠ "__name__") (hd : (x == ("__debug__" : PySem.Str)) = false) (he : starEach (e :: es) env = (false, eval e env) :: starEach es env) (hplain : (backTo pos (starEach es env)).any (·.1) = false)
    (h : ES g n env pos (e :: es) loc hp fun xs l h => ∀ vs, Vs xs vs → WB g n env.locals (call (.builtin id) vs) l h AV.Is Q) : EV g n env (.Call (.Name x p) (e :: es) [] pos) loc hp Q :=
  BF_ F G k.1 k.2 hl hne hd he hplain h
theorem BBT_ {x : PySem.Str} {T' : String} {p pos : Pos} {e : PySem.Expr} {es : List PySem.Expr} {Q : AV → Loc → HP → Prop} (F : FEnv env nms cs) (G : Gnd g) (k : KB g.w.params x (.type T'))
    (hl : nms.lookup x = some .globalImplicit) (hne : x ≠ "__name__") (hd : (x == ("__debug__" : PySem.Str)) = false) (he : starEach (e :: es) env = (false, eval e env) :: starEach es env) (hplain : (backTo pos (starEach es env)).any (·.1) = false)
    (h : ES g n env pos (e :: es) loc hp fun xs l h => ∀ vs, Vs xs vs → WB g n env.locals (call (.type T') vs) l h AV.Is Q) : EV g n env (.Call (.Name x p) (e :: es) [] pos) loc hp Q :=
  BT_ F G k.1 k.2 hl hne hd he hplain h
theorem EMETH_ {o : PySem.Expr} {name : PySem.Str} {apos pos : Pos} {e : PySem.Expr} {es : List PySem.Expr} {T id : String} {Q : AV → Loc → HP → Prop} (k : KM T name id)
    (h : EV g n env o loc hp fun a l₁ h₁ => aty h₁ a = some T ∧ ES g n env pos (e :: es) l₁ h₁ fun xs l₂ h₂ => ∀ va vs, a.Is va → Vs xs vs → WB g n env.locals (call (.builtin id) (va :: vs)) l₂ h₂ AV.Is Q)
    (hbase : attributeBase o name env (eval o env) = eval o env := by rfl)
    (hfew : ((backTo pos (starEach (e :: es) env)).all (fun x => !x.1) && (backToKw pos (keywordEach [] env)).all (fun x => x.1.isSome)
      && decide ((e :: es).length + ([] : List Keyword).length + (if ([] : List Keyword).isEmpty then 0 else 1) < 30)) = true := by rfl)
    (hline : (apos.endLine == pos.line) = true := by rfl)
    (he : starEach (e :: es) env = (false, eval e env) :: starEach es env := by rfl) (hplain : (backTo pos (starEach es env)).any (·.1) = false := by rfl) :
    EV g n env (.Call (.Attribute o name apos) (e :: es) [] pos) loc hp Q :=
  EV_meth k.1 k.2.1 k.2.2 h hbase hfew hline he hplain
theorem EMETH0_ {o : PySem.Expr} {name : PySem.Str} {apos pos : Pos} {T id : String} {Q : AV → Loc → HP → Prop} (k : KM T name id)
    (h : EV g n env o loc hp fun a l₁ h₁ => aty h₁ a = some T ∧ ∀ va, a.Is va → WB g n env.locals (call (.builtin id) [va]) l₁ h₁ AV.Is Q)
    (hbase : attributeBase o name env (eval o env) = eval o env := by rfl)
    (hline : (apos.endLine == pos.line) = true := by rfl) :
    EV g n env (.Call (.Attribute o name apos) [] [] pos) loc hp Q :=
  EV_meth0 k.1 k.2.1 k.2.2 h hbase hline
end
set_option hygiene false in
/-- the first of the rules named in s that fits -/
def alts (s : String) (k : Lean.TSyntax `ident → Lean.MacroM (Lean.TSyntax `tactic)) : Lean.MacroM (Lean.TSyntax `tactic) := do
  let A ← (s.splitOn " ").toArray.mapM fun n => k (Lean.mkIdent (.mkSimple n))
  `(tactic| with_reducible first $[| $A:tactic]*)
end Mine
end
section
open PySem PySem.W PySem.Calls PyProof.Rows
set_option maxHeartbeats 2000000
set_option compiler.extract_closed false
namespace Mine
set_option hygiene false
local macro_rules | `(tactic| walk_at "r1") => `(tactic| (exact rfl))
local macro_rules | `(tactic| walk_at "r2") => `(tactic| (exact rfl; exact rfl))
local macro_rules | `(tactic| walk_at "r3") => `(tactic| (exact rfl; exact rfl; exact rfl))
local macro_rules | `(tactic| walk_at "r4") => `(tactic| (exact rfl; exact rfl; exact rfl; exact rfl))
local macro_rules | `(tactic| walk_at "o1") => `(tactic| (rotate_left; exact rfl; rotate_right))
local macro_rules | `(tactic| walk_at "o2") => `(tactic| (rotate_left; exact rfl; exact rfl; rotate_right))
local macro_rules | `(tactic| walk_at "o5") => `(tactic| (rotate_left; exact rfl; exact rfl; exact rfl; exact rfl; exact rfl; rotate_right))
local macro_rules | `(tactic| walk_at "nm") => `(tactic| first
  | refine L_ (by assumption) rfl rfl rfl ?_
  | walk_at "nm2")
local macro_rules | `(tactic| walk_at "nm2") => `(tactic| ((with_reducible (first | refine BN_ (by assumption) (by assumption) (kb_bytes _) bb_bytes ?_ (by decide) ?_ ?_ | refine BN_ (by assumption) (by assumption) (kb_str _) bb_str ?_ (by decide) ?_ ?_)); walk_at "r2"))
local macro_rules | `(tactic| walk_at "kn") => alts "kd228 kd155 kd235 kd242 kd249 kd256 kd270 kd275 kd282 kd287 kd294 kd299 kd304 kd309 kd148" fun i => `(tactic| exact $i _)
local macro_rules | `(tactic| walk_at "kb") => alts "kbb_isinstance kbb_issubclass kbb_len kbb_abs kbb_divmod kbb_sum kbb_min kbb_max kbb_iter kbb_sorted" fun i => `(tactic| exact $i _)
local macro_rules | `(tactic| walk_at "kt") => alts "kbb_type kbb_int kbb_bool kbb_tuple kbb_range" fun i => `(tactic| exact $i _)
local macro_rules | `(tactic| walk_at "km") => alts "km_str_rfind km_str_rstrip km_str_split km_str_join km_list_append km_list_index km_dict_get km_set_add" fun i => `(tactic| exact $i)
local macro_rules | `(tactic| walk_at "ko") => alts "km_list_pop km_list_clear km_dict_values" fun i => `(tactic| exact $i)
local macro_rules | `(tactic| walk_at "cl") => `(tactic| first
  | ((with_reducible refine DD_ (by assumption) (by assumption) (by walk_at "kn") ?_ ?_ ?_ ?_); walk_at "r3")
  | ((with_reducible refine D0_ (by assumption) (by assumption) (kn263 _) (kf263 _) ?_ ?_ ?_); walk_at "r2")
  | ((with_reducible refine BBF_ (by assumption) (by assumption) (by walk_at "kb") ?_ (by decide) ?_ ?_ ?_ ?_); walk_at "r4")
  | ((with_reducible refine BBT_ (by assumption) (by assumption) (by walk_at "kt") ?_ (by decide) ?_ ?_ ?_ ?_); walk_at "r4"))
local macro_rules | `(tactic| walk_at "me") => `(tactic| first
  | ((with_reducible refine EMETH_ (by walk_at "km") ?_ ?_ ?_ ?_ ?_ ?_); walk_at "o5")
  | ((with_reducible refine EMETH0_ (by walk_at "ko") ?_ ?_ ?_); walk_at "o2"))
local macro_rules | `(tactic| walk_at "st") => do
  let s0 ← alts "XS_cons EX_If EX_Return" fun i => `(tactic| refine $i ?_)
  let s1 ← alts "EX_Assign" fun i => `(tactic| refine $i ?_ ?_)
  let s2 ← alts "X_" fun i => `(tactic| refine $i (by assumption) ?_ ?_)
  let s3 ← alts "EV_int EV_str EV_none EV_bool EV_bytes EV_BinOp" fun i => `(tactic| refine $i ?_)
  let s4 ← alts "EV_Compare ES_cons TT_Compare" fun i => `(tactic| refine $i ?_ ?_)
  let s5 ← alts "EV_Tuple EV_List ES_nil TT_Not TT_BoolOp AL_and_nil AL_or_nil AL_and AL_or" fun i => `(tactic| refine $i ?_)
  let s6 ← alts "TT_value" fun i => `(tactic| refine $i ?_ ?_)
  let s7 ← alts "EP_none EP_some" fun i => `(tactic| refine $i ?_)
  let s8 ← alts "SL_" fun i => `(tactic| refine $i (by assumption) ?_ ?_)
  let s9 ← alts "EV_USub un_neg iNT tru_bool iT iF XS_nil EV_Or2 EV_And2 EV_IfExp cmp_ne_str cmp_eq_str bin_add bin_sub cmp_eq_int cmp_ne_int cmp_lt_int cmp_gt_int cmp_ge_int EX_Break EX_Continue" fun i => `(tactic| refine $i ?_)
  `(tactic| first
    | $s0:tactic
    | ((with_reducible refine gName ?_); walk_at "nm")
    | ((with_reducible refine gCall ?_); walk_at "cl")
    | ($s1:tactic; walk_at "o1")
    | ($s2:tactic; walk_at "r1")
    | ((with_reducible refine gMeth ?_); walk_at "me")
    | $s3:tactic
    | ($s4:tactic; walk_at "o1")
    | $s5:tactic
    | ($s6:tactic; walk_at "o1")
    | $s7:tactic
    | ($s8:tactic; walk_at "r1")
    | $s9:tactic)
local macro_rules | `(tactic| walk_at "go") => `(tactic| repeat (first | walk_at "st" | with_reducible refine EV_Sub_slice_str ?_))
local macro_rules | `(tactic| walk_at "gb") => `(tactic| repeat walk_at "st")
section
variable {g : Gd} {n : Nat} {L : Addr} {loc : Loc} {hp : HP}
theorem c_getsep (G : Gnd g) {x : PySem.Str} {Q : AV → Loc → HP → Prop} (q : Q (.str "/") loc hp) : ∀ vs, Vs [.str x] vs → WB g (n + 1) L (call (.ref 155) vs) loc hp AV.Is Q := by
  intro vs hv
  obtain ⟨t, rfl⟩ := Vs1 hv
  refine WB.lift (W_call (binds := [("path", .str x t)]) (bl := [("path", .str x)]) G (kf155 _) (kc155 _) rfl rfl ⟨rfl, rfl, rfl⟩ rfl ⟨rfl, ⟨t, rfl⟩, trivial⟩ rfl rfl ⟨rfl, rfl, rfl⟩ ?_)
  intro env F hL
  walk_at "go"
  refine c_isi_bytes ?_
  walk_at "go"
  exact q
theorem c_fspath (G : Gnd g) {x : PySem.Str} {Q : AV → Loc → HP → Prop} (q : Q (.str x) loc hp) : ∀ vs, Vs [.str x] vs → WB g (n + 1) L (call (.ref 228) vs) loc hp AV.Is Q := by
  intro vs hv
  obtain ⟨t, rfl⟩ := Vs1 hv
  refine WB.lift (WH.post (Q := fun v h => v = .str x ∧ hp.Sub h) ?_ (by rintro _ h ⟨rfl, hs⟩; exact ⟨hp, hs, q⟩))
  refine W_call (binds := [("path", .str x t)]) (bl := [("path", .str x)]) G (kf228 _) (kc228 _) rfl rfl ⟨rfl, rfl, rfl⟩ rfl ⟨rfl, ⟨t, rfl⟩, trivial⟩ rfl rfl ⟨rfl, rfl, rfl⟩ ?_
  intro env F hL
  walk_at "go"
  refine c_type_str ?_
  walk_at "go"
  refine ⟨by decide, fun a ha => ?_⟩
  walk_at "go"
  refine c_issub (by simp) ?_
  walk_at "go"
  exact ⟨rfl, HP.sub_set ha⟩
end
section
variable {g : Gd} {n : Nat} {L : Addr} {loc : Loc} {hp : HP}
noncomputable def bname (x : PySem.Str) : PySem.Str := Txt.slice x (some (Txt.rfind x "/" + 1)) none
theorem c_basename (G : Gnd g) {x : PySem.Str} {Q : AV → Loc → HP → Prop} (hz : x.length ≤ 100000) (q : Q (.str (bname x)) loc hp) : ∀ vs, Vs [.str x] vs → WB g (n + 2) L (call (.ref 242) vs) loc hp AV.Is Q := by
  intro vs hv
  obtain ⟨t, rfl⟩ := Vs1 hv
  refine WB.lift (W_call (binds := [("p", .str x t)]) (bl := [("p", .str x)]) G (kf242 _) (kc242 _) rfl rfl ⟨rfl, rfl, rfl⟩ rfl ⟨rfl, ⟨t, rfl⟩, trivial⟩ rfl rfl ⟨rfl, rfl, rfl⟩ ?_)
  intro env F hL
  walk_at "go"
  refine c_fspath G ?_
  walk_at "go"
  refine c_getsep G ?_
  walk_at "go"
  refine ⟨rfl, ?_⟩
  walk_at "go"
  refine c_rfind ?_
  walk_at "go"
  exact ⟨x, _, _, rfl, rfl, rfl, hz, q⟩
noncomputable def dnameOf (head : PySem.Str) : PySem.Str := if ((head.length : Int) != 0) = true ∧ (head != (if (head.length : Int) < 1 then Str.empty else ⟨(List.replicate head.length ("/" : PySem.Str).cps).foldl (· ++ ·) #[]⟩)) = true then Txt.rstripChars head "/" else head
noncomputable def dname (x : PySem.Str) : PySem.Str := dnameOf (Txt.slice x none (some (Txt.rfind x "/" + 1)))
theorem c_len_str {x : PySem.Str} {Q : AV → Loc → HP → Prop} (hz : x.length ≤ 100000) (q : Q (.int (x.length : Nat)) loc hp) : ∀ vs, Vs [.str x] vs → WB g n L (call (.builtin "len") vs) loc hp AV.Is Q := by
  intro vs hv
  obtain ⟨t, rfl⟩ := Vs1 hv
  exact WB_puts (v := .int (x.length : Nat)) (fun A E s Q V h => P.len_str (by have := fit63 hz; lia) (h _ _)) q
theorem rep_toList {α : Type} (a : Array α) : ∀ (k : Nat) (acc : Array α), ((List.replicate k a).foldl (· ++ ·) acc).toList = acc.toList ++ (List.replicate k a.toList).flatten
  | 0, acc => by simp
  | k + 1, acc => by simp [List.replicate_succ, rep_toList a k]
theorem slashes_len (k : Nat) : (⟨(List.replicate k ("/" : PySem.Str).cps).foldl (· ++ ·) #[]⟩ : PySem.Str).length = k := by
  show ((List.replicate k ("/" : PySem.Str).cps).foldl (· ++ ·) #[]).size = k
  rw [← Array.length_toList, rep_toList]
  have : ("/" : PySem.Str).cps.toList = [47] := by decide
  simp [this]
theorem bin_mul_sep {k : Nat} {Q : AV → Loc → HP → Prop} (hz : k ≤ 100000) (q : Q (.str (if (k : Int) < 1 then Str.empty else ⟨(List.replicate k ("/" : PySem.Str).cps).foldl (· ++ ·) #[]⟩)) loc hp) : ∀ va vb, (AV.str "/").Is va → (AV.int (k : Nat)).Is vb → WB g n L (binaryOp .Mult va vb) loc hp AV.Is Q := by
  rintro _ _ ⟨t, rfl⟩ ⟨u, rfl⟩
  refine WB_puts (v := .str (if (k : Int) < 1 then Str.empty else ⟨(List.replicate k ("/" : PySem.Str).cps).foldl (· ++ ·) #[]⟩)) (fun A E s Q V h => ?_) q
  have h63 := fit63 hz
  have hk0 : ¬ (k : Int) < -(2 ^ 63 : Int) := by
    have : (2 : Int) ^ 63 = 9223372036854775808 := by decide
    lia
  refine P.mul_str (by rw [decide_eq_false hk0, decide_eq_false (by lia)]; rfl) (fun h1 V => ?_) (fun h1 V => ?_) ?_
  · have e : (("/" : PySem.Str).length : Int) = 1 := by decide
    have : (1 : Int) ≤ (2 ^ 63 - 1) / (k : Int) := Int.le_ediv_of_mul_le (by lia) (by lia)
    lia
  · have e : ("/" : PySem.Str).length = 1 := by decide
    rw [e, Int.toNat_natCast, Nat.one_mul]
    simp only [Builtin.Str.tooLong, decide_eq_false_iff_not, sizeLine_eq]
    lia
  · by_cases h1 : (k : Int) < 1
    · rw [if_pos h1] at h ⊢; exact ⟨by decide, h _ _⟩
    · rw [if_neg h1] at h ⊢
      cases h2 : ((k : Int) == 1 || ("/" : PySem.Str).length == 0) with
      | true =>
        have hk : k = 1 := by
          have e : (("/" : PySem.Str).length == 0) = false := by decide
          rw [e, Bool.or_false] at h2
          have := eq_of_beq h2
          lia
        subst hk
        rw [if_pos rfl]
        exact h t s.toks
      | false =>
        rw [if_neg (by decide), Int.toNat_natCast]
        exact ⟨by rw [slashes_len]; exact sz_le hz, h _ _⟩
theorem c_dirname (G : Gnd g) {x : PySem.Str} {Q : AV → Loc → HP → Prop} (hz : x.length ≤ 100000) (q : Q (.str (dname x)) loc hp) : ∀ vs, Vs [.str x] vs → WB g (n + 2) L (call (.ref 249) vs) loc hp AV.Is Q := by
  intro vs hv
  obtain ⟨t, rfl⟩ := Vs1 hv
  refine WB.lift (W_call (binds := [("p", .str x t)]) (bl := [("p", .str x)]) G (kf249 _) (kc249 _) rfl rfl ⟨rfl, rfl, rfl⟩ rfl ⟨rfl, ⟨t, rfl⟩, trivial⟩ rfl rfl ⟨rfl, rfl, rfl⟩ ?_)
  intro env F hL
  walk_at "go"
  refine c_fspath G ?_
  walk_at "go"
  refine c_getsep G ?_
  walk_at "go"
  refine ⟨rfl, ?_⟩
  walk_at "go"
  refine c_rfind ?_
  walk_at "go"
  refine ex3 x _ _ ⟨rfl, rfl, rfl, hz, ?_⟩
  have hz' : (Txt.slice x none (some (Txt.rfind x "/" + 1))).length ≤ 100000 := Nat.le_trans (Txt.slice_le x _ _) hz
  unfold dname at q
  revert hz' q
  generalize Txt.slice x none (some (Txt.rfind x "/" + 1)) = head
  intro q hz'
  walk_at "go"
  refine tru_str hz' ?_
  unfold dnameOf at q
  refine iB (fun e1 => ?_) fun e1 => ?_
  · walk_at "go"
    refine c_len_str hz' ?_
    refine bin_mul_sep hz' ?_
    walk_at "go"
    refine ⟨_, rfl, ?_⟩
    refine iB (fun e2 => ?_) fun e2 => ?_
    · walk_at "go"
      refine ⟨rfl, ?_⟩
      walk_at "go"
      refine c_rstrip hz' ?_
      walk_at "go"
      rw [if_pos ⟨e1, e2⟩] at q
      exact q
    · walk_at "go"
      rw [if_neg (fun h => by rw [e2] at h; exact absurd h.2 (by decide))] at q
      exact q
  · walk_at "go"
    rw [if_neg (fun h => by rw [e1] at h; exact absurd h.1 (by decide))] at q
    exact q
end
section
variable {g : Gd} {n : Nat} {L : Addr} {loc : Loc} {hp : HP}
noncomputable def srR (x : PySem.Str) : PySem.Str := if (Txt.slice x none (some 1) != "/") = true then "" else if (Txt.slice x (some 1) (some 2) != "/") = true then "/" else if (Txt.slice x (some 2) (some 3) == "/") = true then "/" else Txt.slice x none (some 2)
noncomputable def srP (x : PySem.Str) : PySem.Str := if (Txt.slice x none (some 1) != "/") = true then x else if (Txt.slice x (some 1) (some 2) != "/") = true then Txt.slice x (some 1) none else if (Txt.slice x (some 2) (some 3) == "/") = true then Txt.slice x (some 1) none else Txt.slice x (some 2) none
theorem c_splitroot (G : Gnd g) {x : PySem.Str} {Q : AV → Loc → HP → Prop} (hz : x.length ≤ 100000) (q : ∀ t, hp t = none → Q (.ref t) loc (hp.set t (.tuple [.str "", .str (srR x), .str (srP x)]))) : ∀ vs, Vs [.str x] vs → WB g (n + 2) L (call (.ref 235) vs) loc hp AV.Is Q := by
  intro vs hv
  obtain ⟨t, rfl⟩ := Vs1 hv
  refine WB.lift (W_call (binds := [("p", .str x t)]) (bl := [("p", .str x)]) G (kf235 _) (kc235 _) rfl rfl ⟨rfl, rfl, rfl⟩ rfl ⟨rfl, ⟨t, rfl⟩, trivial⟩ rfl rfl ⟨rfl, rfl, rfl⟩ ?_)
  intro env F hL
  walk_at "go"
  refine c_fspath G ?_
  walk_at "go"
  refine c_isi_bytes ?_
  walk_at "go"
  refine ex3 x _ _ ⟨rfl, rfl, rfl, hz, ?_⟩
  walk_at "go"
  refine ⟨_, rfl, ?_⟩
  unfold srR srP at q
  refine iB (fun e1 => ?_) fun e1 => ?_
  · walk_at "go"
    simp only [e1, if_true] at q
    exact ⟨by simp, fun a ha => q a ha⟩
  · simp only [e1, Bool.false_eq_true, if_false] at q
    walk_at "go"
    refine ex3 x _ _ ⟨rfl, rfl, rfl, hz, ?_⟩
    walk_at "go"
    refine ⟨_, rfl, ?_⟩
    refine iB (fun e2 => ?_) fun e2 => ?_
    · simp only [e2, if_true] at q
      walk_at "go"
      refine ex3 x _ _ ⟨rfl, rfl, rfl, hz, ?_⟩
      walk_at "go"
      exact ⟨by simp, fun a ha => q a ha⟩
    · simp only [e2, Bool.false_eq_true, if_false] at q
      walk_at "go"
      refine ex3 x _ _ ⟨rfl, rfl, rfl, hz, ?_⟩
      walk_at "go"
      refine ⟨_, rfl, ?_⟩
      refine iB (fun e3 => ?_) fun e3 => ?_
      · simp only [e3, if_true] at q
        walk_at "go"
        refine ex3 x _ _ ⟨rfl, rfl, rfl, hz, ?_⟩
        walk_at "go"
        exact ⟨by simp, fun a ha => q a ha⟩
      · simp only [e3, Bool.false_eq_true, if_false] at q
        walk_at "go"
        refine ex3 x _ _ ⟨rfl, rfl, rfl, hz, ?_⟩
        walk_at "go"
        refine ex3 x _ _ ⟨rfl, rfl, rfl, hz, ?_⟩
        walk_at "go"
        exact ⟨by simp, fun a ha => q a ha⟩
/-- one component -/
noncomputable def npStep (r : PySem.Str) (new : List PySem.Str) (c : PySem.Str) : List PySem.Str :=
  if ((c.length : Int) != 0) = false ∨ (c == ".") = true then new else
  if (c != "..") = true ∨ (((r.length : Int) != 0) = false ∧ new = []) ∨ new.getLast? = some (".." : PySem.Str) then new ++ [c] else new.dropLast
noncomputable def npS (x : PySem.Str) : PySem.Str :=
  let p := srR x ++ Txt.join "/" ((Txt.split (srP x) "/").foldl (npStep (srR x)) [])
  if ((p.length : Int) != 0) = true then p else "."
theorem npStep_len (r : PySem.Str) (new : List PySem.Str) (c : PySem.Str) : (npStep r new c).length ≤ new.length + 1 := by
  unfold npStep; split
  · lia
  · split
    · simp
    · simp; lia
theorem npFold_len (r : PySem.Str) : ∀ (cs new : List PySem.Str), (cs.foldl (npStep r) new).length ≤ new.length + cs.length
  | [], new => by simp
  | c :: cs, new => by
    have := npFold_len r cs (npStep r new c)
    have := npStep_len r new c
    rw [List.foldl_cons, List.length_cons]; lia
theorem strsA_append (a b : List PySem.Str) : strsA (a ++ b) = strsA a ++ strsA b := by simp [strsA]
theorem TT_pure {env : Env} {e : PySem.Expr} {φ : Prop} {Q : Bool → Loc → HP → Prop} (h1 : TT g n env e loc hp fun b l h => l = loc ∧ h = hp ∧ (b = true ↔ φ)) (h2 : φ → Q true loc hp) (h3 : ¬φ → Q false loc hp) : TT g n env e loc hp Q :=
  WB.mono h1 fun b l h ⟨e1, e2, e3⟩ => by
    subst e1 e2
    cases b with
    | true => exact h2 (e3.mp rfl)
    | false => exact h3 fun z => by cases e3.mpr z
theorem c_normpath (G : Gnd g) {x : PySem.Str} {Q : AV → Loc → HP → Prop} (hz : x.length ≤ 10000) (hx : ((x.length : Int) != 0) = true) (hsp : (Txt.split (srP x) "/").length ≤ 50000) (hcz : ∀ c ∈ Txt.split (srP x) "/", c.length ≤ 100000)
    (hsp2 : (Builtin.Str.partsBetween (srP x) (Builtin.Str.occurrences (srP x) "/" 0 (srP x).length ((srP x).length + 1)) ("/" : PySem.Str).length).length ≤ 100000)
    (hok : JoinOk "/" ((Txt.split (srP x) "/").foldl (npStep (srR x)) []) = true) (hjl : (srR x).length + (Txt.join "/" ((Txt.split (srP x) "/").foldl (npStep (srR x)) [])).length ≤ 100000)
    (q : Q (.str (npS x)) loc hp) : ∀ vs, Vs [.str x] vs → WB g (n + 3) L (call (.ref 256) vs) loc hp AV.Is Q := by
  intro vs hv
  obtain ⟨t, rfl⟩ := Vs1 hv
  have hokP : PLift (JoinOk "/" ((Txt.split (srP x) "/").foldl (npStep (srR x)) []) = true) := ⟨hok⟩
  clear hok
  refine WB.lift (WH.post (Q := fun v h => v = .str (npS x) ∧ hp.Sub h) ?_ (by rintro _ h ⟨rfl, hs⟩; exact ⟨hp, hs, q⟩))
  refine W_call (binds := [("path", .str x t)]) (bl := [("path", .str x)]) G (kf256 _) (kc256 _) rfl rfl ⟨rfl, rfl, rfl⟩ rfl ⟨rfl, ⟨t, rfl⟩, trivial⟩ rfl rfl ⟨rfl, rfl, rfl⟩ ?_
  intro env F hL
  walk_at "go"
  refine c_fspath G ?_
  walk_at "go"
  refine c_isi_bytes ?_
  walk_at "go"
  refine tru_str (by lia) ?_
  rw [hx]
  walk_at "go"
  refine EX_TupAssign (ns := ["_", "initial_slashes", "path"]) ?s1 ?_ ?s2 ?s3
  case s1 => exact rfl
  case s2 => exact rfl
  case s3 => exact rfl
  walk_at "go"
  refine c_splitroot G (by lia) fun tt htt => ?_
  refine ex2 tt _ ⟨rfl, HP.set_self _ _ _, rfl, ?_⟩
  refine SN_cons (SL_ F rfl (SN_cons (SL_ F rfl (SN_cons (SL_ F rfl (SN_nil ?_))))))
  refine WB.sub (hp' := hp) ?_ (HP.sub_set htt)
  walk_at "go"
  refine ⟨rfl, ?_⟩
  walk_at "go"
  have hsr : (srP x).length ≤ 10000 := by
    have := Txt.slice_le x (some 1) none
    have := Txt.slice_le x (some 2) none
    unfold srP; split
    · exact hz
    · split
      · lia
      · split <;> lia
  refine c_split (by decide) (by lia) hsp2 fun D hD => ?_
  walk_at "go"
  refine ⟨by simp, fun nl hnl => ?_⟩
  walk_at "go"
  have hne : nl ≠ D := by rintro rfl; simp at hnl
  have hnl0 : hp nl = none := by rw [HP.set_ne hne] at hnl; exact hnl
  refine EX_ForN ?_ (fun V => rfl)
  walk_at "go"
  obtain ⟨J1, hJ1⟩ : ∃ J1 : Nat → Loc → HP → Prop, ∀ i l h, J1 i l h ↔ (Lsub [("sep", .str "/"), ("dot", .str "."), ("dotdot", .str ".."), ("initial_slashes", .str (srR x)), ("new_comps", .ref nl)] l ∧ (hp.set nl (.list (strsA (((Txt.split (srP x) "/").take i).foldl (npStep (srR x)) [])))).Sub h) := ⟨_, fun V V V => Iff.rfl⟩
  refine ex3 _ _ _ ⟨Src.list (HP.set_of (Ne.symm hne) (HP.set_self _ _ _)), J1, (hJ1 _ _ _).mpr ⟨?_, ?_⟩, ?_, ?_⟩
  · exact Lsub.all ⟨rfl, rfl, rfl, rfl, rfl, trivial⟩
  · rw [HP.set_del_ne hne, HP.set_del, HP.del_none_eq hD]; exact HP.Sub.refl _
  · intro i v l h hi hh
    obtain ⟨hJ, hs⟩ := (hJ1 _ _ _).mp hh
    clear hh
    obtain ⟨c, hc, rfl⟩ : ∃ c, (Txt.split (srP x) "/")[i]? = some c ∧ v = .str c := by
      simp only [strsA, List.getElem?_map, Option.map_eq_some_iff] at hi
      obtain ⟨c, h1, h2⟩ := hi; exact ⟨c, h1, h2.symm⟩
    have htake : ((Txt.split (srP x) "/").take (i + 1)).foldl (npStep (srR x)) [] = npStep (srR x) (((Txt.split (srP x) "/").take i).foldl (npStep (srR x)) []) c := by
      rw [List.take_add_one, hc, List.foldl_append]; rfl
    have hlen : (((Txt.split (srP x) "/").take i).foldl (npStep (srR x)) []).length ≤ 50000 := by
      have := npFold_len (srR x) ((Txt.split (srP x) "/").take i) []
      simp at this; lia
    refine SL_ F rfl (WB.weak hJ.cons hs (WB.mono (Q := OnF (J1 (i + 1))) ?_ ?_))
    rotate_left
    · intro f l h hf
      exact hf
    have hJn : ∀ l h, (Lsub [("sep", .str "/"), ("dot", .str "."), ("dotdot", .str ".."), ("initial_slashes", .str (srR x)), ("new_comps", .ref nl)] l ∧ (hp.set nl (.list (strsA (npStep (srR x) (((Txt.split (srP x) "/").take i).foldl (npStep (srR x)) []) c)))).Sub h) → J1 (i + 1) l h := fun l h e => (hJ1 _ _ _).mpr (by rw [htake]; exact e)
    generalize J1 (i + 1) = Jn at hJn ⊢
    have hcl : c.length ≤ 100000 := hcz c (List.mem_of_getElem? hc)
    have hrl : (srR x).length ≤ 100000 := by lia
    clear hs htake hJ q hc hcz hokP hjl hsp hsp2 hsr hJ1
    revert hlen hJn
    generalize ((Txt.split (srP x) "/").take i).foldl (npStep (srR x)) [] = new
    generalize srR x = r at hrl ⊢
    intro hlen hJn
    have hnlen : (strsA new).length ≤ 100000 := by simp [strsA]; lia
    have stay : ∀ Y, npStep r new c = Y → ∀ h, h = hp.set nl (.list (strsA Y)) → Jn [("comp", .str c), ("sep", .str "/"), ("dot", .str "."), ("dotdot", .str ".."), ("initial_slashes", .str r), ("new_comps", .ref nl)] h := by
      rintro Y rfl h rfl
      exact hJn _ _ ⟨(Lsub.refl _).skip rfl, HP.Sub.refl _⟩
    clear hJn
    walk_at "go"
    refine tru_str hcl ?_
    refine iB (fun e1 => ?_) fun e1 => ?_
    · walk_at "go"
      refine stay new ?_ _ rfl
      unfold npStep; rw [if_pos (.inl (by simpa using e1))]
    walk_at "go"
    refine ⟨_, rfl, ?_⟩
    refine iB (fun e2 => ?_) fun e2 => ?_
    · walk_at "go"
      refine stay new ?_ _ rfl
      unfold npStep; rw [if_pos (.inr e2)]
    have hstep : npStep r new c = if (c != "..") = true ∨ (((r.length : Int) != 0) = false ∧ new = []) ∨ new.getLast? = some (".." : PySem.Str) then new ++ [c] else new.dropLast := by
      unfold npStep
      rw [if_neg]
      rintro (h | h)
      · rw [h] at e1; exact absurd e1 (by decide)
      · rw [h] at e2; exact absurd e2 (by decide)
    walk_at "go"
    refine ⟨_, rfl, ?_⟩
    refine iB (fun e3 => ?_) fun e3 => ?_
    · walk_at "go"
      refine ⟨by simp [aty, AO.ty], ?_⟩
      walk_at "go"
      refine c_append (HP.set_self _ _ _) hnlen ?_
      walk_at "go"
      refine stay (new ++ [c]) (by rw [hstep, if_pos (.inl e3)]) _ (by rw [HP.set_set, strsA_append]; rfl)
    · refine AL_or (TT_pure (φ := ((r.length : Int) != 0) = false ∧ new = []) ?ka (fun hyes => ?kb) (fun hno => ?kc))
      case ka =>
        walk_at "go"
        refine tru_str hrl ?_
        refine iB (fun e4 => ?_) fun e4 => ?_
        · walk_at "go"
          refine tru_list (HP.set_self _ _ _) hnlen ?_
          refine iB (fun e5 => ?_) fun e5 => ?_
          · walk_at "go"
            exact ⟨rfl, rfl, fun V => ⟨by simpa using e4, by simpa [strsA] using e5⟩, fun V => rfl⟩
          · walk_at "go"
            exact ⟨rfl, rfl, fun h => (by cases h), fun h => by rw [h.2] at e5; exact absurd e5 (by decide)⟩
        · walk_at "go"
          exact ⟨rfl, rfl, fun h => (by cases h), fun h => by rw [h.1] at e4; exact absurd e4 (by decide)⟩
      case kb =>
        walk_at "go"
        refine ⟨by simp [aty, AO.ty], ?_⟩
        walk_at "go"
        refine c_append (HP.set_self _ _ _) hnlen ?_
        walk_at "go"
        refine stay (new ++ [c]) (by rw [hstep, if_pos (.inr (.inl hyes))]) _ (by rw [HP.set_set, strsA_append]; rfl)
      case kc =>
        have hno2 : ∀ (Y : List PySem.Str), (¬ (((r.length : Int) != 0) = false ∧ new = [])) → (if new.getLast? = some (".." : PySem.Str) then new ++ [c] else new.dropLast) = Y → npStep r new c = Y := by
          intro Y h1 h2
          rw [hstep, ← h2]
          by_cases h3 : new.getLast? = some (".." : PySem.Str)
          · rw [if_pos (.inr (.inr h3)), if_pos h3]
          · rw [if_neg h3, if_neg]
            rintro (h | h | h)
            · rw [h] at e3; exact absurd e3 (by decide)
            · exact h1 h
            · exact h3 h
        walk_at "go"
        refine tru_list (HP.set_self _ _ _) hnlen ?_
        refine iB (fun e6 => ?t1) fun e6 => ?t2
        case t1 =>
          obtain ⟨ns, z, rfl⟩ : ∃ ns z, new = ns ++ [z] := by
            rcases List.eq_nil_or_concat new with h | ⟨ns, z, h⟩
            · rw [h] at e6; exact absurd e6 (by decide)
            · exact ⟨ns, z, by simpa using h⟩
          have hget : (hp.set nl (.list (strsA (ns ++ [z])))) nl = some (.list (strsA ns ++ [.str z])) := by simp [strsA]
          walk_at "go"
          refine EV_Sub PySem.F.slot_list_getitem.lookup ?_
          walk_at "go"
          refine ⟨by simp [aty, AO.ty], gi_last hget ?_⟩
          walk_at "go"
          refine ⟨_, rfl, ?_⟩
          refine iB (fun e7 => ?t3) fun e7 => ?t4
          case t3 =>
            walk_at "go"
            refine ⟨by simp [aty, AO.ty], ?_⟩
            walk_at "go"
            refine c_append (HP.set_self _ _ _) hnlen ?_
            walk_at "go"
            refine stay (ns ++ [z] ++ [c]) (hno2 _ hno (by rw [if_pos (by rw [List.getLast?_concat, eq_of_beq e7])])) _ (by rw [HP.set_set, strsA_append (ns ++ [z])]; rfl)
          case t4 =>
            walk_at "go"
            refine tru_list (HP.set_self _ _ _) hnlen ?_
            rw [e6]
            walk_at "go"
            refine ⟨by simp [aty, AO.ty], ?_⟩
            refine c_pop hget (by simp [strsA] at hlen ⊢; lia) ?_
            walk_at "go"
            refine stay ns (hno2 _ hno (by rw [if_neg (by rw [List.getLast?_concat]; intro h; cases h; exact absurd e7 (by decide))]; simp)) _ (by rw [HP.set_set])
        case t2 =>
          have hnil : new = [] := by simpa [strsA] using e6
          subst hnil
          walk_at "go"
          refine tru_list (HP.set_self _ _ _) hnlen ?_
          rw [e6]
          walk_at "go"
          refine stay [] (hno2 _ hno (by simp)) _ rfl
  · intro l h hh
    obtain ⟨hJ, hs⟩ := (hJ1 _ _ _).mp hh
    clear hh hJ1 J1
    have hlen2 : (strsA (Txt.split (srP x) "/")).length = (Txt.split (srP x) "/").length := by simp [strsA]
    rw [hlen2, List.take_length] at hs
    have hs2 : (hp.set nl (.list (strsA ((Txt.split (srP x) "/").foldl (npStep (srR x)) [])))).Sub (h.set D (.list (strsA (Txt.split (srP x) "/")))) := by
      intro b X e
      have : b ≠ D := by rintro rfl; rw [HP.set_ne (Ne.symm hne), hD] at e; cases e
      rw [HP.set_ne this]; exact hs b X e
    refine WB.weak hJ hs2 ?_
    walk_at "go"
    refine ⟨rfl, ?_⟩
    walk_at "go"
    refine c_join (HP.set_self _ _ _) hokP.down ?_
    refine bin_add_str hjl ?_
    have hnp : ∀ p, srR x ++ Txt.join "/" ((Txt.split (srP x) "/").foldl (npStep (srR x)) []) = p → npS x = if ((p.length : Int) != 0) = true then p else "." := fun p e => by subst e; rfl
    have hpl : (srR x ++ Txt.join "/" ((Txt.split (srP x) "/").foldl (npStep (srR x)) [])).length ≤ 100000 := by rw [Str.length_append]; exact hjl
    have hsub : hp.Sub (hp.set nl (.list (strsA ((Txt.split (srP x) "/").foldl (npStep (srR x)) [])))) := HP.sub_set hnl0
    revert hpl hnp hsub
    generalize srR x ++ Txt.join "/" ((Txt.split (srP x) "/").foldl (npStep (srR x)) []) = pth
    generalize (hp.set nl (.list (strsA ((Txt.split (srP x) "/").foldl (npStep (srR x)) [])))) = hpp
    intro hnp hpl hsub
    replace hnp := hnp pth rfl
    generalize npS x = np at hnp ⊢
    walk_at "go"
    refine tru_str hpl ?_
    refine iB (fun e8 => ?_) fun e8 => ?_
    · refine ⟨?_, hsub⟩
      simp only [retOf]; rw [hnp, if_pos e8]
    · walk_at "go"
      refine ⟨?_, hsub⟩
      simp only [retOf]; rw [hnp, if_neg (by rw [e8]; decide)]
end
section
variable {g : Gd} {n : Nat} {L : Addr} {loc : Loc} {hp : HP}
noncomputable def lawNames : List PySem.Str := ["N", "NA", "NAB", "NB", "NBA", "O", "OA"]
theorem c_names (G : Gnd g) {Q : AV → Loc → HP → Prop} (q : ∀ D, hp D = none → Q (.ref D) loc (hp.set D (.list (strsA lawNames)))) : WB g (n + 1) L (call (.ref 263) []) loc hp AV.Is Q := by
  refine WB.lift (W_call (binds := []) (bl := []) G (kf263 _) (kc263 _) rfl rfl ⟨rfl, rfl, rfl⟩ rfl trivial rfl rfl ⟨rfl, rfl, rfl⟩ ?_)
  intro env F hL
  walk_at "go"
  exact ⟨by simp, fun D hD => q D hD⟩
noncomputable def spotFrom (t : List Int) : Nat → Int → Int
  | 0, s => s
  | k + 1, s => if t.any (· == s) = true then spotFrom t k ((s + 1).fmod 8) else s
noncomputable def takeAll (ws : List Int) : List Int := ws.foldl (fun t w => t ++ [spotFrom t 8 w]) []
noncomputable def frees (t : List Int) : List Int := ((List.range 8).map fun i : Nat => (i : Int)).filter fun s => !(t.any (· == s))
noncomputable def emptyOf (ws : List Int) : Int := (frees (takeAll ws)).headD 0
theorem takeAll_snoc (ws : List Int) (w : Int) : takeAll (ws ++ [w]) = takeAll ws ++ [spotFrom (takeAll ws) 8 w] := by simp [takeAll]
theorem takeAll_len (ws : List Int) : (takeAll ws).length = ws.length := by
  have : ∀ (l t : List Int), (l.foldl (fun t w => t ++ [spotFrom t 8 w]) t).length = t.length + l.length := by
    intro l
    induction l with
    | nil => simp
    | cons a l ih => intro t; rw [List.foldl_cons, ih]; simp; lia
  have := this ws []
  simpa [takeAll] using this
theorem c_empty (G : Gnd g) {wl : Addr} {ws : List Int} {Q : AV → Loc → HP → Prop} (hwl : hp wl = some (.list (intsA ws))) (hlen : ws.length ≤ 100) (hfr : ∀ i w, ws[i]? = some w → ((takeAll (ws.take i)).any (· == spotFrom (takeAll (ws.take i)) 8 w)) = false) (hne : frees (takeAll ws) ≠ [])
    (q : Q (.int (emptyOf ws)) loc hp) : ∀ vs, Vs [.ref wl] vs → WB g (n + 1) L (call (.ref 275) vs) loc hp AV.Is Q := by
  intro vs hv
  obtain ⟨t, rfl⟩ := Vs1 hv
  refine WB.lift (WH.post (Q := fun v h => v = .int (emptyOf ws) ∧ hp.Sub h) ?_ (by rintro _ h ⟨rfl, hs⟩; exact ⟨hp, hs, q⟩))
  refine W_callC (binds := [("wishes", .ref wl)]) (bl := [("wishes", .ref wl)]) G (kf275 _) (kc275 _) rfl rfl ⟨rfl, rfl, rfl⟩ rfl ⟨rfl, ⟨t, rfl⟩, trivial⟩ (fun V => rfl) (fun V => rfl) (fun V => rfl) ⟨rfl, rfl, rfl⟩ ?_
  intro env L' hL F hfresh
  have hcs : cellsFrom (L' + 1) fd275.scope.names [] = [(("taken" : PySem.Str), L' + 1)] := rfl
  rw [hcs] at F ⊢
  obtain ⟨c, hc⟩ : ∃ c, c = L' + 1 := ⟨_, rfl⟩
  rw [← hc] at F ⊢
  have hcn : hp c = none := hfresh c (by rw [hc]; exact Nat.le_succ _)
  have hcw : wl ≠ c := by rintro rfl; rw [hcn] at hwl; cases hwl
  show XS g n env _ [("wishes", .ref wl)] (hp.set c (.cell none)) _
  walk_at "go"
  refine ⟨by simp, fun tl htl => ?_⟩
  have htc : tl ≠ c := HP.ne htl (HP.set_self _ _ _)
  have htn : hp tl = none := by rw [HP.set_ne htc] at htl; exact htl
  have htw : wl ≠ tl := by rintro rfl; rw [htn] at hwl; cases hwl
  refine SC_ F rfl rfl (HP.set_of (Ne.symm htc) (HP.set_self _ _ _)) ?_
  rw [HP.set_comm htc.symm, HP.set_set]
  walk_at "go"
  refine EX_ForN ?_ (fun V => rfl)
  walk_at "go"
  refine ex3 _ _ _ ⟨Src.list (HP.set_of hcw (HP.set_of htw hwl)), fun i l h => Lsub [("wishes", .ref wl)] l ∧ (((hp.del wl).set tl (.list (intsA (takeAll (ws.take i))))).set c (.cell (some (.ref tl)))).Sub h, ⟨?_, ?_⟩, ?_, ?_⟩
  · exact Lsub.all ⟨rfl, trivial⟩
  · rw [HP.set_del_ne (Ne.symm hcw), HP.set_del_ne (Ne.symm htw)]; exact HP.Sub.refl _
  · rintro i v l h hi ⟨hJ, hs⟩
    obtain ⟨w, hw, rfl⟩ : ∃ w, ws[i]? = some w ∧ v = .int w := by
      simp only [intsA, List.getElem?_map, Option.map_eq_some_iff] at hi
      obtain ⟨c, h1, h2⟩ := hi; exact ⟨c, h1, h2.symm⟩
    have htake : takeAll (ws.take (i + 1)) = takeAll (ws.take i) ++ [spotFrom (takeAll (ws.take i)) 8 w] := by
      rw [List.take_add_one, hw]; exact takeAll_snoc _ _
    have hfree := hfr i w hw
    have hTl : (takeAll (ws.take i)).length ≤ 100 := by rw [takeAll_len]; simp; lia
    refine SL_ F rfl (WB.weak hJ.cons hs (WB.mono (Q := OnF fun l h => Lsub [("wishes", .ref wl)] l ∧ (((hp.del wl).set tl (.list (intsA (takeAll (ws.take i) ++ [spotFrom (takeAll (ws.take i)) 8 w])))).set c (.cell (some (.ref tl)))).Sub h) ?_ ?_))
    rotate_left
    · intro f l h hf
      rw [← htake] at hf
      exact hf
    clear hs htake hJ q hfr hne hi
    revert hfree hTl
    generalize takeAll (ws.take i) = T
    intro hfree hTl
    walk_at "go"
    refine EX_While (fun k l h => ∃ spot, Lsub [("spot", .int spot), ("wishes", .ref wl)] l ∧ (((hp.del wl).set tl (.list (intsA T))).set c (.cell (some (.ref tl)))).Sub h ∧ spotFrom T k spot = spotFrom T 8 w) 8 ⟨w, Lsub.all ⟨rfl, rfl, trivial⟩, HP.Sub.refl _, rfl⟩ ?_
    rintro k l h ⟨spot, hl, hs, hsp⟩
    refine WB.weak hl hs ?_
    walk_at "go"
    refine C_ F rfl rfl rfl (HP.set_self _ _ _) ?_
    refine cmp_in_ints (HP.set_of htc (HP.set_self _ _ _)) ?_
    refine ⟨_, rfl, ?_⟩
    refine iB (fun e1 => ?_) fun e1 => ?_
    · walk_at "go"
      refine bin_mod (by decide) ?_
      walk_at "go"
      cases k with
      | zero => rw [← hsp] at hfree; rw [show spotFrom T 0 spot = spot from rfl, e1] at hfree; cases hfree
      | succ k =>
        refine ⟨k, Nat.lt_succ_self k, _, Lsub.all ⟨rfl, rfl, trivial⟩, HP.Sub.refl _, ?_⟩
        rw [← hsp, spotFrom, if_pos e1]
    · walk_at "go"
      refine C_ F rfl rfl rfl (HP.set_self _ _ _) ?_
      refine ⟨by simp [aty, AO.ty, HP.set, htc], ?_⟩
      walk_at "go"
      refine c_append (HP.set_of htc (HP.set_self _ _ _)) (by simp [intsA]; lia) ?_
      walk_at "go"
      have hend : spot = spotFrom T 8 w := by
        rw [← hsp]; cases k with
        | zero => rfl
        | succ k => rw [spotFrom, if_neg (by rw [e1]; decide)]
      refine ⟨Lsub.all ⟨rfl, trivial⟩, ?_⟩
      rw [HP.set_comm htc.symm, HP.set_set, ← hend, show intsA (T ++ [spot]) = intsA T ++ [.int spot] by simp [intsA]]
      exact HP.Sub.refl _
  · rintro l h ⟨hJ, hs⟩
    have hlen2 : (intsA ws).length = ws.length := by simp [intsA]
    rw [hlen2, List.take_length] at hs
    have hs2 : ((hp.set tl (.list (intsA (takeAll ws)))).set c (.cell (some (.ref tl)))).Sub (h.set wl (.list (intsA ws))) := by
      have := hs.set (a := wl) (X := .list (intsA ws))
      rw [HP.set_comm (Ne.symm hcw), HP.set_comm (Ne.symm htw), HP.del_set_same hwl] at this
      exact this
    refine WB.weak hJ hs2 ?_
    walk_at "go"
    refine EV_Sub PySem.F.slot_list_getitem.lookup ?_
    refine EV_ListComp (cl := [("taken", c)]) F ?c1 ?c2 ?c3 ?c4 ?c5 ?c6 ?_
    case c1 => exact rfl
    case c2 => exact rfl
    case c3 => exact rfl
    case c4 => exact rfl
    case c5 => exact rfl
    case c6 => exact fun V => rfl
    walk_at "go"
    refine c_range (k := 8) fun D hD => ?_
    refine ex3 _ _ _ ⟨Src.range (HP.set_self _ _ _) (by decide), by decide, fun i ys h => ys = intsA (((List.range i).map fun i : Nat => (i : Int)).filter fun s => !((takeAll ws).any (· == s))) ∧ ((hp.set tl (.list (intsA (takeAll ws)))).set c (.cell (some (.ref tl)))).Sub h, ⟨rfl, ?_⟩, ?_, ?_⟩
    · exact (HP.sub_set hD).del hD
    · rintro i v ys h cenv hi ⟨rfl, hs⟩ FC hn
      have hi8 : i < 8 := by have := (List.getElem?_eq_some_iff.mp hi).1; simpa [rng] using this
      obtain rfl : v = .int (i : Int) := by simp [rng, hi8] at hi; exact hi.symm
      refine WB.weak (Lsub.refl _) hs (TS_one ?_)
      walk_at "go"
      refine C_ FC rfl rfl rfl (HP.set_self _ _ _) ?_
      refine cmp_notin_ints (HP.set_of htc (HP.set_self _ _ _)) ?_
      refine ⟨_, rfl, ?_⟩
      refine iB (fun e1 => ?_) fun e1 => ?_
      · walk_at "go"
        refine ⟨?_, HP.Sub.refl _⟩
        rw [List.range_succ, List.map_append, List.filter_append]
        simp [intsA, e1]
      · refine ⟨?_, HP.Sub.refl _⟩
        rw [List.range_succ, List.map_append, List.filter_append]
        simp [intsA, e1]
    · rintro ys h ⟨rfl, hs⟩ D2 hD2
      walk_at "go"
      refine ⟨by simp [aty, AO.ty], ?_⟩
      have hfrs : ((List.range (rng 8).length).map fun i : Nat => (i : Int)).filter (fun s => !((takeAll ws).any (· == s))) = frees (takeAll ws) := rfl
      rw [hfrs]
      refine gi_list (x := .int (emptyOf ws)) (HP.set_self _ _ _) (by decide) ?_ ?_ ?_
      · have : (frees (takeAll ws)).length ≤ 8 := Nat.le_trans (List.length_filter_le _ _) (by simp)
        simp [intsA]; lia
      · unfold emptyOf intsA
        cases hf : frees (takeAll ws) with
        | nil => exact absurd hf hne
        | cons a r => rfl
      · refine ⟨rfl, ?_⟩
        have h1 : hp.Sub ((hp.set tl (.list (intsA (takeAll ws)))).set c (.cell (some (.ref tl)))) := (HP.sub_set htn).new (by rw [HP.set_ne htc.symm]; exact hcn)
        exact (h1.trans hs).new hD2
end
section
variable {g : Gd} {n : Nat} {L : Addr} {loc : Loc} {hp : HP}
noncomputable def putS (way : Int) (w m : List PySem.Str) : List PySem.Str := if (way == 0) = true then w ++ m else if (way == 1) = true then m ++ w else sortB (way == 3) (w ++ m)
theorem c_put (G : Gnd g) {wl ml : Addr} {w m : List PySem.Str} {way : Int} {Q : AV → Loc → HP → Prop} (hw : hp wl = some (.list (strsA w))) (hm : hp ml = some (.list (strsA m))) (hlen : w.length + m.length < 60)
    (q : ∀ D, hp D = none → Q (.ref D) loc (hp.set D (.list (strsA (putS way w m))))) : ∀ vs, Vs [.ref wl, .ref ml, .int way] vs → WB g (n + 1) L (call (.ref 282) vs) loc hp AV.Is Q := by
  intro vs hv
  refine withGoal fun goalX goalBack => ?_
  obtain ⟨t1, t2, t3, rfl⟩ := Vs3 hv
  refine goalBack ?_
  clear goalBack goalX
  refine WB.lift (WH.post (Q := fun v h => ∃ D, v = .ref D ∧ hp D = none ∧ (hp.set D (.list (strsA (putS way w m)))).Sub h) ?_ (by rintro _ h ⟨D, rfl, hD, hs⟩; exact ⟨_, hs, q D hD⟩))
  refine W_call (binds := [("waiting", .ref wl), ("more", .ref ml), ("way", .int way t3)]) (bl := [("waiting", .ref wl), ("more", .ref ml), ("way", .int way)]) G (kf282 _) (kc282 _) rfl rfl ⟨rfl, rfl, rfl⟩ rfl ⟨rfl, ⟨t1, rfl⟩, rfl, ⟨t2, rfl⟩, rfl, ⟨t3, rfl⟩, trivial⟩ rfl rfl ⟨rfl, rfl, rfl⟩ ?_
  intro env F hL
  have l1 : (strsA w).length + (strsA m).length ≤ 100000 := by simp [strsA]; lia
  have l2 : (strsA m).length + (strsA w).length ≤ 100000 := by simp [strsA]; lia
  walk_at "go"
  refine ⟨_, rfl, iB (fun e1 => ?_) fun e1 => ?_⟩
  · walk_at "go"
    refine bin_add_list hw hm l1 fun D hD => ⟨D, rfl, hD, ?_⟩
    unfold putS; rw [if_pos e1, strsA_append]; exact HP.Sub.refl _
  walk_at "go"
  refine ⟨_, rfl, iB (fun e2 => ?_) fun e2 => ?_⟩
  · walk_at "go"
    refine bin_add_list hm hw l2 fun D hD => ⟨D, rfl, hD, ?_⟩
    unfold putS; rw [if_neg (by rw [e1]; decide), if_pos e2, strsA_append]; exact HP.Sub.refl _
  walk_at "go"
  refine BK_ F G (kb_sorted _) bb_sorted ?s1 (by decide) ?s2 ?s3 ?s4 ?_
  case s1 => exact rfl
  case s2 => exact rfl
  case s3 => exact rfl
  case s4 => exact rfl
  walk_at "go"
  refine bin_add_list hw hm l1 fun a ha => ?_
  walk_at "go"
  rw [← strsA_append]
  refine c_sorted_rev (HP.set_self _ _ _) (by simp; lia) fun D hD => ?_
  have hDa : D ≠ a := HP.ne hD (HP.set_self _ _ _)
  refine ⟨D, rfl, ?_, ?_⟩
  · rw [HP.set_ne hDa] at hD; exact hD
  · unfold putS; rw [if_neg (by rw [e1]; decide), if_neg (by rw [e2]; decide)]
    exact (HP.sub_set ha).set
end
section
variable {g : Gd} {n : Nat} {L : Addr} {loc : Loc} {hp : HP}
noncomputable def APb : Array UInt8 := ([65, 66, 67, 68, 69, 70, 71, 72, 73, 74, 75, 76, 77, 78, 79, 80] : List UInt8).toArray
noncomputable def apLoop : Nat → Int → Array UInt8 → Array UInt8
  | 0, _, v => v
  | k + 1, m, v => if (m != 0) = true then apLoop k (m.fdiv 16) (KBy.picked APb (some (m.fmod 16)) (some (m.fmod 16 + 1)) ++ v) else v
theorem noPy16 (a : Int) : Builtin.divisionGoesByPylong a 16 = false := PyProof.noPylong_of_log2 (by decide +kernel)
theorem c_int2ap (G : Gnd g) {a : Int} {k : Nat} {Q : AV → Loc → HP → Prop} (h0 : 0 ≤ a) (h1 : a < 16 ^ k) (hk : k ≤ 100) (q : Q (.bytes (apLoop k a #[])) loc hp) : ∀ vs, Vs [.int a] vs → WB g (n + 1) L (call (.ref 148) vs) loc hp AV.Is Q := by
  intro vs hv
  obtain ⟨t, rfl⟩ := Vs1 hv
  refine WB.lift (WH.post (Q := fun v h => v = .bytes (apLoop k a #[]) ∧ hp.Sub h) ?_ (by rintro _ h ⟨rfl, hs⟩; exact ⟨hp, hs, q⟩))
  refine W_call (binds := [("num", .int a t)]) (bl := [("num", .int a)]) G (kf148 _) (kc148 _) rfl rfl ⟨rfl, rfl, rfl⟩ rfl ⟨rfl, ⟨t, rfl⟩, trivial⟩ rfl rfl ⟨rfl, rfl, rfl⟩ ?_
  intro env F hL
  walk_at "gb"
  refine c_abs ?_
  rw [if_neg (by lia)]
  walk_at "gb"
  refine c_int ?_
  walk_at "gb"
  refine EX_While (fun j l h => ∃ m v, Lsub [("num", .int m), ("val", .bytes v), ("AP", .bytes APb)] l ∧ hp.Sub h ∧ 0 ≤ m ∧ m < 16 ^ j ∧ apLoop j m v = apLoop k a #[] ∧ v.size + 16 * j ≤ 3000) k ⟨a, #[], Lsub.all ⟨rfl, rfl, rfl, trivial⟩, HP.Sub.refl _, h0, h1, rfl, by simp; lia⟩ ?_
  rintro j l h ⟨m, v, hl, hs, hm0, hm1, he, hz⟩
  refine WB.weak hl hs ?_
  walk_at "gb"
  refine tru_int ?_
  refine iB (fun e1 => ?_) fun e1 => ?_
  · walk_at "gb"
    refine EX_TupAssign (ns := ["num", "mod"]) ?s1 ?_ ?s2 ?s3
    case s1 => exact rfl
    case s2 => exact rfl
    case s3 => exact rfl
    walk_at "gb"
    refine c_divmod (by decide) (noPy16 m) fun D hD => ?_
    refine ⟨D, _, rfl, HP.set_self _ _ _, rfl, ?_⟩
    refine SN_cons (SL_ F rfl (SN_cons (SL_ F rfl (SN_nil ?_))))
    refine WB.sub (hp' := hp) ?_ (HP.sub_set hD)
    walk_at "gb"
    refine EV_Sub_slice_bytes ?_
    walk_at "gb"
    refine ex3 APb _ _ ⟨rfl, rfl, rfl, by decide, ?_⟩
    walk_at "gb"
    have hp1 := KBc.size_picked_le APb (some (m.fmod 16)) (some (m.fmod 16 + 1))
    have hAP : APb.size = 16 := rfl
    refine bin_add_bytes (by lia) ?_
    walk_at "gb"
    cases j with
    | zero => simp at hm1; have : m = 0 := by lia
              subst this; exact absurd e1 (by decide)
    | succ j =>
      refine ⟨j, Nat.lt_succ_self j, _, _, Lsub.all ⟨rfl, rfl, rfl, trivial⟩, HP.Sub.refl _, ?_, ?_, ?_, ?_⟩
      · exact Int.fdiv_nonneg hm0 (by decide)
      · rw [Int.fdiv_eq_ediv_of_nonneg _ (by decide)]
        rw [Int.pow_succ] at hm1
        lia
      · rw [← he, apLoop, if_pos e1]
      · rw [Array.size_append]; lia
  · walk_at "gb"
    refine ⟨?_, HP.Sub.refl _⟩
    simp only [retOf]
    rw [← he]
    cases j with
    | zero => rfl
    | succ j => rw [apLoop, if_neg (by rw [e1]; decide)]
end
section
variable {g : Gd} {n : Nat} {L : Addr} {loc : Loc} {hp : HP}
theorem c_isi_bytes_t {x : Array UInt8} {Q : AV → Loc → HP → Prop} (q : Q (.bool true) loc hp) : ∀ vs, Vs [.bytes x, .type "bytes"] vs → WB g n L (call (.builtin "isinstance") vs) loc hp AV.Is Q := by
  intro vs hv
  obtain ⟨t, u, rfl⟩ := Vs2 hv
  exact WB_puts (v := .bool true) (fun A E s Q V h => call_isinstance (isinstance_true (Tx := "bytes") (by kernel_rfl) (by kernel_rfl)) ⟨rfl, h 0 s.toks⟩) q
noncomputable def wishesOf (back : List Int) (s : Int) : List Int := back.map fun p => (p + s + 1).fmod 8
noncomputable def numberOf (ws : List Int) : Int := ws.foldl (fun n w => n * 16 + w) 0
noncomputable def wordOf (back : List Int) (s : Int) : Array UInt8 := apLoop 7 (numberOf (wishesOf back s)) #[]
structure WordsOk (back : List Int) (s : Int) : Prop where
  num : 0 ≤ numberOf (wishesOf back s) ∧ numberOf (wishesOf back s) < 16 ^ 7
  pre : ∀ i, 0 ≤ numberOf ((wishesOf back s).take i) ∧ numberOf ((wishesOf back s).take i) < 16 ^ 7
  size : (wordOf back s).size ≤ 7
  read : List.replicate (7 - (wordOf back s).size) 0 ++ (wordOf back s).toList.map (fun c => (c.toNat : Int) - 65) = wishesOf back s
  noA : ((KBy.picked (wordOf back s) none (some 1)).toList == [65]) = false
  len : (wishesOf back s).length = 7
  range : ∀ x ∈ wishesOf back s, 0 ≤ x ∧ x ≤ 7
  fr : ∀ i w, (wishesOf back s)[i]? = some w → ((takeAll ((wishesOf back s).take i)).any (· == spotFrom (takeAll ((wishesOf back s).take i)) 8 w)) = false
  ne : frees (takeAll (wishesOf back s)) ≠ []
  emp : emptyOf (wishesOf back s) = s
  back : (wishesOf back s).map (fun w => (w - s - 1).fmod 8) = back
theorem c_words (G : Gnd g) {bl : Addr} {back : List Int} {Q : AV → Loc → HP → Prop} (hbl : hp bl = some (.list (intsA back))) (hblen : back.length ≤ 100) (hok : ∀ s : Nat, s < 8 → WordsOk back s) (q : Q (.bool true) loc hp) : ∀ vs, Vs [.ref bl] vs → WB g (n + 2) L (call (.ref 309) vs) loc hp AV.Is Q := by
  intro vs hv
  obtain ⟨t, rfl⟩ := Vs1 hv
  refine WB.lift (WH.post (Q := fun v h => v = .bool true ∧ hp.Sub h) ?_ (by rintro _ h ⟨rfl, hs⟩; exact ⟨hp, hs, q⟩))
  refine W_callC (binds := [("back", .ref bl)]) (bl := [("back", .ref bl)]) G (kf309 _) (kc309 _) rfl rfl ⟨rfl, rfl, rfl⟩ rfl ⟨rfl, ⟨t, rfl⟩, trivial⟩ (fun V => rfl) (fun V => rfl) (fun V => rfl) ⟨rfl, rfl, rfl⟩ ?_
  intro env L' hL F hfresh
  have hcs : ∃ c1 c2, cellsFrom (L' + 1) fd309.scope.names [] = [(("empty" : PySem.Str), c1), (("spot" : PySem.Str), c2)] ∧ c1 ≠ c2 ∧ L' ≤ c1 ∧ L' ≤ c2 := ⟨L' + 2, L' + 1, rfl, by intro h; exact absurd h (by simp), Nat.le_add_right _ _, Nat.le_add_right _ _⟩
  refine withGoal fun goalX goalBack => ?_
  obtain ⟨c1, c2, hcs, hc12, hc1, hc2⟩ := hcs
  refine goalBack ?_
  clear goalBack goalX
  rw [hcs] at F ⊢
  have hc1n := hfresh c1 hc1
  have hc2n := hfresh c2 hc2
  have hb1 : bl ≠ c1 := by rintro rfl; rw [hc1n] at hbl; cases hbl
  have hb2 : bl ≠ c2 := by rintro rfl; rw [hc2n] at hbl; cases hbl
  show XS g (n + 1) env _ [("back", .ref bl)] ((hp.set c2 (.cell none)).set c1 (.cell none)) _
  walk_at "gb"
  refine EX_ForN ?_ (fun V => rfl)
  walk_at "gb"
  refine c_range (k := 8) fun D hD => ?_
  have hDc1 : D ≠ c1 := HP.ne hD (HP.set_self _ _ _)
  have hDc2 : D ≠ c2 := HP.ne hD (HP.set_of hc12.symm (HP.set_self _ _ _))
  obtain ⟨J1, hJ1⟩ : ∃ J1 : Loc → HP → Prop, ∀ l h, J1 l h ↔ (Lsub [("back", .ref bl)] l ∧ ∃ X Y, ((hp.set c2 (.cell X)).set c1 (.cell Y)).Sub h) := ⟨_, fun V V => Iff.rfl⟩
  refine ex3 _ _ _ ⟨Src.range (HP.set_self _ _ _) (by decide), fun V => J1, (hJ1 _ _).mpr ⟨Lsub.all ⟨rfl, trivial⟩, none, none, (HP.sub_set hD).del hD⟩, ?_, ?_⟩
  · intro i v l h hi hh
    refine withGoal fun goalX goalBack => ?_
    obtain ⟨hl, X, Y, hs⟩ := (hJ1 _ _).mp hh
    refine goalBack ?_
    clear goalBack goalX
    clear hh
    have hi8 : i < 8 := by have := (List.getElem?_eq_some_iff.mp hi).1; simpa [rng] using this
    obtain rfl : v = .int (i : Int) := by simp [rng, hi8] at hi; exact hi.symm
    have W := hok i hi8
    refine SC_ F rfl rfl (hs _ _ (HP.set_of hc12.symm (HP.set_self _ _ _))) ?_
    refine WB.weak hl (hs.set (a := c2) (X := .cell (some (.int (i : Int))))) ?_
    rw [HP.set_comm hc12, HP.set_set]
    refine WB.mono (Q := OnF J1) ?_ (fun V V V h => h)
    clear hs hl hi hok q
    generalize hB : (hp.set c2 (.cell (some (.int (i : Int))))).set c1 (.cell Y) = B
    have hBbl : B bl = some (.list (intsA back)) := by rw [← hB]; exact HP.set_of hb1 (HP.set_of hb2 hbl)
    have hBc2 : B c2 = some (.cell (some (.int (i : Int)))) := by rw [← hB]; exact HP.set_of hc12.symm (HP.set_self _ _ _)
    have hBc1 : B c1 = some (.cell Y) := by rw [← hB]; exact HP.set_self _ _ _
    walk_at "gb"
    refine EX_TupSwapped (ns := ["wishes", "number"]) ?_ ?s2 ?s3
    case s2 => exact rfl
    case s3 => rw [swapped_of (fd := fd309) F rfl]; exact rfl
    walk_at "gb"
    refine EV_ListComp (cl := [("spot", c2)]) F ?c1 ?c2 ?c3 ?c4 ?c5 ?c6 ?_
    case c1 => exact rfl
    case c2 => exact rfl
    case c3 => exact rfl
    case c4 => exact rfl
    case c5 => exact rfl
    case c6 => exact fun V => rfl
    walk_at "gb"
    refine ex3 _ _ _ ⟨Src.list hBbl, by simp [intsA]; lia, fun j ys h => ys = intsA ((back.take j).map fun p => (p + (i : Int) + 1).fmod 8) ∧ (B.del bl).Sub h, ⟨rfl, HP.Sub.refl _⟩, ?_, ?_⟩
    · rintro j v ys h cenv hj ⟨rfl, hs⟩ FC hn
      obtain ⟨p, hp1, rfl⟩ : ∃ w, back[j]? = some w ∧ v = .int w := by
        simp only [intsA, List.getElem?_map, Option.map_eq_some_iff] at hj
        obtain ⟨c, h1, h2⟩ := hj; exact ⟨c, h1, h2.symm⟩
      refine WB.weak (Lsub.refl _) hs (TS_nil ?_)
      walk_at "gb"
      refine C_ FC rfl rfl rfl ((HP.del_ne hb2.symm).trans hBc2) ?_
      walk_at "gb"
      refine bin_mod (by decide) ?_
      refine ⟨?_, HP.Sub.refl _⟩
      rw [List.take_add_one, hp1]
      simp [intsA]
    · rintro ys h ⟨rfl, hs⟩ wl hwl
      have hsB : B.Sub (h.set bl (.list (intsA back))) := by
        have := hs.set (a := bl) (X := .list (intsA back))
        rw [HP.del_set_same hBbl] at this; exact this
      have hBwl : B wl = none := hsB.non hwl
      have hlen1 : (intsA back).length = back.length := by simp [intsA]
      rw [hlen1, List.take_length]
      refine WB.sub (hp' := B.set wl (.list (intsA (wishesOf back (i : Int))))) ?_ hsB.set
      walk_at "gb"
      refine ⟨by simp, fun tt htt => (ex2 tt _ ⟨rfl, HP.set_self _ _ _, rfl, ?_⟩)⟩
      refine SN_cons (SL_ F rfl (SN_cons (SL_ F rfl (SN_nil ?_))))
      refine WB.weak (loc' := [("number", .int 0), ("wishes", .ref wl), ("back", .ref bl)]) (Lsub.all ⟨rfl, rfl, rfl, trivial⟩) (HP.sub_set htt) ?_
      clear htt tt hs hwl hsB h
      have hblwl : bl ≠ wl := by rintro rfl; rw [hBwl] at hBbl; cases hBbl
      have hc1wl : c1 ≠ wl := by rintro rfl; rw [hBwl] at hBc1; cases hBc1
      have hc2wl : c2 ≠ wl := by rintro rfl; rw [hBwl] at hBc2; cases hBc2
      walk_at "gb"
      refine EX_ForN ?_ (fun V => rfl)
      walk_at "gb"
      obtain ⟨J2, hJ2⟩ : ∃ J2 : Nat → Loc → HP → Prop, ∀ j l h, J2 j l h ↔ (Lsub [("number", .int (numberOf ((wishesOf back (i : Int)).take j))), ("wishes", .ref wl), ("back", .ref bl)] l ∧ B.Sub h) := ⟨_, fun V V V => Iff.rfl⟩
      refine ex3 _ _ _ ⟨Src.list (HP.set_self _ _ _), J2, (hJ2 _ _ _).mpr ⟨Lsub.all ⟨rfl, rfl, rfl, trivial⟩, (HP.sub_set hBwl).del hBwl⟩, ?_, ?_⟩
      · intro j v l h hj hh
        obtain ⟨hl, hs⟩ := (hJ2 _ _ _).mp hh
        clear hh
        obtain ⟨w, hw, rfl⟩ : ∃ w, (wishesOf back (i : Int))[j]? = some w ∧ v = .int w := by
          simp only [intsA, List.getElem?_map, Option.map_eq_some_iff] at hj
          obtain ⟨c, h1, h2⟩ := hj; exact ⟨c, h1, h2.symm⟩
        refine SL_ F rfl (WB.weak hl.cons hs ?_)
        walk_at "gb"
        refine bin_mul (IntMulOk.of_right (by decide)) ?_
        walk_at "gb"
        refine (hJ2 _ _ _).mpr ⟨Lsub.all ⟨?_, rfl, rfl, trivial⟩, HP.Sub.refl _⟩
        have : numberOf ((wishesOf back (i : Int)).take (j + 1)) = numberOf ((wishesOf back (i : Int)).take j) * 16 + w := by
          rw [List.take_add_one, hw]; simp [numberOf]
        rw [this]; rfl
      · intro l h hh
        obtain ⟨hl, hs⟩ := (hJ2 _ _ _).mp hh
        clear hh hJ2 J2
        have hlen2 : (intsA (wishesOf back (i : Int))).length = (wishesOf back (i : Int)).length := by simp [intsA]
        rw [hlen2, List.take_length] at hl
        refine WB.weak hl (hs.setN hBwl) ?_
        clear hl hs l h hlen2
        walk_at "gb"
        refine c_int2ap G W.num.1 W.num.2 (by decide) ?_
        walk_at "gb"
        refine ⟨by simp, fun z hz => ?_⟩
        walk_at "gb"
        refine c_len_bytes (Nat.le_trans W.size (by decide)) ?_
        walk_at "gb"
        refine bin_mul_list (HP.set_self _ _ _) (by have := W.size; unfold wordOf at this; lia) (by lia) fun zl hzl => ?_
        have hBz : B zl = none := (HP.sub_set hz).non hzl
        refine WB.sub (hp' := B.set zl (.list (List.replicate (7 - ((apLoop 7 (numberOf (wishesOf back (i : Int))) #[]).size : Int)).toNat (.int 0)))) ?_ (HP.sub_set hz).set
        refine EV_ListComp (cl := []) F ?c1 ?c2 ?c3 ?c4 ?c5 ?c6 ?_
        case c1 => exact rfl
        case c2 => exact rfl
        case c3 => exact rfl
        case c4 => exact rfl
        case c5 => exact rfl
        case c6 => exact fun V => rfl
        walk_at "gb"
        refine ex3 _ _ _ ⟨Src.bytes, by have := W.size; unfold wordOf at this; simp [bytesA]; lia, fun j ys h => ys = intsA (((wordOf back (i : Int)).toList.take j).map fun c => (c.toNat : Int) - 65) ∧ (B.set zl (.list (List.replicate (7 - ((apLoop 7 (numberOf (wishesOf back (i : Int))) #[]).size : Int)).toNat (.int 0)))).Sub h, ⟨rfl, HP.Sub.refl _⟩, ?_, ?_⟩
        · rintro j v ys h cenv hj ⟨rfl, hs⟩ FC hn
          obtain ⟨c, hc, rfl⟩ : ∃ c, (wordOf back (i : Int)).toList[j]? = some c ∧ v = .int (c.toNat : Int) := by
            simp only [bytesA, List.getElem?_map, Option.map_eq_some_iff] at hj
            obtain ⟨c, h1, h2⟩ := hj; exact ⟨c, h1, h2.symm⟩
          refine WB.weak (Lsub.refl _) hs (TS_nil ?_)
          walk_at "gb"
          refine ⟨?_, HP.Sub.refl _⟩
          rw [List.take_add_one, hc]
          simp [intsA]
        · rintro ys h ⟨rfl, hs⟩ el hel
          have hBzel : (B.set zl (.list (List.replicate (7 - ((apLoop 7 (numberOf (wishesOf back (i : Int))) #[]).size : Int)).toNat (.int 0)))) el = none := hs.non hel
          have hzel : zl ≠ el := by rintro rfl; rw [HP.set_self] at hBzel; cases hBzel
          have hword : apLoop 7 (numberOf (wishesOf back (i : Int))) #[] = wordOf back (i : Int) := rfl
          rw [hword] at hs hBzel ⊢
          have hwsz := W.size
          have hbl : (bytesA (wordOf back (i : Int))).length = (wordOf back (i : Int)).toList.length := by simp [bytesA]
          have htk : (7 - ((wordOf back (i : Int)).size : Int)).toNat = 7 - (wordOf back (i : Int)).size := by lia
          rw [hbl, List.take_length]
          rw [htk] at hs hBzel
          have hrd : List.replicate (7 - (wordOf back (i : Int)).size) (AV.int 0) ++ intsA ((wordOf back (i : Int)).toList.map fun c => (c.toNat : Int) - 65) = intsA (wishesOf back (i : Int)) := by
            rw [← W.read]; simp [intsA]
          refine bin_add_list (HP.set_of hzel (hs _ _ (HP.set_self _ _ _))) (HP.set_self _ _ _) ?_ fun rl hrl => ?_
          · simp [intsA]; lia
          rw [hrd]
          have hBel : B.Sub (h.set el (.list (intsA ((wordOf back (i : Int)).toList.map fun c => (c.toNat : Int) - 65)))) := ((HP.sub_set hBz).trans hs).new hel
          have hBrl : B rl = none := hBel.non hrl
          refine SL_ F rfl ?_
          refine WB.weak (loc' := [("read", .ref rl), ("word", .bytes (wordOf back (i : Int))), ("wishes", .ref wl), ("back", .ref bl)]) (Lsub.all ⟨rfl, rfl, rfl, rfl, trivial⟩) (hBel.set (a := rl) (X := .list (intsA (wishesOf back (i : Int))))) ?_
          clear hBel hrl hel hs h hBzel hzel el hBz hzl hz zl z hrd hbl htk
          have hrlc1 : rl ≠ c1 := by rintro rfl; rw [hBrl] at hBc1; cases hBc1
          have hrlc2 : rl ≠ c2 := by rintro rfl; rw [hBrl] at hBc2; cases hBc2
          have hrlbl : rl ≠ bl := by rintro rfl; rw [hBrl] at hBbl; cases hBbl
          have hilen : (intsA (wishesOf back (i : Int))).length = 7 := by simp [intsA, W.len]
          walk_at "gb"
          refine c_isi_bytes_t ?_
          walk_at "gb"
          refine EV_Sub_slice_bytes ?_
          walk_at "gb"
          refine ex3 _ _ _ ⟨rfl, rfl, rfl, Nat.le_trans W.size (by decide), ?_⟩
          walk_at "gb"
          refine cmp_eq_bytes ?_
          refine ⟨_, rfl, ?_⟩
          rw [show ((KBy.picked (wordOf back (i : Int)) none (some 1)).toList == ([65] : List UInt8).toArray.toList) = false from W.noA]
          walk_at "gb"
          refine c_len_list (HP.set_self _ _ _) (by rw [hilen]; decide) ?_
          rw [hilen]
          walk_at "gb"
          refine ⟨_, rfl, ?_⟩
          rw [show (((7 : Nat) : Int) != 7) = false from rfl]
          walk_at "gb"
          have hrne : wishesOf back (i : Int) ≠ [] := by intro h; have := W.len; rw [h] at this; cases this
          refine c_minmax (HP.set_self _ _ _) hrne "min" (.inl rfl) fun x hx => ?_
          walk_at "gb"
          refine ⟨_, rfl, ?_⟩
          rw [decide_eq_false (by have := (W.range x hx).1; lia)]
          walk_at "gb"
          refine c_minmax (HP.set_self _ _ _) hrne "max" (.inr rfl) fun x' hx' => ?_
          walk_at "gb"
          refine ⟨_, rfl, ?_⟩
          rw [decide_eq_false (by have := (W.range x' hx').2; lia)]
          walk_at "gb"
          refine c_empty G (HP.set_self _ _ _) (by rw [W.len]; decide) W.fr W.ne ?_
          rw [W.emp]
          refine SC_ F rfl rfl (HP.set_of (Ne.symm hrlc1) hBc1) ?_
          rw [HP.set_comm hrlc1]
          have hB' : B.set c1 (.cell (some (.int (i : Int)))) = (hp.set c2 (.cell (some (.int (i : Int))))).set c1 (.cell (some (.int (i : Int)))) := by rw [← hB, HP.set_set]
          rw [hB']
          clear hBc1
          have hK : ∀ h : HP, ((hp.set c2 (.cell (some (.int (i : Int))))).set c1 (.cell (some (.int (i : Int))))).Sub h → ∃ X Y, ((hp.set c2 (.cell X)).set c1 (.cell Y)).Sub h := fun h hh => ⟨_, _, hh⟩
          have hC1 : ((hp.set c2 (.cell (some (.int (i : Int))))).set c1 (.cell (some (.int (i : Int))))) c1 = some (.cell (some (.int (i : Int)))) := HP.set_self _ _ _
          have hC2 : ((hp.set c2 (.cell (some (.int (i : Int))))).set c1 (.cell (some (.int (i : Int))))) c2 = some (.cell (some (.int (i : Int)))) := HP.set_of hc12.symm (HP.set_self _ _ _)
          have hCbl : ((hp.set c2 (.cell (some (.int (i : Int))))).set c1 (.cell (some (.int (i : Int))))) bl = some (.list (intsA back)) := HP.set_of hb1 (HP.set_of hb2 hbl)
          have hCrl : ((hp.set c2 (.cell (some (.int (i : Int))))).set c1 (.cell (some (.int (i : Int))))) rl = none := by rw [← hB', HP.set_ne hrlc1]; exact hBrl
          revert hK hC1 hC2 hCbl hCrl
          generalize (hp.set c2 (.cell (some (.int (i : Int))))).set c1 (.cell (some (.int (i : Int)))) = B2
          intro hK hC1 hC2 hCbl hCrl
          walk_at "gb"
          refine C_ F rfl rfl rfl (HP.set_of (Ne.symm hrlc1) hC1) ?_
          refine C_ F rfl rfl rfl (HP.set_of (Ne.symm hrlc2) hC2) ?_
          walk_at "gb"
          refine ⟨_, rfl, ?_⟩
          rw [bne_self_eq_false]
          walk_at "gb"
          refine EV_ListComp (cl := [("empty", c1)]) F ?c1 ?c2 ?c3 ?c4 ?c5 ?c6 ?_
          case c1 => exact rfl
          case c2 => exact rfl
          case c3 => exact rfl
          case c4 => exact rfl
          case c5 => exact rfl
          case c6 => exact fun V => rfl
          walk_at "gb"
          refine ex3 _ _ _ ⟨Src.list (HP.set_self _ _ _), by rw [hilen]; decide, fun j ys h => ys = intsA (((wishesOf back (i : Int)).take j).map fun w => (w - (i : Int) - 1).fmod 8) ∧ B2.Sub h, ⟨rfl, (HP.sub_set hCrl).del hCrl⟩, ?_, ?_⟩
          · rintro j v ys h cenv hj ⟨rfl, hs⟩ FC hn
            obtain ⟨w, hw, rfl⟩ : ∃ w, (wishesOf back (i : Int))[j]? = some w ∧ v = .int w := by
              simp only [intsA, List.getElem?_map, Option.map_eq_some_iff] at hj
              obtain ⟨c, h1, h2⟩ := hj; exact ⟨c, h1, h2.symm⟩
            refine WB.weak (Lsub.refl _) hs (TS_nil ?_)
            walk_at "gb"
            refine C_ FC rfl rfl rfl hC1 ?_
            walk_at "gb"
            refine bin_mod (by decide) ?_
            refine ⟨?_, HP.Sub.refl _⟩
            rw [List.take_add_one, hw]
            simp [intsA]
          · rintro ys h ⟨rfl, hs⟩ el hel
            have hlw : (intsA (wishesOf back (i : Int))).length = (wishesOf back (i : Int)).length := by simp [intsA]
            rw [hlw, List.take_length, W.back]
            have hs2 : B2.Sub (h.set rl (.list (intsA (wishesOf back (i : Int))))) := hs.setN hCrl
            have helb : bl ≠ el := by rintro rfl; rw [hs2 _ _ hCbl] at hel; cases hel
            walk_at "gb"
            refine cmp_ne_ints (HP.set_self _ _ _) (HP.set_of helb (hs2 _ _ hCbl)) ?_
            refine ⟨_, rfl, ?_⟩
            rw [decide_eq_true rfl]
            walk_at "gb"
            exact (hJ1 _ _).mpr ⟨Lsub.all ⟨rfl, trivial⟩, hK _ (hs2.new hel)⟩
  · intro l h hh
    refine withGoal fun goalX goalBack => ?_
    obtain ⟨hl, X, Y, hs⟩ := (hJ1 _ _).mp hh
    refine goalBack ?_
    clear goalBack goalX
    clear hh
    refine WB.weak hl hs ?_
    walk_at "gb"
    refine ⟨rfl, ?_⟩
    exact (HP.sub_set hc2n).new (by rw [HP.set_ne hc12]; exact hc1n)
end
section
variable {g : Gd} {n : Nat} {L : Addr} {loc : Loc} {hp : HP}
/-- the children of a place, in the order of the names -/
noncomputable def moreOf (moved : List Int) (place : Int) : List PySem.Str := ((List.range 7).filter fun k => moved.getD k 0 == place).map fun k => lawNames.getD k ""
noncomputable def addRoads (roads : Loc) (one : PySem.Str) (more : List PySem.Str) : Loc := more.foldl (fun r name => dstore r name (.str ((match lk one r with | some (.str x) => x | _ => "") ++ "/" ++ name))) roads
structure TreeSt where
  roads : Loc
  row : List PySem.Str
  waiting : List PySem.Str
noncomputable def treeStep (moved : List Int) (way : Int) (s : TreeSt) (place : Nat) : TreeSt :=
  ⟨addRoads s.roads (s.waiting.headD "") (moreOf moved place), s.row ++ [s.waiting.headD ""], putS way (s.waiting.drop 1) (moreOf moved place)⟩
noncomputable def treeAt (moved : List Int) (way : Int) (i : Nat) : TreeSt := (List.range i).foldl (treeStep moved way) ⟨[("", .str "")], [], [""]⟩
/-- the tree, between two turns -/
noncomputable def TreeJ (B : HP) (c2 rd rw : Addr) (way : Int) (S : TreeSt) (l : Loc) (h : HP) : Prop := ∃ wl X, Lsub [("roads", .ref rd), ("row", .ref rw), ("waiting", .ref wl), ("way", .int way)] l ∧ wl ≠ rw ∧ wl ≠ rd ∧ wl ≠ c2 ∧ B wl = none ∧
  ((((B.set c2 (.cell X)).set rd (.dict S.roads)).set rw (.list (strsA S.row))).set wl (.list (strsA S.waiting))).Sub h
theorem TreeJ_iff {B : HP} {c2 rd rw : Addr} {way : Int} {S : TreeSt} {l : Loc} {h : HP} : TreeJ B c2 rd rw way S l h ↔ (∃ wl X, Lsub [("roads", .ref rd), ("row", .ref rw), ("waiting", .ref wl), ("way", .int way)] l ∧ wl ≠ rw ∧ wl ≠ rd ∧ wl ≠ c2 ∧ B wl = none ∧
  ((((B.set c2 (.cell X)).set rd (.dict S.roads)).set rw (.list (strsA S.row))).set wl (.list (strsA S.waiting))).Sub h) := Iff.rfl
/-- what must hold on the way -/
structure TreeOk (moved : List Int) (way : Int) : Prop where
  wait : ∀ i : Nat, i < 8 → (treeAt moved way i).waiting ≠ []
  len : ∀ i : Nat, i ≤ 8 → (treeAt moved way i).waiting.length ≤ 20
  road : ∀ i : Nat, i < 8 → ∀ j, j ≤ (moreOf moved i).length → ∃ x, lk ((treeAt moved way i).waiting.headD "") (addRoads (treeAt moved way i).roads ((treeAt moved way i).waiting.headD "") ((moreOf moved i).take j)) = some (.str x) ∧ x.length ≤ 1000
  size : ∀ i : Nat, i ≤ 8 → ∀ j, (addRoads (treeAt moved way i).roads ((treeAt moved way i).waiting.headD "") ((moreOf moved i).take j)).length ≤ 1000
  mlen : moved.length = 7
  rowlen : ∀ i : Nat, i ≤ 8 → (treeAt moved way i).row.length ≤ 100
theorem c_tree (G : Gnd g) {ml : Addr} {moved : List Int} {way : Int} {Q : AV → Loc → HP → Prop} (hml : hp ml = some (.list (intsA moved))) (T : TreeOk moved way)
    (q : ∀ rd rw t, hp rd = none → hp rw = none → hp t = none → rd ≠ rw → rd ≠ t → rw ≠ t → Q (.ref t) loc (((hp.set rd (.dict (treeAt moved way 8).roads)).set rw (.list (strsA (treeAt moved way 8).row))).set t (.tuple [.ref rd, .ref rw]))) :
    ∀ vs, Vs [.ref ml, .int way] vs → WB g (n + 2) L (call (.ref 287) vs) loc hp AV.Is Q := by
  intro vs hv
  obtain ⟨t1, t2, rfl⟩ := Vs2 hv
  refine WB.lift (WH.post (Q := fun v h => ∃ rd rw t, v = .ref t ∧ hp rd = none ∧ hp rw = none ∧ hp t = none ∧ rd ≠ rw ∧ rd ≠ t ∧ rw ≠ t ∧ (((hp.set rd (.dict (treeAt moved way 8).roads)).set rw (.list (strsA (treeAt moved way 8).row))).set t (.tuple [.ref rd, .ref rw])).Sub h) ?_
    (by rintro _ h ⟨rd, rw, t, rfl, a1, a2, a3, a4, a5, a6, hs⟩; exact ⟨_, hs, q rd rw t a1 a2 a3 a4 a5 a6⟩))
  refine W_callC (binds := [("moved", .ref ml), ("way", .int way t2)]) (bl := [("moved", .ref ml), ("way", .int way)]) G (kf287 _) (kc287 _) rfl rfl ⟨rfl, rfl, rfl⟩ rfl ⟨rfl, ⟨t1, rfl⟩, rfl, ⟨t2, rfl⟩, trivial⟩ (fun V => rfl) (fun V => rfl) (fun V => rfl) ⟨rfl, rfl, rfl⟩ ?_
  intro env L' hL F hfresh
  have hcs : ∃ c1 c2, cellsFrom (L' + 1) fd287.scope.names [] = [(("place" : PySem.Str), c2), (("moved" : PySem.Str), c1)] ∧ c1 ≠ c2 ∧ L' ≤ c1 ∧ L' ≤ c2 := ⟨L' + 1, L' + 2, rfl, by intro h; exact absurd h (by simp), Nat.le_add_right _ _, Nat.le_add_right _ _⟩
  refine withGoal fun goalX goalBack => ?_
  obtain ⟨c1, c2, hcs, hc12, hc1, hc2⟩ := hcs
  refine goalBack ?_
  clear goalBack goalX
  rw [hcs] at F ⊢
  have hc1n := hfresh c1 hc1
  have hc2n := hfresh c2 hc2
  have hm1 : ml ≠ c1 := by rintro rfl; rw [hc1n] at hml; cases hml
  have hm2 : ml ≠ c2 := by rintro rfl; rw [hc2n] at hml; cases hml
  show XS g (n + 1) env _ [("way", .int way)] ((hp.set c1 (.cell (some (.ref ml)))).set c2 (.cell none)) _
  generalize hB : hp.set c1 (.cell (some (.ref ml))) = B
  have hBn : ∀ a, B a = none ↔ a ≠ c1 ∧ hp a = none := fun a => by rw [← hB]; exact HP.set_none_iff
  have hBml : B ml = some (.list (intsA moved)) := by rw [← hB]; exact HP.set_of hm1 hml
  have hBc1 : B c1 = some (.cell (some (.ref ml))) := by rw [← hB]; exact HP.set_self _ _ _
  have hBc2 : B c2 = none := (hBn c2).mpr ⟨hc12.symm, hc2n⟩
  have hpB : hp.Sub B := by rw [← hB]; exact HP.sub_set hc1n
  clear hB
  walk_at "gb"
  refine EX_TupSwapped (ns := ["roads", "row", "waiting"]) ?_ ?s2 ?s3
  case s2 => exact rfl
  case s3 => rw [swapped_of (fd := fd287) F rfl]; exact rfl
  walk_at "gb"
  refine EV_Dict1 G fun rd hrd => ?_
  walk_at "gb"
  refine ⟨"", rfl, HP.set_self _ _ _, ?_⟩
  rw [HP.set_set]
  walk_at "gb"
  refine ⟨by simp, fun rw hrw => ?_⟩
  walk_at "gb"
  refine ⟨by simp, fun wl hwl => ?_⟩
  walk_at "gb"
  refine ⟨by simp, fun tt htt => (ex2 tt _ ⟨rfl, HP.set_self _ _ _, rfl, ?_⟩)⟩
  refine SN_cons (SL_ F rfl (SN_cons (SL_ F rfl (SN_cons (SL_ F rfl (SN_nil ?_))))))
  refine WB.weak (loc' := [("roads", .ref rd), ("row", .ref rw), ("waiting", .ref wl), ("way", .int way)]) (Lsub.all ⟨rfl, rfl, rfl, rfl, trivial⟩) (HP.sub_set htt) ?_
  clear htt tt
  simp only [HP.set_none_iff] at hrd hrw hwl
  obtain ⟨hrd2, hrdB⟩ := hrd
  obtain ⟨hrwrd, hrw2, hrwB⟩ := hrw
  refine withGoal fun goalX goalBack => ?_
  obtain ⟨hwlrw, hwlrd, hwl2, hwlB⟩ := hwl
  refine goalBack ?_
  clear goalBack goalX
  walk_at "gb"
  refine EX_ForN ?_ (fun V => rfl)
  walk_at "gb"
  refine c_range (k := 8) fun D hD => ?_
  have hDn := hD
  simp only [HP.set_none_iff] at hDn
  refine ex3 _ _ _ ⟨Src.range (HP.set_self _ _ _) (by decide), fun i => TreeJ B c2 rd rw way (treeAt moved way i),
    TreeJ_iff.mpr (ex2 wl none ⟨Lsub.all ⟨rfl, rfl, rfl, rfl, trivial⟩, hwlrw, hwlrd, hwl2, hwlB, (HP.sub_set hD).del hD⟩), ?_, ?_⟩
  · clear hDn hD D hwlrw hwlrd hwl2 hwlB wl q
    intro i v l h hi hh
    refine withGoal fun goalX goalBack => ?_
    obtain ⟨wl, X, hl, hwlrw, hwlrd, hwl2, hwlB, hs⟩ := TreeJ_iff.mp hh
    refine goalBack ?_
    clear goalBack goalX
    clear hh
    have hi8 : i < 8 := by have := (List.getElem?_eq_some_iff.mp hi).1; simpa [rng] using this
    obtain rfl : v = .int (i : Int) := by simp [rng, hi8] at hi; exact hi.symm
    have hstep : treeAt moved way (i + 1) = treeStep moved way (treeAt moved way i) i := by unfold treeAt; rw [List.range_succ, List.foldl_append]; rfl
    have hwait := T.wait i hi8
    have hlen := T.len i (Nat.le_of_lt hi8)
    have hlen1 := T.len (i + 1) hi8
    have hroad := T.road i hi8
    have hsize := T.size i (Nat.le_of_lt hi8)
    have hml7 := T.mlen
    have hrow := T.rowlen i (Nat.le_of_lt hi8)
    refine SC_ F rfl rfl (hs _ _ (HP.set_of (Ne.symm hwl2) (HP.set_of (Ne.symm hrw2) (HP.set_of (Ne.symm hrd2) (HP.set_self _ _ _))))) ?_
    refine WB.weak hl (hs.set (a := c2) (X := .cell (some (.int (i : Int))))) ?_
    rw [HP.set_comm hwl2, HP.set_comm hrw2, HP.set_comm hrd2, HP.set_set]
    refine WB.mono (Q := OnF (TreeJ B c2 rd rw way (treeStep moved way (treeAt moved way i) i))) ?_ (fun f l h hf => by rw [← hstep] at hf; exact hf)
    rw [hstep] at hlen1
    clear hs hl hi hstep T
    revert hwait hlen hlen1 hroad hsize hrow
    generalize treeAt moved way i = S
    obtain ⟨R, W, wt⟩ := S
    intro hwait hlen hlen1 hroad hsize hrow
    dsimp only at hwait hlen hroad hsize hrow
    dsimp only
    obtain ⟨one, wrest, rfl⟩ : ∃ one wrest, wt = one :: wrest := by cases wt with | nil => exact absurd rfl hwait | cons a b => exact ⟨a, b, rfl⟩
    simp only [treeStep, List.headD_cons, List.drop_succ_cons, List.drop_zero] at hroad hsize hlen1 ⊢
    have hc1wl : c1 ≠ wl := by rintro rfl; rw [hwlB] at hBc1; cases hBc1
    have hmlwl : ml ≠ wl := by rintro rfl; rw [hwlB] at hBml; cases hBml
    have hc1rd : c1 ≠ rd := by rintro rfl; rw [hrdB] at hBc1; cases hBc1
    have hmlrd : ml ≠ rd := by rintro rfl; rw [hrdB] at hBml; cases hBml
    have hc1rw : c1 ≠ rw := by rintro rfl; rw [hrwB] at hBc1; cases hBc1
    have hmlrw : ml ≠ rw := by rintro rfl; rw [hrwB] at hBml; cases hBml
    walk_at "gb"
    refine EV_Sub PySem.F.slot_list_getitem.lookup ?_
    walk_at "gb"
    refine ⟨by simp [aty, AO.ty], gi_list (x := .str one) (HP.set_self _ _ _) (by decide) (by simp [strsA]; simp at hlen; lia) rfl ?_⟩
    walk_at "gb"
    refine EX_Assign_ListComp (cl := [("place", c2), ("moved", c1)]) F ?c0 ?c1 ?c2 ?c3 ?c4 ?c5 ?c6 ?_
    case c0 => rw [swaps_of (fd := fd287) F rfl]; exact rfl
    case c1 => exact rfl
    case c2 => exact rfl
    case c3 => exact rfl
    case c4 => exact rfl
    case c5 => exact rfl
    case c6 => exact fun V => rfl
    have hX : ∃ HX : HP, HX = (((B.set c2 (.cell (some (.int (i : Int))))).set rd (.dict R)).set rw (.list (strsA W))).set wl (.list (strsA (one :: wrest))) := ⟨_, rfl⟩
    obtain ⟨HX, hX⟩ := hX
    rw [← hX]
    have hXc1 : HX c1 = some (.cell (some (.ref ml))) := by rw [hX]; exact HP.set_of hc1wl (HP.set_of hc1rw (HP.set_of hc1rd (HP.set_of hc12 hBc1)))
    have hXml : HX ml = some (.list (intsA moved)) := by rw [hX]; exact HP.set_of hmlwl (HP.set_of hmlrw (HP.set_of hmlrd (HP.set_of hm2 hBml)))
    have hXc2 : HX c2 = some (.cell (some (.int (i : Int)))) := by rw [hX]; exact HP.set_of (Ne.symm hwl2) (HP.set_of (Ne.symm hrw2) (HP.set_of (Ne.symm hrd2) (HP.set_self _ _ _)))
    walk_at "gb"
    refine c_range (k := 7) fun D hD => ?_
    refine ex3 _ _ _ ⟨Src.range (HP.set_self _ _ _) (by decide), by decide, fun j ys h => ys = strsA (((List.range j).filter fun k => moved.getD k 0 == (i : Int)).map fun k => lawNames.getD k "") ∧ HX.Sub h, ⟨rfl, (HP.sub_set hD).del hD⟩, ?_, ?_⟩
    · rintro j v ys h cenv hj ⟨rfl, hs⟩ FC hn
      have hj7 : j < 7 := by have := (List.getElem?_eq_some_iff.mp hj).1; simpa [rng] using this
      obtain rfl : v = .int (j : Int) := by simp [rng, hj7] at hj; exact hj.symm
      have hmj : (intsA moved)[((j : Int)).toNat]? = some (.int (moved.getD j 0)) := by
        have : j < moved.length := by lia
        simp [intsA, this]
      refine WB.weak (Lsub.refl _) hs (TS_one ?_)
      walk_at "gb"
      refine EV_Sub PySem.F.slot_list_getitem.lookup ?_
      refine C_ FC rfl rfl rfl hXc1 ?_
      walk_at "gb"
      refine ⟨by simp [aty, AO.ty, hXml], gi_list hXml (by lia) (by simp [intsA]; lia) hmj ?_⟩
      refine C_ FC rfl rfl rfl hXc2 ?_
      walk_at "gb"
      refine ⟨_, rfl, ?_⟩
      refine iB (fun e1 => ?_) fun e1 => ?_
      · refine EV_Sub PySem.F.slot_list_getitem.lookup ?_
        walk_at "gb"
        refine c_names G fun nl hnl => ?_
        walk_at "gb"
        refine ⟨by simp [aty, AO.ty], gi_list (x := .str (lawNames.getD j "")) (HP.set_self _ _ _) (by lia) (by decide) ?_ ?_⟩
        · have : j < lawNames.length := hj7
          simp [strsA, this]
        · refine ⟨?_, HP.sub_set hnl⟩
          have hf : [j].filter (fun k => moved.getD k 0 == (i : Int)) = [j] := by simp only [List.filter_cons, e1, if_true, List.filter_nil]
          rw [List.range_succ, List.filter_append, hf, List.map_append, strsA_append]; rfl
      · refine ⟨?_, HP.Sub.refl _⟩
        have hf : [j].filter (fun k => moved.getD k 0 == (i : Int)) = [] := by simp only [List.filter_cons, e1, Bool.false_eq_true, if_false, List.filter_nil]
        rw [List.range_succ, List.filter_append, hf, List.append_nil]
    · rintro ys h ⟨rfl, hs⟩ mo hmo
      have hXmo : HX mo = none := hs.non hmo
      have hmore : ((List.range (rng 7).length).filter fun k => moved.getD k 0 == (i : Int)).map (fun k => lawNames.getD k "") = moreOf moved (i : Int) := rfl
      rw [hmore]
      refine SL_ F rfl ?_
      refine WB.weak (loc' := [("more", .ref mo), ("one", .str one), ("roads", .ref rd), ("row", .ref rw), ("waiting", .ref wl), ("way", .int way)]) (Lsub.all ⟨rfl, rfl, rfl, rfl, rfl, rfl, trivial⟩) (hs.set (a := mo) (X := .list (strsA (moreOf moved (i : Int))))) ?_
      clear hs hmo h hD D hmore
      have hXwl : HX wl = some (.list (strsA (one :: wrest))) := by rw [hX]; exact HP.set_self _ _ _
      have hXrd : HX rd = some (.dict R) := by rw [hX]; exact HP.set_of (Ne.symm hwlrd) (HP.set_of (Ne.symm hrwrd) (HP.set_self _ _ _))
      have hmowl : mo ≠ wl := HP.ne hXmo hXwl
      have hmord : mo ≠ rd := HP.ne hXmo hXrd
      walk_at "gb"
      refine EX_ForN ?_ (fun V => rfl)
      walk_at "gb"
      obtain ⟨J2, hJ2⟩ : ∃ J2 : Nat → Loc → HP → Prop, ∀ j l h, J2 j l h ↔ (Lsub [("more", .ref mo), ("one", .str one), ("roads", .ref rd), ("row", .ref rw), ("waiting", .ref wl), ("way", .int way)] l ∧ (HX.set rd (.dict (addRoads R one ((moreOf moved (i : Int)).take j)))).Sub h) := ⟨_, fun V V V => Iff.rfl⟩
      refine ex3 _ _ _ ⟨Src.list (HP.set_self _ _ _), J2, (hJ2 _ _ _).mpr ⟨Lsub.refl _, ?_⟩, ?_, ?_⟩
      · show (HX.set rd (.dict R)).Sub _
        rw [HP.set_same hXrd]; exact (HP.sub_set hXmo).del hXmo
      · intro j v l h hj hh
        obtain ⟨hl, hs⟩ := (hJ2 _ _ _).mp hh
        clear hh
        obtain ⟨nm, hnm, rfl⟩ : ∃ nm, (moreOf moved (i : Int))[j]? = some nm ∧ v = .str nm := by
          simp only [strsA, List.getElem?_map, Option.map_eq_some_iff] at hj
          obtain ⟨c, h1, h2⟩ := hj; exact ⟨c, h1, h2.symm⟩
        have hjl : j ≤ (moreOf moved (i : Int)).length := Nat.le_of_lt (List.getElem?_eq_some_iff.mp hnm).1
        obtain ⟨x, hx, hxl⟩ := hroad j hjl
        have htk : addRoads R one ((moreOf moved (i : Int)).take (j + 1)) = dstore (addRoads R one ((moreOf moved (i : Int)).take j)) nm (.str (x ++ "/" ++ nm)) := by
          rw [List.take_add_one, hnm]
          unfold addRoads at hx ⊢
          simp only [Option.toList_some, List.foldl_append, List.foldl_cons, List.foldl_nil, hx]
        have hnl : nm.length ≤ 3 := by
          have := List.mem_of_getElem? hnm
          unfold moreOf at this
          obtain ⟨k, _, rfl⟩ := List.mem_map.mp this
          have hall : ∀ x ∈ ("" :: lawNames : List PySem.Str), x.length ≤ 3 := by decide
          refine hall _ ?_
          rw [List.getD_eq_getElem?_getD]
          cases hk : lawNames[k]? with
          | none => exact List.mem_cons_self
          | some y => exact List.mem_cons_of_mem _ (List.mem_of_getElem? hk)
        refine SL_ F rfl (WB.weak hl.cons hs ?_)
        walk_at "gb"
        refine EX_AssignSub ?_ ?s1
        case s1 => exact rfl
        walk_at "gb"
        refine EV_Sub PySem.slot_dict_getitem.lookup ?_
        walk_at "gb"
        refine ⟨by simp [aty, AO.ty], gi_dict (HP.set_self _ _ _) hx ?_⟩
        walk_at "gb"
        refine bin_add_str (by have : ("/" : PySem.Str).length = 1 := by decide
                               lia) ?_
        walk_at "gb"
        refine bin_add_str (by rw [Str.length_append]
                               have : ("/" : PySem.Str).length = 1 := by decide
                               lia) ?_
        walk_at "gb"
        refine si_dict (HP.set_self _ _ _) (by have := hsize j; lia) ?_
        refine XS_nil ((hJ2 _ _ _).mpr ⟨(Lsub.refl _).skip rfl, ?_⟩)
        rw [HP.set_set, htk]; exact HP.Sub.refl _
      · intro l h hh
        obtain ⟨hl, hs⟩ := (hJ2 _ _ _).mp hh
        clear hh hJ2 J2
        have hlm : (strsA (moreOf moved (i : Int))).length = (moreOf moved (i : Int)).length := by simp [strsA]
        rw [hlm, List.take_length] at hs
        have hmoR : (HX.set rd (.dict (addRoads R one (moreOf moved (i : Int))))) mo = none := HP.set_none_iff.mpr ⟨hmord, hXmo⟩
        refine WB.weak hl (hs.set (a := mo) (X := .list (strsA (moreOf moved (i : Int))))) ?_
        clear hs hl h hlm hroad hsize
        have hrdwl : wl ≠ rd := hwlrd
        walk_at "gb"
        refine EV_Sub_from_list ?_
        walk_at "gb"
        have hHwl : ((HX.set rd (.dict (addRoads R one (moreOf moved (i : Int))))).set mo (.list (strsA (moreOf moved (i : Int))))) wl = some (.list (strsA (one :: wrest))) := HP.set_of (Ne.symm hmowl) (HP.set_of hwlrd hXwl)
        refine ex3 wl _ 1 ⟨rfl, hHwl, rfl, by simp [strsA]; simp at hlen; lia, fun sl hsl => ?_⟩
        walk_at "gb"
        have hmosl : mo ≠ sl := (HP.ne hsl (HP.set_self _ _ _)).symm
        have hd1 : (strsA (one :: wrest)).drop 1 = strsA wrest := rfl
        rw [hd1]
        refine c_put G (w := wrest) (m := moreOf moved (i : Int)) (HP.set_self _ _ _) (HP.set_of hmosl (HP.set_self _ _ _)) ?_ fun nw hnw => ?_
        · have : (moreOf moved (i : Int)).length ≤ 7 := by
            unfold moreOf; rw [List.length_map]; exact Nat.le_trans (List.length_filter_le _ _) (by simp)
          simp at hlen; lia
        refine SL_ F rfl ?_
        have hsub1 : (HX.set rd (.dict (addRoads R one (moreOf moved (i : Int))))).Sub (((HX.set rd (.dict (addRoads R one (moreOf moved (i : Int))))).set mo (.list (strsA (moreOf moved (i : Int))))).set sl (.list (strsA wrest))) := (HP.sub_set hmoR).new hsl
        have hnwH : (HX.set rd (.dict (addRoads R one (moreOf moved (i : Int))))) nw = none := hsub1.non hnw
        refine WB.weak (loc' := [("waiting", .ref nw), ("one", .str one), ("roads", .ref rd), ("row", .ref rw), ("way", .int way)]) (Lsub.all ⟨rfl, rfl, rfl, rfl, rfl, trivial⟩) (hsub1.set (a := nw) (X := .list (strsA (putS way wrest (moreOf moved (i : Int)))))) ?_
        obtain ⟨hnwrd, hnwX⟩ := HP.set_none_iff.mp hnwH
        rw [hX] at hnwX
        simp only [HP.set_none_iff] at hnwX
        refine withGoal fun goalX goalBack => ?_
        obtain ⟨hnwwl, hnwrw, _, hnw2, hnwB⟩ := hnwX
        refine goalBack ?_
        clear goalBack goalX
        have hXrw : HX rw = some (.list (strsA W)) := by rw [hX]; exact HP.set_of (Ne.symm hwlrw) (HP.set_self _ _ _)
        have hget : ((HX.set rd (.dict (addRoads R one (moreOf moved (i : Int))))).set nw (.list (strsA (putS way wrest (moreOf moved (i : Int)))))) rw = some (.list (strsA W)) := HP.set_of (Ne.symm hnwrw) (HP.set_of hrwrd hXrw)
        walk_at "gb"
        refine ⟨by simp [aty, AO.ty, hget], ?_⟩
        walk_at "gb"
        refine c_append hget (by simp [strsA]; lia) ?_
        walk_at "gb"
        refine TreeJ_iff.mpr (ex2 nw (some (.int (i : Int))) ⟨Lsub.all ⟨rfl, rfl, rfl, rfl, trivial⟩, hnwrw, hnwrd, hnw2, hnwB, ?_⟩)
        dsimp only
        rw [hX, strsA_append]
        intro b Y e
        by_cases b1 : b = rw
        · subst b1
          rw [HP.set_self]
          rw [HP.set_ne (Ne.symm hnwrw), HP.set_self] at e
          exact e
        rw [HP.set_ne b1]
        by_cases b2 : b = nw
        · subst b2; rw [HP.set_self] at e ⊢; exact e
        rw [HP.set_ne b2] at e ⊢
        rw [HP.set_ne b1] at e
        by_cases b3 : b = rd
        · subst b3; rw [HP.set_self] at e ⊢; exact e
        rw [HP.set_ne b3] at e ⊢
        have b4 : b ≠ wl := by
          rintro rfl
          rw [HP.set_ne hwl2, hwlB] at e; cases e
        rw [HP.set_ne b4, HP.set_ne b1, HP.set_ne b3]
        exact e
  · intro l h hh
    refine withGoal fun goalX goalBack => ?_
    obtain ⟨wl, X, hl, hwlrw, hwlrd, hwl2, hwlB, hs⟩ := TreeJ_iff.mp hh
    refine goalBack ?_
    clear goalBack goalX
    clear hh
    have h8 : (rng 8).length = 8 := rfl
    rw [h8] at hs
    refine WB.weak hl hs ?_
    walk_at "gb"
    refine ⟨by simp, fun t ht => ⟨rd, rw, t, rfl, ((hBn rd).mp hrdB).2, ((hBn rw).mp hrwB).2, ?_, Ne.symm hrwrd, ?_, ?_, ?_⟩⟩
    all_goals simp only [HP.set_none_iff] at ht
    · exact ((hBn t).mp ht.2.2.2.2).2
    · exact Ne.symm ht.2.2.1
    · exact Ne.symm ht.2.1
    · refine HP.Sub.set ?_
      refine HP.Sub.setN ?_ ?_
      · refine HP.Sub.set (HP.Sub.set ?_)
        exact hpB.new hBc2
      · rw [HP.set_ne hwlrw, HP.set_ne hwlrd]; exact ((hBn wl).mp hwlB).2
end
section
variable {g : Gd} {n : Nat} {L : Addr} {loc : Loc} {hp : HP}
noncomputable def slashOf (q : Int) : PySem.Str := (["/", "//", "/./", "/Q/../"] : List PySem.Str).getD (q.fmod 4).toNat "/"
noncomputable def frontOf (q : Int) : PySem.Str := (["/", "///", "/../", "/./"] : List PySem.Str).getD ((q.fdiv 4).fmod 4).toNat "/"
noncomputable def tailOf (q : Int) : PySem.Str := (["", "/", "//.", "/Q/.."] : List PySem.Str).getD ((q.fdiv 16).fmod 4).toNat "/"
noncomputable def spelled (road : PySem.Str) (q : Int) : PySem.Str := frontOf q ++ Txt.replace (Txt.slice road (some 1) none) "/" (slashOf q) ++ tailOf q
theorem run_toks {α β : Type} {t : Sem α} {Rel : β → α → Prop} {Q : β → Loc → HP → Prop} {A : Around} {E : PySem.Value → Shared → Prop} {h₀ : Heap} {s : Shared} {K : Nat} (h : WB g n L t loc hp Rel Q) (c : CxB g n A L h₀) (y : AtB g (SA A) h₀ L loc hp s) (hk : K ≤ s.toks)
    {Q' : α → Shared → Prop} (k : ∀ a s' b loc' hp', K ≤ s'.toks → Rel b a → AtB g (SA A) h₀ L loc' hp' s' → Q b loc' hp' → Q' a s') : wpAny (model pg g.w) A t Q' E s :=
  wpAny_with_toks hk (wpAny_mono (h A _ h₀ s c y) (fun a s' ⟨b, l, h, r, y, q⟩ hk' => k a s' b l h hk' r y q) fun V V e => e)
theorem fmod4 (q : Int) : ∃ j : Nat, j < 4 ∧ q.fmod 4 = j := by
  have h1 := Int.fmod_nonneg_of_pos q (b := 4) (by decide)
  have h2 := Int.fmod_lt_of_pos q (b := 4) (by decide)
  exact ⟨(q.fmod 4).toNat, by lia, by lia⟩
theorem noPyS (a : Int) (b : Int) (hb : b = 4 ∨ b = 16) : Builtin.divisionGoesByPylong a b = false := by
  rcases hb with rfl | rfl
  · exact PyProof.noPylong_of_log2 (by decide +kernel)
  · exact PyProof.noPylong_of_log2 (by decide +kernel)
theorem noneBooked (G : Gnd g) {h : Heap} (hs : g.B.StaysIn h) : NoneBooked h := by
  have h2 : (myK g.w.params).lookup 2 = some (k2 g.w.params) := rfl
  have := hs _ _ (G.kin _ _ h2)
  refine ⟨fun V => none, ⟨_, #[], 0, this, rfl, fun e he => ?_, fun x => ?_⟩, rfl⟩
  · simp at he
  · rfl
theorem lt4 {j : Nat} (h : j < 4) : j = 0 ∨ j = 1 ∨ j = 2 ∨ j = 3 := by lia
theorem c_spelled (G : Gnd g) {road : PySem.Str} {k : Int} {Q : AV → Loc → HP → Prop} (hz : road.length ≤ 1000) (hr : (Txt.replace (Txt.slice road (some 1) none) "/" (slashOf k)).length ≤ 50000) (q : Q (.str (spelled road k)) loc hp) : ∀ vs, Vs [.str road, .int k] vs → WB g (n + 1) L (call (.ref 270) vs) loc hp AV.Is Q := by
  intro vs hv
  obtain ⟨t1, t2, rfl⟩ := Vs2 hv
  refine WB.lift (WH.post (Q := fun v h => v = .str (spelled road k) ∧ hp.Sub h) ?_ (by rintro _ h ⟨rfl, hs⟩; exact ⟨hp, hs, q⟩))
  refine W_call (binds := [("road", .str road t1), ("q", .int k t2)]) (bl := [("road", .str road), ("q", .int k)]) G (kf270 _) (kc270 _) rfl rfl ⟨rfl, rfl, rfl⟩ rfl ⟨rfl, ⟨t1, rfl⟩, rfl, ⟨t2, rfl⟩, trivial⟩ rfl rfl ⟨rfl, rfl, rfl⟩ ?_
  intro env F hL
  show XS g n env _ [("q", .int k), ("road", .str road)] hp _
  clear q
  obtain ⟨j1, hj1, ej1⟩ := fmod4 k
  obtain ⟨j2, hj2, ej2⟩ := fmod4 (k.fdiv 4)
  obtain ⟨j3, hj3, ej3⟩ := fmod4 (k.fdiv 16)
  intro A E h₀ s c y
  refine wpAny_execs_cons ?_
  refine wpAny_Assign_Name (Subscript_ ?_) rfl
  rw [arm_eval_List]
  refine wpAny_bind (wpAny_standAt (wpAny_bind ?_))
  refine wpAny_items_cons (wpAny_Constant_str (wpAny_items_cons (wpAny_Constant_str (wpAny_items_cons (wpAny_Constant_str (wpAny_items_cons (wpAny_Constant_str (wpAny_items_nil ?_)) rfl)) rfl)) rfl)) rfl
  obtain ⟨T, hT⟩ : ∃ T, T = s.toks := ⟨_, rfl⟩
  have hT1 : 1 ≤ T := hT ▸ y.at_.tok
  refine run_toks (K := T + 4) (WB.lift (Q := fun b l h => l = ([("q", AV.int k), ("road", .str road)] : Loc) ∧ ∃ a, b = .ref a ∧ hp a = none ∧ h = hp.set a (.list [.strT "/" T, .strT "//" (T + 1), .strT "/./" (T + 2), .strT "/Q/../" (T + 3)])) (WH_newList (xs := [.strT "/" T, .strT "//" (T + 1), .strT "/./" (T + 2), .strT "/Q/../" (T + 3)]) (show Vs _ [_, _, _, _] from ⟨⟨0, by rw [hT]; rfl⟩, ⟨0, by rw [hT]; rfl⟩, ⟨0, by rw [hT]; rfl⟩, ⟨0, by rw [hT]; rfl⟩, trivial⟩) (by simp) fun a ha => ⟨rfl, a, rfl, ha, rfl⟩)) c (y.toks (by show 1 ≤ s.toks + 1 + 1 + 1 + 1; lia)) (by show T + 4 ≤ s.toks + 1 + 1 + 1 + 1; lia) ?_
  rintro va s1 _ _ _ hk1 r1 y1 ⟨rfl, D, rfl, hD, rfl⟩
  refine run_toks (K := T + 4) (Rel := AV.Is) (Q := fun b l h => b = AV.int (k.fmod 4) ∧ l = ([("q", AV.int k), ("road", .str road)] : Loc) ∧ h = hp.set D (.list [.strT "/" T, .strT "//" (T + 1), .strT "/./" (T + 2), .strT "/Q/../" (T + 3)])) ?e1 c y1 hk1 ?_
  case e1 =>
    walk_at "gb"
    exact bin_mod (by decide) ⟨rfl, rfl, rfl⟩
  rintro vb s2 _ _ _ hk2 r2 y2 ⟨rfl, rfl, rfl⟩
  rw [ej1] at r2
  have hx1 : ([.strT "/" T, .strT "//" (T + 1), .strT "/./" (T + 2), .strT "/Q/../" (T + 3)] : List AV)[((j1 : Nat) : Int).toNat]? = some (.strT (slashOf k) (T + j1)) := by
    unfold slashOf; rw [ej1]
    have := lt4 hj1
    rcases this with rfl | rfl | rfl | rfl <;> rfl
  refine sub_tail (M := model pg g.w) (T := "list") (aty_is y2.at_ (a := .ref D) (by simp [aty, AO.ty]) r1).1 PySem.F.slot_list_getitem.lookup ?_
  refine run_toks (K := T + 4) (gi_list (Q := fun b l h => b = AV.strT (slashOf k) (T + j1) ∧ l = ([("q", AV.int k), ("road", .str road)] : Loc) ∧ hp.Sub h) (HP.set_self _ _ _) (by lia) (by simp) hx1 ⟨rfl, rfl, HP.sub_set hD⟩ _ _ r1 r2) c y2 hk2 ?_
  rintro vc s3 _ _ h3 hk3 r3 y3 ⟨rfl, rfl, hs3⟩
  have y3 := y3.sub hs3
  refine run_toks (K := T + 4) (SL_ (x := "slash") (Q := fun l h => l = ([("slash", AV.strT (slashOf k) (T + j1)), ("q", AV.int k), ("road", .str road)] : Loc) ∧ hp.Sub h) F rfl ⟨rfl, HP.Sub.refl _⟩ _ r3) c y3 hk3 ?_
  rintro _ s4 _ _ _ hk4 _ y4 ⟨rfl, hs4⟩
  have y4 := y4.sub hs4
  refine wpAny_execs_cons ?_
  refine run_toks (K := T + 4) (Rel := AF.Is) (Q := fun f l h => f = .next ∧ l = ([("front", .str (frontOf k)), ("slash", AV.strT (slashOf k) (T + j1)), ("q", AV.int k), ("road", .str road)] : Loc) ∧ hp.Sub h) ?e2 c y4 hk4 ?_
  case e2 =>
    walk_at "gb"
    refine EV_Sub PySem.F.slot_list_getitem.lookup ?_
    walk_at "gb"
    refine ⟨by simp, fun fl hfl => ?_⟩
    walk_at "gb"
    refine bin_div (by decide) (noPyS k 4 (.inl rfl)) ?_
    walk_at "gb"
    refine bin_mod (by decide) ?_
    rw [ej2]
    refine ⟨by simp [aty, AO.ty], gi_list (x := .str (frontOf k)) (HP.set_self _ _ _) (by lia) (by simp) ?_ ?_⟩
    · unfold frontOf; rw [ej2]
      have := lt4 hj2
      rcases this with rfl | rfl | rfl | rfl <;> rfl
    · refine SL_ F rfl ⟨rfl, rfl, HP.sub_set hfl⟩
  rintro _ s5 _ _ _ hk5 r5 y5 ⟨rfl, rfl, hs5⟩
  cases r5
  have y5 := y5.sub hs5
  clear hs5
  refine wpAny_execs_cons (wpAny_Return_some (wpAny_BinOp (wpAny_BinOp ?_)))
  refine run_toks (K := T + 4) (Rel := AV.Is) (Q := fun b l h => b = .str (frontOf k) ∧ l = ([("front", .str (frontOf k)), ("slash", AV.strT (slashOf k) (T + j1)), ("q", AV.int k), ("road", .str road)] : Loc) ∧ hp.Sub h) ?e3 c y5 hk5 ?_
  case e3 =>
    walk_at "gb"
    exact ⟨rfl, rfl, HP.Sub.refl _⟩
  rintro vf s6 _ _ _ hk6 r6 y6 ⟨rfl, rfl, hs6⟩
  have y6 := y6.sub hs6
  clear hs6 y5 y4 y3
  refine wpAny_Call_method rfl rfl rfl PySem.F.plainAttrs_str PySem.F.slot_str_replace PySem.F.type_str_replace ?_
  refine run_toks (K := T + 4) (Rel := AV.Is) (Q := fun b l h => b = .str (Txt.slice road (some 1) none) ∧ l = ([("front", .str (frontOf k)), ("slash", AV.strT (slashOf k) (T + j1)), ("q", AV.int k), ("road", .str road)] : Loc) ∧ hp.Sub h) ?e4 c y6 hk6 ?_
  case e4 =>
    walk_at "go"
    exact ⟨road, _, _, rfl, rfl, rfl, by lia, rfl, rfl, HP.Sub.refl _⟩
  rintro vr s7 _ _ _ hk7 r7 y7 ⟨rfl, rfl, hs7⟩
  have y7 := y7.sub hs7
  obtain ⟨t7, rfl⟩ := r7
  refine ⟨typeIs_str _ _ _, (fun (b : Addr) hb => by cases hb), callWith_method1 (wpAny_items_cons (wpAny_Constant_str (wpAny_items_cons ?_ rfl)) rfl) rfl rfl⟩
  refine run_toks (K := s7.toks + 1) (Rel := AV.Is) (Q := fun b l h => b = AV.strT (slashOf k) (T + j1) ∧ l = ([("front", .str (frontOf k)), ("slash", AV.strT (slashOf k) (T + j1)), ("q", AV.int k), ("road", .str road)] : Loc) ∧ hp.Sub h) ?e5 c (y7.toks (Nat.le_add_left 1 _)) (Nat.le_refl _) ?_
  case e5 =>
    walk_at "gb"
    exact ⟨rfl, rfl, HP.Sub.refl _⟩
  rintro vsl s8 _ _ _ hk8 r8 y8 ⟨rfl, rfl, hs8⟩
  have y8 := y8.sub hs8
  obtain ⟨t8, rfl⟩ := r8
  refine wpAny_items_nil ?_
  have hsl : (slashOf k).length ≤ 6 := by
    unfold slashOf; rw [ej1]
    have := lt4 hj1
    rcases this with rfl | rfl | rfl | rfl <;> decide
  have hfl : (frontOf k).length ≤ 4 := by
    unfold frontOf; rw [ej2]
    have := lt4 hj2
    rcases this with rfl | rfl | rfl | rfl <;> decide
  have hrl := Txt.slice_le road (some 1) none
  have n1 : (s7.toks : Nat) ≠ 0 := by lia
  have n2 : (T + j1 : Nat) ≠ 0 := by lia
  have n3 : (s7.toks : Nat) ≠ (T + j1 : Nat) := by lia
  refine wpAny_with_toks (n := 1) y8.at_.tok (SC.replaceA (x := Txt.slice road (some 1) none) (y := "/") (z := slashOf k) (u := s7.toks) (v := T + j1) n1 n2 n3 ?_ ?_ (noneBooked G (stays c y8)))
  · have : ((Txt.slice road (some 1) none).length + 1) * (slashOf k).length ≤ 1001 * 6 := Nat.mul_le_mul (by lia) hsl
    lia
  intro t9 k9 hk9
  have y9 := y8.toks hk9
  obtain ⟨tf, rfl⟩ := r6
  have fin : WB g n env.locals (binaryOp .Add (.str (frontOf k) tf) (.str (Txt.replace (Txt.slice road (some 1) none) "/" (slashOf k)) t9)) ([("front", .str (frontOf k)), ("slash", AV.strT (slashOf k) (T + j1)), ("q", AV.int k), ("road", .str road)] : Loc) hp AV.Is (fun b l h => b = .str (frontOf k ++ Txt.replace (Txt.slice road (some 1) none) "/" (slashOf k)) ∧ l = ([("front", .str (frontOf k)), ("slash", AV.strT (slashOf k) (T + j1)), ("q", AV.int k), ("road", .str road)] : Loc) ∧ hp.Sub h) :=
    bin_add_str (by lia) ⟨rfl, rfl, HP.Sub.refl _⟩ _ _ ⟨tf, rfl⟩ ⟨t9, rfl⟩
  refine run_toks (K := 1) fin c y9 hk9 ?_
  rintro va2 s10 _ _ _ hk10 r10 y10 ⟨rfl, rfl, hs10⟩
  have y10 := y10.sub hs10
  refine run_toks (K := 1) (Rel := AV.Is) (Q := fun b l h => b = .str (tailOf k) ∧ l = ([("front", .str (frontOf k)), ("slash", AV.strT (slashOf k) (T + j1)), ("q", AV.int k), ("road", .str road)] : Loc) ∧ hp.Sub h) ?e6 c y10 hk10 ?_
  case e6 =>
    refine EV_Sub PySem.F.slot_list_getitem.lookup ?_
    walk_at "gb"
    refine ⟨by simp, fun fl hfl => ?_⟩
    walk_at "gb"
    refine bin_div (by decide) (noPyS k 16 (.inr rfl)) ?_
    walk_at "gb"
    refine bin_mod (by decide) ?_
    rw [ej3]
    refine ⟨by simp [aty, AO.ty], gi_list (x := .str (tailOf k)) (HP.set_self _ _ _) (by lia) (by simp) ?_ ?_⟩
    · unfold tailOf; rw [ej3]
      have := lt4 hj3
      rcases this with rfl | rfl | rfl | rfl <;> rfl
    · exact ⟨rfl, rfl, HP.sub_set hfl⟩
  rintro vt s11 _ _ _ hk11 r11 y11 ⟨rfl, rfl, hs11⟩
  have y11 := y11.sub hs11
  have htl : (tailOf k).length ≤ 5 := by
    unfold tailOf; rw [ej3]
    have := lt4 hj3
    rcases this with rfl | rfl | rfl | rfl <;> decide
  refine run_toks (K := 1) (bin_add_str (Q := fun b l h => b = .str (spelled road k) ∧ hp.Sub h) (by rw [Str.length_append]; lia) ⟨rfl, HP.Sub.refl _⟩ _ _ r10 r11) c y11 hk11 ?_
  rintro vz s12 _ lz hz' hk12 r12 y12 ⟨rfl, hs12⟩
  exact ⟨.ret (.str (spelled road k)), lz, hz', ⟨vz, rfl, r12⟩, y12, rfl, hs12⟩
end
section
variable {g : Gd} {n : Nat} {L : Addr} {loc : Loc} {hp : HP}
theorem cls40 (P : Params) : ∃ cd, clsIn (myK P) 40 = some cd := ⟨_, rfl⟩
theorem ch36 (G : Gnd g) {x d : Addr} {nd : PySem.Str} {v : PySem.Value} {Q : AV → HP → Prop} (hv : (AV.str nd).Is v) (hx : hp x = some (.slotted 40 d [])) (hd : hp d = some (.ns []))
    (q : ∀ sl, hp sl = none → Q .none ((hp.set sl (.list [])).set x (.slotted 40 d [some (.str nd), some (.int 0), some (.ref sl)]))) : CH g (n + 1) (.ref 36) [.ref x, v] hp Q := by
  have hxd : d ≠ x := by rintro rfl; rw [hx] at hd; cases hd
  refine C_call G (kf36 _) (kc36 _) rfl rfl ⟨rfl, rfl, rfl⟩ ?_ rfl ⟨rfl, rfl, rfl⟩
  rw [show bindArgs fd36 ⟨[.ref x, v], []⟩ = (pure [(("self" : PySem.Str), PySem.Value.ref x), (("node" : PySem.Str), v)] : Sem (List (PySem.Str × PySem.Value))) from rfl]
  refine WH.pure (b := ([("self", AV.ref x), ("node", .str nd)] : Loc)) ⟨⟨rfl, ⟨0, rfl⟩, rfl, hv, trivial⟩, locs rfl⟩ ?_
  intro env F hL
  walk_at "gb"
  refine EX_AssignAttr ?_ ?s1
  case s1 => exact rfl
  walk_at "gb"
  refine sa_slot G (clsOk40 _) (slotOk_node _) (by decide) hx hd ?_
  walk_at "gb"
  refine EX_AssignAttr ?_ ?s1
  case s1 => exact rfl
  walk_at "gb"
  refine sa_slot G (clsOk40 _) (slotOk_npred _) (by decide) (HP.set_self _ _ _) (HP.set_of hxd hd) ?_
  walk_at "gb"
  refine EX_AssignAttr ?_ ?s1
  case s1 => exact rfl
  walk_at "gb"
  refine ⟨by simp, fun sl hsl => ?_⟩
  walk_at "gb"
  rw [HP.set_set] at hsl ⊢
  have hslx : sl ≠ x := HP.ne hsl (HP.set_self _ _ _)
  have hsln : hp sl = none := by rw [HP.set_ne hslx] at hsl; exact hsl
  refine sa_slot G (clsOk40 _) (slotOk_succ _) (by decide) (HP.set_of hslx.symm (HP.set_self _ _ _)) (HP.set_of (by rintro rfl; rw [hsln] at hd; cases hd) (HP.set_of hxd hd)) ?_
  walk_at "gb"
  have := q sl hsln
  rw [HP.set_comm hslx.symm, HP.set_set]
  exact this
end
section
variable {g : Gd} {n : Nat} {L : Addr} {loc : Loc} {hp : HP}
theorem cls137 (P : Params) : ∃ cd, clsIn (myK P) 137 = some cd ∧ cd.hasDict = true := ⟨_, rfl, rfl⟩
section
variable {base : HP} {x : Addr} {S : SS} {R : SR}
theorem ga_sort (G : Gnd g) {nm : PySem.Str} {v : AV} {Q : AV → Loc → HP → Prop} (hS : SortAt hp x S R) (hf : findIn (myK g.w.params) (.ref 137) nm = some none) (hv : lk nm (sAttrs R.nd (rdyV S.ready R.rl) S.passed S.fin) = some v) (hpv : v.plainV = true) (q : Q v loc hp) :
    ∀ va, (AV.ref x).Is va → WB g n L (getAttr va nm true) loc hp AV.Is Q := by
  obtain ⟨cd, hc, hd⟩ := cls137 g.w.params
  exact ga_inst G (clsOk137 _) hc hd hf hS.hx hS.hd hv hpv q
theorem ga_np (G : Gnd g) {N : Nd} {Q : AV → Loc → HP → Prop} (hS : SortAt hp x S R) (hN : N ∈ S.nodes) (q : Q (.int N.np) loc hp) : ∀ va, (AV.ref (R.a N.name)).Is va → WB g n L (getAttr va "npredecessors" true) loc hp AV.Is Q := by
  obtain ⟨cd, hc⟩ := cls40 g.w.params
  exact ga_slot G (clsOk40 _) (slotOk_npred _) hc (hS.ha N hN) (hS.hb N hN) rfl rfl q
theorem ga_sc (G : Gnd g) {N : Nd} {Q : AV → Loc → HP → Prop} (hS : SortAt hp x S R) (hN : N ∈ S.nodes) (q : Q (.ref (R.c N.name)) loc hp) : ∀ va, (AV.ref (R.a N.name)).Is va → WB g n L (getAttr va "successors" true) loc hp AV.Is Q := by
  obtain ⟨cd, hc⟩ := cls40 g.w.params
  exact ga_slot G (clsOk40 _) (slotOk_succ _) hc (hS.ha N hN) (hS.hb N hN) rfl rfl q
theorem sa_np (G : Gnd g) {N : Nd} {v : Int} {Q : Loc → HP → Prop} (hS : SortAt hp x S R) (hN : N ∈ S.nodes) (q : Q loc (hp.set (R.a N.name) (.slotted 40 (R.b N.name) [some (.str N.name), some (.int v), some (.ref (R.c N.name))]))) : ∀ va vv, (AV.ref (R.a N.name)).Is va → (AV.int v).Is vv → UN g n L (setAttr va "npredecessors" vv) loc hp Q :=
  sa_slot G (clsOk40 _) (slotOk_npred _) (by decide) (hS.ha N hN) (hS.hb N hN) q
theorem sa_pf (G : Gnd g) {nm : PySem.Str} {v : AV} {at2 : Loc} {Q : Loc → HP → Prop} (hS : SortAt hp x S R) (ht : takerIn (myK g.w.params) 137 nm = some none) (e : dstore (sAttrs R.nd (rdyV S.ready R.rl) S.passed S.fin) nm v = at2) (q : Q loc (hp.set R.d (.ns at2))) : ∀ va vv, (AV.ref x).Is va → v.Is vv → UN g n L (setAttr va nm vv) loc hp Q := by
  obtain ⟨cd, hc, hd⟩ := cls137 g.w.params
  subst e
  exact sa_inst G (clsOk137 _) hc hd ht hS.hx hS.hd (by simp [sAttrs]) q
theorem rdyV_plain (r : Option (List PySem.Str)) (rl : Addr) : (rdyV r rl).plainV = true := by cases r <;> rfl
theorem rdyV_none {r : Option (List PySem.Str)} {rl : Addr} : (rdyV r rl).isNone = r.isNone := by cases r <;> rfl
theorem c_getinfo (G : Gnd g) {k : PySem.Str} {Q : AV → HP → Prop} (hS : SortIn base hp x S R) (hz : S.nodes.length ≤ 1000) (q : ∀ hp' R', SortIn base hp' x (S.touch k) R' → Q (.ref (R'.a k)) hp') :
    ∀ v, (AV.str k).Is v → CH g (n + 3) (.ref 80) [.ref x, v] hp Q := by
  intro v hv
  refine C_call G (kf80 _) (kc80 _) rfl rfl ⟨rfl, rfl, rfl⟩ ?_ rfl ⟨rfl, rfl, rfl⟩
  rw [show bindArgs fd80 ⟨[.ref x, v], []⟩ = (pure [(("self" : PySem.Str), PySem.Value.ref x), (("node" : PySem.Str), v)] : Sem (List (PySem.Str × PySem.Value))) from rfl]
  refine WH.pure (b := ([("self", AV.ref x), ("node", .str k)] : Loc)) ⟨⟨rfl, ⟨0, rfl⟩, rfl, hv, trivial⟩, locs rfl⟩ ?_
  intro env F hL
  walk_at "gb"
  refine EV_Named ?_
  walk_at "gb"
  refine EV_Attr rfl ?_
  walk_at "gb"
  refine ga_sort G hS.at_ (no_n2i _) rfl rfl ?_
  refine ⟨by simp [aty, AO.ty, hS.at_.hnd], ?_⟩
  walk_at "gb"
  refine c_dget hS.at_.hnd ?_
  walk_at "gb"
  refine cmp_is_none ?_
  refine ⟨_, rfl, ?_⟩
  by_cases hk : k ∈ S.names
  · obtain ⟨N, hN, rfl⟩ := List.mem_map.mp hk
    rw [lk_nodup R hS.at_.nodup hN]
    refine iF ?_
    walk_at "gb"
    have := q hp R
    unfold SS.touch at this
    rw [if_pos hk] at this
    exact this hS
  · rw [lk_ndNone R hk]
    refine iT ?_
    walk_at "gb"
    refine EX_AssignSubName ?_ ?s1
    case s1 => exact rfl
    refine NW_ F G (kn_NodeInfo _) (keep40 _) ?s1 ?s2 ?s3 ?s4 ?_
    case s1 => exact rfl
    case s2 => exact rfl
    case s3 => exact rfl
    case s4 => exact rfl
    walk_at "gb"
    intro vs hvs
    obtain ⟨t, rfl⟩ := Vs1 hvs
    refine WB.lift (CH.wh (C_make G (makes40 _) (init40 _) (fn36 _) (X := fun d => .slotted 40 d []) ?_ ?_))
    · intro h y dy e; exact ⟨_, e, rfl, rfl, rfl, [], rfl, trivial⟩
    intro a d ha hd had
    refine ch36 G ⟨t, rfl⟩ (HP.set_self _ _ _) (HP.set_of had.symm (HP.set_self _ _ _)) fun sl hsl => ⟨rfl, ?_⟩
    simp only [HP.set_none_iff] at hsl
    obtain ⟨hsa, hsd, hsl⟩ := hsl
    walk_at "gb"
    refine EV_Attr rfl ?_
    walk_at "gb"
    have hS2 : SortIn base (((hp.set d (.ns [])).set a (.slotted 40 d [])).set sl (.list [])) x S R := ((hS.fresh hd).fresh (HP.set_none_iff.mpr ⟨had, ha⟩)).fresh (by simp only [HP.set_none_iff]; exact ⟨hsa, hsd, hsl⟩)
    have hS3 : SortIn base ((((hp.set d (.ns [])).set a (.slotted 40 d [])).set sl (.list [])).set a (.slotted 40 d [some (.str k), some (.int 0), some (.ref sl)])) x S R := by
      have hnf : ¬ Foot x S R a := hS.at_.notFoot ha
      exact ⟨hS2.sub.setN (hS.sub.non ha), hS2.at_.set hnf, hS2.sep⟩
    refine ga_sort G hS3.at_ (no_n2i _) rfl rfl ?_
    walk_at "gb"
    intro va vb vx h1 h2 h3
    refine WB.mono (si_dict hS3.at_.hnd (by simp [ndDict]; lia) (Q := fun l h => l = _ ∧ h = _) ⟨rfl, rfl⟩ va vb vx h1 h2 h3) ?_
    rintro _ l h ⟨rfl, rfl⟩
    refine SL_ F rfl ?_ vx h3
    walk_at "gb"
    have hds : dstore (ndDict R S.nodes) k (.ref a) = ndDict R S.nodes ++ [(k, .ref a)] := by
      unfold dstore
      rw [if_neg]
      intro h
      have := lk_some_any h
      rw [lk_ndNone R hk] at this; cases this
    rw [hds]
    have hna : ∀ {y X}, hp y = some X → y ≠ a := fun {y X} e => by rintro rfl; rw [ha] at e; cases e
    have hnd : ∀ {y X}, hp y = some X → y ≠ d := fun {y X} e => by rintro rfl; rw [hd] at e; cases e
    have hnl : ∀ {y X}, hp y = some X → y ≠ sl := fun {y X} e => by rintro rfl; rw [hsl] at e; cases e
    have ndx := hS.at_.hnd
    have := q (((((hp.set d (.ns [])).set a (.slotted 40 d [])).set sl (.list [])).set a (.slotted 40 d [some (.str k), some (.int 0), some (.ref sl)])).set R.nd (.dict (ndDict R S.nodes ++ [(k, .ref a)]))) { R with a := upA R.a k a, b := upA R.b k d, c := upA R.c k sl }
    unfold SS.touch at this
    rw [if_neg hk] at this
    have e := this (hS.newNode (A := a) (B := d) (C := sl) hk ha hd hsl had (Ne.symm hsa) (Ne.symm hsd) ?_ ?_ ?_ ?_ ?_)
    · replace e : Q (.ref (upA R.a k a k)) _ := e
      rw [upA_self] at e; exact e
    · rw [HP.set_ne (hna ndx).symm, HP.set_self]
    · rw [HP.set_ne (hnd ndx).symm, HP.set_ne had.symm, HP.set_ne (Ne.symm hsd), HP.set_ne had.symm, HP.set_self]
    · rw [HP.set_ne (hnl ndx).symm, HP.set_ne hsa, HP.set_self]
    · rw [HP.set_self]
    · intro y y1 y2 y3 y4
      rw [HP.set_ne y4, HP.set_ne y1, HP.set_ne y3, HP.set_ne y1, HP.set_ne y2]
end
end
section
variable {g : Gd} {n : Nat} {L : Addr} {loc : Loc} {hp : HP}
noncomputable def SS.add (S : SS) (k p : PySem.Str) : SS := (((S.touch k).upd k fun N => { N with np := N.np + 1 }).touch p).upd p fun N => { N with succ := N.succ ++ [k] }
theorem fn80 (P : Params) : typeIn (myK P) (.ref 80) = some (.type "function") := by kernel_rfl
theorem me80 (P : Params) : findIn (myK P) (.ref 137) "_get_nodeinfo" = some (some (.ref 80)) := by kernel_rfl
section
variable {base : HP} {x : Addr} {S : SS} {R : SR}
theorem updN_len (k : PySem.Str) (f : Nd → Nd) (ns : List Nd) : (updN k f ns).length = ns.length := by unfold updN; simp
theorem SS.add_ready (S : SS) (k p : PySem.Str) : (S.add k p).ready = S.ready := by
  show (((S.touch k).upd k _).touch p).ready = _
  rw [SS.touch_ready]; show (S.touch k).ready = _; rw [SS.touch_ready]
theorem SS.add_len (S : SS) (k p : PySem.Str) : (S.add k p).nodes.length ≤ S.nodes.length + 2 := by
  show (updN _ _ _).length ≤ _
  rw [updN_len]
  have h1 := SS.touch_len ((S.touch k).upd k fun N => { N with np := N.np + 1 }) p
  have h2 : ((S.touch k).upd k fun N => { N with np := N.np + 1 }).nodes.length = (S.touch k).nodes.length := updN_len _ _ _
  have h3 := SS.touch_len S k
  lia
theorem setNp_inc {N : Nd} {h : HP} (s : SortIn base h x S R) (hN : N ∈ S.nodes) : SortIn base (h.set (R.a N.name) (.slotted 40 (R.b N.name) [some (.str N.name), some (.int (N.np + 1)), some (.ref (R.c N.name))])) x (S.upd N.name fun N => { N with np := N.np + 1 }) R := by
  have := s.setNp (v := N.np + 1) hN
  have e : (S.upd N.name fun M => { M with np := N.np + 1 }) = S.upd N.name fun N => { N with np := N.np + 1 } := by
    unfold SS.upd; congr 1
    exact updN_congr fun M hM e => by rw [s.at_.uniq hM hN e]
  rw [e] at this; exact this
theorem c_add (G : Gnd g) {k p : PySem.Str} {Q : AV → HP → Prop} (hS : SortIn base hp x S R) (hr : S.ready = none) (hz : S.nodes.length ≤ 900) (hsl : ∀ N ∈ S.nodes, N.succ.length ≤ 1000) (q : ∀ hp' R', SortIn base hp' x (S.add k p) R' → Q .none hp') :
    ∀ v u, (AV.str k).Is v → (AV.str p).Is u → CH g (n + 4) (.ref 87) [.ref x, v, u] hp Q := by
  intro v u hv hu
  refine C_call G (kf87 _) (kc87 _) rfl rfl ⟨rfl, rfl, rfl⟩ ?_ rfl ⟨rfl, rfl, rfl⟩
  rw [show bindArgs fd87 ⟨[.ref x, v, u], []⟩ = (do let t ← newTuple [u]; pure [(("self" : PySem.Str), PySem.Value.ref x), (("node" : PySem.Str), v), (("predecessors" : PySem.Str), t)] : Sem (List (PySem.Str × PySem.Value))) from rfl]
  refine WH.bind (Rel := AV.Is) (WH_newTuple (xs := [.str p]) ⟨hu, trivial⟩ (by simp) fun t ht a ha => ?_)
  refine WH.pure (b := ([("self", AV.ref x), ("node", .str k), ("predecessors", .ref t)] : Loc)) ⟨⟨rfl, ⟨0, rfl⟩, rfl, hv, rfl, ha, trivial⟩, locs rfl⟩ ?_
  intro env F hL
  have hS1 : SortIn (base.set t (.tuple [.str p])) (hp.set t (.tuple [.str p])) x S R := hS.add ht
  have hbt : base t = none := hS.sub.non ht
  generalize hB : base.set t (.tuple [.str p]) = B at hS1
  have hBt : B t = some (.tuple [.str p]) := by rw [← hB]; exact HP.set_self _ _ _
  have hBb : base.Sub B := by rw [← hB]; exact HP.sub_set hbt
  have hBd : B.del t = base := by rw [← hB, HP.set_del, HP.del_none_eq hbt]
  clear hB
  generalize hp.set t (.tuple [.str p]) = h1 at hS1 hL ⊢
  walk_at "gb"
  refine EV_Attr rfl ?_
  walk_at "gb"
  refine ga_sort G hS1.at_ (no_rn _) rfl (rdyV_plain _ _) ?_
  walk_at "gb"
  refine cmp_isNot_none ?_
  rw [rdyV_none, hr]
  refine ⟨_, rfl, iNT ?_⟩
  walk_at "gb"
  refine EV_imeth G (clsOk137 _) (me80 _) (kf80 _) (fn80 _) ?_ ?s1 ?s2 ?s3 ?s4
  case s1 => exact rfl
  case s2 => exact rfl
  case s3 => exact rfl
  case s4 => exact rfl
  walk_at "gb"
  refine ex3 x _ _ ⟨rfl, hS1.at_.hx, hS1.at_.hd, rfl, ?_⟩
  walk_at "gb"
  intro vs hvs
  obtain ⟨tk, rfl⟩ := Vs1 hvs
  refine WB.lift (CH.wh (c_getinfo G (k := k) hS1 (by lia) (fun h2 R2 hS2 => ?_) _ ⟨tk, rfl⟩))
  clear hS1 hvs
  walk_at "gb"
  obtain ⟨N, hN, hNk⟩ := SS.touch_mem S k
  have ht2 : h2 t = some (.tuple [.str p]) := hS2.sub _ _ hBt
  refine EX_AugAttr ?_
  walk_at "gb"
  rw [← hNk]
  intro va hva
  refine ga_np G hS2.at_ hN ?_ va hva
  rw [hNk]
  walk_at "gb"
  refine c_len_tuple ht2 (by simp) ?_
  refine ip_add ?_
  intro vn hvn
  refine sa_np G hS2.at_ hN ?_ va vn hva hvn
  have hS3 := setNp_inc hS2 hN
  rw [hNk] at hS3 ⊢
  show XS g _ env _ _ (h2.set (R2.a k) (.slotted 40 (R2.b k) [some (.str k), some (.int (N.np + 1)), some (.ref (R2.c k))])) _
  revert hS3
  generalize h2.set (R2.a k) (.slotted 40 (R2.b k) [some (.str k), some (.int (N.np + 1)), some (.ref (R2.c k))]) = h3
  intro hS3
  have ht3 : h3 t = some (.tuple [.str p]) := hS3.sub _ _ hBt
  have hl3 : ((S.touch k).upd k fun N => { N with np := N.np + 1 }).nodes.length ≤ 902 := by
    have h2 : ((S.touch k).upd k fun N => { N with np := N.np + 1 }).nodes.length = (S.touch k).nodes.length := updN_len _ _ _
    have h3 := SS.touch_len S k
    lia
  have hsl3 : ∀ N ∈ (((S.touch k).upd k fun N => { N with np := N.np + 1 }).touch p).nodes, N.succ.length ≤ 1000 := by
    have tch : ∀ (S : SS) (k : PySem.Str), (∀ N ∈ S.nodes, N.succ.length ≤ 1000) → ∀ N ∈ (S.touch k).nodes, N.succ.length ≤ 1000 := by
      intro S k h N hN
      unfold SS.touch at hN
      split at hN
      · exact h N hN
      · rcases List.mem_append.mp hN with h' | h'
        · exact h N h'
        · rw [List.mem_singleton.mp h']; simp
    refine tch _ p fun N hN => ?_
    obtain ⟨M, hM, e⟩ := updN_mem hN
    have := tch S k hsl M hM
    subst e; split <;> exact this
  revert hS3 hl3 hsl3
  unfold SS.add at q
  generalize ((S.touch k).upd k fun N => { N with np := N.np + 1 }) = S3 at q ⊢
  intro hS3 hl3 hsl3
  clear hS2 hN hNk ht2 hva hvn
  walk_at "gb"
  refine EX_ForL ?_ (fun V => rfl)
  walk_at "gb"
  refine ex3 _ _ _ ⟨Src.tuple ht3, fun i l h => Lsub [("self", AV.ref x), ("node", .str k)] l ∧ ∃ R', SortIn base h x (if i = 0 then S3 else (S3.touch p).upd p fun N => { N with succ := N.succ ++ [k] }) R', ⟨Lsub.all ⟨rfl, rfl, trivial⟩, R2, ?_⟩, ?_, ?_⟩
  · rw [if_pos rfl]
    have := hS3.del hBt
    rw [hBd] at this; exact this
  · rintro i v l h hi ⟨hl, R', hS'⟩ hln
    have hi0 : i = 0 := by have := (List.getElem?_eq_some_iff.mp hi).1; simp at this; lia
    subst hi0
    simp at hi; subst hi
    rw [if_pos rfl] at hS'
    refine SL_ F rfl (WB.weak hl.cons (HP.Sub.refl _) ?_)
    walk_at "gb"
    refine EV_imeth G (clsOk137 _) (me80 _) (kf80 _) (fn80 _) ?_ ?s1 ?s2 ?s3 ?s4
    case s1 => exact rfl
    case s2 => exact rfl
    case s3 => exact rfl
    case s4 => exact rfl
    walk_at "gb"
    refine ex3 x _ _ ⟨rfl, hS'.at_.hx, hS'.at_.hd, rfl, ?_⟩
    walk_at "gb"
    intro vs hvs
    obtain ⟨tk, rfl⟩ := Vs1 hvs
    refine WB.lift (CH.wh (c_getinfo G (k := p) hS' (by lia) (fun h4 R4 hS4 => ?_) _ ⟨tk, rfl⟩))
    obtain ⟨M, hM, hMp⟩ := SS.touch_mem S3 p
    walk_at "gb"
    refine EV_Attr rfl ?_
    walk_at "gb"
    rw [← hMp]
    refine ga_sc G hS4.at_ hM ?_
    refine ⟨by simp [aty, AO.ty, hS4.at_.hc M hM], ?_⟩
    walk_at "gb"
    refine c_append (hS4.at_.hc M hM) (by have := hsl3 M hM; simp [strsA]; lia) ?_
    walk_at "gb"
    refine ⟨Lsub.all ⟨rfl, rfl, trivial⟩, R4, ?_⟩
    rw [if_neg (by lia)]
    have := hS4.addSucc (k := k) hM
    have e : strsA (M.succ ++ [k]) = strsA M.succ ++ [.str k] := by simp [strsA]
    rw [e, hMp] at this
    rw [hMp]; exact this
  · rintro l h ⟨hl, R', hS'⟩ hln
    have : h t = none := hln t (by rw [ht3]; rfl) (HP.del_self _ _)
    walk_at "gb"
    rw [if_neg (by simp)] at hS'
    exact q _ R' (hS'.fresh this)
end
end
section
variable {g : Gd} {n : Nat} {L : Addr} {loc : Loc} {hp : HP}
noncomputable def SS0 : SS := ⟨[], none, 0, 0⟩
section
variable {base : HP} {x : Addr} {S : SS} {R : SR}
theorem bind73 (G : Gnd g) {x : Addr} {Q : Loc → HP → Prop} (q : Q [("self", .ref x), ("graph", .none)] hp) : WH g n (bindArgs fd73 ⟨[.ref x], []⟩) hp (fun (bl : Loc) binds => Ps bl binds ∧ ∀ z ∈ binds, fd73.scope.names.lookup z.1 = some .local) Q := by
  intro A E h₀ s c y
  have B := kp_binds (fd := fd73) (args := ⟨[.ref x], []⟩) (binds := [(("self" : PySem.Str), PySem.Value.ref x), (("graph" : PySem.Str), PySem.Value.none)]) (G.kin.keeps (staysH c y)) (fun S => by rfl)
  exact B _ _ _ _ ⟨[("self", .ref x), ("graph", .none)], hp, ⟨⟨rfl, ⟨0, rfl⟩, rfl, ⟨0, rfl⟩, trivial⟩, locs rfl⟩, y, q⟩
theorem c_new (G : Gnd g) {Q : AV → HP → Prop} (q : ∀ x hp' R', SortIn hp hp' x SS0 R' → Q (.ref x) hp') : CH g (n + 2) (.ref 137) [] hp Q := by
  refine C_make G (makes137 _) (init137 _) (fn73 _) (X := fun d => .inst 137 d) (fun h y dy e => ⟨_, e, rfl, rfl, rfl⟩) ?_
  intro x d hx hd hxd
  refine C_call G (kf73 _) (kc73 _) rfl rfl ⟨rfl, rfl, rfl⟩ (bind73 G ?_) rfl ⟨rfl, rfl, rfl⟩
  intro env F hL
  obtain ⟨cd, hc, hcd⟩ := cls137 g.w.params
  walk_at "gb"
  refine EX_AssignAttr ?_ ?s1
  case s1 => exact rfl
  refine EV_Dict0 G fun nd hnd => ?_
  simp only [HP.set_none_iff] at hnd
  obtain ⟨hndx, hndd, hnd⟩ := hnd
  walk_at "gb"
  refine sa_inst G (clsOk137 _) hc hcd (tk_n2i _) (HP.set_of (Ne.symm hndx) (HP.set_self _ _ _)) (HP.set_of (Ne.symm hndd) (HP.set_of (Ne.symm hxd) (HP.set_self _ _ _))) (by simp) ?_
  walk_at "gb"
  have hH : ∃ H : HP, H = (((hp.set d (.ns [])).set x (.inst 137 d)).set nd (.dict [])) := ⟨_, rfl⟩
  obtain ⟨H, hH⟩ := hH
  rw [← hH]
  have Hx : H x = some (.inst 137 d) := by rw [hH]; exact HP.set_of (Ne.symm hndx) (HP.set_self _ _ _)
  have Hnd : H nd = some (.dict []) := by rw [hH]; exact HP.set_self _ _ _
  have Ho : hp.Sub H := by rw [hH]; exact ((HP.sub_set hd).new (by rw [HP.set_ne hxd]; exact hx)).new (by simp only [HP.set_none_iff]; exact ⟨hndx, hndd, hnd⟩)
  refine EX_AssignAttr ?_ ?s1
  case s1 => exact rfl
  walk_at "gb"
  refine sa_inst G (clsOk137 _) hc hcd (tk_rn _) (HP.set_of hxd Hx) (HP.set_self _ _ _) (Nat.le_of_ble_eq_true rfl) ?_
  rw [HP.set_set]
  walk_at "gb"
  refine EX_AssignAttr ?_ ?s1
  case s1 => exact rfl
  walk_at "gb"
  refine sa_inst G (clsOk137 _) hc hcd (tk_np _) (HP.set_of hxd Hx) (HP.set_self _ _ _) (Nat.le_of_ble_eq_true rfl) ?_
  rw [HP.set_set]
  walk_at "gb"
  refine EX_AssignAttr ?_ ?s1
  case s1 => exact rfl
  walk_at "gb"
  refine sa_inst G (clsOk137 _) hc hcd (tk_nf _) (HP.set_of hxd Hx) (HP.set_self _ _ _) (Nat.le_of_ble_eq_true rfl) ?_
  rw [HP.set_set]
  walk_at "gb"
  refine cmp_isNot_none ?_
  refine ⟨_, rfl, iNT ?_⟩
  walk_at "gb"
  refine ⟨rfl, q x _ ⟨d, nd, 0, fun V => 0, fun V => 0, fun V => 0⟩ ⟨?_, ⟨HP.set_of hxd Hx, ?_, HP.set_of hndd Hnd, fun N hN => (by cases hN), fun N hN => (by cases hN), fun N hN => (by cases hN), fun N hN => (by cases hN), fun l hl => (by cases hl), List.nodup_nil⟩, ?_⟩⟩
  · exact Ho.setN hd
  · rw [HP.set_self]; rfl
  · rintro y (rfl | rfl | rfl | ⟨l, hl, _⟩ | ⟨N, hN, _⟩)
    · exact hx
    · exact hd
    · exact hnd
    · cases hl
    · cases hN
end
end
section
variable {g : Gd} {n : Nat} {L : Addr} {loc : Loc} {hp : HP}
noncomputable def setNpS (S : SS) (k : PySem.Str) (v : Int) : SS := S.upd k fun N => { N with np := v }
noncomputable def outAll (l : List PySem.Str) (S : SS) : SS := l.foldl (fun S k => setNpS S k (-1)) S
theorem setNpS_names (S : SS) (k : PySem.Str) (v : Int) : (setNpS S k v).names = S.names := updN_names (f := fun N => { N with np := v }) (fun V => rfl) _
theorem outAll_names : ∀ (l : List PySem.Str) (S : SS), (outAll l S).names = S.names
  | [], _ => rfl
  | k :: l, S => (outAll_names l (setNpS S k (-1))).trans (setNpS_names S k (-1))
theorem outAll_ready : ∀ (l : List PySem.Str) (S : SS), (outAll l S).ready = S.ready
  | [], _ => rfl
  | k :: l, S => outAll_ready l (setNpS S k (-1))
noncomputable def SS.got (S : SS) (l : List PySem.Str) : SS := { outAll l S with ready := some [], passed := (outAll l S).passed + l.length }
section
variable {base : HP} {x : Addr} {S : SS} {R : SR}
theorem c_isactive (G : Gnd g) {l : List PySem.Str} {Q : AV → HP → Prop} (hS : SortIn base hp x S R) (hr : S.ready = some l) (hz : l.length ≤ 1000) (q : Q (.bool (decide (S.fin < S.passed) || !l.isEmpty)) hp) : CH g (n + 1) (.ref 106) [.ref x] hp Q := by
  refine C_call G (kf106 _) (kc106 _) rfl rfl ⟨rfl, rfl, rfl⟩ ?_ rfl ⟨rfl, rfl, rfl⟩
  rw [show bindArgs fd106 ⟨[.ref x], []⟩ = (pure [(("self" : PySem.Str), PySem.Value.ref x)] : Sem (List (PySem.Str × PySem.Value))) from rfl]
  refine WH.pure (b := ([("self", AV.ref x)] : Loc)) ⟨⟨rfl, ⟨0, rfl⟩, trivial⟩, locs rfl⟩ ?_
  intro env F hL
  have hrl := (hS.at_.hr l hr).1
  have hrv : rdyV S.ready R.rl = .ref R.rl := by rw [hr]; rfl
  walk_at "gb"
  refine EV_Attr rfl ?_
  walk_at "gb"
  refine ga_sort G hS.at_ (no_rn _) rfl (rdyV_plain _ _) ?_
  walk_at "gb"
  refine cmp_is_none ?_
  rw [rdyV_none, hr]
  refine ⟨_, rfl, iF ?_⟩
  walk_at "gb"
  refine EV_Attr rfl ?_
  walk_at "gb"
  refine ga_sort G hS.at_ (no_nf _) rfl rfl ?_
  refine EV_Attr rfl ?_
  walk_at "gb"
  refine ga_sort G hS.at_ (no_np _) rfl rfl ?_
  walk_at "gb"
  refine iB (fun e1 => ?_) fun e1 => ?_
  · show Q (.bool (decide (S.fin < S.passed))) hp
    rw [e1] at q ⊢; exact q
  · rw [e1, Bool.false_or] at q
    walk_at "gb"
    refine EV_Attr rfl ?_
    walk_at "gb"
    refine ga_sort G hS.at_ (no_rn _) rfl (rdyV_plain _ _) ?_
    rw [hrv]
    walk_at "gb"
    refine c_bool_list hrl (by simp [strsA]; lia) ?_
    have e : (strsA l).isEmpty = l.isEmpty := by cases l <;> rfl
    rw [e]; exact q
theorem c_getready (G : Gnd g) {l : List PySem.Str} {Q : AV → HP → Prop} (hS : SortIn base hp x S R) (hr : S.ready = some l) (hz : l.length ≤ 1000) (hin : ∀ k ∈ l, k ∈ S.names)
    (q : ∀ t hp' R', base t = none → SortIn (base.set t (.tuple (strsA l))) hp' x (S.got l) R' → Q (.ref t) hp') : CH g (n + 1) (.ref 99) [.ref x] hp Q := by
  refine C_call G (kf99 _) (kc99 _) rfl rfl ⟨rfl, rfl, rfl⟩ ?_ rfl ⟨rfl, rfl, rfl⟩
  rw [show bindArgs fd99 ⟨[.ref x], []⟩ = (pure [(("self" : PySem.Str), PySem.Value.ref x)] : Sem (List (PySem.Str × PySem.Value))) from rfl]
  refine WH.pure (b := ([("self", AV.ref x)] : Loc)) ⟨⟨rfl, ⟨0, rfl⟩, trivial⟩, locs rfl⟩ ?_
  intro env F hL
  have hrl := (hS.at_.hr l hr).1
  have hrv : rdyV S.ready R.rl = .ref R.rl := by rw [hr]; rfl
  have hzl : (strsA l).length ≤ 100000 := by simp [strsA]; lia
  walk_at "gb"
  refine EV_Attr rfl ?_
  walk_at "gb"
  refine ga_sort G hS.at_ (no_rn _) rfl (rdyV_plain _ _) ?_
  walk_at "gb"
  refine cmp_is_none ?_
  rw [rdyV_none, hr]
  refine ⟨_, rfl, iF ?_⟩
  walk_at "gb"
  refine EV_Attr rfl ?_
  walk_at "gb"
  refine ga_sort G hS.at_ (no_rn _) rfl (rdyV_plain _ _) ?_
  rw [hrv]
  walk_at "gb"
  refine c_tuple hrl hzl fun t ht => ?_
  have hbt : base t = none := hS.sub.non ht
  have hS1 := hS.add (X := .tuple (strsA l)) ht
  have q := q t
  revert hS1
  generalize hB : base.set t (.tuple (strsA l)) = B at q ⊢
  generalize hp.set t (.tuple (strsA l)) = h1
  intro hS1
  have hBt : B t = some (.tuple (strsA l)) := by rw [← hB]; exact HP.set_self _ _ _
  walk_at "gb"
  refine EV_Attr rfl ?_
  walk_at "gb"
  refine ga_sort G hS1.at_ (no_n2i _) rfl rfl ?_
  walk_at "gb"
  have ht1 : h1 t = some (.tuple (strsA l)) := hS1.sub _ _ hBt
  refine EX_ForL ?_ (fun V => rfl)
  walk_at "gb"
  refine ex3 _ _ _ ⟨Src.tuple ht1, fun i lo h => Lsub [("result", .ref t), ("n2i", AV.ref R.nd), ("self", .ref x)] lo ∧ SortIn (B.del t) h x (outAll (l.take i) S) R, ⟨Lsub.all ⟨rfl, rfl, rfl, trivial⟩, hS1.del hBt⟩, ?_, ?_⟩
  · rintro i v lo h hi ⟨hl, hS'⟩ hln
    obtain ⟨k, hk, rfl⟩ : ∃ k, l[i]? = some k ∧ v = .str k := by
      simp only [strsA, List.getElem?_map, Option.map_eq_some_iff] at hi
      obtain ⟨c, h1, h2⟩ := hi; exact ⟨c, h1, h2.symm⟩
    have hkin : k ∈ (outAll (l.take i) S).names := by rw [outAll_names]; exact hin k (List.mem_of_getElem? hk)
    obtain ⟨N, hN, rfl⟩ := List.mem_map.mp hkin
    have htk : outAll (l.take (i + 1)) S = setNpS (outAll (l.take i) S) N.name (-1) := by
      unfold outAll; rw [List.take_add_one, hk, List.foldl_append]; rfl
    refine SL_ F rfl (WB.weak hl.cons (HP.Sub.refl _) ?_)
    walk_at "gb"
    refine EX_AssignAttr ?_ ?s1
    case s1 => exact rfl
    refine G_ F G (kn_NODE_OUT _) rfl (av := .int (-1)) ⟨_, rfl⟩ rfl ?_
    refine EV_Sub PySem.slot_dict_getitem.lookup ?_
    walk_at "gb"
    refine ⟨by simp [aty, AO.ty, hS'.at_.hnd], gi_dict hS'.at_.hnd (lk_nodup R hS'.at_.nodup hN) ?_⟩
    refine sa_np G hS'.at_ hN ?_
    walk_at "gb"
    refine ⟨Lsub.all ⟨rfl, rfl, rfl, trivial⟩, ?_⟩
    rw [htk]
    exact hS'.setNp hN
  · rintro lo h ⟨hl, hS'⟩ hln
    have hlen : (strsA l).length = l.length := by simp [strsA]
    rw [hlen, List.take_length] at hS'
    have hth : h t = none := hln t (by rw [ht1]; rfl) (HP.del_self _ _)
    have hS2 := hS'.add (X := .tuple (strsA l)) hth
    rw [HP.del_set_same hBt] at hS2
    revert hS2
    generalize h.set t (.tuple (strsA l)) = h2
    intro hS2
    have hro : (outAll l S).ready = some l := (outAll_ready l S).trans hr
    have hrv2 : rdyV (outAll l S).ready R.rl = .ref R.rl := by rw [hro]; rfl
    refine WB.weak hl (HP.Sub.refl _) ?_
    walk_at "gb"
    refine EV_Attr rfl ?_
    walk_at "gb"
    refine ga_sort G hS2.at_ (no_rn _) rfl (rdyV_plain _ _) ?_
    rw [hrv2]
    refine ⟨by simp [aty, AO.ty, (hS2.at_.hr l hro).1], ?_⟩
    refine c_clear (hS2.at_.hr l hro).1 hzl ?_
    have hS3 := hS2.setRl (l' := []) hro
    have e0 : strsA [] = [] := rfl
    rw [e0] at hS3
    revert hS3
    generalize h2.set R.rl (.list []) = h3
    intro hS3
    have ht3 : h3 t = some (.tuple (strsA l)) := hS3.sub _ _ hBt
    walk_at "gb"
    refine EX_AugAttr ?_
    walk_at "gb"
    intro va hva
    refine ga_sort G hS3.at_ (no_np _) rfl rfl ?_ va hva
    walk_at "gb"
    refine c_len_tuple ht3 hzl ?_
    refine ip_add ?_
    intro vn hvn
    refine sa_pf G hS3.at_ (tk_np _) (at2 := sAttrs R.nd (.ref R.rl) ((outAll l S).passed + ((strsA l).length : Nat)) (outAll l S).fin) rfl ?_ va vn hva hvn
    have hS4 := hS3.setPF (p := (outAll l S).passed + ((strsA l).length : Nat)) (f := (outAll l S).fin)
    walk_at "gb"
    rw [hlen] at hS4 ⊢
    exact q _ R hbt hS4
end
end
section
variable {g : Gd} {n : Nat} {L : Addr} {loc : Loc} {hp : HP}
noncomputable def decS (S : SS) (s : PySem.Str) : SS := S.upd s fun N => { N with np := N.np - 1 }
noncomputable def npOf (S : SS) (s : PySem.Str) : Int := ((S.nodes.find? fun N => N.name = s).map (·.np)).getD 0
noncomputable def decOne (S : SS) (s : PySem.Str) : SS := if npOf (decS S s) s = 0 then { decS S s with ready := (decS S s).ready.map (· ++ [s]) } else decS S s
noncomputable def SS.doneS (S : SS) (k : PySem.Str) (succ : List PySem.Str) : SS := { succ.foldl decOne (setNpS S k (-2)) with fin := (succ.foldl decOne (setNpS S k (-2))).fin + 1 }
theorem npOf_mem {S : SS} (hd : (S.nodes.map (·.name)).Nodup) {N : Nd} (hN : N ∈ S.nodes) : npOf S N.name = N.np := by
  unfold npOf
  have : ∀ (ns : List Nd), (ns.map (·.name)).Nodup → N ∈ ns → (ns.find? fun M => M.name = N.name) = some N := by
    intro ns
    induction ns with
    | nil => intro _ h; cases h
    | cons K ns ih =>
      intro hd h
      rw [List.map_cons, List.nodup_cons] at hd
      rcases List.mem_cons.mp h with rfl | h
      · simp
      · rw [List.find?_cons_of_neg]
        · exact ih hd.2 h
        · simp; intro e; exact hd.1 (by rw [e]; exact List.mem_map.mpr ⟨N, h, rfl⟩)
  rw [this S.nodes hd hN]; rfl
theorem decS_names (S : SS) (k : PySem.Str) : (decS S k).names = S.names := updN_names (f := fun N => { N with np := N.np - 1 }) (fun V => rfl) _
theorem decOne_names (S : SS) (k : PySem.Str) : (decOne S k).names = S.names := by unfold decOne; split <;> exact decS_names S k
theorem decAll_names : ∀ (l : List PySem.Str) (S : SS), (l.foldl decOne S).names = S.names
  | [], _ => rfl
  | k :: l, S => (decAll_names l (decOne S k)).trans (decOne_names S k)
section
variable {base : HP} {x : Addr} {S : SS} {R : SR}
theorem setNp_dec {N : Nd} {h : HP} (s : SortIn base h x S R) (hN : N ∈ S.nodes) : SortIn base (h.set (R.a N.name) (.slotted 40 (R.b N.name) [some (.str N.name), some (.int (N.np - 1)), some (.ref (R.c N.name))])) x (decS S N.name) R := by
  have := s.setNp (v := N.np - 1) hN
  have e : (S.upd N.name fun M => { M with np := N.np - 1 }) = decS S N.name := by
    unfold decS SS.upd; congr 1
    exact updN_congr fun M hM e => by rw [s.at_.uniq hM hN e]
  rw [e] at this; exact this
theorem holeGet {h : HP} {c y : Addr} {X Y : AO} (e : (h.set c X) y = some Y) (n : y ≠ c) : h y = some Y := by rw [HP.set_ne n] at e; exact e
theorem c_done (G : Gnd g) {k : PySem.Str} {N : Nd} {l : List PySem.Str} {Q : AV → HP → Prop} (hS : SortIn base hp x S R) (hr : S.ready = some l) (hz : l.length ≤ 1000) (hN : N ∈ S.nodes) (hNk : N.name = k) (hnp : N.np = -1) (hsc : N.succ.length ≤ 1000) (hin : ∀ s ∈ N.succ, s ∈ S.names)
    (q : ∀ hp' R', SortIn base hp' x (S.doneS k N.succ) R' → Q .none hp') : ∀ v, (AV.str k).Is v → CH g (n + 1) (.ref 120) [.ref x, v] hp Q := by
  intro v hv
  refine C_call G (kf120 _) (kc120 _) rfl rfl ⟨rfl, rfl, rfl⟩ ?_ rfl ⟨rfl, rfl, rfl⟩
  rw [show bindArgs fd120 ⟨[.ref x, v], []⟩ = (do let t ← newTuple [v]; pure [(("self" : PySem.Str), PySem.Value.ref x), (("nodes" : PySem.Str), t)] : Sem (List (PySem.Str × PySem.Value))) from rfl]
  refine WH.bind (Rel := AV.Is) (WH_newTuple (xs := [.str k]) ⟨hv, trivial⟩ (by simp) fun t ht a ha => ?_)
  refine WH.pure (b := ([("self", AV.ref x), ("nodes", .ref t)] : Loc)) ⟨⟨rfl, ⟨0, rfl⟩, rfl, ha, trivial⟩, locs rfl⟩ ?_
  intro env F hL
  have hS1 : SortIn (base.set t (.tuple [.str k])) (hp.set t (.tuple [.str k])) x S R := hS.add ht
  have hbt : base t = none := hS.sub.non ht
  generalize hB : base.set t (.tuple [.str k]) = B at hS1
  have hBt : B t = some (.tuple [.str k]) := by rw [← hB]; exact HP.set_self _ _ _
  have hBd : B.del t = base := by rw [← hB, HP.set_del, HP.del_none_eq hbt]
  clear hB
  generalize hp.set t (.tuple [.str k]) = h1 at hS1 hL ⊢
  have ht1 : h1 t = some (.tuple [.str k]) := hS1.sub _ _ hBt
  walk_at "gb"
  refine EV_Attr rfl ?_
  walk_at "gb"
  refine ga_sort G hS1.at_ (no_rn _) rfl (rdyV_plain _ _) ?_
  walk_at "gb"
  refine cmp_is_none ?_
  rw [rdyV_none, hr]
  refine ⟨_, rfl, iF ?_⟩
  walk_at "gb"
  refine EV_Attr rfl ?_
  walk_at "gb"
  refine ga_sort G hS1.at_ (no_n2i _) rfl rfl ?_
  walk_at "gb"
  refine EX_ForL ?_ (fun V => rfl)
  walk_at "gb"
  refine ex3 _ _ _ ⟨Src.tuple ht1, fun i lo h => Lsub [("n2i", AV.ref R.nd), ("self", .ref x)] lo ∧ SortIn base h x (if i = 0 then S else S.doneS k N.succ) R, ⟨Lsub.all ⟨rfl, rfl, trivial⟩, ?_⟩, ?_, ?_⟩
  · rw [if_pos rfl]
    have := hS1.del hBt
    rw [hBd] at this; exact this
  · rintro i v lo h hi ⟨hl, hS'⟩ hln
    clear hln hS1 hL ht1 h1 hBt hBd ha hbt
    have hi0 : i = 0 := by have := (List.getElem?_eq_some_iff.mp hi).1; simp at this; lia
    subst hi0
    simp at hi; subst hi
    rw [if_pos rfl] at hS'
    refine SL_ F rfl (WB.weak hl.cons (HP.Sub.refl _) (WB.mono (Q := OnF fun lo h => Lsub [("n2i", AV.ref R.nd), ("self", .ref x)] lo ∧ SortIn base h x (S.doneS k N.succ) R) ?_ (fun f l h hf => by cases f <;> exact hf)))
    walk_at "gb"
    refine EV_Named ?_
    walk_at "gb"
    refine ⟨by simp [aty, AO.ty, hS'.at_.hnd], ?_⟩
    walk_at "gb"
    refine c_dget hS'.at_.hnd ?_
    rw [← hNk, lk_nodup R hS'.at_.nodup hN]
    walk_at "gb"
    refine cmp_is_none ?_
    refine ⟨_, rfl, iF ?_⟩
    walk_at "gb"
    refine EV_Attr rfl ?_
    walk_at "gb"
    refine ga_np G hS'.at_ hN ?_
    rw [hnp]
    walk_at "gb"
    refine G_ F G (kn_NODE_OUT _) rfl (av := .int (-1)) ⟨_, rfl⟩ rfl ?_
    walk_at "gb"
    refine ⟨_, rfl, iF ?_⟩
    walk_at "gb"
    refine EX_AssignAttr ?_ ?s1
    case s1 => exact rfl
    refine G_ F G (kn_NODE_DONE _) rfl (av := .int (-2)) ⟨_, rfl⟩ rfl ?_
    walk_at "gb"
    refine sa_np G hS'.at_ hN ?_
    have hS2 := hS'.setNp (v := -2) hN
    have hcN : hS'.at_.hc N hN = hS'.at_.hc N hN := rfl
    have hc2 : (h.set (R.a N.name) (.slotted 40 (R.b N.name) [some (.str N.name), some (.int (-2)), some (.ref (R.c N.name))])) (R.c N.name) = some (.list (strsA N.succ)) := by
      refine HP.set_of ?_ (hS'.at_.hc N hN)
      intro e
      have h1 := hS'.at_.hc N hN
      rw [e, hS'.at_.ha N hN] at h1; cases h1
    have hN2 : (⟨N.name, -2, N.succ⟩ : Nd) ∈ (setNpS S N.name (-2)).nodes := List.mem_map.mpr ⟨N, hN, by rw [if_pos rfl]⟩
    have hin2 : ∀ s ∈ N.succ, s ∈ (setNpS S N.name (-2)).names := by rw [setNpS_names]; exact hin
    have hr2 : (setNpS S N.name (-2)).ready = some l := hr
    have hS2 : SortIn base _ x (setNpS S N.name (-2)) R := hS2
    unfold SS.doneS at q ⊢
    rw [← hNk] at q
    revert hS2 hc2 hin2 hr2 hN2
    generalize h.set (R.a N.name) (.slotted 40 (R.b N.name) [some (.str N.name), some (.int (-2)), some (.ref (R.c N.name))]) = h2
    generalize setNpS S N.name (-2) = S2
    intro hc2 hN2 hin2 hr2 hS2
    clear hS' hcN q hS
    walk_at "gb"
    refine EX_ForN ?_ (fun V => rfl)
    refine EV_Attr rfl ?_
    walk_at "gb"
    refine ga_sc (N := ⟨N.name, -2, N.succ⟩) G hS2.at_ hN2 ?_
    have hXd : (h2.del (R.c N.name)).set (R.c N.name) (.list (strsA N.succ)) = h2 := HP.del_set_same hc2
    refine ex3 _ _ _ ⟨Src.list hc2, fun i lo h => Lsub [("n2i", AV.ref R.nd), ("self", .ref x)] lo ∧ SortIn base (h.set (R.c N.name) (.list (strsA N.succ))) x ((N.succ.take i).foldl decOne S2) R ∧ ∃ li, ((N.succ.take i).foldl decOne S2).ready = some li ∧ li.length ≤ l.length + i, ⟨Lsub.all ⟨rfl, rfl, trivial⟩, by rw [hXd]; exact hS2, l, hr2, Nat.le_refl _⟩, ?_, ?_⟩
    · rintro i v lo h hi ⟨hl, hS3, li, hri, hli⟩
      obtain ⟨s, hs, rfl⟩ : ∃ k, N.succ[i]? = some k ∧ v = .str k := by
        simp only [strsA, List.getElem?_map, Option.map_eq_some_iff] at hi
        obtain ⟨c, h1, h2⟩ := hi; exact ⟨c, h1, h2.symm⟩
      have hil : i < N.succ.length := (List.getElem?_eq_some_iff.mp hs).1
      have hsin : s ∈ ((N.succ.take i).foldl decOne S2).names := by rw [decAll_names]; exact hin2 s (List.mem_of_getElem? hs)
      have hNin : N.name ∈ ((N.succ.take i).foldl decOne S2).names := by rw [decAll_names]; exact List.mem_map.mpr ⟨_, hN2, rfl⟩
      have htk : (N.succ.take (i + 1)).foldl decOne S2 = decOne ((N.succ.take i).foldl decOne S2) s := by rw [List.take_add_one, hs, List.foldl_append]; rfl
      refine SL_ F rfl (WB.weak hl.cons (HP.Sub.refl _) (WB.mono (Q := OnF fun lo h => Lsub [("n2i", AV.ref R.nd), ("self", .ref x)] lo ∧ SortIn base (h.set (R.c N.name) (.list (strsA N.succ))) x (decOne ((N.succ.take i).foldl decOne S2) s) R ∧ ∃ li, (decOne ((N.succ.take i).foldl decOne S2) s).ready = some li ∧ li.length ≤ l.length + (i + 1)) ?_ (fun f l h hf => by rw [← htk] at hf; cases f <;> exact hf)))
      clear htk hi hs hc2 hS2 hXd
      revert hS3 hri hsin hNin
      generalize (N.succ.take i).foldl decOne S2 = S3
      intro hS3 hri hsin hNin
      obtain ⟨M, hM, rfl⟩ := List.mem_map.mp hsin
      have nd1 : R.nd ≠ R.c N.name := by
        intro e
        have h1 := hS3.at_.hnd
        rw [e, HP.set_self] at h1; cases h1
      have na1 : R.a M.name ≠ R.c N.name := by
        intro e
        have h1 := hS3.at_.ha M hM
        rw [e, HP.set_self] at h1; cases h1
      have nb1 : R.b M.name ≠ R.c N.name := by
        intro e
        have h1 := hS3.at_.hb M hM
        rw [e, HP.set_self] at h1; cases h1
      have gnd := holeGet hS3.at_.hnd nd1
      have ga := holeGet (hS3.at_.ha M hM) na1
      have gb := holeGet (hS3.at_.hb M hM) nb1
      have nab : R.b M.name ≠ R.a M.name := by
        intro e
        rw [e, ga] at gb; cases gb
      obtain ⟨cd, hcd⟩ := cls40 g.w.params
      walk_at "gb"
      refine EV_Sub PySem.slot_dict_getitem.lookup ?_
      walk_at "gb"
      refine ⟨by simp [aty, AO.ty, gnd], gi_dict gnd (lk_nodup R hS3.at_.nodup hM) ?_⟩
      walk_at "gb"
      refine EX_AugAttr ?_
      walk_at "gb"
      intro va hva
      refine ga_slot G (clsOk40 _) (slotOk_npred _) hcd ga gb rfl (v := .int M.np) rfl ?_ va hva
      walk_at "gb"
      refine ip_sub ?_
      intro vn hvn
      refine sa_slot G (clsOk40 _) (slotOk_npred _) (by decide) ga gb ?_ va vn hva hvn
      have hS4 := setNp_dec hS3 hM
      rw [HP.set_comm (Ne.symm na1)] at hS4
      have ga4 : (h.set (R.a M.name) (.slotted 40 (R.b M.name) (setO [some (.str M.name), some (.int M.np), some (.ref (R.c M.name))] 1 (.int (M.np - 1))))) (R.a M.name) = some (.slotted 40 (R.b M.name) [some (.str M.name), some (.int (M.np - 1)), some (.ref (R.c M.name))]) := HP.set_self _ _ _
      have gb4 : (h.set (R.a M.name) (.slotted 40 (R.b M.name) (setO [some (.str M.name), some (.int M.np), some (.ref (R.c M.name))] 1 (.int (M.np - 1))))) (R.b M.name) = some (.ns []) := HP.set_of nab gb
      have hM4 : (⟨M.name, M.np - 1, M.succ⟩ : Nd) ∈ (decS S3 M.name).nodes := List.mem_map.mpr ⟨M, hM, by rw [if_pos rfl]⟩
      have hnp4 : npOf (decS S3 M.name) M.name = M.np - 1 := npOf_mem (N := ⟨M.name, M.np - 1, M.succ⟩) hS4.at_.nodup hM4
      have hr4 : (decS S3 M.name).ready = some li := hri
      unfold decOne
      rw [hnp4]
      have hS4 : SortIn base (HP.set (h.set (R.a M.name) (.slotted 40 (R.b M.name) (setO [some (.str M.name), some (.int M.np), some (.ref (R.c M.name))] 1 (.int (M.np - 1))))) (R.c N.name) (.list (strsA N.succ))) x (decS S3 M.name) R := hS4
      revert hS4 ga4 gb4
      generalize h.set (R.a M.name) (.slotted 40 (R.b M.name) (setO [some (.str M.name), some (.int M.np), some (.ref (R.c M.name))] 1 (.int (M.np - 1)))) = h4
      intro ga4 gb4 hS4
      have nx : x ≠ R.c N.name := by
        intro e
        have h1 := hS4.at_.hx
        rw [e, HP.set_self] at h1; cases h1
      have nd : R.d ≠ R.c N.name := by
        intro e
        have h1 := hS4.at_.hd
        rw [e, HP.set_self] at h1; cases h1
      have nrl : R.rl ≠ R.c N.name := by
        intro e
        obtain ⟨K, hK, hKn⟩ := List.mem_map.mp ((decS_names S3 M.name).symm ▸ hNin : N.name ∈ (decS S3 M.name).names)
        exact (hS4.at_.hr li hr4).2 K hK (by rw [hKn, e])
      have grl := holeGet (hS4.at_.hr li hr4).1 nrl
      walk_at "gb"
      refine EV_Attr rfl ?_
      walk_at "gb"
      refine ga_slot G (clsOk40 _) (slotOk_npred _) hcd ga4 gb4 rfl (v := .int (M.np - 1)) rfl ?_
      walk_at "gb"
      refine ⟨_, rfl, iB (fun e1 => ?_) fun e1 => ?_⟩
      · rw [if_pos (eq_of_beq e1)]
        walk_at "gb"
        refine EV_Attr rfl ?_
        walk_at "gb"
        obtain ⟨cd2, hc2, hcd2⟩ := cls137 g.w.params
        have hrv : rdyV (decS S3 M.name).ready R.rl = .ref R.rl := by rw [hr4]; rfl
        refine ga_inst G (clsOk137 _) hc2 hcd2 (no_rn _) (holeGet hS4.at_.hx nx) (holeGet hS4.at_.hd nd) rfl (rdyV_plain _ _) ?_
        rw [hrv]
        refine ⟨by simp [aty, AO.ty, grl], ?_⟩
        walk_at "gb"
        refine c_append grl (by simp [strsA]; lia) ?_
        walk_at "gb"
        refine ⟨Lsub.all ⟨rfl, rfl, trivial⟩, ?_, li ++ [M.name], ?_, ?_⟩
        · have hS5 := hS4.setRl (l' := li ++ [M.name]) hr4
          rw [HP.set_comm (Ne.symm nrl)] at hS5
          have e2 : strsA (li ++ [M.name]) = strsA li ++ [.str M.name] := by simp [strsA]
          rw [e2] at hS5
          rw [hr4]; exact hS5
        · show (decS S3 M.name).ready.map _ = _
          rw [hr4]; rfl
        · simp; lia
      · rw [if_neg (by intro h; rw [h] at e1; exact absurd e1 (by decide))]
        walk_at "gb"
        exact ⟨Lsub.all ⟨rfl, rfl, trivial⟩, hS4, li, hr4, by lia⟩
    · rintro lo h ⟨hl, hS3, li, hri, hli⟩
      have hlen : (strsA N.succ).length = N.succ.length := by simp [strsA]
      rw [hlen, List.take_length] at hS3 hri
      revert hS3 hri
      generalize N.succ.foldl decOne S2 = S3
      generalize h.set (R.c N.name) (.list (strsA N.succ)) = h3
      intro hS3 hri
      refine WB.weak hl (HP.Sub.refl _) ?_
      walk_at "gb"
      refine EX_AugAttr ?_
      walk_at "gb"
      intro va hva
      refine ga_sort G hS3.at_ (no_nf _) rfl rfl ?_ va hva
      walk_at "gb"
      refine ip_add ?_
      intro vn hvn
      refine sa_pf G hS3.at_ (tk_nf _) (at2 := sAttrs R.nd (rdyV S3.ready R.rl) S3.passed (S3.fin + 1)) rfl ?_ va vn hva hvn
      walk_at "gb"
      exact ⟨Lsub.all ⟨rfl, rfl, trivial⟩, hS3.setPF⟩
  · rintro lo h ⟨hl, hS'⟩ hln
    have : h t = none := hln t (by rw [ht1]; rfl) (HP.del_self _ _)
    walk_at "gb"
    rw [if_neg (by simp)] at hS'
    exact q _ R (hS'.fresh this)
end
end
section
variable {g : Gd} {n : Nat} {L : Addr} {loc : Loc} {hp : HP}
noncomputable def refusedText (k : PySem.Str) : PySem.Str := "node " ++ reprText k ++ " was already marked done"
theorem fn120 (P : Params) : typeIn (myK P) (.ref 120) = some (.type "function") := by kernel_rfl
theorem me120 (P : Params) : findIn (myK P) (.ref 137) "done" = some (some (.ref 120)) := by kernel_rfl
section
variable {base : HP} {x : Addr} {S : SS} {R : SR}
theorem r_done (G : Gnd g) {k : PySem.Str} {N : Nd} {l : List PySem.Str} {X : Addr → HP → Prop} (hS : SortIn base hp x S R) (hr : S.ready = some l) (hN : N ∈ S.nodes) (hNk : N.name = k) (hnp : N.np = -2) (hz : (reprText k).length ≤ 50000)
    (q : ∀ e t hp', base t = none → base e = none → t ≠ e → hp' e = some (excO "ValueError" t) → hp' t = some (.tuple [.str (refusedText k)]) → SortIn base hp' x S R → X e hp') : ∀ v, (AV.str k).Is v → WHR g (n + 1) (call (.ref 120) [.ref x, v]) hp X := by
  intro v hv
  refine R_call G (kf120 _) (kc120 _) rfl rfl ⟨rfl, rfl, rfl⟩ ?_ rfl ⟨rfl, rfl, rfl⟩
  rw [show bindArgs fd120 ⟨[.ref x, v], []⟩ = (do let t ← newTuple [v]; pure [(("self" : PySem.Str), PySem.Value.ref x), (("nodes" : PySem.Str), t)] : Sem (List (PySem.Str × PySem.Value))) from rfl]
  refine WH.bind (Rel := AV.Is) (WH_newTuple (xs := [.str k]) ⟨hv, trivial⟩ (by simp) fun t ht a ha => ?_)
  refine WH.pure (b := ([("self", AV.ref x), ("nodes", .ref t)] : Loc)) ⟨⟨rfl, ⟨0, rfl⟩, rfl, ha, trivial⟩, locs rfl⟩ ?_
  intro env F hfr hL
  have hS1 : SortIn base (hp.set t (.tuple [.str k])) x S R := hS.fresh ht
  have hbt : base t = none := hS.sub.non ht
  have ht1 : (hp.set t (.tuple [.str k])) t = some (.tuple [.str k]) := HP.set_self _ _ _
  have hnf : ¬ Foot x S R t := hS.at_.notFoot ht
  generalize hp.set t (.tuple [.str k]) = h1 at hS1 hL ht1 ⊢
  refine XSR_next ?_
  walk_at "gb"
  refine EV_Attr rfl ?_
  walk_at "gb"
  refine ga_sort G hS1.at_ (no_rn _) rfl (rdyV_plain _ _) ?_
  walk_at "gb"
  refine cmp_is_none ?_
  rw [rdyV_none, hr]
  refine ⟨_, rfl, iF ?_⟩
  walk_at "gb"
  refine XSR_next ?_
  walk_at "gb"
  refine EV_Attr rfl ?_
  walk_at "gb"
  refine ga_sort G hS1.at_ (no_n2i _) rfl rfl ?_
  walk_at "gb"
  refine XSR_now (EXR_For1 hfr ?_ (fun V => rfl))
  walk_at "gb"
  refine ⟨_, _, _, _, Src.tuple ht1, rfl, ?_⟩
  have hS' : SortIn base (h1.del t) x S R := hS1.drop hbt hnf
  revert hS'
  generalize h1.del t = h2
  intro hS'
  refine SL_ F rfl ?_
  refine XSR_next ?_
  walk_at "gb"
  refine EV_Named ?_
  walk_at "gb"
  refine ⟨by simp [aty, AO.ty, hS'.at_.hnd], ?_⟩
  walk_at "gb"
  refine c_dget hS'.at_.hnd ?_
  rw [← hNk, lk_nodup R hS'.at_.nodup hN]
  walk_at "gb"
  refine cmp_is_none ?_
  refine ⟨_, rfl, iF ?_⟩
  walk_at "gb"
  refine XSR_next ?_
  walk_at "gb"
  refine EV_Attr rfl ?_
  walk_at "gb"
  refine ga_np G hS'.at_ hN ?_
  rw [hnp]
  walk_at "gb"
  refine XSR_now (EXR_If ?_)
  walk_at "gb"
  refine G_ F G (kn_NODE_OUT _) rfl (av := .int (-1)) ⟨_, rfl⟩ rfl ?_
  walk_at "gb"
  refine ⟨_, rfl, iT ?_⟩
  refine XSR_now (EXR_If ?_)
  walk_at "gb"
  refine ⟨_, rfl, iF ?_⟩
  refine XSR_now (EXR_If ?_)
  walk_at "gb"
  refine G_ F G (kn_NODE_DONE _) rfl (av := .int (-2)) ⟨_, rfl⟩ rfl ?_
  walk_at "gb"
  refine ⟨_, rfl, iT ?_⟩
  refine XSR_now (EXR_Raise (cls := "ValueError") G F.kind F.glob F.blt ((F.look _).trans rfl) (kb_ValueError _) bb_ValueError (by decide) rfl PySem.F.excCall_ValueError PySem.F.excRaise_ValueError ?s1 ?_)
  case s1 => exact rfl
  refine EV_fr (by decide) (by decide) ?_
  walk_at "gb"
  refine ⟨_, rfl, by rw [hNk]; exact hz, ?_⟩
  intro t2 e2 ht2 he2 hte
  rw [hNk]
  refine ⟨⟨"ValueError", t2, HP.set_self _ _ _⟩, ⟨"ValueError", t2, HP.set_self _ _ _⟩, q e2 t2 _ (hS'.sub.non ht2) (hS'.sub.non he2) hte (HP.set_self _ _ _) (HP.set_of hte (HP.set_self _ _ _)) ?_⟩
  exact (hS'.fresh ht2).fresh (HP.set_none_iff.mpr ⟨Ne.symm hte, he2⟩)
theorem c_refusal (G : Gnd g) {k : PySem.Str} {N : Nd} {l : List PySem.Str} {Q : AV → HP → Prop} (hS : SortIn base hp x S R) (hr : S.ready = some l) (hN : N ∈ S.nodes) (hNk : N.name = k) (hnp : N.np = -2) (hz : (reprText k).length ≤ 50000)
    (q : ∀ hp', SortIn base hp' x S R → Q (.str (refusedText k)) hp') : ∀ v, (AV.str k).Is v → CH g (n + 2) (.ref 294) [.ref x, v] hp Q := by
  intro v hv
  refine C_callT G (kf294 _) (kc294 _) rfl rfl ⟨rfl, rfl, rfl⟩ ?_ rfl ⟨rfl, rfl, rfl⟩
  rw [show bindArgs fd294 ⟨[.ref x, v], []⟩ = (pure [(("sorter" : PySem.Str), PySem.Value.ref x), (("place" : PySem.Str), v)] : Sem (List (PySem.Str × PySem.Value))) from rfl]
  refine WH.pure (b := ([("sorter", AV.ref x), ("place", .str k)] : Loc)) ⟨⟨rfl, ⟨0, rfl⟩, rfl, hv, trivial⟩, locs rfl⟩ ?_
  intro env F hfr hL
  refine XST_cons ?_
  refine EXT_Try_as (X := "ValueError") (T' := "ValueError") G.toGndB F.kind F.glob F.blt hfr ((F.look _).trans rfl) (kb_ValueError _) bb_ValueError (by decide) rfl ((F.look _).trans rfl) ?f1 ?f2 ?f3 ?_
  case f1 => exact PySem.F.excRaise_ValueError.isExc
  case f2 => kernel_rfl
  case f3 => rw [isSubtype_type]; kernel_rfl
  refine XSR_now (EXR_Expr ?_ (interactive_no F) rfl)
  refine EVR_imeth G (clsOk137 _) (me120 _) (kf120 _) (fn120 _) ?_ ?s1 ?s2 ?s3 ?s4
  case s1 => exact rfl
  case s2 => exact rfl
  case s3 => exact rfl
  case s4 => exact rfl
  walk_at "gb"
  refine ex3 x _ _ ⟨rfl, hS.at_.hx, hS.at_.hd, rfl, ?_⟩
  walk_at "gb"
  intro vs hvs
  obtain ⟨tk, rfl⟩ := Vs1 hvs
  refine WHR.lift (r_done G hS hr hN hNk hnp hz ?_ _ ⟨tk, rfl⟩)
  intro e t hp' hbt hbe hte he ht hS'
  refine ⟨t, he, ?_⟩
  have F2 : FEnv env fd294.scope.names [] := F
  refine XS_cons (EX_Return ?_)
  refine EV_tyB (g := g.off) ⟨G.kin, G.top⟩ F.kind F.glob F.blt ((F.look _).trans rfl) (kb_str _) bb_str (by decide) ?_ rfl rfl rfl
  walk_at "gb"
  refine c_str_exc PySem.F.excStr_ValueError he ht ?_
  exact q hp' hS'
end
end
section
variable {g : Gd} {n : Nat} {L : Addr} {loc : Loc} {hp : HP}
theorem sub_back {hp h : HP} {a : Addr} {Y D : AO} (s : (hp.set a Y).Sub h) (e : hp a = some D) : hp.Sub (h.set a D) := fun b X eb => by
  by_cases q : b = a
  · subst q; rw [e] at eb; cases eb; exact HP.set_self _ _ _
  · rw [HP.set_ne q]; exact s b X (by rw [HP.set_ne q]; exact eb)
section
variable {base : HP} {x : Addr} {S : SS} {R : SR}
theorem c_findcycle (G : Gnd g) {rk : PySem.Str → Nat} {Q : AV → HP → Prop} (hS : SortIn base hp x S R) (hrk : ∀ N ∈ S.nodes, ∀ s ∈ N.succ, rk N.name < rk s ∧ s ∈ S.names) (hz : S.nodes.length ≤ 1000)
    (q : ∀ hp', SortIn base hp' x S R → Q .none hp') : CH g (n + 1) (.ref 127) [.ref x] hp Q := by
  refine C_callT G (kf127 _) (kc127 _) rfl rfl ⟨rfl, rfl, rfl⟩ ?_ rfl ⟨rfl, rfl, rfl⟩
  rw [show bindArgs fd127 ⟨[.ref x], []⟩ = (pure [(("self" : PySem.Str), PySem.Value.ref x)] : Sem (List (PySem.Str × PySem.Value))) from rfl]
  refine WH.pure (b := ([("self", AV.ref x)] : Loc)) ⟨⟨rfl, ⟨0, rfl⟩, trivial⟩, locs rfl⟩ ?_
  intro env F hfr hL
  have hnd := hS.at_.hnd
  refine XST_cons (WB.wt ?_)
  walk_at "gb"
  refine EV_Attr rfl ?_
  walk_at "gb"
  refine ga_sort G hS.at_ (no_n2i _) rfl rfl ?_
  walk_at "gb"
  refine XST_cons (WB.wt ?_)
  walk_at "gb"
  refine ⟨by simp, fun stk hstk => ?_⟩
  walk_at "gb"
  refine XST_cons (WB.wt ?_)
  walk_at "gb"
  refine ⟨by simp, fun its hits => ?_⟩
  walk_at "gb"
  refine XST_cons (WB.wt ?_)
  walk_at "gb"
  refine BT0_ F G (kb_set _) bb_set ?s1 (by decide) ?s2 ?_
  case s1 => exact rfl
  case s2 => exact rfl
  refine c_set0 fun seen hseen => ?_
  walk_at "gb"
  refine XST_cons (WB.wt ?_)
  walk_at "gb"
  refine EV_Dict0 G fun n2s hn2s => ?_
  walk_at "gb"
  simp only [HP.set_none_iff] at hits hseen hn2s
  obtain ⟨hits1, hits⟩ := hits
  obtain ⟨hseen1, hseen2, hseen⟩ := hseen
  refine withGoal fun goalX goalBack => ?_
  obtain ⟨hn2s1, hn2s2, hn2s3, hn2s⟩ := hn2s
  refine goalBack ?_
  clear goalBack goalX
  have nn : ∀ {y}, hp y = none → y ≠ R.nd := fun {y} e => by rintro rfl; rw [hnd] at e; cases e
  refine XST_cons (EXT_ForK ?_ (fun V => rfl))
  walk_at "gb"
  have hndX : ((((hp.set stk (.list [])).set its (.list [])).set seen (.set [])).set n2s (.dict [])) R.nd = some (.dict (ndDict R S.nodes)) := HP.set_of (nn hn2s).symm (HP.set_of (nn hseen).symm (HP.set_of (nn hits).symm (HP.set_of (nn hstk).symm hnd)))
  refine ⟨R.nd, _, rfl, hndX, fun P hPin => ?_⟩
  have hHX : ∃ HX, HX = hp.set R.nd (.raw P) := ⟨_, rfl⟩
  obtain ⟨HX, hHX⟩ := hHX
  have hXn : ∀ {y}, hp y = none → HX y = none := fun {y} e => by rw [hHX, HP.set_ne (nn e)]; exact e
  have hXs : HX stk = none := hXn hstk
  have hXi : HX its = none := hXn hits
  have hXe : HX seen = none := hXn hseen
  have hX2 : HX n2s = none := hXn hn2s
  have hXnd : HX R.nd = some (.raw P) := by rw [hHX]; exact HP.set_self _ _ _
  have hXo : ∀ {y X}, hp y = some X → (∀ es, X ≠ .dict es) → HX y = some X := fun {y X} e k => by
    rw [hHX, HP.set_ne (by rintro rfl; rw [hnd] at e; cases e; exact k _ rfl)]; exact e
  have hXa : ∀ N ∈ S.nodes, HX (R.a N.name) = some (ndObj R N) := fun N hN => hXo (hS.at_.ha N hN) (by unfold ndObj; simp)
  have hXb : ∀ N ∈ S.nodes, HX (R.b N.name) = some (.ns []) := fun N hN => hXo (hS.at_.hb N hN) (by simp)
  have hXc : ∀ N ∈ S.nodes, HX (R.c N.name) = some (.list (strsA N.succ)) := fun N hN => hXo (hS.at_.hc N hN) (by simp)
  have hnodup := hS.at_.nodup
  have hinj := hS.at_.inj
  have hsi : stk ≠ its := Ne.symm hits1
  have hnames : S.names.length ≤ 1000 := by unfold SS.names; rw [List.length_map]; exact hz
  obtain ⟨J0, hJ0⟩ : ∃ J0 : Nat → Loc → HP → Prop, ∀ i l h, J0 i l h ↔ (Lsub [("n2i", AV.ref R.nd), ("stack", .ref stk), ("itstack", .ref its), ("seen", .ref seen), ("node2stacki", .ref n2s)] l ∧ ∃ ks, FCI HX R stk its seen n2s [] ks h ∧ FCP S rk [] ks) := ⟨_, fun V V V => Iff.rfl⟩
  refine ⟨J0, (hJ0 _ _ _).mpr ⟨Lsub.all ⟨rfl, rfl, rfl, rfl, rfl, trivial⟩, [], ?_, ?_⟩, ?_, ?_, ?_⟩
  · refine ⟨?_, ?_, ?_, ?_, ?_, fun f hf => (by cases hf), fun f hf => (by cases hf)⟩
    · rw [hHX]
      refine HP.Sub.set ?_
      exact (((HP.sub_set hstk).new (by rw [HP.set_ne hits1]; exact hits)).new (by simp only [HP.set_none_iff]; exact ⟨hseen1, hseen2, hseen⟩)).new (by simp only [HP.set_none_iff]; exact ⟨hn2s1, hn2s2, hn2s3, hn2s⟩)
    · exact HP.set_of (nn hstk) (HP.set_of (Ne.symm hn2s3) (HP.set_of (Ne.symm hseen2) (HP.set_of hsi (HP.set_self _ _ _))))
    · exact HP.set_of (nn hits) (HP.set_of (Ne.symm hn2s2) (HP.set_of (Ne.symm hseen1) (HP.set_self _ _ _)))
    · exact HP.set_of (nn hseen) (HP.set_of (Ne.symm hn2s1) (HP.set_self _ _ _))
    · exact HP.set_of (nn hn2s) (HP.set_self _ _ _)
  · exact ⟨List.Pairwise.nil, fun f hf => (by cases hf), fun k hk => (by cases hk), List.nodup_nil⟩
  · intro i l h hh; obtain ⟨_, ks, hF, _⟩ := (hJ0 _ _ _).mp hh; exact hF.sub _ _ hXnd
  · intro i k a l h hi hh
    refine withGoal fun goalX goalBack => ?_
    obtain ⟨hl, ks, hF, hP2⟩ := (hJ0 _ _ _).mp hh
    refine goalBack ?_
    clear goalBack goalX
    clear hh
    have hkS : k ∈ S.names := by
      unfold ndDict at hi
      rw [List.getElem?_map, Option.map_eq_some_iff] at hi
      obtain ⟨N, hN, e⟩ := hi
      cases e
      exact List.mem_map.mpr ⟨N, List.mem_of_getElem? hN, rfl⟩
    refine SL_ F rfl (WT.weak hl.cons (HP.Sub.refl _) ?_)
    clear hi hl
    refine XST_cons (WB.wt ?_)
    walk_at "gb"
    refine cmp_in_set hF.hseen ?_
    refine ⟨_, rfl, iB (fun e1 => ?_) fun e1 => ?_⟩
    · walk_at "gb"
      exact (hJ0 _ _ _).mpr ⟨Lsub.all ⟨rfl, rfl, rfl, rfl, rfl, trivial⟩, ks, hF, hP2⟩
    walk_at "gb"
    obtain ⟨J1, hJ1⟩ : ∃ J1 : Nat → Loc → HP → Prop, ∀ k l h, J1 k l h ↔ (∃ nd0 fr ks, Lsub [("node", .str nd0), ("n2i", AV.ref R.nd), ("stack", .ref stk), ("itstack", .ref its), ("seen", .ref seen), ("node2stacki", .ref n2s)] l ∧ FCI HX R stk its seen n2s fr ks h ∧ FCP S rk fr ks ∧ nd0 ∈ S.names ∧ (∀ z ∈ fr.map (·.nm), rk z < rk nd0) ∧ mu S fr ks = k) := ⟨_, fun V V V => Iff.rfl⟩
    refine XST_cons (EXT_While J1 (mu S [] ks) ((hJ1 _ _ _).mpr ⟨k, [], ks, Lsub.all ⟨rfl, rfl, rfl, rfl, rfl, rfl, trivial⟩, hF, hP2, hkS, (by simp), rfl⟩) ?_)
    clear hkS hF hP2 e1
    intro kk l h hh
    refine withGoal fun goalX goalBack => ?_
    obtain ⟨nd0, fr, ks, hl, hF, hP, hS0, hr0, hmu⟩ := (hJ1 _ _ _).mp hh
    refine goalBack ?_
    clear goalBack goalX
    clear hh
    refine WB.weak hl (HP.Sub.refl _) ?_
    clear hl
    walk_at "gb"
    obtain ⟨J2, hJ2⟩ : ∃ J2 : Loc → HP → Prop, ∀ l h, J2 l h ↔ (∃ fr ks, Lsub [("n2i", AV.ref R.nd), ("stack", .ref stk), ("itstack", .ref its), ("seen", .ref seen), ("node2stacki", .ref n2s)] l ∧ FCI HX R stk its seen n2s fr ks h ∧ FCP S rk fr ks ∧ mu S fr ks ≤ kk) := ⟨_, fun V V => Iff.rfl⟩
    refine XST_cons (WT.mono (Q := fun f l h => f = .next ∧ J2 l h) (WB.wt ?_) ?_)
    · have hnot : nd0 ∉ fr.map (·.nm) := fun hm => Nat.lt_irrefl _ (hr0 nd0 hm)
      walk_at "gb"
      refine cmp_in_set hF.hseen ?_
      refine ⟨_, rfl, iB (fun e1 => ?_) fun e1 => ?_⟩
      · walk_at "gb"
        refine cmp_in_dict hF.hn2s ?_
        rw [stkD_none hnot]
        refine ⟨_, rfl, iF ?_⟩
        walk_at "gb"
        exact ⟨rfl, (hJ2 _ _).mpr ⟨fr, ks, Lsub.all ⟨rfl, rfl, rfl, rfl, rfl, trivial⟩, hF, hP, Nat.le_of_eq hmu⟩⟩
      · have hnk : nd0 ∉ ks := by simpa using e1
        obtain ⟨N, hN, hNn⟩ := List.mem_map.mp hS0
        obtain ⟨cd, hcd⟩ := cls40 g.w.params
        have hflen : (fr.map (·.nm)).length ≤ 1000 := by
          have h1 : (fr.map (·.nm)).length ≤ S.names.length := nodup_len _ _ (hP.chain.imp fun h => by rintro rfl; exact Nat.lt_irrefl _ h) fun z hz => by
            obtain ⟨f, hf, rfl⟩ := List.mem_map.mp hz
            exact hP.ksS _ (hP.inS f hf)
          lia
        have hfl2 : fr.length ≤ 1000 := by rw [List.length_map] at hflen; exact hflen
        walk_at "gb"
        refine ⟨by simp [aty, AO.ty, hF.hseen], ?_⟩
        walk_at "gb"
        refine c_setadd hF.hseen hnk (by have := hP.ks_len; show _ < 4096; lia) ?_
        have c1 : seen ≠ stk := by intro e; have h1 := hF.hseen; rw [e, hF.hstk] at h1; cases h1
        have c2 : seen ≠ its := by intro e; have h1 := hF.hseen; rw [e, hF.hits] at h1; cases h1
        have c3 : seen ≠ n2s := by intro e; have h1 := hF.hseen; rw [e, hF.hn2s] at h1; cases h1
        have c4 : n2s ≠ stk := by intro e; have h1 := hF.hn2s; rw [e, hF.hstk] at h1; cases h1
        have c5 : n2s ≠ its := by intro e; have h1 := hF.hn2s; rw [e, hF.hits] at h1; cases h1
        have oX : ∀ {y X}, HX y = some X → (h.set seen (.set (nd0 :: ks))) y = some X := fun {y X} e => HP.set_of (by rintro rfl; rw [hXe] at e; cases e) (hF.sub _ _ e)
        walk_at "gb"
        refine ⟨by simp [aty, AO.ty, HP.set_ne (Ne.symm c2), hF.hits], ?_⟩
        walk_at "gb"
        refine EV_Attr rfl ?_
        walk_at "gb"
        refine EV_Attr rfl ?_
        refine EV_SubR (d := R.nd) (es := ndDict R S.nodes) (P := P) hPin ?_
        walk_at "gb"
        refine ⟨rfl, oX hXnd, ?_⟩
        refine gi_dictR (es := ndDict R S.nodes) (oX hXnd) hPin (x := .ref (R.a N.name)) (by rw [← hNn]; exact lk_nodup R hnodup hN) ?_
        refine ga_slot G (clsOk40 _) (slotOk_succ _) hcd (oX (hXa N hN)) (oX (hXb N hN)) rfl (v := .ref (R.c N.name)) rfl ?_
        walk_at "gb"
        refine c_iter_list (oX (hXc N hN)) fun I hI => ?_
        refine ga_nextA (HP.set_self _ _ _) fun m hm => ?_
        obtain ⟨hIs, hI⟩ := HP.set_none_iff.mp hI
        obtain ⟨hmI, hm⟩ := HP.set_none_iff.mp hm
        obtain ⟨hms, hm⟩ := HP.set_none_iff.mp hm
        have nI : ∀ {y X}, h y = some X → y ≠ I := fun {y X} e => by rintro rfl; rw [hI] at e; cases e
        have nm : ∀ {y X}, h y = some X → y ≠ m := fun {y X} e => by rintro rfl; rw [hm] at e; cases e
        walk_at "gb"
        refine c_append (xs := fr.map fun f => AV.ref f.m) (HP.set_of (nm hF.hits) (HP.set_of (nI hF.hits) (HP.set_of (Ne.symm c2) hF.hits))) (by rw [List.length_map]; lia) ?_
        walk_at "gb"
        refine EX_AssignSub ?_ ?s1
        case s1 => exact rfl
        walk_at "gb"
        refine c_len_list (xs := strsA (fr.map (·.nm))) (HP.set_of hsi (HP.set_of (nm hF.hstk) (HP.set_of (nI hF.hstk) (HP.set_of (Ne.symm c1) hF.hstk)))) (by simp [strsA]; lia) ?_
        walk_at "gb"
        refine si_dict (es := stkD (fr.map (·.nm))) (HP.set_of c5 (HP.set_of (nm hF.hn2s) (HP.set_of (nI hF.hn2s) (HP.set_of (Ne.symm c3) hF.hn2s)))) (by have := congrArg List.length (stkD_keys (fr.map (·.nm))); rw [List.length_map] at this; lia) ?_
        walk_at "gb"
        refine ⟨by simp [aty, AO.ty, HP.set_ne (Ne.symm c4), HP.set_ne hsi, HP.set_ne (nm hF.hstk), HP.set_ne (nI hF.hstk), HP.set_ne (Ne.symm c1), hF.hstk], ?_⟩
        walk_at "gb"
        refine c_append (xs := strsA (fr.map (·.nm))) (HP.set_of (Ne.symm c4) (HP.set_of hsi (HP.set_of (nm hF.hstk) (HP.set_of (nI hF.hstk) (HP.set_of (Ne.symm c1) hF.hstk))))) (by simp [strsA]; lia) ?_
        walk_at "gb"
        refine ⟨rfl, (hJ2 _ _).mpr ⟨fr ++ [⟨nd0, 0, m, I⟩], nd0 :: ks, Lsub.all ⟨rfl, rfl, rfl, rfl, rfl, trivial⟩, ?_, hP.push hnk hS0 hr0, ?_⟩⟩
        · have := hF.push (k := nd0) (I := I) (m := m) hsi hXs hXi hXe hX2 hnot hI hm (Ne.symm hmI)
          rw [hNn]
          exact this
        · have := mu_push (S := S) (fr := fr) (ks := ks) (u := nd0) (m := m) (I := I) hnodup hS0 hnk
          lia
    · clear hF hP hS0 hr0 hmu h fr ks nd0
      rintro _ l h ⟨rfl, hh⟩
      refine withGoal fun goalX goalBack => ?_
      obtain ⟨fr, ks, hl, hF, hP, hmu⟩ := (hJ2 _ _).mp hh
      refine goalBack ?_
      clear goalBack goalX
      clear hh hJ2 J2
      refine WT.weak hl (HP.Sub.refl _) ?_
      clear hl
      obtain ⟨J3, hJ3⟩ : ∃ J3 : Nat → Loc → HP → Prop, ∀ k l h, J3 k l h ↔ (∃ fr ks, Lsub [("n2i", AV.ref R.nd), ("stack", .ref stk), ("itstack", .ref its), ("seen", .ref seen), ("node2stacki", .ref n2s)] l ∧ FCI HX R stk its seen n2s fr ks h ∧ FCP S rk fr ks ∧ mu S fr ks = k ∧ k ≤ kk) := ⟨_, fun V V V => Iff.rfl⟩
      refine XST_cons (EXT_While J3 (mu S fr ks) ((hJ3 _ _ _).mpr ⟨fr, ks, Lsub.refl _, hF, hP, rfl, hmu⟩) ?_)
      clear hF hP hmu h fr ks
      intro k2 l h hh
      refine withGoal fun goalX goalBack => ?_
      obtain ⟨fr, ks, hl, hF, hP, rfl, hmu⟩ := (hJ3 _ _ _).mp hh
      refine goalBack ?_
      clear goalBack goalX
      clear hh
      refine WB.weak hl (HP.Sub.refl _) ?_
      clear hl
      have hflen : (fr.map (·.nm)).length ≤ 1000 := by
        have h1 : (fr.map (·.nm)).length ≤ S.names.length := nodup_len _ _ (hP.chain.imp fun h => by rintro rfl; exact Nat.lt_irrefl _ h) fun z hz => by
          obtain ⟨f, hf, rfl⟩ := List.mem_map.mp hz
          exact hP.ksS _ (hP.inS f hf)
        lia
      walk_at "gb"
      refine tru_list hF.hstk (by simp [strsA]; rw [List.length_map] at hflen; lia) ?_
      rcases List.eq_nil_or_concat fr with rfl | ⟨fr', f, e⟩
      · refine iF ?_
        refine XST_cons (WB.wt (EX_Break ?_))
        refine XST_nil ((hJ0 _ _ _).mpr ⟨Lsub.refl _, ks, hF, hP⟩)
      · rw [List.concat_eq_append] at e
        subst e
        have hne : (!(strsA ((fr' ++ [f]).map (·.nm))).isEmpty) = true := by simp [strsA]
        rw [hne]
        refine iT ?_
        have hfm : f ∈ fr' ++ [f] := by simp
        obtain ⟨hP', hrk', hnf⟩ := hP.top
        have hfS : f.nm ∈ S.names := hP.ksS _ (hP.inS f hfm)
        obtain ⟨N, hN, hNn⟩ := List.mem_map.mp hfS
        have hinj' : ∀ z ∈ fr'.map (·.nm), R.c z = R.c f.nm → z = f.nm := fun z hz e => by
          obtain ⟨g, hg, rfl⟩ := List.mem_map.mp hz
          obtain ⟨M, hM, hMn⟩ := List.mem_map.mp (hP.ksS _ (hP.inS g (List.mem_append_left _ hg)))
          rw [← hMn, ← hNn] at e ⊢
          exact hinj M hM N hN e
        have hits' : h its = some (.list ((fr'.map fun f => AV.ref f.m) ++ [.ref f.m])) := by have := hF.hits; rw [this]; simp
        have hcf : h (R.c f.nm) = some (.list (strsA N.succ)) := by rw [← hNn]; exact hF.sub _ _ (hXc N hN)
        have hsc : scOf S f.nm = N.succ := by rw [← hNn]; exact scOf_mem hnodup hN
        cases hx : N.succ[f.i]? with
        | some s =>
          have hsx : (strsA N.succ)[f.i]? = some (.str s) := by simp [strsA, hx]
          have hsm : s ∈ N.succ := List.mem_of_getElem? hx
          refine XST_cons (EXT_Try_ok ?_)
          refine XST_cons (WB.wt (EX_Assign (EV_mw rfl ?_) rfl))
          refine EV_Sub PySem.F.slot_list_getitem.lookup ?_
          walk_at "gb"
          refine ⟨by simp [aty, AO.ty, hits'], gi_last hits' ?_⟩
          refine ⟨f.m, f.I, R.c f.nm, f.i, strsA N.succ, .str s, rfl, (hF.hm f hfm).1, (hF.hI f hfm).1, hcf, hsx, ?_⟩
          walk_at "gb"
          refine XST_cons (WB.wt (EX_Break ?_))
          refine XST_nil ⟨mu S (fr' ++ [⟨f.nm, f.i + 1, f.m, f.I⟩]) ks, ?_, (hJ1 _ _ _).mpr ⟨s, fr' ++ [⟨f.nm, f.i + 1, f.m, f.I⟩], ks, Lsub.all ⟨rfl, rfl, rfl, rfl, rfl, rfl, trivial⟩, hF.next hinj' hnf, hP.next, ?_, ?_, rfl⟩⟩
          · have := mu_next (S := S) (fr := fr') (ks := ks) (u := f.nm) (i := f.i) (m := f.m) (I := f.I) (by rw [hsc]; exact (List.getElem?_eq_some_iff.mp hx).1)
            exact Nat.lt_of_lt_of_le this hmu
          · exact (hrk N hN s hsm).2
          · intro z hz
            have h1 := (hrk N hN s hsm).1
            rw [hNn] at h1
            rw [List.map_append] at hz
            rcases List.mem_append.mp hz with hz | hz
            · exact Nat.lt_trans (hrk' z hz) h1
            · simp at hz; subst hz; exact h1
        | none =>
          have hsx : (strsA N.succ)[f.i]? = none := by simp [strsA, hx]
          refine XST_cons (EXT_Try_exc (X := "StopIteration") (T' := "StopIteration") G.toGndB F.kind F.glob F.blt hfr ((F.look _).trans rfl) (kb_StopIteration _) bb_StopIteration (by decide) rfl ?f1 ?f2 ?f3 ?_)
          case f1 => rw [isSubtype_type]; kernel_rfl
          case f2 => kernel_rfl
          case f3 => rw [isSubtype_type]; kernel_rfl
          refine XSR_now (EXR_Assign (EVR_mw rfl G.hn ?_) rfl)
          refine EV_Sub PySem.F.slot_list_getitem.lookup ?_
          walk_at "gb"
          refine ⟨by simp [aty, AO.ty, hits'], gi_last hits' ?_⟩
          refine ⟨f.m, f.I, R.c f.nm, f.i, strsA N.succ, rfl, (hF.hm f hfm).1, (hF.hI f hfm).1, hcf, hsx, fun t e ht he hte => ⟨t, HP.set_self _ _ _, ?_⟩⟩
          have hsub : (h.del f.I).Sub (((h.del f.I).set t (.tuple [])).set e (excO "StopIteration" t)) := (HP.sub_set (HP.del_none ht)).new (by rw [HP.set_ne (Ne.symm hte)]; exact HP.del_none he)
          refine withGoal fun goalX goalBack => ?_
          obtain ⟨g1, g2, g3, hF2⟩ := hF.ended hinj' hnf hsub hsi hXs hXi hX2
          refine goalBack ?_
          clear goalBack goalX
          revert g1 g2 g3 hF2
          generalize ((h.del f.I).set t (.tuple [])).set e (excO "StopIteration" t) = h5
          intro g1 g2 g3 hF2
          have c4 : n2s ≠ stk := by intro e; rw [e, g1] at g3; cases g3
          have c5 : n2s ≠ its := by intro e; rw [e, g2] at g3; cases g3
          rw [List.map_append, List.length_append] at hflen
          obtain ⟨vt, hvt⟩ := stkD_some (ns := fr'.map (·.nm) ++ [f.nm]) (x := f.nm) (by simp)
          refine XS_cons (EX_DelSub ?_)
          walk_at "gb"
          refine ⟨by simp [aty, AO.ty, g1], ?_⟩
          refine c_pop g1 (by simp [strsA]; rw [List.length_map] at hflen; lia) ?_
          refine di_dict (HP.set_of c4 g3) hvt (by have := congrArg List.length (stkD_keys (fr'.map (·.nm) ++ [f.nm])); rw [List.length_map] at this; rw [this]; simp at hflen ⊢; lia) ?_
          rw [stkD_without hnf]
          walk_at "gb"
          refine ⟨by simp [aty, AO.ty, HP.set_ne (Ne.symm c5), HP.set_ne (Ne.symm hsi), g2], ?_⟩
          refine c_pop (HP.set_of (Ne.symm c5) (HP.set_of (Ne.symm hsi) g2)) (by rw [List.length_map]; simp at hflen; lia) ?_
          walk_at "gb"
          exact XST_nil ⟨mu S fr' ks, mu_pop, (hJ3 _ _ _).mpr ⟨fr', ks, Lsub.all ⟨rfl, rfl, rfl, rfl, rfl, trivial⟩, hF2, hP', rfl, Nat.le_trans (Nat.le_of_lt mu_pop) hmu⟩⟩
  · intro l h hh
    refine withGoal fun goalX goalBack => ?_
    obtain ⟨hl, ks, hF, _⟩ := (hJ0 _ _ _).mp hh
    refine goalBack ?_
    clear goalBack goalX
    clear hh
    refine XST_cons (WB.wt ?_)
    walk_at "gb"
    refine q _ (hS.sub' ?_)
    have := hF.sub
    rw [hHX] at this
    exact sub_back this hnd
end
end
section
variable {g : Gd} {n : Nat} {L : Addr} {loc : Loc} {hp : HP}
noncomputable def zerosN (ns : List Nd) : List PySem.Str := (ns.filter fun N => N.np == 0).map (·.name)
theorem fn127 (P : Params) : typeIn (myK P) (.ref 127) = some (.type "function") := by kernel_rfl
theorem me127 (P : Params) : findIn (myK P) (.ref 137) "_find_cycle" = some (some (.ref 127)) := by kernel_rfl
theorem tru_none {Q : Bool → Loc → HP → Prop} (q : Q false loc hp) : ∀ va, (AV.none).Is va → WB g n L (truthy va) loc hp (Eq (α := Bool)) Q := by
  rintro _ ⟨t, rfl⟩; exact WB_putsB (b := false) (fun A E s Q V h => PyProof.Rows.truthy_none (h s.toks)) q
section
variable {base : HP} {x : Addr} {S : SS} {R : SR}
theorem c_prepare (G : Gnd g) {rk : PySem.Str → Nat} {Q : AV → HP → Prop} (hS : SortIn base hp x S R) (hr : S.ready = none) (hrk : ∀ N ∈ S.nodes, ∀ s ∈ N.succ, rk N.name < rk s ∧ s ∈ S.names) (hz : S.nodes.length ≤ 1000)
    (q : ∀ hp' R', SortIn base hp' x { S with ready := some (zerosN S.nodes) } R' → Q .none hp') : CH g (n + 2) (.ref 92) [.ref x] hp Q := by
  refine C_call G (kf92 _) (kc92 _) rfl rfl ⟨rfl, rfl, rfl⟩ ?_ rfl ⟨rfl, rfl, rfl⟩
  rw [show bindArgs fd92 ⟨[.ref x], []⟩ = (pure [(("self" : PySem.Str), PySem.Value.ref x)] : Sem (List (PySem.Str × PySem.Value))) from rfl]
  refine WH.pure (b := ([("self", AV.ref x)] : Loc)) ⟨⟨rfl, ⟨0, rfl⟩, trivial⟩, locs rfl⟩ ?_
  intro env F hL
  walk_at "gb"
  refine EV_Attr rfl ?_
  walk_at "gb"
  refine ga_sort G hS.at_ (no_rn _) rfl (rdyV_plain _ _) ?_
  walk_at "gb"
  refine cmp_isNot_none ?_
  rw [rdyV_none, hr]
  refine ⟨_, rfl, iNT ?_⟩
  walk_at "gb"
  refine EX_AssignAttr ?_ ?s1
  case s1 => exact rfl
  refine EV_ListComp (cl := []) F ?c1 ?c2 ?c3 ?c4 ?c5 ?c6 ?_
  case c1 => exact rfl
  case c2 => exact rfl
  case c3 => exact rfl
  case c4 => exact rfl
  case c5 => exact rfl
  case c6 => exact fun V => rfl
  walk_at "gb"
  refine EV_Attr rfl ?_
  walk_at "gb"
  refine ga_sort G hS.at_ (no_n2i _) rfl rfl ?_
  refine ⟨by simp [aty, AO.ty, hS.at_.hnd], ?_⟩
  refine c_dvalues hS.at_.hnd fun vw hvw => ?_
  have hnv : R.nd ≠ vw := by rintro rfl; rw [hS.at_.hnd] at hvw; cases hvw
  have hXe : ∃ HX : HP, HX = (hp.set vw (valuesO R.nd)).del R.nd := ⟨_, rfl⟩
  obtain ⟨HX, hHX⟩ := hXe
  refine ex3 _ _ _ ⟨Src.values (HP.set_self _ _ _) (HP.set_of hnv hS.at_.hnd), by simp [ndDict]; lia, fun i ys h => ys = strsA (zerosN (S.nodes.take i)) ∧ HX.Sub h, ⟨rfl, by rw [← hHX]; exact HP.Sub.refl _⟩, ?_, ?_⟩
  · rintro i v ys h cenv hi ⟨rfl, hs⟩ FC hn
    obtain ⟨N, hN, rfl⟩ : ∃ N, S.nodes[i]? = some N ∧ v = .ref (R.a N.name) := by
      unfold ndDict at hi
      rw [List.map_map, List.getElem?_map, Option.map_eq_some_iff] at hi
      obtain ⟨N, h1, h2⟩ := hi
      exact ⟨N, h1, h2.symm⟩
    have hNm := List.mem_of_getElem? hN
    obtain ⟨cd, hcd⟩ := cls40 g.w.params
    have oX : ∀ {y X}, hp y = some X → y ≠ R.nd → HX y = some X := fun {y X} e k => by
      rw [hHX, HP.del_ne k, HP.set_ne (by rintro rfl; rw [hvw] at e; cases e)]; exact e
    have na : R.a N.name ≠ R.nd := by intro e; have h1 := hS.at_.ha N hNm; rw [e, hS.at_.hnd] at h1; cases h1
    have nb : R.b N.name ≠ R.nd := by intro e; have h1 := hS.at_.hb N hNm; rw [e, hS.at_.hnd] at h1; cases h1
    have ga := oX (hS.at_.ha N hNm) na
    have gb := oX (hS.at_.hb N hNm) nb
    have htk : zerosN (S.nodes.take (i + 1)) = zerosN (S.nodes.take i) ++ (if (N.np == 0) = true then [N.name] else []) := by
      unfold zerosN
      rw [List.take_add_one, hN, List.filter_append, List.map_append]
      congr 1
      simp only [Option.toList_some, List.filter_cons, List.filter_nil]
      split <;> rfl
    refine WB.weak (Lsub.refl _) hs (TS_one ?_)
    walk_at "gb"
    refine EV_Attr rfl ?_
    walk_at "gb"
    refine ga_slot G (clsOk40 _) (slotOk_npred _) hcd ga gb rfl (v := .int N.np) rfl ?_
    walk_at "gb"
    refine ⟨_, rfl, iB (fun e1 => ?_) fun e1 => ?_⟩
    · refine EV_Attr rfl ?_
      walk_at "gb"
      refine ga_slot G (clsOk40 _) (slotOk_node _) hcd ga gb rfl (v := .str N.name) rfl ?_
      refine ⟨?_, HP.Sub.refl _⟩
      rw [htk, if_pos e1]; simp [strsA]
    · refine ⟨?_, HP.Sub.refl _⟩
      rw [htk, if_neg (by rw [e1]; decide), List.append_nil]
  · rintro ys h ⟨rfl, hs⟩ D hD
    have hlen : ((ndDict R S.nodes).map (·.2)).length = S.nodes.length := by simp [ndDict]
    rw [hlen, List.take_length]
    have hsub : hp.Sub (h.set R.nd (.dict (ndDict R S.nodes))) := by
      intro b X e
      by_cases k : b = R.nd
      · subst k; rw [hS.at_.hnd] at e; cases e; exact HP.set_self _ _ _
      · rw [HP.set_ne k]
        refine hs b X ?_
        rw [hHX, HP.del_ne k, HP.set_ne (by rintro rfl; rw [hvw] at e; cases e)]; exact e
    have hS1 := hS.sub' hsub
    revert hS1 hD
    generalize h.set R.nd (.dict (ndDict R S.nodes)) = h1
    intro hD hS1
    walk_at "gb"
    have hS2 := hS1.fresh (X := .list (strsA (zerosN S.nodes))) hD
    refine sa_pf G hS2.at_ (tk_rn _) (at2 := sAttrs R.nd (.ref D) S.passed S.fin) rfl ?_
    have hS3 := hS1.newReady (rl := D) (l := zerosN S.nodes) hD
    revert hS3
    generalize (h1.set D (.list (strsA (zerosN S.nodes)))).set R.d (.ns (sAttrs R.nd (.ref D) S.passed S.fin)) = h3
    intro hS3
    walk_at "gb"
    refine EV_imeth0 G (clsOk137 _) (me127 _) (kf127 _) (fn127 _) ?_ ?s1 ?s2
    case s1 => exact rfl
    case s2 => exact rfl
    walk_at "gb"
    refine ex3 x _ _ ⟨rfl, hS3.at_.hx, hS3.at_.hd, rfl, ?_⟩
    refine WB.lift (CH.wh (c_findcycle G (rk := rk) hS3 hrk hz fun h4 hS4 => ?_))
    walk_at "gb"
    refine tru_none ?_
    walk_at "gb"
    exact q _ _ hS4
end
end
section
variable {g : Gd} {n : Nat} {L : Addr} {loc : Loc} {hp : HP}
noncomputable def addPl (p : Loc) (due : List PySem.Str) : Loc := due.foldl (fun p pl => dstore p (bname pl) (.str pl)) p
structure Sv where
  S : SS
  row : List PySem.Str
  waiting : List PySem.Str
  places : Loc
  due : List PySem.Str
noncomputable def svWt (way : Int) (s : Sv) : List PySem.Str := putS way s.waiting (sortB false (s.due.map bname))
noncomputable def svPl (s : Sv) : Loc := addPl s.places s.due
noncomputable def svLast (way : Int) (s : Sv) : PySem.Str := match lk ((svWt way s).headD "") (svPl s) with | some (.str x) => x | _ => ""
noncomputable def svS2 (s : Sv) : SS := (s.S.got s.due).got []
noncomputable def svS3 (way : Int) (s : Sv) : SS := (svS2 s).doneS (svLast way s) (scOf (svS2 s) (svLast way s))
noncomputable def svStep (told : List PySem.Str) (way : Int) (s : Sv) : Sv :=
  ⟨svS3 way s, s.row ++ [(svWt way s).headD ""], (svWt way s).drop 1, svPl s, told.filter fun p => dname p == svLast way s⟩
noncomputable def svAt (told : List PySem.Str) (way : Int) (s : Sv) (i : Nat) : Sv := (List.range i).foldl (fun s V => svStep told way s) s
/-- what must hold at every step -/
structure SvOk (way : Int) (s : Sv) : Prop where
  ready : s.S.ready = some s.due
  act : (decide (s.S.fin < s.S.passed) || !s.due.isEmpty) = true
  inn : ∀ k ∈ s.due, k ∈ s.S.names
  len : s.due.length ≤ 20 ∧ s.waiting.length ≤ 20 ∧ s.places.length ≤ 100 ∧ s.row.length ≤ 100
  wne : svWt way s ≠ []
  last : lk ((svWt way s).headD "") (svPl s) = some (.str (svLast way s))
  node : ∃ N ∈ (svS2 s).nodes, N.name = svLast way s ∧ N.np = -1 ∧ N.succ.length ≤ 1000 ∧ ∀ z ∈ N.succ, z ∈ (svS2 s).names
  dead : ∃ N ∈ (svS3 way s).nodes, N.name = svLast way s ∧ N.np = -2
  ready3 : ∃ l, (svS3 way s).ready = some l
  text : refusedText (svLast way s) = "node '" ++ svLast way s ++ "' was already marked done"
  tlen : (svLast way s).length ≤ 1000 ∧ (reprText (svLast way s)).length ≤ 50000 ∧ ∀ k ∈ s.due, k.length ≤ 1000
theorem addPl_len (p : Loc) (due : List PySem.Str) : (addPl p due).length ≤ p.length + due.length := by
  unfold addPl
  induction due generalizing p with
  | nil => simp
  | cons a due ih =>
    rw [List.foldl_cons]
    have := ih (dstore p (bname a) (.str a))
    have h2 : (dstore p (bname a) (.str a)).length ≤ p.length + 1 := by unfold dstore; split <;> simp
    simp; lia
theorem sortB_len (b : Bool) (ss : List PySem.Str) : (sortB b ss).length = ss.length := by unfold sortB; split <;> simp [List.length_mergeSort]
theorem putS_len (way : Int) (w m : List PySem.Str) : (putS way w m).length = w.length + m.length := by
  unfold putS; split
  · simp
  · split
    · simp; lia
    · rw [sortB_len]; simp
theorem fn106 (P : Params) : typeIn (myK P) (.ref 106) = some (.type "function") := by kernel_rfl
theorem me106 (P : Params) : findIn (myK P) (.ref 137) "is_active" = some (some (.ref 106)) := by kernel_rfl
theorem fn99 (P : Params) : typeIn (myK P) (.ref 99) = some (.type "function") := by kernel_rfl
theorem me99 (P : Params) : findIn (myK P) (.ref 137) "get_ready" = some (some (.ref 99)) := by kernel_rfl
section
variable {base : HP} {x : Addr} {R : SR}
/-- the run, between two turns -/
noncomputable def SvJ (base : HP) (cl x tl : Addr) (way : Int) (s : Sv) (l : Loc) (h : HP) : Prop := ∃ B rw wl pd du X R, Lsub [("row", .ref rw), ("waiting", .ref wl), ("places", .ref pd), ("due", .ref du), ("sorter", .ref x), ("told", .ref tl), ("way", .int way)] l ∧ SortIn B h x s.S R ∧ base.Sub B ∧
      B rw = some (.list (strsA s.row)) ∧ B wl = some (.list (strsA s.waiting)) ∧ B pd = some (.dict s.places) ∧ B du = some (.tuple (strsA s.due)) ∧ B cl = some (.cell X) ∧ base rw = none ∧ base pd = none ∧ base du = none ∧ rw ≠ wl
theorem SvJ_iff {cl x tl : Addr} {way : Int} {s : Sv} {l : Loc} {h base : HP} : SvJ base cl x tl way s l h ↔ (∃ B rw wl pd du X R, Lsub [("row", .ref rw), ("waiting", .ref wl), ("places", .ref pd), ("due", .ref du), ("sorter", .ref x), ("told", .ref tl), ("way", .int way)] l ∧ SortIn B h x s.S R ∧ base.Sub B ∧
      B rw = some (.list (strsA s.row)) ∧ B wl = some (.list (strsA s.waiting)) ∧ B pd = some (.dict s.places) ∧ B du = some (.tuple (strsA s.due)) ∧ B cl = some (.cell X) ∧ base rw = none ∧ base pd = none ∧ base du = none ∧ rw ≠ wl) := Iff.rfl
theorem c_served (G : Gnd g) {tl : Addr} {told : List PySem.Str} {way : Int} {s0 : Sv} {Q : AV → HP → Prop} (hS : SortIn base hp x s0.S R) (htl : base tl = some (.list (strsA told))) (h0 : s0.row = [] ∧ s0.waiting = [] ∧ s0.places = [] ∧ s0.due = [("/" : PySem.Str)])
    (ok : ∀ i, i < 8 → SvOk way (svAt told way s0 i)) (hfin : (svAt told way s0 8).S.ready = some [] ∧ ¬ (svAt told way s0 8).S.fin < (svAt told way s0 8).S.passed) (htz : told.length ≤ 100 ∧ ∀ k ∈ told, k.length ≤ 1000)
    (q : ∀ rw hp' R' S', base rw = none → SortIn (base.set rw (.list (strsA (svAt told way s0 8).row))) hp' x S' R' → Q (.ref rw) hp') :
    ∀ vs, Vs [.ref x, .ref tl, .int way] vs → WH g (n + 3) (call (.ref 299) vs) hp AV.Is Q := by
  intro vs hv
  refine withGoal fun goalX goalBack => ?_
  obtain ⟨t1, t2, t3, rfl⟩ := Vs3 hv
  refine goalBack ?_
  clear goalBack goalX
  refine W_callC (binds := [("sorter", .ref x), ("told", .ref tl), ("way", .int way t3)]) (bl := [("sorter", .ref x), ("told", .ref tl), ("way", .int way)]) G (kf299 _) (kc299 _) rfl rfl ⟨rfl, rfl, rfl⟩ rfl ⟨rfl, ⟨t1, rfl⟩, rfl, ⟨t2, rfl⟩, rfl, ⟨t3, rfl⟩, trivial⟩ (fun V => rfl) (fun V => rfl) (fun V => rfl) ⟨rfl, rfl, rfl⟩ ?_
  intro env L' hL F hfresh
  have hcs : ∃ c1, cellsFrom (L' + 1) fd299.scope.names [] = [(("last" : PySem.Str), c1)] ∧ L' ≤ c1 := ⟨L' + 1, rfl, Nat.le_add_right _ _⟩
  obtain ⟨cl, hcs, hc1⟩ := hcs
  rw [hcs] at F ⊢
  have hcn := hfresh cl hc1
  show XS g (n + 2) env _ [("way", .int way), ("told", .ref tl), ("sorter", .ref x)] (hp.set cl (.cell none)) _
  have hS1 : SortIn (base.set cl (.cell none)) (hp.set cl (.cell none)) x s0.S R := hS.add hcn
  have hbc : base cl = none := hS.sub.non hcn
  walk_at "gb"
  refine EX_TupAssign (ns := ["row", "waiting", "places", "due"]) ?s1 ?_ ?s2 ?s3
  case s1 => exact rfl
  case s2 => exact rfl
  case s3 => first | exact rfl | (rw [swapped_of (fd := fd299) F rfl]; exact rfl)
  walk_at "gb"
  refine ⟨by simp, fun rw hrw => ?_⟩
  walk_at "gb"
  refine ⟨by simp, fun wl hwl => ?_⟩
  walk_at "gb"
  refine EV_Dict0 G fun pd hpd => ?_
  walk_at "gb"
  refine ⟨by simp, fun du hdu => ?_⟩
  walk_at "gb"
  refine ⟨by simp, fun tt htt => (ex2 tt _ ⟨rfl, HP.set_self _ _ _, rfl, ?_⟩)⟩
  refine SN_cons (SL_ F rfl (SN_cons (SL_ F rfl (SN_cons (SL_ F rfl (SN_cons (SL_ F rfl (SN_nil ?_))))))))
  have hS2 := ((((hS1.add (X := .list []) hrw).add (X := .list []) hwl).add (X := .dict []) hpd).add (X := .tuple [.str "/"]) hdu).fresh (X := .tuple [.ref rw, .ref wl, .ref pd, .ref du]) htt
  simp only [HP.set_none_iff] at hrw hwl hpd hdu
  obtain ⟨hrw1, hrw⟩ := hrw
  obtain ⟨hwl1, hwl2, hwl⟩ := hwl
  refine withGoal fun goalX goalBack => ?_
  obtain ⟨hpd1, hpd2, hpd3, hpd⟩ := hpd
  refine goalBack ?_
  clear goalBack goalX
  refine withGoal fun goalX goalBack => ?_
  obtain ⟨hdu1, hdu2, hdu3, hdu4, hdu⟩ := hdu
  refine goalBack ?_
  clear goalBack goalX
  have bn : ∀ {y}, hp y = none → base y = none := fun {y} e => hS.sub.non e
  generalize hB : ((((base.set cl (.cell none)).set rw (.list [])).set wl (.list [])).set pd (.dict [])).set du (.tuple [.str "/"]) = B at hS2
  have Brw : B rw = some (.list (strsA [])) := by rw [← hB]; exact HP.set_of (Ne.symm hdu3) (HP.set_of (Ne.symm hpd2) (HP.set_of (Ne.symm hwl1) (HP.set_self _ _ _)))
  have Bwl : B wl = some (.list (strsA [])) := by rw [← hB]; exact HP.set_of (Ne.symm hdu2) (HP.set_of (Ne.symm hpd1) (HP.set_self _ _ _))
  have Bpd : B pd = some (.dict []) := by rw [← hB]; exact HP.set_of (Ne.symm hdu1) (HP.set_self _ _ _)
  have Bdu : B du = some (.tuple (strsA ["/"])) := by rw [← hB]; exact HP.set_self _ _ _
  have Bcl : B cl = some (.cell none) := by rw [← hB]; exact HP.set_of (Ne.symm hdu4) (HP.set_of (Ne.symm hpd3) (HP.set_of (Ne.symm hwl2) (HP.set_of (Ne.symm hrw1) (HP.set_self _ _ _))))
  have Bb : base.Sub B := by
    rw [← hB]
    exact ((((HP.sub_set hbc).setN (bn hrw)).setN (bn hwl)).setN (bn hpd)).setN (bn hdu)
  clear hB htt
  revert hS2
  generalize ((((((hp.set cl (AO.cell none)).set rw (AO.list [])).set wl (AO.list [])).set pd (AO.dict [])).set du (AO.tuple [AV.str "/"])).set tt (AO.tuple [AV.ref rw, AV.ref wl, AV.ref pd, AV.ref du])) = h1
  intro hS2
  walk_at "gb"
  refine EX_ForN ?_ (fun V => rfl)
  walk_at "gb"
  refine c_range (k := 8) fun D hD => ?_
  refine ex3 _ _ _ ⟨Src.range (HP.set_self _ _ _) (by decide), fun i => SvJ base cl x tl way (svAt told way s0 i),
    SvJ_iff.mpr (ex7 B rw wl pd du none R ⟨Lsub.all ⟨rfl, rfl, rfl, rfl, rfl, rfl, rfl, trivial⟩, ?_, Bb, ?_, ?_, ?_, ?_, Bcl, bn hrw, bn hpd, bn hdu, Ne.symm hwl1⟩), ?_, ?_⟩
  · exact (hS2.fresh hD).drop (hS2.sub.non hD) (hS2.at_.notFoot hD)
  · show B rw = some (.list (strsA s0.row)); rw [h0.1]; exact Brw
  · show B wl = some (.list (strsA s0.waiting)); rw [h0.2.1]; exact Bwl
  · show B pd = some (.dict s0.places); rw [h0.2.2.1]; exact Bpd
  · show B du = some (.tuple (strsA s0.due)); rw [h0.2.2.2]; exact Bdu
  · clear hS2 hD Brw Bwl Bpd Bdu Bcl Bb hdu1 hdu2 hdu3 hdu4 hdu hpd1 hpd2 hpd3 hpd hwl1 hwl2 hwl hrw1 hrw hS1 hS
    clear D h1 B du pd wl rw tt q
    intro i v l h hi hh
    refine withGoal fun goalX goalBack => ?_
    obtain ⟨B, rw, wl, pd, du, X, R, hl, hS, Bb, Brw, Bwl, Bpd, Bdu, Bcl, brw, bpd, bdu, hrwl⟩ := SvJ_iff.mp hh
    refine goalBack ?_
    clear goalBack goalX
    clear hh
    have hi8 : i < 8 := by have := (List.getElem?_eq_some_iff.mp hi).1; simpa [rng] using this
    have hok := ok i hi8
    have hstep : svAt told way s0 (i + 1) = svStep told way (svAt told way s0 i) := by unfold svAt; rw [List.range_succ, List.foldl_append]; rfl
    refine SL_ F rfl (WB.weak (loc' := [("row", .ref rw), ("waiting", .ref wl), ("places", .ref pd), ("due", .ref du), ("sorter", .ref x), ("told", .ref tl), ("way", .int way)]) (hl.skip rfl) (HP.Sub.refl _) (WB.mono (Q := OnF (SvJ base cl x tl way (svStep told way (svAt told way s0 i)))) ?_ (fun f l h hf => by rw [← hstep] at hf; cases f <;> exact hf)))
    clear hstep hi ok hfin hl
    revert hok hS Brw Bwl Bpd Bdu
    generalize svAt told way s0 i = s
    intro hS Brw Bwl Bpd Bdu hok
    refine withGoal fun goalX goalBack => ?_
    obtain ⟨hz1, hz2, hz3, hz4⟩ := hok.len
    refine goalBack ?_
    clear goalBack goalX
    obtain ⟨hz5, hz6, hz7⟩ := hok.tlen
    have hdc : du ≠ cl := by rintro rfl; rw [Bdu] at Bcl; cases Bcl
    have hpc : pd ≠ cl := by rintro rfl; rw [Bpd] at Bcl; cases Bcl
    have hrc : rw ≠ cl := by rintro rfl; rw [Brw] at Bcl; cases Bcl
    have hwc : wl ≠ cl := by rintro rfl; rw [Bwl] at Bcl; cases Bcl
    have hpd : pd ≠ du := by rintro rfl; rw [Bpd] at Bdu; cases Bdu
    have hrd : rw ≠ du := by rintro rfl; rw [Brw] at Bdu; cases Bdu
    have hwd : wl ≠ du := by rintro rfl; rw [Bwl] at Bdu; cases Bdu
    have hrp : rw ≠ pd := by rintro rfl; rw [Brw] at Bpd; cases Bpd
    have hwp : wl ≠ pd := by rintro rfl; rw [Bwl] at Bpd; cases Bpd
    walk_at "gb"
    refine EV_imeth0 G (clsOk137 _) (me106 _) (kf106 _) (fn106 _) ?_ ?s1 ?s2
    case s1 => exact rfl
    case s2 => exact rfl
    walk_at "gb"
    refine ex3 x _ _ ⟨rfl, hS.at_.hx, hS.at_.hd, rfl, ?_⟩
    refine WB.lift (CH.wh (c_isactive G hS hok.ready (by lia) ?_))
    rw [hok.act]
    walk_at "gb"
    refine cmp_isNot_bool ?_
    refine ⟨_, rfl, iF ?_⟩
    walk_at "gb"
    refine EV_imeth0 G (clsOk137 _) (me99 _) (kf99 _) (fn99 _) ?_ ?s1 ?s2
    case s1 => exact rfl
    case s2 => exact rfl
    walk_at "gb"
    refine ex3 x _ _ ⟨rfl, hS.at_.hx, hS.at_.hd, rfl, ?_⟩
    refine WB.lift (CH.wh (c_getready G hS hok.ready (by lia) hok.inn fun t1 h2 R2 hbt1 hS2 => ?_))
    clear hS h
    walk_at "gb"
    have hdt : du ≠ t1 := by rintro rfl; rw [hbt1] at Bdu; cases Bdu
    refine cmp_ne_tup (ss := s.due) (ts := s.due) (hS2.sub _ _ (HP.set_self _ _ _)) (hS2.sub _ _ (HP.set_of hdt Bdu)) ?_
    rw [decide_eq_true rfl]
    refine ⟨_, rfl, iNT ?_⟩
    replace hS2 := hS2.weak (HP.sub_set hbt1)
    walk_at "gb"
    refine EV_imeth0 G (clsOk137 _) (me99 _) (kf99 _) (fn99 _) ?_ ?s1 ?s2
    case s1 => exact rfl
    case s2 => exact rfl
    walk_at "gb"
    refine ex3 x _ _ ⟨rfl, hS2.at_.hx, hS2.at_.hd, rfl, ?_⟩
    refine WB.lift (CH.wh (c_getready (l := []) G hS2 rfl (by simp) (fun k hk => by cases hk) fun t2 h3 R3 hbt2 hS3 => ?_))
    clear hS2 hdt hbt1 h2 t1
    walk_at "gb"
    refine ⟨by simp, fun t3 ht3 => ?_⟩
    have ht23 : t2 ≠ t3 := by
      rintro rfl
      have := hS3.sub _ _ (HP.set_self B t2 (.tuple (strsA [])))
      rw [ht3] at this; cases this
    refine cmp_ne_tup (ss := []) (ts := []) (HP.set_of ht23 (hS3.sub _ _ (HP.set_self _ _ _))) (HP.set_self _ _ _) ?_
    rw [decide_eq_true rfl]
    refine ⟨_, rfl, iNT ?_⟩
    walk_at "gb"
    have hS4 := (hS3.weak (HP.sub_set hbt2)).fresh (X := .tuple []) ht3
    replace hS4 : SortIn B (h3.set t3 (.tuple [])) x (svS2 s) R3 := hS4
    clear hS3 ht23 ht3 hbt2
    revert hS4
    generalize h3.set t3 (.tuple []) = h4
    intro hS4
    clear h3 t3 t2 R2 R
    -- for place in due
    have hdu4 : h4 du = some (.tuple (strsA s.due)) := hS4.sub _ _ Bdu
    refine EX_ForL ?_ (fun V => rfl)
    walk_at "gb"
    obtain ⟨J2, hJ2⟩ : ∃ J2 : Nat → Loc → HP → Prop, ∀ j l h, J2 j l h ↔ (Lsub [("row", .ref rw), ("waiting", .ref wl), ("places", .ref pd), ("due", .ref du), ("sorter", .ref x), ("told", .ref tl), ("way", .int way)] l ∧ ∃ B2, SortIn B2 h x (svS2 s) R3 ∧ base.Sub B2 ∧ B2 rw = some (.list (strsA s.row)) ∧ B2 wl = some (.list (strsA s.waiting)) ∧ B2 pd = some (.dict (addPl s.places (s.due.take j))) ∧ B2 cl = some (.cell X)) := ⟨_, fun V V V => Iff.rfl⟩
    refine ex3 _ _ _ ⟨Src.tuple hdu4, J2,
      (hJ2 _ _ _).mpr ⟨Lsub.refl _, B.del du, hS4.del Bdu, Bb.del bdu, ?_, ?_, ?_, ?_⟩, ?_, ?_⟩
    · rw [HP.del_ne hrd]; exact Brw
    · rw [HP.del_ne hwd]; exact Bwl
    · rw [HP.del_ne hpd]; exact Bpd
    · rw [HP.del_ne (Ne.symm hdc)]; exact Bcl
    · intro j v l h hj hh hln
      refine withGoal fun goalX goalBack => ?_
      obtain ⟨hl, B2, hS5, hb5, hrw5, hwl5, hpd5, hcl5⟩ := (hJ2 _ _ _).mp hh
      refine goalBack ?_
      clear goalBack goalX
      clear hh
      obtain ⟨k, hk, rfl⟩ : ∃ k, s.due[j]? = some k ∧ v = .str k := by
        simp only [strsA, List.getElem?_map, Option.map_eq_some_iff] at hj
        obtain ⟨c, h1, h2⟩ := hj; exact ⟨c, h1, h2.symm⟩
      have hkl := hz7 k (List.mem_of_getElem? hk)
      have htk : addPl s.places (s.due.take (j + 1)) = dstore (addPl s.places (s.due.take j)) (bname k) (.str k) := by
        unfold addPl; rw [List.take_add_one, hk, List.foldl_append]; rfl
      refine SL_ F rfl (WB.weak hl.cons (HP.Sub.refl _) ?_)
      walk_at "gb"
      refine EX_AssignSub ?_ ?s1
      case s1 => exact rfl
      walk_at "gb"
      refine c_basename G (by lia) ?_
      refine si_dict (hS5.sub _ _ hpd5) (by have := addPl_len s.places (s.due.take j); simp at this; lia) ?_
      walk_at "gb"
      refine (hJ2 _ _ _).mpr ⟨Lsub.all ⟨rfl, rfl, rfl, rfl, rfl, rfl, rfl, trivial⟩, _, hS5.own hpd5, hb5.setN bpd, HP.set_of hrp hrw5, HP.set_of hwp hwl5, ?_, HP.set_of (Ne.symm hpc) hcl5⟩
      rw [HP.set_self, htk]
    · intro l h hh hln
      refine withGoal fun goalX goalBack => ?_
      obtain ⟨hl, B2, hS5, hb5, hrw5, hwl5, hpd5, hcl5⟩ := (hJ2 _ _ _).mp hh
      refine goalBack ?_
      clear goalBack goalX
      clear hh hJ2 J2
      have hlen : (strsA s.due).length = s.due.length := by simp [strsA]
      rw [hlen, List.take_length] at hpd5
      have hdn : h du = none := hln du (by rw [hdu4]; rfl) (HP.del_self _ _)
      have hS6 := hS5.add (X := .tuple (strsA s.due)) hdn
      have hb6 : base.Sub (B2.set du (.tuple (strsA s.due))) := hb5.setN bdu
      have hrw6 : (B2.set du (.tuple (strsA s.due))) rw = _ := HP.set_of hrd hrw5
      have hwl6 : (B2.set du (.tuple (strsA s.due))) wl = _ := HP.set_of hwd hwl5
      have hpd6 : (B2.set du (.tuple (strsA s.due))) pd = some (.dict (svPl s)) := HP.set_of hpd hpd5
      have hcl6 : (B2.set du (.tuple (strsA s.due))) cl = _ := HP.set_of (Ne.symm hdc) hcl5
      have hdu6 : (B2.set du (.tuple (strsA s.due))) du = _ := HP.set_self _ _ _
      refine WB.weak hl (HP.Sub.refl _) ?_
      clear hS4 hdu4 Bb Brw Bwl Bpd Bdu Bcl hS5 hb5 hrw5 hwl5 hpd5 hcl5 hln hl hdn
      revert hS6 hb6 hrw6 hwl6 hpd6 hcl6 hdu6
      generalize B2.set du (.tuple (strsA s.due)) = B6
      generalize h.set du (.tuple (strsA s.due)) = h6
      intro hS6 hb6 hrw6 hwl6 hpd6 hcl6 hdu6
      clear B2 B h h4
      have delBack : ∀ {h0 h1 : HP} {a : Addr} {D : AO}, (h0.del a).Sub h1 → h0 a = some D → h0.Sub (h1.set a D) := fun {h0 h1 a D} s e b X eb => by
        by_cases q : b = a
        · subst q; rw [e] at eb; cases eb; exact HP.set_self _ _ _
        · rw [HP.set_ne q]; exact s b X (by rw [HP.del_ne q]; exact eb)
      have hduh := hS6.sub _ _ hdu6
      walk_at "gb"
      refine EV_ListComp (cl := []) F ?c1 ?c2 ?c3 ?c4 ?c5 ?c6 ?_
      case c1 => exact rfl
      case c2 => exact rfl
      case c3 => exact rfl
      case c4 => exact rfl
      case c5 => exact rfl
      case c6 => exact fun V => rfl
      walk_at "gb"
      refine ex3 _ _ _ ⟨Src.tuple hduh, by simp [strsA]; lia, fun j ys h => ys = strsA ((s.due.take j).map bname) ∧ (h6.del du).Sub h, ⟨rfl, HP.Sub.refl _⟩, ?_, ?_⟩
      · rintro j v ys h cenv hj ⟨rfl, hs⟩ FC hn
        obtain ⟨k, hk, rfl⟩ : ∃ k, s.due[j]? = some k ∧ v = .str k := by
          simp only [strsA, List.getElem?_map, Option.map_eq_some_iff] at hj
          obtain ⟨c, h1, h2⟩ := hj; exact ⟨c, h1, h2.symm⟩
        have hkl := hz7 k (List.mem_of_getElem? hk)
        refine WB.weak (Lsub.refl _) hs (TS_nil (iT ?_))
        walk_at "gb"
        refine c_basename G (by lia) ⟨?_, HP.Sub.refl _⟩
        rw [List.take_add_one, hk]; simp [strsA]
      · rintro ys h ⟨rfl, hs⟩ D hD
        have hlen : (strsA s.due).length = s.due.length := by simp [strsA]
        rw [hlen, List.take_length]
        have hS7 := hS6.sub' (delBack hs hduh)
        clear hs hS6 hduh
        revert hS7 hD
        generalize h.set du (.tuple (strsA s.due)) = h7
        intro hD hS7
        clear h h6
        walk_at "gb"
        refine c_sorted (ss := s.due.map bname) (HP.set_self _ _ _) (by simp; lia) fun a ha => ?_
        walk_at "gb"
        have hDa : D ≠ a := by rintro rfl; rw [HP.set_self] at ha; cases ha
        have hwl7 : ((h7.set D (.list (strsA (s.due.map bname)))).set a (.list (strsA (sortB false (s.due.map bname))))) wl = some (.list (strsA s.waiting)) := by
          have e := hS7.sub _ _ hwl6
          refine HP.set_of ?_ (HP.set_of ?_ e)
          · rintro rfl; rw [HP.set_ne (by rintro rfl; rw [hD] at e; cases e), e] at ha; cases ha
          · rintro rfl; rw [hD] at e; cases e
        refine c_put G (w := s.waiting) (m := sortB false (s.due.map bname)) hwl7 (HP.set_self _ _ _) (by rw [sortB_len]; simp; lia) fun nw hnw => ?_
        have hS8 : SortIn (B6.set nw (.list (strsA (svWt way s)))) _ x (svS2 s) R3 := ((hS7.fresh hD).fresh ha).add hnw
        have hBnw : B6 nw = none := ((hS7.fresh (X := .list (strsA (s.due.map bname))) hD).fresh (X := .list (strsA (sortB false (s.due.map bname)))) ha).sub.non hnw
        have ne_nw : ∀ {y Y}, B6 y = some Y → y ≠ nw := fun {y Y} e => by rintro rfl; rw [hBnw] at e; cases e
        have hb8 : base.Sub (B6.set nw (.list (strsA (svWt way s)))) := hb6.new hBnw
        have hrw8 : (B6.set nw (.list (strsA (svWt way s)))) rw = _ := HP.set_of (ne_nw hrw6) hrw6
        have hpd8 : (B6.set nw (.list (strsA (svWt way s)))) pd = _ := HP.set_of (ne_nw hpd6) hpd6
        have hcl8 : (B6.set nw (.list (strsA (svWt way s)))) cl = _ := HP.set_of (ne_nw hcl6) hcl6
        have hnw8 : (B6.set nw (.list (strsA (svWt way s)))) nw = _ := HP.set_self _ _ _
        have hrnw : rw ≠ nw := ne_nw hrw6
        have hpnw : pd ≠ nw := ne_nw hpd6
        have hcnw : cl ≠ nw := ne_nw hcl6
        have hwtl : (svWt way s).length ≤ 40 := by unfold svWt; rw [putS_len, sortB_len]; simp; lia
        refine SL_ F rfl ?_
        show XS g (n + 2) env _ _ (HP.set _ nw (.list (strsA (svWt way s)))) _
        refine WB.weak (loc' := [("waiting", .ref nw), ("row", .ref rw), ("places", .ref pd), ("sorter", .ref x), ("told", .ref tl), ("way", .int way)]) (Lsub.all ⟨rfl, rfl, rfl, rfl, rfl, rfl, trivial⟩) (HP.Sub.refl _) ?_
        clear hb6 hrw6 hwl6 hpd6 hcl6 hdu6 hwl7 hDa ne_nw
        revert hS8 hb8 hrw8 hpd8 hcl8 hnw8
        generalize B6.set nw (.list (strsA (svWt way s))) = B8
        generalize HP.set _ nw (.list (strsA (svWt way s))) = h8
        intro hS8 hb8 hrw8 hpd8 hcl8 hnw8
        clear hS7 hD ha hnw hBnw h7 B6
        have htl8 := hb8 _ _ htl
        obtain ⟨w0, wr, hw⟩ : ∃ w0 wr, svWt way s = w0 :: wr := by
          cases e : svWt way s with
          | nil => exact absurd e hok.wne
          | cons a b => exact ⟨a, b, rfl⟩
        have hlast := hok.last
        rw [hw, List.headD_cons] at hlast
        have hhead : (svWt way s).headD "" = w0 := by rw [hw]; rfl
        rw [hw] at hnw8 hwtl
        have hnwh := hS8.sub _ _ hnw8
        walk_at "gb"
        refine tru_list hnwh (by simp [strsA]; simp at hwtl; lia) ?_
        refine iF ?_
        walk_at "gb"
        refine EV_Sub PySem.slot_dict_getitem.lookup ?_
        walk_at "gb"
        refine EV_Sub PySem.F.slot_list_getitem.lookup ?_
        walk_at "gb"
        refine ⟨by simp [aty, AO.ty, hnwh], gi_list (x := .str w0) hnwh (by decide) (by simp [strsA]; simp at hwtl; lia) rfl ?_⟩
        refine ⟨by simp [aty, AO.ty, hS8.sub _ _ hpd8], gi_dict (hS8.sub _ _ hpd8) hlast ?_⟩
        refine SC_ F rfl rfl (hS8.sub _ _ hcl8) ?_
        have hS9 := hS8.own (X := .cell (some (.str (svLast way s)))) hcl8
        have hb9 : base.Sub (B8.set cl (.cell (some (.str (svLast way s))))) := hb8.setN hbc
        have hrw9 : (B8.set cl (.cell (some (.str (svLast way s))))) rw = _ := HP.set_of hrc hrw8
        have hpd9 : (B8.set cl (.cell (some (.str (svLast way s))))) pd = _ := HP.set_of hpc hpd8
        have hnw9 : (B8.set cl (.cell (some (.str (svLast way s))))) nw = _ := HP.set_of (Ne.symm hcnw) hnw8
        have hcl9 : (B8.set cl (.cell (some (.str (svLast way s))))) cl = _ := HP.set_self _ _ _
        revert hS9 hb9 hrw9 hpd9 hnw9 hcl9
        generalize B8.set cl (.cell (some (.str (svLast way s)))) = B9
        generalize h8.set cl (.cell (some (.str (svLast way s)))) = h9
        intro hS9 hb9 hrw9 hpd9 hnw9 hcl9
        clear hS8 hb8 hrw8 hpd8 hcl8 hnw8 htl8 hnwh h8 B8
        walk_at "gb"
        refine EV_imeth G (clsOk137 _) (me120 _) (kf120 _) (fn120 _) ?_ ?s1 ?s2 ?s3 ?s4
        case s1 => exact rfl
        case s2 => exact rfl
        case s3 => exact rfl
        case s4 => exact rfl
        walk_at "gb"
        refine ex3 x _ _ ⟨rfl, hS9.at_.hx, hS9.at_.hd, rfl, ?_⟩
        refine ES_cons (C_ F rfl rfl rfl (hS9.sub _ _ hcl9) (ES_nil ?_)) rfl
        intro vs hvs
        obtain ⟨tk, rfl⟩ := Vs1 hvs
        refine withGoal fun goalX goalBack => ?_
        obtain ⟨N, hN, hNn, hnp, hsl, hin⟩ := hok.node
        refine goalBack ?_
        clear goalBack goalX
        have hsc : scOf (svS2 s) (svLast way s) = N.succ := by rw [← hNn]; exact scOf_mem hS9.at_.nodup hN
        refine WB.lift (CH.wh (c_done G hS9 (l := []) rfl (by simp) hN hNn hnp hsl hin (fun h10 R10 hS10 => ?_) _ ⟨tk, rfl⟩))
        replace hS10 : SortIn B9 h10 x (svS3 way s) R10 := by unfold svS3; rw [hsc]; exact hS10
        clear hS9 h9 hvs
        walk_at "gb"
        refine cmp_isNot_none ?_
        refine ⟨_, rfl, iF ?_⟩
        walk_at "gb"
        refine C_ F rfl rfl rfl (hS10.sub _ _ hcl9) ?_
        walk_at "gb"
        intro vs hvs
        obtain ⟨u1, u2, rfl⟩ := Vs2 hvs
        refine withGoal fun goalX goalBack => ?_
        obtain ⟨M, hM, hMn, hMp⟩ := hok.dead
        refine goalBack ?_
        clear goalBack goalX
        obtain ⟨l3, hl3⟩ := hok.ready3
        refine WB.lift (CH.wh (c_refusal G hS10 hl3 hM hMn hMp hz6 (fun h11 hS11 => ?_) _ ⟨u2, rfl⟩))
        clear hS10 h10 hvs
        walk_at "gb"
        refine C_ F rfl rfl rfl (hS11.sub _ _ hcl9) ?_
        refine bin_add_str (by have : ("node '" : PySem.Str).length = 6 := by decide
                               lia) ?_
        walk_at "gb"
        refine bin_add_str (by rw [Str.length_append]
                               have : ("node '" : PySem.Str).length = 6 := by decide
                               have : ("' was already marked done" : PySem.Str).length = 25 := by decide
                               lia) ?_
        walk_at "gb"
        rw [hok.text]
        refine ⟨_, rfl, ?_⟩
        rw [bne_self_eq_false]
        refine iF ?_
        have htl11 := hS11.sub _ _ (hb9 _ _ htl)
        walk_at "gb"
        refine EV_ListComp (cl := [("last", cl)]) F ?c1 ?c2 ?c3 ?c4 ?c5 ?c6 ?_
        case c1 => exact rfl
        case c2 => exact rfl
        case c3 => exact rfl
        case c4 => exact rfl
        case c5 => exact rfl
        case c6 => exact fun V => rfl
        walk_at "gb"
        have htc : tl ≠ cl := by rintro rfl; rw [hb9 _ _ htl] at hcl9; cases hcl9
        have hclX : (h11.del tl) cl = some (.cell (some (.str (svLast way s)))) := by rw [HP.del_ne (Ne.symm htc)]; exact hS11.sub _ _ hcl9
        refine ex3 _ _ _ ⟨Src.list htl11, by simp [strsA]; lia, fun j ys h => ys = strsA ((told.take j).filter fun p => dname p == svLast way s) ∧ (h11.del tl).Sub h, ⟨rfl, HP.Sub.refl _⟩, ?_, ?_⟩
        · rintro j v ys h cenv hj ⟨rfl, hs⟩ FC hn
          obtain ⟨k, hk, rfl⟩ : ∃ k, told[j]? = some k ∧ v = .str k := by
            simp only [strsA, List.getElem?_map, Option.map_eq_some_iff] at hj
            obtain ⟨c, h1, h2⟩ := hj; exact ⟨c, h1, h2.symm⟩
          have hkl := htz.2 k (List.mem_of_getElem? hk)
          refine WB.weak (Lsub.refl _) hs (TS_one ?_)
          walk_at "gb"
          refine c_dirname G (by lia) ?_
          refine C_ FC rfl rfl rfl hclX ?_
          walk_at "gb"
          refine ⟨_, rfl, iB (fun e1 => ?_) fun e1 => ?_⟩
          · walk_at "gb"
            refine ⟨?_, HP.Sub.refl _⟩
            rw [List.take_add_one, hk, List.filter_append]; simp [strsA, e1]
          · refine ⟨?_, HP.Sub.refl _⟩
            rw [List.take_add_one, hk, List.filter_append]; simp [strsA, e1]
        · rintro ys h ⟨rfl, hs⟩ D hD
          have hlen : (strsA told).length = told.length := by simp [strsA]
          rw [hlen, List.take_length]
          have hS12 := hS11.sub' (delBack hs htl11)
          clear hs hS11 hclX htl11
          revert hS12 hD
          generalize h.set tl (.list (strsA told)) = h12
          intro hD hS12
          clear h h11
          walk_at "gb"
          refine c_tuple (HP.set_self _ _ _) (by have := List.length_filter_le (fun p => dname p == svLast way s) told; simp [strsA]; lia) fun nd hnd => ?_
          have hS13 : SortIn (B9.set nd (.tuple (strsA (told.filter fun p => dname p == svLast way s)))) _ x (svS3 way s) R10 := (hS12.fresh hD).add hnd
          have hBnd : B9 nd = none := (hS12.fresh (X := .list (strsA (told.filter fun p => dname p == svLast way s))) hD).sub.non hnd
          have ne_nd : ∀ {y Y}, B9 y = some Y → y ≠ nd := fun {y Y} e => by rintro rfl; rw [hBnd] at e; cases e
          have hrw13 : (B9.set nd (.tuple (strsA (told.filter fun p => dname p == svLast way s)))) rw = _ := HP.set_of (ne_nd hrw9) hrw9
          have hnw13 : (B9.set nd (.tuple (strsA (told.filter fun p => dname p == svLast way s)))) nw = _ := HP.set_of (ne_nd hnw9) hnw9
          have hpd13 : (B9.set nd (.tuple (strsA (told.filter fun p => dname p == svLast way s)))) pd = _ := HP.set_of (ne_nd hpd9) hpd9
          have hcl13 : (B9.set nd (.tuple (strsA (told.filter fun p => dname p == svLast way s)))) cl = _ := HP.set_of (ne_nd hcl9) hcl9
          have hnd13 : (B9.set nd (.tuple (strsA (told.filter fun p => dname p == svLast way s)))) nd = _ := HP.set_self _ _ _
          have hb13 : base.Sub (B9.set nd (.tuple (strsA (told.filter fun p => dname p == svLast way s)))) := hb9.new hBnd
          have bnd : base nd = none := hb9.non hBnd
          revert hS13 hrw13 hnw13 hpd13 hcl13 hnd13 hb13
          generalize B9.set nd (.tuple (strsA (told.filter fun p => dname p == svLast way s))) = B13
          generalize HP.set _ nd (.tuple (strsA (told.filter fun p => dname p == svLast way s))) = h13
          intro hS13 hrw13 hnw13 hpd13 hcl13 hnd13 hb13
          clear hS12 hD hnd h12 hb9 hrw9 hnw9 hpd9 hcl9 ne_nd hBnd B9
          walk_at "gb"
          refine ⟨by simp [aty, AO.ty, hS13.sub _ _ hrw13], ?_⟩
          refine ES_cons ?_ rfl
          refine EV_Sub PySem.F.slot_list_getitem.lookup ?_
          walk_at "gb"
          refine ⟨by simp [aty, AO.ty, hS13.sub _ _ hnw13], gi_list (x := .str w0) (hS13.sub _ _ hnw13) (by decide) (by simp [strsA]; simp at hwtl; lia) rfl ?_⟩
          walk_at "gb"
          refine c_append (hS13.sub _ _ hrw13) (by simp [strsA]; lia) ?_
          have hS14 := hS13.own (X := .list (strsA s.row ++ [.str w0])) hrw13
          walk_at "gb"
          refine EV_Sub_from_list ?_
          walk_at "gb"
          refine ex3 nw _ 1 ⟨rfl, HP.set_of (Ne.symm hrnw) (hS13.sub _ _ hnw13), rfl, by simp [strsA]; simp at hwtl; lia, fun wl' hwl' => ?_⟩
          have hS15 := hS14.add (X := .list ((strsA (w0 :: wr)).drop 1)) hwl'
          have hBwl : (B13.set rw (.list (strsA s.row ++ [.str w0]))) wl' = none := hS14.sub.non hwl'
          have ne_wl : ∀ {y Y}, (B13.set rw (.list (strsA s.row ++ [.str w0]))) y = some Y → y ≠ wl' := fun {y Y} e => by rintro rfl; rw [hBwl] at e; cases e
          walk_at "gb"
          refine SvJ_iff.mpr (ex7 _ rw wl' pd nd (some (.str (svLast way s))) R10 ⟨Lsub.all ⟨rfl, rfl, rfl, rfl, rfl, rfl, rfl, trivial⟩, hS15, (hb13.setN brw).new hBwl, ?_, ?_, ?_, ?_, ?_, brw, bpd, bnd, ne_wl (HP.set_self _ _ _)⟩)
          · rw [HP.set_ne (ne_wl (HP.set_self _ _ _)), HP.set_self]
            show _ = some (AO.list (strsA (s.row ++ [(svWt way s).headD ""])))
            rw [hhead]; simp [strsA]
          · rw [HP.set_self]
            show _ = some (AO.list (strsA ((svWt way s).drop 1)))
            rw [hw]; rfl
          · have e : (B13.set rw (.list (strsA s.row ++ [.str w0]))) pd = some (.dict (svPl s)) := HP.set_of (Ne.symm hrp) hpd13
            exact HP.set_of (ne_wl e) e
          · have hrn : nd ≠ rw := by rintro rfl; rw [hnd13] at hrw13; cases hrw13
            have e : (B13.set rw (.list (strsA s.row ++ [.str w0]))) nd = some (.tuple (strsA (told.filter fun p => dname p == svLast way s))) := HP.set_of hrn hnd13
            exact HP.set_of (ne_wl e) e
          · have e : (B13.set rw (.list (strsA s.row ++ [.str w0]))) cl = some (.cell (some (.str (svLast way s)))) := HP.set_of (Ne.symm hrc) hcl13
            exact HP.set_of (ne_wl e) e
  · intro l h hh
    refine withGoal fun goalX goalBack => ?_
    obtain ⟨B, rw, wl, pd, du, X, R, hl, hS, Bb, Brw, Bwl, Bpd, Bdu, Bcl, brw, bpd, bdu, hrwl⟩ := SvJ_iff.mp hh
    refine goalBack ?_
    clear goalBack goalX
    clear hh
    have h8 : (rng 8).length = 8 := rfl
    rw [h8] at hS Brw
    refine WB.weak hl (HP.Sub.refl _) ?_
    walk_at "gb"
    refine EV_imeth0 G (clsOk137 _) (me106 _) (kf106 _) (fn106 _) ?_ ?s1 ?s2
    case s1 => exact rfl
    case s2 => exact rfl
    walk_at "gb"
    refine ex3 x _ _ ⟨rfl, hS.at_.hx, hS.at_.hd, rfl, ?_⟩
    refine WB.lift (CH.wh (c_isactive (l := []) G hS hfin.1 (by simp) ?_))
    rw [decide_eq_false hfin.2]
    walk_at "gb"
    refine cmp_is_bool ?_
    refine ⟨_, rfl, iT ?_⟩
    walk_at "gb"
    refine EV_imeth0 G (clsOk137 _) (me99 _) (kf99 _) (fn99 _) ?_ ?s1 ?s2
    case s1 => exact rfl
    case s2 => exact rfl
    walk_at "gb"
    refine ex3 x _ _ ⟨rfl, hS.at_.hx, hS.at_.hd, rfl, ?_⟩
    refine WB.lift (CH.wh (c_getready (l := []) G hS hfin.1 (by simp) (fun k hk => by cases hk) fun t2 h3 R3 hbt2 hS3 => ?_))
    walk_at "gb"
    refine ⟨by simp, fun t3 ht3 => ?_⟩
    have ht23 : t2 ≠ t3 := by
      rintro rfl
      have := hS3.sub _ _ (HP.set_self B t2 (.tuple (strsA [])))
      rw [ht3] at this; cases this
    refine cmp_eq_tup (ss := []) (ts := []) (HP.set_of ht23 (hS3.sub _ _ (HP.set_self _ _ _))) (HP.set_self _ _ _) ?_
    rw [decide_eq_true rfl]
    refine ⟨_, rfl, iT ?_⟩
    walk_at "gb"
    refine q rw _ R3 _ brw ((hS3.weak (HP.sub_set hbt2)).fresh (X := .tuple []) ht3 |>.weak ?_)
    intro b Y e
    by_cases k : b = rw
    · subst k; rw [HP.set_self] at e; cases e; exact Brw
    · rw [HP.set_ne k] at e; exact Bb _ _ e
end
end
section
variable {g : Gd} {n : Nat} {L : Addr} {loc : Loc} {hp : HP}
noncomputable def addAll (told : List PySem.Str) : SS := told.foldl (fun S p => S.add p (dname p)) SS0
noncomputable def aboveOf (told : List PySem.Str) : Loc := told.foldl (fun es p => dstore es (bname p) (.str (bname (dname p)))) []
noncomputable def prepS (S : SS) : SS := { S with ready := some (zerosN S.nodes) }
noncomputable def sv0 (told : List PySem.Str) : Sv := ⟨prepS (addAll told), [], [], [], ["/"]⟩
/-- a text that normpath takes -/
structure NpOk (x : PySem.Str) : Prop where
  z : x.length ≤ 10000
  ne : ((x.length : Int) != 0) = true
  sp : (Txt.split (srP x) "/").length ≤ 50000
  cz : ∀ c ∈ Txt.split (srP x) "/", c.length ≤ 100000
  sp2 : (Builtin.Str.partsBetween (srP x) (Builtin.Str.occurrences (srP x) "/" 0 (srP x).length ((srP x).length + 1)) ("/" : PySem.Str).length).length ≤ 100000
  ok : JoinOk "/" ((Txt.split (srP x) "/").foldl (npStep (srR x)) []) = true
  jl : (srR x).length + (Txt.join "/" ((Txt.split (srP x) "/").foldl (npStep (srR x)) [])).length ≤ 100000
structure WishOk (texts : List PySem.Str) (row : List PySem.Str) (way : Int) (back : List Int) : Prop where
  np : ∀ x ∈ texts, NpOk x
  len : texts.length ≤ 20
  tz : ∀ k ∈ texts.map npS, k.length ≤ 1000
  dz : ∀ k ∈ texts.map npS, (dname k).length ≤ 1000
  sl : ∀ i, i ≤ texts.length → ∀ N ∈ (addAll ((texts.map npS).take i)).nodes, N.succ.length ≤ 1000
  rk : ∃ rk : PySem.Str → Nat, ∀ N ∈ (addAll (texts.map npS)).nodes, ∀ s ∈ N.succ, rk N.name < rk s ∧ s ∈ (addAll (texts.map npS)).names
  ok : ∀ i, i < 8 → SvOk way (svAt (texts.map npS) way (sv0 (texts.map npS)) i)
  fin : (svAt (texts.map npS) way (sv0 (texts.map npS)) 8).S.ready = some [] ∧ ¬ (svAt (texts.map npS) way (sv0 (texts.map npS)) 8).S.fin < (svAt (texts.map npS) way (sv0 (texts.map npS)) 8).S.passed
  rowEq : (svAt (texts.map npS) way (sv0 (texts.map npS)) 8).row = row
  rz : row.length ≤ 100
  backEq : ∀ (i : Nat) (nm : PySem.Str), lawNames[i]? = some nm → ∃ (a : PySem.Str) (j : Nat), lk nm (aboveOf (texts.map npS)) = some (.str a) ∧ row[j]? = some a ∧ (∀ m, m < j → row[m]? ≠ some a) ∧ back[i]? = some (j : Int)
  bl : back.length = 7
theorem fn87 (P : Params) : typeIn (myK P) (.ref 87) = some (.type "function") := by kernel_rfl
theorem me87 (P : Params) : findIn (myK P) (.ref 137) "add" = some (some (.ref 87)) := by kernel_rfl
theorem fn92 (P : Params) : typeIn (myK P) (.ref 92) = some (.type "function") := by kernel_rfl
theorem me92 (P : Params) : findIn (myK P) (.ref 137) "prepare" = some (some (.ref 92)) := by kernel_rfl
theorem addAll_ready (told : List PySem.Str) : (addAll told).ready = none := by
  have : ∀ (l : List PySem.Str) (S : SS), S.ready = none → (l.foldl (fun S p => S.add p (dname p)) S).ready = none := by
    intro l
    induction l with
    | nil => intro S h; exact h
    | cons a l ih => intro S h; rw [List.foldl_cons]; exact ih _ (by rw [SS.add_ready]; exact h)
  exact this told SS0 rfl
theorem addAll_len (told : List PySem.Str) : (addAll told).nodes.length ≤ 2 * told.length := by
  have : ∀ (l : List PySem.Str) (S : SS), (l.foldl (fun S p => S.add p (dname p)) S).nodes.length ≤ S.nodes.length + 2 * l.length := by
    intro l
    induction l with
    | nil => intro S; simp
    | cons a l ih => intro S; rw [List.foldl_cons]; have := ih (S.add a (dname a)); have h2 := SS.add_len S a (dname a); simp; lia
  have h := this told SS0
  have e : SS0.nodes.length = 0 := rfl
  rw [e, Nat.zero_add] at h
  exact h
theorem delBack {h0 h1 : HP} {a : Addr} {D : AO} (s : (h0.del a).Sub h1) (e : h0 a = some D) : h0.Sub (h1.set a D) := fun b X eb => by
  by_cases q : b = a
  · subst q; rw [e] at eb; cases eb; exact HP.set_self _ _ _
  · rw [HP.set_ne q]; exact s b X (by rw [HP.del_ne q]; exact eb)
theorem strs_at {ss : List PySem.Str} {j : Nat} {v : AV} (h : (strsA ss)[j]? = some v) : ∃ k, ss[j]? = some k ∧ v = .str k := by
  simp only [strsA, List.getElem?_map, Option.map_eq_some_iff] at h
  obtain ⟨c, h1, h2⟩ := h; exact ⟨c, h1, h2.symm⟩
theorem strs_len (ss : List PySem.Str) : (strsA ss).length = ss.length := by simp [strsA]
theorem c_wishes (G : Gnd g) {tx rw : Addr} {texts row : List PySem.Str} {way : Int} {back : List Int} {Q : AV → HP → Prop} (htx : hp tx = some (.list (strsA texts))) (hrw : hp rw = some (.list (strsA row))) (W : WishOk texts row way back)
    (q : ∀ bk hp', hp bk = none → (hp.set bk (.list (intsA back))).Sub hp' → Q (.ref bk) hp') :
    ∀ vs, Vs [.ref tx, .ref rw, .int way] vs → WH g (n + 5) (call (.ref 304) vs) hp AV.Is Q := by
  intro vs hv
  refine withGoal fun goalX goalBack => ?_
  obtain ⟨t1, t2, t3, rfl⟩ := Vs3 hv
  refine goalBack ?_
  clear goalBack goalX
  refine W_callC (binds := [("texts", .ref tx), ("row", .ref rw), ("way", .int way t3)]) (bl := [("texts", .ref tx), ("row", .ref rw), ("way", .int way)]) G (kf304 _) (kc304 _) rfl rfl ⟨rfl, rfl, rfl⟩ rfl ⟨rfl, ⟨t1, rfl⟩, rfl, ⟨t2, rfl⟩, rfl, ⟨t3, rfl⟩, trivial⟩ (fun V => rfl) (fun V => rfl) (fun V => rfl) ⟨rfl, rfl, rfl⟩ ?_
  intro env L' hL F hfresh
  have hcs : ∃ c1 c2, cellsFrom (L' + 1) fd304.scope.names [] = [(("above" : PySem.Str), c2), (("row" : PySem.Str), c1)] ∧ c1 ≠ c2 ∧ L' ≤ c1 ∧ L' ≤ c2 := ⟨L' + 1, L' + 2, rfl, by intro h; exact absurd h (by simp), Nat.le_add_right _ _, Nat.le_add_right _ _⟩
  refine withGoal fun goalX goalBack => ?_
  obtain ⟨c1, c2, hcs, hc12, hc1, hc2⟩ := hcs
  refine goalBack ?_
  clear goalBack goalX
  rw [hcs] at F ⊢
  have hc1n := hfresh c1 hc1
  have hc2n := hfresh c2 hc2
  show XS g (n + 4) env _ [("way", .int way), ("texts", .ref tx)] ((hp.set c1 (.cell (some (.ref rw)))).set c2 (.cell none)) _
  have hH1e : ∃ H1 : HP, H1 = (hp.set c1 (.cell (some (.ref rw)))).set c2 (.cell none) := ⟨_, rfl⟩
  obtain ⟨H1, hH1⟩ := hH1e
  rw [← hH1]
  have hs1 : hp.Sub H1 := by rw [hH1]; exact (HP.sub_set hc1n).new (by rw [HP.set_ne (Ne.symm hc12)]; exact hc2n)
  have hc1H : H1 c1 = some (.cell (some (.ref rw))) := by rw [hH1]; exact HP.set_of hc12 (HP.set_self _ _ _)
  have hc2H : H1 c2 = some (.cell none) := by rw [hH1]; exact HP.set_self _ _ _
  have htz : (texts.map npS).length ≤ 20 := by rw [List.length_map]; exact W.len
  walk_at "gb"
  refine EX_TupSwapped (ns := ["sorter", "told"]) ?_ ?s2 ?s3
  case s2 => exact rfl
  case s3 => rw [swapped_of (fd := fd304) F rfl]; exact rfl
  walk_at "gb"
  refine NW0_ F G (kn_TopologicalSorter _) (keep137 _) ?s1 ?s2 ?_
  case s1 => exact rfl
  case s2 => exact rfl
  refine WB.lift (CH.wh (c_new G fun x h2 R hS => ?_))
  walk_at "gb"
  refine EV_ListComp (cl := []) F ?c1 ?c2 ?c3 ?c4 ?c5 ?c6 ?_
  case c1 => exact rfl
  case c2 => exact rfl
  case c3 => exact rfl
  case c4 => exact rfl
  case c5 => exact rfl
  case c6 => exact fun V => rfl
  walk_at "gb"
  have htx2 := hS.sub _ _ (hs1 _ _ htx)
  refine ex3 _ _ _ ⟨Src.list htx2, by rw [strs_len]; have := W.len; lia, fun j ys h => ys = strsA ((texts.take j).map npS) ∧ (h2.del tx).Sub h, ⟨rfl, HP.Sub.refl _⟩, ?_, ?_⟩
  · rintro j v ys h cenv hj ⟨rfl, hs⟩ FC hn
    obtain ⟨k, hk, rfl⟩ := strs_at hj
    have N := W.np k (List.mem_of_getElem? hk)
    refine WB.weak (Lsub.refl _) hs (TS_nil (iT ?_))
    walk_at "gb"
    refine c_normpath G N.z N.ne N.sp N.cz N.sp2 N.ok N.jl ⟨?_, HP.Sub.refl _⟩
    rw [List.take_add_one, hk]; simp [strsA]
  rintro ys h ⟨rfl, hs⟩ tl htl
  rw [strs_len, List.take_length]
  have hS2 := (hS.sub' (delBack hs htx2)).add (X := .list (strsA (texts.map npS))) htl
  have hH1tl : H1 tl = none := (hS.sub' (delBack hs htx2)).sub.non htl
  clear hs htx2 hS
  generalize hB : H1.set tl (.list (strsA (texts.map npS))) = B at hS2
  have hBtl : B tl = some (.list (strsA (texts.map npS))) := by rw [← hB]; exact HP.set_self _ _ _
  have hB1 : H1.Sub B := by rw [← hB]; exact HP.sub_set hH1tl
  clear hB
  revert hS2
  generalize (h.set tx (.list (strsA texts))).set tl (.list (strsA (texts.map npS))) = h3
  intro hS2
  clear htl h h2
  walk_at "gb"
  refine ⟨by simp, fun tt htt => (ex2 tt _ ⟨rfl, HP.set_self _ _ _, rfl, ?_⟩)⟩
  refine SN_cons (SL_ F rfl (SN_cons (SL_ F rfl (SN_nil ?_))))
  replace hS2 := hS2.fresh (X := .tuple [.ref x, .ref tl]) htt
  revert hS2
  generalize h3.set tt (.tuple [.ref x, .ref tl]) = h4
  intro hS2
  clear htt tt h3
  refine WB.weak (loc' := [("sorter", .ref x), ("told", .ref tl), ("way", .int way)]) (Lsub.all ⟨rfl, rfl, rfl, trivial⟩) (HP.Sub.refl _) ?_
  -- for place in told
  walk_at "gb"
  have htl4 := hS2.sub _ _ hBtl
  refine EX_ForL ?_ (fun V => rfl)
  walk_at "gb"
  refine ex3 _ _ _ ⟨Src.list htl4, fun j l h => Lsub [("sorter", .ref x), ("told", .ref tl), ("way", .int way)] l ∧ ∃ R, SortIn (B.del tl) h x (addAll ((texts.map npS).take j)) R, ⟨Lsub.refl _, R, hS2.del hBtl⟩, ?_, ?_⟩
  · rintro j v l h hj ⟨hl, R, hS5⟩ hln
    obtain ⟨k, hk, rfl⟩ := strs_at hj
    have hjl : j < texts.length := by have := (List.getElem?_eq_some_iff.mp hk).1; rw [List.length_map] at this; exact this
    have hkl := W.tz k (List.mem_of_getElem? hk)
    have htk : addAll ((texts.map npS).take (j + 1)) = (addAll ((texts.map npS).take j)).add k (dname k) := by
      unfold addAll; rw [List.take_add_one, hk, List.foldl_append]; rfl
    refine SL_ F rfl (WB.weak hl.cons (HP.Sub.refl _) ?_)
    refine XS_cons (X_ F ?s0 ?_)
    case s0 => exact rfl
    refine EV_imeth G (clsOk137 _) (me87 _) (kf87 _) (fn87 _) ?_ ?s1 ?s2 ?s3 ?s4
    case s1 => exact rfl
    case s2 => exact rfl
    case s3 => exact rfl
    case s4 => exact rfl
    walk_at "gb"
    refine ex3 x _ _ ⟨rfl, hS5.at_.hx, hS5.at_.hd, rfl, ?_⟩
    walk_at "gb"
    refine c_dirname G (by lia) ?_
    walk_at "gb"
    intro vs hvs
    obtain ⟨u1, u2, rfl⟩ := Vs2 hvs
    refine WB.lift (CH.wh (c_add G (k := k) (p := dname k) hS5 (addAll_ready _) (by have := addAll_len ((texts.map npS).take j); rw [List.length_take] at this; lia) (W.sl j (by lia)) (fun h6 R6 hS6 => ?_) _ _ ⟨u1, rfl⟩ ⟨u2, rfl⟩))
    walk_at "gb"
    refine ⟨Lsub.all ⟨rfl, rfl, rfl, trivial⟩, R6, ?_⟩
    rw [htk]; exact hS6
  rintro l h ⟨hl, R, hS5⟩ hln
  rw [strs_len, List.take_length] at hS5
  have htn : h tl = none := hln tl (by rw [htl4]; rfl) (HP.del_self _ _)
  have hS6 := hS5.add (X := .list (strsA (texts.map npS))) htn
  rw [HP.del_set_same hBtl] at hS6
  revert hS6
  generalize h.set tl (.list (strsA (texts.map npS))) = h6
  intro hS6
  refine WB.weak hl (HP.Sub.refl _) ?_
  clear hS5 hS2 htl4 htn hln hl h h4
  obtain ⟨rk, hrk⟩ := W.rk
  have hnl : (addAll (texts.map npS)).nodes.length ≤ 1000 := by have := addAll_len (texts.map npS); lia
  walk_at "gb"
  refine EV_imeth0 G (clsOk137 _) (me127 _) (kf127 _) (fn127 _) ?_ ?s1 ?s2
  case s1 => exact rfl
  case s2 => exact rfl
  walk_at "gb"
  refine ex3 x _ _ ⟨rfl, hS6.at_.hx, hS6.at_.hd, rfl, ?_⟩
  refine WB.lift (CH.wh (c_findcycle G (rk := rk) hS6 hrk hnl fun h7 hS7 => ?_))
  walk_at "gb"
  refine cmp_isNot_none ?_
  refine ⟨_, rfl, iF ?_⟩
  walk_at "gb"
  refine EV_imeth0 G (clsOk137 _) (me92 _) (kf92 _) (fn92 _) ?_ ?s1 ?s2
  case s1 => exact rfl
  case s2 => exact rfl
  walk_at "gb"
  refine ex3 x _ _ ⟨rfl, hS7.at_.hx, hS7.at_.hd, rfl, ?_⟩
  refine WB.lift (CH.wh (c_prepare G (rk := rk) hS7 (addAll_ready _) hrk hnl fun h8 R8 hS8 => ?_))
  walk_at "gb"
  refine cmp_isNot_none ?_
  refine ⟨_, rfl, iF ?_⟩
  walk_at "gb"
  clear hS6 hS7 h6 h7
  intro vs hvs
  refine WB.lift (c_served G (s0 := sv0 (texts.map npS)) (told := texts.map npS) (way := way) hS8 hBtl ⟨rfl, rfl, rfl, rfl⟩ W.ok W.fin ⟨by lia, W.tz⟩ (fun rr h9 R9 S9 hrr hS9 => ?_) vs hvs)
  rw [W.rowEq] at hS9
  have hrH : rr ≠ c1 := by rintro rfl; rw [hB1 _ _ hc1H] at hrr; cases hrr
  refine C_ F rfl rfl rfl (hS9.sub _ _ (HP.set_of (Ne.symm hrH) (hB1 _ _ hc1H))) ?_
  have hrwB : (B.set rr (.list (strsA row))) rw = some (.list (strsA row)) := by
    by_cases e : rw = rr
    · subst e; exact HP.set_self _ _ _
    · exact HP.set_of e (hB1 _ _ (hs1 _ _ hrw))
  refine cmp_ne_list_same (ss := row) (hS9.sub _ _ (HP.set_self _ _ _)) (hS9.sub _ _ hrwB) ?_
  refine ⟨_, rfl, iF ?_⟩
  replace hS9 := hS9.weak (HP.sub_set hrr)
  have hsB : B.Sub h9 := hS9.sub
  have htl9 := hsB _ _ hBtl
  walk_at "gb"
  refine EX_Assign (EV_DictComp (cl := []) G F ?c1 ?c2 ?c3 ?c4 ?c5 ?c6 ?_) ?s
  case s => rw [swaps_of (fd := fd304) F rfl]; exact rfl
  case c1 => exact rfl
  case c2 => exact rfl
  case c3 => exact rfl
  case c4 => exact rfl
  case c5 => exact rfl
  case c6 => exact fun V => rfl
  walk_at "gb"
  refine ex3 _ _ _ ⟨Src.list htl9, by rw [strs_len]; lia, fun j es h => es = aboveOf ((texts.map npS).take j) ∧ (h9.del tl).Sub h, ⟨rfl, HP.Sub.refl _⟩, ?_, ?_⟩
  · rintro j v es h cenv hj ⟨rfl, hs⟩ FC hn
    obtain ⟨k, hk, rfl⟩ := strs_at hj
    have hkl := W.tz k (List.mem_of_getElem? hk)
    refine WB.weak (Lsub.refl _) hs ?_
    walk_at "gb"
    refine c_basename G (by lia) ?_
    walk_at "gb"
    refine ⟨_, rfl, ?_⟩
    walk_at "gb"
    refine c_dirname G (by lia) ?_
    walk_at "gb"
    refine c_basename G (by have := W.dz k (List.mem_of_getElem? hk); lia) ?_
    refine ⟨?_, HP.Sub.refl _⟩
    unfold aboveOf; rw [List.take_add_one, hk, List.foldl_append]; rfl
  rintro es h ⟨rfl, hs⟩ D hD
  rw [strs_len, List.take_length]
  have hs2 : B.Sub (h.set tl (.list (strsA (texts.map npS)))) := hsB.trans (delBack hs htl9)
  have hDB : B D = none := hs2.non hD
  revert hD hs2
  generalize h.set tl (.list (strsA (texts.map npS))) = h10
  intro hD hs2
  clear hs h
  have hc2' : (h10.set D (.dict (aboveOf (texts.map npS)))) c2 = some (.cell none) := by
    rw [HP.set_ne (by rintro rfl; rw [hB1 _ _ hc2H] at hDB; cases hDB)]; exact hs2 _ _ (hB1 _ _ hc2H)
  refine SC_ F rfl rfl hc2' ?_
  have hDc2 : D ≠ c2 := by rintro rfl; rw [hB1 _ _ hc2H] at hDB; cases hDB
  have hpsub : hp.Sub ((h10.set D (.dict (aboveOf (texts.map npS)))).set c2 (.cell (some (.ref D)))) := fun a X e => by
    have ha : a ≠ c2 := by rintro rfl; rw [hc2n] at e; cases e
    rw [HP.set_ne ha]
    exact (HP.sub_set hD) _ _ (hs2 _ _ (hB1 _ _ (hs1 _ _ e)))
  have hc1'' : ((h10.set D (.dict (aboveOf (texts.map npS)))).set c2 (.cell (some (.ref D)))) c1 = some (.cell (some (.ref rw))) := by
    rw [HP.set_ne hc12]; exact (HP.sub_set hD) _ _ (hs2 _ _ (hB1 _ _ hc1H))
  have hc2'' : ((h10.set D (.dict (aboveOf (texts.map npS)))).set c2 (.cell (some (.ref D)))) c2 = some (.cell (some (.ref D))) := HP.set_self _ _ _
  have hD'' : ((h10.set D (.dict (aboveOf (texts.map npS)))).set c2 (.cell (some (.ref D)))) D = some (.dict (aboveOf (texts.map npS))) := by
    rw [HP.set_ne hDc2]; exact HP.set_self _ _ _
  have hrw'' := hpsub _ _ hrw
  revert hpsub hc1'' hc2'' hD'' hrw''
  generalize (h10.set D (.dict (aboveOf (texts.map npS)))).set c2 (.cell (some (.ref D))) = h11
  intro hpsub hc1'' hc2'' hD'' hrw''
  walk_at "gb"
  refine EV_ListComp (cl := [("row", c1), ("above", c2)]) F ?c1 ?c2 ?c3 ?c4 ?c5 ?c6 ?_
  case c1 => exact rfl
  case c2 => exact rfl
  case c3 => exact rfl
  case c4 => exact rfl
  case c5 => exact rfl
  case c6 => exact fun V => rfl
  walk_at "gb"
  refine c_names G fun N hN => ?_
  have hN' : h11 N = none := hN
  refine ex3 _ _ _ ⟨Src.list (HP.set_self _ _ _), by decide, fun j ys h => ys = intsA (back.take j) ∧ h11.Sub h, ⟨rfl, fun a X e => by rw [HP.del_ne (by rintro rfl; rw [hN'] at e; cases e), HP.set_ne (by rintro rfl; rw [hN'] at e; cases e)]; exact e⟩, ?_, ?_⟩
  · rintro j v ys h cenv hj ⟨rfl, hs⟩ FC hn
    obtain ⟨k, hk, rfl⟩ := strs_at hj
    refine withGoal fun goalX goalBack => ?_
    obtain ⟨a, i, ha, hi, hno, hb⟩ := W.backEq j k hk
    refine goalBack ?_
    clear goalBack goalX
    refine TS_nil (iT ?_)
    walk_at "gb"
    refine C_ FC rfl rfl rfl (hs _ _ hc1'') ?_
    refine ⟨by simp [aty, AO.ty, hs _ _ hrw''], ?_⟩
    walk_at "gb"
    refine EV_Sub PySem.slot_dict_getitem.lookup ?_
    walk_at "gb"
    refine C_ FC rfl rfl rfl (hs _ _ hc2'') ?_
    walk_at "gb"
    refine ⟨by simp [aty, AO.ty, hs _ _ hD''], gi_dict (hs _ _ hD'') ha ?_⟩
    walk_at "gb"
    refine c_index (hs _ _ hrw'') (by have := W.rz; lia) hi hno ?_
    refine ⟨?_, hs⟩
    rw [List.take_add_one, hb]; simp [intsA]
  rintro ys h ⟨rfl, hs⟩ bk hbk
  have hln : (strsA lawNames).length = 7 := rfl
  rw [hln, ← W.bl, List.take_length]
  have hpb : hp.Sub (h.set N (.list (strsA lawNames))) := fun a X e => by
    rw [HP.set_ne (by rintro rfl; rw [hpsub _ _ e] at hN'; cases hN')]; exact hs _ _ (hpsub _ _ e)
  have hbh : hp bk = none := hpb.non hbk
  refine q bk _ hbh fun a X e => ?_
  by_cases e2 : a = bk
  · subst e2; rw [HP.set_self] at e ⊢; exact e
  · rw [HP.set_ne e2] at e ⊢; exact hpb _ _ e
end
section
variable {g : Gd} {n : Nat} {L : Addr} {loc : Loc} {hp : HP}
structure LC (L : Addr) (sc fx nm em rd fi : Option AV) (H : HP) : Prop where
  script : H (L + 1) = some (.cell sc)
  fixed : H (L + 2) = some (.cell fx)
  numbers : H (L + 3) = some (.cell nm)
  empty : H (L + 4) = some (.cell em)
  roads : H (L + 5) = some (.cell rd)
  first : H (L + 6) = some (.cell fi)
section
variable {L : Addr} {sc fx nm em rd fi : Option AV} {H H' : HP} {v : AV} {xs : List AV}
theorem nadd {i j : Nat} (h : i ≠ j) : (L + i : Nat) ≠ (L + j : Nat) := fun e => h (Nat.add_left_cancel e)
theorem LC.sub (c : LC L sc fx nm em rd fi H) (h : H.Sub H') : LC L sc fx nm em rd fi H' := ⟨h _ _ c.1, h _ _ c.2, h _ _ c.3, h _ _ c.4, h _ _ c.5, h _ _ c.6⟩
theorem LC.delL {a : Addr} (c : LC L sc fx nm em rd fi H) (h : H a = some (.list xs)) : LC L sc fx nm em rd fi (H.del a) := by
  have : ∀ b o, H b = some (.cell o) → (H.del a) b = some (.cell o) := fun b o e => by rw [HP.del_ne (by rintro rfl; rw [h] at e; cases e)]; exact e
  exact ⟨this _ _ c.1, this _ _ c.2, this _ _ c.3, this _ _ c.4, this _ _ c.5, this _ _ c.6⟩
theorem LC.set2 (c : LC L sc fx nm em rd fi H) : LC L sc (some v) nm em rd fi (H.set (L + 2) (.cell (some v))) := by
  refine ⟨HP.set_of (nadd ?_) c.1, HP.set_self _ _ _, HP.set_of (nadd ?_) c.3, HP.set_of (nadd ?_) c.4, HP.set_of (nadd ?_) c.5, HP.set_of (nadd ?_) c.6⟩ <;> decide
theorem LC.set3 (c : LC L sc fx nm em rd fi H) : LC L sc fx (some v) em rd fi (H.set (L + 3) (.cell (some v))) := by
  refine ⟨HP.set_of (nadd ?_) c.1, HP.set_of (nadd ?_) c.2, HP.set_self _ _ _, HP.set_of (nadd ?_) c.4, HP.set_of (nadd ?_) c.5, HP.set_of (nadd ?_) c.6⟩ <;> decide
theorem LC.set4 (c : LC L sc fx nm em rd fi H) : LC L sc fx nm (some v) rd fi (H.set (L + 4) (.cell (some v))) := by
  refine ⟨HP.set_of (nadd ?_) c.1, HP.set_of (nadd ?_) c.2, HP.set_of (nadd ?_) c.3, HP.set_self _ _ _, HP.set_of (nadd ?_) c.5, HP.set_of (nadd ?_) c.6⟩ <;> decide
theorem LC.set5 (c : LC L sc fx nm em rd fi H) : LC L sc fx nm em (some v) fi (H.set (L + 5) (.cell (some v))) := by
  refine ⟨HP.set_of (nadd ?_) c.1, HP.set_of (nadd ?_) c.2, HP.set_of (nadd ?_) c.3, HP.set_of (nadd ?_) c.4, HP.set_self _ _ _, HP.set_of (nadd ?_) c.6⟩ <;> decide
theorem LC.set6 (c : LC L sc fx nm em rd fi H) : LC L sc fx nm em rd (some v) (H.set (L + 6) (.cell (some v))) := by
  refine ⟨HP.set_of (nadd ?_) c.1, HP.set_of (nadd ?_) c.2, HP.set_of (nadd ?_) c.3, HP.set_of (nadd ?_) c.4, HP.set_of (nadd ?_) c.5, HP.set_self _ _ _⟩ <;> decide
noncomputable def notCell : AO → Bool | .cell _ => false | _ => true
theorem keepc {a c : Addr} {X : AO} {o : Option AV} {Y : AO} (h : H a = some X) (hc : H c = some (.cell o)) (hX : notCell X = true := by rfl) : (H.set c Y) a = some X := by
  refine HP.set_of ?_ h
  rintro rfl
  rw [hc] at h; cases h; cases hX
end
noncomputable def roadOf (es : Loc) (nm : PySem.Str) : PySem.Str := match lk nm es with | some (.str x) => x | _ => ""
noncomputable def movedOf (nums : List Int) : List Int := nums.map fun n => (n - emptyOf (nums.map fun n => n.fmod 8) - 1).fmod 8
noncomputable def orderOf (turn : Int) : List Nat := (List.range 7).map fun (k : Nat) => (((turn.fdiv 4).fmod 7 + (k : Int)).fmod 7).toNat
noncomputable def treeOf (nums : List Int) (turn : Int) := treeAt (movedOf nums) (turn.fmod 4) 8
noncomputable def textOf (nums : List Int) (turn : Int) (k : Nat) : PySem.Str := spelled (roadOf (treeOf nums turn).roads (lawNames.getD k "")) ((nums.getD k 0).fdiv 8)
noncomputable def textsOf (nums : List Int) (turn : Int) : List PySem.Str := (orderOf turn).map (textOf nums turn)
structure LawOk (nums : List Int) (turn : Int) : Prop where
  fr : ∀ i w, (nums.map fun n => n.fmod 8)[i]? = some w → ((takeAll ((nums.map fun n => n.fmod 8).take i)).any (· == spotFrom (takeAll ((nums.map fun n => n.fmod 8).take i)) 8 w)) = false
  ne : frees (takeAll (nums.map fun n => n.fmod 8)) ≠ []
  tree : TreeOk (movedOf nums) (turn.fmod 4)
  road : ∀ k, k < 7 → ∃ x, lk (lawNames.getD k "") (treeOf nums turn).roads = some (.str x) ∧ x.length ≤ 1000 ∧ (Txt.replace (Txt.slice x (some 1) none) "/" (slashOf ((nums.getD k 0).fdiv 8))).length ≤ 50000
  wish : WishOk (textsOf nums turn) (treeOf nums turn).row (turn.fmod 4) (movedOf nums)
  words : ∀ s : Nat, s < 8 → WordsOk (movedOf nums) s
theorem ints_at {ss : List Int} {j : Nat} {v : AV} (h : (intsA ss)[j]? = some v) : ∃ k, ss[j]? = some k ∧ v = .int k := by
  simp only [intsA, List.getElem?_map, Option.map_eq_some_iff] at h
  obtain ⟨c, h1, h2⟩ := h; exact ⟨c, h1, h2.symm⟩
theorem ints_len (ss : List Int) : (intsA ss).length = ss.length := by simp [intsA]
theorem c_law (G : Gnd g) {sl : Addr} (hB : BList g sl) (M : ∀ nums turn, nums.length = 7 → LawOk nums turn) :
    ∀ vs, Vs [.ref sl] vs → WH0 g (n + 6) (call (.ref 314) vs) hp AV.Is fun v V => v = .bool true := by
  intro vs hv
  obtain ⟨t, rfl⟩ := Vs1 hv
  refine W_callC0 (binds := [("script", .ref sl)]) (bl := [("script", .ref sl)]) G (kf314 _) (kc314 _) rfl rfl ⟨rfl, rfl, rfl⟩ rfl ⟨rfl, ⟨t, rfl⟩, trivial⟩ (fun V => rfl) (fun V => rfl) (fun V => rfl) ⟨rfl, rfl, rfl⟩ ?_
  intro env L hL F hfresh
  have hcs : cellsFrom (L + 1) fd314.scope.names [] = [(("first" : PySem.Str), L + 6), ("roads", L + 5), ("empty", L + 4), ("numbers", L + 3), ("fixed", L + 2), ("script", L + 1)] := rfl
  rw [hcs] at F ⊢
  have hn : ∀ i, hp (L + i : Nat) = none := fun i => hfresh _ (Nat.le_add_right _ _)
  have hH : ∃ H : HP, H = cellHP hp [("script", .ref sl)] [(("first" : PySem.Str), L + 6), ("roads", L + 5), ("empty", L + 4), ("numbers", L + 3), ("fixed", L + 2), ("script", L + 1)] ∧ LC L (some (.ref sl)) none none none none none H := by
    refine ⟨_, rfl, ?_⟩
    show LC L (some (.ref sl)) none none none none none ((((((hp.set (L + 1) (.cell (some (.ref sl)))).set (L + 2) (.cell none)).set (L + 3) (.cell none)).set (L + 4) (.cell none)).set (L + 5) (.cell none)).set (L + 6) (.cell none))
    refine ⟨?_, ?_, ?_, ?_, ?_, ?_⟩
    · exact HP.set_of (nadd (by decide)) (HP.set_of (nadd (by decide)) (HP.set_of (nadd (by decide)) (HP.set_of (nadd (by decide)) (HP.set_of (nadd (by decide)) (HP.set_self _ _ _)))))
    · exact HP.set_of (nadd (by decide)) (HP.set_of (nadd (by decide)) (HP.set_of (nadd (by decide)) (HP.set_of (nadd (by decide)) (HP.set_self _ _ _))))
    · exact HP.set_of (nadd (by decide)) (HP.set_of (nadd (by decide)) (HP.set_of (nadd (by decide)) (HP.set_self _ _ _)))
    · exact HP.set_of (nadd (by decide)) (HP.set_of (nadd (by decide)) (HP.set_self _ _ _))
    · exact HP.set_of (nadd (by decide)) (HP.set_self _ _ _)
    · exact HP.set_self _ _ _
  obtain ⟨H, hHe, C0⟩ := hH
  rw [← hHe]
  clear hHe hcs
  show XS0 g (n + 5) env _ [] H _
  refine XS0_cons (EX0_TupAssign (ns := ["fixed", "turn"]) ?s1 ?_ ?s2 ?s3)
  case s1 => exact rfl
  case s2 => exact rfl
  case s3 => rw [swapped_of (fd := fd314) F rfl]; exact rfl
  refine EV0_Tuple (ES0_cons (EV0_List (ES0_cons (EV0_int ?_) ?s4)) ?s5)
  case s4 => exact rfl
  case s5 => exact rfl
  walk_at "gb"
  refine ⟨by simp, fun fl hfl => ?_⟩
  walk_at "gb"
  refine C_ F rfl rfl rfl (C0.sub (HP.sub_set hfl)).1 ?_
  walk_at "gb"
  refine c_sumB hB fun turn => ?_
  walk_at "gb"
  refine ⟨by simp, fun tt htt => (ex2 tt _ ⟨rfl, HP.set_self _ _ _, rfl, ?_⟩)⟩
  refine SN_cons (SC_ F rfl rfl (o := none) ?f1 (SN_cons (SL_ F rfl (SN_nil ?_))))
  case f1 => exact (C0.sub ((HP.sub_set hfl).new htt)).2
  have C1 := ((C0.sub (HP.sub_set hfl)).sub (HP.sub_set htt (X := .tuple [.ref fl, .int turn]))).set2 (v := .ref fl)
  have hfl1 : (((H.set fl (.list (intsA [74, 146, 13, 258, 309, 46, 112]))).set tt (.tuple [.ref fl, .int turn])).set (L + 2) (.cell (some (.ref fl)))) fl = some (.list (intsA [74, 146, 13, 258, 309, 46, 112])) :=
    keepc ((HP.sub_set htt) _ _ (HP.set_self _ _ _)) (C0.sub ((HP.sub_set hfl).new htt)).2
  revert C1 hfl1
  show LC _ _ _ _ _ _ _ (((H.set fl (.list (intsA [74, 146, 13, 258, 309, 46, 112]))).set tt (.tuple [.ref fl, .int turn])).set (L + 2) (.cell (some (.ref fl)))) → _ → XS _ _ _ _ _ (((H.set fl (.list (intsA [74, 146, 13, 258, 309, 46, 112]))).set tt (.tuple [.ref fl, .int turn])).set (L + 2) (.cell (some (.ref fl)))) _
  generalize ((H.set fl (.list (intsA [74, 146, 13, 258, 309, 46, 112]))).set tt (.tuple [.ref fl, .int turn])).set (L + 2) (.cell (some (.ref fl))) = H1
  intro C1 hfl1
  clear hfl htt C0
  -- numbers
  refine XS_cons (EX_Assign (EV_ListComp (cl := [("script", L + 1), ("fixed", L + 2)]) F ?c1 ?c2 ?c3 ?c4 ?c5 ?c6 ?_) ?s)
  case s => rw [swaps_of (fd := fd314) F rfl]; exact rfl
  case c1 => exact rfl
  case c2 => exact rfl
  case c3 => exact rfl
  case c4 => exact rfl
  case c5 => exact rfl
  case c6 => exact fun V => rfl
  walk_at "gb"
  refine c_range (k := 7) fun D hD => ?_
  refine ex3 _ _ _ ⟨Src.range (HP.set_self _ _ _) (by decide), by decide, fun j ys h => ∃ ms : List Int, ms.length = j ∧ ys = intsA ms ∧ H1.Sub h, ⟨[], rfl, rfl, (HP.sub_set hD).del hD⟩, ?_, ?_⟩
  · rintro j v ys h cenv hj ⟨ms, hms, rfl, hs⟩ FC hn
    have hj7 : j < 7 := by have := (List.getElem?_eq_some_iff.mp hj).1; simpa [rng] using this
    obtain rfl : v = .int (j : Int) := by simp [rng, hj7] at hj; exact hj.symm
    obtain ⟨f, hf⟩ : ∃ f, ([74, 146, 13, 258, 309, 46, 112] : List Int)[j]? = some f := ⟨_, List.getElem?_eq_getElem (by simpa using hj7)⟩
    refine WB.weak (Lsub.refl _) hs (TS_nil (iT ?_))
    walk_at "gb"
    refine EV_Sub PySem.F.slot_list_getitem.lookup ?_
    refine C_ FC rfl rfl rfl C1.2 ?_
    walk_at "gb"
    refine ⟨by simp [aty, AO.ty, hfl1], gi_list (x := .int f) hfl1 (by lia) (by decide) (by show (intsA _)[j]? = _; unfold intsA; rw [List.getElem?_map, hf]; rfl) ?_⟩
    walk_at "gb"
    refine EV_Sub_stepB ?_
    refine C_ FC rfl rfl rfl C1.1 ?_
    walk_at "gb"
    refine ⟨_, _, _, _, rfl, hB, rfl, rfl, rfl, by decide, fun D ms' hD hml => ?_⟩
    walk_at "gb"
    refine c_sum (HP.set_self _ _ _) ?_
    walk_at "gb"
    exact ⟨ms ++ [f + ms'.sum], by simp [hms], by simp [intsA], HP.sub_set hD⟩
  rintro ys h ⟨nums, hnums, rfl, hs⟩ nl hnl
  have hn7 : nums.length = 7 := hnums
  have M := M nums turn hn7
  refine SC_ F rfl rfl (o := none) ?f1 ?_
  case f1 => exact (C1.sub (hs.new hnl)).3
  have C2 := (C1.sub (hs.new hnl (X := .list (intsA nums)))).set3 (v := .ref nl)
  have hnl2 : ((h.set nl (.list (intsA nums))).set (L + 3) (.cell (some (.ref nl)))) nl = some (.list (intsA nums)) := keepc (HP.set_self _ _ _) (C1.sub (hs.new hnl)).3
  revert C2 hnl2
  show LC _ _ _ _ _ _ _ ((h.set nl (.list (intsA nums))).set (L + 3) (.cell (some (.ref nl)))) → _ → XS _ _ _ _ _ ((h.set nl (.list (intsA nums))).set (L + 3) (.cell (some (.ref nl)))) _
  generalize (h.set nl (.list (intsA nums))).set (L + 3) (.cell (some (.ref nl))) = H2
  intro C2 hnl2
  clear hs hnl hfl1 C1 hD H1 h
  -- empty
  refine XS_cons (EX_Assign ?_ ?s)
  case s => exact rfl
  walk_at "gb"
  refine EV_ListComp (cl := []) F ?c1 ?c2 ?c3 ?c4 ?c5 ?c6 ?_
  case c1 => exact rfl
  case c2 => exact rfl
  case c3 => exact rfl
  case c4 => exact rfl
  case c5 => exact rfl
  case c6 => exact fun V => rfl
  refine C_ F rfl rfl rfl C2.3 ?_
  refine ex3 _ _ _ ⟨Src.list hnl2, by simp [intsA]; lia, fun j ys h => ys = intsA ((nums.take j).map fun n => n.fmod 8) ∧ (H2.del nl).Sub h, ⟨rfl, HP.Sub.refl _⟩, ?_, ?_⟩
  · rintro j v ys h cenv hj ⟨rfl, hs⟩ FC hn
    obtain ⟨w, hw, rfl⟩ := ints_at hj
    refine WB.weak (Lsub.refl _) hs (TS_nil (iT ?_))
    walk_at "gb"
    refine bin_mod (by decide) ?_
    refine ⟨?_, HP.Sub.refl _⟩
    rw [List.take_add_one, hw]; simp [intsA]
  rintro ys h ⟨rfl, hs⟩ wl hwl
  have hs2 := delBack hs hnl2
  rw [ints_len, List.take_length]
  revert hwl hs2
  generalize h.set nl (.list (intsA nums)) = h2
  intro hwl hs2
  walk_at "gb"
  refine c_empty G (HP.set_self _ _ _) (by simp; lia) M.fr M.ne ?_
  have C2' := C2.sub (hs2.new hwl (X := .list (intsA (nums.map fun n => n.fmod 8))))
  have hnl' := (hs2.new hwl (X := .list (intsA (nums.map fun n => n.fmod 8)))) _ _ hnl2
  refine SC_ F rfl rfl C2'.4 ?_
  have C3 := C2'.set4 (v := .int (emptyOf (nums.map fun n => n.fmod 8)))
  have hnl3 := keepc (Y := .cell (some (.int (emptyOf (nums.map fun n => n.fmod 8))))) hnl' C2'.4
  revert C3 hnl3
  show LC _ _ _ _ _ _ _ ((h2.set wl (.list (intsA (nums.map fun n => n.fmod 8)))).set (L + 4) (.cell (some (.int (emptyOf (nums.map fun n => n.fmod 8)))))) → _ → XS _ _ _ _ _ ((h2.set wl (.list (intsA (nums.map fun n => n.fmod 8)))).set (L + 4) (.cell (some (.int (emptyOf (nums.map fun n => n.fmod 8)))))) _
  generalize (h2.set wl (.list (intsA (nums.map fun n => n.fmod 8)))).set (L + 4) (.cell (some (.int (emptyOf (nums.map fun n => n.fmod 8))))) = H3
  intro C3 hnl3
  clear C2 C2' hnl' hnl2 hs hs2 hwl h2 h H2
  -- moved
  refine XS_cons (EX_Assign_ListComp (cl := [("empty", L + 4)]) F ?c0 ?c1 ?c2 ?c3 ?c4 ?c5 ?c6 ?_)
  case c0 => rw [swaps_of (fd := fd314) F rfl]; exact rfl
  case c1 => exact rfl
  case c2 => exact rfl
  case c3 => exact rfl
  case c4 => exact rfl
  case c5 => exact rfl
  case c6 => exact fun V => rfl
  refine C_ F rfl rfl rfl C3.3 ?_
  refine ex3 _ _ _ ⟨Src.list hnl3, by simp [intsA]; lia, fun j ys h => ys = intsA ((nums.take j).map fun n => (n - emptyOf (nums.map fun n => n.fmod 8) - 1).fmod 8) ∧ (H3.del nl).Sub h, ⟨rfl, HP.Sub.refl _⟩, ?_, ?_⟩
  · rintro j v ys h cenv hj ⟨rfl, hs⟩ FC hn
    obtain ⟨w, hw, rfl⟩ := ints_at hj
    refine WB.weak (Lsub.refl _) hs (TS_nil (iT ?_))
    walk_at "gb"
    refine C_ FC rfl rfl rfl (C3.delL hnl3).4 ?_
    walk_at "gb"
    refine bin_mod (by decide) ?_
    refine ⟨?_, HP.Sub.refl _⟩
    rw [List.take_add_one, hw]; simp [intsA]
  rintro ys h ⟨rfl, hs⟩ ml hml
  have hs2 := delBack hs hnl3
  rw [ints_len, List.take_length]
  revert hml hs2
  generalize h.set nl (.list (intsA nums)) = h2
  intro hml hs2
  show ∀ v, (AV.ref ml).Is v → UN _ _ _ _ _ (h2.set ml (.list (intsA (movedOf nums)))) _
  refine SL_ F rfl ?_
  have C4 := C3.sub (hs2.new hml (X := .list (intsA (movedOf nums))))
  have hnl4 := (hs2.new hml (X := .list (intsA (movedOf nums)))) _ _ hnl3
  have hml4 : (h2.set ml (.list (intsA (movedOf nums)))) ml = some (.list (intsA (movedOf nums))) := HP.set_self _ _ _
  revert C4 hnl4 hml4
  generalize h2.set ml (.list (intsA (movedOf nums))) = H4
  intro C4 hnl4 hml4
  clear C3 hnl3 hs hs2 hml h2 h H3
  -- roads, row
  refine XS_cons (EX_TupAssign (ns := ["roads", "row"]) ?s1 ?_ ?s2 ?s3)
  case s1 => exact rfl
  case s2 => exact rfl
  case s3 => exact rfl
  walk_at "gb"
  refine bin_mod (by decide) ?_
  walk_at "gb"
  refine c_tree G hml4 M.tree fun rd rw t hrd hrw ht d1 d2 d3 => ?_
  refine ⟨t, _, rfl, HP.set_self _ _ _, rfl, ?_⟩
  have hsT : H4.Sub (((H4.set rd (.dict (treeOf nums turn).roads)).set rw (.list (strsA (treeOf nums turn).row))).set t (.tuple [.ref rd, .ref rw])) :=
    ((HP.sub_set hrd).new ((HP.set_ne (Ne.symm d1)).trans hrw)).new ((HP.set_ne (Ne.symm d3)).trans ((HP.set_ne (Ne.symm d2)).trans ht))
  have hrd5 : (((H4.set rd (.dict (treeOf nums turn).roads)).set rw (.list (strsA (treeOf nums turn).row))).set t (.tuple [.ref rd, .ref rw])) rd = some (.dict (treeOf nums turn).roads) := HP.set_of d2 (HP.set_of d1 (HP.set_self _ _ _))
  have hrw5 : (((H4.set rd (.dict (treeOf nums turn).roads)).set rw (.list (strsA (treeOf nums turn).row))).set t (.tuple [.ref rd, .ref rw])) rw = some (.list (strsA (treeOf nums turn).row)) := HP.set_of d3 (HP.set_self _ _ _)
  revert hsT hrd5 hrw5
  show _ → _ → _ → SN _ _ _ _ _ _ (((H4.set rd (.dict (treeOf nums turn).roads)).set rw (.list (strsA (treeOf nums turn).row))).set t (.tuple [.ref rd, .ref rw])) _
  generalize ((H4.set rd (.dict (treeOf nums turn).roads)).set rw (.list (strsA (treeOf nums turn).row))).set t (.tuple [.ref rd, .ref rw]) = H5
  intro hsT hrd5 hrw5
  have C5 := C4.sub hsT
  refine SN_cons (SC_ F rfl rfl C5.5 (SN_cons (SL_ F rfl (SN_nil ?_))))
  have C6 := C5.set5 (v := .ref rd)
  have hrd6 := keepc (Y := .cell (some (.ref rd))) hrd5 C5.5
  have hrw6 := keepc (Y := .cell (some (.ref rd))) hrw5 C5.5
  have hnl6 := keepc (Y := .cell (some (.ref rd))) (hsT _ _ hnl4) C5.5
  have hml6 := keepc (Y := .cell (some (.ref rd))) (hsT _ _ hml4) C5.5
  revert C6 hrd6 hrw6 hnl6 hml6
  show LC _ _ _ _ _ _ _ (H5.set (L + 5) (.cell (some (.ref rd)))) → _ → _ → _ → _ → XS _ _ _ _ _ (H5.set (L + 5) (.cell (some (.ref rd)))) _
  generalize H5.set (L + 5) (.cell (some (.ref rd))) = H6
  intro C6 hrd6 hrw6 hnl6 hml6
  clear C5 hrd5 hrw5 hsT hrd hrw ht d1 d2 d3 C4 hnl4 hml4 H4 H5
  -- first
  walk_at "gb"
  refine bin_div (by decide) (noPyS turn 4 (.inl rfl)) ?_
  walk_at "gb"
  refine bin_mod (by decide) ?_
  refine SC_ F rfl rfl C6.6 ?_
  have C7 := C6.set6 (v := .int ((turn.fdiv 4).fmod 7))
  have hrd7 := keepc (Y := .cell (some (.int ((turn.fdiv 4).fmod 7)))) hrd6 C6.6
  have hrw7 := keepc (Y := .cell (some (.int ((turn.fdiv 4).fmod 7)))) hrw6 C6.6
  have hnl7 := keepc (Y := .cell (some (.int ((turn.fdiv 4).fmod 7)))) hnl6 C6.6
  have hml7 := keepc (Y := .cell (some (.int ((turn.fdiv 4).fmod 7)))) hml6 C6.6
  revert C7 hrd7 hrw7 hnl7 hml7
  show LC _ _ _ _ _ _ _ (H6.set (L + 6) (.cell (some (.int ((turn.fdiv 4).fmod 7))))) → _ → _ → _ → _ → XS _ _ _ _ _ (H6.set (L + 6) (.cell (some (.int ((turn.fdiv 4).fmod 7))))) _
  generalize H6.set (L + 6) (.cell (some (.int ((turn.fdiv 4).fmod 7)))) = H7
  intro C7 hrd7 hrw7 hnl7 hml7
  clear C6 hrd6 hrw6 hnl6 hml6 H6
  -- order
  refine XS_cons (EX_Assign_ListComp (cl := [("first", L + 6)]) F ?c0 ?c1 ?c2 ?c3 ?c4 ?c5 ?c6 ?_)
  case c0 => rw [swaps_of (fd := fd314) F rfl]; exact rfl
  case c1 => exact rfl
  case c2 => exact rfl
  case c3 => exact rfl
  case c4 => exact rfl
  case c5 => exact rfl
  case c6 => exact fun V => rfl
  walk_at "gb"
  refine c_range (k := 7) fun D hD => ?_
  refine ex3 _ _ _ ⟨Src.range (HP.set_self _ _ _) (by decide), by decide, fun j ys h => ys = intsA (((orderOf turn).take j).map fun (k : Nat) => (k : Int)) ∧ H7.Sub h, ⟨rfl, (HP.sub_set hD).del hD⟩, ?_, ?_⟩
  · rintro j v ys h cenv hj ⟨rfl, hs⟩ FC hn
    have hj7 : j < 7 := by have := (List.getElem?_eq_some_iff.mp hj).1; simpa [rng] using this
    obtain rfl : v = .int (j : Int) := by simp [rng, hj7] at hj; exact hj.symm
    refine WB.weak (Lsub.refl _) hs (TS_nil (iT ?_))
    walk_at "gb"
    refine C_ FC rfl rfl rfl C7.6 ?_
    walk_at "gb"
    refine bin_mod (by decide) ?_
    refine ⟨?_, HP.Sub.refl _⟩
    have : (orderOf turn)[j]? = some (((turn.fdiv 4).fmod 7 + (j : Int)).fmod 7).toNat := by
      unfold orderOf; rw [List.getElem?_map, List.getElem?_range hj7]; rfl
    rw [List.take_add_one, this]
    have h0 := Int.fmod_nonneg_of_pos ((turn.fdiv 4).fmod 7 + (j : Int)) (b := 7) (by decide)
    simp only [Option.toList, List.map_append, List.map_cons, List.map_nil, intsA]; rw [Int.toNat_of_nonneg h0]
  rintro ys h ⟨rfl, hs⟩ ol hol
  have ho7 : (orderOf turn).length = 7 := by simp [orderOf]
  have hrl : (rng 7).length = (orderOf turn).length := by rw [ho7]; rfl
  rw [hrl, List.take_length]
  refine SL_ F rfl ?_
  have olnl : nl ≠ ol := by rintro rfl; rw [hs _ _ hnl7] at hol; cases hol
  have hs8 : H7.Sub (h.set ol (.list (intsA ((orderOf turn).map fun (k : Nat) => (k : Int))))) := hs.new hol
  have C8 := C7.sub hs8
  have hrd8 := hs8 _ _ hrd7
  have hrw8 := hs8 _ _ hrw7
  have hnl8 := hs8 _ _ hnl7
  have hml8 := hs8 _ _ hml7
  have hol8 : (h.set ol (.list (intsA ((orderOf turn).map fun (k : Nat) => (k : Int))))) ol = some (.list (intsA ((orderOf turn).map fun (k : Nat) => (k : Int)))) := HP.set_self _ _ _
  revert C8 hrd8 hrw8 hnl8 hml8 hol8
  show LC _ _ _ _ _ _ _ (h.set ol (.list (intsA ((orderOf turn).map fun (k : Nat) => (k : Int))))) → _ → _ → _ → _ → _ → XS _ _ _ _ _ (h.set ol (.list (intsA ((orderOf turn).map fun (k : Nat) => (k : Int))))) _
  generalize h.set ol (.list (intsA ((orderOf turn).map fun (k : Nat) => (k : Int)))) = H8
  intro C8 hrd8 hrw8 hnl8 hml8 hol8
  clear hs8 hs C7 hrd7 hrw7 hnl7 hml7 hol hD H7 h
  -- texts
  refine XS_cons (EX_Assign_ListComp (cl := [("roads", L + 5), ("numbers", L + 3)]) F ?c0 ?c1 ?c2 ?c3 ?c4 ?c5 ?c6 ?_)
  case c0 => rw [swaps_of (fd := fd314) F rfl]; exact rfl
  case c1 => exact rfl
  case c2 => exact rfl
  case c3 => exact rfl
  case c4 => exact rfl
  case c5 => exact rfl
  case c6 => exact fun V => rfl
  walk_at "gb"
  refine ex3 _ _ _ ⟨Src.list hol8, by simp [intsA]; lia, fun j ys h => ys = strsA (((orderOf turn).take j).map (textOf nums turn)) ∧ (H8.del ol).Sub h, ⟨rfl, HP.Sub.refl _⟩, ?_, ?_⟩
  · rintro j v ys h cenv hj ⟨rfl, hs⟩ FC hn
    obtain ⟨w, hw, rfl⟩ := ints_at hj
    rw [List.getElem?_map, Option.map_eq_some_iff] at hw
    obtain ⟨k, hk, rfl⟩ := hw
    have hk7 : k < 7 := by
      have := List.mem_of_getElem? hk
      unfold orderOf at this
      obtain ⟨i, _, rfl⟩ := List.mem_map.mp this
      have h1 := Int.fmod_lt_of_pos ((turn.fdiv 4).fmod 7 + (i : Int)) (b := 7) (by decide)
      have h0 := Int.fmod_nonneg_of_pos ((turn.fdiv 4).fmod 7 + (i : Int)) (b := 7) (by decide)
      lia
    refine withGoal fun goalX goalBack => ?_
    obtain ⟨x, hx, hxl, hxr⟩ := M.road k hk7
    refine goalBack ?_
    clear goalBack goalX
    have olrd : rd ≠ ol := by rintro rfl; rw [hrd8] at hol8; cases hol8
    have C9 := (C8.delL hol8)
    have hnl9 := (HP.del_ne olnl).trans hnl8
    have hrd9 := (HP.del_ne olrd).trans hrd8
    refine WB.weak (Lsub.refl _) hs (TS_nil (iT ?_))
    walk_at "gb"
    refine EV_Sub PySem.slot_dict_getitem.lookup ?_
    refine C_ FC rfl rfl rfl C9.5 ?_
    refine EV_Sub PySem.F.slot_list_getitem.lookup ?_
    walk_at "gb"
    refine c_names G fun N hN => ?_
    walk_at "gb"
    have hkn : (strsA lawNames)[((k : Int)).toNat]? = some (.str (lawNames.getD k "")) := by
      have : k < lawNames.length := hk7
      simp [strsA, this]
    refine ⟨by simp [aty, AO.ty], gi_list (HP.set_self _ _ _) (by lia) (by decide) hkn ?_⟩
    have hrdN := (HP.sub_set hN (X := .list (strsA lawNames))) _ _ hrd9
    refine ⟨by simp [aty, AO.ty, hrdN], gi_dict hrdN hx ?_⟩
    refine WB.weak (Lsub.refl _) (HP.sub_set hN) ?_
    walk_at "gb"
    refine EV_Sub PySem.F.slot_list_getitem.lookup ?_
    refine C_ FC rfl rfl rfl C9.3 ?_
    walk_at "gb"
    have hkm : (intsA nums)[((k : Int)).toNat]? = some (.int (nums.getD k 0)) := by
      have : k < nums.length := by lia
      simp [intsA, this]
    refine ⟨by simp [aty, AO.ty, hnl9], gi_list hnl9 (by lia) (by simp [intsA]; lia) hkm ?_⟩
    walk_at "gb"
    refine bin_div (by decide) (PyProof.noPylong_of_log2 (by decide +kernel)) ?_
    walk_at "gb"
    refine c_spelled G hxl hxr ?_
    refine ⟨?_, HP.Sub.refl _⟩
    have hr : roadOf (treeOf nums turn).roads (lawNames.getD k "") = x := by unfold roadOf; rw [hx]
    rw [List.take_add_one, hk, List.map_append]
    simp only [Option.toList, List.map_cons, List.map_nil, strsA, List.map_append]
    unfold textOf; rw [hr]
  rintro ys h ⟨rfl, hs⟩ tl htl
  have hs9 := delBack hs hol8
  rw [ints_len, List.length_map, List.take_length]
  revert htl hs9
  generalize h.set ol (.list (intsA ((orderOf turn).map fun (k : Nat) => (k : Int)))) = h9
  intro htl hs9
  refine SL_ F rfl ?_
  show XS _ _ _ _ _ (h9.set tl (.list (strsA (textsOf nums turn)))) _
  have hs10 : H8.Sub (h9.set tl (.list (strsA (textsOf nums turn)))) := hs9.new htl
  have hrw10 := hs10 _ _ hrw8
  have hml10 := hs10 _ _ hml8
  have htl10 : (h9.set tl (.list (strsA (textsOf nums turn)))) tl = some (.list (strsA (textsOf nums turn))) := HP.set_self _ _ _
  revert hrw10 hml10 htl10
  generalize h9.set tl (.list (strsA (textsOf nums turn))) = H10
  intro hrw10 hml10 htl10
  clear hs10 hs9 htl hs C8 hrd8 hrw8 hnl8 hml8 hol8 h9 h H8
  walk_at "gb"
  refine bin_mod (by decide) ?_
  walk_at "gb"
  intro vs hvs
  refine WB.lift (c_wishes G htl10 hrw10 M.wish (fun bk h11 hbk hs11 => ?_) vs hvs)
  walk_at "gb"
  refine cmp_eq_ints (hs11 _ _ (HP.set_self _ _ _)) (hs11 _ _ ((HP.sub_set hbk) _ _ hml10)) ?_
  rw [decide_eq_true (rfl : movedOf nums = movedOf nums)]
  walk_at "gb"
  refine c_words G (hs11 _ _ (HP.set_self _ _ _)) (by simp [movedOf]; lia) M.words ?_
  rfl
end
end Mine
end
section
open PySem PySem.W PySem.Calls PyProof.Rows
namespace Mine
noncomputable abbrev cl (x : PySem.Str) : List Nat := x.cps.toList
theorem str_ext {a b : PySem.Str} (h : cl a = cl b) : a = b := Str.ext' (Array.toList_inj.mp h)
theorem cl_append (a b : PySem.Str) : cl (a ++ b) = cl a ++ cl b := by unfold cl; rw [Str.cps_append, Array.toList_append]
theorem cl_len (a : PySem.Str) : (cl a).length = a.length := by unfold cl Str.length; simp
theorem slash_eq : ("/" : PySem.Str) = ⟨#[47]⟩ := by decide +kernel
theorem cl_slash : cl "/" = [47] := by rw [slash_eq]
/-- no slash inside -/
noncomputable def SF (p : PySem.Str) : Prop := 47 ∉ cl p
theorem cut_unique {a b u v : List Nat} (ha : 47 ∉ a) (hb : 47 ∉ b) (h : a ++ 47 :: u = b ++ 47 :: v) : a = b ∧ u = v := by
  induction a generalizing b with
  | nil =>
    cases b with
    | nil => simp at h; exact ⟨rfl, h⟩
    | cons y b => simp at h; exact absurd h.1 (fun e => hb (by rw [← e]; exact List.mem_cons_self))
  | cons x a ih =>
    cases b with
    | nil => simp at h; exact absurd h.1 (fun e => ha (by rw [e]; exact List.mem_cons_self))
    | cons y b =>
      simp only [List.cons_append, List.cons.injEq] at h
      obtain ⟨e1, e2⟩ := ih (fun m => ha (List.mem_cons_of_mem _ m)) (fun m => hb (List.mem_cons_of_mem _ m)) h.2
      exact ⟨by rw [h.1, e1], e2⟩
theorem cl_join_cons (x y : PySem.Str) (r : List PySem.Str) : cl (Str.join "/" (x :: y :: r)) = cl x ++ 47 :: cl (Str.join "/" (y :: r)) := by
  show cl (x ++ "/" ++ Str.join "/" (y :: r)) = _
  rw [cl_append, cl_append, cl_slash]; simp
theorem join_inj : ∀ (ps qs : List PySem.Str), ps ≠ [] → qs ≠ [] → (∀ p ∈ ps, SF p) → (∀ p ∈ qs, SF p) → Str.join "/" ps = Str.join "/" qs → ps = qs
  | [], _, h, _, _, _, _ => absurd rfl h
  | _ :: _, [], _, h, _, _, _ => absurd rfl h
  | [x], [y], _, _, _, _, e => by have : x = y := e; rw [this]
  | [x], y :: z :: r, _, _, hx, hy, e => by
    exfalso
    have e' : cl x = cl y ++ 47 :: cl (Str.join "/" (z :: r)) := by rw [← cl_join_cons]; exact congrArg cl e
    exact hx x List.mem_cons_self (by rw [e']; simp)
  | y :: z :: r, [x], _, _, hy, hx, e => by
    exfalso
    have e' : cl x = cl y ++ 47 :: cl (Str.join "/" (z :: r)) := by rw [← cl_join_cons]; exact (congrArg cl e).symm
    exact hx x List.mem_cons_self (by rw [e']; simp)
  | x :: x2 :: r, y :: y2 :: s, _, _, hx, hy, e => by
    have e' : cl x ++ 47 :: cl (Str.join "/" (x2 :: r)) = cl y ++ 47 :: cl (Str.join "/" (y2 :: s)) := by rw [← cl_join_cons, ← cl_join_cons]; exact congrArg cl e
    obtain ⟨e1, e2⟩ := cut_unique (hx x List.mem_cons_self) (hy y List.mem_cons_self) e'
    rw [str_ext e1, join_inj (x2 :: r) (y2 :: s) (by simp) (by simp) (fun p hp => hx p (List.mem_cons_of_mem _ hp)) (fun p hp => hy p (List.mem_cons_of_mem _ hp)) (str_ext e2)]
theorem split_ne (x : PySem.Str) : Txt.split x "/" ≠ [] := by
  unfold Txt.split
  split
  · simp
  · split
    · simp
    · rw [StrLaws.partsBetween_eq]
      obtain ⟨p, r, e⟩ := StrLaws.partsFrom_ne x ("/" : PySem.Str).length 0 (Builtin.Str.occurrences x "/" 0 x.length (x.length + 1))
      rw [e]; simp
theorem split_join {ps : List PySem.Str} (h0 : ps ≠ []) (h : ∀ p ∈ ps, SF p) : Txt.split (Str.join "/" ps) "/" = ps := by
  refine join_inj _ _ (split_ne _) h0 (fun p hp => ?_) h (StrLaws.join_split _ _)
  have := StrLaws.split_free (Str.join "/" ps) 47 p
  rw [slash_eq] at *
  exact this hp
theorem replace_join {ps : List PySem.Str} (z : PySem.Str) (h0 : ps ≠ []) (h : ∀ p ∈ ps, SF p) : Txt.replace (Str.join "/" ps) "/" z = Str.join z ps := by
  have := StrLaws.replace_one (Str.join "/" ps) z 47
  rw [← slash_eq, split_join h0 h] at this
  exact this
end Mine
end
section
open PySem PySem.W PySem.Calls PyProof.Rows
namespace Mine
theorem slice_from (x : PySem.Str) {i : Nat} (h : i ≤ x.length) : cl (Txt.slice x (some (i : Int)) none) = (cl x).drop i := by
  have := StrLaws.sliceText_from (x := x) (i := (i : Int)) ⟨by lia, by rw [show x.cps.toList.length = x.length from cl_len x]; lia⟩
  show cl (StrLaws.sliceText x (some (i : Int)) none) = _
  rw [this]
  simp only [cl, Int.toNat_natCast]
  rw [List.take_of_length_le (by simp)]
theorem slice_to (x : PySem.Str) {j : Nat} (h : j ≤ x.length) : cl (Txt.slice x none (some (j : Int))) = (cl x).take j := by
  have := StrLaws.sliceText_to (x := x) (j := (j : Int)) ⟨by lia, by rw [show x.cps.toList.length = x.length from cl_len x]; lia⟩
  show cl (StrLaws.sliceText x none (some (j : Int))) = _
  rw [this]
  simp [cl]
theorem slice_mid (x : PySem.Str) {i j : Nat} (hij : i ≤ j) (h : j ≤ x.length) : cl (Txt.slice x (some (i : Int)) (some (j : Int))) = ((cl x).drop i).take (j - i) := by
  have := StrLaws.sliceText_plain (x := x) (i := (i : Int)) (j := (j : Int)) ⟨by lia, by lia, by rw [show x.cps.toList.length = x.length from cl_len x]; lia⟩
  show cl (StrLaws.sliceText x (some (i : Int)) (some (j : Int))) = _
  rw [this]
  simp only [cl, Int.toNat_natCast]
  congr 1
  lia
noncomputable def render (P : List PySem.Str) : PySem.Str := "/" ++ Str.join "/" P
theorem slice1 (y : PySem.Str) : Txt.slice ("/" ++ y) (some 1) none = y := by
  refine str_ext ?_
  have := slice_from ("/" ++ y) (i := 1) (by rw [Str.length_append]; have : ("/" : PySem.Str).length = 1 := by decide
                                             lia)
  rw [show ((1 : Nat) : Int) = 1 from rfl] at this
  rw [this, cl_append, cl_slash]; rfl
/-- a name -/
structure Nm (p : PySem.Str) : Prop where
  sf : SF p
  ne : p.length ≠ 0
  n1 : (p == ".") = false
  n2 : (p != "..") = true
  z : p.length ≤ 3
  lo : ∀ c ∈ cl p, 65 ≤ c ∧ c ≤ 90
theorem nm_of : ∀ p ∈ lawNames, Nm p := by
  intro p hp
  have : ∀ p ∈ lawNames, 47 ∉ cl p ∧ p.length ≠ 0 ∧ (p == ".") = false ∧ (p != "..") = true ∧ p.length ≤ 3 ∧ ∀ c ∈ cl p, 65 ≤ c ∧ c ≤ 90 := by decide +kernel
  obtain ⟨a, b, c, d, e, f⟩ := this p hp
  exact ⟨a, b, c, d, e, f⟩
/-- the parts between two names -/
noncomputable def inter (mid : List PySem.Str) : List PySem.Str → List PySem.Str
  | [] => []
  | [x] => [x]
  | x :: r => x :: (mid ++ inter mid r)
theorem join_cons_ne (s x : PySem.Str) {r : List PySem.Str} (h : r ≠ []) : Str.join s (x :: r) = x ++ s ++ Str.join s r := by
  cases r with
  | nil => exact absurd rfl h
  | cons y r => rfl
theorem inter_ne {mid P : List PySem.Str} (h : P ≠ []) : inter mid P ≠ [] := by
  cases P with
  | nil => exact absurd rfl h
  | cons x r => cases r <;> simp [inter]
theorem join_app {a b : List PySem.Str} (ha : a ≠ []) (hb : b ≠ []) : Str.join "/" (a ++ b) = Str.join "/" a ++ "/" ++ Str.join "/" b := by
  induction a with
  | nil => exact absurd rfl ha
  | cons x a ih =>
    cases a with
    | nil => exact join_cons_ne _ _ hb
    | cons y a =>
      rw [List.cons_append, join_cons_ne _ _ (by simp), ih (by simp), join_cons_ne _ _ (by simp : y :: a ≠ [])]
      simp only [Str.append_assoc]
theorem join_inter {s : PySem.Str} {mid : List PySem.Str} (h : s = if mid = [] then ("/" : PySem.Str) else ("/" : PySem.Str) ++ Str.join "/" mid ++ ("/" : PySem.Str)) : ∀ (P : List PySem.Str), Str.join s P = Str.join "/" (inter mid P)
  | [] => rfl
  | [x] => rfl
  | x :: y :: r => by
    rw [join_cons_ne _ _ (by simp), join_inter h (y :: r)]
    show _ = Str.join "/" (x :: (mid ++ inter mid (y :: r)))
    have hne := inter_ne (mid := mid) (P := y :: r) (by simp)
    rw [join_cons_ne _ _ (by simp [hne]), h]
    by_cases hm : mid = []
    · subst hm; simp
    · rw [if_neg hm, join_app hm hne]
      simp only [Str.append_assoc]

/-- a spelled text, in parts -/
noncomputable def midOf (q : Int) : List PySem.Str := ([[], [""], ["."], ["Q", ".."]] : List (List PySem.Str)).getD (q.fmod 4).toNat []
noncomputable def fplOf (q : Int) : List PySem.Str := ([[], ["", ""], [".."], ["."]] : List (List PySem.Str)).getD ((q.fdiv 4).fmod 4).toNat []
noncomputable def tplOf (q : Int) : List PySem.Str := ([[], [""], ["", "."], ["Q", ".."]] : List (List PySem.Str)).getD ((q.fdiv 16).fmod 4).toNat []
noncomputable def partsOf (P : List PySem.Str) (q : Int) : List PySem.Str := fplOf q ++ inter (midOf q) P ++ tplOf q
theorem slashOf_eq (q : Int) : slashOf q = if midOf q = [] then ("/" : PySem.Str) else ("/" : PySem.Str) ++ Str.join "/" (midOf q) ++ ("/" : PySem.Str) := by
  obtain ⟨j, hj, e⟩ := fmod4 q
  unfold slashOf midOf
  rw [e]
  have : j = 0 ∨ j = 1 ∨ j = 2 ∨ j = 3 := by lia
  rcases this with rfl | rfl | rfl | rfl <;> decide +kernel
theorem frontOf_eq (q : Int) (B : List PySem.Str) (hB : B ≠ []) : frontOf q ++ Str.join "/" B = "/" ++ Str.join "/" (fplOf q ++ B) := by
  obtain ⟨j, hj, e⟩ := fmod4 (q.fdiv 4)
  unfold frontOf fplOf
  rw [e]
  have : j = 0 ∨ j = 1 ∨ j = 2 ∨ j = 3 := by lia
  rcases this with rfl | rfl | rfl | rfl
  · rfl
  · show ("///" : PySem.Str) ++ _ = "/" ++ Str.join "/" ((["", ""] : List PySem.Str) ++ B)
    rw [join_app (by simp) hB, ← Str.append_assoc, ← Str.append_assoc]
    congr 1
  · show ("/../" : PySem.Str) ++ _ = "/" ++ Str.join "/" (([".."] : List PySem.Str) ++ B)
    rw [join_app (by simp) hB, ← Str.append_assoc, ← Str.append_assoc]
    congr 1
  · show ("/./" : PySem.Str) ++ _ = "/" ++ Str.join "/" ((["."] : List PySem.Str) ++ B)
    rw [join_app (by simp) hB, ← Str.append_assoc, ← Str.append_assoc]
    congr 1
theorem tailOf_eq (q : Int) (B : List PySem.Str) (hB : B ≠ []) : Str.join "/" B ++ tailOf q = Str.join "/" (B ++ tplOf q) := by
  obtain ⟨j, hj, e⟩ := fmod4 (q.fdiv 16)
  unfold tailOf tplOf
  rw [e]
  have : j = 0 ∨ j = 1 ∨ j = 2 ∨ j = 3 := by lia
  rcases this with rfl | rfl | rfl | rfl
  · show _ ++ ("" : PySem.Str) = Str.join "/" (B ++ [])
    rw [List.append_nil]; exact Str.append_empty _
  · show _ ++ ("/" : PySem.Str) = Str.join "/" (B ++ ([""] : List PySem.Str))
    rw [join_app hB (by simp), Str.append_assoc]
    congr 1
  · show _ ++ ("//." : PySem.Str) = Str.join "/" (B ++ (["", "."] : List PySem.Str))
    rw [join_app hB (by simp), Str.append_assoc]
    congr 1
  · show _ ++ ("/Q/.." : PySem.Str) = Str.join "/" (B ++ (["Q", ".."] : List PySem.Str))
    rw [join_app hB (by simp), Str.append_assoc]
    congr 1
theorem spelled_eq {P : List PySem.Str} (h0 : P ≠ []) (h : ∀ p ∈ P, Nm p) (q : Int) : spelled (render P) q = "/" ++ Str.join "/" (partsOf P q) := by
  unfold spelled render partsOf
  rw [slice1, replace_join _ h0 fun p hp => (h p hp).sf, join_inter (slashOf_eq q), Str.append_assoc, tailOf_eq _ _ (inter_ne h0), frontOf_eq _ _ (by simp [inter_ne h0]), List.append_assoc]
end Mine
end
section
open PySem PySem.W PySem.Calls PyProof.Rows
namespace Mine
theorem str_ne_slash {x : PySem.Str} (h : cl x ≠ [47]) : (x != "/") = true := by
  rw [bne_iff_ne]; rintro rfl; exact h cl_slash
theorem str_is_slash {x : PySem.Str} (h : cl x = [47]) : x = "/" := str_ext (h.trans cl_slash.symm)
noncomputable def Opens (y : PySem.Str) : Prop := (∃ c t, cl y = c :: t ∧ c ≠ 47) ∨ (∃ t, cl y = 47 :: 47 :: t)
theorem sr_of {y : PySem.Str} (h : Opens y) : srR ("/" ++ y) = "/" ∧ srP ("/" ++ y) = y := by
  have hc : cl ("/" ++ y) = 47 :: cl y := by rw [cl_append, cl_slash]; rfl
  have hl : ("/" ++ y : PySem.Str).length = 1 + (cl y).length := by rw [← cl_len, hc]; simp; lia
  have hpos : 1 ≤ (cl y).length := by rcases h with ⟨c, t, e, _⟩ | ⟨t, e⟩ <;> rw [e] <;> simp
  have e1 : Txt.slice ("/" ++ y) none (some 1) = "/" := str_is_slash (by
    have := slice_to ("/" ++ y) (j := 1) (by lia)
    rw [show ((1 : Nat) : Int) = 1 from rfl] at this
    rw [this, hc]; rfl)
  have e2 : cl (Txt.slice ("/" ++ y) (some 1) (some 2)) = (cl y).take 1 := by
    have := slice_mid ("/" ++ y) (i := 1) (j := 2) (by lia) (by lia)
    rw [show ((1 : Nat) : Int) = 1 from rfl, show ((2 : Nat) : Int) = 2 from rfl] at this
    rw [this, hc]; rfl
  have n1 : (Txt.slice ("/" ++ y) none (some 1) != "/") = false := by rw [e1]; decide +kernel
  unfold srR srP
  rw [n1]
  rcases h with ⟨c, t, e, hne⟩ | ⟨t, e⟩
  · have n2 : (Txt.slice ("/" ++ y) (some 1) (some 2) != "/") = true := str_ne_slash (by rw [e2, e]; simp [hne])
    rw [n2]
    simp only [Bool.false_eq_true, if_false, if_true]
    exact ⟨trivial, slice1 y⟩
  · have n2 : (Txt.slice ("/" ++ y) (some 1) (some 2) != "/") = false := by
      rw [str_is_slash (x := Txt.slice ("/" ++ y) (some 1) (some 2)) (by rw [e2, e]; rfl)]; decide +kernel
    have n3 : (Txt.slice ("/" ++ y) (some 2) (some 3) == "/") = true := by
      have := slice_mid ("/" ++ y) (i := 2) (j := 3) (by lia) (by rw [e] at hl; simp at hl; lia)
      rw [show ((2 : Nat) : Int) = 2 from rfl, show ((3 : Nat) : Int) = 3 from rfl] at this
      rw [str_is_slash (x := Txt.slice ("/" ++ y) (some 2) (some 3)) (by rw [this, hc, e]; rfl)]; decide +kernel
    rw [n2, n3]
    simp only [Bool.false_eq_true, if_false, if_true]
    exact ⟨trivial, slice1 y⟩
theorem opens_parts {P : List PySem.Str} (h0 : P ≠ []) (h : ∀ p ∈ P, Nm p) (q : Int) : Opens (Str.join "/" (partsOf P q)) := by
  obtain ⟨p, r, rfl⟩ : ∃ p r, P = p :: r := by cases P with | nil => exact absurd rfl h0 | cons p r => exact ⟨p, r, rfl⟩
  obtain ⟨c, t, hp⟩ : ∃ c t, cl p = c :: t := by
    have := (h p List.mem_cons_self).ne
    rw [← cl_len] at this
    cases e : cl p with
    | nil => rw [e] at this; simp at this
    | cons c t => exact ⟨c, t, rfl⟩
  have hc := (h p List.mem_cons_self).lo c (by rw [hp]; exact List.mem_cons_self)
  have hin : ∃ r', inter (midOf q) (p :: r) = p :: r' := by cases r <;> exact ⟨_, rfl⟩
  obtain ⟨r', hin⟩ := hin
  obtain ⟨j, hj, e⟩ := fmod4 (q.fdiv 4)
  unfold partsOf fplOf
  rw [e, hin]
  have : j = 0 ∨ j = 1 ∨ j = 2 ∨ j = 3 := by lia
  have ap : ∀ (x : PySem.Str) (l : List PySem.Str), l ≠ [] → cl (Str.join "/" (x :: l)) = cl x ++ 47 :: cl (Str.join "/" l) := fun x l hl => by
    cases l with
    | nil => exact absurd rfl hl
    | cons y l => exact cl_join_cons x y l
  rcases this with rfl | rfl | rfl | rfl
  · show Opens (Str.join "/" (p :: (r' ++ tplOf q)))
    refine .inl ⟨c, ?_⟩
    cases e2 : r' ++ tplOf q with
    | nil => exact ⟨t, hp, by lia⟩
    | cons y l => exact ⟨t ++ 47 :: cl (Str.join "/" (y :: l)), by rw [cl_join_cons, hp]; rfl, by lia⟩
  · show Opens (Str.join "/" ("" :: "" :: p :: (r' ++ tplOf q)))
    refine .inr ⟨cl (Str.join "/" (p :: (r' ++ tplOf q))), ?_⟩
    rw [ap _ _ (by simp), ap _ _ (by simp)]; rfl
  · show Opens (Str.join "/" (".." :: p :: (r' ++ tplOf q)))
    refine .inl ⟨46, 46 :: 47 :: cl (Str.join "/" (p :: (r' ++ tplOf q))), ?_, by decide⟩
    rw [ap _ _ (by simp)]; rfl
  · show Opens (Str.join "/" ("." :: p :: (r' ++ tplOf q)))
    refine .inl ⟨46, 47 :: cl (Str.join "/" (p :: (r' ++ tplOf q))), ?_, by decide⟩
    rw [ap _ _ (by simp)]; rfl
/-- a part of a text -/
noncomputable def Part (p : PySem.Str) : Prop := SF p ∧ p.length ≤ 3
theorem const_part {l : List PySem.Str} (h : (l.all fun p => decide (47 ∉ cl p) && decide (p.length ≤ 3)) = true) : ∀ p ∈ l, Part p := fun p hp => by
  have := List.all_eq_true.mp h p hp
  simp only [Bool.and_eq_true, decide_eq_true_eq] at this
  exact this
theorem mid_part (q : Int) : ∀ p ∈ midOf q, Part p := by
  obtain ⟨j, hj, e⟩ := fmod4 q
  unfold midOf; rw [e]
  have : j = 0 ∨ j = 1 ∨ j = 2 ∨ j = 3 := by lia
  rcases this with rfl | rfl | rfl | rfl <;> exact const_part (by decide +kernel)
theorem fpl_part (q : Int) : ∀ p ∈ fplOf q, Part p := by
  obtain ⟨j, hj, e⟩ := fmod4 (q.fdiv 4)
  unfold fplOf; rw [e]
  have : j = 0 ∨ j = 1 ∨ j = 2 ∨ j = 3 := by lia
  rcases this with rfl | rfl | rfl | rfl <;> exact const_part (by decide +kernel)
theorem tpl_part (q : Int) : ∀ p ∈ tplOf q, Part p := by
  obtain ⟨j, hj, e⟩ := fmod4 (q.fdiv 16)
  unfold tplOf; rw [e]
  have : j = 0 ∨ j = 1 ∨ j = 2 ∨ j = 3 := by lia
  rcases this with rfl | rfl | rfl | rfl <;> exact const_part (by decide +kernel)
theorem inter_part {mid : List PySem.Str} (hm : ∀ p ∈ mid, Part p) : ∀ {P : List PySem.Str}, (∀ p ∈ P, Nm p) → ∀ p ∈ inter mid P, Part p
  | [], _, p, hp => by cases hp
  | [x], h, p, hp => by
    have : p = x := by simpa [inter] using hp
    subst this; exact ⟨(h p (by simp)).sf, (h p (by simp)).z⟩
  | x :: y :: r, h, p, hp => by
    have hp' : p = x ∨ p ∈ mid ∨ p ∈ inter mid (y :: r) := by
      have : p ∈ x :: (mid ++ inter mid (y :: r)) := hp
      simpa using this
    rcases hp' with rfl | hp' | hp'
    · exact ⟨(h p (by simp)).sf, (h p (by simp)).z⟩
    · exact hm p hp'
    · exact inter_part hm (fun p hp => h p (List.mem_cons_of_mem _ hp)) p hp'
theorem parts_part {P : List PySem.Str} (h : ∀ p ∈ P, Nm p) (q : Int) : ∀ p ∈ partsOf P q, Part p := by
  intro p hp
  unfold partsOf at hp
  simp only [List.mem_append] at hp
  rcases hp with (hp | hp) | hp
  · exact fpl_part q p hp
  · exact inter_part (mid_part q) h p hp
  · exact tpl_part q p hp
/-- the walk over the parts -/
theorem np_name (new : List PySem.Str) {p : PySem.Str} (h : Nm p) : npStep "/" new p = new ++ [p] := by
  unfold npStep
  have h1 : ((p.length : Int) != 0) = true := by have := h.ne; simp; lia
  rw [if_neg (by simp [h1, h.n1]), if_pos (.inl h.n2)]
theorem np_skip (new : List PySem.Str) : npStep "/" new "" = new ∧ npStep "/" new "." = new := by
  unfold npStep
  refine ⟨if_pos (.inl (by decide +kernel)), if_pos (.inr (by decide +kernel))⟩
theorem np_Q (new : List PySem.Str) : npStep "/" (npStep "/" new "Q") ".." = new := by
  have a : npStep "/" new "Q" = new ++ [("Q" : PySem.Str)] := by
    unfold npStep
    rw [if_neg (by decide +kernel), if_pos (.inl (by decide +kernel))]
  rw [a]
  unfold npStep
  rw [if_neg (by decide +kernel), if_neg ?_]
  · simp
  · rintro (h | ⟨h, _⟩ | h)
    · exact absurd h (by decide +kernel)
    · exact absurd h (by decide +kernel)
    · rw [List.getLast?_append] at h
      simp at h
      exact absurd h (by decide +kernel)
theorem np_mid (q : Int) (new : List PySem.Str) : (midOf q).foldl (npStep "/") new = new := by
  obtain ⟨j, hj, e⟩ := fmod4 q
  unfold midOf; rw [e]
  have : j = 0 ∨ j = 1 ∨ j = 2 ∨ j = 3 := by lia
  rcases this with rfl | rfl | rfl | rfl
  · rfl
  · exact (np_skip new).1
  · exact (np_skip new).2
  · exact np_Q new
theorem np_tpl (q : Int) (new : List PySem.Str) : (tplOf q).foldl (npStep "/") new = new := by
  obtain ⟨j, hj, e⟩ := fmod4 (q.fdiv 16)
  unfold tplOf; rw [e]
  have : j = 0 ∨ j = 1 ∨ j = 2 ∨ j = 3 := by lia
  rcases this with rfl | rfl | rfl | rfl
  · rfl
  · exact (np_skip new).1
  · show npStep "/" (npStep "/" new "") "." = new
    rw [(np_skip new).1, (np_skip new).2]
  · exact np_Q new
theorem np_fpl (q : Int) : (fplOf q).foldl (npStep "/") [] = [] := by
  obtain ⟨j, hj, e⟩ := fmod4 (q.fdiv 4)
  unfold fplOf; rw [e]
  have : j = 0 ∨ j = 1 ∨ j = 2 ∨ j = 3 := by lia
  rcases this with rfl | rfl | rfl | rfl <;> decide +kernel
theorem np_inter (q : Int) : ∀ {P : List PySem.Str} (new : List PySem.Str), (∀ p ∈ P, Nm p) → (inter (midOf q) P).foldl (npStep "/") new = new ++ P
  | [], new, _ => by simp [inter]
  | [x], new, h => np_name new (h x (by simp))
  | x :: y :: r, new, h => by
    show (x :: (midOf q ++ inter (midOf q) (y :: r))).foldl (npStep "/") new = _
    rw [List.foldl_cons, np_name new (h x (by simp)), List.foldl_append, np_mid, np_inter q _ fun p hp => h p (List.mem_cons_of_mem _ hp)]
    simp
theorem np_parts {P : List PySem.Str} (h : ∀ p ∈ P, Nm p) (q : Int) : (partsOf P q).foldl (npStep "/") [] = P := by
  unfold partsOf
  rw [List.foldl_append, List.foldl_append, np_fpl, np_inter q _ h, np_tpl]; simp
theorem normed {P : List PySem.Str} (h0 : P ≠ []) (h : ∀ p ∈ P, Nm p) (q : Int) : npS (spelled (render P) q) = render P := by
  obtain ⟨e1, e2⟩ := sr_of (opens_parts h0 h q)
  have hne : partsOf P q ≠ [] := by unfold partsOf; simp [inter_ne h0]
  unfold npS
  rw [spelled_eq h0 h, e1, e2, split_join hne fun p hp => (parts_part h q p hp).1, np_parts h q]
  show (if ((("/" ++ Txt.join "/" P : PySem.Str).length : Int) != 0) = true then ("/" ++ Txt.join "/" P : PySem.Str) else ".") = _
  rw [if_pos]
  · unfold render Txt.join; rw [StrLaws.glued_eq_join]
  · rw [Str.length_append]
    have : ("/" : PySem.Str).length = 1 := by decide
    simp; lia
end Mine
end
section
open PySem PySem.W PySem.Calls PyProof.Rows
namespace Mine
theorem len_slash : ("/" : PySem.Str).length = 1 := by decide
theorem rfind_last {a p : PySem.Str} (h : SF p) : Txt.rfind (a ++ "/" ++ p) "/" = (a.length : Int) := by
  have hc : cl (a ++ "/" ++ p) = cl a ++ 47 :: cl p := by rw [cl_append, cl_append, cl_slash]; simp
  have at_iff : ∀ i, StrLaws.At (a ++ "/" ++ p) "/" (a ++ "/" ++ p).length i ↔ (cl (a ++ "/" ++ p))[i]? = some 47 := fun i => by
    rw [slash_eq]; exact StrLaws.subAt_one _ 47 i
  have ha : (cl (a ++ "/" ++ p))[a.length]? = some 47 := by rw [hc, ← cl_len, List.getElem?_append_right (Nat.le_refl _)]; simp
  have hgt : ∀ k, a.length < k → (cl (a ++ "/" ++ p))[k]? ≠ some 47 := fun k hk e => by
    rw [hc, ← cl_len] at *
    rw [List.getElem?_append_right (by lia)] at e
    obtain ⟨m, hm⟩ : ∃ m, k - (cl a).length = m + 1 := ⟨k - (cl a).length - 1, by lia⟩
    rw [hm, List.getElem?_cons_succ] at e
    exact h (List.mem_of_getElem? e)
  unfold Txt.rfind
  rcases StrLaws.last_spec (a ++ "/" ++ p) "/" with ⟨_, h2⟩ | ⟨i, h1, h2, h3⟩
  · exact absurd ((at_iff _).mpr ha) (h2 _)
  · rw [h1]
    have : i = a.length := by
      by_cases hlt : i < a.length
      · exact absurd ((at_iff _).mpr ha) (h3 _ hlt)
      · by_cases hgt' : a.length < i
        · exact absurd ((at_iff _).mp h2) (hgt i hgt')
        · lia
    simp [this]
theorem bname_last {a p : PySem.Str} (h : SF p) : bname (a ++ "/" ++ p) = p := by
  unfold bname
  rw [rfind_last h]
  have hc : cl (a ++ "/" ++ p) = cl a ++ 47 :: cl p := by rw [cl_append, cl_append, cl_slash]; simp
  refine str_ext ?_
  have := slice_from (a ++ "/" ++ p) (i := a.length + 1) (by rw [Str.length_append, Str.length_append, len_slash]; lia)
  rw [show ((a.length + 1 : Nat) : Int) = (a.length : Int) + 1 from by lia] at this
  rw [this, hc, ← cl_len, List.drop_append]
  simp
theorem head_last {a p : PySem.Str} (h : SF p) : Txt.slice (a ++ "/" ++ p) none (some (Txt.rfind (a ++ "/" ++ p) "/" + 1)) = a ++ "/" := by
  rw [rfind_last h]
  have hc : cl (a ++ "/" ++ p) = cl a ++ 47 :: cl p := by rw [cl_append, cl_append, cl_slash]; simp
  refine str_ext ?_
  have := slice_to (a ++ "/" ++ p) (j := a.length + 1) (by rw [Str.length_append, Str.length_append, len_slash]; lia)
  rw [show ((a.length + 1 : Nat) : Int) = (a.length : Int) + 1 from by lia] at this
  rw [this, hc, ← cl_len, cl_append, cl_slash, List.take_append, List.take_of_length_le (Nat.le_succ _)]
  simp
theorem rstrip_one {a : PySem.Str} {c : Nat} {t : List Nat} (h : cl a = t ++ [c]) (hc : c ≠ 47) : Txt.rstripChars (a ++ "/") "/" = a := by
  unfold Txt.rstripChars
  rw [W.stripBy_eq]
  refine str_ext ?_
  have e : cl (a ++ "/") = t ++ [c, 47] := by rw [cl_append, cl_slash, h]; simp
  have hl : (a ++ "/" : PySem.Str).length = t.length + 2 := by rw [← cl_len, e]; simp
  have hhi : stripHi ("/" : PySem.Str).cps.contains true (a ++ "/") 0 = t.length + 1 := by
    unfold stripHi
    rw [if_pos rfl, hl]
    show t.length + 2 - ((cl (a ++ "/")).reverse.takeWhile ("/" : PySem.Str).cps.contains).length = _
    rw [e]
    have h47 : ("/" : PySem.Str).cps.contains 47 = true := by rw [slash_eq]; simp
    have hcc : ("/" : PySem.Str).cps.contains c = false := by rw [slash_eq]; simp [hc]
    rw [show (t ++ [c, 47]).reverse = 47 :: c :: t.reverse from by simp, List.takeWhile_cons, h47, if_pos rfl, List.takeWhile_cons, hcc]
    simp
  show (Builtin.Str.strSub (a ++ "/") 0 (stripHi ("/" : PySem.Str).cps.contains true (a ++ "/") 0)).cps.toList = _
  rw [hhi, StrLaws.strSub_toList]
  show ((cl (a ++ "/")).drop 0).take (t.length + 1 - 0) = _
  rw [e, h]
  simp [List.take_append, List.take_of_length_le]
theorem render_snoc (P : List PySem.Str) (p : PySem.Str) : render (P ++ [p]) = (if P = [] then Str.empty else render P) ++ "/" ++ p := by
  by_cases h : P = []
  · subst h; rfl
  · rw [if_neg h]; unfold render
    rw [join_app h (by simp)]
    simp only [Str.append_assoc]; rfl
theorem bname_render {P : List PySem.Str} {p : PySem.Str} (h : Nm p) : bname (render (P ++ [p])) = p := by
  rw [render_snoc]; exact bname_last h.sf
theorem bname_root : bname (render []) = "" := by decide +kernel
theorem ends {P : List PySem.Str} (h0 : P ≠ []) (h : ∀ p ∈ P, Nm p) : ∃ t c, cl (render P) = t ++ [c] ∧ c ≠ 47 := by
  obtain ⟨P', p, rfl⟩ : ∃ P' p, P = P' ++ [p] := ⟨P.dropLast, P.getLast h0, (List.dropLast_concat_getLast h0).symm⟩
  have hp := h p (by simp)
  have hl : cl p ≠ [] := fun e => hp.ne (by rw [← cl_len, e]; rfl)
  refine ⟨cl ((if P' = [] then Str.empty else render P') ++ "/") ++ (cl p).dropLast, (cl p).getLast hl, ?_, fun e => ?_⟩
  · rw [render_snoc, cl_append, List.append_assoc, List.dropLast_concat_getLast hl]
  · have := hp.lo _ (List.getLast_mem hl); lia
theorem dname_render {P : List PySem.Str} {p : PySem.Str} (hP : ∀ x ∈ P, Nm x) (h : Nm p) : dname (render (P ++ [p])) = render P := by
  unfold dname
  rw [render_snoc, head_last h.sf]
  by_cases h0 : P = []
  · subst h0; decide +kernel
  · rw [if_neg h0]
    obtain ⟨t, c, e, hc⟩ := ends h0 hP
    unfold dnameOf
    rw [if_pos]
    · exact rstrip_one e hc
    · have hl : (render P ++ "/" : PySem.Str).length ≠ 0 := by rw [← cl_len, cl_append, cl_slash]; simp
      refine ⟨by simp; lia, ?_⟩
      rw [bne_iff_ne]
      intro e2
      have hnot : ¬ (((render P ++ "/" : PySem.Str).length : Int) < 1) := by lia
      rw [if_neg hnot] at e2
      have e3 := congrArg cl e2
      rw [cl_append, e, cl_slash] at e3
      have : c ∈ cl (⟨(List.replicate (render P ++ "/" : PySem.Str).length ("/" : PySem.Str).cps).foldl (· ++ ·) #[]⟩ : PySem.Str) := by rw [← e3]; simp
      unfold cl at this
      rw [rep_toList] at this
      simp only [List.nil_append, List.mem_flatten] at this
      obtain ⟨l, hl1, hl2⟩ := this
      obtain ⟨_, rfl⟩ := List.mem_replicate.mp hl1
      rw [show ("/" : PySem.Str).cps.toList = [47] from cl_slash] at hl2
      exact hc (by simpa using hl2)
end Mine
end
section
open PySem PySem.W PySem.Calls PyProof.Rows
namespace Mine
theorem join_len {ps : List PySem.Str} {k : Nat} (h : ∀ p ∈ ps, p.length ≤ 3) (hk : ps.length ≤ k) : (Str.join "/" ps).length ≤ 4 * k := by
  have h1 := StrLaws.join_length_le "/" ps
  have h2 := StrLaws.sumLen_le (B := 3) ps h
  rw [len_slash] at h1
  lia
theorem render_len {P : List PySem.Str} (h : ∀ p ∈ P, Nm p) (hk : P.length ≤ 7) : (render P).length ≤ 29 := by
  unfold render
  have := join_len (fun p hp => (h p hp).z) hk
  rw [Str.length_append, len_slash]; lia
theorem inter_len {mid : List PySem.Str} (hm : mid.length ≤ 2) : ∀ (P : List PySem.Str), (inter mid P).length ≤ 3 * P.length
  | [] => by simp [inter]
  | [x] => by simp [inter]
  | x :: y :: r => by
    have := inter_len hm (y :: r)
    show (x :: (mid ++ inter mid (y :: r))).length ≤ _
    simp only [List.length_cons, List.length_append] at *; lia
theorem mid_len (q : Int) : (midOf q).length ≤ 2 := by
  obtain ⟨j, hj, e⟩ := fmod4 q
  unfold midOf; rw [e]
  have : j = 0 ∨ j = 1 ∨ j = 2 ∨ j = 3 := by lia
  rcases this with rfl | rfl | rfl | rfl <;> decide +kernel
theorem fpl_len (q : Int) : (fplOf q).length ≤ 2 := by
  obtain ⟨j, hj, e⟩ := fmod4 (q.fdiv 4)
  unfold fplOf; rw [e]
  have : j = 0 ∨ j = 1 ∨ j = 2 ∨ j = 3 := by lia
  rcases this with rfl | rfl | rfl | rfl <;> decide +kernel
theorem tpl_len (q : Int) : (tplOf q).length ≤ 2 := by
  obtain ⟨j, hj, e⟩ := fmod4 (q.fdiv 16)
  unfold tplOf; rw [e]
  have : j = 0 ∨ j = 1 ∨ j = 2 ∨ j = 3 := by lia
  rcases this with rfl | rfl | rfl | rfl <;> decide +kernel
theorem parts_len {P : List PySem.Str} (hk : P.length ≤ 7) (q : Int) : (partsOf P q).length ≤ 25 := by
  unfold partsOf
  have := inter_len (mid_len q) P
  have := fpl_len q
  have := tpl_len q
  simp only [List.length_append]; lia
theorem spell_fits {P : List PySem.Str} (h0 : P ≠ []) (h : ∀ p ∈ P, Nm p) (hk : P.length ≤ 7) (q : Int) : (Txt.replace (Txt.slice (render P) (some 1) none) "/" (slashOf q)).length ≤ 50000 := by
  unfold render
  rw [slice1, replace_join _ h0 fun p hp => (h p hp).sf, join_inter (slashOf_eq q)]
  have := join_len (ps := inter (midOf q) P) (k := 21) (fun p hp => (inter_part (mid_part q) h p hp).2) (by have := inter_len (mid_len q) P; lia)
  lia
theorem np_ok {P : List PySem.Str} (h0 : P ≠ []) (h : ∀ p ∈ P, Nm p) (hk : P.length ≤ 7) (q : Int) : NpOk (spelled (render P) q) := by
  obtain ⟨e1, e2⟩ := sr_of (opens_parts h0 h q)
  have hne : partsOf P q ≠ [] := by unfold partsOf; simp [inter_ne h0]
  have hsp := split_join hne fun p hp => (parts_part h q p hp).1
  have hl := join_len (ps := partsOf P q) (fun p hp => (parts_part h q p hp).2) (parts_len hk q)
  have hP := join_len (ps := P) (fun p hp => (h p hp).z) hk
  rw [spelled_eq h0 h]
  refine ⟨?_, ?_, ?_, ?_, ?_, ?_, ?_⟩
  · rw [Str.length_append, len_slash]; lia
  · rw [Str.length_append, len_slash]; simp; lia
  · rw [e2, hsp]; have := parts_len hk q; lia
  · rw [e2, hsp]; intro c hc; have := (parts_part h q c hc).2; lia
  · rw [e2, length_partsBetween]
    have := StrLaws.occ_length_le (Str.join "/" (partsOf P q)) "/" 0 (Str.join "/" (partsOf P q)).length ((Str.join "/" (partsOf P q)).length + 1)
    lia
  · rw [e1, e2, hsp, np_parts h q]
    unfold JoinOk
    rw [StrLaws.joinFits (B := 3) (fun p hp => (h p hp).z) (by rw [len_slash]; lia)]; rfl
  · rw [e1, e2, hsp, np_parts h q]
    unfold Txt.join
    rw [StrLaws.glued_eq_join, len_slash]; lia
/-- the words of the refusal -/
theorem repr_plain {x : PySem.Str} (h : ∀ c ∈ cl x, c = 47 ∨ (65 ≤ c ∧ c ≤ 90)) : reprText x = "'" ++ x ++ "'" := by
  have hq : reprQuote x = 39 := by
    unfold reprQuote
    rw [if_neg]
    simp only [Bool.and_eq_true, not_and]
    intro h39
    have := h 39 (by simpa [cl] using h39)
    lia
  have hr : ∀ c, c = 47 ∨ (65 ≤ c ∧ c ≤ 90) → Builtin.Str.reprChar 39 c = [c] := by
    have : ∀ c ∈ List.range 91, c = 47 ∨ (65 ≤ c ∧ c ≤ 90) → Builtin.Str.reprChar 39 c = [c] := by decide +kernel
    exact fun c hc => this c (List.mem_range.mpr (by lia)) hc
  have hf : ∀ (l : List Nat) (acc : Array Nat), (∀ c ∈ l, c = 47 ∨ (65 ≤ c ∧ c ≤ 90)) → (l.foldl (fun out c => out ++ (Builtin.Str.reprChar 39 c).toArray) acc).toList = acc.toList ++ l := by
    intro l
    induction l with
    | nil => intro acc _; simp
    | cons c l ih => intro acc hl; rw [List.foldl_cons, ih _ fun d hd => hl d (List.mem_cons_of_mem _ hd), hr c (hl c List.mem_cons_self)]; simp
  refine str_ext ?_
  unfold reprText
  rw [hq]
  show (Array.push (x.cps.foldl (fun out c => out ++ (Builtin.Str.reprChar 39 c).toArray) #[39]) 39).toList = _
  rw [Array.toList_push, ← Array.foldl_toList, hf _ _ h, cl_append, cl_append]
  rfl
theorem render_chars {P : List PySem.Str} (h : ∀ p ∈ P, Nm p) : ∀ c ∈ cl (render P), c = 47 ∨ (65 ≤ c ∧ c ≤ 90) := by
  have : ∀ (P : List PySem.Str), (∀ p ∈ P, Nm p) → ∀ c ∈ cl (Str.join "/" P), c = 47 ∨ (65 ≤ c ∧ c ≤ 90) := by
    intro P
    induction P with
    | nil => intro _ c hc; exact absurd hc (by simp [Str.join, Str.empty, cl])
    | cons p P ih =>
      intro h c hc
      cases P with
      | nil => exact .inr ((h p List.mem_cons_self).lo c hc)
      | cons y r =>
        rw [cl_join_cons] at hc
        rcases List.mem_append.mp hc with hc | hc
        · exact .inr ((h p List.mem_cons_self).lo c hc)
        · rcases List.mem_cons.mp hc with hc | hc
          · exact .inl hc
          · exact ih (fun q hq => h q (List.mem_cons_of_mem _ hq)) c hc
  intro c hc
  unfold render at hc
  rw [cl_append, cl_slash] at hc
  rcases List.mem_cons.mp hc with hc | hc
  · exact .inl hc
  · exact this P h c hc
theorem refused_render {P : List PySem.Str} (h : ∀ p ∈ P, Nm p) : refusedText (render P) = "node '" ++ render P ++ "' was already marked done" := by
  unfold refusedText
  rw [repr_plain (render_chars h)]
  refine str_ext ?_
  simp only [cl_append]
  have a : cl "node '" = cl "node " ++ cl "'" := by decide +kernel
  have b : cl "' was already marked done" = cl "'" ++ cl " was already marked done" := by decide +kernel
  rw [a, b]; simp
theorem repr_fits {P : List PySem.Str} (h : ∀ p ∈ P, Nm p) (hk : P.length ≤ 7) : (reprText (render P)).length ≤ 50000 := by
  rw [repr_plain (render_chars h)]
  have := render_len h hk
  have e : ("'" : PySem.Str).length = 1 := by decide
  rw [Str.length_append, Str.length_append, e]; lia
theorem render_inj : ∀ {P Q : List PySem.Str}, (∀ p ∈ P, Nm p) → (∀ p ∈ Q, Nm p) → render P = render Q → P = Q := by
  intro P Q hP hQ e
  have e2 : Str.join "/" P = Str.join "/" Q := by
    refine str_ext ?_
    have := congrArg cl e
    unfold render at this
    rw [cl_append, cl_append] at this
    exact List.append_cancel_left this
  have nn : ∀ {R : List PySem.Str}, (∀ p ∈ R, Nm p) → Str.join "/" R = Str.empty → R = [] := by
    intro R hR e
    cases R with
    | nil => rfl
    | cons p r =>
      exfalso
      have hp := (hR p List.mem_cons_self).ne
      rw [← cl_len] at hp
      have e' := congrArg cl e
      cases r with
      | nil => exact hp (by have : cl p = [] := e'; rw [this]; rfl)
      | cons y r => rw [cl_join_cons, show cl Str.empty = [] from rfl] at e'; simp at e'
  by_cases h1 : P = []
  · subst h1; exact (nn hQ e2.symm).symm
  · by_cases h2 : Q = []
    · subst h2; exact nn hP e2
    · exact join_inj P Q h1 h2 (fun p hp => (hP p hp).sf) (fun p hp => (hQ p hp).sf) e2
end Mine
end
section
open PySem PySem.W PySem.Calls PyProof.Rows
namespace Mine
noncomputable def InR (w : Int) : Prop := 0 ≤ w ∧ w ≤ 7
theorem inR_fmod (w : Int) : InR (w.fmod 8) := by
  have h1 := Int.fmod_nonneg_of_pos w (b := 8) (by decide)
  have h2 := Int.fmod_lt_of_pos w (b := 8) (by decide)
  unfold InR; lia
theorem fmod8 (w : Int) : w.fmod 8 = w % 8 := Int.fmod_eq_emod_of_nonneg w (by decide)
theorem spot_inR (t : List Int) : ∀ (k : Nat) {s : Int}, InR s → InR (spotFrom t k s)
  | 0, s, h => h
  | k + 1, s, h => by
    unfold spotFrom
    split
    · exact spot_inR t k (inR_fmod _)
    · exact h
set_option tactic.hygienic true in
theorem spot_free {t : List Int} : ∀ (k : Nat) {s : Int}, InR s → (∃ j : Nat, j < k ∧ (s + j).fmod 8 ∉ t) → spotFrom t k s ∉ t
  | 0, s, _, ⟨j, hj, _⟩ => by lia
  | k + 1, s, hs, ⟨j, hj, hf⟩ => by
    unfold spotFrom
    split
    · rename_i hm
      have hm : s ∈ t := by simpa using hm
      have hj0 : j ≠ 0 := by
        rintro rfl
        refine hf ?_
        rw [fmod8]
        have : (s + ((0 : Nat) : Int)) % 8 = s := by have := hs.1; have := hs.2; lia
        rw [this]; exact hm
      refine spot_free k (inR_fmod _) ⟨j - 1, by lia, ?_⟩
      have : ((s + 1).fmod 8 + ((j - 1 : Nat) : Int)).fmod 8 = (s + (j : Int)).fmod 8 := by rw [fmod8, fmod8, fmod8]; lia
      rw [this]; exact hf
    · rename_i hm
      simpa using hm
noncomputable def spots : List Int := (List.range 8).map fun i : Nat => (i : Int)
theorem mem_spots {s : Int} : s ∈ spots ↔ InR s := by
  unfold spots InR
  simp only [List.mem_map, List.mem_range]
  constructor
  · rintro ⟨i, hi, rfl⟩; lia
  · rintro ⟨h1, h2⟩; exact ⟨s.toNat, by lia, by lia⟩
theorem spots_nodup : spots.Nodup := by unfold spots; decide
theorem mem_frees {t : List Int} {s : Int} : s ∈ frees t ↔ InR s ∧ s ∉ t := by
  unfold frees
  rw [List.mem_filter]
  show s ∈ spots ∧ _ ↔ _
  rw [mem_spots]
  have : (!(t.any (· == s))) = true ↔ s ∉ t := by
    rw [Bool.not_eq_true', ← Bool.not_eq_true, List.any_eq_true]
    exact not_congr ⟨fun ⟨x, hx, e⟩ => by rw [beq_iff_eq] at e; exact e ▸ hx, fun h => ⟨s, h, by simp⟩⟩
  rw [this]
theorem frees_nodup (t : List Int) : (frees t).Nodup := List.Nodup.sublist (List.filter_sublist) spots_nodup
theorem filter_ne_len {l : List Int} (h : l.Nodup) {x : Int} (hx : x ∈ l) : (l.filter fun s => s != x).length + 1 = l.length := by
  induction l with
  | nil => cases hx
  | cons a l ih =>
    rw [List.nodup_cons] at h
    by_cases e : a = x
    · subst e
      have : (l.filter fun s => s != a) = l := List.filter_eq_self.mpr fun s hs => by
        simp; rintro rfl; exact h.1 hs
      rw [List.filter_cons_of_neg (by simp), this]; rfl
    · rw [List.filter_cons_of_pos (by simp [e]), List.length_cons, List.length_cons, ih h.2 ((List.mem_cons.mp hx).resolve_left (Ne.symm e))]
theorem filter_ne_len' {l : List Int} (h : l.Nodup) (x : Int) : l.length ≤ (l.filter fun s => s != x).length + 1 := by
  by_cases hx : x ∈ l
  · rw [filter_ne_len h hx]; exact Nat.le_refl _
  · have : (l.filter fun s => s != x) = l := List.filter_eq_self.mpr fun s hs => by simp; rintro rfl; exact hx hs
    rw [this]; lia
theorem frees_snoc (t : List Int) (x : Int) : frees (t ++ [x]) = (frees t).filter fun s => s != x := by
  unfold frees
  rw [List.filter_filter]
  congr 1
  funext s
  simp only [List.any_append, Bool.not_or, List.any_cons, List.any_nil, Bool.or_false]
  rw [Bool.and_comm]
  congr 1
  by_cases e : x = s
  · subst e; simp
  · have h1 : (x == s) = false := by simpa using e
    have h2 : (s != x) = true := by simpa using Ne.symm e
    rw [h1, h2]; rfl
theorem frees_ge (t : List Int) : 8 ≤ (frees t).length + t.length := by
  induction h : t.reverse generalizing t with
  | nil => have : t = [] := by simpa using h
           subst this; decide
  | cons x r ih =>
    have e : t = r.reverse ++ [x] := by have := congrArg List.reverse h; simpa using this
    subst e
    rw [frees_snoc]
    have := filter_ne_len' (frees_nodup r.reverse) x
    have := ih r.reverse (by simp)
    simp only [List.length_append, List.length_cons, List.length_nil]; lia
theorem spot_new {t : List Int} (ht : t.length ≤ 7) {w : Int} (hw : InR w) : spotFrom t 8 w ∉ t := by
  have h := frees_ge t
  obtain ⟨f, hf⟩ : ∃ f, f ∈ frees t := by
    cases e : frees t with
    | nil => rw [e] at h; simp at h; lia
    | cons f _ => exact ⟨f, List.mem_cons_self⟩
  obtain ⟨h1, h2⟩ := mem_frees.mp hf
  refine spot_free 8 hw ⟨((f - w) % 8).toNat, by lia, ?_⟩
  have : (w + ((((f - w) % 8).toNat : Nat) : Int)).fmod 8 = f := by
    rw [fmod8]; have := h1.1; have := h1.2; have := hw.1; have := hw.2; lia
  rw [this]; exact h2
/-- seven cars: one spot stays free -/
theorem frees_len : ∀ (ws : List Int), (∀ w ∈ ws, InR w) → ws.length ≤ 8 → (frees (takeAll ws)).length + ws.length = 8 ∧ ∀ s ∈ takeAll ws, InR s := by
  intro ws
  induction h : ws.reverse generalizing ws with
  | nil => have : ws = [] := by simpa using h
           subst this; intro _ _; exact ⟨by decide, fun s hs => by cases hs⟩
  | cons x r ih =>
    have e : ws = r.reverse ++ [x] := by have := congrArg List.reverse h; simpa using this
    subst e
    intro hw hl
    have hx : InR x := hw x (by simp)
    simp only [List.length_append, List.length_cons, List.length_nil] at hl
    obtain ⟨i1, i2⟩ := ih r.reverse (by simp) (fun w hm => hw w (by simp at hm ⊢; exact .inl hm)) (by lia)
    have hlen := takeAll_len r.reverse
    have hnew := spot_new (t := takeAll r.reverse) (by lia) hx
    have hin := spot_inR (takeAll r.reverse) 8 hx
    rw [takeAll_snoc, frees_snoc]
    have := filter_ne_len (frees_nodup (takeAll r.reverse)) (mem_frees.mpr ⟨hin, hnew⟩)
    refine ⟨by simp only [List.length_append, List.length_cons, List.length_nil]; lia, fun s hs => ?_⟩
    rcases List.mem_append.mp hs with hs | hs
    · exact i2 s hs
    · rw [List.mem_singleton.mp hs]; exact hin
theorem frees_one {ws : List Int} (h : ∀ w ∈ ws, InR w) (hl : ws.length = 7) : frees (takeAll ws) = [emptyOf ws] := by
  have := (frees_len ws h (by lia)).1
  have h1 : (frees (takeAll ws)).length = 1 := by lia
  obtain ⟨e, he⟩ := List.length_eq_one_iff.mp h1
  unfold emptyOf; rw [he]; rfl
theorem empty_inR {ws : List Int} (h : ∀ w ∈ ws, InR w) (hl : ws.length = 7) : InR (emptyOf ws) ∧ emptyOf ws ∉ takeAll ws :=
  mem_frees.mp (by rw [frees_one h hl]; exact List.mem_cons_self)
theorem empty_unique {ws : List Int} (h : ∀ w ∈ ws, InR w) (hl : ws.length = 7) {s : Int} (hs : InR s) (hn : s ∉ takeAll ws) : s = emptyOf ws := by
  have := mem_frees.mpr ⟨hs, hn⟩
  rw [frees_one h hl] at this
  simpa using this
theorem fr_of {ws : List Int} (h : ∀ w ∈ ws, InR w) (hl : ws.length = 7) : ∀ i w, ws[i]? = some w → ((takeAll (ws.take i)).any (· == spotFrom (takeAll (ws.take i)) 8 w)) = false := by
  intro i w hw
  have hi := (List.getElem?_eq_some_iff.mp hw).1
  have := spot_new (t := takeAll (ws.take i)) (by rw [takeAll_len, List.length_take]; lia) (h w (List.mem_of_getElem? hw))
  rw [Bool.eq_false_iff]
  intro hc
  exact this (by simpa using hc)
/-- round the circle -/
noncomputable def sh (c w : Int) : Int := (w + c).fmod 8
theorem sh_inj {c v w : Int} (hv : InR v) (hw : InR w) (h : sh c v = sh c w) : v = w := by
  unfold sh at h
  rw [fmod8, fmod8] at h
  have := hv.1; have := hv.2; have := hw.1; have := hw.2; lia
theorem sh_mem {c s : Int} {t : List Int} (ht : ∀ x ∈ t, InR x) (hs : InR s) : sh c s ∈ t.map (sh c) ↔ s ∈ t := by
  constructor
  · intro h
    obtain ⟨x, hx, e⟩ := List.mem_map.mp h
    rw [← sh_inj (ht x hx) hs e]; exact hx
  · exact fun h => List.mem_map.mpr ⟨s, h, rfl⟩
theorem spot_sh {c : Int} {t : List Int} (ht : ∀ x ∈ t, InR x) : ∀ (k : Nat) {s : Int}, InR s → spotFrom (t.map (sh c)) k (sh c s) = sh c (spotFrom t k s)
  | 0, s, _ => rfl
  | k + 1, s, hs => by
    unfold spotFrom
    by_cases hm : s ∈ t
    · have a : t.any (· == s) = true := by simpa using hm
      have b : (t.map (sh c)).any (· == sh c s) = true := by
        rw [List.any_eq_true]; exact ⟨_, (sh_mem ht hs).mpr hm, by simp⟩
      rw [if_pos a, if_pos b, ← spot_sh ht k (inR_fmod _)]
      congr 1
      unfold sh; rw [fmod8, fmod8, fmod8, fmod8]; lia
    · have a : ¬ t.any (· == s) = true := by simpa using hm
      have b : ¬ (t.map (sh c)).any (· == sh c s) = true := by
        rw [List.any_eq_true]; rintro ⟨y, hy, e⟩
        rw [beq_iff_eq] at e; subst e
        exact hm ((sh_mem ht hs).mp hy)
      rw [if_neg a, if_neg b]
theorem take_sh (c : Int) : ∀ (ws : List Int), (∀ w ∈ ws, InR w) → ws.length ≤ 8 → takeAll (ws.map (sh c)) = (takeAll ws).map (sh c) := by
  intro ws
  induction h : ws.reverse generalizing ws with
  | nil => have : ws = [] := by simpa using h
           subst this; intro _ _; rfl
  | cons x r ih =>
    have e : ws = r.reverse ++ [x] := by have := congrArg List.reverse h; simpa using this
    subst e
    intro hw hl
    simp only [List.length_append, List.length_cons, List.length_nil] at hl
    have hw' : ∀ w ∈ r.reverse, InR w := fun w hm => hw w (by simp at hm ⊢; exact .inl hm)
    rw [List.map_append, List.map_singleton, takeAll_snoc, ih r.reverse (by simp) hw' (by lia), takeAll_snoc, List.map_append, List.map_singleton, spot_sh (frees_len _ hw' (by lia)).2 8 (hw x (by simp))]
theorem empty_sh (c : Int) {ws : List Int} (h : ∀ w ∈ ws, InR w) (hl : ws.length = 7) : emptyOf (ws.map (sh c)) = sh c (emptyOf ws) := by
  obtain ⟨h1, h2⟩ := empty_inR h hl
  refine (empty_unique (ws := ws.map (sh c)) (fun w hw => ?_) (by simpa using hl) (inR_fmod _) ?_).symm
  · obtain ⟨x, _, rfl⟩ := List.mem_map.mp hw; exact inR_fmod _
  · rw [take_sh c ws h (by lia)]
    intro hm
    exact h2 ((sh_mem (frees_len ws h (by lia)).2 h1).mp hm)
end Mine
end
section
open PySem PySem.W PySem.Calls PyProof.Rows
namespace Mine
noncomputable def letter (d : Int) : UInt8 := (65 + d.toNat).toUInt8
theorem inR_cases {d : Int} (h : InR d) : d = 0 ∨ d = 1 ∨ d = 2 ∨ d = 3 ∨ d = 4 ∨ d = 5 ∨ d = 6 ∨ d = 7 := by
  have := h.1; have := h.2; lia
theorem pick_letter {d : Int} (h : InR d) : KBy.picked APb (some d) (some (d + 1)) = #[letter d] := by
  rcases inR_cases h with rfl | rfl | rfl | rfl | rfl | rfl | rfl | rfl <;> decide +kernel
theorem letter_back {d : Int} (h : InR d) : ((letter d).toNat : Int) - 65 = d := by
  rcases inR_cases h with rfl | rfl | rfl | rfl | rfl | rfl | rfl | rfl <;> decide +kernel
theorem letter_A {d : Int} (h : InR d) (e : letter d = 65) : d = 0 := by
  have := letter_back h
  rw [e] at this
  have h65 : (((65 : UInt8).toNat : Nat) : Int) = 65 := by decide
  lia
theorem num_snoc (ws : List Int) (d : Int) : numberOf (ws ++ [d]) = numberOf ws * 16 + d := by unfold numberOf; rw [List.foldl_append]; rfl
theorem num_bounds : ∀ (ws : List Int), (∀ w ∈ ws, InR w) → 0 ≤ numberOf ws ∧ numberOf ws < 16 ^ ws.length := by
  intro ws
  induction h : ws.reverse generalizing ws with
  | nil => have : ws = [] := by simpa using h
           subst this; intro _; exact ⟨by decide, by decide⟩
  | cons x r ih =>
    have e : ws = r.reverse ++ [x] := by have := congrArg List.reverse h; simpa using this
    subst e
    intro hw
    obtain ⟨a, b⟩ := ih r.reverse (by simp) (fun w hm => hw w (by simp at hm ⊢; exact .inl hm))
    have hx := hw x (by simp)
    rw [num_snoc, List.length_append, List.length_singleton, Int.pow_succ]
    have := hx.1; have := hx.2
    refine ⟨by lia, by lia⟩
theorem num_le {ws : List Int} (h : ∀ w ∈ ws, InR w) (hl : ws.length ≤ 7) : 0 ≤ numberOf ws ∧ numberOf ws < 16 ^ 7 := by
  obtain ⟨a, b⟩ := num_bounds ws h
  refine ⟨a, Int.lt_of_lt_of_le b ?_⟩
  have : ∀ k : Nat, k ≤ 7 → (16 : Int) ^ k ≤ 16 ^ 7 := by decide
  exact this _ hl
noncomputable def strip (ws : List Int) : List Int := ws.dropWhile (· == 0)
theorem num_zero : ∀ (ws : List Int), (∀ w ∈ ws, InR w) → (numberOf ws = 0 ↔ ∀ w ∈ ws, w = 0) := by
  intro ws
  induction h : ws.reverse generalizing ws with
  | nil => have : ws = [] := by simpa using h
           subst this; intro _; exact ⟨fun V w hw => (by cases hw), fun V => by decide⟩
  | cons x r ih =>
    have e : ws = r.reverse ++ [x] := by have := congrArg List.reverse h; simpa using this
    subst e
    intro hw
    have hw' : ∀ w ∈ r.reverse, InR w := fun w hm => hw w (by simp at hm ⊢; exact .inl hm)
    have hx := hw x (by simp)
    have ih := ih r.reverse (by simp) hw'
    have a := (num_bounds r.reverse hw').1
    rw [num_snoc]
    have := hx.1
    constructor
    · intro hz w hm
      have hz1 : numberOf r.reverse = 0 := by lia
      rcases List.mem_append.mp hm with hm | hm
      · exact ih.mp hz1 w hm
      · rw [List.mem_singleton.mp hm]; lia
    · intro hz
      have h1 := ih.mpr fun w hm => hz w (List.mem_append.mpr (.inl hm))
      have h2 := hz x (by simp)
      lia
theorem strip_zero {ws : List Int} (h : ∀ w ∈ ws, w = 0) : strip ws = [] := by
  unfold strip
  induction ws with
  | nil => rfl
  | cons a ws ih => rw [List.dropWhile_cons, h a List.mem_cons_self]; exact ih fun w hw => h w (List.mem_cons_of_mem _ hw)
theorem strip_snoc {ws : List Int} {d : Int} (h : ¬ ∀ w ∈ ws ++ [d], w = 0) : strip (ws ++ [d]) = strip ws ++ [d] := by
  unfold strip
  induction ws with
  | nil =>
    have : d ≠ 0 := by intro e; apply h; intro w hw; simp at hw; rw [hw, e]
    simp [this]
  | cons a ws ih =>
    by_cases ha : a = 0
    · subst ha
      simp only [List.cons_append, List.dropWhile_cons]
      simp only [beq_self_eq_true, if_true]
      refine ih fun hh => h fun w hw => ?_
      rcases List.mem_cons.mp hw with rfl | hw
      · rfl
      · exact hh w hw
    · simp [ha]
theorem ap_strip : ∀ (k : Nat) (ws : List Int) (v : Array UInt8), (∀ w ∈ ws, InR w) → ws.length ≤ k → apLoop k (numberOf ws) v = ((strip ws).map letter).toArray ++ v
  | 0, ws, v, _, hl => by
    have : ws = [] := List.length_eq_zero_iff.mp (by lia)
    subst this; simp [apLoop, strip]
  | k + 1, ws, v, hw, hl => by
    unfold apLoop
    by_cases hz : numberOf ws = 0
    · rw [if_neg (by simp [hz]), strip_zero ((num_zero ws hw).mp hz)]; simp
    · rw [if_pos (by simpa using hz)]
      have hne : ws ≠ [] := by rintro rfl; exact hz (by decide)
      obtain ⟨r, d, rfl⟩ : ∃ r d, ws = r ++ [d] := ⟨ws.dropLast, ws.getLast hne, (List.dropLast_concat_getLast hne).symm⟩
      have hw' : ∀ w ∈ r, InR w := fun w hm => hw w (List.mem_append.mpr (.inl hm))
      have hd := hw d (by simp)
      have a := (num_bounds r hw').1
      have e1 : (numberOf (r ++ [d])).fdiv 16 = numberOf r := by
        rw [num_snoc, Int.fdiv_eq_ediv_of_nonneg _ (by decide)]
        have := hd.1; have := hd.2; lia
      have e2 : (numberOf (r ++ [d])).fmod 16 = d := by
        rw [num_snoc, Int.fmod_eq_emod_of_nonneg _ (by decide)]
        have := hd.1; have := hd.2; lia
      rw [e1, e2, pick_letter hd, ap_strip k r _ hw' (by simp at hl; lia), strip_snoc fun hh => hz ((num_zero _ hw).mpr hh)]
      simp
theorem pick_head (b : Array UInt8) : (KBy.picked b none (some 1)).toList = b.toList.take 1 := by
  unfold KBy.picked
  have hb : sliceBounds none (some 1) none b.size = (0, min 1 (b.size : Int), 1) := by
    unfold sliceBounds; simp; lia
  rw [hb]
  unfold Builtin.Bytes.sliced
  obtain ⟨l⟩ := b
  cases l with
  | nil => decide
  | cons x l =>
    have : min (1 : Int) (((x :: l).toArray.size : Nat) : Int) = 1 := by simp; lia
    rw [this]
    rfl

theorem wishes_sh (back : List Int) (s : Int) : wishesOf back s = back.map (sh (s + 1)) := by
  unfold wishesOf sh; congr 1; funext p; rw [Int.add_assoc]
theorem strip_split (ws : List Int) : List.replicate (ws.length - (strip ws).length) 0 ++ strip ws = ws := by
  unfold strip
  induction ws with
  | nil => rfl
  | cons a ws ih =>
    rw [List.dropWhile_cons]
    by_cases ha : a = 0
    · subst ha
      simp only [beq_self_eq_true, if_true]
      have hl : (ws.dropWhile (· == 0)).length ≤ ws.length := by
        have := congrArg List.length ih
        simp at this; lia
      rw [show (0 :: ws).length - (ws.dropWhile (· == 0)).length = (ws.length - (ws.dropWhile (· == 0)).length) + 1 from by simp; lia, List.replicate_succ, List.cons_append, ih]
    · simp [ha]
theorem strip_head (ws : List Int) (h : ∀ w ∈ ws, InR w) : (((strip ws).map letter).take 1 == [65]) = false := by
  have hm : ∀ w ∈ strip ws, InR w := fun w hw => h w (List.dropWhile_sublist _ |>.subset hw)
  have hh : ∀ a t, strip ws = a :: t → a ≠ 0 := by
    unfold strip
    clear hm
    induction ws with
    | nil => intro a t e; simp at e
    | cons b ws ih =>
      intro a t e
      rw [List.dropWhile_cons] at e
      by_cases hb : b = 0
      · subst hb; simp only [beq_self_eq_true, if_true] at e; exact ih (fun w hw => h w (List.mem_cons_of_mem _ hw)) a t e
      · have : (b == 0) = false := by simpa using hb
        rw [this] at e; simp at e; rw [← e.1]; exact hb
  cases e : strip ws with
  | nil => rfl
  | cons a t =>
    rw [Bool.eq_false_iff]
    intro hc
    simp only [List.map_cons, List.take_succ_cons, List.take_zero] at hc
    have := List.cons.inj (beq_iff_eq.mp hc)
    exact hh a t e (letter_A (hm a (by rw [e]; exact List.mem_cons_self)) this.1)
theorem words_ok {back : List Int} (hb : ∀ p ∈ back, InR p) (hl : back.length = 7) (h7 : emptyOf back = 7) {s : Int} (hs : InR s) : WordsOk back s := by
  have hw : ∀ w ∈ wishesOf back s, InR w := fun w hm => by
    unfold wishesOf at hm
    obtain ⟨p, _, rfl⟩ := List.mem_map.mp hm; exact inR_fmod _
  have hlen : (wishesOf back s).length = 7 := by unfold wishesOf; simpa using hl
  have hst := ap_strip 7 (wishesOf back s) #[] hw (by lia)
  have hst' : (wordOf back s).toList = (strip (wishesOf back s)).map letter := by unfold wordOf; rw [hst]; simp
  have hsize : (wordOf back s).size = (strip (wishesOf back s)).length := by rw [← Array.length_toList, hst']; simp
  have hsp := strip_split (wishesOf back s)
  have hle : (strip (wishesOf back s)).length ≤ 7 := by have := congrArg List.length hsp; simp at this; lia
  have hm : ∀ w ∈ strip (wishesOf back s), InR w := fun w hm => hw w (List.dropWhile_sublist _ |>.subset hm)
  refine ⟨num_le hw (by lia), fun i => num_le (fun w hm => hw w (List.mem_of_mem_take hm)) (by rw [List.length_take]; lia), by lia, ?_, ?_, hlen, hw, fr_of hw hlen, ?_, ?_, ?_⟩
  · rw [hst', hsize, List.map_map]
    have : (strip (wishesOf back s)).map ((fun c : UInt8 => (c.toNat : Int) - 65) ∘ letter) = strip (wishesOf back s) := by
      conv => rhs; rw [← List.map_id (strip (wishesOf back s))]
      exact List.map_congr_left fun w hw => letter_back (hm w hw)
    rw [this]
    have e := hsp
    rw [hlen] at e
    exact e
  · rw [pick_head, hst']; exact strip_head _ hw
  · rw [frees_one hw hlen]; simp
  · rw [wishes_sh, empty_sh _ hb hl, h7]
    unfold sh; rw [fmod8]; have := hs.1; have := hs.2; lia
  · unfold wishesOf
    rw [List.map_map]
    conv => rhs; rw [← List.map_id back]
    refine List.map_congr_left fun p hp => ?_
    obtain ⟨i1, i2⟩ := hb p hp
    simp only [Function.comp, id]
    rw [fmod8, fmod8]; lia
/-- the wishes as they are counted from behind the empty spot -/
theorem moved_sh (nums : List Int) : movedOf nums = (nums.map fun n => n.fmod 8).map (sh (-(emptyOf (nums.map fun n => n.fmod 8)) - 1)) := by
  unfold movedOf
  rw [List.map_map]
  refine List.map_congr_left fun n V => ?_
  simp only [Function.comp, sh]
  rw [fmod8, fmod8, fmod8]; lia
theorem rests_inR (nums : List Int) : ∀ w ∈ nums.map (fun n => n.fmod 8), InR w := fun w hw => by
  obtain ⟨n, _, rfl⟩ := List.mem_map.mp hw; exact inR_fmod _
theorem moved_inR (nums : List Int) : ∀ w ∈ movedOf nums, InR w := fun w hw => by
  unfold movedOf at hw
  obtain ⟨n, _, rfl⟩ := List.mem_map.mp hw; exact inR_fmod _
theorem moved_empty {nums : List Int} (h : nums.length = 7) : emptyOf (movedOf nums) = 7 := by
  rw [moved_sh, empty_sh _ (rests_inR nums) (by simpa using h)]
  obtain ⟨i1, i2⟩ := (empty_inR (rests_inR nums) (by simpa using h)).1
  unfold sh; rw [fmod8]; lia
end Mine
end
section
open PySem PySem.W PySem.Calls PyProof.Rows
namespace Mine
noncomputable def below (i : Int) (l : List Int) : Nat := l.countP fun w => decide (w < i)
set_option tactic.hygienic true in
theorem spot_ge {t : List Int} (h7 : (7 : Int) ∉ t) : ∀ (k : Nat) {s : Int}, InR s → 8 ≤ (k : Int) + s → s ≤ spotFrom t k s
  | 0, s, hs, hk => by have := hs.2; lia
  | k + 1, s, hs, hk => by
    unfold spotFrom
    split
    · rename_i hm
      have hm : s ∈ t := by simpa using hm
      have hne : s ≠ 7 := by rintro rfl; exact h7 hm
      have e : (s + 1).fmod 8 = s + 1 := by rw [fmod8]; have := hs.1; have := hs.2; lia
      rw [e]
      have := spot_ge h7 k (s := s + 1) ⟨by have := hs.1; lia, by have := hs.2; lia⟩ (by lia)
      lia
    · exact Int.le_refl _
theorem below_take (i : Int) : ∀ (ws : List Int), (∀ w ∈ ws, InR w) → (7 : Int) ∉ takeAll ws → below i (takeAll ws) ≤ below i ws := by
  intro ws
  induction h : ws.reverse generalizing ws with
  | nil => have : ws = [] := by simpa using h
           subst this; intro _ _; exact Nat.le_refl _
  | cons x r ih =>
    have e : ws = r.reverse ++ [x] := by have := congrArg List.reverse h; simpa using this
    subst e
    intro hw h7
    rw [takeAll_snoc] at h7 ⊢
    have h7' : (7 : Int) ∉ takeAll r.reverse := fun hm => h7 (List.mem_append.mpr (.inl hm))
    have i1 := ih r.reverse (by simp) (fun w hm => hw w (by simp at hm ⊢; exact .inl hm)) h7'
    have hx := hw x (by simp)
    have hge := spot_ge h7' 8 hx (by have := hx.1; lia)
    unfold below at *
    rw [List.countP_append, List.countP_append]
    have : List.countP (fun w => decide (w < i)) [spotFrom (takeAll r.reverse) 8 x] ≤ List.countP (fun w => decide (w < i)) [x] := by
      simp only [List.countP_cons, List.countP_nil]
      by_cases h1 : spotFrom (takeAll r.reverse) 8 x < i
      · have h2 : x < i := by lia
        simp [h1, h2]
      · simp [h1]
    lia
theorem below_mem {x : Int} : ∀ {t : List Int}, x ∈ t → below x t + 1 ≤ below (x + 1) t
  | a :: t, h => by
    have mono : below x t ≤ below (x + 1) t := List.countP_mono_left fun w V hw => by simp at hw ⊢; lia
    unfold below at *
    rw [List.countP_cons, List.countP_cons]
    rcases List.mem_cons.mp h with rfl | h
    · have h1 : ¬ x < x := by lia
      have h2 : x < x + 1 := by lia
      simp [h1, h2]; exact mono
    · have i1 := below_mem h
      unfold below at i1
      by_cases h1 : a < x
      · have h2 : a < x + 1 := by lia
        simp [h1, h2]; exact i1
      · simp only [h1, decide_false, Bool.false_eq_true, if_false]; lia
theorem park {ms : List Int} (h : ∀ w ∈ ms, InR w) (hl : ms.length = 7) (h7 : emptyOf ms = 7) : ∀ i : Nat, i ≤ 7 → i ≤ below (i : Int) ms := by
  have hn7 : (7 : Int) ∉ takeAll ms := by have := (empty_inR h hl).2; rw [h7] at this; exact this
  have key : ∀ i : Nat, i ≤ 7 → i ≤ below (i : Int) (takeAll ms) := by
    intro i
    induction i with
    | zero => intro _; exact Nat.zero_le _
    | succ i ih =>
      intro hi
      have hm : (i : Int) ∈ takeAll ms := by
        by_cases hm : (i : Int) ∈ takeAll ms
        · exact hm
        · have := empty_unique h hl (s := (i : Int)) ⟨by lia, by lia⟩ hm
          rw [h7] at this; lia
      have := below_mem hm
      have := ih (by lia)
      rw [show (((i + 1 : Nat)) : Int) = (i : Int) + 1 from by lia]; lia
  exact fun i hi => Nat.le_trans (key i hi) (below_take _ ms h hn7)
theorem list_getD {ms : List Int} (hl : ms.length = 7) : (List.range 7).map (fun k => ms.getD k 0) = ms := by
  refine List.ext_getElem (by simp [hl]) fun k h1 h2 => ?_
  simp [List.getD_eq_getElem?_getD, List.getElem?_eq_getElem h2]
theorem more_len {ms : List Int} (hl : ms.length = 7) (i : Int) : (moreOf ms i).length = ms.countP (· == i) := by
  unfold moreOf
  rw [List.length_map, ← List.countP_eq_length_filter]
  conv => rhs; rw [← list_getD hl, List.countP_map]
  rfl
theorem below_succ (i : Int) : ∀ (ms : List Int), below (i + 1) ms = below i ms + ms.countP (· == i)
  | [] => rfl
  | a :: ms => by
    have ih := below_succ i ms
    unfold below at *
    rw [List.countP_cons, List.countP_cons, List.countP_cons, ih]
    by_cases h1 : a < i
    · have h2 : a < i + 1 := by lia
      have h3 : (a == i) = false := by simp; lia
      simp [h1, h2, h3]; lia
    · by_cases h2 : a = i
      · have h3 : a < i + 1 := by lia
        have h4 : (a == i) = true := by simpa using h2
        simp [h1, h3, h4]; lia
      · have h3 : ¬ a < i + 1 := by lia
        have h4 : (a == i) = false := by simpa using h2
        simp [h1, h3, h4]
theorem tree_wait_len {ms : List Int} (way : Int) (h : ∀ w ∈ ms, InR w) (hl : ms.length = 7) (h7 : emptyOf ms = 7) : ∀ i : Nat, i ≤ 8 → (treeAt ms way i).waiting.length + i = 1 + below (i : Int) ms := by
  intro i
  induction i with
  | zero =>
    intro _
    have : below ((0 : Nat) : Int) ms = 0 := by
      unfold below; rw [List.countP_eq_zero]; intro w hw; have := (h w hw).1; simp; lia
    rw [this]; rfl
  | succ i ih =>
    intro hi
    have e : treeAt ms way (i + 1) = treeStep ms way (treeAt ms way i) i := by unfold treeAt; rw [List.range_succ, List.foldl_append]; rfl
    have ih := ih (by lia)
    have hp := park h hl h7 i (by lia)
    rw [e]
    show (putS way ((treeAt ms way i).waiting.drop 1) (moreOf ms i)).length + (i + 1) = _
    rw [putS_len, List.length_drop, more_len hl, show (((i + 1 : Nat)) : Int) = (i : Int) + 1 from by lia, below_succ]
    lia
end Mine
end
section
open PySem PySem.W PySem.Calls PyProof.Rows
namespace Mine
/-- nodes in plain form -/
noncomputable def mkN (np : PySem.Str → Int) (sc : PySem.Str → List PySem.Str) (k : PySem.Str) : Nd := ⟨k, np k, sc k⟩
noncomputable def nds (nl : List PySem.Str) (np : PySem.Str → Int) (sc : PySem.Str → List PySem.Str) : List Nd := nl.map (mkN np sc)
theorem nds_names (nl : List PySem.Str) (np : PySem.Str → Int) (sc : PySem.Str → List PySem.Str) : (nds nl np sc).map (·.name) = nl := by
  unfold nds; rw [List.map_map]; conv => rhs; rw [← List.map_id nl]
  rfl
theorem nds_congr {nl : List PySem.Str} {np np' : PySem.Str → Int} {sc sc' : PySem.Str → List PySem.Str} (h1 : ∀ k ∈ nl, np k = np' k) (h2 : ∀ k ∈ nl, sc k = sc' k) : nds nl np sc = nds nl np' sc' :=
  List.map_congr_left fun k hk => by unfold mkN; rw [h1 k hk, h2 k hk]
theorem updN_np (nl : List PySem.Str) (np : PySem.Str → Int) (sc : PySem.Str → List PySem.Str) (k : PySem.Str) (g : Int → Int) :
    updN k (fun N => { N with np := g N.np }) (nds nl np sc) = nds nl (fun z => if z = k then g (np z) else np z) sc := by
  unfold updN nds
  rw [List.map_map]
  refine List.map_congr_left fun z V => ?_
  simp only [Function.comp, mkN]
  by_cases e : z = k <;> simp only [e, if_true, if_false]
theorem updN_sc (nl : List PySem.Str) (np : PySem.Str → Int) (sc : PySem.Str → List PySem.Str) (k p : PySem.Str) :
    updN k (fun N => { N with succ := N.succ ++ [p] }) (nds nl np sc) = nds nl np (fun z => if z = k then sc z ++ [p] else sc z) := by
  unfold updN nds
  rw [List.map_map]
  refine List.map_congr_left fun z V => ?_
  simp only [Function.comp, mkN]
  by_cases e : z = k <;> simp only [e, if_true, if_false]
noncomputable def addK (nl : List PySem.Str) (k : PySem.Str) : List PySem.Str := if k ∈ nl then nl else nl ++ [k]
set_option tactic.hygienic true in
theorem mem_addK {nl : List PySem.Str} {k z : PySem.Str} : z ∈ addK nl k ↔ z ∈ nl ∨ z = k := by
  unfold addK; split
  · rename_i h; exact ⟨.inl, fun x => x.elim id fun e => e ▸ h⟩
  · simp
set_option tactic.hygienic true in
theorem nodup_addK {nl : List PySem.Str} {k : PySem.Str} (h : nl.Nodup) : (addK nl k).Nodup := by
  unfold addK; split
  · exact h
  · rename_i hk
    rw [List.nodup_append]
    refine ⟨h, by simp, fun a ha b hb => ?_⟩
    rw [List.mem_singleton.mp hb]; rintro rfl; exact hk ha
set_option tactic.hygienic true in
theorem touch_nds {S : SS} {nl : List PySem.Str} {np : PySem.Str → Int} {sc : PySem.Str → List PySem.Str} (h : S.nodes = nds nl np sc) (k : PySem.Str) (h0 : k ∉ nl → np k = 0 ∧ sc k = []) : (S.touch k).nodes = nds (addK nl k) np sc := by
  have hn : S.names = nl := by unfold SS.names; rw [h, nds_names]
  unfold SS.touch addK
  rw [hn]
  split
  · exact h
  · rename_i hk
    obtain ⟨a, b⟩ := h0 hk
    show S.nodes ++ [⟨k, 0, []⟩] = _
    rw [h]; unfold nds
    rw [List.map_append, List.map_singleton]
    unfold mkN; rw [a, b]
noncomputable def npT (told : List PySem.Str) (k : PySem.Str) : Int := (told.count k : Int)
noncomputable def scT (told : List PySem.Str) (k : PySem.Str) : List PySem.Str := told.filter fun p => dname p == k
noncomputable def nlT (told : List PySem.Str) : List PySem.Str := told.foldl (fun nl p => addK (addK nl p) (dname p)) []
theorem nlT_snoc (told : List PySem.Str) (p : PySem.Str) : nlT (told ++ [p]) = addK (addK (nlT told) p) (dname p) := by unfold nlT; rw [List.foldl_append]; rfl
theorem addAll_snoc (told : List PySem.Str) (p : PySem.Str) : addAll (told ++ [p]) = (addAll told).add p (dname p) := by unfold addAll; rw [List.foldl_append]; rfl
theorem addAll_spec (told : List PySem.Str) : (addAll told).nodes = nds (nlT told) (npT told) (scT told) ∧ (nlT told).Nodup ∧ (∀ k, k ∈ nlT told ↔ k ∈ told ∨ ∃ p ∈ told, dname p = k) ∧ (addAll told).passed = 0 ∧ (addAll told).fin = 0 := by
  induction h : told.reverse generalizing told with
  | nil =>
    have : told = [] := by simpa using h
    subst this
    exact ⟨rfl, List.nodup_nil, fun k => ⟨fun h => (by cases h), fun h => by simp at h⟩, rfl, rfl⟩
  | cons p r ih =>
    have e : told = r.reverse ++ [p] := by have := congrArg List.reverse h; simpa using this
    subst e
    obtain ⟨i1, i2, i3, i4, i5⟩ := ih r.reverse (by simp)
    generalize r.reverse = t at i1 i2 i3 i4 i5
    rw [nlT_snoc, addAll_snoc]
    have z1 : ∀ k, k ∉ nlT t → npT t k = 0 ∧ scT t k = [] := fun k hk => by
      rw [i3] at hk
      refine ⟨?_, ?_⟩
      · unfold npT; rw [List.count_eq_zero.mpr fun hm => hk (.inl hm)]; rfl
      · unfold scT; rw [List.filter_eq_nil_iff]; intro q hq hc; exact hk (.inr ⟨q, hq, by simpa using hc⟩)
    have t1 := touch_nds i1 p (z1 p)
    have n1 : (((addAll t).touch p).upd p fun N => { N with np := N.np + 1 }).nodes = nds (addK (nlT t) p) (npT (t ++ [p])) (scT t) := by
      show updN p (fun N => { N with np := N.np + 1 }) ((addAll t).touch p).nodes = _
      rw [t1, updN_np _ _ _ p (· + 1)]
      refine nds_congr (fun k V => ?_) fun V V => rfl
      unfold npT
      rw [List.count_append, List.count_singleton]
      by_cases e : k = p
      · subst e; simp
      · have : (p == k) = false := by simpa using Ne.symm e
        rw [if_neg e, this]; simp
    have t2 := touch_nds n1 (dname p) fun hk => by
      have hk1 : dname p ∉ nlT t := fun hm => hk (mem_addK.mpr (.inl hm))
      have hk2 : dname p ≠ p := fun hm => hk (mem_addK.mpr (.inr hm))
      obtain ⟨a, b⟩ := z1 _ hk1
      refine ⟨?_, b⟩
      unfold npT at *
      rw [List.count_append, List.count_singleton]
      have : (p == dname p) = false := by simpa using Ne.symm hk2
      rw [this]; simpa using a
    have n2 : ((addAll t).add p (dname p)).nodes = nds (addK (addK (nlT t) p) (dname p)) (npT (t ++ [p])) (scT (t ++ [p])) := by
      show updN (dname p) (fun N => { N with succ := N.succ ++ [p] }) ((((addAll t).touch p).upd p fun N => { N with np := N.np + 1 }).touch (dname p)).nodes = _
      rw [t2, updN_sc]
      refine nds_congr (fun V V => rfl) fun k V => ?_
      unfold scT
      rw [List.filter_append]
      by_cases e : k = dname p
      · subst e; simp
      · have : (dname p == k) = false := by simpa using Ne.symm e
        rw [if_neg e]; simp [this]
    have pf : ∀ S : SS, ∀ k, (S.touch k).passed = S.passed ∧ (S.touch k).fin = S.fin := fun S k => by unfold SS.touch; split <;> exact ⟨rfl, rfl⟩
    refine ⟨n2, nodup_addK (nodup_addK i2), fun k => ?_, ?_, ?_⟩
    · rw [mem_addK, mem_addK, i3]
      constructor
      · rintro (((h | ⟨q, hq, e⟩) | rfl) | rfl)
        · exact .inl (List.mem_append.mpr (.inl h))
        · exact .inr ⟨q, List.mem_append.mpr (.inl hq), e⟩
        · exact .inl (by simp)
        · exact .inr ⟨p, by simp, rfl⟩
      · rintro (h | ⟨q, hq, e⟩)
        · rcases List.mem_append.mp h with h | h
          · exact .inl (.inl (.inl h))
          · exact .inl (.inr (List.mem_singleton.mp h))
        · rcases List.mem_append.mp hq with h | h
          · exact .inl (.inl (.inr ⟨q, h, e⟩))
          · rw [List.mem_singleton.mp h] at e; exact .inr e.symm
    · show ((((addAll t).touch p).upd p fun N => { N with np := N.np + 1 }).touch (dname p)).passed = 0
      rw [(pf _ _).1]; show ((addAll t).touch p).passed = 0; rw [(pf _ _).1]; exact i4
    · show ((((addAll t).touch p).upd p fun N => { N with np := N.np + 1 }).touch (dname p)).fin = 0
      rw [(pf _ _).2]; show ((addAll t).touch p).fin = 0; rw [(pf _ _).2]; exact i5
end Mine
end
section
open PySem PySem.W PySem.Calls PyProof.Rows
namespace Mine
section
variable {S : SS} {nl : List PySem.Str} {np : PySem.Str → Int} {sc : PySem.Str → List PySem.Str}
theorem setNp_nds (h : S.nodes = nds nl np sc) (k : PySem.Str) (v : Int) : (setNpS S k v).nodes = nds nl (fun z => if z = k then v else np z) sc := by
  show updN k (fun N => { N with np := v }) S.nodes = _
  rw [h, updN_np _ _ _ k fun V => v]
theorem out_nds : ∀ (l : List PySem.Str) {S : SS} {np : PySem.Str → Int}, S.nodes = nds nl np sc → (outAll l S).nodes = nds nl (fun z => if z ∈ l then -1 else np z) sc ∧ (outAll l S).passed = S.passed ∧ (outAll l S).fin = S.fin
  | [], S, np, h => ⟨by show S.nodes = _; rw [h]; exact nds_congr (fun k V => by simp) fun V V => rfl, rfl, rfl⟩
  | k :: l, S, np, h => by
    obtain ⟨a, b, c⟩ := out_nds l (setNp_nds h k (-1))
    refine ⟨?_, b, c⟩
    show (outAll l (setNpS S k (-1))).nodes = _
    rw [a]
    refine nds_congr (fun z V => ?_) fun V V => rfl
    by_cases h1 : z ∈ l
    · simp [h1]
    · by_cases h2 : z = k
      · simp [h2]
      · simp [h1, h2]
theorem got_nds (h : S.nodes = nds nl np sc) (l : List PySem.Str) : (S.got l).nodes = nds nl (fun z => if z ∈ l then -1 else np z) sc ∧ (S.got l).ready = some [] ∧ (S.got l).passed = S.passed + l.length ∧ (S.got l).fin = S.fin := by
  obtain ⟨a, b, c⟩ := out_nds l h
  exact ⟨a, rfl, by show (outAll l S).passed + _ = _; rw [b], c⟩
theorem npOf_nds (h : S.nodes = nds nl np sc) (hn : nl.Nodup) {k : PySem.Str} (hk : k ∈ nl) : npOf S k = np k := by
  have := npOf_mem (S := S) (by rw [h, nds_names]; exact hn) (N := mkN np sc k) (by rw [h]; exact List.mem_map.mpr ⟨k, hk, rfl⟩)
  exact this
theorem scOf_nds (h : S.nodes = nds nl np sc) (hn : nl.Nodup) {k : PySem.Str} (hk : k ∈ nl) : scOf S k = sc k := by
  unfold scOf
  have := find_nd (ns := S.nodes) (by rw [h, nds_names]; exact hn) (N := mkN np sc k) (by rw [h]; exact List.mem_map.mpr ⟨k, hk, rfl⟩)
  rw [show (mkN np sc k).name = k from rfl] at this
  rw [this]; rfl
theorem dec_nds (hn : nl.Nodup) : ∀ (l : List PySem.Str) {S : SS} {np : PySem.Str → Int} {r : List PySem.Str}, S.nodes = nds nl np sc → S.ready = some r → l.Nodup → (∀ s ∈ l, s ∈ nl ∧ np s = 1) →
    (l.foldl decOne S).nodes = nds nl (fun z => if z ∈ l then 0 else np z) sc ∧ (l.foldl decOne S).ready = some (r ++ l) ∧ (l.foldl decOne S).passed = S.passed ∧ (l.foldl decOne S).fin = S.fin
  | [], S, np, r, h, hr, _, _ => ⟨by show S.nodes = _; rw [h]; exact nds_congr (fun k V => by simp) fun V V => rfl, by simpa using hr, rfl, rfl⟩
  | k :: l, S, np, r, h, hr, hl, hs => by
    rw [List.nodup_cons] at hl
    obtain ⟨hk, h1⟩ := hs k List.mem_cons_self
    have hd : (decS S k).nodes = nds nl (fun z => if z = k then np z - 1 else np z) sc := by
      show updN k (fun N => { N with np := N.np - 1 }) S.nodes = _
      rw [h, updN_np _ _ _ k (· - 1)]
    have h0 : npOf (decS S k) k = 0 := by rw [npOf_nds hd hn hk]; simp [h1]
    have he : decOne S k = { decS S k with ready := (decS S k).ready.map (· ++ [k]) } := by unfold decOne; rw [if_pos h0]
    have hr' : (decS S k).ready = some r := hr
    rw [List.foldl_cons, he, hr']
    obtain ⟨a, b, c, d⟩ := dec_nds hn l (S := { decS S k with ready := some (r ++ [k]) }) (np := fun z => if z = k then np z - 1 else np z) (r := r ++ [k]) hd rfl hl.2 (fun s hm => by
      have hne : s ≠ k := by rintro rfl; exact hl.1 hm
      simp only [if_neg hne]; exact hs s (List.mem_cons_of_mem _ hm))
    refine ⟨?_, by rw [show (Option.map (fun x => x ++ [k]) (some r)) = some (r ++ [k]) from rfl, b]; simp, c, d⟩
    rw [show (Option.map (fun x => x ++ [k]) (some r)) = some (r ++ [k]) from rfl, a]
    refine nds_congr (fun z V => ?_) fun V V => rfl
    by_cases h2 : z ∈ l
    · simp [h2]
    · by_cases h3 : z = k
      · subst h3; simp [h2, h1]
      · simp [h2, h3]
theorem done_nds (hn : nl.Nodup) (h : S.nodes = nds nl np sc) {r l : List PySem.Str} {k : PySem.Str} (hr : S.ready = some r) (hl : l.Nodup) (hs : ∀ s ∈ l, s ∈ nl ∧ s ≠ k ∧ np s = 1) :
    (S.doneS k l).nodes = nds nl (fun z => if z ∈ l then 0 else if z = k then -2 else np z) sc ∧ (S.doneS k l).ready = some (r ++ l) ∧ (S.doneS k l).passed = S.passed ∧ (S.doneS k l).fin = S.fin + 1 := by
  obtain ⟨a, b, c, d⟩ := dec_nds hn l (S := setNpS S k (-2)) (setNp_nds h k (-2)) (r := r) hr hl (fun s hm => by
    obtain ⟨h1, h2, h3⟩ := hs s hm
    exact ⟨h1, by simp only [if_neg h2]; exact h3⟩)
  exact ⟨a, b, c, by show (l.foldl decOne (setNpS S k (-2))).fin + 1 = _; rw [d]; rfl⟩
end
/-- the roots -/
theorem zeros_nds {nl : List PySem.Str} {np : PySem.Str → Int} {sc : PySem.Str → List PySem.Str} {k : PySem.Str} (hn : nl.Nodup) (hk : k ∈ nl) (h : ∀ z ∈ nl, np z = 0 ↔ z = k) : zerosN (nds nl np sc) = [k] := by
  have e : zerosN (nds nl np sc) = nl.filter fun z => np z == 0 := by
    unfold zerosN nds
    rw [List.filter_map, List.map_map]
    conv => rhs; rw [← List.map_id (nl.filter _)]
    rfl
  rw [e]
  have e2 : (nl.filter fun z => np z == 0) = nl.filter fun z => z == k := List.filter_congr fun z hz => by
    rw [Bool.eq_iff_iff, beq_iff_eq, beq_iff_eq]; exact h z hz
  rw [e2]
  clear e e2 h
  induction nl with
  | nil => cases hk
  | cons a nl ih =>
    rw [List.nodup_cons] at hn
    by_cases ha : a = k
    · subst ha
      rw [List.filter_cons_of_pos (by simp)]
      congr 1
      rw [List.filter_eq_nil_iff]; intro z hz hc; rw [beq_iff_eq] at hc; subst hc; exact hn.1 hz
    · rw [List.filter_cons_of_neg (by simpa using ha)]
      exact ih hn.2 ((List.mem_cons.mp hk).resolve_left (Ne.symm ha))
end Mine
end
section
open PySem PySem.W PySem.Calls PyProof.Rows
namespace Mine
noncomputable def nmAt (k : Nat) : PySem.Str := lawNames.getD k ""
theorem nmAt_inj {j k : Nat} (hj : j < 7) (hk : k < 7) (h : nmAt j = nmAt k) : j = k := by
  have : ∀ j ∈ List.range 7, ∀ k ∈ List.range 7, nmAt j = nmAt k → j = k := by decide +kernel
  exact this j (List.mem_range.mpr hj) k (List.mem_range.mpr hk) h
theorem nmAt_mem {k : Nat} (hk : k < 7) : nmAt k ∈ lawNames := by
  have : ∀ k ∈ List.range 7, nmAt k ∈ lawNames := by decide +kernel
  exact this k (List.mem_range.mpr hk)
theorem nmAt_ne {k : Nat} (hk : k < 7) : nmAt k ≠ "" := by
  have : ∀ k ∈ List.range 7, nmAt k ≠ "" := by decide +kernel
  exact this k (List.mem_range.mpr hk)
theorem mem_more {ms : List Int} {i : Int} {n : PySem.Str} : n ∈ moreOf ms i ↔ ∃ k, k < 7 ∧ ms.getD k 0 = i ∧ nmAt k = n := by
  unfold moreOf
  simp only [List.mem_map, List.mem_filter, List.mem_range, beq_iff_eq]
  constructor
  · rintro ⟨k, ⟨h1, h2⟩, h3⟩; exact ⟨k, h1, h2, h3⟩
  · rintro ⟨k, h1, h2, h3⟩; exact ⟨k, ⟨h1, h2⟩, h3⟩
theorem more_nodup (ms : List Int) (i : Int) : (moreOf ms i).Nodup := by
  unfold moreOf
  rw [List.Nodup, List.pairwise_map]
  refine List.Pairwise.imp_of_mem ?_ (List.Nodup.sublist List.filter_sublist List.nodup_range)
  intro a b ha hb hne e
  have ha := List.mem_range.mp (List.mem_filter.mp ha).1
  have hb := List.mem_range.mp (List.mem_filter.mp hb).1
  exact hne (nmAt_inj ha hb e)
theorem more_disj {ms : List Int} {i j : Int} (h : i ≠ j) {n : PySem.Str} (h1 : n ∈ moreOf ms i) (h2 : n ∈ moreOf ms j) : False := by
  obtain ⟨k, hk, e1, e2⟩ := mem_more.mp h1
  obtain ⟨k', hk', e1', e2'⟩ := mem_more.mp h2
  have := nmAt_inj hk hk' (e2.trans e2'.symm)
  subst this
  exact h (e1.symm.trans e1')
/-- who is known at step i -/
noncomputable def KK (ms : List Int) (i : Nat) : List PySem.Str := "" :: (List.range i).flatMap fun (j : Nat) => moreOf ms (j : Int)
theorem KK_succ (ms : List Int) (i : Nat) : KK ms (i + 1) = KK ms i ++ moreOf ms (i : Int) := by
  unfold KK; rw [List.range_succ, List.flatMap_append]; simp
theorem mem_KK {ms : List Int} {i : Nat} {n : PySem.Str} : n ∈ KK ms i ↔ n = "" ∨ ∃ j, j < i ∧ n ∈ moreOf ms (j : Int) := by
  unfold KK
  simp only [List.mem_cons, List.mem_flatMap, List.mem_range]
theorem KK_nodup (ms : List Int) (i : Nat) : (KK ms i).Nodup := by
  unfold KK
  rw [List.nodup_cons]
  constructor
  · rw [List.mem_flatMap]
    rintro ⟨j, _, h⟩
    obtain ⟨k, hk, _, e⟩ := mem_more.mp h
    exact nmAt_ne hk e
  · rw [List.Nodup, List.pairwise_flatMap]
    refine ⟨fun j V => more_nodup ms j, ?_⟩
    refine List.Pairwise.imp ?_ (List.nodup_range (n := i))
    intro a b hne x hx y hy e
    subst e
    exact more_disj (fun e => hne (by lia)) hx hy
theorem putS_perm (way : Int) (w m : List PySem.Str) : (putS way w m).Perm (w ++ m) := by
  unfold putS
  split
  · exact List.Perm.refl _
  · split
    · exact List.perm_append_comm
    · unfold sortB
      split
      · exact (List.reverse_perm _).trans (List.mergeSort_perm _ _)
      · exact List.mergeSort_perm _ _
/-- the one that is served at step i -/
noncomputable def oneAt (ms : List Int) (way : Int) (i : Nat) : PySem.Str := (treeAt ms way i).waiting.headD ""
theorem treeAt_succ (ms : List Int) (way : Int) (i : Nat) : treeAt ms way (i + 1) = treeStep ms way (treeAt ms way i) i := by unfold treeAt; rw [List.range_succ, List.foldl_append]; rfl
theorem row_eq (ms : List Int) (way : Int) : ∀ i, (treeAt ms way i).row = (List.range i).map (oneAt ms way)
  | 0 => rfl
  | i + 1 => by rw [treeAt_succ, List.range_succ, List.map_append, ← row_eq ms way i]; rfl
structure Good (ms : List Int) : Prop where
  inr : ∀ w ∈ ms, InR w
  len : ms.length = 7
  emp : emptyOf ms = 7
section
variable {ms : List Int} {way : Int}
theorem wait_ne (g : Good ms) {i : Nat} (hi : i < 8) : (treeAt ms way i).waiting ≠ [] := by
  intro e
  have h1 := tree_wait_len way g.inr g.len g.emp i (by lia)
  have h2 := park g.inr g.len g.emp i (by lia)
  rw [e] at h1; simp at h1; lia
theorem wait_split (g : Good ms) {i : Nat} (hi : i < 8) : (treeAt ms way i).waiting = oneAt ms way i :: (treeAt ms way i).waiting.drop 1 := by
  unfold oneAt
  cases e : (treeAt ms way i).waiting with
  | nil => exact absurd e (wait_ne g hi)
  | cons a l => rfl
theorem tree_perm (g : Good ms) : ∀ i, i ≤ 8 → ((treeAt ms way i).row ++ (treeAt ms way i).waiting).Perm (KK ms i)
  | 0, _ => List.Perm.refl _
  | i + 1, hi => by
    have ih := tree_perm g i (by lia)
    rw [KK_succ, treeAt_succ]
    show (((treeAt ms way i).row ++ [oneAt ms way i]) ++ putS way ((treeAt ms way i).waiting.drop 1) (moreOf ms i)).Perm _
    refine ((putS_perm way _ _).append_left _).trans ?_
    rw [← List.append_assoc, List.append_assoc ((treeAt ms way i).row), List.singleton_append, ← wait_split g (by lia)]
    exact ih.append_right _
theorem tree_nodup (g : Good ms) {i : Nat} (hi : i ≤ 8) : ((treeAt ms way i).row ++ (treeAt ms way i).waiting).Nodup := (tree_perm g i hi).nodup_iff.mpr (KK_nodup ms i)
theorem one_mem (g : Good ms) {i : Nat} (hi : i < 8) : oneAt ms way i ∈ KK ms i :=
  (tree_perm (way := way) g i (by lia)).mem_iff.mp (List.mem_append.mpr (.inr (by rw [wait_split g hi]; exact List.mem_cons_self)))
theorem one_inj (g : Good ms) {i j : Nat} (hi : i < 8) (hj : j < 8) (h : oneAt ms way i = oneAt ms way j) : i = j := by
  have hn := (List.nodup_append.mp (tree_nodup (way := way) g (i := 8) (Nat.le_refl _))).1
  rw [row_eq] at hn
  rw [List.Nodup, List.pairwise_map] at hn
  by_cases e : i = j
  · exact e
  · exfalso
    rw [List.pairwise_iff_getElem] at hn
    by_cases hlt : i < j
    · exact hn i j (by simpa using hi) (by simpa using hj) hlt (by simpa using h)
    · exact hn j i (by simpa using hj) (by simpa using hi) (by lia) (by simpa using h.symm)
end
end Mine
end
section
open PySem PySem.W PySem.Calls PyProof.Rows
namespace Mine
/-- the way to each -/
noncomputable def PT (ms : List Int) (way : Int) : Nat → PySem.Str → List PySem.Str
  | 0 => fun V => []
  | i + 1 => fun n => if n ∈ moreOf ms (i : Int) then PT ms way i (oneAt ms way i) ++ [n] else PT ms way i n
noncomputable def rdOf (P : List PySem.Str) : PySem.Str := if P = [] then "" else render P
theorem rdOf_snoc (P : List PySem.Str) (n : PySem.Str) : rdOf P ++ "/" ++ n = rdOf (P ++ [n]) := by
  unfold rdOf
  rw [if_neg (show ¬ (P ++ [n] = []) from by simp), render_snoc]
  by_cases h : P = []
  · subst h; rfl
  · rw [if_neg h, if_neg h]
section
variable {ms : List Int} {way : Int}
theorem PT_stable {i : Nat} {n : PySem.Str} (h : n ∈ KK ms i) : PT ms way (i + 1) n = PT ms way i n := by
  show (if n ∈ moreOf ms (i : Int) then _ else _) = _
  rw [if_neg]
  intro hm
  have hn := KK_nodup ms (i + 1)
  rw [KK_succ, List.nodup_append] at hn
  exact hn.2.2 n h n hm rfl
theorem KK_mono {i j : Nat} (h : i ≤ j) {n : PySem.Str} (hn : n ∈ KK ms i) : n ∈ KK ms j := by
  rw [mem_KK] at *
  rcases hn with rfl | ⟨k, hk, hm⟩
  · exact .inl rfl
  · exact .inr ⟨k, by lia, hm⟩
theorem PT_le {n : PySem.Str} {i j : Nat} (hij : i ≤ j) (h : n ∈ KK ms i) : PT ms way j n = PT ms way i n := by
  obtain ⟨d, rfl⟩ : ∃ d, j = i + d := ⟨j - i, by lia⟩
  clear hij
  induction d with
  | zero => rfl
  | succ d ih => rw [← Nat.add_assoc, PT_stable (KK_mono (Nat.le_add_right _ _) h), ih]
theorem more7 (g : Good ms) : moreOf ms 7 = [] := by
  have h1 := park g.inr g.len g.emp 7 (Nat.le_refl _)
  have h2 := below_succ 7 ms
  have h3 : below (7 + 1) ms ≤ ms.length := List.countP_le_length
  have h4 := more_len g.len 7
  rw [g.len] at h3
  exact List.length_eq_zero_iff.mp (by rw [h4]; have : ((7 : Nat) : Int) = 7 := rfl; rw [this] at h1; lia)
theorem PT_spec (g : Good ms) : ∀ i, i ≤ 8 → ∀ n ∈ KK ms i, (∀ p ∈ PT ms way i n, p ∈ lawNames) ∧ (PT ms way i n).length ≤ min i 7 ∧ (n ≠ "" → ∃ Q, PT ms way i n = Q ++ [n]) ∧ (n = "" → PT ms way i n = [])
  | 0, _, n, hn => by
    have : n = "" := by rcases mem_KK.mp hn with h | ⟨j, hj, _⟩; exact h; lia
    subst this
    exact ⟨fun p hp => (by cases hp), Nat.zero_le _, fun h => absurd rfl h, fun V => rfl⟩
  | i + 1, hi, n, hn => by
    rw [KK_succ] at hn
    rcases List.mem_append.mp hn with hn | hn
    · obtain ⟨a, b, c, d⟩ := PT_spec g i (by lia) n hn
      rw [PT_stable hn]
      exact ⟨a, by lia, c, d⟩
    · have hi7 : i < 7 := by
        by_cases e : i = 7
        · subst e; have := more7 g; rw [show ((7 : Nat) : Int) = 7 from rfl, this] at hn; cases hn
        · lia
      obtain ⟨a, b, c, d⟩ := PT_spec g i (by lia) (oneAt ms way i) (one_mem g (by lia))
      have e : PT ms way (i + 1) n = PT ms way i (oneAt ms way i) ++ [n] := if_pos hn
      obtain ⟨k, hk, _, rfl⟩ := mem_more.mp hn
      rw [e]
      refine ⟨fun p hp => ?_, by rw [List.length_append, List.length_singleton]; lia, fun V => ⟨_, rfl⟩, fun h => absurd h (nmAt_ne hk)⟩
      rcases List.mem_append.mp hp with hp | hp
      · exact a p hp
      · rw [List.mem_singleton.mp hp]; exact nmAt_mem hk
theorem addRoads_lk {es : Loc} {one : PySem.Str} {x : PySem.Str} (hx : lk one es = some (.str x)) : ∀ (more : List PySem.Str), one ∉ more →
    ∀ z, lk z (addRoads es one more) = if z ∈ more then some (.str (x ++ "/" ++ z)) else lk z es := by
  intro more
  induction h : more.reverse generalizing more with
  | nil => have : more = [] := by simpa using h
           subst this; intro _ z; rfl
  | cons n r ih =>
    have e : more = r.reverse ++ [n] := by have := congrArg List.reverse h; simpa using this
    subst e
    intro hne z
    have ih := ih r.reverse (by simp) fun hm => hne (List.mem_append.mpr (.inl hm))
    generalize r.reverse = t at ih hne
    have h1 : one ∉ t := fun hm => hne (List.mem_append.mpr (.inl hm))
    have e2 : addRoads es one (t ++ [n]) = dstore (addRoads es one t) n (.str ((match lk one (addRoads es one t) with | some (.str x) => x | _ => "") ++ "/" ++ n)) := by unfold addRoads; rw [List.foldl_append]; rfl
    have e3 : lk one (addRoads es one t) = some (.str x) := by rw [ih one, if_neg h1]; exact hx
    rw [e2, e3, lk_dstore]
    by_cases hz : z = n
    · subst hz; simp
    · rw [if_neg hz, ih z]
      by_cases hm : z ∈ t
      · simp [hm]
      · simp [hm, hz]
theorem roads_eq (g : Good ms) : ∀ i, i ≤ 8 → ∀ n ∈ KK ms i, lk n (treeAt ms way i).roads = some (.str (rdOf (PT ms way i n)))
  | 0, _, n, hn => by
    have : n = "" := by rcases mem_KK.mp hn with h | ⟨j, hj, _⟩; exact h; lia
    subst this; rfl
  | i + 1, hi, n, hn => by
    have ho := one_mem (way := way) g (i := i) (by lia)
    have hx := roads_eq g i (by lia) _ ho
    have hnd := KK_nodup ms (i + 1)
    rw [KK_succ, List.nodup_append] at hnd
    rw [treeAt_succ]
    show lk n (addRoads (treeAt ms way i).roads (oneAt ms way i) (moreOf ms i)) = _
    rw [addRoads_lk hx _ (fun hm => hnd.2.2 _ ho _ hm rfl)]
    by_cases hm : n ∈ moreOf ms (i : Int)
    · rw [if_pos hm, rdOf_snoc]
      have e : PT ms way (i + 1) n = PT ms way i (oneAt ms way i) ++ [n] := if_pos hm
      rw [e]
    · rw [if_neg hm]
      rw [KK_succ] at hn
      have hk := (List.mem_append.mp hn).resolve_right hm
      rw [PT_stable hk]; exact roads_eq g i (by lia) n hk
end
end Mine
end
section
open PySem PySem.W PySem.Calls PyProof.Rows
namespace Mine
theorem addRoads_len (one : PySem.Str) : ∀ (more : List PySem.Str) (es : Loc), (addRoads es one more).length ≤ es.length + more.length
  | [], es => Nat.le_refl _
  | n :: r, es => by
    have h2 : ∀ v, (dstore es n v).length ≤ es.length + 1 := fun v => by unfold dstore; split <;> simp
    show (addRoads (dstore es n _) one r).length ≤ _
    refine Nat.le_trans (addRoads_len one r _) (Nat.le_trans (Nat.add_le_add_right (h2 _) _) ?_)
    simp only [List.length_cons]; lia
theorem more_le (ms : List Int) (i : Int) : (moreOf ms i).length ≤ 7 := by
  unfold moreOf; rw [List.length_map]
  exact Nat.le_trans (List.length_filter_le _ _) (by simp)
section
variable {ms : List Int} {way : Int}
theorem roads_len (i : Nat) : (treeAt ms way i).roads.length ≤ 1 + 7 * i := by
  induction i with
  | zero => exact Nat.le_refl _
  | succ i ih =>
    rw [treeAt_succ]
    have := addRoads_len (oneAt ms way i) (moreOf ms (i : Int)) (treeAt ms way i).roads
    have := more_le ms (i : Int)
    show (addRoads (treeAt ms way i).roads (oneAt ms way i) (moreOf ms (i : Int))).length ≤ _
    lia
theorem names_Nm {P : List PySem.Str} (h : ∀ p ∈ P, p ∈ lawNames) : ∀ p ∈ P, Nm p := fun p hp => nm_of p (h p hp)
theorem rd_len {P : List PySem.Str} (h : ∀ p ∈ P, p ∈ lawNames) (hl : P.length ≤ 7) : (rdOf P).length ≤ 29 := by
  unfold rdOf
  split
  · exact Nat.le_trans (show ("" : PySem.Str).length ≤ 0 from by decide) (Nat.zero_le _)
  · exact render_len (names_Nm h) hl
theorem tree_ok (g : Good ms) : TreeOk ms way := by
  have hb : ∀ (i : Int), below i ms ≤ 7 := fun i => by have := List.countP_le_length (p := fun w => decide (w < i)) (l := ms); rw [g.len] at this; exact this
  refine ⟨fun i hi => wait_ne g hi, fun i hi => ?_, fun i hi j hj => ?_, fun i hi j => ?_, g.len, fun i hi => ?_⟩
  · have := tree_wait_len way g.inr g.len g.emp i hi
    have := hb i; lia
  · have ho := one_mem (way := way) g hi
    have hnd := KK_nodup ms (i + 1)
    rw [KK_succ, List.nodup_append] at hnd
    obtain ⟨a, b, _, _⟩ := PT_spec (way := way) g i (by lia) _ ho
    refine ⟨rdOf (PT ms way i (oneAt ms way i)), ?_, by have := rd_len a (by lia); lia⟩
    show lk (oneAt ms way i) (addRoads (treeAt ms way i).roads (oneAt ms way i) ((moreOf ms (i : Int)).take j)) = _
    have hno : oneAt ms way i ∉ (moreOf ms (i : Int)).take j := fun hm => hnd.2.2 _ ho _ (List.mem_of_mem_take hm) rfl
    rw [addRoads_lk (roads_eq g i (by lia) _ ho) _ hno, if_neg hno]
    exact roads_eq g i (by lia) _ ho
  · have h1 := addRoads_len ((treeAt ms way i).waiting.headD "") ((moreOf ms (i : Int)).take j) (treeAt ms way i).roads
    have h2 := roads_len (ms := ms) (way := way) i
    have h3 := more_le ms (i : Int)
    have h4 : ((moreOf ms (i : Int)).take j).length ≤ (moreOf ms (i : Int)).length := by rw [List.length_take]; lia
    lia
  · rw [row_eq]; simp; lia
/-- all eight are known in the end -/
theorem all_known (g : Good ms) {k : Nat} (hk : k < 7) : ∃ j : Nat, j < 7 ∧ ms.getD k 0 = (j : Int) ∧ nmAt k ∈ moreOf ms (j : Int) := by
  have hin : ms.getD k 0 ∈ ms := by
    have : k < ms.length := by rw [g.len]; exact hk
    rw [List.getD_eq_getElem?_getD, List.getElem?_eq_getElem this]; exact List.getElem_mem _
  obtain ⟨h1, h2⟩ := g.inr _ hin
  have hm : nmAt k ∈ moreOf ms (((ms.getD k 0).toNat : Nat) : Int) := mem_more.mpr ⟨k, hk, by lia, rfl⟩
  refine ⟨(ms.getD k 0).toNat, ?_, by lia, hm⟩
  by_cases e : ms.getD k 0 = 7
  · exfalso
    rw [e] at hm
    have := more7 g
    rw [show (((7 : Int).toNat : Nat) : Int) = 7 from rfl, this] at hm; cases hm
  · lia
theorem name_known (g : Good ms) {k : Nat} (hk : k < 7) : nmAt k ∈ KK ms 8 := by
  obtain ⟨j, hj, _, hm⟩ := all_known g hk
  exact mem_KK.mpr (.inr ⟨j, by lia, hm⟩)
/-- the way to a car -/
noncomputable def way_ (ms : List Int) (way : Int) (n : PySem.Str) : List PySem.Str := PT ms way 8 n
theorem way_kid (g : Good ms) {n : PySem.Str} {j : Nat} (hj : j < 8) (h : n ∈ moreOf ms (j : Int)) : way_ ms way n = way_ ms way (oneAt ms way j) ++ [n] := by
  have h1 : n ∈ KK ms (j + 1) := mem_KK.mpr (.inr ⟨j, by lia, h⟩)
  unfold way_
  rw [PT_le (by lia : j + 1 ≤ 8) h1, PT_le (by lia : j ≤ 8) (one_mem (way := way) g hj)]
  exact if_pos h
theorem way_root : way_ ms way "" = [] := by
  have h0 : ("" : PySem.Str) ∈ KK ms 0 := mem_KK.mpr (.inl rfl)
  unfold way_; rw [PT_le (Nat.zero_le 8) h0]; rfl
theorem way_spec (g : Good ms) {n : PySem.Str} (hn : n ∈ KK ms 8) : (∀ p ∈ way_ ms way n, p ∈ lawNames) ∧ (way_ ms way n).length ≤ 7 ∧ (n ≠ "" → ∃ Q, way_ ms way n = Q ++ [n]) := by
  obtain ⟨a, b, c, _⟩ := PT_spec (way := way) g 8 (Nat.le_refl _) n hn
  exact ⟨a, by unfold way_; lia, c⟩
/-- different cars lie at different places -/
theorem way_inj (g : Good ms) {n m : PySem.Str} (hn : n ∈ KK ms 8) (hm : m ∈ KK ms 8) (h : way_ ms way n = way_ ms way m) : n = m := by
  obtain ⟨_, _, c⟩ := way_spec (way := way) g hn
  obtain ⟨_, _, c'⟩ := way_spec (way := way) g hm
  by_cases e : n = ""
  · subst e
    by_cases e' : m = ""
    · exact e'.symm
    · obtain ⟨Q, hQ⟩ := c' e'
      rw [way_root, hQ] at h; simp at h
  · obtain ⟨Q, hQ⟩ := c e
    by_cases e' : m = ""
    · subst e'; rw [way_root, hQ] at h; simp at h
    · obtain ⟨Q', hQ'⟩ := c' e'
      rw [hQ, hQ'] at h
      have := List.append_inj_right' h rfl
      simpa using this
end
end Mine
end
section
open PySem PySem.W PySem.Calls PyProof.Rows
namespace Mine
theorem more_sorted (ms : List Int) (i : Int) : (moreOf ms i).Pairwise fun a b => leS a b = true := by
  have key : ∀ j ∈ List.range 7, ∀ k ∈ List.range 7, j < k → leS (nmAt j) (nmAt k) = true := by decide +kernel
  unfold moreOf
  rw [List.pairwise_map]
  refine List.Pairwise.imp_of_mem ?_ (List.Pairwise.sublist List.filter_sublist List.pairwise_lt_range)
  intro a b ha hb hlt
  exact key a (List.mem_filter.mp ha).1 b (List.mem_filter.mp hb).1 hlt
theorem sort_more {ms : List Int} {i : Int} {l : List PySem.Str} (h : l.Perm (moreOf ms i)) : sortB false l = moreOf ms i := by
  show l.mergeSort leS = _
  exact List.Perm.eq_of_pairwise (fun a b V V => leS_antisymm a b) (List.pairwise_mergeSort leS_trans leS_total l) (more_sorted ms i) ((List.mergeSort_perm _ _).trans h)
/-- the place of a car -/
noncomputable def plc (ms : List Int) (way : Int) (n : PySem.Str) : PySem.Str := render (way_ ms way n)
noncomputable def toldOf (ms : List Int) (way : Int) (order : List Nat) : List PySem.Str := order.map fun k => plc ms way (nmAt k)
section
variable {ms : List Int} {way : Int} {order : List Nat}
theorem plc_root : plc ms way "" = "/" := by unfold plc; rw [way_root]; decide +kernel
theorem plc_inj (g : Good ms) {n m : PySem.Str} (hn : n ∈ KK ms 8) (hm : m ∈ KK ms 8) (h : plc ms way n = plc ms way m) : n = m :=
  way_inj (way := way) g hn hm (render_inj (names_Nm (way_spec g hn).1) (names_Nm (way_spec g hm).1) h)
theorem kid_Nm {n : PySem.Str} {j : Int} (h : n ∈ moreOf ms j) : Nm n := by
  obtain ⟨k, hk, _, rfl⟩ := mem_more.mp h; exact nm_of _ (nmAt_mem hk)
theorem one_known (g : Good ms) {j : Nat} (hj : j < 8) : oneAt ms way j ∈ KK ms 8 := KK_mono (by lia) (one_mem g hj)
theorem dname_plc (g : Good ms) {n : PySem.Str} {j : Nat} (hj : j < 8) (h : n ∈ moreOf ms (j : Int)) : dname (plc ms way n) = plc ms way (oneAt ms way j) := by
  unfold plc
  rw [way_kid g hj h]
  exact dname_render (names_Nm (way_spec g (one_known g hj)).1) (kid_Nm h)
theorem bname_plc (g : Good ms) {n : PySem.Str} {j : Nat} (hj : j < 8) (h : n ∈ moreOf ms (j : Int)) : bname (plc ms way n) = n := by
  unfold plc
  rw [way_kid g hj h]
  exact bname_render (kid_Nm h)
theorem bname_one (g : Good ms) {n : PySem.Str} (h : n ∈ KK ms 8) : bname (plc ms way n) = n := by
  rcases mem_KK.mp h with rfl | ⟨j, hj, hm⟩
  · unfold plc; rw [way_root]; exact bname_root
  · exact bname_plc g hj hm
theorem told_nodup (g : Good ms) (ho : order.Perm (List.range 7)) : (toldOf ms way order).Nodup := by
  unfold toldOf
  rw [List.Nodup, List.pairwise_map]
  refine List.Pairwise.imp_of_mem ?_ (ho.nodup_iff.mpr List.nodup_range)
  intro a b ha hb hne e
  have ha := List.mem_range.mp (ho.mem_iff.mp ha)
  have hb := List.mem_range.mp (ho.mem_iff.mp hb)
  exact hne (nmAt_inj ha hb (plc_inj g (name_known g ha) (name_known g hb) e))
theorem mem_told (ho : order.Perm (List.range 7)) {p : PySem.Str} : p ∈ toldOf ms way order ↔ ∃ k, k < 7 ∧ plc ms way (nmAt k) = p := by
  unfold toldOf
  rw [List.mem_map]
  constructor
  · rintro ⟨k, hk, e⟩; exact ⟨k, List.mem_range.mp (ho.mem_iff.mp hk), e⟩
  · rintro ⟨k, hk, e⟩; exact ⟨k, ho.mem_iff.mpr (List.mem_range.mpr hk), e⟩
/-- the kids of the one served at step j, in the order of telling -/
noncomputable def kidsOf (ms : List Int) (way : Int) (order : List Nat) (j : Nat) : List PySem.Str := (order.filter fun k => ms.getD k 0 == (j : Int)).map fun k => plc ms way (nmAt k)
theorem sc_told (g : Good ms) (ho : order.Perm (List.range 7)) {j : Nat} (hj : j < 8) : scT (toldOf ms way order) (plc ms way (oneAt ms way j)) = kidsOf ms way order j := by
  unfold scT toldOf kidsOf
  rw [List.filter_map]
  congr 1
  refine List.filter_congr fun k hk => ?_
  have hk7 := List.mem_range.mp (ho.mem_iff.mp hk)
  obtain ⟨i, hi, e, hm⟩ := all_known g hk7
  simp only [Function.comp]
  rw [dname_plc g (by lia) hm, e, Bool.eq_iff_iff, beq_iff_eq, beq_iff_eq]
  constructor
  · intro h
    have := one_inj (way := way) g (by lia) hj (plc_inj g (one_known g (by lia)) (one_known g hj) h)
    rw [this]
  · intro h
    have : i = j := by lia
    rw [this]
theorem kids_bname (g : Good ms) (ho : order.Perm (List.range 7)) {j : Nat} : ((kidsOf ms way order j).map bname).Perm (moreOf ms (j : Int)) := by
  have e : (kidsOf ms way order j).map bname = (order.filter fun k => ms.getD k 0 == (j : Int)).map nmAt := by
    unfold kidsOf
    rw [List.map_map]
    refine List.map_congr_left fun k hk => ?_
    have hk7 := List.mem_range.mp (ho.mem_iff.mp (List.mem_filter.mp hk).1)
    exact bname_one g (name_known g hk7)
  rw [e]
  exact (ho.filter _).map _
theorem kids_sort (g : Good ms) (ho : order.Perm (List.range 7)) {j : Nat} : sortB false ((kidsOf ms way order j).map bname) = moreOf ms (j : Int) := sort_more (kids_bname g ho)
end
end Mine
end
section
open PySem PySem.W PySem.Calls PyProof.Rows
namespace Mine
theorem addPl_snoc (p : Loc) (due : List PySem.Str) (x : PySem.Str) : addPl p (due ++ [x]) = dstore (addPl p due) (bname x) (.str x) := by unfold addPl; rw [List.foldl_append]; rfl
/-- places after some are put in -/
theorem addPl_lk {p : Loc} : ∀ (due : List PySem.Str), (due.map bname).Nodup → ∀ z, lk z (addPl p due) = if z ∈ due.map bname then (due.find? fun x => bname x == z).map AV.str else lk z p := by
  intro due
  induction h : due.reverse generalizing due with
  | nil => have : due = [] := by simpa using h
           subst this; intro _ z; rfl
  | cons x r ih =>
    have e : due = r.reverse ++ [x] := by have := congrArg List.reverse h; simpa using this
    subst e
    intro hn z
    rw [List.map_append, List.nodup_append] at hn
    have ih := ih r.reverse (by simp) hn.1 z
    generalize r.reverse = t at ih hn
    rw [addPl_snoc, lk_dstore, ih, List.map_append, List.find?_append]
    by_cases hz : z = bname x
    · subst hz
      have h1 : bname x ∉ t.map bname := fun hm => hn.2.2 _ hm _ (by simp) rfl
      have h2 : (t.find? fun y => bname y == bname x) = none := by
        rw [List.find?_eq_none]; intro y hy hc; exact h1 (List.mem_map.mpr ⟨y, hy, by simpa using hc⟩)
      simp [h2]
    · by_cases hm : z ∈ t.map bname
      · have : ∃ y, (t.find? fun y => bname y == z) = some y := by
          obtain ⟨y, hy, e⟩ := List.mem_map.mp hm
          cases q : (t.find? fun y => bname y == z) with
          | none => rw [List.find?_eq_none] at q; exact absurd (by simpa using e) (q y hy)
          | some y => exact ⟨y, rfl⟩
        obtain ⟨y, hy⟩ := this
        have hm' : z ∈ t.map bname ++ [x].map bname := List.mem_append.mpr (.inl hm)
        rw [if_neg hz, if_pos hm, if_pos hm', hy]; rfl
      · have hm' : z ∉ t.map bname ++ [x].map bname := by
          rw [List.mem_append]; rintro (h | h)
          · exact hm h
          · simp at h; exact hz h
        rw [if_neg hz, if_neg hm, if_neg hm']
end Mine
end
section
open PySem PySem.W PySem.Calls PyProof.Rows
namespace Mine
noncomputable def dueAt (ms : List Int) (way : Int) (order : List Nat) : Nat → List PySem.Str
  | 0 => ["/"]
  | j + 1 => kidsOf ms way order j
noncomputable def dueNames (ms : List Int) : Nat → List PySem.Str
  | 0 => [""]
  | j + 1 => moreOf ms (j : Int)
noncomputable def wtAt (ms : List Int) (way : Int) : Nat → List PySem.Str
  | 0 => []
  | j + 1 => (treeAt ms way j).waiting.drop 1
noncomputable def stat (ms : List Int) (way : Int) (i : Nat) (n : PySem.Str) : Int :=
  if n ∈ (treeAt ms way i).row then -2 else if n ∈ wtAt ms way i then -1 else if n ∈ dueNames ms i then 0 else 1
structure RunI (ms : List Int) (way : Int) (order : List Nat) (i : Nat) (s : Sv) : Prop where
  row : s.row = (treeAt ms way i).row
  due : s.due = dueAt ms way order i
  wtg : s.waiting = wtAt ms way i
  pl : ∀ n ∈ KK ms i, lk n (svPl s) = some (.str (plc ms way n))
  plz : s.places.length ≤ 8 * i
  nodes : ∃ np, s.S.nodes = nds (nlT (toldOf ms way order)) np (scT (toldOf ms way order)) ∧ ∀ n ∈ KK ms 8, np (plc ms way n) = stat ms way i n
  ready : s.S.ready = some s.due
  pas : s.S.passed = i + s.waiting.length
  fin : s.S.fin = i
section
variable {ms : List Int} {way : Int} {order : List Nat}
theorem sort_single (x : PySem.Str) : sortB false [x] = [x] := by
  show [x].mergeSort leS = [x]
  exact List.mergeSort_of_pairwise (by simp)
theorem put_root (way : Int) : putS way [] [("" : PySem.Str)] = [("" : PySem.Str)] := by
  have h := putS_perm way [] [("" : PySem.Str)]
  exact List.perm_singleton.mp h
theorem due_sort (g : Good ms) (ho : order.Perm (List.range 7)) : ∀ i, sortB false ((dueAt ms way order i).map bname) = dueNames ms i
  | 0 => by
    show sortB false [bname "/"] = [("" : PySem.Str)]
    have : bname "/" = "" := by decide +kernel
    rw [this, sort_single]
  | j + 1 => kids_sort g ho
theorem wait_eq : ∀ i, putS way (wtAt ms way i) (dueNames ms i) = (treeAt ms way i).waiting
  | 0 => put_root way
  | j + 1 => by rw [treeAt_succ]; rfl
theorem wait_mem (i : Nat) {n : PySem.Str} : n ∈ (treeAt ms way i).waiting ↔ n ∈ wtAt ms way i ∨ n ∈ dueNames ms i := by
  rw [← wait_eq, (putS_perm _ _ _).mem_iff, List.mem_append]
theorem KK_mem (g : Good ms) {i : Nat} (hi : i ≤ 8) {n : PySem.Str} : n ∈ KK ms i ↔ n ∈ (treeAt ms way i).row ∨ n ∈ (treeAt ms way i).waiting := by
  rw [← (tree_perm (way := way) g i hi).mem_iff, List.mem_append]
theorem due_mem (g : Good ms) (ho : order.Perm (List.range 7)) {i : Nat} (hi : i ≤ 8) {n : PySem.Str} (hn : n ∈ KK ms 8) : plc ms way n ∈ dueAt ms way order i ↔ n ∈ dueNames ms i := by
  cases i with
  | zero =>
    show plc ms way n ∈ [("/" : PySem.Str)] ↔ n ∈ [("" : PySem.Str)]
    rw [List.mem_singleton, List.mem_singleton]
    constructor
    · intro h
      exact plc_inj (way := way) g hn (mem_KK.mpr (.inl rfl)) (h.trans plc_root.symm)
    · rintro rfl; exact plc_root
  | succ j =>
    show plc ms way n ∈ kidsOf ms way order j ↔ n ∈ moreOf ms (j : Int)
    unfold kidsOf
    rw [List.mem_map, mem_more]
    constructor
    · rintro ⟨k, hk, e⟩
      obtain ⟨h1, h2⟩ := List.mem_filter.mp hk
      have hk7 := List.mem_range.mp (ho.mem_iff.mp h1)
      exact ⟨k, hk7, by simpa using h2, plc_inj g (name_known g hk7) hn e⟩
    · rintro ⟨k, hk, e, rfl⟩
      exact ⟨k, List.mem_filter.mpr ⟨ho.mem_iff.mpr (List.mem_range.mpr hk), by simpa using e⟩, rfl⟩
end
end Mine
end
section
open PySem PySem.W PySem.Calls PyProof.Rows
namespace Mine
section
variable {ms : List Int} {way : Int} {order : List Nat}
theorem svAt_succ (told : List PySem.Str) (way : Int) (s : Sv) (i : Nat) : svAt told way s (i + 1) = svStep told way (svAt told way s i) := by unfold svAt; rw [List.range_succ, List.foldl_append]; rfl
theorem RunI.wt {i : Nat} {s : Sv} (g : Good ms) (ho : order.Perm (List.range 7)) (R : RunI ms way order i s) : svWt way s = (treeAt ms way i).waiting := by
  unfold svWt; rw [R.wtg, R.due, due_sort g ho, wait_eq]
theorem RunI.last {i : Nat} {s : Sv} (g : Good ms) (ho : order.Perm (List.range 7)) (hi : i < 8) (R : RunI ms way order i s) : (svWt way s).headD "" = oneAt ms way i ∧ lk (oneAt ms way i) (svPl s) = some (.str (plc ms way (oneAt ms way i))) ∧ svLast way s = plc ms way (oneAt ms way i) := by
  have h1 : (svWt way s).headD "" = oneAt ms way i := by rw [R.wt g ho]; rfl
  have h2 := R.pl _ (one_mem (way := way) g hi)
  refine ⟨h1, h2, ?_⟩
  unfold svLast; rw [h1, h2]
theorem nl_mem (g : Good ms) (ho : order.Perm (List.range 7)) {n : PySem.Str} (hn : n ∈ KK ms 8) : plc ms way n ∈ nlT (toldOf ms way order) := by
  rw [(addAll_spec (toldOf ms way order)).2.2.1]
  rcases mem_KK.mp hn with rfl | ⟨j, hj, hm⟩
  · -- some car lies right under the root
    have h1 : 1 ≤ (moreOf ms ((0 : Nat) : Int)).length := by
      have := park g.inr g.len g.emp 1 (by lia)
      have h2 := below_succ 0 ms
      have h3 : below 0 ms = 0 := by
        unfold below; rw [List.countP_eq_zero]; intro w hw; have := (g.inr w hw).1; simp; lia
      rw [more_len g.len]
      rw [show ((1 : Nat) : Int) = 0 + 1 from rfl] at this
      rw [show ((0 : Nat) : Int) = 0 from rfl]; lia
    obtain ⟨n, hn'⟩ : ∃ n, n ∈ moreOf ms ((0 : Nat) : Int) := by
      cases e : moreOf ms ((0 : Nat) : Int) with
      | nil => rw [e] at h1; simp at h1
      | cons a l => exact ⟨a, List.mem_cons_self⟩
    obtain ⟨k, hk, e1, rfl⟩ := mem_more.mp hn'
    refine .inr ⟨plc ms way (nmAt k), (mem_told ho).mpr ⟨k, hk, rfl⟩, ?_⟩
    rw [dname_plc g (by lia : (0 : Nat) < 8) hn']; rfl
  · obtain ⟨k, hk, _, rfl⟩ := mem_more.mp hm
    exact .inl ((mem_told ho).mpr ⟨k, hk, rfl⟩)
theorem nl_back (g : Good ms) (ho : order.Perm (List.range 7)) {z : PySem.Str} (hz : z ∈ nlT (toldOf ms way order)) : ∃ n ∈ KK ms 8, plc ms way n = z := by
  rw [(addAll_spec (toldOf ms way order)).2.2.1] at hz
  rcases hz with h | ⟨p, hp, e⟩
  · obtain ⟨k, hk, e⟩ := (mem_told ho).mp h
    exact ⟨nmAt k, name_known g hk, e⟩
  · obtain ⟨k, hk, rfl⟩ := (mem_told ho).mp hp
    obtain ⟨j, hj, _, hm⟩ := all_known g hk
    exact ⟨oneAt ms way j, one_known g (by lia), by rw [← e, dname_plc g (by lia) hm]⟩
end
end Mine
end
section
open PySem PySem.W PySem.Calls PyProof.Rows
namespace Mine
section
variable {ms : List Int} {way : Int} {order : List Nat}
theorem told_root (g : Good ms) (ho : order.Perm (List.range 7)) {n : PySem.Str} (hn : n ∈ KK ms 8) : plc ms way n ∈ toldOf ms way order ↔ n ≠ "" := by
  rw [mem_told ho]
  constructor
  · rintro ⟨k, hk, e⟩ rfl
    exact nmAt_ne hk (plc_inj (way := way) g (name_known g hk) hn e)
  · intro h
    rcases mem_KK.mp hn with rfl | ⟨j, hj, hm⟩
    · exact absurd rfl h
    · obtain ⟨k, hk, _, rfl⟩ := mem_more.mp hm
      exact ⟨k, hk, rfl⟩
theorem np_told (g : Good ms) (ho : order.Perm (List.range 7)) {n : PySem.Str} (hn : n ∈ KK ms 8) : npT (toldOf ms way order) (plc ms way n) = if n = "" then 0 else 1 := by
  unfold npT
  by_cases e : n = ""
  · rw [if_pos e, List.count_eq_zero.mpr fun hm => (told_root g ho hn).mp hm e]; rfl
  · rw [if_neg e]
    have h1 := (told_root (way := way) g ho hn).mpr e
    have h2 := List.count_pos_iff.mpr h1
    have h3 := List.nodup_iff_count.mp (told_nodup (way := way) g ho) (plc ms way n)
    lia
set_option tactic.hygienic true in
theorem run_zero (g : Good ms) (ho : order.Perm (List.range 7)) : RunI ms way order 0 (sv0 (toldOf ms way order)) := by
  obtain ⟨a1, a2, a3, a4, a5⟩ := addAll_spec (toldOf ms way order)
  have hroot : ("" : PySem.Str) ∈ KK ms 8 := mem_KK.mpr (.inl rfl)
  have hz : zerosN (addAll (toldOf ms way order)).nodes = [("/" : PySem.Str)] := by
    rw [a1, ← plc_root (ms := ms) (way := way)]
    refine zeros_nds a2 (nl_mem g ho hroot) fun z hz => ?_
    obtain ⟨n, hn, rfl⟩ := nl_back g ho hz
    rw [np_told g ho hn]
    constructor
    · intro h; split at h
      · rename_i e; rw [e]
      · lia
    · intro h; rw [if_pos (plc_inj g hn hroot h)]
  refine ⟨rfl, rfl, rfl, fun n hn => ?_, Nat.le_refl _, ⟨_, a1, fun n hn => ?_⟩, ?_, a4, a5⟩
  · have : n = "" := by rcases mem_KK.mp hn with h | ⟨j, hj, _⟩; exact h; lia
    subst this
    rw [plc_root]
    show lk "" (addPl [] [("/" : PySem.Str)]) = _
    have hb : bname "/" = "" := by decide +kernel
    show lk "" (dstore [] (bname "/") (.str "/")) = _
    rw [hb, lk_dstore]; rfl
  · rw [np_told g ho hn]
    unfold stat
    show _ = if n ∈ ([] : List PySem.Str) then -2 else if n ∈ ([] : List PySem.Str) then -1 else if n ∈ [("" : PySem.Str)] then 0 else 1
    simp
  · show some (zerosN (addAll (toldOf ms way order)).nodes) = some [("/" : PySem.Str)]
    rw [hz]
end
end Mine
end
section
open PySem PySem.W PySem.Calls PyProof.Rows
namespace Mine
section
variable {ms : List Int} {way : Int} {order : List Nat}
theorem kids_nodup (g : Good ms) (ho : order.Perm (List.range 7)) (j : Nat) : (kidsOf ms way order j).Nodup := by
  have : ((kidsOf ms way order j).map bname).Nodup := (kids_bname g ho).nodup_iff.mpr (more_nodup ms j)
  exact List.Pairwise.imp (fun h e => h (by rw [e])) (List.pairwise_map.mp this)
theorem due_len (ho : order.Perm (List.range 7)) : ∀ i, (dueAt ms way order i).length ≤ 8
  | 0 => by show 1 ≤ 8; lia
  | j + 1 => by
    show (kidsOf ms way order j).length ≤ 8
    unfold kidsOf; rw [List.length_map]
    have h1 := List.length_filter_le (fun k => ms.getD k 0 == (j : Int)) order
    have h2 := ho.length_eq
    simp at h2; lia
theorem run_step (g : Good ms) (ho : order.Perm (List.range 7)) {i : Nat} (hi : i < 8) {s : Sv} (R : RunI ms way order i s) : RunI ms way order (i + 1) (svStep (toldOf ms way order) way s) := by
  obtain ⟨l1, l2, l3⟩ := R.last g ho hi
  obtain ⟨np, n1, n2⟩ := R.nodes
  have hnl := (addAll_spec (toldOf ms way order)).2.1
  obtain ⟨g1, g2, g3, g4⟩ := got_nds n1 s.due
  obtain ⟨k1, k2, k3, k4⟩ := got_nds g1 []
  have hone := one_known (way := way) g hi
  have hsc : scOf (svS2 s) (svLast way s) = kidsOf ms way order i := by
    rw [l3]; unfold svS2; rw [scOf_nds k1 hnl (nl_mem g ho hone), sc_told g ho hi]
  have hkid : ∀ z ∈ kidsOf ms way order i, ∃ n ∈ moreOf ms (i : Int), n ∈ KK ms 8 ∧ plc ms way n = z := fun z hz => by
    unfold kidsOf at hz
    obtain ⟨k, hk, e⟩ := List.mem_map.mp hz
    obtain ⟨h1, h2⟩ := List.mem_filter.mp hk
    have hk7 := List.mem_range.mp (ho.mem_iff.mp h1)
    exact ⟨nmAt k, mem_more.mpr ⟨k, hk7, by simpa using h2, rfl⟩, name_known g hk7, e⟩
  have hdis : ∀ n ∈ moreOf ms (i : Int), n ∉ KK ms i := fun n hm hk => by
    have hn := KK_nodup ms (i + 1)
    rw [KK_succ, List.nodup_append] at hn
    exact hn.2.2 n hk n hm rfl
  have hdueK : ∀ n, n ∈ dueNames ms i → n ∈ KK ms i := fun n h => (KK_mem (way := way) g (by lia)).mpr (.inr ((wait_mem i).mpr (.inr h)))
  obtain ⟨d1, d2, d3, d4⟩ := done_nds (S := svS2 s) (k := svLast way s) (l := scOf (svS2 s) (svLast way s)) hnl k1 k2 (by rw [hsc]; exact kids_nodup g ho i) (fun z hz => by
    rw [hsc] at hz
    obtain ⟨n, hm, hn, rfl⟩ := hkid z hz
    refine ⟨nl_mem g ho hn, fun e => ?_, ?_⟩
    · rw [l3] at e
      have := plc_inj g hn hone e
      subst this
      exact hdis _ hm (one_mem g hi)
    · have hnd : plc ms way n ∉ s.due := by rw [R.due, due_mem g ho (by lia) hn]; exact fun h => hdis n hm (hdueK n h)
      simp only [List.not_mem_nil, if_false, if_neg hnd]
      rw [n2 n hn]
      unfold stat
      have h1 : n ∉ (treeAt ms way i).row := fun h => hdis n hm ((KK_mem (way := way) g (by lia)).mpr (.inl h))
      have h2 : n ∉ wtAt ms way i := fun h => hdis n hm ((KK_mem (way := way) g (by lia)).mpr (.inr ((wait_mem i).mpr (.inl h))))
      have h3 : n ∉ dueNames ms i := fun h => hdis n hm (hdueK n h)
      rw [if_neg h1, if_neg h2, if_neg h3])
  rw [hsc] at d1 d2 d3 d4
  have hrow : (treeAt ms way (i + 1)).row = (treeAt ms way i).row ++ [oneAt ms way i] := by rw [treeAt_succ]; rfl
  have hwt := R.wt g ho
  refine ⟨?_, ?_, ?_, fun n hn => ?_, ?_, ⟨_, (show (svS3 way s).nodes = _ from by unfold svS3; rw [hsc]; exact d1), fun n hn => ?_⟩, ?_, ?_, ?_⟩
  · show s.row ++ [(svWt way s).headD ""] = _
    rw [l1, R.row, hrow]
  · show (toldOf ms way order).filter (fun p => dname p == svLast way s) = kidsOf ms way order i
    rw [l3]; exact sc_told g ho hi
  · show (svWt way s).drop 1 = (treeAt ms way i).waiting.drop 1
    rw [hwt]
  · show lk n (addPl (svPl s) ((toldOf ms way order).filter fun p => dname p == svLast way s)) = _
    have hdu : ((toldOf ms way order).filter fun p => dname p == svLast way s) = kidsOf ms way order i := by rw [l3]; exact sc_told g ho hi
    rw [hdu, addPl_lk _ ((kids_bname g ho).nodup_iff.mpr (more_nodup ms i))]
    have hmi := (kids_bname (way := way) (order := order) (j := i) g ho).mem_iff (a := n)
    by_cases hm : n ∈ moreOf ms (i : Int)
    · rw [if_pos (hmi.mpr hm)]
      obtain ⟨k, hk, e, rfl⟩ := mem_more.mp hm
      have hin : plc ms way (nmAt k) ∈ kidsOf ms way order i := (due_mem (i := i + 1) g ho (by lia) (name_known g hk)).mpr hm
      cases q : (kidsOf ms way order i).find? fun x => bname x == nmAt k with
      | none =>
        rw [List.find?_eq_none] at q
        exact absurd (by rw [bname_one g (name_known g hk)]; simp) (q _ hin)
      | some y =>
        have h1 := List.mem_of_find?_eq_some q
        have h2 := List.find?_some q
        obtain ⟨m, _, hmK, rfl⟩ := hkid y h1
        rw [bname_one g hmK, beq_iff_eq] at h2
        rw [h2]; rfl
    · rw [if_neg fun h => hm (hmi.mp h)]
      rw [KK_succ] at hn
      exact R.pl n ((List.mem_append.mp hn).resolve_right hm)
  · show (svPl s).length ≤ _
    have h1 := addPl_len s.places s.due
    have h2 := R.plz
    have h3 : s.due.length ≤ 8 := by rw [R.due]; exact due_len ho i
    unfold svPl; lia
  · have hrowm : n ∈ (treeAt ms way (i + 1)).row ↔ n ∈ (treeAt ms way i).row ∨ n = oneAt ms way i := by rw [hrow]; simp
    have hwm : n ∈ wtAt ms way (i + 1) ↔ n ∈ (treeAt ms way i).waiting.drop 1 := Iff.rfl
    have hnod := tree_nodup (way := way) g (i := i) (by lia)
    rw [List.nodup_append] at hnod
    have hsplit := wait_split (way := way) g hi
    have honen : oneAt ms way i ∉ (treeAt ms way i).waiting.drop 1 := by
      have := hnod.2.1; rw [hsplit, List.nodup_cons] at this; exact this.1
    have hwait : n ∈ (treeAt ms way i).waiting ↔ n = oneAt ms way i ∨ n ∈ (treeAt ms way i).waiting.drop 1 := by
      constructor
      · intro h; rw [hsplit] at h; exact List.mem_cons.mp h
      · intro h; rw [hsplit]; exact List.mem_cons.mpr h
    have hkm : plc ms way n ∈ kidsOf ms way order i ↔ n ∈ moreOf ms (i : Int) := due_mem (i := i + 1) g ho (by lia) hn
    have hlm : plc ms way n = svLast way s ↔ n = oneAt ms way i := by
      rw [l3]; exact ⟨fun e => plc_inj g hn hone e, fun e => by rw [e]⟩
    have hdm : plc ms way n ∈ s.due ↔ n ∈ dueNames ms i := by rw [R.due]; exact due_mem g ho (by lia) hn
    show (if plc ms way n ∈ kidsOf ms way order i then 0 else if plc ms way n = svLast way s then -2 else if plc ms way n ∈ [] then -1 else if plc ms way n ∈ s.due then -1 else np (plc ms way n)) = stat ms way (i + 1) n
    rw [n2 n hn]
    unfold stat
    show _ = if n ∈ (treeAt ms way (i + 1)).row then -2 else if n ∈ wtAt ms way (i + 1) then -1 else if n ∈ moreOf ms (i : Int) then 0 else 1
    simp only [hkm, hlm, hdm, hrowm, hwm, List.not_mem_nil, if_false]
    by_cases c1 : n ∈ moreOf ms (i : Int)
    · have h0 := hdis n c1
      have h1 : n ∉ (treeAt ms way i).row := fun h => h0 ((KK_mem (way := way) g (by lia)).mpr (.inl h))
      have h2 : n ∉ (treeAt ms way i).waiting := fun h => h0 ((KK_mem (way := way) g (by lia)).mpr (.inr h))
      have h3 : n ≠ oneAt ms way i := fun h => h2 (hwait.mpr (.inl h))
      have h4 : n ∉ (treeAt ms way i).waiting.drop 1 := fun h => h2 (hwait.mpr (.inr h))
      simp [-List.drop_one, c1, h1, h3, h4]
    · by_cases c2 : n = oneAt ms way i
      · rw [if_neg c1, if_pos c2, if_pos (Or.inr c2)]
      · by_cases c3 : n ∈ (treeAt ms way i).row
        · have h5 : n ∉ dueNames ms i := fun h => hnod.2.2 n c3 n ((wait_mem i).mpr (.inr h)) rfl
          simp [-List.drop_one, c1, c2, c3, h5]
        · by_cases c4 : n ∈ (treeAt ms way i).waiting
          · have h4 : n ∈ (treeAt ms way i).waiting.drop 1 := (hwait.mp c4).resolve_left c2
            rcases (wait_mem i).mp c4 with h | h
            · by_cases h6 : n ∈ dueNames ms i
              · simp [-List.drop_one, c1, c2, c3, h4, h6]
              · simp [-List.drop_one, c1, c2, c3, h4, h6, h]
            · simp [-List.drop_one, c1, c2, c3, h4, h]
          · have h4 : n ∉ (treeAt ms way i).waiting.drop 1 := fun h => c4 (hwait.mpr (.inr h))
            have h5 : n ∉ dueNames ms i := fun h => c4 ((wait_mem i).mpr (.inr h))
            have h6 : n ∉ wtAt ms way i := fun h => c4 ((wait_mem i).mpr (.inl h))
            simp [-List.drop_one, c1, c2, c3, h4, h5, h6]
  · show (svS3 way s).ready = some ((toldOf ms way order).filter fun p => dname p == svLast way s)
    unfold svS3; rw [hsc, d2, l3]
    show some ([] ++ kidsOf ms way order i) = some (scT (toldOf ms way order) (plc ms way (oneAt ms way i)))
    rw [sc_told g ho hi]; rfl
  · show (svS3 way s).passed = ((i + 1 : Nat) : Int) + ((svWt way s).drop 1).length
    unfold svS3; rw [hsc, d3]
    show ((s.S.got s.due).got []).passed = _
    rw [k3, g3, R.pas]
    have h1 : (svWt way s).length = s.waiting.length + s.due.length := by unfold svWt; rw [putS_len, sortB_len, List.length_map]
    have h2 : (svWt way s).length ≠ 0 := by rw [hwt]; exact fun h => wait_ne g hi (List.length_eq_zero_iff.mp h)
    rw [List.length_drop]
    simp only [List.length_nil]; lia
  · show (svS3 way s).fin = _
    unfold svS3; rw [hsc, d4]
    show ((s.S.got s.due).got []).fin + 1 = _
    rw [k4, g4, R.fin]; lia
end
end Mine
end
section
open PySem PySem.W PySem.Calls PyProof.Rows
namespace Mine
section
variable {ms : List Int} {way : Int} {order : List Nat}
theorem run_at (g : Good ms) (ho : order.Perm (List.range 7)) : ∀ i, i ≤ 8 → RunI ms way order i (svAt (toldOf ms way order) way (sv0 (toldOf ms way order)) i)
  | 0, _ => run_zero g ho
  | i + 1, hi => by rw [svAt_succ]; exact run_step g ho (by lia) (run_at g ho i (by lia))
theorem due_back (g : Good ms) (ho : order.Perm (List.range 7)) {i : Nat} (hi : i ≤ 8) {z : PySem.Str} (hz : z ∈ dueAt ms way order i) : ∃ n ∈ KK ms 8, plc ms way n = z := by
  cases i with
  | zero =>
    have : z ∈ [("/" : PySem.Str)] := hz
    rw [List.mem_singleton] at this
    exact ⟨"", mem_KK.mpr (.inl rfl), by rw [this]; exact plc_root⟩
  | succ j =>
    have hz : z ∈ kidsOf ms way order j := hz
    unfold kidsOf at hz
    obtain ⟨k, hk, e⟩ := List.mem_map.mp hz
    have hk7 := List.mem_range.mp (ho.mem_iff.mp (List.mem_filter.mp hk).1)
    exact ⟨nmAt k, name_known g hk7, e⟩
theorem plc_len (g : Good ms) {n : PySem.Str} (hn : n ∈ KK ms 8) : (plc ms way n).length ≤ 29 := by
  obtain ⟨a, b, _⟩ := way_spec (way := way) g hn
  exact render_len (names_Nm a) b
theorem sv_ok (g : Good ms) (ho : order.Perm (List.range 7)) {i : Nat} (hi : i < 8) {s : Sv} (R : RunI ms way order i s) : SvOk way s := by
  obtain ⟨l1, l2, l3⟩ := R.last g ho hi
  obtain ⟨np, n1, n2⟩ := R.nodes
  have hnl := (addAll_spec (toldOf ms way order)).2.1
  have hwt := R.wt g ho
  have hone := one_known (way := way) g hi
  have R' := run_step g ho hi R
  obtain ⟨g1, g2, g3, g4⟩ := got_nds n1 s.due
  obtain ⟨k1, k2, k3, k4⟩ := got_nds g1 []
  have hwn : svWt way s ≠ [] := by rw [hwt]; exact wait_ne g hi
  have hlen : (svWt way s).length = s.waiting.length + s.due.length := by unfold svWt; rw [putS_len, sortB_len, List.length_map]
  have hnames : s.S.names = nlT (toldOf ms way order) := by unfold SS.names; rw [n1, nds_names]
  have hnames2 : (svS2 s).names = nlT (toldOf ms way order) := by unfold SS.names svS2; rw [k1, nds_names]
  have hdl : s.due.length ≤ 8 := by rw [R.due]; exact due_len ho i
  have hwl : s.waiting.length ≤ 20 := by
    have h1 := (tree_ok (way := way) g).len i (by lia)
    rw [← hwt] at h1; lia
  obtain ⟨w1, w2, _⟩ := way_spec (way := way) g hone
  refine ⟨R.ready, ?_, fun k hk => ?_, ⟨by lia, hwl, ?_, ?_⟩, hwn, ?_, ?_, ?_, ⟨_, R'.ready⟩, ?_, ?_, ?_, fun k hk => ?_⟩
  · have h0 : (svWt way s).length ≠ 0 := fun h => hwn (List.length_eq_zero_iff.mp h)
    rw [R.fin, R.pas]
    by_cases hd : s.due = []
    · have : s.due.length = 0 := by rw [hd]; rfl
      rw [Bool.or_eq_true]; left
      rw [decide_eq_true_iff]; lia
    · rw [Bool.or_eq_true]; right
      cases e : s.due with
      | nil => exact absurd e hd
      | cons a l => rfl
  · rw [R.due] at hk
    obtain ⟨n, hn, rfl⟩ := due_back g ho (by lia) hk
    rw [hnames]; exact nl_mem g ho hn
  · have := R.plz; lia
  · rw [R.row, row_eq]; simp; lia
  · rw [l1, l3]; exact l2
  · have hm := nl_mem (way := way) g ho hone
    refine ⟨mkN (fun z => if z ∈ [] then -1 else if z ∈ s.due then -1 else np z) (scT (toldOf ms way order)) (plc ms way (oneAt ms way i)), ?_, ?_, ?_, ?_, ?_⟩
    · unfold svS2; rw [k1]; exact List.mem_map.mpr ⟨_, hm, rfl⟩
    · rw [l3]; rfl
    · have hw : oneAt ms way i ∈ (treeAt ms way i).waiting := by rw [wait_split g hi]; exact List.mem_cons_self
      have hr : oneAt ms way i ∉ (treeAt ms way i).row := fun h => (List.nodup_append.mp (tree_nodup (way := way) g (i := i) (by lia))).2.2 _ h _ hw rfl
      show (if plc ms way (oneAt ms way i) ∈ [] then (-1 : Int) else if plc ms way (oneAt ms way i) ∈ s.due then -1 else np (plc ms way (oneAt ms way i))) = -1
      rw [if_neg List.not_mem_nil]
      by_cases hd : plc ms way (oneAt ms way i) ∈ s.due
      · rw [if_pos hd]
      · rw [if_neg hd, n2 _ hone]
        rw [R.due, due_mem g ho (by lia) hone] at hd
        unfold stat
        rw [if_neg hr, if_pos (((wait_mem i).mp hw).resolve_right hd)]
    · show (scT (toldOf ms way order) (plc ms way (oneAt ms way i))).length ≤ 1000
      rw [sc_told g ho hi]
      have := due_len (ms := ms) (way := way) ho (i + 1)
      have h2 : (kidsOf ms way order i).length ≤ 8 := this
      lia
    · intro z hz
      have hz : z ∈ scT (toldOf ms way order) (plc ms way (oneAt ms way i)) := hz
      rw [sc_told g ho hi] at hz
      obtain ⟨n, hn, rfl⟩ := due_back (i := i + 1) g ho (by lia) hz
      rw [hnames2]; exact nl_mem g ho hn
  · obtain ⟨np', e1, e2⟩ := R'.nodes
    have hm := nl_mem (way := way) g ho hone
    refine ⟨_, (show mkN np' (scT (toldOf ms way order)) (plc ms way (oneAt ms way i)) ∈ (svS3 way s).nodes from ?_), ?_, ?_⟩
    · have e1 : (svS3 way s).nodes = _ := e1
      rw [e1]; exact List.mem_map.mpr ⟨_, hm, rfl⟩
    · rw [l3]; rfl
    · show np' (plc ms way (oneAt ms way i)) = -2
      rw [e2 _ hone]; unfold stat
      rw [if_pos]
      rw [row_eq, List.range_succ, List.map_append]; simp
  · rw [l3]; exact refused_render (names_Nm w1)
  · rw [l3]; have := plc_len (way := way) g hone; lia
  · rw [l3]; exact repr_fits (names_Nm w1) w2
  · rw [R.due] at hk
    obtain ⟨n, hn, rfl⟩ := due_back g ho (by lia) hk
    have := plc_len (way := way) g hn; lia
end
end Mine
end
section
open PySem PySem.W PySem.Calls PyProof.Rows
namespace Mine
section
variable {ms : List Int} {way : Int} {order : List Nat}
theorem above_snoc (told : List PySem.Str) (x : PySem.Str) : aboveOf (told ++ [x]) = dstore (aboveOf told) (bname x) (.str (bname (dname x))) := by unfold aboveOf; rw [List.foldl_append]; rfl
theorem above_lk : ∀ (told : List PySem.Str), (∀ p ∈ told, ∀ p' ∈ told, bname p = bname p' → p = p') → ∀ p ∈ told, lk (bname p) (aboveOf told) = some (.str (bname (dname p))) := by
  intro told
  induction h : told.reverse generalizing told with
  | nil => have : told = [] := by simpa using h
           subst this; intro _ p hp; cases hp
  | cons x r ih =>
    have e : told = r.reverse ++ [x] := by have := congrArg List.reverse h; simpa using this
    subst e
    intro hi p hp
    have ih := ih r.reverse (by simp) fun p hp p' hp' => hi p (List.mem_append.mpr (.inl hp)) p' (List.mem_append.mpr (.inl hp'))
    rw [above_snoc, lk_dstore]
    by_cases e : bname p = bname x
    · have := hi p hp x (by simp) e
      rw [if_pos e, this]
    · rw [if_neg e]
      rcases List.mem_append.mp hp with hp | hp
      · exact ih p hp
      · rw [List.mem_singleton.mp hp] at e; exact absurd rfl e
theorem told_len (ho : order.Perm (List.range 7)) : (toldOf ms way order).length = 7 := by
  unfold toldOf; rw [List.length_map, ho.length_eq, List.length_range]
noncomputable def rkOf (z : PySem.Str) : Nat := if z = "/" then 0 else z.length
theorem rk_lt (g : Good ms) {k : Nat} (hk : k < 7) : rkOf (dname (plc ms way (nmAt k))) < rkOf (plc ms way (nmAt k)) := by
  obtain ⟨j, hj, _, hm⟩ := all_known g hk
  rw [dname_plc g (by lia) hm]
  have hne : plc ms way (nmAt k) ≠ "/" := fun h => nmAt_ne hk (plc_inj g (name_known g hk) (mem_KK.mpr (.inl rfl)) (h.trans (plc_root (ms := ms) (way := way)).symm))
  have e2 : rkOf (plc ms way (nmAt k)) = (plc ms way (nmAt k)).length := by unfold rkOf; rw [if_neg hne]
  rw [e2]
  have e : plc ms way (nmAt k) = render (way_ ms way (oneAt ms way j) ++ [nmAt k]) := by unfold plc; rw [way_kid g (by lia) hm]
  rw [e, render_snoc, ← cl_len, cl_append, cl_append, cl_slash]
  by_cases h : way_ ms way (oneAt ms way j) = []
  · have : plc ms way (oneAt ms way j) = "/" := by unfold plc; rw [h]; decide +kernel
    rw [this]; unfold rkOf; rw [if_pos rfl]; simp; lia
  · rw [if_neg h]
    have : rkOf (plc ms way (oneAt ms way j)) ≤ (render (way_ ms way (oneAt ms way j))).length := by
      unfold rkOf plc; split <;> lia
    rw [← cl_len (render _)] at this
    simp only [List.length_append, List.length_singleton]; lia
theorem below8 (g : Good ms) (i : Int) : below i ms ≤ 7 := by have := List.countP_le_length (p := fun w => decide (w < i)) (l := ms); rw [g.len] at this; exact this
/-- all that the wishes ask, but for the texts -/
theorem wish_ok (g : Good ms) (ho : order.Perm (List.range 7)) {texts : List PySem.Str} (ht : texts.map npS = toldOf ms way order) (hnp : ∀ x ∈ texts, NpOk x) :
    WishOk texts (treeAt ms way 8).row way ms := by
  have htl : texts.length = 7 := by have := congrArg List.length ht; rw [List.length_map, told_len ho] at this; exact this
  have hin : ∀ k ∈ toldOf ms way order, ∃ n ∈ KK ms 8, plc ms way n = k := fun k hk => by
    obtain ⟨j, hj, e⟩ := (mem_told ho).mp hk
    exact ⟨_, name_known g hj, e⟩
  have hdin : ∀ k ∈ toldOf ms way order, ∃ n ∈ KK ms 8, plc ms way n = dname k := fun k hk => by
    obtain ⟨j, hj, e⟩ := (mem_told ho).mp hk
    obtain ⟨i, hi, _, hm⟩ := all_known g hj
    exact ⟨_, one_known (way := way) g (by lia : i < 8), by rw [← e, dname_plc g (by lia) hm]⟩
  have R8 := run_at (way := way) g ho 8 (Nat.le_refl _)
  have hrow8 : (treeAt ms way 8).row.length = 8 := by rw [row_eq]; simp
  refine ⟨hnp, by lia, ?_, ?_, ?_, ⟨rkOf, ?_⟩, ?_, ?_, ?_, by lia, ?_, g.len⟩
  · rw [ht]; intro k hk
    obtain ⟨n, hn, rfl⟩ := hin k hk
    have := plc_len (way := way) g hn; lia
  · rw [ht]; intro k hk
    obtain ⟨n, hn, e⟩ := hdin k hk
    rw [← e]
    have := plc_len (way := way) g hn; lia
  · rw [ht]; intro i _ N hN
    rw [(addAll_spec _).1] at hN
    obtain ⟨k, _, rfl⟩ := List.mem_map.mp hN
    show (scT _ k).length ≤ 1000
    unfold scT
    refine Nat.le_trans (List.length_filter_le _ _) ?_
    rw [List.length_take, told_len ho]; lia
  · rw [ht]; intro N hN s hs
    obtain ⟨a1, a2, a3, _, _⟩ := addAll_spec (toldOf ms way order)
    have hnames : (addAll (toldOf ms way order)).names = nlT (toldOf ms way order) := by unfold SS.names; rw [a1, nds_names]
    rw [a1] at hN
    obtain ⟨k, _, rfl⟩ := List.mem_map.mp hN
    have hs : s ∈ scT (toldOf ms way order) k := hs
    unfold scT at hs
    obtain ⟨h1, h2⟩ := List.mem_filter.mp hs
    rw [beq_iff_eq] at h2
    refine ⟨?_, by rw [hnames]; exact (a3 s).mpr (.inl h1)⟩
    show rkOf k < rkOf s
    obtain ⟨j, hj, rfl⟩ := (mem_told ho).mp h1
    rw [← h2]; exact rk_lt g hj
  · rw [ht]; intro i hi
    exact sv_ok g ho hi (run_at g ho i (by lia))
  · rw [ht]
    have hd : dueAt ms way order 8 = [] := by
      have h := (kids_bname (way := way) (order := order) (j := 7) g ho).length_eq
      have h7 := more7 g
      rw [show ((7 : Nat) : Int) = 7 from rfl, h7, List.length_map] at h
      exact List.length_eq_zero_iff.mp h
    have hw : (wtAt ms way 8).length = 0 := by
      show ((treeAt ms way 7).waiting.drop 1).length = 0
      have h1 := tree_wait_len way g.inr g.len g.emp 7 (by lia)
      have h2 := below8 g ((7 : Nat) : Int)
      rw [List.length_drop]; lia
    refine ⟨?_, ?_⟩
    · rw [R8.ready, R8.due, hd]
    · rw [R8.fin, R8.pas, R8.wtg, hw]; lia
  · rw [ht]; exact R8.row
  · rw [ht]; intro i nm hnm
    have hi7 : i < 7 := by
      have := (List.getElem?_eq_some_iff.mp hnm).1
      exact this
    have enm : nm = nmAt i := by unfold nmAt; rw [List.getD_eq_getElem?_getD, hnm]; rfl
    subst enm
    obtain ⟨j, hj, ej, hm⟩ := all_known g hi7
    have hrow : ∀ m, m < 8 → (treeAt ms way 8).row[m]? = some (oneAt ms way m) := fun m hm => by
      rw [row_eq, List.getElem?_map, List.getElem?_range hm]; rfl
    refine ⟨oneAt ms way j, j, ?_, hrow j (by lia), fun m hm' e => ?_, ?_⟩
    · have h := above_lk (toldOf ms way order) (fun p hp p' hp' e => by
        obtain ⟨n, hn, rfl⟩ := hin p hp
        obtain ⟨n', hn', rfl⟩ := hin p' hp'
        rw [bname_one g hn, bname_one g hn'] at e; rw [e]) (plc ms way (nmAt i)) ((mem_told ho).mpr ⟨i, hi7, rfl⟩)
      rw [bname_one g (name_known g hi7), dname_plc g (by lia) hm, bname_one g (one_known g (by lia))] at h
      exact h
    · rw [hrow m (by lia)] at e
      have := one_inj (way := way) g (by lia) (by lia) (Option.some.inj e)
      lia
    · have hl : i < ms.length := by rw [g.len]; exact hi7
      rw [List.getD_eq_getElem?_getD, List.getElem?_eq_getElem hl] at ej
      rw [List.getElem?_eq_getElem hl]
      exact congrArg some ej
end
end Mine
end
section
open PySem PySem.W PySem.Calls PyProof.Rows
namespace Mine
theorem order_perm (turn : Int) : (orderOf turn).Perm (List.range 7) := by
  unfold orderOf
  have h1 := Int.fmod_nonneg_of_pos (turn.fdiv 4) (show (0 : Int) < 7 by decide)
  have h2 := Int.fmod_lt_of_pos (turn.fdiv 4) (show (0 : Int) < 7 by decide)
  generalize (turn.fdiv 4).fmod 7 = f at h1 h2
  have : f = 0 ∨ f = 1 ∨ f = 2 ∨ f = 3 ∨ f = 4 ∨ f = 5 ∨ f = 6 := by lia
  rcases this with rfl | rfl | rfl | rfl | rfl | rfl | rfl <;> decide +kernel
theorem law_ok (nums : List Int) (turn : Int) (hl : nums.length = 7) : LawOk nums turn := by
  have g : Good (movedOf nums) := ⟨moved_inR nums, by unfold movedOf; rw [List.length_map, hl], moved_empty hl⟩
  have ho := order_perm turn
  have hrl : (nums.map fun n => n.fmod 8).length = 7 := by rw [List.length_map, hl]
  have hroad : ∀ k, k < 7 → way_ (movedOf nums) (turn.fmod 4) (nmAt k) ≠ [] ∧ lk (nmAt k) (treeOf nums turn).roads = some (.str (plc (movedOf nums) (turn.fmod 4) (nmAt k))) := fun k hk => by
    have hn := name_known g hk
    have h := roads_eq (way := turn.fmod 4) g 8 (Nat.le_refl _) _ hn
    obtain ⟨_, _, c⟩ := way_spec (way := turn.fmod 4) g hn
    obtain ⟨Q, hQ⟩ := c (nmAt_ne hk)
    have hne : way_ (movedOf nums) (turn.fmod 4) (nmAt k) ≠ [] := by rw [hQ]; simp
    refine ⟨hne, ?_⟩
    unfold treeOf; rw [h]; unfold rdOf
    have hne' : PT (movedOf nums) (turn.fmod 4) 8 (nmAt k) ≠ [] := hne
    rw [if_neg hne']; rfl
  have htext : ∀ k, k < 7 → textOf nums turn k = spelled (plc (movedOf nums) (turn.fmod 4) (nmAt k)) ((nums.getD k 0).fdiv 8) := fun k hk => by
    unfold textOf roadOf
    have h := (hroad k hk).2
    unfold nmAt at h ⊢
    rw [h]
  refine ⟨fr_of (rests_inR nums) hrl, by rw [frees_one (rests_inR nums) hrl]; simp, tree_ok g, fun k hk => ?_, ?_, fun s hs => ?_⟩
  · obtain ⟨hne, h⟩ := hroad k hk
    have hn := name_known g hk
    obtain ⟨a, b, _⟩ := way_spec (way := turn.fmod 4) g hn
    refine ⟨_, h, ?_, ?_⟩
    · have := plc_len (way := turn.fmod 4) g hn; lia
    · exact spell_fits hne (names_Nm a) b _
  · refine wish_ok g ho ?_ ?_
    · unfold textsOf toldOf
      rw [List.map_map]
      refine List.map_congr_left fun k hk => ?_
      have hk7 := List.mem_range.mp (ho.mem_iff.mp hk)
      rw [Function.comp_apply, htext k hk7]
      unfold plc
      exact normed (hroad k hk7).1 (names_Nm (way_spec g (name_known g hk7)).1) _
    · intro x hx
      unfold textsOf at hx
      obtain ⟨k, hk, rfl⟩ := List.mem_map.mp hx
      have hk7 := List.mem_range.mp (ho.mem_iff.mp hk)
      obtain ⟨a, b, _⟩ := way_spec (way := turn.fmod 4) g (name_known g hk7)
      rw [htext k hk7]
      unfold plc
      exact np_ok (hroad k hk7).1 (names_Nm a) b _
  · exact words_ok (moved_inR nums) g.len g.emp ⟨by lia, by lia⟩
end Mine
end
section
open PySem PySem.W PySem.W.X PyProof.Rows
set_option maxHeartbeats 8000000
namespace Mine
open PySem.Challenge (pw_om0109_01 rw_om0109_01)
theorem itemsInt {R : WRecords} : ∀ {xs : List WData}, WShape.hasItems R xs .int = true → ∀ d ∈ xs, ∃ i, d = .int i
  | [], _, d, h => by cases h
  | x :: xs, hx, d, h => by
    simp only [WShape.hasItems, Bool.and_eq_true] at hx
    rcases List.mem_cons.mp h with rfl | h
    · exact hasW_int hx.1
    · exact itemsInt hx.2 d h
theorem readInts {R : WRecords} {cl : PySem.Str → Option Addr} {h : Heap} : ∀ {vs : List PySem.Value} {xs : List WData} {as : List Addr}, ReadsAllW R cl h vs xs as → (∀ d ∈ xs, ∃ i, d = .int i) → (∀ v ∈ vs, ∃ i t, v = PySem.Value.int i t) ∧ vs.length = xs.length
  | _, _, _, .nil, _ => ⟨fun v h => (by cases h), rfl⟩
  | _, _, _, .cons r1 r2, hd => by
    obtain ⟨i1, i2⟩ := readInts r2 fun d h => hd d (List.mem_cons_of_mem _ h)
    obtain ⟨i, e⟩ := hd _ List.mem_cons_self
    subst e
    cases r1
    refine ⟨fun v h => ?_, by simp [i2]⟩
    rcases List.mem_cons.mp h with rfl | h
    · exact ⟨_, _, rfl⟩
    · exact i1 v h
set_option tactic.hygienic true in
theorem join (M : ∀ nums turn, nums.length = 7 → LawOk nums turn) : rw_om0109_01.Holds := by
  refine head ?_
  intro w s₀ s₁ mg mb G Y a o pm cd doc dV kV ho hdata hcode hd hmg hgens args vals as hpre hlay hrd hwell hsys
  obtain ⟨hsh, hp⟩ := pre_splitW hpre
  obtain ⟨d, r, rfl, h1, h2⟩ := hasAllW_cons hsh
  obtain rfl := hasAllW_nil h2
  obtain ⟨xs, rfl, h3⟩ := hasW_list h1
  have hint := itemsInt h3
  have hlen : xs.length ≤ 63 := by
    by_cases hx : xs.length ≤ 63
    · exact hx
    · exfalso
      have hp2 : (WTm.and (.not (.lt (.lit (.int 63)) (.len (.arg 0)))) (.lit (.bool true))).holds [] { args := [WData.list xs] } = true := hp
      have hlt : (63 : Int) < (xs.length : Int) := by omega
      have hl : less? (.int 63) (.int (xs.length : Int)) = some true := by simp [less?, Num.less?, hlt]
      simp [WTm.holds, WTm.value, hl] at hp2
  cases hrd with
  | cons r1 r2 =>
    cases r2
    cases r1 with
    | list g1 g2 g3 g4 =>
      rename_i la lo lvs ln las
      obtain ⟨i1, i2⟩ := readInts g4 hint
      have hB : BList ⟨w, s₁.heap, s₁.os, true⟩ la := ⟨lvs, ⟨lo, g1, g2, ln, g3⟩, i1, by have := Array.length_toList (xs := lvs); omega⟩
      have GG : Gnd ⟨w, s₁.heap, s₁.os, true⟩ := ⟨⟨Y, mg, mb, topR G.T⟩, rfl⟩
      have ha : a = 314 := by
        have e1 := mg_of (K := myK w.params) Y G.T.g (kn314 w.params)
        have e2 : mg "law" = some (.ref a) := hmg
        rw [e1] at e2; cases e2; rfl
      subst ha
      have W := c_law (n := 0) (hp := fun V => none) GG hB M [.ref la] ⟨⟨0, rfl⟩, trivial⟩
      refine wpAny_mono (W callerA _ s₁.heap s₁ ⟨fun V => rfl, by decide, by decide, fun b o e => e, [], rfl, trivial⟩ ⟨fun b o e => ⟨o.slots, e, fun V => rfl⟩, fun a X e => (by cases e), hgens, rfl, Nat.le_add_left 1 _⟩) (fun v s' hh => ?_) fun V V e => e
      obtain ⟨b, hp', rb, y, rfl⟩ := hh
      obtain ⟨t, rfl⟩ := rb
      refine GoodW.toG ⟨.inl ⟨_, .bool true, [], rfl, fun V => rfl, .bool true, ?_, fun V => ⟨.nil, fun a h => (by cases h)⟩⟩, fun b o e => ?_, y.os, y.gens⟩
      · show (WShape.has [] (.bool true) .bool && (WTm.eq .res (.lit (.bool true))).holds [] ⟨[.list xs], some (.bool true), [.list xs], []⟩) = true
        have hs : same (.bool true) (.bool true) = true := by simp [same]
        simp [WShape.has, WShape.arms, WTm.holds, WTm.value, hs]
      · obtain ⟨sl, e', r⟩ := y.keep b o e
        have : sl = o.slots := r (by show b ∉ SA callerA; exact List.not_mem_nil)
        rw [e', this]
end Mine
end
theorem PySem.Challenge.cw_om0109_01_holds : PySem.Challenge.rw_om0109_01.Holds :=
  Mine.join Mine.law_ok
