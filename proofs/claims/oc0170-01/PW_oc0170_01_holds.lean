import PyProof.Rows.All
import Wide.All
import OpenK.AllK
import Wide.FinOn
import Lean
import PySem.Challenge.RW_oc0170_01
set_option Elab.async false
set_option maxRecDepth 100000
set_option maxHeartbeats 8000000
set_option pp.deepTerms false
set_option genSizeOf false
set_option genSizeOfSpec false
set_option genInjectivity false
section
open PySem PySem.W PyProof.Rows
namespace Mine
set_option maxHeartbeats 8000000
noncomputable def topS (i : Nat) : Stmt := (PySem.Challenge.pw_oc0170_01.main.body[i]?).getD (.Pass ⟨0, 0, 0, 0⟩)
noncomputable def inS (i j : Nat) : Stmt := match topS i with
  | .ClassDef (body := b) .. => (b[j]?).getD (.Pass ⟨0, 0, 0, 0⟩)
  | x => x
noncomputable def fdP : Stmt → Option (Arguments × List Stmt × Scope)
  | .FunctionDef (args := a) (body := b) (scope := s) .. => some (a, b, s)
  | _ => none
noncomputable def hd.heap_39 : Params → Frag :=
  (fun {a0 : Arguments} {b0 : List Stmt} {s0 : Scope} {a1 : Arguments} {b1 : List Stmt} {s1 : Scope} {a2 : Arguments} {b2 : List Stmt} {s2 : Scope} {a3 : Arguments} {b3 : List Stmt} {s3 : Scope} {a4 : Arguments} {b4 : List Stmt} {s4 : Scope} {a5 : Arguments} {b5 : List Stmt} {s5 : Scope} {a6 : Arguments} {b6 : List Stmt} {s6 : Scope} {a7 : Arguments} {b7 : List Stmt} {s7 : Scope} {a8 : Arguments} {b8 : List Stmt} {s8 : Scope} {a9 : Arguments} {b9 : List Stmt} {s9 : Scope} {a10 : Arguments} {b10 : List Stmt} {s10 : Scope} {a11 : Arguments} {b11 : List Stmt} {s11 : Scope} {a12 : Arguments} {b12 : List Stmt} {s12 : Scope} {a13 : Arguments} {b13 : List Stmt} {s13 : Scope} {a14 : Arguments} {b14 : List Stmt} {s14 : Scope} {a15 : Arguments} {b15 : List Stmt} {s15 : Scope} {a16 : Arguments} {b16 : List Stmt} {s16 : Scope} {a17 : Arguments} {b17 : List Stmt} {s17 : Scope} {a18 : Arguments} {b18 : List Stmt} {s18 : Scope} {a19 : Arguments} {b19 : List Stmt} {s19 : Scope}
    (_ : fdP (topS 1) = some (a0, b0, s0))
    (_ : fdP (topS 7) = some (a1, b1, s1))
    (_ : fdP (topS 8) = some (a2, b2, s2))
    (_ : fdP (topS 9) = some (a3, b3, s3))
    (_ : fdP (inS 13 1) = some (a4, b4, s4))
    (_ : fdP (inS 15 0) = some (a5, b5, s5))
    (_ : fdP (inS 15 1) = some (a6, b6, s6))
    (_ : fdP (inS 15 2) = some (a7, b7, s7))
    (_ : fdP (inS 15 3) = some (a8, b8, s8))
    (_ : fdP (inS 15 4) = some (a9, b9, s9))
    (_ : fdP (inS 15 5) = some (a10, b10, s10))
    (_ : fdP (inS 15 6) = some (a11, b11, s11))
    (_ : fdP (inS 15 7) = some (a12, b12, s12))
    (_ : fdP (inS 15 8) = some (a13, b13, s13))
    (_ : fdP (inS 15 9) = some (a14, b14, s14))
    (_ : fdP (topS 17) = some (a15, b15, s15))
    (_ : fdP (topS 18) = some (a16, b16, s16))
    (_ : fdP (topS 19) = some (a17, b17, s17))
    (_ : fdP (topS 20) = some (a18, b18, s18))
    (_ : fdP (topS 21) = some (a19, b19, s19)) => fun P =>
  (nat_lit 2, (.mk .none none (.dict #[(.mk (PyData.keyHash P "\x69mport.loaded._sre") (.str "\x69mport.loaded._sre" (183 : Nat)) (.bool true)), (.mk (PyData.keyHash P "class._frozen_importlib.BuiltinImporter") (.str "class._frozen_importlib.BuiltinImporter" (185 : Nat)) (.ref (14 : Nat))), (.mk (PyData.keyHash P "watched.\x69mport") (.str "watched.\x69mport" (206 : Nat)) (.ref (18 : Nat))), (.mk (PyData.keyHash P "class._frozen_importlib.ModuleSpec") (.str "class._frozen_importlib.ModuleSpec" (216 : Nat)) (.ref (22 : Nat))), (.mk (PyData.keyHash P "sys.modules.booked-epoch") (.str "sys.modules.booked-epoch" (245 : Nat)) (.int 3 (0 : Nat))), (.mk (PyData.keyHash P "\x69mport.later-laid._sre") (.str "\x69mport.later-laid._sre" (270 : Nat)) (.bool true)), (.mk (PyData.keyHash P "watched.library") (.str "watched.library" (272 : Nat)) (.ref (27 : Nat))), (.mk (PyData.keyHash P "watched.library-objects") (.str "watched.library-objects" (0 : Nat)) (.str "\x0c" (0 : Nat))), (.mk (PyData.keyHash P "watched.library-deep._sre") (.str "watched.library-deep._sre" (273 : Nat)) (.str "\x04\x00\x00\x0b\x04\x00\x00\x0b\x04\x00\x00\x03\x04\x00\x00\x0b\x08\x04dict\x02" (0 : Nat)))] (9 : Nat)) #[])) ::
  (nat_lit 3, (.mk (.type "dict") none (.dict #[(.mk (PyData.keyHash P "__name__") (.str "__name__" (165 : Nat)) (.str "law_oc0170_01" (570 : Nat))), (.mk (PyData.keyHash P "__doc__") (.str "__doc__" (166 : Nat)) .none), (.mk (PyData.keyHash P "__package__") (.str "__package__" (167 : Nat)) .none), (.mk (PyData.keyHash P "__loader__") (.str "__loader__" (168 : Nat)) (.builtin "__main__.__loader__#opaque")), (.mk (PyData.keyHash P "__spec__") (.str "__spec__" (169 : Nat)) .none), (.mk (PyData.keyHash P "__annotations__") (.str "__annotations__" (170 : Nat)) (.ref (6 : Nat))), (.mk (PyData.keyHash P "__builtins__") (.str "__builtins__" (171 : Nat)) (.ref (4 : Nat))), (.mk (PyData.keyHash P "__file__") (.str "__file__" (173 : Nat)) (.str "/claim/cut.py" (172 : Nat))), (.mk (PyData.keyHash P "__cached__") (.str "__cached__" (174 : Nat)) .none), (.mk (PyData.keyHash P "_sre") (.str "_sre" (275 : Nat)) (.ref (12 : Nat))), (.mk (PyData.keyHash P "_wall") (.str "_wall" (288 : Nat)) (.ref (38 : Nat))), (.mk (PyData.keyHash P "_twin_re_1") (.str "_twin_re_1" (306 : Nat)) (.ref (43 : Nat))), (.mk (PyData.keyHash P "_twin_re_2") (.str "_twin_re_2" (322 : Nat)) (.ref (48 : Nat))), (.mk (PyData.keyHash P "_twin_re_3") (.str "_twin_re_3" (364 : Nat)) (.ref (53 : Nat))), (.mk (PyData.keyHash P "CRLF") (.str "CRLF" (366 : Nat)) (.str "\x0d\n" (365 : Nat))), (.mk (PyData.keyHash P "quotedata") (.str "quotedata" (373 : Nat)) (.ref (60 : Nat))), (.mk (PyData.keyHash P "_quote_periods") (.str "_quote_periods" (380 : Nat)) (.ref (67 : Nat))), (.mk (PyData.keyHash P "_fix_eols") (.str "_fix_eols" (387 : Nat)) (.ref (74 : Nat))), (.mk (PyData.keyHash P "_NODE_OUT") (.str "_NODE_OUT" (392 : Nat)) (.int (-1) (391 : Nat))), (.mk (PyData.keyHash P "_NODE_DONE") (.str "_NODE_DONE" (395 : Nat)) (.int (-2) (394 : Nat))), (.mk (PyData.keyHash P "_NodeInfo") (.str "_NodeInfo" (432 : Nat)) (.ref (93 : Nat))), (.mk (PyData.keyHash P "CycleError") (.str "CycleError" (450 : Nat)) (.ref (108 : Nat))), (.mk (PyData.keyHash P "TopologicalSorter") (.str "TopologicalSorter" (569 : Nat)) (.ref (190 : Nat))), (.mk (PyData.keyHash P "_law_rows") (.str "_law_rows" (584 : Nat)) (.ref (201 : Nat))), (.mk (PyData.keyHash P "_law_told") (.str "_law_told" (599 : Nat)) (.ref (208 : Nat))), (.mk (PyData.keyHash P "_law_quoted") (.str "_law_quoted" (605 : Nat)) (.ref (213 : Nat))), (.mk (PyData.keyHash P "_law_rounds") (.str "_law_rounds" (611 : Nat)) (.ref (218 : Nat))), (.mk (PyData.keyHash P "law") (.str "law" (617 : Nat)) (.ref (223 : Nat)))] (28 : Nat)) #[])) ::
  (nat_lit 32, (.mk (.type "tuple") none (.seq #[]) #[])) ::
  (nat_lit 34, (.mk (.type "tuple") none (.seq #[(.str "k" (285 : Nat))]) #[])) ::
  (nat_lit 35, (.mk (.type "tuple") none (.seq #[]) #[])) ::
  (nat_lit 37, (.mk (.type "code") none (.fields #[(.str "_wall" (282 : Nat)), (.str "_wall" (283 : Nat)), (.str "/claim/cut.py" (284 : Nat)), (.int 2 (0 : Nat)), (.int 1 (0 : Nat)), (.int 0 (0 : Nat)), (.int 0 (0 : Nat)), (.int 3 (0 : Nat)), (.ref (32 : Nat)), (.bool true), (.int 276 (0 : Nat)), (.ref (33 : Nat)), .none, (.ref (34 : Nat)), (.ref (35 : Nat)), (.ref (36 : Nat)), (.int 286 (0 : Nat)), (.int 2 (0 : Nat)), (.str "/claim/cut.py" (287 : Nat))]) #[])) ::
  (nat_lit 38, (.mk (.type "function") none (.func (.mk "_wall" "_wall" a0 (.stmts b0) s0 (3 : Nat) [] .none .none .none (.str "__main__" (164 : Nat)) none (.ref (37 : Nat)) .none (0 : Nat))) #[])) ::
  (nat_lit 42, (.mk (.type "tuple") none (.seq #[(.int 14 (0 : Nat)), (.int 4 (0 : Nat)), (.int 0 (0 : Nat)), (.int 1 (0 : Nat)), (.int 1 (0 : Nat)), (.int 6 (0 : Nat)), (.int 1 (0 : Nat)), (.int 16 (0 : Nat)), (.int 46 (0 : Nat)), (.int 1 (0 : Nat))]) #[])) ::
  (nat_lit 43, (.mk (.type "re.Pattern") none (.fields #[(.str "(?m)^\\." (292 : Nat)), (.int 40 (305 : Nat)), (.int 0 (0 : Nat)), .none, .none, (.ref (42 : Nat)), (.int 0 (0 : Nat))]) #[])) ::
  (nat_lit 47, (.mk (.type "tuple") none (.seq #[(.int 14 (0 : Nat)), (.int 4 (0 : Nat)), (.int 0 (0 : Nat)), (.int 1 (0 : Nat)), (.int 1 (0 : Nat)), (.int 6 (0 : Nat)), (.int 1 (0 : Nat)), (.int 16 (0 : Nat)), (.int 46 (0 : Nat)), (.int 1 (0 : Nat))]) #[])) ::
  (nat_lit 48, (.mk (.type "re.Pattern") none (.fields #[(.bytes #[40, 63, 109, 41, 94, 92, 46] (308 : Nat)), (.int 8 (321 : Nat)), (.int 0 (0 : Nat)), .none, .none, (.ref (47 : Nat)), (.int 1 (0 : Nat))]) #[])) ::
  (nat_lit 52, (.mk (.type "tuple") none (.seq #[(.int 14 (0 : Nat)), (.int 9 (0 : Nat)), (.int 4 (0 : Nat)), (.int 1 (0 : Nat)), (.int 2 (0 : Nat)), (.int 16 (0 : Nat)), (.int 10 (0 : Nat)), (.int 16 (0 : Nat)), (.int 13 (0 : Nat)), (.int 0 (0 : Nat)), (.int 7 (0 : Nat)), (.int 7 (0 : Nat)), (.int 16 (0 : Nat)), (.int 13 (0 : Nat)), (.int 16 (0 : Nat)), (.int 10 (0 : Nat)), (.int 15 (0 : Nat)), (.int 18 (0 : Nat)), (.int 5 (0 : Nat)), (.int 16 (0 : Nat)), (.int 10 (0 : Nat)), (.int 15 (0 : Nat)), (.int 13 (0 : Nat)), (.int 11 (0 : Nat)), (.int 16 (0 : Nat)), (.int 13 (0 : Nat)), (.int 5 (0 : Nat)), (.int 5 (0 : Nat)), (.int 0 (0 : Nat)), (.int 16 (0 : Nat)), (.int 10 (0 : Nat)), (.int 1 (0 : Nat)), (.int 15 (0 : Nat)), (.int 2 (0 : Nat)), (.int 0 (0 : Nat)), (.int 1 (0 : Nat))]) #[])) ::
  (nat_lit 53, (.mk (.type "re.Pattern") none (.fields #[(.str "(?:\\r\\n|\\n|\\r(?!\\n))" (324 : Nat)), (.int 32 (363 : Nat)), (.int 0 (0 : Nat)), .none, .none, (.ref (52 : Nat)), (.int 0 (0 : Nat))]) #[])) ::
  (nat_lit 54, (.mk (.type "tuple") none (.seq #[]) #[])) ::
  (nat_lit 56, (.mk (.type "tuple") none (.seq #[(.str "data" (370 : Nat))]) #[])) ::
  (nat_lit 57, (.mk (.type "tuple") none (.seq #[]) #[])) ::
  (nat_lit 59, (.mk (.type "code") none (.fields #[(.str "quotedata" (367 : Nat)), (.str "quotedata" (368 : Nat)), (.str "/claim/cut.py" (369 : Nat)), (.int 10 (0 : Nat)), (.int 1 (0 : Nat)), (.int 0 (0 : Nat)), (.int 0 (0 : Nat)), (.int 3 (0 : Nat)), (.ref (54 : Nat)), (.bool true), (.int 276 (0 : Nat)), (.ref (55 : Nat)), .none, (.ref (56 : Nat)), (.ref (57 : Nat)), (.ref (58 : Nat)), (.int 371 (0 : Nat)), (.int 10 (0 : Nat)), (.str "/claim/cut.py" (372 : Nat))]) #[])) ::
  (nat_lit 60, (.mk (.type "function") none (.func (.mk "quotedata" "quotedata" a1 (.stmts b1) s1 (3 : Nat) [] .none .none .none (.str "cpy313.smtplib" (289 : Nat)) none (.ref (59 : Nat)) .none (0 : Nat))) #[])) ::
  (nat_lit 61, (.mk (.type "tuple") none (.seq #[]) #[])) ::
  (nat_lit 63, (.mk (.type "tuple") none (.seq #[(.str "bindata" (377 : Nat))]) #[])) ::
  (nat_lit 64, (.mk (.type "tuple") none (.seq #[]) #[])) ::
  (nat_lit 66, (.mk (.type "code") none (.fields #[(.str "_quote_periods" (374 : Nat)), (.str "_quote_periods" (375 : Nat)), (.str "/claim/cut.py" (376 : Nat)), (.int 12 (0 : Nat)), (.int 1 (0 : Nat)), (.int 0 (0 : Nat)), (.int 0 (0 : Nat)), (.int 3 (0 : Nat)), (.ref (61 : Nat)), (.bool true), (.int 276 (0 : Nat)), (.ref (62 : Nat)), .none, (.ref (63 : Nat)), (.ref (64 : Nat)), (.ref (65 : Nat)), (.int 378 (0 : Nat)), (.int 12 (0 : Nat)), (.str "/claim/cut.py" (379 : Nat))]) #[])) ::
  (nat_lit 67, (.mk (.type "function") none (.func (.mk "_quote_periods" "_quote_periods" a2 (.stmts b2) s2 (3 : Nat) [] .none .none .none (.str "cpy313.smtplib" (289 : Nat)) none (.ref (66 : Nat)) .none (0 : Nat))) #[])) ::
  (nat_lit 68, (.mk (.type "tuple") none (.seq #[]) #[])) ::
  (nat_lit 70, (.mk (.type "tuple") none (.seq #[(.str "data" (384 : Nat))]) #[])) ::
  (nat_lit 71, (.mk (.type "tuple") none (.seq #[]) #[])) ::
  (nat_lit 73, (.mk (.type "code") none (.fields #[(.str "_fix_eols" (381 : Nat)), (.str "_fix_eols" (382 : Nat)), (.str "/claim/cut.py" (383 : Nat)), (.int 14 (0 : Nat)), (.int 1 (0 : Nat)), (.int 0 (0 : Nat)), (.int 0 (0 : Nat)), (.int 3 (0 : Nat)), (.ref (68 : Nat)), (.bool true), (.int 276 (0 : Nat)), (.ref (69 : Nat)), .none, (.ref (70 : Nat)), (.ref (71 : Nat)), (.ref (72 : Nat)), (.int 385 (0 : Nat)), (.int 14 (0 : Nat)), (.str "/claim/cut.py" (386 : Nat))]) #[])) ::
  (nat_lit 74, (.mk (.type "function") none (.func (.mk "_fix_eols" "_fix_eols" a3 (.stmts b3) s3 (3 : Nat) [] .none .none .none (.str "cpy313.smtplib" (289 : Nat)) none (.ref (73 : Nat)) .none (0 : Nat))) #[])) ::
  (nat_lit 82, (.mk (.type "tuple") none (.seq #[(.str "node" (408 : Nat)), (.str "npredecessors" (409 : Nat)), (.str "successors" (410 : Nat))]) #[])) ::
  (nat_lit 83, (.mk (.type "tuple") none (.seq #[]) #[])) ::
  (nat_lit 85, (.mk (.type "tuple") none (.seq #[(.str "self" (415 : Nat)), (.str "node" (416 : Nat))]) #[])) ::
  (nat_lit 86, (.mk (.type "tuple") none (.seq #[]) #[])) ::
  (nat_lit 88, (.mk (.type "code") none (.fields #[(.str "__init__" (412 : Nat)), (.str "_NodeInfo.__init__" (413 : Nat)), (.str "/claim/cut.py" (414 : Nat)), (.int 22 (0 : Nat)), (.int 2 (0 : Nat)), (.int 0 (0 : Nat)), (.int 0 (0 : Nat)), (.int 3 (0 : Nat)), (.ref (83 : Nat)), (.bool true), (.int 276 (0 : Nat)), (.ref (84 : Nat)), .none, (.ref (85 : Nat)), (.ref (86 : Nat)), (.ref (87 : Nat)), (.int 417 (0 : Nat)), (.int 22 (0 : Nat)), (.str "/claim/cut.py" (418 : Nat))]) #[])) ::
  (nat_lit 89, (.mk (.type "function") none (.func (.mk "__init__" "_NodeInfo.__init__" a4 (.stmts b4) s4 (3 : Nat) [] .none .none .none (.str "cpy313.graphlib" (388 : Nat)) none (.ref (88 : Nat)) .none (0 : Nat))) #[])) ::
  (nat_lit 90, (.mk (.type "tuple") none (.seq #[(.str "node" (420 : Nat)), (.str "npredecessors" (421 : Nat)), (.str "successors" (422 : Nat))]) #[])) ::
  (nat_lit 92, (.mk (.type "dict") none (.dict #[(.mk (PyData.keyHash P "__module__") (.str "__module__" (403 : Nat)) (.str "cpy313.graphlib" (388 : Nat))), (.mk (PyData.keyHash P "__firstlineno__") (.str "__firstlineno__" (407 : Nat)) (.int 19 (406 : Nat))), (.mk (PyData.keyHash P "__slots__") (.str "__slots__" (411 : Nat)) (.ref (82 : Nat))), (.mk (PyData.keyHash P "__init__") (.str "__init__" (419 : Nat)) (.ref (89 : Nat))), (.mk (PyData.keyHash P "__static_attributes__") (.str "__static_attributes__" (423 : Nat)) (.ref (90 : Nat))), (.mk (PyData.keyHash P "node") (.str "node" (425 : Nat)) (.ref (94 : Nat))), (.mk (PyData.keyHash P "npredecessors") (.str "npredecessors" (427 : Nat)) (.ref (95 : Nat))), (.mk (PyData.keyHash P "successors") (.str "successors" (429 : Nat)) (.ref (96 : Nat))), (.mk (PyData.keyHash P "__doc__") (.str "__doc__" (430 : Nat)) .none)] (5 : Nat)) #[])) ::
  (nat_lit 93, (.mk (.type "type") none (.cls (.mk "_NodeInfo" [(.type "object")] [(.ref (93 : Nat)), (.type "object")] (92 : Nat) "_NodeInfo" false ["node", "npredecessors", "successors"] [] false none false)) #[none, none, (some (.str "_NodeInfo" (396 : Nat))), (some (.str "_NodeInfo" (404 : Nat))), (some (.builtin "object.__new__")), (some (.bool false))])) ::
  (nat_lit 94, (.mk (.type "member_descriptor") none (.fields #[(.str "node" (424 : Nat)), (.ref (93 : Nat)), (.builtin "proto.slot"), (.builtin "proto.slot#set"), (.int 2 (0 : Nat))]) #[])) ::
  (nat_lit 95, (.mk (.type "member_descriptor") none (.fields #[(.str "npredecessors" (426 : Nat)), (.ref (93 : Nat)), (.builtin "proto.slot"), (.builtin "proto.slot#set"), (.int 1 (0 : Nat))]) #[])) ::
  (nat_lit 96, (.mk (.type "member_descriptor") none (.fields #[(.str "successors" (428 : Nat)), (.ref (93 : Nat)), (.builtin "proto.slot"), (.builtin "proto.slot#set"), (.int 0 (0 : Nat))]) #[])) ::
  (nat_lit 99, (.mk (.type "tuple") none (.seq #[(.type "ValueError")]) #[])) ::
  (nat_lit 106, (.mk (.type "tuple") none (.seq #[]) #[])) ::
  (nat_lit 107, (.mk (.type "dict") none (.dict #[(.mk (PyData.keyHash P "__module__") (.str "__module__" (440 : Nat)) (.str "cpy313.graphlib" (388 : Nat))), (.mk (PyData.keyHash P "__firstlineno__") (.str "__firstlineno__" (444 : Nat)) (.int 26 (443 : Nat))), (.mk (PyData.keyHash P "__static_attributes__") (.str "__static_attributes__" (445 : Nat)) (.ref (106 : Nat))), (.mk (PyData.keyHash P "__weakref__") (.str "__weakref__" (447 : Nat)) (.ref (109 : Nat))), (.mk (PyData.keyHash P "__doc__") (.str "__doc__" (448 : Nat)) .none)] (3 : Nat)) #[])) ::
  (nat_lit 108, (.mk (.type "type") none (.cls (.mk "CycleError" [(.type "ValueError")] [(.ref (108 : Nat)), (.type "ValueError"), (.type "Exception"), (.type "BaseException"), (.type "object")] (107 : Nat) "CycleError" true [] [] false none false)) #[(some (.ref (99 : Nat))), none, (some (.str "CycleError" (433 : Nat))), (some (.str "CycleError" (441 : Nat))), (some (.builtin "ValueError.__new__")), (some (.bool true))])) ::
  (nat_lit 109, (.mk (.type "getset_descriptor") none (.fields #[(.str "__weakref__" (446 : Nat)), (.ref (108 : Nat)), (.builtin "ExceptionGroup.__weakref__"), .none]) #[])) ::
  (nat_lit 119, (.mk (.type "tuple") none (.seq #[.none]) #[])) ::
  (nat_lit 120, (.mk (.type "tuple") none (.seq #[]) #[])) ::
  (nat_lit 122, (.mk (.type "tuple") none (.seq #[(.str "self" (466 : Nat)), (.str "graph" (467 : Nat)), (.str "node" (468 : Nat)), (.str "predecessors" (469 : Nat))]) #[])) ::
  (nat_lit 123, (.mk (.type "tuple") none (.seq #[]) #[])) ::
  (nat_lit 125, (.mk (.type "code") none (.fields #[(.str "__init__" (463 : Nat)), (.str "TopologicalSorter.__init__" (464 : Nat)), (.str "/claim/cut.py" (465 : Nat)), (.int 30 (0 : Nat)), (.int 2 (0 : Nat)), (.int 0 (0 : Nat)), (.int 0 (0 : Nat)), (.int 3 (0 : Nat)), (.ref (120 : Nat)), (.bool true), (.int 276 (0 : Nat)), (.ref (121 : Nat)), .none, (.ref (122 : Nat)), (.ref (123 : Nat)), (.ref (124 : Nat)), (.int 470 (0 : Nat)), (.int 30 (0 : Nat)), (.str "/claim/cut.py" (471 : Nat))]) #[])) ::
  (nat_lit 126, (.mk (.type "function") none (.func (.mk "__init__" "TopologicalSorter.__init__" a5 (.stmts b5) s5 (3 : Nat) [] (.ref (119 : Nat)) .none .none (.str "cpy313.graphlib" (388 : Nat)) none (.ref (125 : Nat)) .none (0 : Nat))) #[])) ::
  (nat_lit 127, (.mk (.type "tuple") none (.seq #[]) #[])) ::
  (nat_lit 129, (.mk (.type "tuple") none (.seq #[(.str "self" (476 : Nat)), (.str "node" (477 : Nat)), (.str "result" (478 : Nat))]) #[])) ::
  (nat_lit 130, (.mk (.type "tuple") none (.seq #[]) #[])) ::
  (nat_lit 132, (.mk (.type "code") none (.fields #[(.str "_get_nodeinfo" (473 : Nat)), (.str "TopologicalSorter._get_nodeinfo" (474 : Nat)), (.str "/claim/cut.py" (475 : Nat)), (.int 39 (0 : Nat)), (.int 2 (0 : Nat)), (.int 0 (0 : Nat)), (.int 0 (0 : Nat)), (.int 3 (0 : Nat)), (.ref (127 : Nat)), (.bool true), (.int 276 (0 : Nat)), (.ref (128 : Nat)), .none, (.ref (129 : Nat)), (.ref (130 : Nat)), (.ref (131 : Nat)), (.int 479 (0 : Nat)), (.int 39 (0 : Nat)), (.str "/claim/cut.py" (480 : Nat))]) #[])) ::
  (nat_lit 133, (.mk (.type "function") none (.func (.mk "_get_nodeinfo" "TopologicalSorter._get_nodeinfo" a6 (.stmts b6) s6 (3 : Nat) [] .none .none .none (.str "cpy313.graphlib" (388 : Nat)) none (.ref (132 : Nat)) .none (0 : Nat))) #[])) ::
  (nat_lit 134, (.mk (.type "tuple") none (.seq #[]) #[])) ::
  (nat_lit 136, (.mk (.type "tuple") none (.seq #[(.str "self" (485 : Nat)), (.str "node" (486 : Nat)), (.str "predecessors" (487 : Nat)), (.str "nodeinfo" (488 : Nat)), (.str "pred" (489 : Nat)), (.str "pred_info" (490 : Nat))]) #[])) ::
  (nat_lit 137, (.mk (.type "tuple") none (.seq #[]) #[])) ::
  (nat_lit 139, (.mk (.type "code") none (.fields #[(.str "add" (482 : Nat)), (.str "TopologicalSorter.add" (483 : Nat)), (.str "/claim/cut.py" (484 : Nat)), (.int 44 (0 : Nat)), (.int 2 (0 : Nat)), (.int 0 (0 : Nat)), (.int 0 (0 : Nat)), (.int 7 (0 : Nat)), (.ref (134 : Nat)), (.bool true), (.int 276 (0 : Nat)), (.ref (135 : Nat)), .none, (.ref (136 : Nat)), (.ref (137 : Nat)), (.ref (138 : Nat)), (.int 491 (0 : Nat)), (.int 44 (0 : Nat)), (.str "/claim/cut.py" (492 : Nat))]) #[])) ::
  (nat_lit 140, (.mk (.type "function") none (.func (.mk "add" "TopologicalSorter.add" a7 (.stmts b7) s7 (3 : Nat) [] .none .none .none (.str "cpy313.graphlib" (388 : Nat)) none (.ref (139 : Nat)) .none (0 : Nat))) #[])) ::
  (nat_lit 141, (.mk (.type "tuple") none (.seq #[]) #[])) ::
  (nat_lit 144, (.mk (.type "code") none (.fields #[(.str "prepare" (494 : Nat)), (.str "TopologicalSorter.prepare" (495 : Nat)), (.str "/claim/cut.py" (496 : Nat)), (.int 53 (0 : Nat)), (.int 1 (0 : Nat)), (.int 0 (0 : Nat)), (.int 0 (0 : Nat)), (.int 3 (0 : Nat)), (.ref (141 : Nat)), (.bool true), (.int 276 (0 : Nat)), (.ref (142 : Nat)), .none, .none, .none, (.ref (143 : Nat)), (.int 497 (0 : Nat)), (.int 53 (0 : Nat)), (.str "/claim/cut.py" (498 : Nat))]) #[])) ::
  (nat_lit 145, (.mk (.type "function") none (.func (.mk "prepare" "TopologicalSorter.prepare" a8 (.stmts b8) s8 (3 : Nat) [] .none .none .none (.str "cpy313.graphlib" (388 : Nat)) none (.ref (144 : Nat)) .none (0 : Nat))) #[])) ::
  (nat_lit 146, (.mk (.type "tuple") none (.seq #[]) #[])) ::
  (nat_lit 148, (.mk (.type "tuple") none (.seq #[(.str "self" (503 : Nat)), (.str "result" (504 : Nat)), (.str "n2i" (505 : Nat)), (.str "node" (506 : Nat))]) #[])) ::
  (nat_lit 149, (.mk (.type "tuple") none (.seq #[]) #[])) ::
  (nat_lit 151, (.mk (.type "code") none (.fields #[(.str "get_ready" (500 : Nat)), (.str "TopologicalSorter.get_ready" (501 : Nat)), (.str "/claim/cut.py" (502 : Nat)), (.int 61 (0 : Nat)), (.int 1 (0 : Nat)), (.int 0 (0 : Nat)), (.int 0 (0 : Nat)), (.int 3 (0 : Nat)), (.ref (146 : Nat)), (.bool true), (.int 276 (0 : Nat)), (.ref (147 : Nat)), .none, (.ref (148 : Nat)), (.ref (149 : Nat)), (.ref (150 : Nat)), (.int 507 (0 : Nat)), (.int 61 (0 : Nat)), (.str "/claim/cut.py" (508 : Nat))]) #[])) ::
  (nat_lit 152, (.mk (.type "function") none (.func (.mk "get_ready" "TopologicalSorter.get_ready" a9 (.stmts b9) s9 (3 : Nat) [] .none .none .none (.str "cpy313.graphlib" (388 : Nat)) none (.ref (151 : Nat)) .none (0 : Nat))) #[])) ::
  (nat_lit 153, (.mk (.type "tuple") none (.seq #[]) #[])) ::
  (nat_lit 155, (.mk (.type "tuple") none (.seq #[(.str "self" (513 : Nat))]) #[])) ::
  (nat_lit 156, (.mk (.type "tuple") none (.seq #[]) #[])) ::
  (nat_lit 158, (.mk (.type "code") none (.fields #[(.str "is_active" (510 : Nat)), (.str "TopologicalSorter.is_active" (511 : Nat)), (.str "/claim/cut.py" (512 : Nat)), (.int 72 (0 : Nat)), (.int 1 (0 : Nat)), (.int 0 (0 : Nat)), (.int 0 (0 : Nat)), (.int 3 (0 : Nat)), (.ref (153 : Nat)), (.bool true), (.int 276 (0 : Nat)), (.ref (154 : Nat)), .none, (.ref (155 : Nat)), (.ref (156 : Nat)), (.ref (157 : Nat)), (.int 514 (0 : Nat)), (.int 72 (0 : Nat)), (.str "/claim/cut.py" (515 : Nat))]) #[])) ::
  (nat_lit 159, (.mk (.type "function") none (.func (.mk "is_active" "TopologicalSorter.is_active" a10 (.stmts b10) s10 (3 : Nat) [] .none .none .none (.str "cpy313.graphlib" (388 : Nat)) none (.ref (158 : Nat)) .none (0 : Nat))) #[])) ::
  (nat_lit 160, (.mk (.type "tuple") none (.seq #[]) #[])) ::
  (nat_lit 162, (.mk (.type "tuple") none (.seq #[(.str "self" (520 : Nat))]) #[])) ::
  (nat_lit 163, (.mk (.type "tuple") none (.seq #[]) #[])) ::
  (nat_lit 165, (.mk (.type "code") none (.fields #[(.str "__bool__" (517 : Nat)), (.str "TopologicalSorter.__bool__" (518 : Nat)), (.str "/claim/cut.py" (519 : Nat)), (.int 77 (0 : Nat)), (.int 1 (0 : Nat)), (.int 0 (0 : Nat)), (.int 0 (0 : Nat)), (.int 3 (0 : Nat)), (.ref (160 : Nat)), (.bool true), (.int 276 (0 : Nat)), (.ref (161 : Nat)), .none, (.ref (162 : Nat)), (.ref (163 : Nat)), (.ref (164 : Nat)), (.int 521 (0 : Nat)), (.int 77 (0 : Nat)), (.str "/claim/cut.py" (522 : Nat))]) #[])) ::
  (nat_lit 166, (.mk (.type "function") none (.func (.mk "__bool__" "TopologicalSorter.__bool__" a11 (.stmts b11) s11 (3 : Nat) [] .none .none .none (.str "cpy313.graphlib" (388 : Nat)) none (.ref (165 : Nat)) .none (0 : Nat))) #[])) ::
  (nat_lit 167, (.mk (.type "tuple") none (.seq #[]) #[])) ::
  (nat_lit 169, (.mk (.type "tuple") none (.seq #[(.str "self" (527 : Nat)), (.str "nodes" (528 : Nat)), (.str "n2i" (529 : Nat)), (.str "node" (530 : Nat)), (.str "nodeinfo" (531 : Nat)), (.str "stat" (532 : Nat)), (.str "successor" (533 : Nat)), (.str "successor_info" (534 : Nat))]) #[])) ::
  (nat_lit 170, (.mk (.type "tuple") none (.seq #[]) #[])) ::
  (nat_lit 172, (.mk (.type "code") none (.fields #[(.str "done" (524 : Nat)), (.str "TopologicalSorter.done" (525 : Nat)), (.str "/claim/cut.py" (526 : Nat)), (.int 80 (0 : Nat)), (.int 1 (0 : Nat)), (.int 0 (0 : Nat)), (.int 0 (0 : Nat)), (.int 7 (0 : Nat)), (.ref (167 : Nat)), (.bool true), (.int 276 (0 : Nat)), (.ref (168 : Nat)), .none, (.ref (169 : Nat)), (.ref (170 : Nat)), (.ref (171 : Nat)), (.int 535 (0 : Nat)), (.int 80 (0 : Nat)), (.str "/claim/cut.py" (536 : Nat))]) #[])) ::
  (nat_lit 173, (.mk (.type "function") none (.func (.mk "done" "TopologicalSorter.done" a12 (.stmts b12) s12 (3 : Nat) [] .none .none .none (.str "cpy313.graphlib" (388 : Nat)) none (.ref (172 : Nat)) .none (0 : Nat))) #[])) ::
  (nat_lit 174, (.mk (.type "tuple") none (.seq #[]) #[])) ::
  (nat_lit 176, (.mk (.type "tuple") none (.seq #[(.str "self" (541 : Nat)), (.str "n2i" (542 : Nat)), (.str "stack" (543 : Nat)), (.str "itstack" (544 : Nat)), (.str "seen" (545 : Nat)), (.str "node2stacki" (546 : Nat)), (.str "node" (547 : Nat))]) #[])) ::
  (nat_lit 177, (.mk (.type "tuple") none (.seq #[]) #[])) ::
  (nat_lit 179, (.mk (.type "code") none (.fields #[(.str "_find_cycle" (538 : Nat)), (.str "TopologicalSorter._find_cycle" (539 : Nat)), (.str "/claim/cut.py" (540 : Nat)), (.int 103 (0 : Nat)), (.int 1 (0 : Nat)), (.int 0 (0 : Nat)), (.int 0 (0 : Nat)), (.int 3 (0 : Nat)), (.ref (174 : Nat)), (.bool true), (.int 276 (0 : Nat)), (.ref (175 : Nat)), .none, (.ref (176 : Nat)), (.ref (177 : Nat)), (.ref (178 : Nat)), (.int 548 (0 : Nat)), (.int 103 (0 : Nat)), (.str "/claim/cut.py" (549 : Nat))]) #[])) ::
  (nat_lit 180, (.mk (.type "function") none (.func (.mk "_find_cycle" "TopologicalSorter._find_cycle" a13 (.stmts b13) s13 (3 : Nat) [] .none .none .none (.str "cpy313.graphlib" (388 : Nat)) none (.ref (179 : Nat)) .none (0 : Nat))) #[])) ::
  (nat_lit 181, (.mk (.type "tuple") none (.seq #[]) #[])) ::
  (nat_lit 183, (.mk (.type "tuple") none (.seq #[(.str "self" (554 : Nat))]) #[])) ::
  (nat_lit 184, (.mk (.type "tuple") none (.seq #[]) #[])) ::
  (nat_lit 186, (.mk (.type "code") none (.fields #[(.str "static_order" (551 : Nat)), (.str "TopologicalSorter.static_order" (552 : Nat)), (.str "/claim/cut.py" (553 : Nat)), (.int 132 (0 : Nat)), (.int 1 (0 : Nat)), (.int 0 (0 : Nat)), (.int 0 (0 : Nat)), (.int 3 (0 : Nat)), (.ref (181 : Nat)), (.bool true), (.int 276 (0 : Nat)), (.ref (182 : Nat)), .none, (.ref (183 : Nat)), (.ref (184 : Nat)), (.ref (185 : Nat)), (.int 555 (0 : Nat)), (.int 132 (0 : Nat)), (.str "/claim/cut.py" (556 : Nat))]) #[])) ::
  (nat_lit 187, (.mk (.type "function") none (.func (.mk "static_order" "TopologicalSorter.static_order" a14 (.stmts b14) s14 (3 : Nat) [] .none .none .none (.str "cpy313.graphlib" (388 : Nat)) none (.ref (186 : Nat)) .none (0 : Nat))) #[])) ::
  (nat_lit 188, (.mk (.type "tuple") none (.seq #[(.str "_nfinished" (558 : Nat)), (.str "_node2info" (559 : Nat)), (.str "_npassedout" (560 : Nat)), (.str "_ready_nodes" (561 : Nat))]) #[])) ::
  (nat_lit 189, (.mk (.type "dict") none (.dict #[(.mk (PyData.keyHash P "__module__") (.str "__module__" (458 : Nat)) (.str "cpy313.graphlib" (388 : Nat))), (.mk (PyData.keyHash P "__firstlineno__") (.str "__firstlineno__" (462 : Nat)) (.int 28 (461 : Nat))), (.mk (PyData.keyHash P "__init__") (.str "__init__" (472 : Nat)) (.ref (126 : Nat))), (.mk (PyData.keyHash P "_get_nodeinfo") (.str "_get_nodeinfo" (481 : Nat)) (.ref (133 : Nat))), (.mk (PyData.keyHash P "add") (.str "add" (493 : Nat)) (.ref (140 : Nat))), (.mk (PyData.keyHash P "prepare") (.str "prepare" (499 : Nat)) (.ref (145 : Nat))), (.mk (PyData.keyHash P "get_ready") (.str "get_ready" (509 : Nat)) (.ref (152 : Nat))), (.mk (PyData.keyHash P "is_active") (.str "is_active" (516 : Nat)) (.ref (159 : Nat))), (.mk (PyData.keyHash P "__bool__") (.str "__bool__" (523 : Nat)) (.ref (166 : Nat))), (.mk (PyData.keyHash P "done") (.str "done" (537 : Nat)) (.ref (173 : Nat))), (.mk (PyData.keyHash P "_find_cycle") (.str "_find_cycle" (550 : Nat)) (.ref (180 : Nat))), (.mk (PyData.keyHash P "static_order") (.str "static_order" (557 : Nat)) (.ref (187 : Nat))), (.mk (PyData.keyHash P "__static_attributes__") (.str "__static_attributes__" (562 : Nat)) (.ref (188 : Nat))), (.mk (PyData.keyHash P "__dict__") (.str "__dict__" (564 : Nat)) (.ref (191 : Nat))), (.mk (PyData.keyHash P "__weakref__") (.str "__weakref__" (566 : Nat)) (.ref (192 : Nat))), (.mk (PyData.keyHash P "__doc__") (.str "__doc__" (567 : Nat)) .none)] (4 : Nat)) #[])) ::
  (nat_lit 190, (.mk (.type "type") none (.cls (.mk "TopologicalSorter" [(.type "object")] [(.ref (190 : Nat)), (.type "object")] (189 : Nat) "TopologicalSorter" true [] [] false none false)) #[none, none, (some (.str "TopologicalSorter" (451 : Nat))), (some (.str "TopologicalSorter" (459 : Nat))), (some (.builtin "object.__new__")), (some (.bool true))])) ::
  (nat_lit 191, (.mk (.type "getset_descriptor") none (.fields #[(.str "__dict__" (563 : Nat)), (.ref (190 : Nat)), (.builtin "function.__dict__"), (.builtin "function.__dict__#set")]) #[])) ::
  (nat_lit 192, (.mk (.type "getset_descriptor") none (.fields #[(.str "__weakref__" (565 : Nat)), (.ref (190 : Nat)), (.builtin "ExceptionGroup.__weakref__"), .none]) #[])) ::
  (nat_lit 195, (.mk (.type "tuple") none (.seq #[]) #[])) ::
  (nat_lit 197, (.mk (.type "tuple") none (.seq #[(.str "numbers" (575 : Nat)), (.str "rows" (576 : Nat)), (.str "number" (577 : Nat)), (.str "sign" (578 : Nat)), (.str "rest" (579 : Nat)), (.str "row" (580 : Nat)), (.str "end" (581 : Nat))]) #[])) ::
  (nat_lit 198, (.mk (.type "tuple") none (.seq #[]) #[])) ::
  (nat_lit 200, (.mk (.type "code") none (.fields #[(.str "_law_rows" (572 : Nat)), (.str "_law_rows" (573 : Nat)), (.str "/claim/cut.py" (574 : Nat)), (.int 135 (0 : Nat)), (.int 1 (0 : Nat)), (.int 0 (0 : Nat)), (.int 0 (0 : Nat)), (.int 3 (0 : Nat)), (.ref (195 : Nat)), (.bool true), (.int 276 (0 : Nat)), (.ref (196 : Nat)), .none, (.ref (197 : Nat)), (.ref (198 : Nat)), (.ref (199 : Nat)), (.int 582 (0 : Nat)), (.int 135 (0 : Nat)), (.str "/claim/cut.py" (583 : Nat))]) #[])) ::
  (nat_lit 201, (.mk (.type "function") none (.func (.mk "_law_rows" "_law_rows" a15 (.stmts b15) s15 (3 : Nat) [] .none .none .none (.str "law_oc0170_01" (570 : Nat)) none (.ref (200 : Nat)) .none (0 : Nat))) #[])) ::
  (nat_lit 202, (.mk (.type "tuple") none (.seq #[]) #[])) ::
  (nat_lit 204, (.mk (.type "tuple") none (.seq #[(.str "rows" (588 : Nat)), (.str "ahead" (589 : Nat)), (.str "mended" (590 : Nat)), (.str "behind" (591 : Nat)), (.str "whole" (592 : Nat)), (.str "seen" (593 : Nat)), (.str "row" (594 : Nat)), (.str "end" (595 : Nat)), (.str "dots" (596 : Nat))]) #[])) ::
  (nat_lit 205, (.mk (.type "tuple") none (.seq #[]) #[])) ::
  (nat_lit 207, (.mk (.type "code") none (.fields #[(.str "_law_told" (585 : Nat)), (.str "_law_told" (586 : Nat)), (.str "/claim/cut.py" (587 : Nat)), (.int 147 (0 : Nat)), (.int 4 (0 : Nat)), (.int 0 (0 : Nat)), (.int 0 (0 : Nat)), (.int 3 (0 : Nat)), (.ref (202 : Nat)), (.bool true), (.int 276 (0 : Nat)), (.ref (203 : Nat)), .none, (.ref (204 : Nat)), (.ref (205 : Nat)), (.ref (206 : Nat)), (.int 597 (0 : Nat)), (.int 147 (0 : Nat)), (.str "/claim/cut.py" (598 : Nat))]) #[])) ::
  (nat_lit 208, (.mk (.type "function") none (.func (.mk "_law_told" "_law_told" a16 (.stmts b16) s16 (3 : Nat) [] .none .none .none (.str "law_oc0170_01" (570 : Nat)) none (.ref (207 : Nat)) .none (0 : Nat))) #[])) ::
  (nat_lit 209, (.mk (.type "tuple") none (.seq #[]) #[])) ::
  (nat_lit 212, (.mk (.type "code") none (.fields #[(.str "_law_quoted" (600 : Nat)), (.str "_law_quoted" (601 : Nat)), (.str "/claim/cut.py" (602 : Nat)), (.int 157 (0 : Nat)), (.int 1 (0 : Nat)), (.int 0 (0 : Nat)), (.int 0 (0 : Nat)), (.int 3 (0 : Nat)), (.ref (209 : Nat)), (.bool true), (.int 276 (0 : Nat)), (.ref (210 : Nat)), .none, .none, .none, (.ref (211 : Nat)), (.int 603 (0 : Nat)), (.int 157 (0 : Nat)), (.str "/claim/cut.py" (604 : Nat))]) #[])) ::
  (nat_lit 213, (.mk (.type "function") none (.func (.mk "_law_quoted" "_law_quoted" a17 (.stmts b17) s17 (3 : Nat) [] .none .none .none (.str "law_oc0170_01" (570 : Nat)) none (.ref (212 : Nat)) .none (0 : Nat))) #[])) ::
  (nat_lit 214, (.mk (.type "tuple") none (.seq #[]) #[])) ::
  (nat_lit 217, (.mk (.type "code") none (.fields #[(.str "_law_rounds" (606 : Nat)), (.str "_law_rounds" (607 : Nat)), (.str "/claim/cut.py" (608 : Nat)), (.int 159 (0 : Nat)), (.int 2 (0 : Nat)), (.int 0 (0 : Nat)), (.int 0 (0 : Nat)), (.int 3 (0 : Nat)), (.ref (214 : Nat)), (.bool true), (.int 276 (0 : Nat)), (.ref (215 : Nat)), .none, .none, .none, (.ref (216 : Nat)), (.int 609 (0 : Nat)), (.int 159 (0 : Nat)), (.str "/claim/cut.py" (610 : Nat))]) #[])) ::
  (nat_lit 218, (.mk (.type "function") none (.func (.mk "_law_rounds" "_law_rounds" a18 (.stmts b18) s18 (3 : Nat) [] .none .none .none (.str "law_oc0170_01" (570 : Nat)) none (.ref (217 : Nat)) .none (0 : Nat))) #[])) ::
  (nat_lit 219, (.mk (.type "tuple") none (.seq #[]) #[])) ::
  (nat_lit 222, (.mk (.type "code") none (.fields #[(.str "law" (612 : Nat)), (.str "law" (613 : Nat)), (.str "/claim/cut.py" (614 : Nat)), (.int 175 (0 : Nat)), (.int 1 (0 : Nat)), (.int 0 (0 : Nat)), (.int 0 (0 : Nat)), (.int 3 (0 : Nat)), (.ref (219 : Nat)), (.bool true), (.int 276 (0 : Nat)), (.ref (220 : Nat)), .none, .none, .none, (.ref (221 : Nat)), (.int 615 (0 : Nat)), (.int 175 (0 : Nat)), (.str "/claim/cut.py" (616 : Nat))]) #[])) ::
  (nat_lit 223, (.mk (.type "function") none (.func (.mk "law" "law" a19 (.stmts b19) s19 (3 : Nat) [] .none .none .none (.str "law_oc0170_01" (570 : Nat)) none (.ref (222 : Nat)) .none (0 : Nat))) #[])) :: []) rfl rfl rfl rfl rfl rfl rfl rfl rfl rfl rfl rfl rfl rfl rfl rfl rfl rfl rfl rfl
noncomputable def hd.view_39 : Program :=
  (fun {t0 : Stmt} {t1 : Stmt} {t2 : Stmt} {t3 : Stmt} {t4 : Stmt} {t5 : Stmt} {t6 : Stmt} {t7 : Stmt} {t8 : Stmt} {t9 : Stmt} {t10 : Stmt} {t11 : Stmt} {t12 : Stmt} {t13 : Stmt} {t14 : Stmt} {t15 : Stmt} {t16 : Stmt} {t17 : Stmt} {t18 : Stmt} {t19 : Stmt} {t20 : Stmt} {t21 : Stmt}
    (_ : PySem.Challenge.pw_oc0170_01.main.body = [t0, t1, t2, t3, t4, t5, t6, t7, t8, t9, t10, t11, t12, t13, t14, t15, t16, t17, t18, t19, t20, t21]) =>
    ({ PySem.Challenge.rw_oc0170_01.row.toRowW.prog with main := { PySem.Challenge.rw_oc0170_01.row.toRowW.prog.main with body := [t0, t1, t3, t4, t5, t6, t7, t8, t9, t11, t12, t13, t14, t15, t17, t18, t19, t20, t21] } } : Program)) rfl
noncomputable abbrev asL : List Addr := [2, 3, 32, 34, 35, 37, 38, 42, 43, 47, 48, 52, 53, 54, 56, 57, 59, 60, 61, 63, 64, 66, 67, 68, 70, 71, 73, 74, 82,
  83, 85, 86, 88, 89, 90, 92, 93, 94, 95, 96, 99, 106, 107, 108, 109, 119, 120, 122, 123, 125, 126, 127, 129, 130,
  132, 133, 134, 136, 137, 139, 140, 141, 144, 145, 146, 148, 149, 151, 152, 153, 155, 156, 158, 159, 160, 162,
  163, 165, 166, 167, 169, 170, 172, 173, 174, 176, 177, 179, 180, 181, 183, 184, 186, 187, 188, 189, 190, 191,
  192, 195, 197, 198, 200, 201, 202, 204, 205, 207, 208, 209, 212, 213, 214, 217, 218, 219, 222, 223]
noncomputable abbrev looseL : List Str := [PySem.Str.ofString "_twin_re_1", PySem.Str.ofString "_twin_re_2", PySem.Str.ofString "_twin_re_3", PySem.Str.ofString "_NodeInfo"]
theorem as_K : ∀ P, asL = (hd.heap_39 P).map (·.1) := fun _ => by kernel_rfl
theorem law_said : PySem.Challenge.rw_oc0170_01.wellSaid = true := by kernel_rfl
noncomputable abbrev obj18 : Obj := (.mk .none none (.seq #[(.int 13 (0 : Nat)), (.str (.mk #[6, 189, 10, 95, 95, 109, 111, 100, 117, 108, 101, 95, 95, 6, 186, 17, 95, 102, 114, 111, 122, 101, 110, 95, 105, 109, 112, 111, 114, 116, 108, 105, 98, 6, 190, 15, 95, 95, 102, 105, 114, 115, 116, 108, 105, 110, 101, 110, 111, 95, 95, 4, 187, 0, 971, 6, 191, 7, 95, 95, 100, 111, 99, 95, 95, 9, 52, 95, 102, 114, 111, 122, 101, 110, 95, 105, 109, 112, 111, 114, 116, 108, 105, 98, 46, 66, 117, 105, 108, 116, 105, 110, 73, 109, 112, 111, 114, 116, 101, 114, 46, 95, 95, 100, 111, 99, 95, 95, 58, 115, 116, 114, 35, 111, 112, 97, 113, 117, 101, 6, 192, 7, 95, 79, 82, 73, 71, 73, 78, 6, 188, 8, 98, 117, 105, 108, 116, 45, 105, 110, 6, 193, 9, 102, 105, 110, 100, 95, 115, 112, 101, 99, 9, 50, 95, 102, 114, 111, 122, 101, 110, 95, 105, 109, 112, 111, 114, 116, 108, 105, 98, 46, 66, 117, 105, 108, 116, 105, 110, 73, 109, 112, 111, 114, 116, 101, 114, 46, 102, 105, 110, 100, 95, 115, 112, 101, 99, 35, 111, 112, 97, 113, 117, 101, 6, 194, 13, 99, 114, 101, 97, 116, 101, 95, 109, 111, 100, 117, 108, 101, 9, 54, 95, 102, 114, 111, 122, 101, 110, 95, 105, 109, 112, 111, 114, 116, 108, 105, 98, 46, 66, 117, 105, 108, 116, 105, 110, 73, 109, 112, 111, 114, 116, 101, 114, 46, 99, 114, 101, 97, 116, 101, 95, 109, 111, 100, 117, 108, 101, 35, 111, 112, 97, 113, 117, 101, 6, 195, 11, 101, 120, 101, 99, 95, 109, 111, 100, 117, 108, 101, 9, 52, 95, 102, 114, 111, 122, 101, 110, 95, 105, 109, 112, 111, 114, 116, 108, 105, 98, 46, 66, 117, 105, 108, 116, 105, 110, 73, 109, 112, 111, 114, 116, 101, 114, 46, 101, 120, 101, 99, 95, 109, 111, 100, 117, 108, 101, 35, 111, 112, 97, 113, 117, 101, 6, 196, 8, 103, 101, 116, 95, 99, 111, 100, 101, 9, 49, 95, 102, 114, 111, 122, 101, 110, 95, 105, 109, 112, 111, 114, 116, 108, 105, 98, 46, 66, 117, 105, 108, 116, 105, 110, 73, 109, 112, 111, 114, 116, 101, 114, 46, 103, 101, 116, 95, 99, 111, 100, 101, 35, 111, 112, 97, 113, 117, 101, 6, 197, 10, 103, 101, 116, 95, 115, 111, 117, 114, 99, 101, 9, 51, 95, 102, 114, 111, 122, 101, 110, 95, 105, 109, 112, 111, 114, 116, 108, 105, 98, 46, 66, 117, 105, 108, 116, 105, 110, 73, 109, 112, 111, 114, 116, 101, 114, 46, 103, 101, 116, 95, 115, 111, 117, 114, 99, 101, 35, 111, 112, 97, 113, 117, 101, 6, 198, 10, 105, 115, 95, 112, 97, 99, 107, 97, 103, 101, 9, 51, 95, 102, 114, 111, 122, 101, 110, 95, 105, 109, 112, 111, 114, 116, 108, 105, 98, 46, 66, 117, 105, 108, 116, 105, 110, 73, 109, 112, 111, 114, 116, 101, 114, 46, 105, 115, 95, 112, 97, 99, 107, 97, 103, 101, 35, 111, 112, 97, 113, 117, 101, 6, 199, 11, 108, 111, 97, 100, 95, 109, 111, 100, 117, 108, 101, 9, 52, 95, 102, 114, 111, 122, 101, 110, 95, 105, 109, 112, 111, 114, 116, 108, 105, 98, 46, 66, 117, 105, 108, 116, 105, 110, 73, 109, 112, 111, 114, 116, 101, 114, 46, 108, 111, 97, 100, 95, 109, 111, 100, 117, 108, 101, 35, 111, 112, 97, 113, 117, 101, 6, 200, 21, 95, 95, 115, 116, 97, 116, 105, 99, 95, 97, 116, 116, 114, 105, 98, 117, 116, 101, 115, 95, 95, 4, 0, 0, 15, 6, 202, 8, 95, 95, 100, 105, 99, 116, 95, 95, 4, 0, 0, 16, 6, 204, 11, 95, 95, 119, 101, 97, 107, 114, 101, 102, 95, 95, 4, 0, 0, 17]) (0 : Nat)), (.bool true), (.bool true), (.str "" (205 : Nat)), (.int 21 (0 : Nat)), (.str (.mk #[6, 227, 10, 95, 95, 109, 111, 100, 117, 108, 101, 95, 95, 6, 217, 17, 95, 102, 114, 111, 122, 101, 110, 95, 105, 109, 112, 111, 114, 116, 108, 105, 98, 6, 228, 15, 95, 95, 102, 105, 114, 115, 116, 108, 105, 110, 101, 110, 111, 95, 95, 4, 218, 0, 562, 6, 229, 7, 95, 95, 100, 111, 99, 95, 95, 9, 47, 95, 102, 114, 111, 122, 101, 110, 95, 105, 109, 112, 111, 114, 116, 108, 105, 98, 46, 77, 111, 100, 117, 108, 101, 83, 112, 101, 99, 46, 95, 95, 100, 111, 99, 95, 95, 58, 115, 116, 114, 35, 111, 112, 97, 113, 117, 101, 6, 230, 8, 95, 95, 105, 110, 105, 116, 95, 95, 9, 44, 95, 102, 114, 111, 122, 101, 110, 95, 105, 109, 112, 111, 114, 116, 108, 105, 98, 46, 77, 111, 100, 117, 108, 101, 83, 112, 101, 99, 46, 95, 95, 105, 110, 105, 116, 95, 95, 35, 111, 112, 97, 113, 117, 101, 6, 231, 8, 95, 95, 114, 101, 112, 114, 95, 95, 9, 44, 95, 102, 114, 111, 122, 101, 110, 95, 105, 109, 112, 111, 114, 116, 108, 105, 98, 46, 77, 111, 100, 117, 108, 101, 83, 112, 101, 99, 46, 95, 95, 114, 101, 112, 114, 95, 95, 35, 111, 112, 97, 113, 117, 101, 6, 232, 6, 95, 95, 101, 113, 95, 95, 9, 42, 95, 102, 114, 111, 122, 101, 110, 95, 105, 109, 112, 111, 114, 116, 108, 105, 98, 46, 77, 111, 100, 117, 108, 101, 83, 112, 101, 99, 46, 95, 95, 101, 113, 95, 95, 35, 111, 112, 97, 113, 117, 101, 6, 233, 6, 99, 97, 99, 104, 101, 100, 9, 42, 95, 102, 114, 111, 122, 101, 110, 95, 105, 109, 112, 111, 114, 116, 108, 105, 98, 46, 77, 111, 100, 117, 108, 101, 83, 112, 101, 99, 46, 99, 97, 99, 104, 101, 100, 35, 111, 112, 97, 113, 117, 101, 6, 234, 6, 112, 97, 114, 101, 110, 116, 9, 42, 95, 102, 114, 111, 122, 101, 110, 95, 105, 109, 112, 111, 114, 116, 108, 105, 98, 46, 77, 111, 100, 117, 108, 101, 83, 112, 101, 99, 46, 112, 97, 114, 101, 110, 116, 35, 111, 112, 97, 113, 117, 101, 6, 235, 12, 104, 97, 115, 95, 108, 111, 99, 97, 116, 105, 111, 110, 9, 48, 95, 102, 114, 111, 122, 101, 110, 95, 105, 109, 112, 111, 114, 116, 108, 105, 98, 46, 77, 111, 100, 117, 108, 101, 83, 112, 101, 99, 46, 104, 97, 115, 95, 108, 111, 99, 97, 116, 105, 111, 110, 35, 111, 112, 97, 113, 117, 101, 6, 236, 21, 95, 95, 115, 116, 97, 116, 105, 99, 95, 97, 116, 116, 114, 105, 98, 117, 116, 101, 115, 95, 95, 4, 0, 0, 23, 6, 238, 8, 95, 95, 100, 105, 99, 116, 95, 95, 4, 0, 0, 24, 6, 240, 11, 95, 95, 119, 101, 97, 107, 114, 101, 102, 95, 95, 4, 0, 0, 25, 6, 241, 8, 95, 95, 104, 97, 115, 104, 95, 95, 0]) (0 : Nat)), (.bool true), (.bool true), (.str "" (242 : Nat))] (1 : Nat)) #[])
noncomputable abbrev obj27 : Obj := (.mk .none none (.seq #[(.int 11 (0 : Nat)), (.str (.mk #[6, 247, 8, 95, 95, 110, 97, 109, 101, 95, 95, 6, 246, 4, 95, 115, 114, 101, 6, 248, 7, 95, 95, 100, 111, 99, 95, 95, 0, 6, 250, 11, 95, 95, 112, 97, 99, 107, 97, 103, 101, 95, 95, 6, 249, 0, 6, 251, 10, 95, 95, 108, 111, 97, 100, 101, 114, 95, 95, 4, 0, 0, 14, 6, 252, 8, 95, 95, 115, 112, 101, 99, 95, 95, 4, 0, 0, 26, 6, 253, 7, 99, 111, 109, 112, 105, 108, 101, 9, 12, 95, 115, 114, 101, 46, 99, 111, 109, 112, 105, 108, 101, 6, 254, 8, 116, 101, 109, 112, 108, 97, 116, 101, 9, 13, 95, 115, 114, 101, 46, 116, 101, 109, 112, 108, 97, 116, 101, 6, 255, 11, 103, 101, 116, 99, 111, 100, 101, 115, 105, 122, 101, 9, 16, 95, 115, 114, 101, 46, 103, 101, 116, 99, 111, 100, 101, 115, 105, 122, 101, 6, 256, 13, 97, 115, 99, 105, 105, 95, 105, 115, 99, 97, 115, 101, 100, 9, 18, 95, 115, 114, 101, 46, 97, 115, 99, 105, 105, 95, 105, 115, 99, 97, 115, 101, 100, 6, 257, 15, 117, 110, 105, 99, 111, 100, 101, 95, 105, 115, 99, 97, 115, 101, 100, 9, 20, 95, 115, 114, 101, 46, 117, 110, 105, 99, 111, 100, 101, 95, 105, 115, 99, 97, 115, 101, 100, 6, 258, 13, 97, 115, 99, 105, 105, 95, 116, 111, 108, 111, 119, 101, 114, 9, 18, 95, 115, 114, 101, 46, 97, 115, 99, 105, 105, 95, 116, 111, 108, 111, 119, 101, 114, 6, 259, 15, 117, 110, 105, 99, 111, 100, 101, 95, 116, 111, 108, 111, 119, 101, 114, 9, 20, 95, 115, 114, 101, 46, 117, 110, 105, 99, 111, 100, 101, 95, 116, 111, 108, 111, 119, 101, 114, 6, 261, 5, 77, 65, 71, 73, 67, 4, 260, 0, 20230612, 6, 263, 8, 67, 79, 68, 69, 83, 73, 90, 69, 4, 262, 0, 4, 6, 265, 9, 77, 65, 88, 82, 69, 80, 69, 65, 84, 4, 264, 0, 4294967295, 6, 267, 9, 77, 65, 88, 71, 82, 79, 85, 80, 83, 4, 266, 0, 1073741823, 6, 269, 9, 99, 111, 112, 121, 114, 105, 103, 104, 116, 6, 268, 53, 32, 83, 82, 69, 32, 50, 46, 50, 46, 50, 32, 67, 111, 112, 121, 114, 105, 103, 104, 116, 32, 40, 99, 41, 32, 49, 57, 57, 55, 45, 50, 48, 48, 50, 32, 98, 121, 32, 83, 101, 99, 114, 101, 116, 32, 76, 97, 98, 115, 32, 65, 66, 32]) (0 : Nat)), (.bool true), (.bool false), (.str "_sre" (271 : Nat))]) #[])
noncomputable abbrev heap0 : Params → Heap := fun P =>
  ⟨#[boot_o_0 P,
  (.mk (.type "dict") none (.dict #[(.mk (PyData.keyHash P "builtins") (.str "builtins" (162 : Nat)) (.ref (4 : Nat))), (.mk (PyData.keyHash P "__main__") (.str "__main__" (163 : Nat)) (.ref (5 : Nat))), (.mk (PyData.keyHash P "_sre") (.str "_sre" (244 : Nat)) (.ref (12 : Nat)))] (3 : Nat)) #[]),
  (.mk .none none (.dict #[(.mk (PyData.keyHash P "\x69mport.loaded._sre") (.str "\x69mport.loaded._sre" (183 : Nat)) (.bool true)), (.mk (PyData.keyHash P "class._frozen_importlib.BuiltinImporter") (.str "class._frozen_importlib.BuiltinImporter" (185 : Nat)) (.ref (14 : Nat))), (.mk (PyData.keyHash P "watched.\x69mport") (.str "watched.\x69mport" (206 : Nat)) (.ref (18 : Nat))), (.mk (PyData.keyHash P "class._frozen_importlib.ModuleSpec") (.str "class._frozen_importlib.ModuleSpec" (216 : Nat)) (.ref (22 : Nat))), (.mk (PyData.keyHash P "sys.modules.booked-epoch") (.str "sys.modules.booked-epoch" (245 : Nat)) (.int 3 (0 : Nat))), (.mk (PyData.keyHash P "\x69mport.later-laid._sre") (.str "\x69mport.later-laid._sre" (270 : Nat)) (.bool true)), (.mk (PyData.keyHash P "watched.library") (.str "watched.library" (272 : Nat)) (.ref (27 : Nat))), (.mk (PyData.keyHash P "watched.library-objects") (.str "watched.library-objects" (0 : Nat)) (.str "\x0c" (0 : Nat))), (.mk (PyData.keyHash P "watched.library-deep._sre") (.str "watched.library-deep._sre" (273 : Nat)) (.str "\x04\x00\x00\x0b\x04\x00\x00\x0b\x04\x00\x00\x03\x04\x00\x00\x0b\x08\x04dict\x02" (0 : Nat)))] (9 : Nat)) #[]),
  (.mk (.type "dict") none (.dict #[(.mk (PyData.keyHash P "__name__") (.str "__name__" (165 : Nat)) (.str "__main__" (164 : Nat))), (.mk (PyData.keyHash P "__doc__") (.str "__doc__" (166 : Nat)) .none), (.mk (PyData.keyHash P "__package__") (.str "__package__" (167 : Nat)) .none), (.mk (PyData.keyHash P "__loader__") (.str "__loader__" (168 : Nat)) (.builtin "__main__.__loader__#opaque")), (.mk (PyData.keyHash P "__spec__") (.str "__spec__" (169 : Nat)) .none), (.mk (PyData.keyHash P "__annotations__") (.str "__annotations__" (170 : Nat)) (.ref (6 : Nat))), (.mk (PyData.keyHash P "__builtins__") (.str "__builtins__" (171 : Nat)) (.ref (4 : Nat))), (.mk (PyData.keyHash P "__file__") (.str "__file__" (173 : Nat)) (.str "/claim/cut.py" (172 : Nat))), (.mk (PyData.keyHash P "__cached__") (.str "__cached__" (174 : Nat)) .none), (.mk (PyData.keyHash P "_sre") (.str "_sre" (275 : Nat)) (.ref (12 : Nat)))] (10 : Nat)) #[]),
  boot_o_4 P,
  boot_o_5 P,
  boot_o_6 P,
  boot_o_7 P,
  boot_o_8 P,
  boot_o_9 P,
  boot_o_10 P,
  (.mk (.type "dict") none (.dict #[(.mk (PyData.keyHash P "__name__") (.str "__name__" (247 : Nat)) (.str "_sre" (246 : Nat))), (.mk (PyData.keyHash P "__doc__") (.str "__doc__" (248 : Nat)) .none), (.mk (PyData.keyHash P "__package__") (.str "__package__" (250 : Nat)) (.str "" (249 : Nat))), (.mk (PyData.keyHash P "__loader__") (.str "__loader__" (251 : Nat)) (.builtin "off-the-table:_sre.__loader__:shared#opaque")), (.mk (PyData.keyHash P "__spec__") (.str "__spec__" (252 : Nat)) (.builtin "off-the-table:_sre.__spec__:shared#opaque")), (.mk (PyData.keyHash P "compile") (.str "compile" (253 : Nat)) (.builtin "_sre.compile")), (.mk (PyData.keyHash P "template") (.str "template" (254 : Nat)) (.builtin "off-the-table:_sre.template:shared#opaque")), (.mk (PyData.keyHash P "getcodesize") (.str "getcodesize" (255 : Nat)) (.builtin "off-the-table:_sre.getcodesize:shared#opaque")), (.mk (PyData.keyHash P "ascii_iscased") (.str "ascii_iscased" (256 : Nat)) (.builtin "off-the-table:_sre.ascii_iscased:shared#opaque")), (.mk (PyData.keyHash P "unicode_iscased") (.str "unicode_iscased" (257 : Nat)) (.builtin "off-the-table:_sre.unicode_iscased:shared#opaque")), (.mk (PyData.keyHash P "ascii_tolower") (.str "ascii_tolower" (258 : Nat)) (.builtin "off-the-table:_sre.ascii_tolower:shared#opaque")), (.mk (PyData.keyHash P "unicode_tolower") (.str "unicode_tolower" (259 : Nat)) (.builtin "off-the-table:_sre.unicode_tolower:shared#opaque")), (.mk (PyData.keyHash P "MAGIC") (.str "MAGIC" (261 : Nat)) (.int 20230612 (260 : Nat))), (.mk (PyData.keyHash P "CODESIZE") (.str "CODESIZE" (263 : Nat)) (.int 4 (262 : Nat))), (.mk (PyData.keyHash P "MAXREPEAT") (.str "MAXREPEAT" (265 : Nat)) (.int 4294967295 (264 : Nat))), (.mk (PyData.keyHash P "MAXGROUPS") (.str "MAXGROUPS" (267 : Nat)) (.int 1073741823 (266 : Nat))), (.mk (PyData.keyHash P "copyright") (.str "copyright" (269 : Nat)) (.str " SRE 2.2.2 Copyright (c) 1997-2002 by Secret Labs AB " (268 : Nat)))] (17 : Nat)) #[]),
  (.mk (.type "module") (some (11 : Nat)) .plain #[]),
  (.mk (.type "dict") none (.dict #[(.mk (PyData.keyHash P "__module__") (.str "__module__" (189 : Nat)) (.str "_frozen_importlib" (186 : Nat))), (.mk (PyData.keyHash P "__firstlineno__") (.str "__firstlineno__" (190 : Nat)) (.int 971 (187 : Nat))), (.mk (PyData.keyHash P "__doc__") (.str "__doc__" (191 : Nat)) (.builtin "_frozen_importlib.BuiltinImporter.__doc__:str#opaque")), (.mk (PyData.keyHash P "_ORIGIN") (.str "_ORIGIN" (192 : Nat)) (.str "built-in" (188 : Nat))), (.mk (PyData.keyHash P "find_spec") (.str "find_spec" (193 : Nat)) (.builtin "_frozen_importlib.BuiltinImporter.find_spec#opaque")), (.mk (PyData.keyHash P "create_module") (.str "create_module" (194 : Nat)) (.builtin "_frozen_importlib.BuiltinImporter.create_module#opaque")), (.mk (PyData.keyHash P "exec_module") (.str "exec_module" (195 : Nat)) (.builtin "_frozen_importlib.BuiltinImporter.exec_module#opaque")), (.mk (PyData.keyHash P "get_code") (.str "get_code" (196 : Nat)) (.builtin "_frozen_importlib.BuiltinImporter.get_code#opaque")), (.mk (PyData.keyHash P "get_source") (.str "get_source" (197 : Nat)) (.builtin "_frozen_importlib.BuiltinImporter.get_source#opaque")), (.mk (PyData.keyHash P "is_package") (.str "is_package" (198 : Nat)) (.builtin "_frozen_importlib.BuiltinImporter.is_package#opaque")), (.mk (PyData.keyHash P "load_module") (.str "load_module" (199 : Nat)) (.builtin "_frozen_importlib.BuiltinImporter.load_module#opaque")), (.mk (PyData.keyHash P "__static_attributes__") (.str "__static_attributes__" (200 : Nat)) (.ref (15 : Nat))), (.mk (PyData.keyHash P "__dict__") (.str "__dict__" (202 : Nat)) (.ref (16 : Nat))), (.mk (PyData.keyHash P "__weakref__") (.str "__weakref__" (204 : Nat)) (.ref (17 : Nat)))] (14 : Nat)) #[]),
  (.mk (.type "type") none (.cls (.mk "BuiltinImporter" [(.type "object")] [(.ref (14 : Nat)), (.type "object")] (13 : Nat) "BuiltinImporter" true [] [] false none false)) #[]),
  (.mk (.type "tuple") none (.seq #[]) #[]),
  (.mk (.type "getset_descriptor") none (.fields #[(.str "__dict__" (201 : Nat)), (.ref (14 : Nat)), (.builtin "function.__dict__"), (.builtin "function.__dict__#set")]) #[]),
  (.mk (.type "getset_descriptor") none (.fields #[(.str "__weakref__" (203 : Nat)), (.ref (14 : Nat)), (.builtin "ExceptionGroup.__weakref__"), .none]) #[]),
  obj18,
  (.mk (.type "list") none (.seq #[]) #[]),
  (.mk (.type "dict") none (.dict #[(.mk (PyData.keyHash P "name") (.str "name" (208 : Nat)) (.str "_sre" (207 : Nat))), (.mk (PyData.keyHash P "loader") (.str "loader" (209 : Nat)) (.ref (14 : Nat))), (.mk (PyData.keyHash P "origin") (.str "origin" (210 : Nat)) (.str "built-in" (184 : Nat))), (.mk (PyData.keyHash P "loader_state") (.str "loader_state" (211 : Nat)) .none), (.mk (PyData.keyHash P "submodule_search_locations") (.str "submodule_search_locations" (212 : Nat)) .none), (.mk (PyData.keyHash P "_uninitialized_submodules") (.str "_uninitialized_submodules" (213 : Nat)) (.ref (19 : Nat))), (.mk (PyData.keyHash P "_set_fileattr") (.str "_set_fileattr" (214 : Nat)) (.bool false)), (.mk (PyData.keyHash P "_cached") (.str "_cached" (215 : Nat)) .none), (.mk (PyData.keyHash P "_initializing") (.str "_initializing" (243 : Nat)) (.bool false))] (9 : Nat)) #[]),
  (.mk (.type "dict") none (.dict #[(.mk (PyData.keyHash P "__module__") (.str "__module__" (227 : Nat)) (.str "_frozen_importlib" (217 : Nat))), (.mk (PyData.keyHash P "__firstlineno__") (.str "__firstlineno__" (228 : Nat)) (.int 562 (218 : Nat))), (.mk (PyData.keyHash P "__doc__") (.str "__doc__" (229 : Nat)) (.builtin "_frozen_importlib.ModuleSpec.__doc__:str#opaque")), (.mk (PyData.keyHash P "__init__") (.str "__init__" (230 : Nat)) (.builtin "_frozen_importlib.ModuleSpec.__init__#opaque")), (.mk (PyData.keyHash P "__repr__") (.str "__repr__" (231 : Nat)) (.builtin "_frozen_importlib.ModuleSpec.__repr__#opaque")), (.mk (PyData.keyHash P "__eq__") (.str "__eq__" (232 : Nat)) (.builtin "_frozen_importlib.ModuleSpec.__eq__#opaque")), (.mk (PyData.keyHash P "cached") (.str "cached" (233 : Nat)) (.builtin "_frozen_importlib.ModuleSpec.cached#opaque")), (.mk (PyData.keyHash P "parent") (.str "parent" (234 : Nat)) (.builtin "_frozen_importlib.ModuleSpec.parent#opaque")), (.mk (PyData.keyHash P "has_location") (.str "has_location" (235 : Nat)) (.builtin "_frozen_importlib.ModuleSpec.has_location#opaque")), (.mk (PyData.keyHash P "__static_attributes__") (.str "__static_attributes__" (236 : Nat)) (.ref (23 : Nat))), (.mk (PyData.keyHash P "__dict__") (.str "__dict__" (238 : Nat)) (.ref (24 : Nat))), (.mk (PyData.keyHash P "__weakref__") (.str "__weakref__" (240 : Nat)) (.ref (25 : Nat))), (.mk (PyData.keyHash P "__hash__") (.str "__hash__" (241 : Nat)) .none)] (13 : Nat)) #[]),
  (.mk (.type "type") none (.cls (.mk "ModuleSpec" [(.type "object")] [(.ref (22 : Nat)), (.type "object")] (21 : Nat) "ModuleSpec" true [] [] false none false)) #[]),
  (.mk (.type "tuple") none (.seq #[(.str "_cached" (219 : Nat)), (.str "_set_fileattr" (220 : Nat)), (.str "_uninitialized_submodules" (221 : Nat)), (.str "loader" (222 : Nat)), (.str "loader_state" (223 : Nat)), (.str "name" (224 : Nat)), (.str "origin" (225 : Nat)), (.str "submodule_search_locations" (226 : Nat))]) #[]),
  (.mk (.type "getset_descriptor") none (.fields #[(.str "__dict__" (237 : Nat)), (.ref (22 : Nat)), (.builtin "function.__dict__"), (.builtin "function.__dict__#set")]) #[]),
  (.mk (.type "getset_descriptor") none (.fields #[(.str "__weakref__" (239 : Nat)), (.ref (22 : Nat)), (.builtin "ExceptionGroup.__weakref__"), .none]) #[]),
  (.mk (.ref (22 : Nat)) (some (20 : Nat)) .plain #[]),
  obj27], (boot_heap P).life⟩
theorem of_open {p q : Program} {loose : List Str} {Xt : Shared → Bool} {α : Type} {Yf : Shared → α} {Ya : World → α} {N : Nat} {g0 : Bool} {H : Params → Heap} {gs : Array GenState} {d : Drawn} {k : Nat}
    (a : ∀ w : World, (fencedOpening treeTable p w N).map (fun s => (s.heap, s.gens, s.drawn, s.toks)) = some (H w.params, gs, d, k))
    (b : ∀ (w : World) (os : OsState), (topFrom treeTable p w N ⟨H w.params, gs, d, k, os⟩).map (fun s => (openSeen q loose (importedModules p.main.body) Xt g0 s, Yf s)) = some (openGood q loose, Ya w)) : LeftO p q loose Xt Yf Ya N g0 := fun w => by
  obtain ⟨⟨h, g, d', k', os⟩, e, e'⟩ := Option.map_eq_some_iff.mp (a w)
  obtain ⟨rfl, rfl, rfl, rfl⟩ : h = H w.params ∧ g = gs ∧ d' = d ∧ k' = k := by simpa using e'
  unfold openEnds
  rw [e]
  exact b w os
theorem hd_open : ∀ w : World, (fencedOpening treeTable PySem.Challenge.rw_oc0170_01.row.prog w 3144).map (fun s => (s.heap, s.gens, s.drawn, s.toks)) = some (heap0 w.params, #[], ⟨0, 0, 0, 0⟩, 276) := fun w => by kernel_rfl
noncomputable abbrev heap1 : Params → Heap :=
  (fun {a0 : Arguments} {b0 : List Stmt} {s0 : Scope} {a1 : Arguments} {b1 : List Stmt} {s1 : Scope} {a2 : Arguments} {b2 : List Stmt} {s2 : Scope} {a3 : Arguments} {b3 : List Stmt} {s3 : Scope} {a4 : Arguments} {b4 : List Stmt} {s4 : Scope} {a5 : Arguments} {b5 : List Stmt} {s5 : Scope} {a6 : Arguments} {b6 : List Stmt} {s6 : Scope} {a7 : Arguments} {b7 : List Stmt} {s7 : Scope} {a8 : Arguments} {b8 : List Stmt} {s8 : Scope} {a9 : Arguments} {b9 : List Stmt} {s9 : Scope} {a10 : Arguments} {b10 : List Stmt} {s10 : Scope} {a11 : Arguments} {b11 : List Stmt} {s11 : Scope} {a12 : Arguments} {b12 : List Stmt} {s12 : Scope} {a13 : Arguments} {b13 : List Stmt} {s13 : Scope} {a14 : Arguments} {b14 : List Stmt} {s14 : Scope} {a15 : Arguments} {b15 : List Stmt} {s15 : Scope} {a16 : Arguments} {b16 : List Stmt} {s16 : Scope} {a17 : Arguments} {b17 : List Stmt} {s17 : Scope} {a18 : Arguments} {b18 : List Stmt} {s18 : Scope} {a19 : Arguments} {b19 : List Stmt} {s19 : Scope}
    (_ : fdP (topS 1) = some (a0, b0, s0))
    (_ : fdP (topS 7) = some (a1, b1, s1))
    (_ : fdP (topS 8) = some (a2, b2, s2))
    (_ : fdP (topS 9) = some (a3, b3, s3))
    (_ : fdP (inS 13 1) = some (a4, b4, s4))
    (_ : fdP (inS 15 0) = some (a5, b5, s5))
    (_ : fdP (inS 15 1) = some (a6, b6, s6))
    (_ : fdP (inS 15 2) = some (a7, b7, s7))
    (_ : fdP (inS 15 3) = some (a8, b8, s8))
    (_ : fdP (inS 15 4) = some (a9, b9, s9))
    (_ : fdP (inS 15 5) = some (a10, b10, s10))
    (_ : fdP (inS 15 6) = some (a11, b11, s11))
    (_ : fdP (inS 15 7) = some (a12, b12, s12))
    (_ : fdP (inS 15 8) = some (a13, b13, s13))
    (_ : fdP (inS 15 9) = some (a14, b14, s14))
    (_ : fdP (topS 17) = some (a15, b15, s15))
    (_ : fdP (topS 18) = some (a16, b16, s16))
    (_ : fdP (topS 19) = some (a17, b17, s17))
    (_ : fdP (topS 20) = some (a18, b18, s18))
    (_ : fdP (topS 21) = some (a19, b19, s19)) => fun P =>
  (⟨#[boot_o_0 P,
  (.mk (.type "dict") none (.dict #[(.mk (PyData.keyHash P "builtins") (.str "builtins" (162 : Nat)) (.ref (4 : Nat))), (.mk (PyData.keyHash P "__main__") (.str "__main__" (163 : Nat)) (.ref (5 : Nat))), (.mk (PyData.keyHash P "_sre") (.str "_sre" (244 : Nat)) (.ref (12 : Nat)))] (3 : Nat)) #[]),
  (.mk .none none (.dict #[(.mk (PyData.keyHash P "\x69mport.loaded._sre") (.str "\x69mport.loaded._sre" (183 : Nat)) (.bool true)), (.mk (PyData.keyHash P "class._frozen_importlib.BuiltinImporter") (.str "class._frozen_importlib.BuiltinImporter" (185 : Nat)) (.ref (14 : Nat))), (.mk (PyData.keyHash P "watched.\x69mport") (.str "watched.\x69mport" (206 : Nat)) (.ref (18 : Nat))), (.mk (PyData.keyHash P "class._frozen_importlib.ModuleSpec") (.str "class._frozen_importlib.ModuleSpec" (216 : Nat)) (.ref (22 : Nat))), (.mk (PyData.keyHash P "sys.modules.booked-epoch") (.str "sys.modules.booked-epoch" (245 : Nat)) (.int 3 (0 : Nat))), (.mk (PyData.keyHash P "\x69mport.later-laid._sre") (.str "\x69mport.later-laid._sre" (270 : Nat)) (.bool true)), (.mk (PyData.keyHash P "watched.library") (.str "watched.library" (272 : Nat)) (.ref (27 : Nat))), (.mk (PyData.keyHash P "watched.library-objects") (.str "watched.library-objects" (0 : Nat)) (.str "\x0c" (0 : Nat))), (.mk (PyData.keyHash P "watched.library-deep._sre") (.str "watched.library-deep._sre" (273 : Nat)) (.str "\x04\x00\x00\x0b\x04\x00\x00\x0b\x04\x00\x00\x03\x04\x00\x00\x0b\x08\x04dict\x02" (0 : Nat)))] (9 : Nat)) #[]),
  (.mk (.type "dict") none (.dict #[(.mk (PyData.keyHash P "__name__") (.str "__name__" (165 : Nat)) (.str "cpy313.graphlib" (388 : Nat))), (.mk (PyData.keyHash P "__doc__") (.str "__doc__" (166 : Nat)) .none), (.mk (PyData.keyHash P "__package__") (.str "__package__" (167 : Nat)) .none), (.mk (PyData.keyHash P "__loader__") (.str "__loader__" (168 : Nat)) (.builtin "__main__.__loader__#opaque")), (.mk (PyData.keyHash P "__spec__") (.str "__spec__" (169 : Nat)) .none), (.mk (PyData.keyHash P "__annotations__") (.str "__annotations__" (170 : Nat)) (.ref (6 : Nat))), (.mk (PyData.keyHash P "__builtins__") (.str "__builtins__" (171 : Nat)) (.ref (4 : Nat))), (.mk (PyData.keyHash P "__file__") (.str "__file__" (173 : Nat)) (.str "/claim/cut.py" (172 : Nat))), (.mk (PyData.keyHash P "__cached__") (.str "__cached__" (174 : Nat)) .none), (.mk (PyData.keyHash P "_sre") (.str "_sre" (275 : Nat)) (.ref (12 : Nat))), (.mk (PyData.keyHash P "_wall") (.str "_wall" (288 : Nat)) (.ref (38 : Nat))), (.mk (PyData.keyHash P "_twin_re_1") (.str "_twin_re_1" (306 : Nat)) (.ref (43 : Nat))), (.mk (PyData.keyHash P "_twin_re_2") (.str "_twin_re_2" (322 : Nat)) (.ref (48 : Nat))), (.mk (PyData.keyHash P "_twin_re_3") (.str "_twin_re_3" (364 : Nat)) (.ref (53 : Nat))), (.mk (PyData.keyHash P "CRLF") (.str "CRLF" (366 : Nat)) (.str "\x0d\n" (365 : Nat))), (.mk (PyData.keyHash P "quotedata") (.str "quotedata" (373 : Nat)) (.ref (60 : Nat))), (.mk (PyData.keyHash P "_quote_periods") (.str "_quote_periods" (380 : Nat)) (.ref (67 : Nat))), (.mk (PyData.keyHash P "_fix_eols") (.str "_fix_eols" (387 : Nat)) (.ref (74 : Nat))), (.mk (PyData.keyHash P "_NODE_OUT") (.str "_NODE_OUT" (392 : Nat)) (.int (-1) (391 : Nat))), (.mk (PyData.keyHash P "_NODE_DONE") (.str "_NODE_DONE" (395 : Nat)) (.int (-2) (394 : Nat))), (.mk (PyData.keyHash P "_NodeInfo") (.str "_NodeInfo" (432 : Nat)) (.ref (93 : Nat))), (.mk (PyData.keyHash P "CycleError") (.str "CycleError" (450 : Nat)) (.ref (108 : Nat)))] (22 : Nat)) #[]),
  boot_o_4 P,
  boot_o_5 P,
  boot_o_6 P,
  boot_o_7 P,
  boot_o_8 P,
  boot_o_9 P,
  boot_o_10 P,
  (.mk (.type "dict") none (.dict #[(.mk (PyData.keyHash P "__name__") (.str "__name__" (247 : Nat)) (.str "_sre" (246 : Nat))), (.mk (PyData.keyHash P "__doc__") (.str "__doc__" (248 : Nat)) .none), (.mk (PyData.keyHash P "__package__") (.str "__package__" (250 : Nat)) (.str "" (249 : Nat))), (.mk (PyData.keyHash P "__loader__") (.str "__loader__" (251 : Nat)) (.builtin "off-the-table:_sre.__loader__:shared#opaque")), (.mk (PyData.keyHash P "__spec__") (.str "__spec__" (252 : Nat)) (.builtin "off-the-table:_sre.__spec__:shared#opaque")), (.mk (PyData.keyHash P "compile") (.str "compile" (253 : Nat)) (.builtin "_sre.compile")), (.mk (PyData.keyHash P "template") (.str "template" (254 : Nat)) (.builtin "off-the-table:_sre.template:shared#opaque")), (.mk (PyData.keyHash P "getcodesize") (.str "getcodesize" (255 : Nat)) (.builtin "off-the-table:_sre.getcodesize:shared#opaque")), (.mk (PyData.keyHash P "ascii_iscased") (.str "ascii_iscased" (256 : Nat)) (.builtin "off-the-table:_sre.ascii_iscased:shared#opaque")), (.mk (PyData.keyHash P "unicode_iscased") (.str "unicode_iscased" (257 : Nat)) (.builtin "off-the-table:_sre.unicode_iscased:shared#opaque")), (.mk (PyData.keyHash P "ascii_tolower") (.str "ascii_tolower" (258 : Nat)) (.builtin "off-the-table:_sre.ascii_tolower:shared#opaque")), (.mk (PyData.keyHash P "unicode_tolower") (.str "unicode_tolower" (259 : Nat)) (.builtin "off-the-table:_sre.unicode_tolower:shared#opaque")), (.mk (PyData.keyHash P "MAGIC") (.str "MAGIC" (261 : Nat)) (.int 20230612 (260 : Nat))), (.mk (PyData.keyHash P "CODESIZE") (.str "CODESIZE" (263 : Nat)) (.int 4 (262 : Nat))), (.mk (PyData.keyHash P "MAXREPEAT") (.str "MAXREPEAT" (265 : Nat)) (.int 4294967295 (264 : Nat))), (.mk (PyData.keyHash P "MAXGROUPS") (.str "MAXGROUPS" (267 : Nat)) (.int 1073741823 (266 : Nat))), (.mk (PyData.keyHash P "copyright") (.str "copyright" (269 : Nat)) (.str " SRE 2.2.2 Copyright (c) 1997-2002 by Secret Labs AB " (268 : Nat)))] (17 : Nat)) #[]),
  (.mk (.type "module") (some (11 : Nat)) .plain #[]),
  (.mk (.type "dict") none (.dict #[(.mk (PyData.keyHash P "__module__") (.str "__module__" (189 : Nat)) (.str "_frozen_importlib" (186 : Nat))), (.mk (PyData.keyHash P "__firstlineno__") (.str "__firstlineno__" (190 : Nat)) (.int 971 (187 : Nat))), (.mk (PyData.keyHash P "__doc__") (.str "__doc__" (191 : Nat)) (.builtin "_frozen_importlib.BuiltinImporter.__doc__:str#opaque")), (.mk (PyData.keyHash P "_ORIGIN") (.str "_ORIGIN" (192 : Nat)) (.str "built-in" (188 : Nat))), (.mk (PyData.keyHash P "find_spec") (.str "find_spec" (193 : Nat)) (.builtin "_frozen_importlib.BuiltinImporter.find_spec#opaque")), (.mk (PyData.keyHash P "create_module") (.str "create_module" (194 : Nat)) (.builtin "_frozen_importlib.BuiltinImporter.create_module#opaque")), (.mk (PyData.keyHash P "exec_module") (.str "exec_module" (195 : Nat)) (.builtin "_frozen_importlib.BuiltinImporter.exec_module#opaque")), (.mk (PyData.keyHash P "get_code") (.str "get_code" (196 : Nat)) (.builtin "_frozen_importlib.BuiltinImporter.get_code#opaque")), (.mk (PyData.keyHash P "get_source") (.str "get_source" (197 : Nat)) (.builtin "_frozen_importlib.BuiltinImporter.get_source#opaque")), (.mk (PyData.keyHash P "is_package") (.str "is_package" (198 : Nat)) (.builtin "_frozen_importlib.BuiltinImporter.is_package#opaque")), (.mk (PyData.keyHash P "load_module") (.str "load_module" (199 : Nat)) (.builtin "_frozen_importlib.BuiltinImporter.load_module#opaque")), (.mk (PyData.keyHash P "__static_attributes__") (.str "__static_attributes__" (200 : Nat)) (.ref (15 : Nat))), (.mk (PyData.keyHash P "__dict__") (.str "__dict__" (202 : Nat)) (.ref (16 : Nat))), (.mk (PyData.keyHash P "__weakref__") (.str "__weakref__" (204 : Nat)) (.ref (17 : Nat)))] (14 : Nat)) #[]),
  (.mk (.type "type") none (.cls (.mk "BuiltinImporter" [(.type "object")] [(.ref (14 : Nat)), (.type "object")] (13 : Nat) "BuiltinImporter" true [] [] false none false)) #[]),
  (.mk (.type "tuple") none (.seq #[]) #[]),
  (.mk (.type "getset_descriptor") none (.fields #[(.str "__dict__" (201 : Nat)), (.ref (14 : Nat)), (.builtin "function.__dict__"), (.builtin "function.__dict__#set")]) #[]),
  (.mk (.type "getset_descriptor") none (.fields #[(.str "__weakref__" (203 : Nat)), (.ref (14 : Nat)), (.builtin "ExceptionGroup.__weakref__"), .none]) #[]),
  obj18,
  (.mk (.type "list") none (.seq #[]) #[]),
  (.mk (.type "dict") none (.dict #[(.mk (PyData.keyHash P "name") (.str "name" (208 : Nat)) (.str "_sre" (207 : Nat))), (.mk (PyData.keyHash P "loader") (.str "loader" (209 : Nat)) (.ref (14 : Nat))), (.mk (PyData.keyHash P "origin") (.str "origin" (210 : Nat)) (.str "built-in" (184 : Nat))), (.mk (PyData.keyHash P "loader_state") (.str "loader_state" (211 : Nat)) .none), (.mk (PyData.keyHash P "submodule_search_locations") (.str "submodule_search_locations" (212 : Nat)) .none), (.mk (PyData.keyHash P "_uninitialized_submodules") (.str "_uninitialized_submodules" (213 : Nat)) (.ref (19 : Nat))), (.mk (PyData.keyHash P "_set_fileattr") (.str "_set_fileattr" (214 : Nat)) (.bool false)), (.mk (PyData.keyHash P "_cached") (.str "_cached" (215 : Nat)) .none), (.mk (PyData.keyHash P "_initializing") (.str "_initializing" (243 : Nat)) (.bool false))] (9 : Nat)) #[]),
  (.mk (.type "dict") none (.dict #[(.mk (PyData.keyHash P "__module__") (.str "__module__" (227 : Nat)) (.str "_frozen_importlib" (217 : Nat))), (.mk (PyData.keyHash P "__firstlineno__") (.str "__firstlineno__" (228 : Nat)) (.int 562 (218 : Nat))), (.mk (PyData.keyHash P "__doc__") (.str "__doc__" (229 : Nat)) (.builtin "_frozen_importlib.ModuleSpec.__doc__:str#opaque")), (.mk (PyData.keyHash P "__init__") (.str "__init__" (230 : Nat)) (.builtin "_frozen_importlib.ModuleSpec.__init__#opaque")), (.mk (PyData.keyHash P "__repr__") (.str "__repr__" (231 : Nat)) (.builtin "_frozen_importlib.ModuleSpec.__repr__#opaque")), (.mk (PyData.keyHash P "__eq__") (.str "__eq__" (232 : Nat)) (.builtin "_frozen_importlib.ModuleSpec.__eq__#opaque")), (.mk (PyData.keyHash P "cached") (.str "cached" (233 : Nat)) (.builtin "_frozen_importlib.ModuleSpec.cached#opaque")), (.mk (PyData.keyHash P "parent") (.str "parent" (234 : Nat)) (.builtin "_frozen_importlib.ModuleSpec.parent#opaque")), (.mk (PyData.keyHash P "has_location") (.str "has_location" (235 : Nat)) (.builtin "_frozen_importlib.ModuleSpec.has_location#opaque")), (.mk (PyData.keyHash P "__static_attributes__") (.str "__static_attributes__" (236 : Nat)) (.ref (23 : Nat))), (.mk (PyData.keyHash P "__dict__") (.str "__dict__" (238 : Nat)) (.ref (24 : Nat))), (.mk (PyData.keyHash P "__weakref__") (.str "__weakref__" (240 : Nat)) (.ref (25 : Nat))), (.mk (PyData.keyHash P "__hash__") (.str "__hash__" (241 : Nat)) .none)] (13 : Nat)) #[]),
  (.mk (.type "type") none (.cls (.mk "ModuleSpec" [(.type "object")] [(.ref (22 : Nat)), (.type "object")] (21 : Nat) "ModuleSpec" true [] [] false none false)) #[]),
  (.mk (.type "tuple") none (.seq #[(.str "_cached" (219 : Nat)), (.str "_set_fileattr" (220 : Nat)), (.str "_uninitialized_submodules" (221 : Nat)), (.str "loader" (222 : Nat)), (.str "loader_state" (223 : Nat)), (.str "name" (224 : Nat)), (.str "origin" (225 : Nat)), (.str "submodule_search_locations" (226 : Nat))]) #[]),
  (.mk (.type "getset_descriptor") none (.fields #[(.str "__dict__" (237 : Nat)), (.ref (22 : Nat)), (.builtin "function.__dict__"), (.builtin "function.__dict__#set")]) #[]),
  (.mk (.type "getset_descriptor") none (.fields #[(.str "__weakref__" (239 : Nat)), (.ref (22 : Nat)), (.builtin "ExceptionGroup.__weakref__"), .none]) #[]),
  (.mk (.ref (22 : Nat)) (some (20 : Nat)) .plain #[]),
  obj27,
  (.mk (.type "tuple") none (.seq #[]) #[]),
  (.mk .none none (.fields #[(.int 2 (0 : Nat)), (.int 0 (0 : Nat)), (.ref (37 : Nat)), (.int 10 (0 : Nat)), (.int 0 (0 : Nat)), (.ref (59 : Nat)), (.int 12 (0 : Nat)), (.int 0 (0 : Nat)), (.ref (66 : Nat)), (.int 14 (0 : Nat)), (.int 0 (0 : Nat)), (.ref (73 : Nat)), (.int 19 (0 : Nat)), (.int 0 (0 : Nat)), (.ref (80 : Nat)), (.int 26 (0 : Nat)), (.int 0 (0 : Nat)), (.ref (104 : Nat))]) #[]),
  (.mk (.type "code") none (.fields #[(.str "<module>" (277 : Nat)), (.str "<module>" (278 : Nat)), (.str "/claim/cut.py" (279 : Nat)), (.int 1 (0 : Nat)), (.int 0 (0 : Nat)), (.int 0 (0 : Nat)), (.int 0 (0 : Nat)), (.int 0 (0 : Nat)), (.ref (28 : Nat)), (.bool false), (.int 276 (0 : Nat)), (.ref (29 : Nat)), .none, .none, .none, .none, (.int 280 (0 : Nat)), (.int 1 (0 : Nat)), (.str "/claim/cut.py" (281 : Nat))]) #[]),
  (.mk (.type "frame") none .plain #[(some (.ref (30 : Nat))), (some (.ref (3 : Nat))), (some (.ref (3 : Nat))), none, (some (.str "__main__" (164 : Nat))), none, (some (.ref (0 : Nat)))]),
  (.mk (.type "tuple") none (.seq #[]) #[]),
  (.mk .none none (.fields #[]) #[]),
  (.mk (.type "tuple") none (.seq #[(.str "k" (285 : Nat))]) #[]),
  (.mk (.type "tuple") none (.seq #[]) #[]),
  (.mk .none none (.func (.mk "_wall" "_wall" a0 (.stmts b0) s0 (0 : Nat) [] .none .none .none .none none .none .none (0 : Nat))) #[]),
  (.mk (.type "code") none (.fields #[(.str "_wall" (282 : Nat)), (.str "_wall" (283 : Nat)), (.str "/claim/cut.py" (284 : Nat)), (.int 2 (0 : Nat)), (.int 1 (0 : Nat)), (.int 0 (0 : Nat)), (.int 0 (0 : Nat)), (.int 3 (0 : Nat)), (.ref (32 : Nat)), (.bool true), (.int 276 (0 : Nat)), (.ref (33 : Nat)), .none, (.ref (34 : Nat)), (.ref (35 : Nat)), (.ref (36 : Nat)), (.int 286 (0 : Nat)), (.int 2 (0 : Nat)), (.str "/claim/cut.py" (287 : Nat))]) #[]),
  (.mk (.type "function") none (.func (.mk "_wall" "_wall" a0 (.stmts b0) s0 (3 : Nat) [] .none .none .none (.str "__main__" (164 : Nat)) none (.ref (37 : Nat)) .none (0 : Nat))) #[]),
  (.mk (.type "list") none (.seq #[(.int 14 (294 : Nat)), (.int 4 (295 : Nat)), (.int 0 (296 : Nat)), (.int 1 (297 : Nat)), (.int 1 (298 : Nat)), (.int 6 (299 : Nat)), (.int 1 (300 : Nat)), (.int 16 (301 : Nat)), (.int 46 (302 : Nat)), (.int 1 (303 : Nat))]) #[]),
  (.mk (.type "dict") none (.dict #[]) #[]),
  (.mk (.type "tuple") none (.seq #[.none]) #[]),
  (.mk (.type "tuple") none (.seq #[(.int 14 (0 : Nat)), (.int 4 (0 : Nat)), (.int 0 (0 : Nat)), (.int 1 (0 : Nat)), (.int 1 (0 : Nat)), (.int 6 (0 : Nat)), (.int 1 (0 : Nat)), (.int 16 (0 : Nat)), (.int 46 (0 : Nat)), (.int 1 (0 : Nat))]) #[]),
  (.mk (.type "re.Pattern") none (.fields #[(.str "(?m)^\\." (292 : Nat)), (.int 40 (305 : Nat)), (.int 0 (0 : Nat)), .none, .none, (.ref (42 : Nat)), (.int 0 (0 : Nat))]) #[]),
  (.mk (.type "list") none (.seq #[(.int 14 (310 : Nat)), (.int 4 (311 : Nat)), (.int 0 (312 : Nat)), (.int 1 (313 : Nat)), (.int 1 (314 : Nat)), (.int 6 (315 : Nat)), (.int 1 (316 : Nat)), (.int 16 (317 : Nat)), (.int 46 (318 : Nat)), (.int 1 (319 : Nat))]) #[]),
  (.mk (.type "dict") none (.dict #[]) #[]),
  (.mk (.type "tuple") none (.seq #[.none]) #[]),
  (.mk (.type "tuple") none (.seq #[(.int 14 (0 : Nat)), (.int 4 (0 : Nat)), (.int 0 (0 : Nat)), (.int 1 (0 : Nat)), (.int 1 (0 : Nat)), (.int 6 (0 : Nat)), (.int 1 (0 : Nat)), (.int 16 (0 : Nat)), (.int 46 (0 : Nat)), (.int 1 (0 : Nat))]) #[]),
  (.mk (.type "re.Pattern") none (.fields #[(.bytes #[40, 63, 109, 41, 94, 92, 46] (308 : Nat)), (.int 8 (321 : Nat)), (.int 0 (0 : Nat)), .none, .none, (.ref (47 : Nat)), (.int 1 (0 : Nat))]) #[]),
  (.mk (.type "list") none (.seq #[(.int 14 (326 : Nat)), (.int 9 (327 : Nat)), (.int 4 (328 : Nat)), (.int 1 (329 : Nat)), (.int 2 (330 : Nat)), (.int 16 (331 : Nat)), (.int 10 (332 : Nat)), (.int 16 (333 : Nat)), (.int 13 (334 : Nat)), (.int 0 (335 : Nat)), (.int 7 (336 : Nat)), (.int 7 (337 : Nat)), (.int 16 (338 : Nat)), (.int 13 (339 : Nat)), (.int 16 (340 : Nat)), (.int 10 (341 : Nat)), (.int 15 (342 : Nat)), (.int 18 (343 : Nat)), (.int 5 (344 : Nat)), (.int 16 (345 : Nat)), (.int 10 (346 : Nat)), (.int 15 (347 : Nat)), (.int 13 (348 : Nat)), (.int 11 (349 : Nat)), (.int 16 (350 : Nat)), (.int 13 (351 : Nat)), (.int 5 (352 : Nat)), (.int 5 (353 : Nat)), (.int 0 (354 : Nat)), (.int 16 (355 : Nat)), (.int 10 (356 : Nat)), (.int 1 (357 : Nat)), (.int 15 (358 : Nat)), (.int 2 (359 : Nat)), (.int 0 (360 : Nat)), (.int 1 (361 : Nat))]) #[]),
  (.mk (.type "dict") none (.dict #[]) #[]),
  (.mk (.type "tuple") none (.seq #[.none]) #[]),
  (.mk (.type "tuple") none (.seq #[(.int 14 (0 : Nat)), (.int 9 (0 : Nat)), (.int 4 (0 : Nat)), (.int 1 (0 : Nat)), (.int 2 (0 : Nat)), (.int 16 (0 : Nat)), (.int 10 (0 : Nat)), (.int 16 (0 : Nat)), (.int 13 (0 : Nat)), (.int 0 (0 : Nat)), (.int 7 (0 : Nat)), (.int 7 (0 : Nat)), (.int 16 (0 : Nat)), (.int 13 (0 : Nat)), (.int 16 (0 : Nat)), (.int 10 (0 : Nat)), (.int 15 (0 : Nat)), (.int 18 (0 : Nat)), (.int 5 (0 : Nat)), (.int 16 (0 : Nat)), (.int 10 (0 : Nat)), (.int 15 (0 : Nat)), (.int 13 (0 : Nat)), (.int 11 (0 : Nat)), (.int 16 (0 : Nat)), (.int 13 (0 : Nat)), (.int 5 (0 : Nat)), (.int 5 (0 : Nat)), (.int 0 (0 : Nat)), (.int 16 (0 : Nat)), (.int 10 (0 : Nat)), (.int 1 (0 : Nat)), (.int 15 (0 : Nat)), (.int 2 (0 : Nat)), (.int 0 (0 : Nat)), (.int 1 (0 : Nat))]) #[]),
  (.mk (.type "re.Pattern") none (.fields #[(.str "(?:\\r\\n|\\n|\\r(?!\\n))" (324 : Nat)), (.int 32 (363 : Nat)), (.int 0 (0 : Nat)), .none, .none, (.ref (52 : Nat)), (.int 0 (0 : Nat))]) #[]),
  (.mk (.type "tuple") none (.seq #[]) #[]),
  (.mk .none none (.fields #[]) #[]),
  (.mk (.type "tuple") none (.seq #[(.str "data" (370 : Nat))]) #[]),
  (.mk (.type "tuple") none (.seq #[]) #[]),
  (.mk .none none (.func (.mk "quotedata" "quotedata" a1 (.stmts b1) s1 (0 : Nat) [] .none .none .none .none none .none .none (0 : Nat))) #[]),
  (.mk (.type "code") none (.fields #[(.str "quotedata" (367 : Nat)), (.str "quotedata" (368 : Nat)), (.str "/claim/cut.py" (369 : Nat)), (.int 10 (0 : Nat)), (.int 1 (0 : Nat)), (.int 0 (0 : Nat)), (.int 0 (0 : Nat)), (.int 3 (0 : Nat)), (.ref (54 : Nat)), (.bool true), (.int 276 (0 : Nat)), (.ref (55 : Nat)), .none, (.ref (56 : Nat)), (.ref (57 : Nat)), (.ref (58 : Nat)), (.int 371 (0 : Nat)), (.int 10 (0 : Nat)), (.str "/claim/cut.py" (372 : Nat))]) #[]),
  (.mk (.type "function") none (.func (.mk "quotedata" "quotedata" a1 (.stmts b1) s1 (3 : Nat) [] .none .none .none (.str "cpy313.smtplib" (289 : Nat)) none (.ref (59 : Nat)) .none (0 : Nat))) #[]),
  (.mk (.type "tuple") none (.seq #[]) #[]),
  (.mk .none none (.fields #[]) #[]),
  (.mk (.type "tuple") none (.seq #[(.str "bindata" (377 : Nat))]) #[]),
  (.mk (.type "tuple") none (.seq #[]) #[]),
  (.mk .none none (.func (.mk "_quote_periods" "_quote_periods" a2 (.stmts b2) s2 (0 : Nat) [] .none .none .none .none none .none .none (0 : Nat))) #[]),
  (.mk (.type "code") none (.fields #[(.str "_quote_periods" (374 : Nat)), (.str "_quote_periods" (375 : Nat)), (.str "/claim/cut.py" (376 : Nat)), (.int 12 (0 : Nat)), (.int 1 (0 : Nat)), (.int 0 (0 : Nat)), (.int 0 (0 : Nat)), (.int 3 (0 : Nat)), (.ref (61 : Nat)), (.bool true), (.int 276 (0 : Nat)), (.ref (62 : Nat)), .none, (.ref (63 : Nat)), (.ref (64 : Nat)), (.ref (65 : Nat)), (.int 378 (0 : Nat)), (.int 12 (0 : Nat)), (.str "/claim/cut.py" (379 : Nat))]) #[]),
  (.mk (.type "function") none (.func (.mk "_quote_periods" "_quote_periods" a2 (.stmts b2) s2 (3 : Nat) [] .none .none .none (.str "cpy313.smtplib" (289 : Nat)) none (.ref (66 : Nat)) .none (0 : Nat))) #[]),
  (.mk (.type "tuple") none (.seq #[]) #[]),
  (.mk .none none (.fields #[]) #[]),
  (.mk (.type "tuple") none (.seq #[(.str "data" (384 : Nat))]) #[]),
  (.mk (.type "tuple") none (.seq #[]) #[]),
  (.mk .none none (.func (.mk "_fix_eols" "_fix_eols" a3 (.stmts b3) s3 (0 : Nat) [] .none .none .none .none none .none .none (0 : Nat))) #[]),
  (.mk (.type "code") none (.fields #[(.str "_fix_eols" (381 : Nat)), (.str "_fix_eols" (382 : Nat)), (.str "/claim/cut.py" (383 : Nat)), (.int 14 (0 : Nat)), (.int 1 (0 : Nat)), (.int 0 (0 : Nat)), (.int 0 (0 : Nat)), (.int 3 (0 : Nat)), (.ref (68 : Nat)), (.bool true), (.int 276 (0 : Nat)), (.ref (69 : Nat)), .none, (.ref (70 : Nat)), (.ref (71 : Nat)), (.ref (72 : Nat)), (.int 385 (0 : Nat)), (.int 14 (0 : Nat)), (.str "/claim/cut.py" (386 : Nat))]) #[]),
  (.mk (.type "function") none (.func (.mk "_fix_eols" "_fix_eols" a3 (.stmts b3) s3 (3 : Nat) [] .none .none .none (.str "cpy313.smtplib" (289 : Nat)) none (.ref (73 : Nat)) .none (0 : Nat))) #[]),
  (.mk (.type "tuple") none (.seq #[]) #[]),
  (.mk (.type "builtin_function_or_method") none (.fields #[(.builtin "type.__prepare__"), (.type "type")]) #[]),
  (.mk (.type "dict") none (.dict #[(.mk (PyData.keyHash P "__module__") (.str "__module__" (403 : Nat)) (.str "cpy313.graphlib" (388 : Nat))), (.mk (PyData.keyHash P "__qualname__") (.str "__qualname__" (405 : Nat)) (.str "_NodeInfo" (404 : Nat))), (.mk (PyData.keyHash P "__firstlineno__") (.str "__firstlineno__" (407 : Nat)) (.int 19 (406 : Nat))), (.mk (PyData.keyHash P "__slots__") (.str "__slots__" (411 : Nat)) (.ref (82 : Nat))), (.mk (PyData.keyHash P "__init__") (.str "__init__" (419 : Nat)) (.ref (89 : Nat))), (.mk (PyData.keyHash P "__static_attributes__") (.str "__static_attributes__" (423 : Nat)) (.ref (90 : Nat)))] (6 : Nat)) #[]),
  (.mk (.type "tuple") none (.seq #[]) #[]),
  (.mk .none none (.fields #[(.int 22 (0 : Nat)), (.int 4 (0 : Nat)), (.ref (88 : Nat))]) #[]),
  (.mk (.type "code") none (.fields #[(.str "_NodeInfo" (398 : Nat)), (.str "_NodeInfo" (399 : Nat)), (.str "/claim/cut.py" (400 : Nat)), (.int 19 (0 : Nat)), (.int 0 (0 : Nat)), (.int 0 (0 : Nat)), (.int 0 (0 : Nat)), (.int 0 (0 : Nat)), (.ref (78 : Nat)), (.bool false), (.int 276 (0 : Nat)), (.ref (79 : Nat)), .none, .none, .none, .none, (.int 401 (0 : Nat)), (.int 19 (0 : Nat)), (.str "/claim/cut.py" (402 : Nat))]) #[]),
  (.mk (.type "frame") none .plain #[(some (.ref (80 : Nat))), (some (.ref (3 : Nat))), (some (.ref (77 : Nat))), none, (some (.str "cpy313.graphlib" (388 : Nat))), none, (some (.ref (0 : Nat)))]),
  (.mk (.type "tuple") none (.seq #[(.str "node" (408 : Nat)), (.str "npredecessors" (409 : Nat)), (.str "successors" (410 : Nat))]) #[]),
  (.mk (.type "tuple") none (.seq #[]) #[]),
  (.mk .none none (.fields #[]) #[]),
  (.mk (.type "tuple") none (.seq #[(.str "self" (415 : Nat)), (.str "node" (416 : Nat))]) #[]),
  (.mk (.type "tuple") none (.seq #[]) #[]),
  (.mk .none none (.func (.mk "__init__" "_NodeInfo.__init__" a4 (.stmts b4) s4 (0 : Nat) [] .none .none .none .none none .none .none (0 : Nat))) #[]),
  (.mk (.type "code") none (.fields #[(.str "__init__" (412 : Nat)), (.str "_NodeInfo.__init__" (413 : Nat)), (.str "/claim/cut.py" (414 : Nat)), (.int 22 (0 : Nat)), (.int 2 (0 : Nat)), (.int 0 (0 : Nat)), (.int 0 (0 : Nat)), (.int 3 (0 : Nat)), (.ref (83 : Nat)), (.bool true), (.int 276 (0 : Nat)), (.ref (84 : Nat)), .none, (.ref (85 : Nat)), (.ref (86 : Nat)), (.ref (87 : Nat)), (.int 417 (0 : Nat)), (.int 22 (0 : Nat)), (.str "/claim/cut.py" (418 : Nat))]) #[]),
  (.mk (.type "function") none (.func (.mk "__init__" "_NodeInfo.__init__" a4 (.stmts b4) s4 (3 : Nat) [] .none .none .none (.str "cpy313.graphlib" (388 : Nat)) none (.ref (88 : Nat)) .none (0 : Nat))) #[]),
  (.mk (.type "tuple") none (.seq #[(.str "node" (420 : Nat)), (.str "npredecessors" (421 : Nat)), (.str "successors" (422 : Nat))]) #[]),
  (.mk (.type "list") none (.seq #[(.str "node" (408 : Nat)), (.str "npredecessors" (409 : Nat)), (.str "successors" (410 : Nat))] (1 : Nat)) #[]),
  (.mk (.type "dict") none (.dict #[(.mk (PyData.keyHash P "__module__") (.str "__module__" (403 : Nat)) (.str "cpy313.graphlib" (388 : Nat))), (.mk (PyData.keyHash P "__firstlineno__") (.str "__firstlineno__" (407 : Nat)) (.int 19 (406 : Nat))), (.mk (PyData.keyHash P "__slots__") (.str "__slots__" (411 : Nat)) (.ref (82 : Nat))), (.mk (PyData.keyHash P "__init__") (.str "__init__" (419 : Nat)) (.ref (89 : Nat))), (.mk (PyData.keyHash P "__static_attributes__") (.str "__static_attributes__" (423 : Nat)) (.ref (90 : Nat))), (.mk (PyData.keyHash P "node") (.str "node" (425 : Nat)) (.ref (94 : Nat))), (.mk (PyData.keyHash P "npredecessors") (.str "npredecessors" (427 : Nat)) (.ref (95 : Nat))), (.mk (PyData.keyHash P "successors") (.str "successors" (429 : Nat)) (.ref (96 : Nat))), (.mk (PyData.keyHash P "__doc__") (.str "__doc__" (430 : Nat)) .none)] (5 : Nat)) #[]),
  (.mk (.type "type") none (.cls (.mk "_NodeInfo" [(.type "object")] [(.ref (93 : Nat)), (.type "object")] (92 : Nat) "_NodeInfo" false ["node", "npredecessors", "successors"] [] false none false)) #[none, none, (some (.str "_NodeInfo" (396 : Nat))), (some (.str "_NodeInfo" (404 : Nat))), (some (.builtin "object.__new__")), (some (.bool false))]),
  (.mk (.type "member_descriptor") none (.fields #[(.str "node" (424 : Nat)), (.ref (93 : Nat)), (.builtin "proto.slot"), (.builtin "proto.slot#set"), (.int 2 (0 : Nat))]) #[]),
  (.mk (.type "member_descriptor") none (.fields #[(.str "npredecessors" (426 : Nat)), (.ref (93 : Nat)), (.builtin "proto.slot"), (.builtin "proto.slot#set"), (.int 1 (0 : Nat))]) #[]),
  (.mk (.type "member_descriptor") none (.fields #[(.str "successors" (428 : Nat)), (.ref (93 : Nat)), (.builtin "proto.slot"), (.builtin "proto.slot#set"), (.int 0 (0 : Nat))]) #[]),
  (.mk (.type "super") none (.fields #[(.ref (93 : Nat)), (.ref (93 : Nat)), (.ref (93 : Nat))]) #[]),
  (.mk (.type "builtin_function_or_method") none (.fields #[(.builtin "object.__init_subclass__"), (.ref (93 : Nat))]) #[]),
  (.mk (.type "tuple") none (.seq #[(.type "ValueError")]) #[]),
  (.mk (.type "builtin_function_or_method") none (.fields #[(.builtin "type.__prepare__"), (.type "type")]) #[]),
  (.mk (.type "dict") none (.dict #[(.mk (PyData.keyHash P "__module__") (.str "__module__" (440 : Nat)) (.str "cpy313.graphlib" (388 : Nat))), (.mk (PyData.keyHash P "__qualname__") (.str "__qualname__" (442 : Nat)) (.str "CycleError" (441 : Nat))), (.mk (PyData.keyHash P "__firstlineno__") (.str "__firstlineno__" (444 : Nat)) (.int 26 (443 : Nat))), (.mk (PyData.keyHash P "__static_attributes__") (.str "__static_attributes__" (445 : Nat)) (.ref (106 : Nat)))] (4 : Nat)) #[]),
  (.mk (.type "tuple") none (.seq #[]) #[]),
  (.mk .none none (.fields #[]) #[]),
  (.mk (.type "code") none (.fields #[(.str "CycleError" (435 : Nat)), (.str "CycleError" (436 : Nat)), (.str "/claim/cut.py" (437 : Nat)), (.int 26 (0 : Nat)), (.int 0 (0 : Nat)), (.int 0 (0 : Nat)), (.int 0 (0 : Nat)), (.int 0 (0 : Nat)), (.ref (102 : Nat)), (.bool false), (.int 276 (0 : Nat)), (.ref (103 : Nat)), .none, .none, .none, .none, (.int 438 (0 : Nat)), (.int 26 (0 : Nat)), (.str "/claim/cut.py" (439 : Nat))]) #[]),
  (.mk (.type "frame") none .plain #[(some (.ref (104 : Nat))), (some (.ref (3 : Nat))), (some (.ref (101 : Nat))), none, (some (.str "cpy313.graphlib" (388 : Nat))), none, (some (.ref (0 : Nat)))]),
  (.mk (.type "tuple") none (.seq #[]) #[]),
  (.mk (.type "dict") none (.dict #[(.mk (PyData.keyHash P "__module__") (.str "__module__" (440 : Nat)) (.str "cpy313.graphlib" (388 : Nat))), (.mk (PyData.keyHash P "__firstlineno__") (.str "__firstlineno__" (444 : Nat)) (.int 26 (443 : Nat))), (.mk (PyData.keyHash P "__static_attributes__") (.str "__static_attributes__" (445 : Nat)) (.ref (106 : Nat))), (.mk (PyData.keyHash P "__weakref__") (.str "__weakref__" (447 : Nat)) (.ref (109 : Nat))), (.mk (PyData.keyHash P "__doc__") (.str "__doc__" (448 : Nat)) .none)] (3 : Nat)) #[]),
  (.mk (.type "type") none (.cls (.mk "CycleError" [(.type "ValueError")] [(.ref (108 : Nat)), (.type "ValueError"), (.type "Exception"), (.type "BaseException"), (.type "object")] (107 : Nat) "CycleError" true [] [] false none false)) #[(some (.ref (99 : Nat))), none, (some (.str "CycleError" (433 : Nat))), (some (.str "CycleError" (441 : Nat))), (some (.builtin "ValueError.__new__")), (some (.bool true))]),
  (.mk (.type "getset_descriptor") none (.fields #[(.str "__weakref__" (446 : Nat)), (.ref (108 : Nat)), (.builtin "ExceptionGroup.__weakref__"), .none]) #[]),
  (.mk (.type "super") none (.fields #[(.ref (108 : Nat)), (.ref (108 : Nat)), (.ref (108 : Nat))]) #[]),
  (.mk (.type "builtin_function_or_method") none (.fields #[(.builtin "object.__init_subclass__"), (.ref (108 : Nat))]) #[])], (boot_heap P).life⟩ : Heap)) rfl rfl rfl rfl rfl rfl rfl rfl rfl rfl rfl rfl rfl rfl rfl rfl rfl rfl rfl rfl
section
variable {p q : Program} {loose : List Str} {Xt : Shared → Bool} {α : Type} {Yf : Shared → α} {Ya : World → α} {N : Nat} {g0 : Bool} {H H1 : Params → Heap} {gs gs1 : Array GenState} {d d1 : Drawn} {k k1 m n1 nb n2 M j : Nat} {ann : Option Value} {env : Env} {b : List Stmt} {ps pb pe qf : Pos}
theorem of_mid (size : ∀ w : World, ((H w.params).isNs mainGlobals && gs.size == 0, (H w.params).objs.size, (H w.params).nsMap mainGlobals "__annotations__") = (true, m, ann))
    (pre : ∀ (w : World) (os : OsState), (topGo treeTable p w m ann n1 ⟨H w.params, gs, d, k, os⟩ (topStub p)).map (·.2) = some ⟨denote treeTable (.body b env), .body b env, ps, [topFrame qf]⟩)
    (blk : ∀ (w : World) (os : OsState), ((topGo treeTable p w m ann n1 ⟨H w.params, gs, d, k, os⟩ (topStub p)).bind fun x => (segRun treeTable p w m ann 1 nb x.1 (blockOf b env (.body b env) ps [topFrame qf])).map fun y => (y.1, y.2.2)) = some (.next, .body b env, pb))
    (seg : ∀ (w : World) (os : OsState), ((topGo treeTable p w m ann n1 ⟨H w.params, gs, d, k, os⟩ (topStub p)).bind fun x => (segRun treeTable p w m ann 1 nb x.1 (blockOf b env (.body b env) ps [topFrame qf])).bind fun y =>
      segRun treeTable p w m ann 1 n2 y.2.1 (piecesOf (b.take j) env (.body b env) pb [topFrame qf])) = some (.next, ⟨H1 w.params, gs1, d1, k1, os⟩, .body b env, pe))
    (rest : ∀ (w : World) (os : OsState), ((topRun treeTable p w m ann M ⟨H1 w.params, gs1, d1, k1, os⟩ (restOf (b.drop j) env (.body b env) pe [topFrame qf])).bind fun s =>
      match staticsOk (importedModules p.main.body) (H w.params) s.heap && namesBound p s.heap && gensDone s && laidKept (H w.params) s.heap with | true => some s | false => none).map
        (fun s => (openSeen q loose (importedModules p.main.body) Xt g0 s, Yf s)) = some (openGood q loose, Ya w))
    (le : Nat.ble (n1 + (nb + (n2 + M))) N = true) (w : World) (os : OsState) :
    (topFrom treeTable p w N ⟨H w.params, gs, d, k, os⟩).map (fun s => (openSeen q loose (importedModules p.main.body) Xt g0 s, Yf s)) = some (openGood q loose, Ya w) := by
  obtain ⟨z1, z2, z3⟩ : _ ∧ _ ∧ _ := by simpa only [Prod.mk.injEq] using size w
  obtain ⟨⟨sa, ta⟩, e1, rfl⟩ := Option.map_eq_some_iff.mp (pre w os)
  have e2 := blk w os
  have e3 := seg w os
  rw [e1, Option.bind_some] at e2 e3
  obtain ⟨⟨f, sb, c, pp⟩, e4, e5⟩ := Option.map_eq_some_iff.mp e2
  obtain ⟨rfl, rfl, rfl⟩ : f = .next ∧ c = .body b env ∧ pp = pb := by simpa only [Prod.mk.injEq] using e5
  obtain ⟨⟨f, sb', c, pp⟩, e6, e7⟩ := Option.bind_eq_some_iff.mp e3
  cases e4.symm.trans e6
  obtain ⟨s1, e8, e9⟩ := Option.map_eq_some_iff.mp (rest w os)
  obtain ⟨r, e10, e11⟩ := Option.bind_eq_some_iff.mp e8
  have t := piece_app (rest := b.drop j) e7 e10
  rw [List.take_append_drop] at t
  have t := topRun_mono (N - (n1 + (nb + (n2 + M)))) _ _ _ _ (go_top e1 (piece_block e4 t))
  rw [show n1 + (nb + (n2 + M)) + (N - (n1 + (nb + (n2 + M)))) = N from Nat.add_sub_cancel' (Nat.le_of_ble_eq_true le)] at t
  unfold topFrom
  dsimp only
  rw [z1, z2, z3, t]
  exact (congrArg (Option.map fun s => (openSeen q loose (importedModules p.main.body) Xt g0 s, Yf s)) e11).trans (congrArg some e9)
end
noncomputable def menv : Env := { scope := PySem.Challenge.pw_oc0170_01.main.scope, locals := mainNs, globals := mainNs, cells := [], code := .ref 30, frame := some 31 }
noncomputable def mbody : List Stmt := behindTheImports PySem.Challenge.pw_oc0170_01
theorem hd_pre : ∀ (w : World) (os : OsState), (topGo treeTable PySem.Challenge.rw_oc0170_01.row.prog w 28 (some (.ref 6)) 12 ⟨heap0 w.params, #[], ⟨0, 0, 0, 0⟩, 276, os⟩ (topStub PySem.Challenge.rw_oc0170_01.row.prog)).map (·.2) = some ⟨denote treeTable (.body mbody menv), .body mbody menv, ⟨0, 0, 0, 0⟩, [topFrame ⟨0, 0, 0, 0⟩]⟩ := fun w os => by kernel_rfl
theorem hd_blk : ∀ (w : World) (os : OsState), ((topGo treeTable PySem.Challenge.rw_oc0170_01.row.prog w 28 (some (.ref 6)) 12 ⟨heap0 w.params, #[], ⟨0, 0, 0, 0⟩, 276, os⟩ (topStub PySem.Challenge.rw_oc0170_01.row.prog)).bind fun x => (segRun treeTable PySem.Challenge.rw_oc0170_01.row.prog w 28 (some (.ref 6)) 1 1 x.1 (blockOf mbody menv (.body mbody menv) ⟨0, 0, 0, 0⟩ [topFrame ⟨0, 0, 0, 0⟩])).map fun y => (y.1, y.2.2)) = some (.next, .body mbody menv, ⟨0, 0, 0, 0⟩) := fun w os => by kernel_rfl
theorem hd_seg : ∀ (w : World) (os : OsState), ((topGo treeTable PySem.Challenge.rw_oc0170_01.row.prog w 28 (some (.ref 6)) 12 ⟨heap0 w.params, #[], ⟨0, 0, 0, 0⟩, 276, os⟩ (topStub PySem.Challenge.rw_oc0170_01.row.prog)).bind fun x => (segRun treeTable PySem.Challenge.rw_oc0170_01.row.prog w 28 (some (.ref 6)) 1 1 x.1 (blockOf mbody menv (.body mbody menv) ⟨0, 0, 0, 0⟩ [topFrame ⟨0, 0, 0, 0⟩])).bind fun y =>
      segRun treeTable PySem.Challenge.rw_oc0170_01.row.prog w 28 (some (.ref 6)) 1 900 y.2.1 (piecesOf (mbody.take 14) menv (.body mbody menv) ⟨0, 0, 0, 0⟩ [topFrame ⟨0, 0, 0, 0⟩])) = some (.next, ⟨heap1 w.params, #[], ⟨0, 0, 0, 0⟩, 451, os⟩, .body mbody menv, ⟨26, 0, 27, 8⟩) := fun w os => by kernel_rfl
noncomputable abbrev heap2 : Params → Heap :=
  (fun {a0 : Arguments} {b0 : List Stmt} {s0 : Scope} {a1 : Arguments} {b1 : List Stmt} {s1 : Scope} {a2 : Arguments} {b2 : List Stmt} {s2 : Scope} {a3 : Arguments} {b3 : List Stmt} {s3 : Scope} {a4 : Arguments} {b4 : List Stmt} {s4 : Scope} {a5 : Arguments} {b5 : List Stmt} {s5 : Scope} {a6 : Arguments} {b6 : List Stmt} {s6 : Scope} {a7 : Arguments} {b7 : List Stmt} {s7 : Scope} {a8 : Arguments} {b8 : List Stmt} {s8 : Scope} {a9 : Arguments} {b9 : List Stmt} {s9 : Scope} {a10 : Arguments} {b10 : List Stmt} {s10 : Scope} {a11 : Arguments} {b11 : List Stmt} {s11 : Scope} {a12 : Arguments} {b12 : List Stmt} {s12 : Scope} {a13 : Arguments} {b13 : List Stmt} {s13 : Scope} {a14 : Arguments} {b14 : List Stmt} {s14 : Scope} {a15 : Arguments} {b15 : List Stmt} {s15 : Scope} {a16 : Arguments} {b16 : List Stmt} {s16 : Scope} {a17 : Arguments} {b17 : List Stmt} {s17 : Scope} {a18 : Arguments} {b18 : List Stmt} {s18 : Scope} {a19 : Arguments} {b19 : List Stmt} {s19 : Scope}
    (_ : fdP (topS 1) = some (a0, b0, s0))
    (_ : fdP (topS 7) = some (a1, b1, s1))
    (_ : fdP (topS 8) = some (a2, b2, s2))
    (_ : fdP (topS 9) = some (a3, b3, s3))
    (_ : fdP (inS 13 1) = some (a4, b4, s4))
    (_ : fdP (inS 15 0) = some (a5, b5, s5))
    (_ : fdP (inS 15 1) = some (a6, b6, s6))
    (_ : fdP (inS 15 2) = some (a7, b7, s7))
    (_ : fdP (inS 15 3) = some (a8, b8, s8))
    (_ : fdP (inS 15 4) = some (a9, b9, s9))
    (_ : fdP (inS 15 5) = some (a10, b10, s10))
    (_ : fdP (inS 15 6) = some (a11, b11, s11))
    (_ : fdP (inS 15 7) = some (a12, b12, s12))
    (_ : fdP (inS 15 8) = some (a13, b13, s13))
    (_ : fdP (inS 15 9) = some (a14, b14, s14))
    (_ : fdP (topS 17) = some (a15, b15, s15))
    (_ : fdP (topS 18) = some (a16, b16, s16))
    (_ : fdP (topS 19) = some (a17, b17, s17))
    (_ : fdP (topS 20) = some (a18, b18, s18))
    (_ : fdP (topS 21) = some (a19, b19, s19)) => fun P =>
  (⟨#[boot_o_0 P,
  (.mk (.type "dict") none (.dict #[(.mk (PyData.keyHash P "builtins") (.str "builtins" (162 : Nat)) (.ref (4 : Nat))), (.mk (PyData.keyHash P "__main__") (.str "__main__" (163 : Nat)) (.ref (5 : Nat))), (.mk (PyData.keyHash P "_sre") (.str "_sre" (244 : Nat)) (.ref (12 : Nat)))] (3 : Nat)) #[]),
  (.mk .none none (.dict #[(.mk (PyData.keyHash P "\x69mport.loaded._sre") (.str "\x69mport.loaded._sre" (183 : Nat)) (.bool true)), (.mk (PyData.keyHash P "class._frozen_importlib.BuiltinImporter") (.str "class._frozen_importlib.BuiltinImporter" (185 : Nat)) (.ref (14 : Nat))), (.mk (PyData.keyHash P "watched.\x69mport") (.str "watched.\x69mport" (206 : Nat)) (.ref (18 : Nat))), (.mk (PyData.keyHash P "class._frozen_importlib.ModuleSpec") (.str "class._frozen_importlib.ModuleSpec" (216 : Nat)) (.ref (22 : Nat))), (.mk (PyData.keyHash P "sys.modules.booked-epoch") (.str "sys.modules.booked-epoch" (245 : Nat)) (.int 3 (0 : Nat))), (.mk (PyData.keyHash P "\x69mport.later-laid._sre") (.str "\x69mport.later-laid._sre" (270 : Nat)) (.bool true)), (.mk (PyData.keyHash P "watched.library") (.str "watched.library" (272 : Nat)) (.ref (27 : Nat))), (.mk (PyData.keyHash P "watched.library-objects") (.str "watched.library-objects" (0 : Nat)) (.str "\x0c" (0 : Nat))), (.mk (PyData.keyHash P "watched.library-deep._sre") (.str "watched.library-deep._sre" (273 : Nat)) (.str "\x04\x00\x00\x0b\x04\x00\x00\x0b\x04\x00\x00\x03\x04\x00\x00\x0b\x08\x04dict\x02" (0 : Nat)))] (9 : Nat)) #[]),
  (.mk (.type "dict") none (.dict #[(.mk (PyData.keyHash P "__name__") (.str "__name__" (165 : Nat)) (.str "cpy313.graphlib" (388 : Nat))), (.mk (PyData.keyHash P "__doc__") (.str "__doc__" (166 : Nat)) .none), (.mk (PyData.keyHash P "__package__") (.str "__package__" (167 : Nat)) .none), (.mk (PyData.keyHash P "__loader__") (.str "__loader__" (168 : Nat)) (.builtin "__main__.__loader__#opaque")), (.mk (PyData.keyHash P "__spec__") (.str "__spec__" (169 : Nat)) .none), (.mk (PyData.keyHash P "__annotations__") (.str "__annotations__" (170 : Nat)) (.ref (6 : Nat))), (.mk (PyData.keyHash P "__builtins__") (.str "__builtins__" (171 : Nat)) (.ref (4 : Nat))), (.mk (PyData.keyHash P "__file__") (.str "__file__" (173 : Nat)) (.str "/claim/cut.py" (172 : Nat))), (.mk (PyData.keyHash P "__cached__") (.str "__cached__" (174 : Nat)) .none), (.mk (PyData.keyHash P "_sre") (.str "_sre" (275 : Nat)) (.ref (12 : Nat))), (.mk (PyData.keyHash P "_wall") (.str "_wall" (288 : Nat)) (.ref (38 : Nat))), (.mk (PyData.keyHash P "_twin_re_1") (.str "_twin_re_1" (306 : Nat)) (.ref (43 : Nat))), (.mk (PyData.keyHash P "_twin_re_2") (.str "_twin_re_2" (322 : Nat)) (.ref (48 : Nat))), (.mk (PyData.keyHash P "_twin_re_3") (.str "_twin_re_3" (364 : Nat)) (.ref (53 : Nat))), (.mk (PyData.keyHash P "CRLF") (.str "CRLF" (366 : Nat)) (.str "\x0d\n" (365 : Nat))), (.mk (PyData.keyHash P "quotedata") (.str "quotedata" (373 : Nat)) (.ref (60 : Nat))), (.mk (PyData.keyHash P "_quote_periods") (.str "_quote_periods" (380 : Nat)) (.ref (67 : Nat))), (.mk (PyData.keyHash P "_fix_eols") (.str "_fix_eols" (387 : Nat)) (.ref (74 : Nat))), (.mk (PyData.keyHash P "_NODE_OUT") (.str "_NODE_OUT" (392 : Nat)) (.int (-1) (391 : Nat))), (.mk (PyData.keyHash P "_NODE_DONE") (.str "_NODE_DONE" (395 : Nat)) (.int (-2) (394 : Nat))), (.mk (PyData.keyHash P "_NodeInfo") (.str "_NodeInfo" (432 : Nat)) (.ref (93 : Nat))), (.mk (PyData.keyHash P "CycleError") (.str "CycleError" (450 : Nat)) (.ref (108 : Nat))), (.mk (PyData.keyHash P "TopologicalSorter") (.str "TopologicalSorter" (569 : Nat)) (.ref (190 : Nat)))] (23 : Nat)) #[]),
  boot_o_4 P,
  boot_o_5 P,
  boot_o_6 P,
  boot_o_7 P,
  boot_o_8 P,
  boot_o_9 P,
  boot_o_10 P,
  (.mk (.type "dict") none (.dict #[(.mk (PyData.keyHash P "__name__") (.str "__name__" (247 : Nat)) (.str "_sre" (246 : Nat))), (.mk (PyData.keyHash P "__doc__") (.str "__doc__" (248 : Nat)) .none), (.mk (PyData.keyHash P "__package__") (.str "__package__" (250 : Nat)) (.str "" (249 : Nat))), (.mk (PyData.keyHash P "__loader__") (.str "__loader__" (251 : Nat)) (.builtin "off-the-table:_sre.__loader__:shared#opaque")), (.mk (PyData.keyHash P "__spec__") (.str "__spec__" (252 : Nat)) (.builtin "off-the-table:_sre.__spec__:shared#opaque")), (.mk (PyData.keyHash P "compile") (.str "compile" (253 : Nat)) (.builtin "_sre.compile")), (.mk (PyData.keyHash P "template") (.str "template" (254 : Nat)) (.builtin "off-the-table:_sre.template:shared#opaque")), (.mk (PyData.keyHash P "getcodesize") (.str "getcodesize" (255 : Nat)) (.builtin "off-the-table:_sre.getcodesize:shared#opaque")), (.mk (PyData.keyHash P "ascii_iscased") (.str "ascii_iscased" (256 : Nat)) (.builtin "off-the-table:_sre.ascii_iscased:shared#opaque")), (.mk (PyData.keyHash P "unicode_iscased") (.str "unicode_iscased" (257 : Nat)) (.builtin "off-the-table:_sre.unicode_iscased:shared#opaque")), (.mk (PyData.keyHash P "ascii_tolower") (.str "ascii_tolower" (258 : Nat)) (.builtin "off-the-table:_sre.ascii_tolower:shared#opaque")), (.mk (PyData.keyHash P "unicode_tolower") (.str "unicode_tolower" (259 : Nat)) (.builtin "off-the-table:_sre.unicode_tolower:shared#opaque")), (.mk (PyData.keyHash P "MAGIC") (.str "MAGIC" (261 : Nat)) (.int 20230612 (260 : Nat))), (.mk (PyData.keyHash P "CODESIZE") (.str "CODESIZE" (263 : Nat)) (.int 4 (262 : Nat))), (.mk (PyData.keyHash P "MAXREPEAT") (.str "MAXREPEAT" (265 : Nat)) (.int 4294967295 (264 : Nat))), (.mk (PyData.keyHash P "MAXGROUPS") (.str "MAXGROUPS" (267 : Nat)) (.int 1073741823 (266 : Nat))), (.mk (PyData.keyHash P "copyright") (.str "copyright" (269 : Nat)) (.str " SRE 2.2.2 Copyright (c) 1997-2002 by Secret Labs AB " (268 : Nat)))] (17 : Nat)) #[]),
  (.mk (.type "module") (some (11 : Nat)) .plain #[]),
  (.mk (.type "dict") none (.dict #[(.mk (PyData.keyHash P "__module__") (.str "__module__" (189 : Nat)) (.str "_frozen_importlib" (186 : Nat))), (.mk (PyData.keyHash P "__firstlineno__") (.str "__firstlineno__" (190 : Nat)) (.int 971 (187 : Nat))), (.mk (PyData.keyHash P "__doc__") (.str "__doc__" (191 : Nat)) (.builtin "_frozen_importlib.BuiltinImporter.__doc__:str#opaque")), (.mk (PyData.keyHash P "_ORIGIN") (.str "_ORIGIN" (192 : Nat)) (.str "built-in" (188 : Nat))), (.mk (PyData.keyHash P "find_spec") (.str "find_spec" (193 : Nat)) (.builtin "_frozen_importlib.BuiltinImporter.find_spec#opaque")), (.mk (PyData.keyHash P "create_module") (.str "create_module" (194 : Nat)) (.builtin "_frozen_importlib.BuiltinImporter.create_module#opaque")), (.mk (PyData.keyHash P "exec_module") (.str "exec_module" (195 : Nat)) (.builtin "_frozen_importlib.BuiltinImporter.exec_module#opaque")), (.mk (PyData.keyHash P "get_code") (.str "get_code" (196 : Nat)) (.builtin "_frozen_importlib.BuiltinImporter.get_code#opaque")), (.mk (PyData.keyHash P "get_source") (.str "get_source" (197 : Nat)) (.builtin "_frozen_importlib.BuiltinImporter.get_source#opaque")), (.mk (PyData.keyHash P "is_package") (.str "is_package" (198 : Nat)) (.builtin "_frozen_importlib.BuiltinImporter.is_package#opaque")), (.mk (PyData.keyHash P "load_module") (.str "load_module" (199 : Nat)) (.builtin "_frozen_importlib.BuiltinImporter.load_module#opaque")), (.mk (PyData.keyHash P "__static_attributes__") (.str "__static_attributes__" (200 : Nat)) (.ref (15 : Nat))), (.mk (PyData.keyHash P "__dict__") (.str "__dict__" (202 : Nat)) (.ref (16 : Nat))), (.mk (PyData.keyHash P "__weakref__") (.str "__weakref__" (204 : Nat)) (.ref (17 : Nat)))] (14 : Nat)) #[]),
  (.mk (.type "type") none (.cls (.mk "BuiltinImporter" [(.type "object")] [(.ref (14 : Nat)), (.type "object")] (13 : Nat) "BuiltinImporter" true [] [] false none false)) #[]),
  (.mk (.type "tuple") none (.seq #[]) #[]),
  (.mk (.type "getset_descriptor") none (.fields #[(.str "__dict__" (201 : Nat)), (.ref (14 : Nat)), (.builtin "function.__dict__"), (.builtin "function.__dict__#set")]) #[]),
  (.mk (.type "getset_descriptor") none (.fields #[(.str "__weakref__" (203 : Nat)), (.ref (14 : Nat)), (.builtin "ExceptionGroup.__weakref__"), .none]) #[]),
  obj18,
  (.mk (.type "list") none (.seq #[]) #[]),
  (.mk (.type "dict") none (.dict #[(.mk (PyData.keyHash P "name") (.str "name" (208 : Nat)) (.str "_sre" (207 : Nat))), (.mk (PyData.keyHash P "loader") (.str "loader" (209 : Nat)) (.ref (14 : Nat))), (.mk (PyData.keyHash P "origin") (.str "origin" (210 : Nat)) (.str "built-in" (184 : Nat))), (.mk (PyData.keyHash P "loader_state") (.str "loader_state" (211 : Nat)) .none), (.mk (PyData.keyHash P "submodule_search_locations") (.str "submodule_search_locations" (212 : Nat)) .none), (.mk (PyData.keyHash P "_uninitialized_submodules") (.str "_uninitialized_submodules" (213 : Nat)) (.ref (19 : Nat))), (.mk (PyData.keyHash P "_set_fileattr") (.str "_set_fileattr" (214 : Nat)) (.bool false)), (.mk (PyData.keyHash P "_cached") (.str "_cached" (215 : Nat)) .none), (.mk (PyData.keyHash P "_initializing") (.str "_initializing" (243 : Nat)) (.bool false))] (9 : Nat)) #[]),
  (.mk (.type "dict") none (.dict #[(.mk (PyData.keyHash P "__module__") (.str "__module__" (227 : Nat)) (.str "_frozen_importlib" (217 : Nat))), (.mk (PyData.keyHash P "__firstlineno__") (.str "__firstlineno__" (228 : Nat)) (.int 562 (218 : Nat))), (.mk (PyData.keyHash P "__doc__") (.str "__doc__" (229 : Nat)) (.builtin "_frozen_importlib.ModuleSpec.__doc__:str#opaque")), (.mk (PyData.keyHash P "__init__") (.str "__init__" (230 : Nat)) (.builtin "_frozen_importlib.ModuleSpec.__init__#opaque")), (.mk (PyData.keyHash P "__repr__") (.str "__repr__" (231 : Nat)) (.builtin "_frozen_importlib.ModuleSpec.__repr__#opaque")), (.mk (PyData.keyHash P "__eq__") (.str "__eq__" (232 : Nat)) (.builtin "_frozen_importlib.ModuleSpec.__eq__#opaque")), (.mk (PyData.keyHash P "cached") (.str "cached" (233 : Nat)) (.builtin "_frozen_importlib.ModuleSpec.cached#opaque")), (.mk (PyData.keyHash P "parent") (.str "parent" (234 : Nat)) (.builtin "_frozen_importlib.ModuleSpec.parent#opaque")), (.mk (PyData.keyHash P "has_location") (.str "has_location" (235 : Nat)) (.builtin "_frozen_importlib.ModuleSpec.has_location#opaque")), (.mk (PyData.keyHash P "__static_attributes__") (.str "__static_attributes__" (236 : Nat)) (.ref (23 : Nat))), (.mk (PyData.keyHash P "__dict__") (.str "__dict__" (238 : Nat)) (.ref (24 : Nat))), (.mk (PyData.keyHash P "__weakref__") (.str "__weakref__" (240 : Nat)) (.ref (25 : Nat))), (.mk (PyData.keyHash P "__hash__") (.str "__hash__" (241 : Nat)) .none)] (13 : Nat)) #[]),
  (.mk (.type "type") none (.cls (.mk "ModuleSpec" [(.type "object")] [(.ref (22 : Nat)), (.type "object")] (21 : Nat) "ModuleSpec" true [] [] false none false)) #[]),
  (.mk (.type "tuple") none (.seq #[(.str "_cached" (219 : Nat)), (.str "_set_fileattr" (220 : Nat)), (.str "_uninitialized_submodules" (221 : Nat)), (.str "loader" (222 : Nat)), (.str "loader_state" (223 : Nat)), (.str "name" (224 : Nat)), (.str "origin" (225 : Nat)), (.str "submodule_search_locations" (226 : Nat))]) #[]),
  (.mk (.type "getset_descriptor") none (.fields #[(.str "__dict__" (237 : Nat)), (.ref (22 : Nat)), (.builtin "function.__dict__"), (.builtin "function.__dict__#set")]) #[]),
  (.mk (.type "getset_descriptor") none (.fields #[(.str "__weakref__" (239 : Nat)), (.ref (22 : Nat)), (.builtin "ExceptionGroup.__weakref__"), .none]) #[]),
  (.mk (.ref (22 : Nat)) (some (20 : Nat)) .plain #[]),
  obj27,
  (.mk (.type "tuple") none (.seq #[]) #[]),
  (.mk .none none (.fields #[(.int 2 (0 : Nat)), (.int 0 (0 : Nat)), (.ref (37 : Nat)), (.int 10 (0 : Nat)), (.int 0 (0 : Nat)), (.ref (59 : Nat)), (.int 12 (0 : Nat)), (.int 0 (0 : Nat)), (.ref (66 : Nat)), (.int 14 (0 : Nat)), (.int 0 (0 : Nat)), (.ref (73 : Nat)), (.int 19 (0 : Nat)), (.int 0 (0 : Nat)), (.ref (80 : Nat)), (.int 26 (0 : Nat)), (.int 0 (0 : Nat)), (.ref (104 : Nat)), (.int 28 (0 : Nat)), (.int 0 (0 : Nat)), (.ref (117 : Nat))]) #[]),
  (.mk (.type "code") none (.fields #[(.str "<module>" (277 : Nat)), (.str "<module>" (278 : Nat)), (.str "/claim/cut.py" (279 : Nat)), (.int 1 (0 : Nat)), (.int 0 (0 : Nat)), (.int 0 (0 : Nat)), (.int 0 (0 : Nat)), (.int 0 (0 : Nat)), (.ref (28 : Nat)), (.bool false), (.int 276 (0 : Nat)), (.ref (29 : Nat)), .none, .none, .none, .none, (.int 280 (0 : Nat)), (.int 1 (0 : Nat)), (.str "/claim/cut.py" (281 : Nat))]) #[]),
  (.mk (.type "frame") none .plain #[(some (.ref (30 : Nat))), (some (.ref (3 : Nat))), (some (.ref (3 : Nat))), none, (some (.str "__main__" (164 : Nat))), none, (some (.ref (0 : Nat)))]),
  (.mk (.type "tuple") none (.seq #[]) #[]),
  (.mk .none none (.fields #[]) #[]),
  (.mk (.type "tuple") none (.seq #[(.str "k" (285 : Nat))]) #[]),
  (.mk (.type "tuple") none (.seq #[]) #[]),
  (.mk .none none (.func (.mk "_wall" "_wall" a0 (.stmts b0) s0 (0 : Nat) [] .none .none .none .none none .none .none (0 : Nat))) #[]),
  (.mk (.type "code") none (.fields #[(.str "_wall" (282 : Nat)), (.str "_wall" (283 : Nat)), (.str "/claim/cut.py" (284 : Nat)), (.int 2 (0 : Nat)), (.int 1 (0 : Nat)), (.int 0 (0 : Nat)), (.int 0 (0 : Nat)), (.int 3 (0 : Nat)), (.ref (32 : Nat)), (.bool true), (.int 276 (0 : Nat)), (.ref (33 : Nat)), .none, (.ref (34 : Nat)), (.ref (35 : Nat)), (.ref (36 : Nat)), (.int 286 (0 : Nat)), (.int 2 (0 : Nat)), (.str "/claim/cut.py" (287 : Nat))]) #[]),
  (.mk (.type "function") none (.func (.mk "_wall" "_wall" a0 (.stmts b0) s0 (3 : Nat) [] .none .none .none (.str "__main__" (164 : Nat)) none (.ref (37 : Nat)) .none (0 : Nat))) #[]),
  (.mk (.type "list") none (.seq #[(.int 14 (294 : Nat)), (.int 4 (295 : Nat)), (.int 0 (296 : Nat)), (.int 1 (297 : Nat)), (.int 1 (298 : Nat)), (.int 6 (299 : Nat)), (.int 1 (300 : Nat)), (.int 16 (301 : Nat)), (.int 46 (302 : Nat)), (.int 1 (303 : Nat))]) #[]),
  (.mk (.type "dict") none (.dict #[]) #[]),
  (.mk (.type "tuple") none (.seq #[.none]) #[]),
  (.mk (.type "tuple") none (.seq #[(.int 14 (0 : Nat)), (.int 4 (0 : Nat)), (.int 0 (0 : Nat)), (.int 1 (0 : Nat)), (.int 1 (0 : Nat)), (.int 6 (0 : Nat)), (.int 1 (0 : Nat)), (.int 16 (0 : Nat)), (.int 46 (0 : Nat)), (.int 1 (0 : Nat))]) #[]),
  (.mk (.type "re.Pattern") none (.fields #[(.str "(?m)^\\." (292 : Nat)), (.int 40 (305 : Nat)), (.int 0 (0 : Nat)), .none, .none, (.ref (42 : Nat)), (.int 0 (0 : Nat))]) #[]),
  (.mk (.type "list") none (.seq #[(.int 14 (310 : Nat)), (.int 4 (311 : Nat)), (.int 0 (312 : Nat)), (.int 1 (313 : Nat)), (.int 1 (314 : Nat)), (.int 6 (315 : Nat)), (.int 1 (316 : Nat)), (.int 16 (317 : Nat)), (.int 46 (318 : Nat)), (.int 1 (319 : Nat))]) #[]),
  (.mk (.type "dict") none (.dict #[]) #[]),
  (.mk (.type "tuple") none (.seq #[.none]) #[]),
  (.mk (.type "tuple") none (.seq #[(.int 14 (0 : Nat)), (.int 4 (0 : Nat)), (.int 0 (0 : Nat)), (.int 1 (0 : Nat)), (.int 1 (0 : Nat)), (.int 6 (0 : Nat)), (.int 1 (0 : Nat)), (.int 16 (0 : Nat)), (.int 46 (0 : Nat)), (.int 1 (0 : Nat))]) #[]),
  (.mk (.type "re.Pattern") none (.fields #[(.bytes #[40, 63, 109, 41, 94, 92, 46] (308 : Nat)), (.int 8 (321 : Nat)), (.int 0 (0 : Nat)), .none, .none, (.ref (47 : Nat)), (.int 1 (0 : Nat))]) #[]),
  (.mk (.type "list") none (.seq #[(.int 14 (326 : Nat)), (.int 9 (327 : Nat)), (.int 4 (328 : Nat)), (.int 1 (329 : Nat)), (.int 2 (330 : Nat)), (.int 16 (331 : Nat)), (.int 10 (332 : Nat)), (.int 16 (333 : Nat)), (.int 13 (334 : Nat)), (.int 0 (335 : Nat)), (.int 7 (336 : Nat)), (.int 7 (337 : Nat)), (.int 16 (338 : Nat)), (.int 13 (339 : Nat)), (.int 16 (340 : Nat)), (.int 10 (341 : Nat)), (.int 15 (342 : Nat)), (.int 18 (343 : Nat)), (.int 5 (344 : Nat)), (.int 16 (345 : Nat)), (.int 10 (346 : Nat)), (.int 15 (347 : Nat)), (.int 13 (348 : Nat)), (.int 11 (349 : Nat)), (.int 16 (350 : Nat)), (.int 13 (351 : Nat)), (.int 5 (352 : Nat)), (.int 5 (353 : Nat)), (.int 0 (354 : Nat)), (.int 16 (355 : Nat)), (.int 10 (356 : Nat)), (.int 1 (357 : Nat)), (.int 15 (358 : Nat)), (.int 2 (359 : Nat)), (.int 0 (360 : Nat)), (.int 1 (361 : Nat))]) #[]),
  (.mk (.type "dict") none (.dict #[]) #[]),
  (.mk (.type "tuple") none (.seq #[.none]) #[]),
  (.mk (.type "tuple") none (.seq #[(.int 14 (0 : Nat)), (.int 9 (0 : Nat)), (.int 4 (0 : Nat)), (.int 1 (0 : Nat)), (.int 2 (0 : Nat)), (.int 16 (0 : Nat)), (.int 10 (0 : Nat)), (.int 16 (0 : Nat)), (.int 13 (0 : Nat)), (.int 0 (0 : Nat)), (.int 7 (0 : Nat)), (.int 7 (0 : Nat)), (.int 16 (0 : Nat)), (.int 13 (0 : Nat)), (.int 16 (0 : Nat)), (.int 10 (0 : Nat)), (.int 15 (0 : Nat)), (.int 18 (0 : Nat)), (.int 5 (0 : Nat)), (.int 16 (0 : Nat)), (.int 10 (0 : Nat)), (.int 15 (0 : Nat)), (.int 13 (0 : Nat)), (.int 11 (0 : Nat)), (.int 16 (0 : Nat)), (.int 13 (0 : Nat)), (.int 5 (0 : Nat)), (.int 5 (0 : Nat)), (.int 0 (0 : Nat)), (.int 16 (0 : Nat)), (.int 10 (0 : Nat)), (.int 1 (0 : Nat)), (.int 15 (0 : Nat)), (.int 2 (0 : Nat)), (.int 0 (0 : Nat)), (.int 1 (0 : Nat))]) #[]),
  (.mk (.type "re.Pattern") none (.fields #[(.str "(?:\\r\\n|\\n|\\r(?!\\n))" (324 : Nat)), (.int 32 (363 : Nat)), (.int 0 (0 : Nat)), .none, .none, (.ref (52 : Nat)), (.int 0 (0 : Nat))]) #[]),
  (.mk (.type "tuple") none (.seq #[]) #[]),
  (.mk .none none (.fields #[]) #[]),
  (.mk (.type "tuple") none (.seq #[(.str "data" (370 : Nat))]) #[]),
  (.mk (.type "tuple") none (.seq #[]) #[]),
  (.mk .none none (.func (.mk "quotedata" "quotedata" a1 (.stmts b1) s1 (0 : Nat) [] .none .none .none .none none .none .none (0 : Nat))) #[]),
  (.mk (.type "code") none (.fields #[(.str "quotedata" (367 : Nat)), (.str "quotedata" (368 : Nat)), (.str "/claim/cut.py" (369 : Nat)), (.int 10 (0 : Nat)), (.int 1 (0 : Nat)), (.int 0 (0 : Nat)), (.int 0 (0 : Nat)), (.int 3 (0 : Nat)), (.ref (54 : Nat)), (.bool true), (.int 276 (0 : Nat)), (.ref (55 : Nat)), .none, (.ref (56 : Nat)), (.ref (57 : Nat)), (.ref (58 : Nat)), (.int 371 (0 : Nat)), (.int 10 (0 : Nat)), (.str "/claim/cut.py" (372 : Nat))]) #[]),
  (.mk (.type "function") none (.func (.mk "quotedata" "quotedata" a1 (.stmts b1) s1 (3 : Nat) [] .none .none .none (.str "cpy313.smtplib" (289 : Nat)) none (.ref (59 : Nat)) .none (0 : Nat))) #[]),
  (.mk (.type "tuple") none (.seq #[]) #[]),
  (.mk .none none (.fields #[]) #[]),
  (.mk (.type "tuple") none (.seq #[(.str "bindata" (377 : Nat))]) #[]),
  (.mk (.type "tuple") none (.seq #[]) #[]),
  (.mk .none none (.func (.mk "_quote_periods" "_quote_periods" a2 (.stmts b2) s2 (0 : Nat) [] .none .none .none .none none .none .none (0 : Nat))) #[]),
  (.mk (.type "code") none (.fields #[(.str "_quote_periods" (374 : Nat)), (.str "_quote_periods" (375 : Nat)), (.str "/claim/cut.py" (376 : Nat)), (.int 12 (0 : Nat)), (.int 1 (0 : Nat)), (.int 0 (0 : Nat)), (.int 0 (0 : Nat)), (.int 3 (0 : Nat)), (.ref (61 : Nat)), (.bool true), (.int 276 (0 : Nat)), (.ref (62 : Nat)), .none, (.ref (63 : Nat)), (.ref (64 : Nat)), (.ref (65 : Nat)), (.int 378 (0 : Nat)), (.int 12 (0 : Nat)), (.str "/claim/cut.py" (379 : Nat))]) #[]),
  (.mk (.type "function") none (.func (.mk "_quote_periods" "_quote_periods" a2 (.stmts b2) s2 (3 : Nat) [] .none .none .none (.str "cpy313.smtplib" (289 : Nat)) none (.ref (66 : Nat)) .none (0 : Nat))) #[]),
  (.mk (.type "tuple") none (.seq #[]) #[]),
  (.mk .none none (.fields #[]) #[]),
  (.mk (.type "tuple") none (.seq #[(.str "data" (384 : Nat))]) #[]),
  (.mk (.type "tuple") none (.seq #[]) #[]),
  (.mk .none none (.func (.mk "_fix_eols" "_fix_eols" a3 (.stmts b3) s3 (0 : Nat) [] .none .none .none .none none .none .none (0 : Nat))) #[]),
  (.mk (.type "code") none (.fields #[(.str "_fix_eols" (381 : Nat)), (.str "_fix_eols" (382 : Nat)), (.str "/claim/cut.py" (383 : Nat)), (.int 14 (0 : Nat)), (.int 1 (0 : Nat)), (.int 0 (0 : Nat)), (.int 0 (0 : Nat)), (.int 3 (0 : Nat)), (.ref (68 : Nat)), (.bool true), (.int 276 (0 : Nat)), (.ref (69 : Nat)), .none, (.ref (70 : Nat)), (.ref (71 : Nat)), (.ref (72 : Nat)), (.int 385 (0 : Nat)), (.int 14 (0 : Nat)), (.str "/claim/cut.py" (386 : Nat))]) #[]),
  (.mk (.type "function") none (.func (.mk "_fix_eols" "_fix_eols" a3 (.stmts b3) s3 (3 : Nat) [] .none .none .none (.str "cpy313.smtplib" (289 : Nat)) none (.ref (73 : Nat)) .none (0 : Nat))) #[]),
  (.mk (.type "tuple") none (.seq #[]) #[]),
  (.mk (.type "builtin_function_or_method") none (.fields #[(.builtin "type.__prepare__"), (.type "type")]) #[]),
  (.mk (.type "dict") none (.dict #[(.mk (PyData.keyHash P "__module__") (.str "__module__" (403 : Nat)) (.str "cpy313.graphlib" (388 : Nat))), (.mk (PyData.keyHash P "__qualname__") (.str "__qualname__" (405 : Nat)) (.str "_NodeInfo" (404 : Nat))), (.mk (PyData.keyHash P "__firstlineno__") (.str "__firstlineno__" (407 : Nat)) (.int 19 (406 : Nat))), (.mk (PyData.keyHash P "__slots__") (.str "__slots__" (411 : Nat)) (.ref (82 : Nat))), (.mk (PyData.keyHash P "__init__") (.str "__init__" (419 : Nat)) (.ref (89 : Nat))), (.mk (PyData.keyHash P "__static_attributes__") (.str "__static_attributes__" (423 : Nat)) (.ref (90 : Nat)))] (6 : Nat)) #[]),
  (.mk (.type "tuple") none (.seq #[]) #[]),
  (.mk .none none (.fields #[(.int 22 (0 : Nat)), (.int 4 (0 : Nat)), (.ref (88 : Nat))]) #[]),
  (.mk (.type "code") none (.fields #[(.str "_NodeInfo" (398 : Nat)), (.str "_NodeInfo" (399 : Nat)), (.str "/claim/cut.py" (400 : Nat)), (.int 19 (0 : Nat)), (.int 0 (0 : Nat)), (.int 0 (0 : Nat)), (.int 0 (0 : Nat)), (.int 0 (0 : Nat)), (.ref (78 : Nat)), (.bool false), (.int 276 (0 : Nat)), (.ref (79 : Nat)), .none, .none, .none, .none, (.int 401 (0 : Nat)), (.int 19 (0 : Nat)), (.str "/claim/cut.py" (402 : Nat))]) #[]),
  (.mk (.type "frame") none .plain #[(some (.ref (80 : Nat))), (some (.ref (3 : Nat))), (some (.ref (77 : Nat))), none, (some (.str "cpy313.graphlib" (388 : Nat))), none, (some (.ref (0 : Nat)))]),
  (.mk (.type "tuple") none (.seq #[(.str "node" (408 : Nat)), (.str "npredecessors" (409 : Nat)), (.str "successors" (410 : Nat))]) #[]),
  (.mk (.type "tuple") none (.seq #[]) #[]),
  (.mk .none none (.fields #[]) #[]),
  (.mk (.type "tuple") none (.seq #[(.str "self" (415 : Nat)), (.str "node" (416 : Nat))]) #[]),
  (.mk (.type "tuple") none (.seq #[]) #[]),
  (.mk .none none (.func (.mk "__init__" "_NodeInfo.__init__" a4 (.stmts b4) s4 (0 : Nat) [] .none .none .none .none none .none .none (0 : Nat))) #[]),
  (.mk (.type "code") none (.fields #[(.str "__init__" (412 : Nat)), (.str "_NodeInfo.__init__" (413 : Nat)), (.str "/claim/cut.py" (414 : Nat)), (.int 22 (0 : Nat)), (.int 2 (0 : Nat)), (.int 0 (0 : Nat)), (.int 0 (0 : Nat)), (.int 3 (0 : Nat)), (.ref (83 : Nat)), (.bool true), (.int 276 (0 : Nat)), (.ref (84 : Nat)), .none, (.ref (85 : Nat)), (.ref (86 : Nat)), (.ref (87 : Nat)), (.int 417 (0 : Nat)), (.int 22 (0 : Nat)), (.str "/claim/cut.py" (418 : Nat))]) #[]),
  (.mk (.type "function") none (.func (.mk "__init__" "_NodeInfo.__init__" a4 (.stmts b4) s4 (3 : Nat) [] .none .none .none (.str "cpy313.graphlib" (388 : Nat)) none (.ref (88 : Nat)) .none (0 : Nat))) #[]),
  (.mk (.type "tuple") none (.seq #[(.str "node" (420 : Nat)), (.str "npredecessors" (421 : Nat)), (.str "successors" (422 : Nat))]) #[]),
  (.mk (.type "list") none (.seq #[(.str "node" (408 : Nat)), (.str "npredecessors" (409 : Nat)), (.str "successors" (410 : Nat))] (1 : Nat)) #[]),
  (.mk (.type "dict") none (.dict #[(.mk (PyData.keyHash P "__module__") (.str "__module__" (403 : Nat)) (.str "cpy313.graphlib" (388 : Nat))), (.mk (PyData.keyHash P "__firstlineno__") (.str "__firstlineno__" (407 : Nat)) (.int 19 (406 : Nat))), (.mk (PyData.keyHash P "__slots__") (.str "__slots__" (411 : Nat)) (.ref (82 : Nat))), (.mk (PyData.keyHash P "__init__") (.str "__init__" (419 : Nat)) (.ref (89 : Nat))), (.mk (PyData.keyHash P "__static_attributes__") (.str "__static_attributes__" (423 : Nat)) (.ref (90 : Nat))), (.mk (PyData.keyHash P "node") (.str "node" (425 : Nat)) (.ref (94 : Nat))), (.mk (PyData.keyHash P "npredecessors") (.str "npredecessors" (427 : Nat)) (.ref (95 : Nat))), (.mk (PyData.keyHash P "successors") (.str "successors" (429 : Nat)) (.ref (96 : Nat))), (.mk (PyData.keyHash P "__doc__") (.str "__doc__" (430 : Nat)) .none)] (5 : Nat)) #[]),
  (.mk (.type "type") none (.cls (.mk "_NodeInfo" [(.type "object")] [(.ref (93 : Nat)), (.type "object")] (92 : Nat) "_NodeInfo" false ["node", "npredecessors", "successors"] [] false none false)) #[none, none, (some (.str "_NodeInfo" (396 : Nat))), (some (.str "_NodeInfo" (404 : Nat))), (some (.builtin "object.__new__")), (some (.bool false))]),
  (.mk (.type "member_descriptor") none (.fields #[(.str "node" (424 : Nat)), (.ref (93 : Nat)), (.builtin "proto.slot"), (.builtin "proto.slot#set"), (.int 2 (0 : Nat))]) #[]),
  (.mk (.type "member_descriptor") none (.fields #[(.str "npredecessors" (426 : Nat)), (.ref (93 : Nat)), (.builtin "proto.slot"), (.builtin "proto.slot#set"), (.int 1 (0 : Nat))]) #[]),
  (.mk (.type "member_descriptor") none (.fields #[(.str "successors" (428 : Nat)), (.ref (93 : Nat)), (.builtin "proto.slot"), (.builtin "proto.slot#set"), (.int 0 (0 : Nat))]) #[]),
  (.mk (.type "super") none (.fields #[(.ref (93 : Nat)), (.ref (93 : Nat)), (.ref (93 : Nat))]) #[]),
  (.mk (.type "builtin_function_or_method") none (.fields #[(.builtin "object.__init_subclass__"), (.ref (93 : Nat))]) #[]),
  (.mk (.type "tuple") none (.seq #[(.type "ValueError")]) #[]),
  (.mk (.type "builtin_function_or_method") none (.fields #[(.builtin "type.__prepare__"), (.type "type")]) #[]),
  (.mk (.type "dict") none (.dict #[(.mk (PyData.keyHash P "__module__") (.str "__module__" (440 : Nat)) (.str "cpy313.graphlib" (388 : Nat))), (.mk (PyData.keyHash P "__qualname__") (.str "__qualname__" (442 : Nat)) (.str "CycleError" (441 : Nat))), (.mk (PyData.keyHash P "__firstlineno__") (.str "__firstlineno__" (444 : Nat)) (.int 26 (443 : Nat))), (.mk (PyData.keyHash P "__static_attributes__") (.str "__static_attributes__" (445 : Nat)) (.ref (106 : Nat)))] (4 : Nat)) #[]),
  (.mk (.type "tuple") none (.seq #[]) #[]),
  (.mk .none none (.fields #[]) #[]),
  (.mk (.type "code") none (.fields #[(.str "CycleError" (435 : Nat)), (.str "CycleError" (436 : Nat)), (.str "/claim/cut.py" (437 : Nat)), (.int 26 (0 : Nat)), (.int 0 (0 : Nat)), (.int 0 (0 : Nat)), (.int 0 (0 : Nat)), (.int 0 (0 : Nat)), (.ref (102 : Nat)), (.bool false), (.int 276 (0 : Nat)), (.ref (103 : Nat)), .none, .none, .none, .none, (.int 438 (0 : Nat)), (.int 26 (0 : Nat)), (.str "/claim/cut.py" (439 : Nat))]) #[]),
  (.mk (.type "frame") none .plain #[(some (.ref (104 : Nat))), (some (.ref (3 : Nat))), (some (.ref (101 : Nat))), none, (some (.str "cpy313.graphlib" (388 : Nat))), none, (some (.ref (0 : Nat)))]),
  (.mk (.type "tuple") none (.seq #[]) #[]),
  (.mk (.type "dict") none (.dict #[(.mk (PyData.keyHash P "__module__") (.str "__module__" (440 : Nat)) (.str "cpy313.graphlib" (388 : Nat))), (.mk (PyData.keyHash P "__firstlineno__") (.str "__firstlineno__" (444 : Nat)) (.int 26 (443 : Nat))), (.mk (PyData.keyHash P "__static_attributes__") (.str "__static_attributes__" (445 : Nat)) (.ref (106 : Nat))), (.mk (PyData.keyHash P "__weakref__") (.str "__weakref__" (447 : Nat)) (.ref (109 : Nat))), (.mk (PyData.keyHash P "__doc__") (.str "__doc__" (448 : Nat)) .none)] (3 : Nat)) #[]),
  (.mk (.type "type") none (.cls (.mk "CycleError" [(.type "ValueError")] [(.ref (108 : Nat)), (.type "ValueError"), (.type "Exception"), (.type "BaseException"), (.type "object")] (107 : Nat) "CycleError" true [] [] false none false)) #[(some (.ref (99 : Nat))), none, (some (.str "CycleError" (433 : Nat))), (some (.str "CycleError" (441 : Nat))), (some (.builtin "ValueError.__new__")), (some (.bool true))]),
  (.mk (.type "getset_descriptor") none (.fields #[(.str "__weakref__" (446 : Nat)), (.ref (108 : Nat)), (.builtin "ExceptionGroup.__weakref__"), .none]) #[]),
  (.mk (.type "super") none (.fields #[(.ref (108 : Nat)), (.ref (108 : Nat)), (.ref (108 : Nat))]) #[]),
  (.mk (.type "builtin_function_or_method") none (.fields #[(.builtin "object.__init_subclass__"), (.ref (108 : Nat))]) #[]),
  (.mk (.type "tuple") none (.seq #[]) #[]),
  (.mk (.type "builtin_function_or_method") none (.fields #[(.builtin "type.__prepare__"), (.type "type")]) #[]),
  (.mk (.type "dict") none (.dict #[(.mk (PyData.keyHash P "__module__") (.str "__module__" (458 : Nat)) (.str "cpy313.graphlib" (388 : Nat))), (.mk (PyData.keyHash P "__qualname__") (.str "__qualname__" (460 : Nat)) (.str "TopologicalSorter" (459 : Nat))), (.mk (PyData.keyHash P "__firstlineno__") (.str "__firstlineno__" (462 : Nat)) (.int 28 (461 : Nat))), (.mk (PyData.keyHash P "__init__") (.str "__init__" (472 : Nat)) (.ref (126 : Nat))), (.mk (PyData.keyHash P "_get_nodeinfo") (.str "_get_nodeinfo" (481 : Nat)) (.ref (133 : Nat))), (.mk (PyData.keyHash P "add") (.str "add" (493 : Nat)) (.ref (140 : Nat))), (.mk (PyData.keyHash P "prepare") (.str "prepare" (499 : Nat)) (.ref (145 : Nat))), (.mk (PyData.keyHash P "get_ready") (.str "get_ready" (509 : Nat)) (.ref (152 : Nat))), (.mk (PyData.keyHash P "is_active") (.str "is_active" (516 : Nat)) (.ref (159 : Nat))), (.mk (PyData.keyHash P "__bool__") (.str "__bool__" (523 : Nat)) (.ref (166 : Nat))), (.mk (PyData.keyHash P "done") (.str "done" (537 : Nat)) (.ref (173 : Nat))), (.mk (PyData.keyHash P "_find_cycle") (.str "_find_cycle" (550 : Nat)) (.ref (180 : Nat))), (.mk (PyData.keyHash P "static_order") (.str "static_order" (557 : Nat)) (.ref (187 : Nat))), (.mk (PyData.keyHash P "__static_attributes__") (.str "__static_attributes__" (562 : Nat)) (.ref (188 : Nat)))] (14 : Nat)) #[]),
  (.mk (.type "tuple") none (.seq #[]) #[]),
  (.mk .none none (.fields #[(.int 30 (0 : Nat)), (.int 4 (0 : Nat)), (.ref (125 : Nat)), (.int 39 (0 : Nat)), (.int 4 (0 : Nat)), (.ref (132 : Nat)), (.int 44 (0 : Nat)), (.int 4 (0 : Nat)), (.ref (139 : Nat)), (.int 53 (0 : Nat)), (.int 4 (0 : Nat)), (.ref (144 : Nat)), (.int 61 (0 : Nat)), (.int 4 (0 : Nat)), (.ref (151 : Nat)), (.int 72 (0 : Nat)), (.int 4 (0 : Nat)), (.ref (158 : Nat)), (.int 77 (0 : Nat)), (.int 4 (0 : Nat)), (.ref (165 : Nat)), (.int 80 (0 : Nat)), (.int 4 (0 : Nat)), (.ref (172 : Nat)), (.int 103 (0 : Nat)), (.int 4 (0 : Nat)), (.ref (179 : Nat)), (.int 132 (0 : Nat)), (.int 4 (0 : Nat)), (.ref (186 : Nat))]) #[]),
  (.mk (.type "code") none (.fields #[(.str "TopologicalSorter" (453 : Nat)), (.str "TopologicalSorter" (454 : Nat)), (.str "/claim/cut.py" (455 : Nat)), (.int 28 (0 : Nat)), (.int 0 (0 : Nat)), (.int 0 (0 : Nat)), (.int 0 (0 : Nat)), (.int 0 (0 : Nat)), (.ref (115 : Nat)), (.bool false), (.int 276 (0 : Nat)), (.ref (116 : Nat)), .none, .none, .none, .none, (.int 456 (0 : Nat)), (.int 28 (0 : Nat)), (.str "/claim/cut.py" (457 : Nat))]) #[]),
  (.mk (.type "frame") none .plain #[(some (.ref (117 : Nat))), (some (.ref (3 : Nat))), (some (.ref (114 : Nat))), none, (some (.str "cpy313.graphlib" (388 : Nat))), none, (some (.ref (0 : Nat)))]),
  (.mk (.type "tuple") none (.seq #[.none]) #[]),
  (.mk (.type "tuple") none (.seq #[]) #[]),
  (.mk .none none (.fields #[]) #[]),
  (.mk (.type "tuple") none (.seq #[(.str "self" (466 : Nat)), (.str "graph" (467 : Nat)), (.str "node" (468 : Nat)), (.str "predecessors" (469 : Nat))]) #[]),
  (.mk (.type "tuple") none (.seq #[]) #[]),
  (.mk .none none (.func (.mk "__init__" "TopologicalSorter.__init__" a5 (.stmts b5) s5 (0 : Nat) [] .none .none .none .none none .none .none (0 : Nat))) #[]),
  (.mk (.type "code") none (.fields #[(.str "__init__" (463 : Nat)), (.str "TopologicalSorter.__init__" (464 : Nat)), (.str "/claim/cut.py" (465 : Nat)), (.int 30 (0 : Nat)), (.int 2 (0 : Nat)), (.int 0 (0 : Nat)), (.int 0 (0 : Nat)), (.int 3 (0 : Nat)), (.ref (120 : Nat)), (.bool true), (.int 276 (0 : Nat)), (.ref (121 : Nat)), .none, (.ref (122 : Nat)), (.ref (123 : Nat)), (.ref (124 : Nat)), (.int 470 (0 : Nat)), (.int 30 (0 : Nat)), (.str "/claim/cut.py" (471 : Nat))]) #[]),
  (.mk (.type "function") none (.func (.mk "__init__" "TopologicalSorter.__init__" a5 (.stmts b5) s5 (3 : Nat) [] (.ref (119 : Nat)) .none .none (.str "cpy313.graphlib" (388 : Nat)) none (.ref (125 : Nat)) .none (0 : Nat))) #[]),
  (.mk (.type "tuple") none (.seq #[]) #[]),
  (.mk .none none (.fields #[]) #[]),
  (.mk (.type "tuple") none (.seq #[(.str "self" (476 : Nat)), (.str "node" (477 : Nat)), (.str "result" (478 : Nat))]) #[]),
  (.mk (.type "tuple") none (.seq #[]) #[]),
  (.mk .none none (.func (.mk "_get_nodeinfo" "TopologicalSorter._get_nodeinfo" a6 (.stmts b6) s6 (0 : Nat) [] .none .none .none .none none .none .none (0 : Nat))) #[]),
  (.mk (.type "code") none (.fields #[(.str "_get_nodeinfo" (473 : Nat)), (.str "TopologicalSorter._get_nodeinfo" (474 : Nat)), (.str "/claim/cut.py" (475 : Nat)), (.int 39 (0 : Nat)), (.int 2 (0 : Nat)), (.int 0 (0 : Nat)), (.int 0 (0 : Nat)), (.int 3 (0 : Nat)), (.ref (127 : Nat)), (.bool true), (.int 276 (0 : Nat)), (.ref (128 : Nat)), .none, (.ref (129 : Nat)), (.ref (130 : Nat)), (.ref (131 : Nat)), (.int 479 (0 : Nat)), (.int 39 (0 : Nat)), (.str "/claim/cut.py" (480 : Nat))]) #[]),
  (.mk (.type "function") none (.func (.mk "_get_nodeinfo" "TopologicalSorter._get_nodeinfo" a6 (.stmts b6) s6 (3 : Nat) [] .none .none .none (.str "cpy313.graphlib" (388 : Nat)) none (.ref (132 : Nat)) .none (0 : Nat))) #[]),
  (.mk (.type "tuple") none (.seq #[]) #[]),
  (.mk .none none (.fields #[]) #[]),
  (.mk (.type "tuple") none (.seq #[(.str "self" (485 : Nat)), (.str "node" (486 : Nat)), (.str "predecessors" (487 : Nat)), (.str "nodeinfo" (488 : Nat)), (.str "pred" (489 : Nat)), (.str "pred_info" (490 : Nat))]) #[]),
  (.mk (.type "tuple") none (.seq #[]) #[]),
  (.mk .none none (.func (.mk "add" "TopologicalSorter.add" a7 (.stmts b7) s7 (0 : Nat) [] .none .none .none .none none .none .none (0 : Nat))) #[]),
  (.mk (.type "code") none (.fields #[(.str "add" (482 : Nat)), (.str "TopologicalSorter.add" (483 : Nat)), (.str "/claim/cut.py" (484 : Nat)), (.int 44 (0 : Nat)), (.int 2 (0 : Nat)), (.int 0 (0 : Nat)), (.int 0 (0 : Nat)), (.int 7 (0 : Nat)), (.ref (134 : Nat)), (.bool true), (.int 276 (0 : Nat)), (.ref (135 : Nat)), .none, (.ref (136 : Nat)), (.ref (137 : Nat)), (.ref (138 : Nat)), (.int 491 (0 : Nat)), (.int 44 (0 : Nat)), (.str "/claim/cut.py" (492 : Nat))]) #[]),
  (.mk (.type "function") none (.func (.mk "add" "TopologicalSorter.add" a7 (.stmts b7) s7 (3 : Nat) [] .none .none .none (.str "cpy313.graphlib" (388 : Nat)) none (.ref (139 : Nat)) .none (0 : Nat))) #[]),
  (.mk (.type "tuple") none (.seq #[]) #[]),
  (.mk .none none (.fields #[]) #[]),
  (.mk .none none (.func (.mk "prepare" "TopologicalSorter.prepare" a8 (.stmts b8) s8 (0 : Nat) [] .none .none .none .none none .none .none (0 : Nat))) #[]),
  (.mk (.type "code") none (.fields #[(.str "prepare" (494 : Nat)), (.str "TopologicalSorter.prepare" (495 : Nat)), (.str "/claim/cut.py" (496 : Nat)), (.int 53 (0 : Nat)), (.int 1 (0 : Nat)), (.int 0 (0 : Nat)), (.int 0 (0 : Nat)), (.int 3 (0 : Nat)), (.ref (141 : Nat)), (.bool true), (.int 276 (0 : Nat)), (.ref (142 : Nat)), .none, .none, .none, (.ref (143 : Nat)), (.int 497 (0 : Nat)), (.int 53 (0 : Nat)), (.str "/claim/cut.py" (498 : Nat))]) #[]),
  (.mk (.type "function") none (.func (.mk "prepare" "TopologicalSorter.prepare" a8 (.stmts b8) s8 (3 : Nat) [] .none .none .none (.str "cpy313.graphlib" (388 : Nat)) none (.ref (144 : Nat)) .none (0 : Nat))) #[]),
  (.mk (.type "tuple") none (.seq #[]) #[]),
  (.mk .none none (.fields #[]) #[]),
  (.mk (.type "tuple") none (.seq #[(.str "self" (503 : Nat)), (.str "result" (504 : Nat)), (.str "n2i" (505 : Nat)), (.str "node" (506 : Nat))]) #[]),
  (.mk (.type "tuple") none (.seq #[]) #[]),
  (.mk .none none (.func (.mk "get_ready" "TopologicalSorter.get_ready" a9 (.stmts b9) s9 (0 : Nat) [] .none .none .none .none none .none .none (0 : Nat))) #[]),
  (.mk (.type "code") none (.fields #[(.str "get_ready" (500 : Nat)), (.str "TopologicalSorter.get_ready" (501 : Nat)), (.str "/claim/cut.py" (502 : Nat)), (.int 61 (0 : Nat)), (.int 1 (0 : Nat)), (.int 0 (0 : Nat)), (.int 0 (0 : Nat)), (.int 3 (0 : Nat)), (.ref (146 : Nat)), (.bool true), (.int 276 (0 : Nat)), (.ref (147 : Nat)), .none, (.ref (148 : Nat)), (.ref (149 : Nat)), (.ref (150 : Nat)), (.int 507 (0 : Nat)), (.int 61 (0 : Nat)), (.str "/claim/cut.py" (508 : Nat))]) #[]),
  (.mk (.type "function") none (.func (.mk "get_ready" "TopologicalSorter.get_ready" a9 (.stmts b9) s9 (3 : Nat) [] .none .none .none (.str "cpy313.graphlib" (388 : Nat)) none (.ref (151 : Nat)) .none (0 : Nat))) #[]),
  (.mk (.type "tuple") none (.seq #[]) #[]),
  (.mk .none none (.fields #[]) #[]),
  (.mk (.type "tuple") none (.seq #[(.str "self" (513 : Nat))]) #[]),
  (.mk (.type "tuple") none (.seq #[]) #[]),
  (.mk .none none (.func (.mk "is_active" "TopologicalSorter.is_active" a10 (.stmts b10) s10 (0 : Nat) [] .none .none .none .none none .none .none (0 : Nat))) #[]),
  (.mk (.type "code") none (.fields #[(.str "is_active" (510 : Nat)), (.str "TopologicalSorter.is_active" (511 : Nat)), (.str "/claim/cut.py" (512 : Nat)), (.int 72 (0 : Nat)), (.int 1 (0 : Nat)), (.int 0 (0 : Nat)), (.int 0 (0 : Nat)), (.int 3 (0 : Nat)), (.ref (153 : Nat)), (.bool true), (.int 276 (0 : Nat)), (.ref (154 : Nat)), .none, (.ref (155 : Nat)), (.ref (156 : Nat)), (.ref (157 : Nat)), (.int 514 (0 : Nat)), (.int 72 (0 : Nat)), (.str "/claim/cut.py" (515 : Nat))]) #[]),
  (.mk (.type "function") none (.func (.mk "is_active" "TopologicalSorter.is_active" a10 (.stmts b10) s10 (3 : Nat) [] .none .none .none (.str "cpy313.graphlib" (388 : Nat)) none (.ref (158 : Nat)) .none (0 : Nat))) #[]),
  (.mk (.type "tuple") none (.seq #[]) #[]),
  (.mk .none none (.fields #[]) #[]),
  (.mk (.type "tuple") none (.seq #[(.str "self" (520 : Nat))]) #[]),
  (.mk (.type "tuple") none (.seq #[]) #[]),
  (.mk .none none (.func (.mk "__bool__" "TopologicalSorter.__bool__" a11 (.stmts b11) s11 (0 : Nat) [] .none .none .none .none none .none .none (0 : Nat))) #[]),
  (.mk (.type "code") none (.fields #[(.str "__bool__" (517 : Nat)), (.str "TopologicalSorter.__bool__" (518 : Nat)), (.str "/claim/cut.py" (519 : Nat)), (.int 77 (0 : Nat)), (.int 1 (0 : Nat)), (.int 0 (0 : Nat)), (.int 0 (0 : Nat)), (.int 3 (0 : Nat)), (.ref (160 : Nat)), (.bool true), (.int 276 (0 : Nat)), (.ref (161 : Nat)), .none, (.ref (162 : Nat)), (.ref (163 : Nat)), (.ref (164 : Nat)), (.int 521 (0 : Nat)), (.int 77 (0 : Nat)), (.str "/claim/cut.py" (522 : Nat))]) #[]),
  (.mk (.type "function") none (.func (.mk "__bool__" "TopologicalSorter.__bool__" a11 (.stmts b11) s11 (3 : Nat) [] .none .none .none (.str "cpy313.graphlib" (388 : Nat)) none (.ref (165 : Nat)) .none (0 : Nat))) #[]),
  (.mk (.type "tuple") none (.seq #[]) #[]),
  (.mk .none none (.fields #[]) #[]),
  (.mk (.type "tuple") none (.seq #[(.str "self" (527 : Nat)), (.str "nodes" (528 : Nat)), (.str "n2i" (529 : Nat)), (.str "node" (530 : Nat)), (.str "nodeinfo" (531 : Nat)), (.str "stat" (532 : Nat)), (.str "successor" (533 : Nat)), (.str "successor_info" (534 : Nat))]) #[]),
  (.mk (.type "tuple") none (.seq #[]) #[]),
  (.mk .none none (.func (.mk "done" "TopologicalSorter.done" a12 (.stmts b12) s12 (0 : Nat) [] .none .none .none .none none .none .none (0 : Nat))) #[]),
  (.mk (.type "code") none (.fields #[(.str "done" (524 : Nat)), (.str "TopologicalSorter.done" (525 : Nat)), (.str "/claim/cut.py" (526 : Nat)), (.int 80 (0 : Nat)), (.int 1 (0 : Nat)), (.int 0 (0 : Nat)), (.int 0 (0 : Nat)), (.int 7 (0 : Nat)), (.ref (167 : Nat)), (.bool true), (.int 276 (0 : Nat)), (.ref (168 : Nat)), .none, (.ref (169 : Nat)), (.ref (170 : Nat)), (.ref (171 : Nat)), (.int 535 (0 : Nat)), (.int 80 (0 : Nat)), (.str "/claim/cut.py" (536 : Nat))]) #[]),
  (.mk (.type "function") none (.func (.mk "done" "TopologicalSorter.done" a12 (.stmts b12) s12 (3 : Nat) [] .none .none .none (.str "cpy313.graphlib" (388 : Nat)) none (.ref (172 : Nat)) .none (0 : Nat))) #[]),
  (.mk (.type "tuple") none (.seq #[]) #[]),
  (.mk .none none (.fields #[]) #[]),
  (.mk (.type "tuple") none (.seq #[(.str "self" (541 : Nat)), (.str "n2i" (542 : Nat)), (.str "stack" (543 : Nat)), (.str "itstack" (544 : Nat)), (.str "seen" (545 : Nat)), (.str "node2stacki" (546 : Nat)), (.str "node" (547 : Nat))]) #[]),
  (.mk (.type "tuple") none (.seq #[]) #[]),
  (.mk .none none (.func (.mk "_find_cycle" "TopologicalSorter._find_cycle" a13 (.stmts b13) s13 (0 : Nat) [] .none .none .none .none none .none .none (0 : Nat))) #[]),
  (.mk (.type "code") none (.fields #[(.str "_find_cycle" (538 : Nat)), (.str "TopologicalSorter._find_cycle" (539 : Nat)), (.str "/claim/cut.py" (540 : Nat)), (.int 103 (0 : Nat)), (.int 1 (0 : Nat)), (.int 0 (0 : Nat)), (.int 0 (0 : Nat)), (.int 3 (0 : Nat)), (.ref (174 : Nat)), (.bool true), (.int 276 (0 : Nat)), (.ref (175 : Nat)), .none, (.ref (176 : Nat)), (.ref (177 : Nat)), (.ref (178 : Nat)), (.int 548 (0 : Nat)), (.int 103 (0 : Nat)), (.str "/claim/cut.py" (549 : Nat))]) #[]),
  (.mk (.type "function") none (.func (.mk "_find_cycle" "TopologicalSorter._find_cycle" a13 (.stmts b13) s13 (3 : Nat) [] .none .none .none (.str "cpy313.graphlib" (388 : Nat)) none (.ref (179 : Nat)) .none (0 : Nat))) #[]),
  (.mk (.type "tuple") none (.seq #[]) #[]),
  (.mk .none none (.fields #[]) #[]),
  (.mk (.type "tuple") none (.seq #[(.str "self" (554 : Nat))]) #[]),
  (.mk (.type "tuple") none (.seq #[]) #[]),
  (.mk .none none (.func (.mk "static_order" "TopologicalSorter.static_order" a14 (.stmts b14) s14 (0 : Nat) [] .none .none .none .none none .none .none (0 : Nat))) #[]),
  (.mk (.type "code") none (.fields #[(.str "static_order" (551 : Nat)), (.str "TopologicalSorter.static_order" (552 : Nat)), (.str "/claim/cut.py" (553 : Nat)), (.int 132 (0 : Nat)), (.int 1 (0 : Nat)), (.int 0 (0 : Nat)), (.int 0 (0 : Nat)), (.int 3 (0 : Nat)), (.ref (181 : Nat)), (.bool true), (.int 276 (0 : Nat)), (.ref (182 : Nat)), .none, (.ref (183 : Nat)), (.ref (184 : Nat)), (.ref (185 : Nat)), (.int 555 (0 : Nat)), (.int 132 (0 : Nat)), (.str "/claim/cut.py" (556 : Nat))]) #[]),
  (.mk (.type "function") none (.func (.mk "static_order" "TopologicalSorter.static_order" a14 (.stmts b14) s14 (3 : Nat) [] .none .none .none (.str "cpy313.graphlib" (388 : Nat)) none (.ref (186 : Nat)) .none (0 : Nat))) #[]),
  (.mk (.type "tuple") none (.seq #[(.str "_nfinished" (558 : Nat)), (.str "_node2info" (559 : Nat)), (.str "_npassedout" (560 : Nat)), (.str "_ready_nodes" (561 : Nat))]) #[]),
  (.mk (.type "dict") none (.dict #[(.mk (PyData.keyHash P "__module__") (.str "__module__" (458 : Nat)) (.str "cpy313.graphlib" (388 : Nat))), (.mk (PyData.keyHash P "__firstlineno__") (.str "__firstlineno__" (462 : Nat)) (.int 28 (461 : Nat))), (.mk (PyData.keyHash P "__init__") (.str "__init__" (472 : Nat)) (.ref (126 : Nat))), (.mk (PyData.keyHash P "_get_nodeinfo") (.str "_get_nodeinfo" (481 : Nat)) (.ref (133 : Nat))), (.mk (PyData.keyHash P "add") (.str "add" (493 : Nat)) (.ref (140 : Nat))), (.mk (PyData.keyHash P "prepare") (.str "prepare" (499 : Nat)) (.ref (145 : Nat))), (.mk (PyData.keyHash P "get_ready") (.str "get_ready" (509 : Nat)) (.ref (152 : Nat))), (.mk (PyData.keyHash P "is_active") (.str "is_active" (516 : Nat)) (.ref (159 : Nat))), (.mk (PyData.keyHash P "__bool__") (.str "__bool__" (523 : Nat)) (.ref (166 : Nat))), (.mk (PyData.keyHash P "done") (.str "done" (537 : Nat)) (.ref (173 : Nat))), (.mk (PyData.keyHash P "_find_cycle") (.str "_find_cycle" (550 : Nat)) (.ref (180 : Nat))), (.mk (PyData.keyHash P "static_order") (.str "static_order" (557 : Nat)) (.ref (187 : Nat))), (.mk (PyData.keyHash P "__static_attributes__") (.str "__static_attributes__" (562 : Nat)) (.ref (188 : Nat))), (.mk (PyData.keyHash P "__dict__") (.str "__dict__" (564 : Nat)) (.ref (191 : Nat))), (.mk (PyData.keyHash P "__weakref__") (.str "__weakref__" (566 : Nat)) (.ref (192 : Nat))), (.mk (PyData.keyHash P "__doc__") (.str "__doc__" (567 : Nat)) .none)] (4 : Nat)) #[]),
  (.mk (.type "type") none (.cls (.mk "TopologicalSorter" [(.type "object")] [(.ref (190 : Nat)), (.type "object")] (189 : Nat) "TopologicalSorter" true [] [] false none false)) #[none, none, (some (.str "TopologicalSorter" (451 : Nat))), (some (.str "TopologicalSorter" (459 : Nat))), (some (.builtin "object.__new__")), (some (.bool true))]),
  (.mk (.type "getset_descriptor") none (.fields #[(.str "__dict__" (563 : Nat)), (.ref (190 : Nat)), (.builtin "function.__dict__"), (.builtin "function.__dict__#set")]) #[]),
  (.mk (.type "getset_descriptor") none (.fields #[(.str "__weakref__" (565 : Nat)), (.ref (190 : Nat)), (.builtin "ExceptionGroup.__weakref__"), .none]) #[]),
  (.mk (.type "super") none (.fields #[(.ref (190 : Nat)), (.ref (190 : Nat)), (.ref (190 : Nat))]) #[]),
  (.mk (.type "builtin_function_or_method") none (.fields #[(.builtin "object.__init_subclass__"), (.ref (190 : Nat))]) #[])], (boot_heap P).life⟩ : Heap)) rfl rfl rfl rfl rfl rfl rfl rfl rfl rfl rfl rfl rfl rfl rfl rfl rfl rfl rfl rfl
theorem of_late {p : Program} {w : World} {s s' : Shared} {β : Type} {F : Shared → Option Shared} {G : Shared → β} {X : β} {i n M m : Nat} {ann : Option Value} {env : Env} {b : List Stmt} {c : Code} {pe pf qf : Pos}
    (seg : segRun treeTable p w m ann 1 n s (piecesOf (b.take i) env c pe [topFrame qf]) = some (.next, s', c, pf))
    (rest : ((topRun treeTable p w m ann M s' (restOf (b.drop i) env c pf [topFrame qf])).bind F).map G = some X) : ((topRun treeTable p w m ann (n + M) s (restOf b env c pe [topFrame qf])).bind F).map G = some X := by
  obtain ⟨s1, e8, e9⟩ := Option.map_eq_some_iff.mp rest
  obtain ⟨r, e10, e11⟩ := Option.bind_eq_some_iff.mp e8
  have t := piece_app (rest := b.drop i) seg e10
  rw [List.take_append_drop] at t
  rw [t, Option.bind_some, e11]
  exact congrArg some e9
theorem hd_seg2 : ∀ (w : World) (os : OsState), segRun treeTable PySem.Challenge.rw_oc0170_01.row.prog w 28 (some (.ref 6)) 1 600 ⟨heap1 w.params, #[], ⟨0, 0, 0, 0⟩, 451, os⟩ (piecesOf ((mbody.drop 14).take 1) menv (.body mbody menv) ⟨26, 0, 27, 8⟩ [topFrame ⟨0, 0, 0, 0⟩]) = some (.next, ⟨heap2 w.params, #[], ⟨0, 0, 0, 0⟩, 570, os⟩, .body mbody menv, ⟨28, 0, 133, 16⟩) := fun w os => by kernel_rfl
theorem hd_late : ∀ (w : World) (os : OsState), ((topRun treeTable PySem.Challenge.rw_oc0170_01.row.prog w 28 (some (.ref 6)) 400 ⟨heap2 w.params, #[], ⟨0, 0, 0, 0⟩, 570, os⟩ (restOf ((mbody.drop 14).drop 1) menv (.body mbody menv) ⟨28, 0, 133, 16⟩ [topFrame ⟨0, 0, 0, 0⟩])).bind fun s =>
      match staticsOk (importedModules PySem.Challenge.rw_oc0170_01.row.prog.main.body) (heap0 w.params) s.heap && namesBound PySem.Challenge.rw_oc0170_01.row.prog s.heap && gensDone s && laidKept (heap0 w.params) s.heap with | true => some s | false => none).map
        (fun s => (openSeen hd.view_39 looseL (importedModules PySem.Challenge.rw_oc0170_01.row.prog.main.body) (fun s => xlAt hd.view_39 [] s && recOk (RowW.records (OpenRow.toRowW (OpenLaw.row PySem.Challenge.rw_oc0170_01))) s) true s, Hook.obs (kHook hd.heap_39 asL as_K) s)) = some (openGood hd.view_39 looseL, Hook.val (kHook hd.heap_39 asL as_K) w) := fun w os => by kernel_rfl
theorem hd_size : ∀ w : World, ((heap0 w.params).isNs mainGlobals && (#[] : Array GenState).size == 0, (heap0 w.params).objs.size, (heap0 w.params).nsMap mainGlobals "__annotations__") = (true, 28, some (.ref 6)) := fun w => by kernel_rfl
theorem hd_left : LeftO PySem.Challenge.rw_oc0170_01.row.prog hd.view_39 looseL (fun s => xlAt hd.view_39 [] s && recOk (RowW.records (OpenRow.toRowW (OpenLaw.row PySem.Challenge.rw_oc0170_01))) s)
   (Hook.obs (kHook hd.heap_39 asL as_K)) (Hook.val (kHook hd.heap_39 asL as_K)) 3144 := of_open hd_open (of_mid hd_size hd_pre hd_blk hd_seg (fun w os => of_late (hd_seg2 w os) (hd_late w os)) rfl)
theorem hd_well : (chainsOk hd.view_39 && opensWell PySem.Challenge.rw_oc0170_01.row.prog && (frees PySem.Challenge.rw_oc0170_01.row.toRowW && PySem.Challenge.rw_oc0170_01.row.within.isEmpty)) = true := by kernel_rfl
theorem hd_bare : PySem.Challenge.rw_oc0170_01.row.prog.bare := ⟨rfl, rfl, rfl, rfl, rfl, by decide +kernel⟩
theorem hd_prom : PySem.Challenge.rw_oc0170_01.row.toRowW.promised := by w_witness2
noncomputable def hd := fun walk : WalkO hd.view_39 looseL (XL hd.view_39 []) (Hook.says (kHook hd.heap_39 asL as_K)) PySem.Challenge.rw_oc0170_01.row.toRowW _ _ (fun f vs => PySem.call f vs) =>
  holds_law law_said fun said => holds_open (r := PySem.Challenge.rw_oc0170_01.row) (Xt := fun s => xlAt hd.view_39 [] s && recOk (RowW.records (OpenRow.toRowW (OpenLaw.row PySem.Challenge.rw_oc0170_01))) s) hd_left
    (Hook.of (kHook hd.heap_39 asL as_K)) (Hook.keeps (kHook hd.heap_39 asL as_K)) (fun s e => xl_of s (Bool.and_eq_true_iff.mp e).1) XL.keeps (by rfl) (by rfl) (by rfl) (fun s e => recFacts_of (Bool.and_eq_true_iff.mp e).2) rfl said
    hd_well hd_bare hd_prom walk
end Mine
end

section
open PySem PySem.W PyProof.Rows PySem.Calls
namespace Mine

structure Cx (n : Nat) (w : World) (A : Around) (h₀ : Heap) (L : Addr) : Prop where
  ex : ∃ A₀ base outer env p loose mean mg mb, Below A₀ base outer h₀ ∧ Top p loose mean mg mb h₀ ∧ A.frames = some (env :: outer) ∧ env.frame = some L ∧ env.scope.kind = .function
  X : (Mine.hd.heap_39 w.params).In h₀
  depth : A.depth ≤ 400 + n
  units : A.units ≤ 10 * n
  handled : A.handled = none

theorem Cx.top {n : Nat} {w : World} {A : Around} {h₀ : Heap} {L : Addr} (C : Cx n w A h₀ L) : ∃ p loose mg mb, TopRead p loose mg mb h₀ := by
  obtain ⟨_, _, _, _, p, loose, _, mg, mb, _, T, _⟩ := C.ex
  exact ⟨p, loose, mg, mb, topRead_of T⟩

theorem le_lit {a b n : Nat} (h : n ≤ a) (d : Nat.ble a b = true) : n ≤ b := Nat.le_trans h (Nat.le_of_ble_eq_true d)
theorem Cx.top_el {n : Nat} {w : World} {A : Around} {h₀ : Heap} {L : Addr} {G : Prop} (C : Cx n w A h₀ L) (k : ∀ p loose mg mb, TopRead p loose mg mb h₀ → G) : G := C.top.elim fun p x => x.elim fun loose x => x.elim fun mg x => x.elim fun mb T => k p loose mg mb T
noncomputable def Ext (as : List Addr) (h h' : Heap) : Prop := ∀ b o, b ∉ as → h.get? b = some o → h'.get? b = some o
theorem Ext.refl {as : List Addr} {h : Heap} : Ext as h h := fun _ _ _ e => e
theorem Ext.trans {as : List Addr} {h h' h'' : Heap} (a : Ext as h h') (b : Ext as h' h'') : Ext as h h'' := fun c o n e => b c o n (a c o n e)
theorem Ext.mono {as bs : List Addr} {h h' : Heap} (a : Ext as h h') (hs : ∀ x ∈ as, x ∈ bs) : Ext bs h h' := fun c o n e => a c o (fun q => n (hs c q)) e
noncomputable def Own (h₀ : Heap) (L : Addr) (as : List Addr) : Prop := ∀ a ∈ as, h₀.get? a = none ∧ a ≠ L
theorem Own.nil {h₀ : Heap} {L : Addr} : Own h₀ L [] := fun _ h => nomatch h
theorem fr_ext {h₀ h h' : Heap} {L : Addr} {m : Str → Option Value} {as : List Addr} (F : Fr h₀ L h m) (o : Own h₀ L as) (e : Ext as h h') : Fr h₀ L h' m := by
  obtain ⟨oL, es, ep, hL, r⟩ := F.ns
  refine ⟨⟨oL, es, ep, e L oL (fun q => (o L q).2 rfl) hL, r⟩, fun b x q => e b x (fun z => ?_) (F.keep b x q), F.above⟩
  have := (o b z).1; rw [q] at this; cases this

noncomputable def Vars (m : Str → Option Value) : List (Str × Value) → Prop
  | [] => True
  | p :: r => m p.1 = some p.2 ∧ Vars m r
theorem vars_lookup {m : Str → Option Value} : ∀ {bs : List (Str × Value)} {y : Str} {v : Value}, Vars m bs → bs.lookup y = some v → m y = some v
  | [], _, _, _, e => nomatch e
  | p :: r, y, v, h, e => by
    rw [List.lookup_cons] at e
    by_cases q : (y == p.1) = true
    · rw [q] at e; cases e; rw [eq_of_beq q]; exact h.1
    · simp only [Bool.not_eq_true] at q; rw [q] at e; exact vars_lookup h.2 e
theorem frs {h₀ h : Heap} {L : Addr} {m : Str → Option Value} {bs : List (Str × Value)} (F : Fr h₀ L h m) (e : Vars m bs) : Fr h₀ L h (fun y => match bs.lookup y with | some v => some v | none => m y) := by
  have : m = fun y => match bs.lookup y with | some v => some v | none => m y := by
    funext y
    cases q : bs.lookup y with
    | none => rfl
    | some v => exact vars_lookup e q
  rw [← this]; exact F

noncomputable def Done (g : Heap) (L' : Addr) (as : List Addr) (h : Heap) (R : Result → Shared → Prop) (fl : Flow) (s' : Shared) : Prop :=
  ∃ m', Fr g L' s'.heap m' ∧ (Ext as h s'.heap → R (.ok (.ret (match fl with | .ret v => v | _ => .none))) s')
theorem Done.intro {g : Heap} {L' : Addr} {as : List Addr} {h : Heap} {R : Result → Shared → Prop} {fl : Flow} {s' : Shared} {m' : Str → Option Value} (F : Fr g L' s'.heap m')
    (k : Ext as h s'.heap → R (.ok (.ret (match fl with | .ret v => v | _ => .none))) s') : Done g L' as h R fl s' := ⟨m', F, k⟩

section
variable {n : Nat} {prog : Program} {w : World} {A : Around} {s : Shared} {h₀ : Heap} {L : Addr} {m : Str → Option Value} {news : List (Addr × Obj)} {R : Result → Shared → Prop} {E : Value → Shared → Prop}

theorem enter {name qual : Str} {params : Arguments} {body : List Stmt} {scope : Scope} {dV kV doc pm cdv ct oc : Value} {an od : Option Addr} {osl : Array (Option Value)} {f : Addr} {args : Args} {binds : List (Str × Value)}
    (C : Cx n w A h₀ L) (hn : n ≤ 60) (F : Fr h₀ L s.heap m) (sub : List (Addr × Obj)) (N : News h₀ L s.heap sub)
    (ho : (Mine.hd.heap_39 w.params).lookup f = some ⟨oc, od, .func (fnOf name qual params body scope dV kV doc pm an cdv ct), osl⟩) (hcd : codeIn (Mine.hd.heap_39 w.params) cdv qual = true)
    (hbind : BindsTo s (fnOf name qual params body scope dV kV doc pm an cdv ct) args binds) (hloc : ∀ y ∈ binds, scope.names.lookup y.1 = some .local)
    (hco : scope.isCoroutine = false) (hgen : scope.isGenerator = false) (hk : scope.kind = .function)
    (hcell : ∀ x ∈ scope.names, x.2 ≠ .cell)
    (h : ∀ g L' h₁, g = hideAll s.heap (sub.map (·.1)) → Cx (n + 1) w (A.deeper (envOf qual scope L' f cdv)) g L' → Fr g L' h₁ (fun y => binds.reverse.lookup y) → News g L' h₁ sub →
      wpAny (model prog w) (A.deeper (envOf qual scope L' f cdv)) (execs body (envOf qual scope L' f cdv))
        (Done g L' (sub.map (·.1)) s.heap R) (fun _ _ => False)
        { s with heap := h₁, toks := s.toks + binds.length }) : codeAny (model prog w) A (.call (.ref f) args) R s := by
  obtain ⟨A₀, base, outer, env, p, loose, mean, mg, mb, B, T, hA, hf, hke⟩ := C.ex
  have hroom : A.depth < recursionLimit := by have := C.depth; show A.depth < 1000; omega
  obtain ⟨FG, BG, st, lv⟩ := groundX (R := R) B F N hA hf hke
  have XS := C.X.keeps F.keep
  refine codeAny_call_def (fd := fnOf name qual params body scope dV kV doc pm an cdv ct) (body := body) (binds := binds) hroom (XS _ _ ho) rfl (T.nolimit.keeps F.keep) (codeRec_of XS hcd) rfl hbind hcell hloc (fun h₁ hns hk₁ => ?_) hco hgen hk
  have C' : Cx (n + 1) w (A.deeper (envOf qual scope s.heap.objs.size f cdv)) (hideAll s.heap (sub.map (·.1))) s.heap.objs.size := by
    refine ⟨⟨A, base, env :: outer, envOf qual scope s.heap.objs.size f cdv, p, loose, mean, mg, mb, BG, T.keeps st, Around.frames_deeper hA, rfl, hk⟩, C.X.keeps st, ?_, ?_, C.handled⟩
    · have := C.depth; show A.depth + 1 ≤ 400 + (n + 1); omega
    · have := C.units; show A.units + 3 ≤ 10 * (n + 1); omega
  refine wpAny_mono (h _ s.heap.objs.size h₁ rfl C' ⟨hns, fun b o e => hk₁ b o (of_hideAll _ e), Nat.le_of_eq (hideAll_size _ _)⟩
    (fun p hp => ⟨hk₁ _ _ (N p hp).1, Nat.ne_of_lt (Heap.lt_size (N p hp).1), hideAll_none _ (List.mem_map_of_mem hp)⟩)) (fun fl s' hl => ?_) fun _ _ y => y.elim
  obtain ⟨m', F', k⟩ := hl
  exact k fun b o nb e => F'.keep b o (hideAll_get _ e nb)
theorem enterV {name qual : Str} {params : Arguments} {body : List Stmt} {scope : Scope} {dV kV doc pm cdv ct oc : Value} {an od : Option Addr} {osl : Array (Option Value)} {f : Addr} {args : Args} {vs : List Value} {binds : Addr → List (Str × Value)}
    (C : Cx n w A h₀ L) (hn : n ≤ 60) (F : Fr h₀ L s.heap m) (sub : List (Addr × Obj)) (N : News h₀ L s.heap sub)
    (ho : (Mine.hd.heap_39 w.params).lookup f = some ⟨oc, od, .func (fnOf name qual params body scope dV kV doc pm an cdv ct), osl⟩) (hcd : codeIn (Mine.hd.heap_39 w.params) cdv qual = true)
    (hbind : ∀ (A : Around) (E : Value → Shared → Prop) (Q : List (Str × Value) → Shared → Prop), Q (binds s.heap.objs.size) { s with heap := s.heap.push { cls := .type "tuple", data := .seq vs.toArray } } → wpAny (model prog w) A (bindArgs (fnOf name qual params body scope dV kV doc pm an cdv ct) args) Q E s)
    (hloc : ∀ D, ∀ y ∈ binds D, scope.names.lookup y.1 = some .local)
    (hco : scope.isCoroutine = false) (hgen : scope.isGenerator = false) (hk : scope.kind = .function)
    (hcell : ∀ x ∈ scope.names, x.2 ≠ .cell)
    (h : ∀ D g L' h₁, g = hideAll (s.heap.push { cls := .type "tuple", data := .seq vs.toArray }) (sub.map (·.1)) → D = s.heap.objs.size → IsTup g D vs.toArray → Cx (n + 1) w (A.deeper (envOf qual scope L' f cdv)) g L' → Fr g L' h₁ (fun y => (binds D).reverse.lookup y) → News g L' h₁ sub →
      wpAny (model prog w) (A.deeper (envOf qual scope L' f cdv)) (execs body (envOf qual scope L' f cdv))
        (Done g L' (sub.map (·.1)) s.heap R) (fun _ _ => False)
        { s with heap := h₁, toks := s.toks + (binds D).length }) : codeAny (model prog w) A (.call (.ref f) args) R s := by
  obtain ⟨A₀, base, outer, env, p, loose, mean, mg, mb, B, T, hA, hf, hke⟩ := C.ex
  have hroom : A.depth < recursionLimit := by have := C.depth; show A.depth < 1000; omega
  have XS := C.X.keeps F.keep
  refine codeAny_call_function (fd := fnOf name qual params body scope dV kV doc pm an cdv ct) (body := body) hroom (XS _ _ ho) rfl hco hgen rfl (codeRec_of XS hcd) (hbind _ _ _ ?_)
  have F₁ := F.push { cls := .type "tuple", data := .seq vs.toArray }
  have N₁ : News h₀ L (s.heap.push { cls := .type "tuple", data := .seq vs.toArray }) sub := fun p hp => ⟨Heap.get?_push_of_some _ (N p hp).1, (N p hp).2⟩
  obtain ⟨FG, BG, st, lv⟩ := groundX (s := { s with heap := s.heap.push { cls := .type "tuple", data := .seq vs.toArray } }) (R := R) B F₁ N₁ hA hf hke
  refine wpAny_newFunctionEnv hcell (hloc _) (fun h₁ hns hsb => ⟨(T.nolimit.keeps F₁.keep).fresh _ hsb, codeAny_func ?_⟩) hk
  have hk₁ : ∀ b o, (s.heap.push { cls := .type "tuple", data := .seq vs.toArray }).get? b = some o → h₁.get? b = some o := fun b o e => hsb.extBut b o (Nat.ne_of_lt (Heap.lt_size e)) (Heap.get?_push_of_some _ e)
  have C' : Cx (n + 1) w (A.deeper (envOf qual scope (s.heap.push { cls := .type "tuple", data := .seq vs.toArray }).objs.size f cdv)) (hideAll (s.heap.push { cls := .type "tuple", data := .seq vs.toArray }) (sub.map (·.1))) (s.heap.push { cls := .type "tuple", data := .seq vs.toArray }).objs.size := by
    refine ⟨⟨A, base, env :: outer, envOf qual scope _ f cdv, p, loose, mean, mg, mb, BG, T.keeps st, Around.frames_deeper hA, rfl, hk⟩, C.X.keeps st, ?_, ?_, C.handled⟩
    · have := C.depth; show A.depth + 1 ≤ 400 + (n + 1); omega
    · have := C.units; show A.units + 3 ≤ 10 * (n + 1); omega
  refine wpAny_mono (h s.heap.objs.size _ _ h₁ rfl rfl ?_ C' ⟨hns, fun b o e => hk₁ b o (of_hideAll _ e), Nat.le_of_eq (hideAll_size _ _)⟩
    (fun p hp => ⟨hk₁ _ _ (N₁ p hp).1, Nat.ne_of_lt (Heap.lt_size (N₁ p hp).1), hideAll_none _ (List.mem_map_of_mem hp)⟩)) (fun fl s' hl => ?_) fun _ _ y => y.elim
  · refine ⟨_, hideAll_get _ (Heap.get?_push_size _ rfl) ?_, rfl, _, rfl⟩
    intro hm
    obtain ⟨p, hp, e⟩ := List.mem_map.mp hm
    exact absurd (Heap.lt_size (N p hp).1) (by rw [e]; exact Nat.lt_irrefl _)
  · obtain ⟨m', F', k⟩ := hl
    exact k fun b o nb e => F'.keep b o (hideAll_get _ (Heap.get?_push_of_some _ e) nb)
theorem Cx.in1 (C : Cx n w A h₀ L) : Cx (n + 1) w A.in1 h₀ L := by
  obtain ⟨ex, X, d, u, hh⟩ := C
  exact ⟨ex, X, by show A.depth ≤ 400 + (n + 1); omega, by show A.units + 1 ≤ 10 * (n + 1); omega, hh⟩
theorem make_X {K : Frag} {c : Addr} {rest : List Value} {kw : List (Str × Value)} {fI : Addr} (F : Fr h₀ L s.heap m) (X : K.In s.heap) (hm : makesIn K c = true)
    (hi : findIn K (.ref c) "__init__" = some (some (.ref fI))) (hf : typeIn K (.ref fI) = some (.type "function"))
    (h : ∀ x dx h', dx < x → s.heap.get? x = none → s.heap.get? dx = none → Ext [] s.heap h' → Fr h₀ L h' m → News h₀ L h' [(x, instObj c dx), (dx, dictOf [] 0)] →
      codeAny (model prog w) (A.under (.builtin "type.__call__" ⟨.ref c :: rest, kw⟩)) (.call (.ref fI) ⟨.ref x :: rest, kw⟩) (InitBack x R) { s with heap := h' }) :
    codeAny (model prog w) A (.call (.ref c) ⟨rest, kw⟩) R s := by
  obtain ⟨hh, g, d, t, os⟩ := s
  refine make_core (makes_of X hm) (looks_findIn X hi) (fun self => bind_fn X self hf) (.inl rfl) (h _ hh.objs.size _ (Nat.lt_succ_self _) ?_ ?_ ?_ ((F.push _).push _) ?_)
  · cases q : hh.get? (hh.objs.size + 1) with
    | none => rfl
    | some o => exact absurd (Heap.lt_size q) (Nat.not_lt.mpr (Nat.le_succ _))
  · cases q : hh.get? hh.objs.size with
    | none => rfl
    | some o => exact absurd (Heap.lt_size q) (Nat.lt_irrefl _)
  · exact fun b o _ e => Heap.get?_push_of_some _ (Heap.get?_push_of_some _ e)
  · have := (News.nil.push F emptyDict).push (F.push _) (instObj c hh.objs.size)
    rw [Heap.size_push] at this
    exact this
theorem Cx.make (C : Cx n w A h₀ L) (c : Addr) (vals : List Value) : Cx (n + 1) w (A.under (.builtin "type.__call__" ⟨.ref c :: vals, []⟩)) h₀ L := by
  obtain ⟨ex, X, d, u, hh⟩ := C
  refine ⟨ex, X, ?_, ?_, hh⟩
  · rw [depth_under_make]; omega
  · rw [units_under_make]; omega
end
end Mine
end

section
open PySem PySem.W PyProof.Rows PySem.Calls
namespace Mine
section
variable {prog : Program} {w : World} {A : Around} {s : Shared} {g : Heap} {env : Env} {E : Value → Shared → Prop} {target : Expr} {body : List Stmt} {Q : Flow → Shared → Prop}

theorem letOwned_plain {M : Model} {it : Addr} {v : Value} {o : Obj} {Q : Unit → Shared → Prop} (n : String) (ho : s.heap.get? it = some o) (hc : o.cls = .type n)
    (hn : ["enumerate", "zip", "dict_itemiterator", "dict_reverseitemiterator", "odict_iterator", "itertools.zip_longest", "itertools.pairwise"].contains n = false) (h : Q () s) : wpAny M A (letOwnedTupleGo target (.ref it) v) Q E s := by
  unfold letOwnedTupleGo
  split <;> try exact wpAny_pure h
  all_goals
    cases v <;> try exact wpAny_pure h
    refine wpAny_bind (wpAny_load ho ?_)
    rw [hc]
    cases o.data <;> try exact wpAny_pure h
    dsimp only
    rw [hn]
    exact wpAny_pure h

noncomputable def Turn (g : Heap) (L : Addr) (own : Addr × Obj) (J : (Str → Option Value) → List (Addr × Obj) → Prop) (s : Shared) (Q : Flow → Shared → Prop) (f : Flow) (s' : Shared) : Prop :=
  match f with
  | .next | .cont => ∃ h' tk m' news', s' = { s with heap := h', toks := tk } ∧ Fr g L h' m' ∧ News g L h' (own :: news') ∧ (∀ p ∈ news', p.1 ≠ own.1) ∧ J m' news'
  | .brk => Q .next s'
  | .ret v => Q (.ret v) s'
theorem Turn.next {g : Heap} {L : Addr} {own : Addr × Obj} {J : (Str → Option Value) → List (Addr × Obj) → Prop} {Q : Flow → Shared → Prop} {h' : Heap} {tk : Nat} {m' : Str → Option Value} {news' : List (Addr × Obj)}
    (F : Fr g L h' m') (N : News g L h' (own :: news')) (a : ∀ p ∈ news', p.1 ≠ own.1) (j : J m' news') : Turn g L own J s Q .next { s with heap := h', toks := tk } := ⟨h', tk, m', news', rfl, F, N, a, j⟩

theorem fr_same {h h' : Heap} {L a : Addr} {o : Obj} {m : Str → Option Value} {news : List (Addr × Obj)} (F : Fr g L h m) (N : News g L h ((a, o) :: news)) (hs : Heap.SameBut a h h') : Fr g L h' m := by
  have hIt := N _ (.head _)
  obtain ⟨oL, es, ep, hL, r⟩ := F.ns
  refine ⟨⟨oL, es, ep, (hs.2 _ (fun q => hIt.2.1 q.symm)).trans hL, r⟩, fun b x q => (hs.2 _ (fun z => ?_)).trans (F.keep b x q), F.above⟩
  have := hIt.2.2; simp only at this; rw [← z, q] at this; cases this
theorem news_same {h h' : Heap} {L a : Addr} {o o' : Obj} {news : List (Addr × Obj)} (N : News g L h ((a, o) :: news)) (hs : Heap.SameBut a h h') (ho : h'.get? a = some o') (ha : ∀ p ∈ news, p.1 ≠ a) : News g L h' ((a, o') :: news) := by
  intro p hp
  rcases List.mem_cons.mp hp with rfl | hp
  · exact ⟨ho, (N _ (.head _)).2⟩
  · exact ⟨(hs.2 _ (ha p hp)).trans (N p (.tail _ hp)).1, (N p (.tail _ hp)).2⟩

theorem fr_past {h h' : Heap} {L I : Addr} {o : Obj} {m : Str → Option Value} {news : List (Addr × Obj)} (F : Fr g L h m) (N : News g L h ((I, o) :: news)) (he : Heap.ExtBut I h h') : Fr g L h' m := by
  have hIt := N _ (.head _)
  obtain ⟨oL, es, ep, hL, r⟩ := F.ns
  refine ⟨⟨oL, es, ep, he _ _ (fun q => hIt.2.1 q.symm) hL, r⟩, fun b x q => he _ _ (fun z => ?_) (F.keep b x q), F.above⟩
  have := hIt.2.2; simp only at this; rw [← z, q] at this; cases this
inductive LoopI (g : Heap) (L : Addr) (s : Shared) (n : Nat) (St : Nat → Obj → Prop) (J : Nat → (Str → Option Value) → List (Addr × Obj) → Prop) (k : Nat) (s' : Shared) : Prop
  | mk (i : Nat) (h : Heap) (tk : Nat) (m : Str → Option Value) (news : List (Addr × Obj)) (o : Obj) (hi : i ≤ n) (hk : k = n - i) (hs : s' = ⟨h, s.gens, s.drawn, tk, s.os⟩) (F : Fr g L h m) (N : News g L h ((s.heap.objs.size, o) :: news)) (ha : ∀ p ∈ news, p.1 ≠ s.heap.objs.size) (hj : J i m news) (ho : St i o) : LoopI g L s n St J k s'
theorem LoopI.el {L : Addr} {n : Nat} {St : Nat → Obj → Prop} {J : Nat → (Str → Option Value) → List (Addr × Obj) → Prop} {k : Nat} {s' : Shared} {G : Shared → Prop} (x : LoopI g L s n St J k s')
    (h : ∀ i h tk m news o, i ≤ n → k = n - i → Fr g L h m → News g L h ((s.heap.objs.size, o) :: news) → (∀ p ∈ news, p.1 ≠ s.heap.objs.size) → J i m news → St i o → G ⟨h, s.gens, s.drawn, tk, s.os⟩) : G s' := by
  obtain ⟨i, hp, tk, m, news, o, hi, hk, rfl, F, N, ha, hj, ho⟩ := x
  exact h i hp tk m news o hi hk F N ha hj ho
theorem Turn.el {L : Addr} {own : Addr × Obj} {J : (Str → Option Value) → List (Addr × Obj) → Prop} {Q : Flow → Shared → Prop} {s' : Shared} {G : Shared → Prop} (x : Turn g L own J s Q .next s')
    (h : ∀ h tk m news, Fr g L h m → News g L h (own :: news) → (∀ p ∈ news, p.1 ≠ own.1) → J m news → G ⟨h, s.gens, s.drawn, tk, s.os⟩) : G s' := by
  obtain ⟨hp, tk, m, news, rfl, F, N, ha, hj⟩ := x
  exact h hp tk m news F N ha hj
theorem loop_core {nm : String} {n : Nat} {St : Nat → Obj → Prop} {V : Nat → Value → Prop} (J : Nat → (Str → Option Value) → List (Addr × Obj) → Prop) {L : Addr} {o₀ : Obj} {m₀ : Str → Option Value} {news₀ : List (Addr × Obj)}
    (hpl : ["enumerate", "zip", "dict_itemiterator", "dict_reverseitemiterator", "odict_iterator", "itertools.zip_longest", "itertools.pairwise"].contains nm = false) (hcl : ∀ i o, St i o → o.cls = .type nm)
    (F : Fr g L s.heap m₀) (N : News g L s.heap news₀) (hj : J 0 m₀ news₀) (h0 : St 0 o₀) (hfree : o₀.isFreed = false)
    (item : ∀ i h m₁ news₁ o tk (Q' : Option Value → Shared → Prop) (E' : Value → Shared → Prop), i < n → J i m₁ news₁ → Fr g L h m₁ → News g L h ((s.heap.objs.size, o) :: news₁) → St i o →
      (∀ v h' o', V i v → Heap.SameBut s.heap.objs.size h h' → h'.get? s.heap.objs.size = some o' → St (i + 1) o' → Q' (some v) ⟨h', s.gens, s.drawn, tk, s.os⟩) → wpAny (model prog w) A (pyNext (.ref s.heap.objs.size)) Q' E' ⟨h, s.gens, s.drawn, tk, s.os⟩)
    (stop : ∀ h m₁ news₁ o tk (Q' : Option Value → Shared → Prop) (E' : Value → Shared → Prop), J n m₁ news₁ → Fr g L h m₁ → News g L h ((s.heap.objs.size, o) :: news₁) → St n o →
      (∀ h', Heap.ExtBut s.heap.objs.size h h' → Q' none ⟨h', s.gens, s.drawn, tk, s.os⟩) → wpAny (model prog w) A (pyNext (.ref s.heap.objs.size)) Q' E' ⟨h, s.gens, s.drawn, tk, s.os⟩)
    (turn : ∀ i v m₁ news₁ h tk it o, it = s.heap.objs.size → V i v → J i m₁ news₁ → (∀ p ∈ news₁, p.1 ≠ it) → Fr g L h m₁ → News g L h ((it, o) :: news₁) →
      wpAny (model prog w) A (assign target env v) (fun _ s₂ => wpAny (model prog w) A (execs body env) (Turn g L (it, o) (J (i + 1)) s Q) (fun _ _ => False) s₂) (fun _ _ => False) { s with heap := h, toks := tk })
    (done : ∀ m₁ news₁ h tk, J n m₁ news₁ → Fr g L h m₁ → News g L h news₁ → Q .next { s with heap := h, toks := tk }) :
    codeAny (model prog w) A (.forLoop target (.ref s.heap.objs.size) body [] env) (fun r s' => match r with | .ok f => Q f s' | .error e => cameBackBy (model prog w) A env E e s') { s with heap := s.heap.push o₀ } := by
  refine codeAny_forLoop_any (LoopI g L s n St J) ?_ n ⟨0, _, _, m₀, news₀, o₀, Nat.zero_le _, rfl, rfl, F.push o₀, N.push F o₀ hfree, fun p hp => Nat.ne_of_lt (Heap.lt_size (N p hp).1), hj, h0⟩
  intro k s' x
  refine x.el ?_; clear x s'
  intro i h tk m₁ news₁ o hi hk F₁ N₁ hap hJ ho
  have noE : ∀ {α : Type} {t : Sem α} {P : α → Shared → Prop} {s₁ : Shared}, wpAny (model prog w) A t P (fun _ _ => False) s₁ → wpAny (model prog w) A t P (notedBy (model prog w) A env fun e s' => cameBackBy (model prog w) A env E e s') s₁ :=
    fun x => wpAny_mono x (fun _ _ y => y) fun _ _ y => y.elim
  refine (Nat.lt_or_eq_of_le hi).elim (fun hlt => ?_) fun hin => ?_
  · refine item i h m₁ news₁ o tk _ _ hlt hJ F₁ N₁ ho fun v h' o' hv hsb ho' hst => ?_
    refine letOwned_plain nm ho' (hcl _ _ hst) hpl ?_
    have hlt2 : n - (i + 1) < k := by rw [hk]; exact Nat.sub_succ_lt_self n i hlt
    refine noE (wpAny_mono (turn i v m₁ news₁ h' tk _ o' rfl hv hJ hap (fr_same F₁ N₁ hsb) (news_same N₁ hsb ho' hap)) (fun _ s₂ h₂ => noE (wpAny_mono h₂ (fun f s₃ h₃ => ?_) fun _ _ x => x)) fun _ _ x => x)
    have go : Turn g L (s.heap.objs.size, o') (J (i + 1)) s Q .next s₃ → ∃ m, m < k ∧ LoopI g L s n St J m s₃ := fun h₃ =>
      h₃.el (G := fun s₃ => ∃ m, m < k ∧ LoopI g L s n St J m s₃) fun h'' tk' m' news' F₃ N₃ ha hj' => ⟨n - (i + 1), hlt2, ⟨i + 1, h'', tk', m', news', o', hlt, rfl, rfl, F₃, N₃, ha, hj', hst⟩⟩
    cases f with
    | ret v => exact h₃
    | brk => exact h₃
    | next => exact go h₃
    | cont => exact go h₃
  · rw [hin] at hJ ho
    refine stop h m₁ news₁ o tk _ _ hJ F₁ N₁ ho fun h' he' => ?_
    exact wpAny_execs_nil (done m₁ news₁ h' tk hJ (fr_past F₁ N₁ he') fun p hp => ⟨he' _ _ (hap p hp) (N₁ p (.tail _ hp)).1, (N₁ p (.tail _ hp)).2⟩)
theorem iter_list {l : Addr} {vs : List Value} {m₀ : Str → Option Value} {news₀ : List (Addr × Obj)} (J : Nat → (Str → Option Value) → List (Addr × Obj) → Prop)
    {L : Addr} (_hL : env.locals = L) (hh : A.handled = none) (F : Fr g L s.heap m₀) (N : News g L s.heap news₀)
    (hl : ∀ h i m₁ news₁, J i m₁ news₁ → Fr g L h m₁ → News g L h news₁ → h.IsList l vs.toArray) (hj : J 0 m₀ news₀)
    (turn : ∀ i v m₁ news₁ h tk it o, it = s.heap.objs.size → vs[i]? = some v → J i m₁ news₁ → (∀ p ∈ news₁, p.1 ≠ it) → Fr g L h m₁ → News g L h ((it, o) :: news₁) →
      wpAny (model prog w) A (assign target env v) (fun _ s₂ => wpAny (model prog w) A (execs body env) (Turn g L (it, o) (J (i + 1)) s Q) (fun _ _ => False) s₂) (fun _ _ => False) { s with heap := h, toks := tk })
    (done : ∀ m₁ news₁ h tk, J vs.length m₁ news₁ → Fr g L h m₁ → News g L h news₁ → Q .next { s with heap := h, toks := tk }) :
    wpAny (model prog w) A (pyIter (.ref l)) (fun it s₂ => codeAny (model prog w) A (.forLoop target it body [] env) (fun r s' => match r with | .ok f => Q f s' | .error e => cameBackBy (model prog w) A env E e s') s₂) E s := by
  have hls := hl s.heap 0 m₀ news₀ hj F N
  refine wpAny_pyIter_list hls ?_
  refine loop_core (nm := "list_iterator") (n := vs.length) (St := fun i o => o.cls = .type "list_iterator" ∧ o.data = .fields #[.ref l, .int i 0]) (V := fun i v => vs[i]? = some v) J rfl (fun _ _ h => h.1) F N hj ⟨rfl, rfl⟩ rfl ?_ ?_ turn done
  · intro i h m₁ news₁ o tk Q' E' hi hJ F₁ N₁ ho hQ
    refine wpAny_pyNext_list_item (i := i) (x := vs[i]) ⟨o, (N₁ _ (.head _)).1, ho⟩ (hl h i m₁ news₁ hJ F₁ fun p hp => N₁ p (.tail _ hp)) (by simp [hi]) fun h' hit' hsb => ?_
    exact hit'.elim fun o' h5 => hQ _ h' o' (List.getElem?_eq_getElem hi) hsb h5.1 h5.2
  · intro h m₁ news₁ o tk Q' E' hJ F₁ N₁ ho hQ
    exact wpAny_pyNext_list_end hh (i := vs.length) ⟨o, (N₁ _ (.head _)).1, ho⟩ (hl h vs.length m₁ news₁ hJ F₁ fun p hp => N₁ p (.tail _ hp)) (by simp) hQ
theorem iter_tup {l : Addr} {vs : List Value} {m₀ : Str → Option Value} {news₀ : List (Addr × Obj)} (J : Nat → (Str → Option Value) → List (Addr × Obj) → Prop)
    {L : Addr} (_hL : env.locals = L) (hh : A.handled = none) (F : Fr g L s.heap m₀) (N : News g L s.heap news₀)
    (hl : ∀ h i m₁ news₁, J i m₁ news₁ → Fr g L h m₁ → News g L h news₁ → IsTup h l vs.toArray) (hj : J 0 m₀ news₀)
    (turn : ∀ i v m₁ news₁ h tk it o, it = s.heap.objs.size → vs[i]? = some v → J i m₁ news₁ → (∀ p ∈ news₁, p.1 ≠ it) → Fr g L h m₁ → News g L h ((it, o) :: news₁) →
      wpAny (model prog w) A (assign target env v) (fun _ s₂ => wpAny (model prog w) A (execs body env) (Turn g L (it, o) (J (i + 1)) s Q) (fun _ _ => False) s₂) (fun _ _ => False) { s with heap := h, toks := tk })
    (done : ∀ m₁ news₁ h tk, J vs.length m₁ news₁ → Fr g L h m₁ → News g L h news₁ → Q .next { s with heap := h, toks := tk }) :
    wpAny (model prog w) A (pyIter (.ref l)) (fun it s₂ => codeAny (model prog w) A (.forLoop target it body [] env) (fun r s' => match r with | .ok f => Q f s' | .error e => cameBackBy (model prog w) A env E e s') s₂) E s := by
  have hls := hl s.heap 0 m₀ news₀ hj F N
  refine iter_tuple hls ?_
  refine loop_core (nm := "tuple_iterator") (n := vs.length) (St := fun i o => o.cls = .type "tuple_iterator" ∧ o.data = .fields #[.ref l, .int i 0]) (V := fun i v => vs[i]? = some v) J rfl (fun _ _ h => h.1) F N hj ⟨rfl, rfl⟩ rfl ?_ ?_ turn done
  · intro i h m₁ news₁ o tk Q' E' hi hJ F₁ N₁ ho hQ
    refine next_tuple_item (i := i) (x := vs[i]) ⟨o, (N₁ _ (.head _)).1, ho⟩ (hl h i m₁ news₁ hJ F₁ fun p hp => N₁ p (.tail _ hp)) (by simp [hi]) fun h' hit' hsb => ?_
    exact hit'.elim fun o' h5 => hQ _ h' o' (List.getElem?_eq_getElem hi) hsb h5.1 h5.2
  · intro h m₁ news₁ o tk Q' E' hJ F₁ N₁ ho hQ
    exact next_tuple_end hh (i := vs.length) ⟨o, (N₁ _ (.head _)).1, ho⟩ (hl h vs.length m₁ news₁ hJ F₁ fun p hp => N₁ p (.tail _ hp)) (by simp) hQ
end
end Mine
end

section
open PySem PySem.W PyProof.Rows PySem.Calls PySem.Builtin PySem.Builtin.Str
namespace Mine
noncomputable def S (l : List Nat) : Str := ⟨l.toArray⟩
theorem S_len (l : List Nat) : (S l).length = l.length := by simp [S, Str.length]
theorem S_append (a b : List Nat) : S a ++ S b = S (a ++ b) := by
  show Str.append (S a) (S b) = _
  simp [S, Str.append]
theorem S_inj {a b : List Nat} (h : S a = S b) : a = b := by
  have := congrArg (fun x => x.cps.toList) h
  simpa [S] using this
theorem S_beq (a b : List Nat) : (S a == S b) = (a == b) := by
  by_cases h : a = b
  · subst h; simp
  · have : S a ≠ S b := fun e => h (S_inj e)
    rw [beq_eq_false_iff_ne.mpr this, beq_eq_false_iff_ne.mpr h]
theorem S_nil : Str.ofString "" = S [] := by decide +kernel
theorem S_dot : Str.ofString "." = S [46] := by decide +kernel
theorem S_cr : Str.ofString "\r" = S [13] := by decide +kernel
theorem S_lf : Str.ofString "\n" = S [10] := by decide +kernel
theorem S_crlf : Str.ofString "\r\n" = S [13, 10] := by decide +kernel
theorem S_a : Str.ofString "a" = S [97] := by decide +kernel
theorem S_adot : Str.ofString "a." = S [97, 46] := by decide +kernel
theorem S_b : Str.ofString "b" = S [98] := by decide +kernel

theorem foldl_rep (k : Nat) (a : Array Nat) : (List.replicate k #[46]).foldl (· ++ ·) a = a ++ (List.replicate k 46).toArray := by
  induction k generalizing a with
  | zero => simp
  | succ k ih => rw [List.replicate_succ, List.foldl_cons, ih, List.replicate_succ]; apply Array.ext'; simp
theorem mul_dot (k : Int) : Txt.mul (S [46]) k = S (List.replicate k.toNat 46) := by
  unfold Txt.mul
  by_cases h : k < 1
  · rw [if_pos h, show k.toNat = 0 by omega]; rfl
  · rw [if_neg h]
    by_cases h1 : k = 1
    · subst h1; rfl
    · rw [if_neg (by simp [h1, S, Str.length])]
      show Str.mk _ = _
      rw [show (S [46]).cps = #[46] from rfl, foldl_rep]; simp [S]

theorem slice1 (row : List Nat) (h : row.length ≤ 4) : Txt.slice (S row) none (some 1) = S (row.take 1) := by
  match row, h with
  | [], _ => rfl
  | [_], _ => rfl
  | [_, _], _ => rfl
  | [_, _, _], _ => rfl
  | [_, _, _, _], _ => rfl
theorem sliceLast (en : List Nat) (h : en.length ≤ 2) : Txt.slice (S en) (some (-1)) none = S (en.drop (en.length - 1)) := by
  match en, h with
  | [], _ => rfl
  | [a], _ =>
    unfold Txt.slice
    rw [show strSliceIndices (some (-1)) none 1 (S [a]).length = [0] from by show strSliceIndices (some (-1)) none 1 1 = [0]; decide +kernel]
    rfl
  | [a, b], _ =>
    unfold Txt.slice
    rw [show strSliceIndices (some (-1)) none 1 (S [a, b]).length = [1] from by show strSliceIndices (some (-1)) none 1 2 = [1]; decide +kernel]
    rfl
theorem slice1_dot (row : List Nat) (h : row.length ≤ 4) : (Txt.slice (S row) none (some 1) == Str.ofString ".") = (row.head? == some 46) := by
  rw [slice1 row h, S_dot, S_beq]
  cases row <;> simp
theorem sliceLast_lf (en : List Nat) (h : en.length ≤ 2) : (Txt.slice (S en) (some (-1)) none == Str.ofString "\n") = (en.getLast? == some 10) := by
  rw [sliceLast en h, S_lf, S_beq]
  match en, h with
  | [], _ => simp
  | [_], _ => simp
  | [_, _], _ => simp
end Mine
end

section
open PySem PySem.W PyProof.Rows PySem.Calls
namespace Mine
theorem hideQ {α : Type} {M : Model} {A : Around} {t : Sem α} {Q : α → Shared → Prop} {E : Value → Shared → Prop} {s : Shared} (h : ∀ K : α → Shared → Prop, (∀ a s', Q a s' → K a s') → wpAny M A t K E s) : wpAny M A t Q E s := h Q fun _ _ x => x
theorem ex1_1 {T1 : Sort _} {P1 : T1 → Prop} {G : Prop} (h : ∃ a1, P1 a1) (k : ∀ a1, P1 a1 → G) : G := h.elim fun a1 h => k a1 h
theorem ex1_2 {T1 : Sort _} {P1 P2 : T1 → Prop} {G : Prop} (h : ∃ a1, P1 a1 ∧ P2 a1) (k : ∀ a1, P1 a1 → P2 a1 → G) : G := h.elim fun a1 h => k a1 h.1 h.2
theorem ex1_3 {T1 : Sort _} {P1 P2 P3 : T1 → Prop} {G : Prop} (h : ∃ a1, P1 a1 ∧ P2 a1 ∧ P3 a1) (k : ∀ a1, P1 a1 → P2 a1 → P3 a1 → G) : G := h.elim fun a1 h => k a1 h.1 h.2.1 h.2.2
theorem ex2_1 {T1 T2 : Sort _} {P1 : T1 → T2 → Prop} {G : Prop} (h : ∃ a1 a2, P1 a1 a2) (k : ∀ a1 a2, P1 a1 a2 → G) : G := h.elim fun a1 h => h.elim fun a2 h => k a1 a2 h
theorem ex2_4 {T1 T2 : Sort _} {P1 P2 P3 P4 : T1 → T2 → Prop} {G : Prop} (h : ∃ a1 a2, P1 a1 a2 ∧ P2 a1 a2 ∧ P3 a1 a2 ∧ P4 a1 a2) (k : ∀ a1 a2, P1 a1 a2 → P2 a1 a2 → P3 a1 a2 → P4 a1 a2 → G) : G := h.elim fun a1 h => h.elim fun a2 h => k a1 a2 h.1 h.2.1 h.2.2.1 h.2.2.2
theorem ex3_1 {T1 T2 T3 : Sort _} {P1 : T1 → T2 → T3 → Prop} {G : Prop} (h : ∃ a1 a2 a3, P1 a1 a2 a3) (k : ∀ a1 a2 a3, P1 a1 a2 a3 → G) : G := h.elim fun a1 h => h.elim fun a2 h => h.elim fun a3 h => k a1 a2 a3 h
theorem ex3_2 {T1 T2 T3 : Sort _} {P1 P2 : T1 → T2 → T3 → Prop} {G : Prop} (h : ∃ a1 a2 a3, P1 a1 a2 a3 ∧ P2 a1 a2 a3) (k : ∀ a1 a2 a3, P1 a1 a2 a3 → P2 a1 a2 a3 → G) : G := h.elim fun a1 h => h.elim fun a2 h => h.elim fun a3 h => k a1 a2 a3 h.1 h.2
theorem ex3_3 {T1 T2 T3 : Sort _} {P1 P2 P3 : T1 → T2 → T3 → Prop} {G : Prop} (h : ∃ a1 a2 a3, P1 a1 a2 a3 ∧ P2 a1 a2 a3 ∧ P3 a1 a2 a3) (k : ∀ a1 a2 a3, P1 a1 a2 a3 → P2 a1 a2 a3 → P3 a1 a2 a3 → G) : G := h.elim fun a1 h => h.elim fun a2 h => h.elim fun a3 h => k a1 a2 a3 h.1 h.2.1 h.2.2
theorem ex3_4 {T1 T2 T3 : Sort _} {P1 P2 P3 P4 : T1 → T2 → T3 → Prop} {G : Prop} (h : ∃ a1 a2 a3, P1 a1 a2 a3 ∧ P2 a1 a2 a3 ∧ P3 a1 a2 a3 ∧ P4 a1 a2 a3) (k : ∀ a1 a2 a3, P1 a1 a2 a3 → P2 a1 a2 a3 → P3 a1 a2 a3 → P4 a1 a2 a3 → G) : G := h.elim fun a1 h => h.elim fun a2 h => h.elim fun a3 h => k a1 a2 a3 h.1 h.2.1 h.2.2.1 h.2.2.2
theorem ex3_5 {T1 T2 T3 : Sort _} {P1 P2 P3 P4 P5 : T1 → T2 → T3 → Prop} {G : Prop} (h : ∃ a1 a2 a3, P1 a1 a2 a3 ∧ P2 a1 a2 a3 ∧ P3 a1 a2 a3 ∧ P4 a1 a2 a3 ∧ P5 a1 a2 a3) (k : ∀ a1 a2 a3, P1 a1 a2 a3 → P2 a1 a2 a3 → P3 a1 a2 a3 → P4 a1 a2 a3 → P5 a1 a2 a3 → G) : G := h.elim fun a1 h => h.elim fun a2 h => h.elim fun a3 h => k a1 a2 a3 h.1 h.2.1 h.2.2.1 h.2.2.2.1 h.2.2.2.2
theorem ex4_5 {T1 T2 T3 T4 : Sort _} {P1 P2 P3 P4 P5 : T1 → T2 → T3 → T4 → Prop} {G : Prop} (h : ∃ a1 a2 a3 a4, P1 a1 a2 a3 a4 ∧ P2 a1 a2 a3 a4 ∧ P3 a1 a2 a3 a4 ∧ P4 a1 a2 a3 a4 ∧ P5 a1 a2 a3 a4) (k : ∀ a1 a2 a3 a4, P1 a1 a2 a3 a4 → P2 a1 a2 a3 a4 → P3 a1 a2 a3 a4 → P4 a1 a2 a3 a4 → P5 a1 a2 a3 a4 → G) : G := h.elim fun a1 h => h.elim fun a2 h => h.elim fun a3 h => h.elim fun a4 h => k a1 a2 a3 a4 h.1 h.2.1 h.2.2.1 h.2.2.2.1 h.2.2.2.2
theorem ex5_5 {T1 T2 T3 T4 T5 : Sort _} {P1 P2 P3 P4 P5 : T1 → T2 → T3 → T4 → T5 → Prop} {G : Prop} (h : ∃ a1 a2 a3 a4 a5, P1 a1 a2 a3 a4 a5 ∧ P2 a1 a2 a3 a4 a5 ∧ P3 a1 a2 a3 a4 a5 ∧ P4 a1 a2 a3 a4 a5 ∧ P5 a1 a2 a3 a4 a5) (k : ∀ a1 a2 a3 a4 a5, P1 a1 a2 a3 a4 a5 → P2 a1 a2 a3 a4 a5 → P3 a1 a2 a3 a4 a5 → P4 a1 a2 a3 a4 a5 → P5 a1 a2 a3 a4 a5 → G) : G := h.elim fun a1 h => h.elim fun a2 h => h.elim fun a3 h => h.elim fun a4 h => h.elim fun a5 h => k a1 a2 a3 a4 a5 h.1 h.2.1 h.2.2.1 h.2.2.2.1 h.2.2.2.2
theorem ex7_4 {T1 T2 T3 T4 T5 T6 T7 : Sort _} {P1 P2 P3 P4 : T1 → T2 → T3 → T4 → T5 → T6 → T7 → Prop} {G : Prop} (h : ∃ a1 a2 a3 a4 a5 a6 a7, P1 a1 a2 a3 a4 a5 a6 a7 ∧ P2 a1 a2 a3 a4 a5 a6 a7 ∧ P3 a1 a2 a3 a4 a5 a6 a7 ∧ P4 a1 a2 a3 a4 a5 a6 a7) (k : ∀ a1 a2 a3 a4 a5 a6 a7, P1 a1 a2 a3 a4 a5 a6 a7 → P2 a1 a2 a3 a4 a5 a6 a7 → P3 a1 a2 a3 a4 a5 a6 a7 → P4 a1 a2 a3 a4 a5 a6 a7 → G) : G := h.elim fun a1 h => h.elim fun a2 h => h.elim fun a3 h => h.elim fun a4 h => h.elim fun a5 h => h.elim fun a6 h => h.elim fun a7 h => k a1 a2 a3 a4 a5 a6 a7 h.1 h.2.1 h.2.2.1 h.2.2.2
theorem ex0_3 {P1 P2 P3 : Prop} {G : Prop} (h : P1 ∧ P2 ∧ P3) (k : P1 → P2 → P3 → G) : G := k h.1 h.2.1 h.2.2
theorem ex0_4 {P1 P2 P3 P4 : Prop} {G : Prop} (h : P1 ∧ P2 ∧ P3 ∧ P4) (k : P1 → P2 → P3 → P4 → G) : G := k h.1 h.2.1 h.2.2.1 h.2.2.2
theorem ex0_8 {P1 P2 P3 P4 P5 P6 P7 P8 : Prop} {G : Prop} (h : P1 ∧ P2 ∧ P3 ∧ P4 ∧ P5 ∧ P6 ∧ P7 ∧ P8) (k : P1 → P2 → P3 → P4 → P5 → P6 → P7 → P8 → G) : G := k h.1 h.2.1 h.2.2.1 h.2.2.2.1 h.2.2.2.2.1 h.2.2.2.2.2.1 h.2.2.2.2.2.2.1 h.2.2.2.2.2.2.2
theorem ex1_5 {T1 : Sort _} {P1 P2 P3 P4 P5 : T1 → Prop} {G : Prop} (h : ∃ a1, P1 a1 ∧ P2 a1 ∧ P3 a1 ∧ P4 a1 ∧ P5 a1) (k : ∀ a1, P1 a1 → P2 a1 → P3 a1 → P4 a1 → P5 a1 → G) : G := h.elim fun a1 h => k a1 h.1 h.2.1 h.2.2.1 h.2.2.2.1 h.2.2.2.2

theorem newsC {g h : Heap} {L a : Addr} {o : Obj} {l : List (Addr × Obj)} (p : h.get? a = some o ∧ a ≠ L ∧ g.get? a = none) (N : News g L h l) : News g L h ((a, o) :: l) := fun q hq => (List.mem_cons.mp hq).elim (fun e => e ▸ p) (N q)
theorem newsA {g h : Heap} {L : Addr} {l l2 : List (Addr × Obj)} (M : News g L h l) (N : News g L h l2) : News g L h (l ++ l2) := fun q hq => (List.mem_append.mp hq).elim (M q) (N q)
theorem newsT {g h : Heap} {L : Addr} {p : Addr × Obj} {l : List (Addr × Obj)} (N : News g L h (p :: l)) : News g L h l := fun q hq => N q (.tail _ hq)
theorem newsL {g h : Heap} {L : Addr} {l l2 : List (Addr × Obj)} (N : News g L h (l ++ l2)) : News g L h l := fun q hq => N q (List.mem_append_left _ hq)
theorem newsR {g h : Heap} {L : Addr} {l l2 : List (Addr × Obj)} (N : News g L h (l ++ l2)) : News g L h l2 := fun q hq => N q (List.mem_append_right _ hq)
theorem newsE {g h : Heap} {L : Addr} {l l2 : List (Addr × Obj)} (e : l = l2) (N : News g L h l) : News g L h l2 := e ▸ N
theorem newsH {g h : Heap} {L a : Addr} {o : Obj} {l : List (Addr × Obj)} (N : News g L h ((a, o) :: l)) : h.get? a = some o ∧ a ≠ L ∧ g.get? a = none := N _ (.head _)
theorem newsE1 {g h : Heap} {L : Addr} {p : Addr × Obj} {l l2 : List (Addr × Obj)} (e : l = l2) (N : News g L h (p :: l)) : News g L h (p :: l2) := e ▸ N
theorem asgE {M : Model} {A : Around} {target : Expr} {env : Env} {v v' : Value} {Q : Unit → Shared → Prop} {E : Value → Shared → Prop} {s : Shared} (e : v = v') (h : wpAny M A (assign target env v') Q E s) : wpAny M A (assign target env v) Q E s := e ▸ h
theorem hideT {α β : Type} {M : Model} {A : Around} {t : Sem α} {u : Sem β} {Q : β → Shared → Prop} {E F : Value → Shared → Prop} {s : Shared} (h : ∀ K : β → Shared → Prop, (∀ a s', Q a s' → K a s') → wpAny M A t (fun _ s₂ => wpAny M A u K F s₂) E s) : wpAny M A t (fun _ s₂ => wpAny M A u Q F s₂) E s := h Q fun _ _ x => x
theorem apE {I : Addr} {l l2 : List (Addr × Obj)} (e : l = l2) (N : ∀ p ∈ l, p.1 ≠ I) : ∀ p ∈ l2, p.1 ≠ I := e ▸ N
end Mine
end

section
open PySem PySem.W PyProof.Rows PySem.Calls
namespace Mine
theorem ex2_5 {T1 T2 : Sort _} {P1 P2 P3 P4 P5 : T1 → T2 → Prop} {G : Prop} (h : ∃ a1 a2, P1 a1 a2 ∧ P2 a1 a2 ∧ P3 a1 a2 ∧ P4 a1 a2 ∧ P5 a1 a2) (k : ∀ a1 a2, P1 a1 a2 → P2 a1 a2 → P3 a1 a2 → P4 a1 a2 → P5 a1 a2 → G) : G := h.elim fun a1 h => h.elim fun a2 h => k a1 a2 h.1 h.2.1 h.2.2.1 h.2.2.2.1 h.2.2.2.2
theorem ex2_6 {T1 T2 : Sort _} {P1 P2 P3 P4 P5 P6 : T1 → T2 → Prop} {G : Prop} (h : ∃ a1 a2, P1 a1 a2 ∧ P2 a1 a2 ∧ P3 a1 a2 ∧ P4 a1 a2 ∧ P5 a1 a2 ∧ P6 a1 a2) (k : ∀ a1 a2, P1 a1 a2 → P2 a1 a2 → P3 a1 a2 → P4 a1 a2 → P5 a1 a2 → P6 a1 a2 → G) : G := h.elim fun a1 h => h.elim fun a2 h => k a1 a2 h.1 h.2.1 h.2.2.1 h.2.2.2.1 h.2.2.2.2.1 h.2.2.2.2.2
theorem ex2_8 {T1 T2 : Sort _} {P1 P2 P3 P4 P5 P6 P7 P8 : T1 → T2 → Prop} {G : Prop} (h : ∃ a1 a2, P1 a1 a2 ∧ P2 a1 a2 ∧ P3 a1 a2 ∧ P4 a1 a2 ∧ P5 a1 a2 ∧ P6 a1 a2 ∧ P7 a1 a2 ∧ P8 a1 a2) (k : ∀ a1 a2, P1 a1 a2 → P2 a1 a2 → P3 a1 a2 → P4 a1 a2 → P5 a1 a2 → P6 a1 a2 → P7 a1 a2 → P8 a1 a2 → G) : G := h.elim fun a1 h => h.elim fun a2 h => k a1 a2 h.1 h.2.1 h.2.2.1 h.2.2.2.1 h.2.2.2.2.1 h.2.2.2.2.2.1 h.2.2.2.2.2.2.1 h.2.2.2.2.2.2.2
theorem memC {P : Addr × Obj → Prop} {a : Addr × Obj} {l : List (Addr × Obj)} (h : P a) (t : ∀ p ∈ l, P p) : ∀ p ∈ a :: l, P p := fun p hp => (List.mem_cons.mp hp).elim (fun e => e ▸ h) (t p)
theorem memN {P : Addr × Obj → Prop} : ∀ p ∈ ([] : List (Addr × Obj)), P p := fun _ h => nomatch h
theorem memA {P : Addr × Obj → Prop} {l l2 : List (Addr × Obj)} (s : ∀ p ∈ l, P p) (t : ∀ p ∈ l2, P p) : ∀ p ∈ l ++ l2, P p := fun p hp => (List.mem_append.mp hp).elim (s p) (t p)
theorem mid_val {M : Model} {A : Around} {env : Env} {g : Heap} {L : Addr} {st : Stmt} {rest : List Stmt} {Q : Flow → Shared → Prop} {E : Value → Shared → Prop} {s : Shared} (bs : Tok → List (Str × Value)) (LG : List (Addr × Obj))
    (first : ∀ K : Flow → Shared → Prop, (∀ h tk m' u, Fr g L h m' → News g L h LG → Vars m' (bs u) → K .next ⟨h, s.gens, s.drawn, tk, s.os⟩) → wpAny M A (exec st env) K E s)
    (next : ∀ (h : Heap) (tk : Nat) (m' : Str → Option Value) (u : Tok), Fr g L h (fun y => match (bs u).lookup y with | some v => some v | none => m' y) → News g L h LG → wpAny M A (execs rest env) Q E ⟨h, s.gens, s.drawn, tk, s.os⟩) : wpAny M A (execs (st :: rest) env) Q E s := by
  refine execs_mid (fun s' => ∃ h tk m' u, s' = { s with heap := h, toks := tk } ∧ Fr g L h m' ∧ News g L h LG ∧ Vars m' (bs u)) (first _ fun h tk m' u F N V => ⟨h, tk, m', u, rfl, F, N, V⟩) ?_
  rintro s' ⟨h, tk, m', u, rfl, F, N, V⟩
  exact next h tk m' u (frs F V) N
end Mine
end

section
open PySem PySem.W PyProof.Rows PySem.Calls
set_option maxHeartbeats 4000000
namespace Mine
theorem fill_it : (fun (_ : OpenLaw) (_ : Params → Frag) => True) PySem.Challenge.rw_oc0170_01 Mine.hd.heap_39 := by k_fill; trivial

noncomputable abbrev Row := List Nat × List Nat
noncomputable def RowsAt (h : Heap) (l : Addr) (rows : List Row) : Prop :=
  ∃ vs : List Value, h.IsList l vs.toArray ∧ vs.length = rows.length ∧ ∀ (i : Nat) (r : Row), rows[i]? = some r → ∃ (a : Addr) (t u : Tok), vs[i]? = some (Value.ref a) ∧ IsTup h a #[.str (S r.1) t, .str (S r.2) u]
noncomputable def Small (rows : List Row) : Prop := rows.length ≤ 7 ∧ ∀ r ∈ rows, r.1.length ≤ 4 ∧ r.2.length ≤ 2
theorem RowsAt.ext {h h' : Heap} {l : Addr} {rows : List Row} (x : RowsAt h l rows) (e : ∀ b o, h.get? b = some o → h'.get? b = some o) : RowsAt h' l rows := by
  obtain ⟨vs, a, b, c⟩ := x
  refine ⟨vs, a.at fun o q => e _ _ q, b, fun i r hr => ?_⟩
  obtain ⟨ad, t, u, p, q⟩ := c i r hr
  exact ⟨ad, t, u, p, q.keeps e⟩

noncomputable def dotsOf (a b : Nat) (seen : Bool) (r : Row) : Nat := if r.1.head? == some 46 then (if seen then a else 0) + b else 0
noncomputable def endOf (md : Bool) (r : Row) : List Nat := if md && !r.2.isEmpty then [13, 10] else r.2
noncomputable def toldStep (a : Nat) (md : Bool) (b : Nat) (acc : List Nat × Bool) (r : Row) : List Nat × Bool :=
  (acc.1 ++ (List.replicate (dotsOf a b acc.2 r) 46 ++ r.1 ++ endOf md r), r.2.getLast? == some 10)
noncomputable def toldS (rows : List Row) (a : Nat) (md : Bool) (b : Nat) : List Nat × Bool := rows.foldl (toldStep a md b) ([], true)
noncomputable def told (rows : List Row) (a : Nat) (md : Bool) (b : Nat) : List Nat := (toldS rows a md b).1
theorem told_len {rows : List Row} {a b : Nat} {md : Bool} (ha : a ≤ 3) (hb : b ≤ 3) (hs : ∀ r ∈ rows, r.1.length ≤ 4 ∧ r.2.length ≤ 2) : ∀ acc, (rows.foldl (toldStep a md b) acc).1.length ≤ acc.1.length + 12 * rows.length := by
  induction rows with
  | nil => intro acc; simp
  | cons r rs ih =>
    intro acc
    have h1 := ih (fun x hx => hs x (.tail _ hx)) (toldStep a md b acc r)
    have h2 := hs r (.head _)
    have h3 : (toldStep a md b acc r).1.length ≤ acc.1.length + 12 := by
      simp only [toldStep, List.length_append, List.length_replicate]
      have e1 : dotsOf a b acc.2 r ≤ 6 := by unfold dotsOf; split <;> (try split) <;> omega
      have e2 : (endOf md r).length ≤ 2 := by unfold endOf; split <;> simp [h2.2]
      omega
    rw [List.foldl_cons, List.length_cons]
    omega

inductive ToldJ (l : Addr) (rows : List Row) (a b : Nat) (md : Bool) (ta tb : Tok) (i : Nat) (m : Str → Option Value) (news : List (Addr × Obj)) : Prop
  | mk (x : Str) (tx : Tok) (sn : Bool) (hV : Vars m [("whole", .str x tx), ("seen", .bool sn), ("rows", .ref l), ("ahead", .int a ta), ("mended", .bool md), ("behind", .int b tb)]) (hn : news = [])
      (hx : x = S (toldS (rows.take i) a md b).1) (hsn : sn = (toldS (rows.take i) a md b).2) : ToldJ l rows a b md ta tb i m news
noncomputable def EvP (s : Shared) (P : Value → Prop) (v : Value) (s' : Shared) : Prop := P v ∧ ∃ tk, s' = { s with toks := tk }
theorem EvP.intro {s : Shared} {P : Value → Prop} {v : Value} {tk : Nat} (p : P v) : EvP s P v { s with toks := tk } := ⟨p, tk, rfl⟩
theorem eval_mid {M : Model} {A : Around} {t : Sem Value} {Q : Value → Shared → Prop} {E : Value → Shared → Prop} {s : Shared} (P : Value → Prop) (first : wpAny M A t (EvP s P) E s) (next : ∀ v tk, P v → Q v ⟨s.heap, s.gens, s.drawn, tk, s.os⟩) : wpAny M A t Q E s :=
  wpAny_mono first (fun v s' h => by obtain ⟨p, tk, rfl⟩ := h; exact next v tk p) fun _ _ x => x
theorem end_len2 (md : Bool) (row en : List Nat) (h : en.length ≤ 2) : (endOf md (row, en)).length ≤ 2 := by unfold endOf; split <;> simp [h]
theorem toldJ_el {l : Addr} {rows : List Row} {a b : Nat} {md : Bool} {ta tb : Tok} {i : Nat} {m : Str → Option Value} {news : List (Addr × Obj)} {G : Prop} (h : ToldJ l rows a b md ta tb i m news)
    (k : ∀ (x : Str) (tx : Tok) (sn : Bool), Vars m [("whole", .str x tx), ("seen", .bool sn), ("rows", .ref l), ("ahead", .int a ta), ("mended", .bool md), ("behind", .int b tb)] → news = [] → x = S (toldS (rows.take i) a md b).1 → sn = (toldS (rows.take i) a md b).2 → G) : G := by
  obtain ⟨x, tx, sn, hV, hn, hx, hsn⟩ := h
  exact k x tx sn hV hn hx hsn
theorem told_call {n : Nat} {prog : Program} {w : World} {A : Around} {s : Shared} {h₀ : Heap} {L : Addr} {m : Str → Option Value} {R : Result → Shared → Prop}
   (C : Cx n w A h₀ L) (hn : n ≤ 50) (F : Fr h₀ L s.heap m) {l : Addr} {rows : List Row} {a b : Nat} {md : Bool} {ta tb : Tok} (hr : RowsAt s.heap l rows) (hsm : Small rows) (ha : a ≤ 3) (hb : b ≤ 3)
   (k : ∀ t h' tk, Ext [] s.heap h' → R (.ok (.ret (.str (S (told rows a md b)) t))) { s with heap := h', toks := tk }) :
   codeAny (model prog w) A (.call (.ref 208) ⟨[.ref l, .int a ta, .bool md, .int b tb], []⟩) R s := by
  refine' enter (binds := [("rows", .ref l), ("ahead", .int a ta), ("mended", .bool md), ("behind", .int b tb)]) C (le_lit hn rfl) F [] News.nil ?ho ?hcd ?hb ?hloc ?c1 ?c2 ?c3 ?c4 ?_
  case ho => k_is
  case hcd => k_is
  case hb => exact BindsTo.of_eq rfl
  case hloc => exact locs rfl
  case c1 => rfl
  case c2 => rfl
  case c3 => rfl
  case c4 => decide
  intro g L' h₁ hg C' F' N'
  refine hideQ fun K0 hK0 => ?_
  refine C'.top_el fun pp loose mg mb T => ?_
  have X := C'.X
  obtain ⟨vs, hvl, hvn, hvi⟩ := hr
  have hgs : Ext [] s.heap g := by subst hg; exact fun b o _ e => e
  iterate 9 walk1
  refine wpAny_For ?_
  walk1
  refine iter_list (L := L') (vs := vs) (ToldJ l rows a b md ta tb)
    rfl C'.handled (by assumption) (by assumption) ?hl ?hj ?turn ?done
  case hl => exact fun h i m₁ news₁ _ F₁ _ => hvl.at fun o e => F₁.keep _ _ (hgs _ _ (by simp) e)
  case hj => exact ⟨_, _, _, ⟨rfl, rfl, rfl, rfl, rfl, rfl, trivial⟩, rfl, rfl, rfl⟩
  case done =>
    intro m₁ news₁ h tk hJ F₁ N₁
    refine toldJ_el hJ ?_; clear hJ
    intro x tx sn hV hn hx _
    rw [hvn, List.take_length] at hx
    have F₂ := frs F₁ hV
    dsimp only
    repeat' walk1
    exact hK0 _ _ (Done.intro F₂ fun e => by have h9 := k tx _ tk e; rw [hx]; exact h9)
  intro i v m₁ news₁ h tk it o hit hv hJ hap F₁ N₁
  refine hideT fun K1 hK1 => ?_
  refine toldJ_el hJ ?_; clear hJ
  intro x tx sn hV hn hx hsn
  replace N₁ := newsE1 hn N₁
  clear hn hap news₁
  have hlt : i < rows.length := by have := (List.getElem?_eq_some_iff.mp hv).1; omega
  refine ex3_2 (hvi i rows[i] (List.getElem?_eq_getElem hlt)) ?_
  intro ad t u hvi' htup
  refine asgE (Option.some.inj (hv.symm.trans hvi')) ?_
  clear hvi'
  have htup' := htup.keeps fun b o e => F₁.keep b o (hgs b o (by simp) e)
  have hrel := hsm.2 rows[i] (List.getElem_mem _)
  have hrl := hrel.1
  have hel := hrel.2
  clear hrel
  have hstep : toldS (rows.take (i + 1)) a md b = toldStep a md b (toldS (rows.take i) a md b) rows[i] := by
    unfold toldS; rw [List.take_add_one, List.getElem?_eq_getElem hlt, List.foldl_append]; rfl
  have hxl : x.length ≤ 84 := by
    have h1 := told_len (rows := rows.take i) (md := md) ha hb (fun r hr => hsm.2 r (List.mem_of_mem_take hr)) ([], true)
    have h2 := hsm.1
    rw [hx, S_len]
    simp only [List.length_take, List.length_nil] at h1
    exact Nat.le_trans h1 (by rw [Nat.zero_add]; exact Nat.le_trans (Nat.mul_le_mul_left 12 (Nat.le_trans (Nat.min_le_right _ _) h2)) (by decide))
  generalize toldS (rows.take i) a md b = acc at hstep hx hsn
  generalize rows[i] = row at htup' hrl hel hstep
  obtain ⟨row, en⟩ := row
  dsimp only at htup' hrl hel
  clear C hvl hvi hv htup hvn hsm
  have F₂ := frs F₁ hV
  dsimp only
  clear F₁
  have q1 := S_len row
  have q2 := S_len en
  refine unpackN_ F₂ N₁ htup' C'.handled rfl rfl ?_
  intro h' F₃ N₃
  iterate 12 walk1
  dsimp only
  rename Fr g L' _ _ => F4
  rename News g L' _ _ => N4
  have hd6 : dotsOf a b sn (row, en) ≤ 6 := by unfold dotsOf; split <;> (try split) <;> omega
  refine mid_val (g := g) (L := L') (fun u7 => [("dots", .int ((dotsOf a b sn (row, en) : Nat) : Int) u7), ("whole", .str x tx), ("row", .str (S row) t), ("end", .str (S en) u), ("rows", .ref l), ("ahead", .int a ta), ("mended", .bool md), ("behind", .int b tb)]) [(it, o)] ?_ ?_
  · intro K hK
    clear hstep hx hsn hxl k hd6 hK0 hK1
    try dsimp only at hK
    repeat' walk1
    all_goals (rename Fr g L' _ _ => Fz; rename News g L' _ _ => Nz)
    all_goals (try dsimp only) <;> (refine hK _ _ _ _ Fz Nz ⟨congrArg (fun z => some (Value.int z _)) (?_ : _ = _), rfl, rfl, rfl, rfl, rfl, rfl, rfl, trivial⟩)
    all_goals (clear Fz Nz hV X T C' hK)
    all_goals (simp only [slice1_dot row hrl] at *)
    all_goals (simp_all [dotsOf])
  clear F4 N4
  intro h7 tk7 m7 u7 F8 N7
  try dsimp only
  generalize hdn : dotsOf a b sn (row, en) = dn at F8 hd6
  refine mid_val (g := g) (L := L') (fun u9 => [("whole", .str (S (acc.1 ++ (List.replicate dn 46 ++ row ++ endOf md (row, en)))) u9), ("end", .str (S en) u), ("rows", .ref l), ("ahead", .int a ta), ("mended", .bool md), ("behind", .int b tb)]) [(it, o)] ?_ ?_
  · intro K hK
    clear hstep hsn hdn k hK0 hK1
    try dsimp only at hK
    iterate 10 walk1
    refine eval_mid (fun v => ∃ u, v = .str (S (endOf md (row, en))) u) ?_ ?_
    · clear hK
      repeat' walk1
      all_goals (refine EvP.intro ⟨_, congrArg (fun z => Value.str z _) (?_ : _ = _)⟩)
      all_goals (clear X T C')
      all_goals (simp only [S_crlf, S_len, endOf] at *)
      all_goals (first | rfl | (refine congrArg S ?_; simp_all))
    intro v9 tk9 hv9
    refine ex1_1 hv9 ?_; clear hv9
    intro u9 hv9
    rw [hv9]
    have q3 := end_len2 md row en hel
    have q4 := S_len (endOf md (row, en))
    generalize endOf md (row, en) = E9 at q3 q4 hK
    dsimp only
    repeat' walk1
    rename Fr g L' _ _ => Fz
    rename News g L' _ _ => Nz
    try dsimp only
    refine hK _ _ _ _ Fz Nz ⟨congrArg (fun z => some (Value.str z _)) (?_ : _ = _), rfl, rfl, rfl, rfl, rfl, trivial⟩
    clear Fz Nz X T C' hK
    rw [hx]
    simp only [S_dot, mul_dot, S_append, List.append_assoc, Int.toNat_natCast]
  intro h9 tk9 m9 u9 F10 N9
  try dsimp only
  repeat' walk1
  all_goals (rename Fr g L' _ _ => Fz; rename News g L' _ _ => Nz)
  all_goals (refine hK1 _ _ <| Turn.next Fz Nz (fun _ hp => nomatch hp) ⟨_, _, _, ⟨rfl, rfl, rfl, rfl, rfl, rfl, trivial⟩, rfl, ?_, ?_⟩)
  all_goals (rw [hstep]; clear Fz Nz X T C' k)
  · subst hdn hsn; rfl
  · simp only [sliceLast_lf en hel] at *
    rfl
end Mine
end

local macro_rules | `(tactic| k_ne) => `(tactic| (refine PySem.W.neN ?_; (try dsimp only); first | assumption | (apply Ne.symm; assumption) | (apply Nat.ne_of_lt; assumption) | (apply Nat.ne_of_gt; assumption) | omega))
local macro_rules | `(tactic| k_all) => `(tactic| assumption)

section
open PySem PySem.W PyProof.Rows PySem.Calls
set_option maxHeartbeats 4000000
namespace Mine

set_option genInjectivity true in
structure Ent where
  key : Str
  kt : Tok
  a : Addr
  da : Addr
  sa : Addr
  np : Int
  nt : Tok
  ss : List (Str × Tok)
  ep : Nat
noncomputable abbrev Ent.obj (e : Ent) : Obj := ⟨.ref 93, some e.da, .plain, [some (.str e.key e.kt), some (.int e.np e.nt), some (.ref e.sa)].toArray⟩
noncomputable abbrev Ent.lst (e : Ent) : Obj := { cls := .type "list", data := .seq (strValues e.ss).toArray e.ep }
noncomputable def Ent.led (e : Ent) : List (Addr × Obj) := [(e.a, e.obj), (e.da, dictOf [] 0), (e.sa, e.lst)]
structure Hdr where
  x : Addr
  dx : Addr
  d : Addr
  t1 : Tok
  t2 : Tok
  t3 : Tok
  t4 : Tok
  rv : Value
  po : Int
  tp : Tok
  fi : Int
  tf : Tok
noncomputable abbrev Hdr.dict (w : World) (q : Hdr) : Obj := dictOf [⟨PyData.keyHash w.params "_node2info", .str "_node2info" q.t1, .ref q.d⟩, ⟨PyData.keyHash w.params "_ready_nodes", .str "_ready_nodes" q.t2, q.rv⟩, ⟨PyData.keyHash w.params "_npassedout", .str "_npassedout" q.t3, .int q.po q.tp⟩, ⟨PyData.keyHash w.params "_nfinished", .str "_nfinished" q.t4, .int q.fi q.tf⟩] 4
noncomputable def kvsOf (es : List Ent) : List (Str × Value) := es.map fun e => (e.key, .ref e.a)

theorem valueAt_some {es : List Ent} {k : Str} {v : Value} (h : valueAt (kvsOf es) k = some v) : ∃ e ∈ es, e.key = k ∧ v = .ref e.a := by
  unfold valueAt kvsOf at h
  rw [List.find?_map] at h
  cases hq : es.find? ((fun kv : Str × Value => decide (kv.1 = k)) ∘ fun e => (e.key, .ref e.a)) with
  | none => rw [hq] at h; cases h
  | some e =>
    rw [hq] at h; cases h
    exact ⟨e, List.mem_of_find?_eq_some hq, by simpa using List.find?_some hq, rfl⟩
theorem valueAt_none {es : List Ent} {k : Str} (h : valueAt (kvsOf es) k = none) : ∀ e ∈ es, e.key ≠ k := by
  unfold valueAt kvsOf at h
  rw [List.find?_map] at h
  intro e he hk
  simp only [Option.map_eq_none_iff, List.find?_eq_none] at h
  exact h e he (by simpa using hk)
theorem ext_two {as : List Addr} {s h h' : Heap} {x dx : Addr} (he : Ext [x, dx] h h') (hext : Ext as s h) (hx0 : s.get? x = none) (hdx0 : s.get? dx = none) : Ext as s h' := fun b o nb e => he b o (fun hb => (List.mem_cons.mp hb).elim (fun q => by rw [q, hx0] at e; cases e) fun hb => (List.mem_cons.mp hb).elim (fun q => by rw [q, hdx0] at e; cases e) fun h => nomatch h) (hext b o nb e)
theorem new_info {n : Nat} {prog : Program} {w : World} {A : Around} {s : Shared} {h₀ : Heap} {L : Addr} {m : Str → Option Value} {R : Result → Shared → Prop}
   (C : Cx n w A h₀ L) (hn : n ≤ 40) (F : Fr h₀ L s.heap m) {k : Str} {t : Tok}
   (kk : ∀ (e : Ent) h' tk, e.key = k → e.np = 0 → e.ss = [] → s.heap.get? e.a = none → s.heap.get? e.da = none → s.heap.get? e.sa = none → [e.a, e.da, e.sa].Nodup → Ext [] s.heap h' → (∀ p ∈ e.led, h'.get? p.1 = some p.2) →
     R (.ok (.ret (.ref e.a))) { s with heap := h', toks := tk }) :
   codeAny (model prog w) A (.call (.ref 93) ⟨[.str k t], []⟩) R s := by
  have X := C.X
  refine' make_X (K := Mine.hd.heap_39 w.params) (fI := 89) F (C.X.keeps F.keep) ?a ?b ?c ?_
  case a => k_is
  case b => k_is
  case c => k_is
  intro x dx h' hlt hx0 hdx0 hext F' N'
  k_lt2 hlt
  refine' enter (binds := [("self", .ref x), ("node", .str k t)]) (C.make _ _) (le_lit (Nat.succ_le_succ hn) rfl) F' _ N' ?ho ?hcd ?hb ?hloc ?c1 ?c2 ?c3 ?c4 ?_
  ((case ho => k_is); (case hcd => k_is); (case hb => first | exact BindsTo.of_eq rfl | exact binds_K (by k_in) rfl (by k_is) rfl rfl rfl); (case hloc => exact locs rfl); (case c1 => rfl); (case c2 => rfl); (case c3 => rfl); (case c4 => decide))
  clear N'
  intro g L' h₁ hg C' F' N'
  refine C'.top_el fun pp loose mg mb T => ?_
  have X := C'.X
  refine hideQ fun K0 hK0 => ?_
  have n1 : x ≠ dx := Nat.ne_of_gt hlt
  have fin : ∀ (l' : Addr) nt h2 m2 tk2, x < l' → dx < l' → Fr g L' h2 m2 → News g L' h2 [(l', Ent.lst ⟨k, t, x, dx, l', 0, nt, [], 0⟩), (x, Ent.obj ⟨k, t, x, dx, l', 0, nt, [], 0⟩), (dx, dictOf [] 0)] → K0 .next ⟨h2, s.gens, s.drawn, tk2, s.os⟩ := by
    intro l' nt h2 m2 tk2 l1 l2 Fz Ny
    have n2 : x ≠ l' := Nat.ne_of_lt l1
    have n3 : dx ≠ l' := Nat.ne_of_lt l2
    have hl0 : s.heap.get? l' = none := by
      cases hq : s.heap.get? l' with
      | none => rfl
      | some o =>
        have h1 : h'.get? l' = some o := hext _ _ (fun h => nomatch h) hq
        have h2 : g.get? l' = some o := by
          rw [hg]
          refine hideAll_get _ h1 ?_
          simp [n2.symm, n3.symm]
        have h3 := (newsH Ny).2.2
        rw [h2] at h3; cases h3
    refine hK0 _ _ <| Done.intro Fz fun he => ⟨rfl, ?_⟩
    refine kk ⟨k, t, x, dx, l', 0, nt, [], 0⟩ _ _ rfl rfl rfl hx0 hdx0 hl0 ?_ (ext_two he hext hx0 hdx0) ?_
    · simp [n1, n2, n3]
    · exact memC (newsH (newsT Ny)).1 (memC (newsH (newsT (newsT Ny))).1 (memC (newsH Ny).1 memN))
  clear hK0 kk
  repeat' walk1
  rename Fr g L' _ _ => Fz
  rename News g L' _ _ => Nz
  rename_i l' _ l1 _
  dsimp only
  exact fin l' _ _ _ _ l1.1 l1.2 Fz Nz

noncomputable def Has (h : Heap) (l : List (Addr × Obj)) : Prop := ∀ p ∈ l, h.get? p.1 = some p.2
noncomputable def addrs (q : Hdr) (es : List Ent) : List Addr := q.x :: q.dx :: q.d :: es.flatMap fun e => [e.a, e.da, e.sa]
noncomputable def sled (w : World) (q : Hdr) (od : Obj) (es : List Ent) : List (Addr × Obj) := (q.x, instObj 190 q.dx) :: (q.dx, q.dict w) :: (q.d, od) :: es.flatMap Ent.led
theorem led_addrs (es : List Ent) : (es.flatMap Ent.led).map (·.1) = es.flatMap fun e => [e.a, e.da, e.sa] := by
  induction es with
  | nil => rfl
  | cons e es ih => simp [List.flatMap_cons, Ent.led, ih]
theorem sled_addrs (w : World) (q : Hdr) (od : Obj) (es : List Ent) : (sled w q od es).map (·.1) = addrs q es := by
  simp [sled, addrs, led_addrs]
structure SortSt (prog : Program) (w : World) (h : Heap) (q : Hdr) (es : List Ent) : Prop where
  od : ∃ od : Obj, od.IsDictOf (PySem.strKind prog w) (kvsOf es) ∧ Has h (sled w q od es)
  sys : (q.d == sysModules) = false
  nodup : (addrs q es).Nodup
theorem news_of {h₀ h : Heap} {L : Addr} {l : List (Addr × Obj)} (a : Has h l) (o : Own h₀ L (l.map (·.1))) : News h₀ L h l := fun p hp =>
  ⟨a p hp, (o _ (List.mem_map_of_mem hp)).2, (o _ (List.mem_map_of_mem hp)).1⟩
theorem has_of {h₀ h : Heap} {L : Addr} {l : List (Addr × Obj)} (N : News h₀ L h l) : Has h l := fun p hp => (N p hp).1
theorem own_new {h₀ h : Heap} {L a : Addr} {m : Str → Option Value} (F : Fr h₀ L h m) (e : h.get? a = none) : h₀.get? a = none ∧ a ≠ L := by
  constructor
  · cases q : h₀.get? a with
    | none => rfl
    | some o => rw [F.keep a o q] at e; cases e
  · rintro rfl
    obtain ⟨o, _, _, ho, _⟩ := F.ns
    rw [ho] at e; cases e
theorem stored_new {es : List Ent} {e : Ent} (h : ∀ x ∈ es, x.key ≠ e.key) : stored (kvsOf es) e.key (.ref e.a) = kvsOf (es ++ [e]) := by
  unfold stored
  have : (kvsOf es).any (fun kv => decide (kv.1 = e.key)) = false := by
    rw [List.any_eq_false]
    intro kv hkv
    obtain ⟨x, hx, rfl⟩ := List.mem_map.mp hkv
    simpa using h x hx
  rw [this]
  simp [kvsOf]

theorem fresh_of {g h : Heap} {as : List Addr} {a : Addr} (hg : g = hideAll h as) (ga : g.get? a = none) (na : a ∉ as) : h.get? a = none := by
  cases q : h.get? a with
  | none => rfl
  | some o => rw [hg, hideAll_get _ q na] at ga; cases ga
theorem addrs_snoc (q : Hdr) (es : List Ent) (e : Ent) : addrs q (es ++ [e]) = addrs q es ++ [e.a, e.da, e.sa] := by
  simp [addrs]
theorem get_info {n : Nat} {prog : Program} {w : World} {A : Around} {s : Shared} {h₀ : Heap} {L : Addr} {m : Str → Option Value} {R : Result → Shared → Prop}
   (C : Cx n w A h₀ L) (hn : n ≤ 30) (F : Fr h₀ L s.heap m) {q : Hdr} {es : List Ent} {k : Str} {t : Tok} (st : SortSt prog w s.heap q es) (own : Own h₀ L (addrs q es)) (hz : es.length ≤ 100)
   (k₁ : ∀ e h' tk, e ∈ es → e.key = k → Ext (addrs q es) s.heap h' → SortSt prog w h' q es → R (.ok (.ret (.ref e.a))) { s with heap := h', toks := tk })
   (k₂ : (∀ e ∈ es, e.key ≠ k) → ∀ e h' tk, e.key = k → e.np = 0 → e.ss = [] → s.heap.get? e.a = none → s.heap.get? e.da = none → s.heap.get? e.sa = none → Ext (addrs q es) s.heap h' → SortSt prog w h' q (es ++ [e]) → R (.ok (.ret (.ref e.a))) { s with heap := h', toks := tk }) :
   codeAny (model prog w) A (.call (.ref 133) ⟨[.ref q.x, .str k t], []⟩) R s := by
  obtain ⟨hd0, dp0, fr0, gd0, un0⟩ := A
  have hh0 : hd0 = none := C.handled
  subst hh0
  obtain ⟨⟨od, hod, hhas⟩, hsys, hnd⟩ := st
  have N := news_of hhas (by rw [sled_addrs]; exact own)
  have hnd' := hnd
  simp only [addrs, List.nodup_cons, List.mem_cons, not_or] at hnd'
  have hne1 := hnd'.1.1
  have hne2 := hnd'.1.2.1
  have hne3 := hnd'.2.1.1
  have hZ : ∀ a, a ∉ (es.flatMap fun e => [e.a, e.da, e.sa]) → ∀ p ∈ es.flatMap Ent.led, p.1 ≠ a := fun a ha p hp e => ha (by rw [← led_addrs, ← e]; exact List.mem_map_of_mem hp)
  have hZx := hZ _ hnd'.1.2.2
  have hZdx := hZ _ hnd'.2.1.2
  have hZd := hZ _ hnd'.2.2.1
  clear hnd'
  refine' enter (binds := [("self", .ref q.x), ("node", .str k t)]) C (le_lit hn rfl) F _ N ?ho ?hcd ?hb ?hloc ?c1 ?c2 ?c3 ?c4 ?_
  ((case ho => k_is); (case hcd => k_is); (case hb => first | exact BindsTo.of_eq rfl | exact binds_K (by k_in) rfl (by k_is) rfl rfl rfl); (case hloc => exact locs rfl); (case c1 => rfl); (case c2 => rfl); (case c3 => rfl); (case c4 => decide))
  intro g L' h₁ hg C' F' N'
  refine C'.top_el fun pp loose mg mb T => ?_
  have X := C'.X
  rw [sled_addrs] at hg
  simp only [sled_addrs]
  refine hideQ fun K0 hK0 => ?_
  unfold sled at N'
  clear hZ
  generalize hZe : es.flatMap Ent.led = Z at N' hZx hZdx hZd hK0
  iterate 14 walk1
  refine kdg_get1 N' (by k_mem) hod hsys (k := k) (by simp [PySem.strKind, Value.isStrOf]) (valueAt (kvsOf es) k) rfl ?_
  cases hva : valueAt (kvsOf es) k with
  | some v =>
    refine ex1_3 (valueAt_some hva) ?_
    intro e he hek hv
    dsimp only [Option.getD]
    rw [hv]
    repeat' walk1
    rename Fr g L' _ _ => Fz
    rename News g L' _ _ => Nz
    refine hK0 _ _ <| Done.intro Fz fun hex => k₁ e _ _ he hek hex ⟨⟨od, hod, ?_⟩, hsys, hnd⟩
    unfold sled
    rw [hZe]
    exact has_of Nz
  | none =>
    have hno := valueAt_none hva
    dsimp only [Option.getD]
    repeat' walk1
    rename Fr g L' _ _ => Fz
    rename News g L' _ _ => Nz
    refine wpAny_call (new_info C' (le_lit (Nat.succ_le_succ hn) rfl) Fz fun e h' tk he1 he2 he3 ha hda hsa hnd3 hex hled => ?_)
    have Fy := fr_ext Fz Own.nil hex
    have oa := own_new Fz ha
    have odd := own_new Fz hda
    have oss := own_new Fz hsa
    have off : ∀ p ∈ (q.x, instObj 190 q.dx) :: (q.dx, q.dict w) :: (q.d, od) :: Z, p.1 ≠ e.a ∧ p.1 ≠ e.da ∧ p.1 ≠ e.sa := fun p hp => by
      have h1 := (Nz p hp).1
      have no : ∀ {b : Addr}, Heap.get? _ b = none → p.1 ≠ b := fun hb q => by rw [q, hb] at h1; cases h1
      exact ⟨no ha, no hda, no hsa⟩
    have hsub : ∀ p ∈ (q.x, instObj 190 q.dx) :: (q.dx, q.dict w) :: (q.d, od) :: Z, h'.get? p.1 = some p.2 ∧ p.1 ≠ L' ∧ g.get? p.1 = none := fun p hp => ⟨hex _ _ (by simp) (Nz p hp).1, (Nz p hp).2⟩
    have Ny : News g L' h' ((q.x, instObj 190 q.dx) :: (q.dx, q.dict w) :: (q.d, od) :: (e.a, e.obj) :: (e.da, dictOf [] 0) :: (e.sa, e.lst) :: Z) := by
      exact newsC (hsub _ (.head _)) (newsC (hsub _ (.tail _ (.head _))) (newsC (hsub _ (.tail _ (.tail _ (.head _)))) (newsC ⟨hled _ (.head _), oa.2, oa.1⟩ (newsC ⟨hled _ (.tail _ (.head _)), odd.2, odd.1⟩ (newsC ⟨hled _ (.tail _ (.tail _ (.head _))), oss.2, oss.1⟩ fun p hp => hsub _ (.tail _ (.tail _ (.tail _ hp))))))))
    have offd := off _ (.tail _ (.tail _ (.head _)))
    have od_a : q.d ≠ e.a := offd.1
    have od_da : q.d ≠ e.da := offd.2.1
    have od_sa : q.d ≠ e.sa := offd.2.2
    replace od_a := neN od_a
    replace od_da := neN od_da
    replace od_sa := neN od_sa
    have nn2 := neN hne2
    have nn3 := neN hne3
    clear Nz Fz
    dsimp only
    repeat' walk1
    rename Fr g L' _ _ => Fz
    rename News g L' _ _ => Nz
    refine' kda_set Fz Nz ?U hod (k := k) ?hk ?hsz ?_
    case U => k_updF
    case hk => simp [PySem.strKind, Value.isStrOf]
    case hsz => rw [sizeLine_eq]; simp [kvsOf]; omega
    intro h2 od' Fw Nw hod'
    clear Nz Fz
    repeat' walk1
    rename Fr g L' _ _ => Fu
    rename News g L' _ _ => Nu
    rw [← he1, stored_new (fun x hx => he1 ▸ hno x hx)] at hod'
    have hmem : ∀ a ∈ addrs q es, a ≠ e.a ∧ a ≠ e.da ∧ a ≠ e.sa := by
      intro a ha'
      rw [← sled_addrs w q od es] at ha'
      unfold sled at ha'
      rw [hZe] at ha'
      exact (List.mem_map.mp ha').elim fun p hp => hp.2 ▸ off p hp.1
    refine hK0 _ _ <| Done.intro Fu fun hex2 => k₂ hno e _ _ he1 he2 he3 (fresh_of hg oa.1 fun hm => (hmem _ hm).1 rfl) (fresh_of hg odd.1 fun hm => (hmem _ hm).2.1 rfl) (fresh_of hg oss.1 fun hm => (hmem _ hm).2.2 rfl) hex2 ⟨⟨od', hod', ?_⟩, hsys, ?_⟩
    · unfold sled
      rw [List.flatMap_append, hZe]
      exact memC (newsH Nu).1 (memC (newsH (newsT Nu)).1 (memC (newsH (newsT (newsT Nu))).1 (memA (fun p hp => (Nu _ (.tail _ (.tail _ (.tail _ (.tail _ (.tail _ (.tail _ hp))))))).1) (memC (newsH (newsT (newsT (newsT Nu)))).1 (memC (newsH (newsT (newsT (newsT (newsT Nu))))).1 (memC (newsH (newsT (newsT (newsT (newsT (newsT Nu)))))).1 memN))))))
    · rw [addrs_snoc, List.nodup_append]
      refine ⟨hnd, hnd3, fun a ha' b hb' e' => ?_⟩
      subst e'
      have := hmem a ha'
      simp only [List.mem_cons, List.not_mem_nil, or_false] at hb'
      rcases hb' with rfl | rfl | rfl
      · exact this.1 rfl
      · exact this.2.1 rfl
      · exact this.2.2 rfl

noncomputable abbrev Gr := List (Str × Int × List Str)
noncomputable def Ent.view (e : Ent) : Str × Int × List Str := (e.key, e.np, e.ss.map (·.1))
noncomputable def viewOf (es : List Ent) : Gr := es.map Ent.view
noncomputable def touch (k : Str) (G : Gr) : Gr := if G.any (fun x => decide (x.1 = k)) then G else G ++ [(k, 0, [])]
theorem touch_in {es : List Ent} {e : Ent} (h : e ∈ es) : touch e.key (viewOf es) = viewOf es := by
  unfold touch
  rw [if_pos]
  rw [List.any_eq_true]
  exact ⟨e.view, List.mem_map_of_mem h, by simp [Ent.view]⟩
theorem touch_new {es : List Ent} {k : Str} (h : ∀ e ∈ es, e.key ≠ k) : touch k (viewOf es) = viewOf es ++ [(k, 0, [])] := by
  unfold touch
  rw [if_neg]
  rw [Bool.not_eq_true, List.any_eq_false]
  intro x hx
  obtain ⟨e, he, rfl⟩ := List.mem_map.mp hx
  have := h e he
  simp [Ent.view, this]
theorem info_call {n : Nat} {prog : Program} {w : World} {A : Around} {s : Shared} {h₀ : Heap} {L : Addr} {m : Str → Option Value} {R : Result → Shared → Prop}
   (C : Cx n w A h₀ L) (hn : n ≤ 30) (F : Fr h₀ L s.heap m) {q : Hdr} {es : List Ent} {k : Str} {t : Tok} (st : SortSt prog w s.heap q es) (own : Own h₀ L (addrs q es)) (hz : es.length ≤ 100)
   (kk : ∀ es' pre e post h' tk, es' = pre ++ e :: post → e.key = k → viewOf es' = touch k (viewOf es) → Ext (addrs q es) s.heap h' → SortSt prog w h' q es' → Own h₀ L (addrs q es') → (∀ a ∈ addrs q es', a ∈ addrs q es ∨ s.heap.get? a = none) →
     R (.ok (.ret (.ref e.a))) { s with heap := h', toks := tk }) :
   codeAny (model prog w) A (.call (.ref 133) ⟨[.ref q.x, .str k t], []⟩) R s := by
  refine get_info C hn F st own hz (fun e h' tk he hk hx st' => ?_) (fun hno e h' tk hk hnp hss ha hda hsa hx st' => ?_)
  · obtain ⟨pre, post, rfl⟩ := List.append_of_mem he
    subst hk
    exact kk _ pre e post h' tk rfl rfl (touch_in he).symm hx st' own fun a h => .inl h
  · subst hk
    refine kk _ es e [] h' tk rfl rfl ?_ hx st' ?_ ?_
    · rw [touch_new hno]; simp [viewOf, Ent.view, hnp, hss]
    · intro a hm
      rw [addrs_snoc, List.mem_append] at hm
      rcases hm with hm | hm
      · exact own a hm
      · simp only [List.mem_cons, List.not_mem_nil, or_false] at hm
        rcases hm with rfl | rfl | rfl
        · exact own_new F ha
        · exact own_new F hda
        · exact own_new F hsa
    · intro a hm
      rw [addrs_snoc, List.mem_append] at hm
      rcases hm with hm | hm
      · exact .inl hm
      · simp only [List.mem_cons, List.not_mem_nil, or_false] at hm
        rcases hm with rfl | rfl | rfl
        · exact .inr ha
        · exact .inr hda
        · exact .inr hsa
end Mine
end

section
open PySem PySem.W PyProof.Rows PySem.Calls
namespace Mine
section
variable {q : Hdr} {es pre post : List Ent} {e : Ent} {w : World} {od : Obj}
theorem addrs_x : q.x ∈ addrs q es := .head _
theorem addrs_dx : q.dx ∈ addrs q es := .tail _ (.head _)
theorem addrs_d : q.d ∈ addrs q es := .tail _ (.tail _ (.head _))
theorem addrs_a (he : e ∈ es) : e.a ∈ addrs q es := .tail _ (.tail _ (.tail _ (List.mem_flatMap.mpr ⟨e, he, .head _⟩)))
theorem addrs_da (he : e ∈ es) : e.da ∈ addrs q es := .tail _ (.tail _ (.tail _ (List.mem_flatMap.mpr ⟨e, he, .tail _ (.head _)⟩)))
theorem addrs_sa (he : e ∈ es) : e.sa ∈ addrs q es := .tail _ (.tail _ (.tail _ (List.mem_flatMap.mpr ⟨e, he, .tail _ (.tail _ (.head _))⟩)))
theorem sled_x : (q.x, instObj 190 q.dx) ∈ sled w q od es := .head _
theorem sled_dx : (q.dx, q.dict w) ∈ sled w q od es := .tail _ (.head _)
theorem sled_d : (q.d, od) ∈ sled w q od es := .tail _ (.tail _ (.head _))
theorem sled_led {p : Addr × Obj} (he : e ∈ es) (hp : p ∈ e.led) : p ∈ sled w q od es := .tail _ (.tail _ (.tail _ (List.mem_flatMap.mpr ⟨e, he, hp⟩)))
theorem sled_a (he : e ∈ es) : (e.a, e.obj) ∈ sled w q od es := sled_led he (by simp [Ent.led])
theorem sled_da (he : e ∈ es) : (e.da, dictOf [] 0) ∈ sled w q od es := sled_led he (by simp [Ent.led])
theorem sled_sa (he : e ∈ es) : (e.sa, e.lst) ∈ sled w q od es := sled_led he (by simp [Ent.led])
theorem sled_at {p : Addr × Obj} (hp : p ∈ sled w q od es) : p.1 ∈ addrs q es := by rw [← sled_addrs w q od]; exact List.mem_map_of_mem hp
theorem sled_has {a : Addr} (w : World) (od : Obj) (h : a ∈ addrs q es) : ∃ p ∈ sled w q od es, p.1 = a := by rw [← sled_addrs w q od] at h; exact List.mem_map.mp h
theorem sled_rest {p : Addr × Obj} (hes : es = pre ++ e :: post) (hp : p ∈ (pre ++ post).flatMap Ent.led) : p ∈ sled w q od es := by
  subst hes; unfold sled
  simp only [List.flatMap_append, List.flatMap_cons, List.mem_append, List.mem_cons] at hp ⊢
  rcases hp with hp | hp <;> simp [hp]
theorem nx {a b : Addr} {l : List Addr} (h : a ∉ l) (hb : b ∈ l) : @Ne Nat a b := fun e => h (e ▸ hb)
theorem val_at (he : e ∈ es) (hn : (es.map (·.key)).Nodup) {k : Str} (hk : e.key = k) : valueAt (kvsOf es) k = some (.ref e.a) := by
  have h1 : (kvsOf es).map (·.1) = es.map (·.key) := by simp [kvsOf]
  obtain ⟨pre, post, hes⟩ := List.append_of_mem he
  rw [← hk]
  refine valueAt_of_get (by rw [h1]; exact hn) (i := pre.length) ?_
  subst hes
  simp [kvsOf]
theorem addrs_np {c : Int} {t : Tok} (hes : es = pre ++ e :: post) : addrs q (pre ++ { e with np := c, nt := t } :: post) = addrs q es := by subst hes; simp [addrs]
theorem addrs_off (h : (addrs q es).Nodup) : (∀ p ∈ es.flatMap Ent.led, p.1 ≠ q.dx) ∧ @Ne Nat q.dx q.x ∧ @Ne Nat q.dx q.d := by
  unfold addrs at h
  simp only [List.nodup_cons, List.mem_cons, not_or] at h
  refine ⟨fun p hp e => ?_, fun e => h.1.1 e.symm, h.2.1.1⟩
  have h1 : q.dx ∈ (es.flatMap Ent.led).map (·.1) := e ▸ List.mem_map_of_mem hp
  rw [led_addrs] at h1
  exact h.2.1.2 h1
theorem addrs_ss {s : List (Str × Tok)} {ep : Nat} (hes : es = pre ++ e :: post) : addrs q (pre ++ { e with ss := s, ep := ep } :: post) = addrs q es := by subst hes; simp [addrs]
theorem kvs_np {c : Int} {t : Tok} (hes : es = pre ++ e :: post) : kvsOf (pre ++ { e with np := c, nt := t } :: post) = kvsOf es := by subst hes; simp [kvsOf]
theorem kvs_ss {s : List (Str × Tok)} {ep : Nat} (hes : es = pre ++ e :: post) : kvsOf (pre ++ { e with ss := s, ep := ep } :: post) = kvsOf es := by subst hes; simp [kvsOf]
theorem own_led {g h : Heap} {L : Addr} (N : News g L h (sled w q od es)) : Own g L (addrs q es) := fun a ha => by
  rw [← sled_addrs w q od es] at ha
  obtain ⟨p, hp, rfl⟩ := List.mem_map.mp ha
  exact ⟨(N p hp).2.2, (N p hp).2.1⟩
theorem it_off {it : Addr} (hap : ∀ p ∈ sled w q od es, p.1 ≠ it) : it ∉ addrs q es := fun hm => (sled_has w od hm).elim fun p hp => hap p hp.1 hp.2
theorem apC {I a : Addr} {o : Obj} {l : List (Addr × Obj)} (h : a ≠ I) (t : ∀ p ∈ l, p.1 ≠ I) : ∀ p ∈ (a, o) :: l, p.1 ≠ I := fun p hp => (List.mem_cons.mp hp).elim (fun e => e ▸ h) (t p)
theorem apS {I : Addr} (h : ∀ a ∈ addrs q es, a ≠ I) : ∀ p ∈ sled w q od es, p.1 ≠ I := fun _ hp => h _ (sled_at hp)
theorem apR {I : Addr} (hap : ∀ p ∈ sled w q od es, p.1 ≠ I) : ∀ a ∈ addrs q es, a ≠ I := fun _ ha => (sled_has w od ha).elim fun p hp => hp.2 ▸ hap p hp.1
theorem str_at {rs : List (Str × Tok)} {i : Nat} {v : Value} (hv : (strValues rs)[i]? = some v) : ∃ h : i < rs.length, v = .str rs[i].1 rs[i].2 := by
  have h : i < rs.length := by
    have := (List.getElem?_eq_some_iff.mp hv).1
    simpa [strValues] using this
  refine ⟨h, ?_⟩
  have : (strValues rs)[i]? = some (.str rs[i].1 rs[i].2) := by simp [strValues, h]
  rw [this] at hv; exact (Option.some.inj hv).symm
theorem str_len (rs : List (Str × Tok)) : (strValues rs).length = rs.length := by simp [strValues]
theorem led_mid {p : Addr × Obj} (hp : p ∈ (pre ++ e :: post).flatMap Ent.led) : p ∈ e.led ∨ p ∈ (pre ++ post).flatMap Ent.led := by
  rw [List.flatMap_append, List.flatMap_cons] at hp
  rw [List.flatMap_append]
  exact (List.mem_append.mp hp).elim (fun h => .inr (List.mem_append_left _ h)) fun h => (List.mem_append.mp h).elim .inl fun h => .inr (List.mem_append_right _ h)
theorem sled_mid {P : Addr × Obj → Prop} (H : ∀ p ∈ (e.a, e.obj) :: (e.sa, e.lst) :: (e.da, dictOf [] 0) :: (q.x, instObj 190 q.dx) :: (q.dx, q.dict w) :: (q.d, od) :: (pre ++ post).flatMap Ent.led, P p) : ∀ p ∈ sled w q od (pre ++ e :: post), P p :=
  memC (H _ (.tail _ (.tail _ (.tail _ (.head _))))) (memC (H _ (.tail _ (.tail _ (.tail _ (.tail _ (.head _)))))) (memC (H _ (.tail _ (.tail _ (.tail _ (.tail _ (.tail _ (.head _))))))) fun p hp => (led_mid hp).elim
    (fun h => H p (by simp only [Ent.led, List.mem_cons, List.not_mem_nil, or_false] at h ⊢; rcases h with h | h | h <;> simp [h])) fun h => H p (.tail _ (.tail _ (.tail _ (.tail _ (.tail _ (.tail _ h))))))))
theorem split_mid {es : List Ent} {P : Addr × Obj → Prop} (hes : es = pre ++ e :: post) (N : ∀ p ∈ sled w q od es, P p) : ∀ p ∈ (e.a, e.obj) :: (e.sa, e.lst) :: (e.da, dictOf [] 0) :: (q.x, instObj 190 q.dx) :: (q.dx, q.dict w) :: (q.d, od) :: (pre ++ post).flatMap Ent.led, P p :=
  have he : e ∈ es := hes ▸ List.mem_append_right _ (.head _)
  memC (N _ (sled_a he)) (memC (N _ (sled_sa he)) (memC (N _ (sled_da he)) (memC (N _ sled_x) (memC (N _ sled_dx) (memC (N _ sled_d) fun p hp => N p (sled_rest hes hp))))))
theorem in_mid {es pre post : List Ent} {e : Ent} (hes : es = pre ++ e :: post) : e ∈ es := hes ▸ List.mem_append_right _ (.head _)
theorem len_mid {es pre post : List Ent} {e e' : Ent} (hes : es = pre ++ e :: post) : (pre ++ e' :: post).length = es.length := by subst hes; simp
end
end Mine
end

section
open PySem PySem.W PyProof.Rows PySem.Calls
set_option maxHeartbeats 4000000
namespace Mine
theorem split_news {g h : Heap} {L : Addr} {w : World} {q : Hdr} {od : Obj} {es pre post : List Ent} {e : Ent} (hes : es = pre ++ e :: post) (N : News g L h (sled w q od es)) :
    News g L h ((e.a, e.obj) :: (e.sa, e.lst) :: (e.da, dictOf [] 0) :: (q.x, instObj 190 q.dx) :: (q.dx, q.dict w) :: (q.d, od) :: (pre ++ post).flatMap Ent.led) := by
  exact split_mid hes N
theorem split_apart {q : Hdr} {es pre post : List Ent} {e : Ent} (hes : es = pre ++ e :: post) (hn : (addrs q es).Nodup) :
    (@Ne Nat e.a e.sa) ∧ (@Ne Nat e.a e.da) ∧ (@Ne Nat e.sa e.da) ∧ (@Ne Nat e.a q.x ∧ @Ne Nat e.a q.dx ∧ @Ne Nat e.a q.d) ∧ (@Ne Nat e.sa q.x ∧ @Ne Nat e.sa q.dx ∧ @Ne Nat e.sa q.d) ∧ (@Ne Nat q.x q.dx ∧ @Ne Nat q.x q.d ∧ @Ne Nat q.dx q.d) ∧
      (∀ p ∈ (pre ++ post).flatMap Ent.led, p.1 ≠ e.a) ∧ (∀ p ∈ (pre ++ post).flatMap Ent.led, p.1 ≠ e.sa) := by
  subst hes
  have hperm : (addrs q (pre ++ e :: post)).Perm (e.a :: e.da :: e.sa :: q.x :: q.dx :: q.d :: (pre ++ post).flatMap fun e => [e.a, e.da, e.sa]) := by
    have h1 : (pre ++ e :: post).Perm (e :: (pre ++ post)) := List.perm_middle
    have h2 := h1.flatMap_right (f := fun e : Ent => [e.a, e.da, e.sa])
    have h3 : (addrs q (pre ++ e :: post)).Perm (([q.x, q.dx, q.d] : List Addr) ++ ([e.a, e.da, e.sa] ++ (pre ++ post).flatMap fun e => [e.a, e.da, e.sa])) := by
      show ([q.x, q.dx, q.d] ++ (pre ++ e :: post).flatMap fun e => [e.a, e.da, e.sa]).Perm _
      exact List.Perm.append_left _ h2
    refine h3.trans ?_
    rw [← List.append_assoc]
    refine (List.Perm.append_right _ List.perm_append_comm).trans ?_
    exact List.Perm.refl _
  have hn' := hperm.nodup_iff.mp hn
  simp only [List.nodup_cons, List.mem_cons, not_or] at hn'
  refine ⟨hn'.1.2.1, hn'.1.1, fun h => hn'.2.1.1 h.symm, ⟨hn'.1.2.2.1, hn'.1.2.2.2.1, hn'.1.2.2.2.2.1⟩, ⟨hn'.2.2.1.1, hn'.2.2.1.2.1, hn'.2.2.1.2.2.1⟩, ⟨hn'.2.2.2.1.1, hn'.2.2.2.1.2.1, hn'.2.2.2.2.1.1⟩, fun p hp h => hn'.1.2.2.2.2.2 ?_, fun p hp h => hn'.2.2.1.2.2.2 ?_⟩
  · rw [← led_addrs, ← h]; exact List.mem_map_of_mem hp
  · rw [← led_addrs, ← h]; exact List.mem_map_of_mem hp
theorem sled_back {h : Heap} {w : World} {q : Hdr} {od : Obj} {pre post : List Ent} {e : Ent} (H : Has h ((e.a, e.obj) :: (e.sa, e.lst) :: (e.da, dictOf [] 0) :: (q.x, instObj 190 q.dx) :: (q.dx, q.dict w) :: (q.d, od) :: (pre ++ post).flatMap Ent.led)) :
    Has h (sled w q od (pre ++ e :: post)) := by
  exact sled_mid H
noncomputable def bump (k : Str) (c : Int) (G : Gr) : Gr := G.map fun x => if x.1 = k then (x.1, x.2.1 + c, x.2.2) else x
noncomputable def succs (p k : Str) (G : Gr) : Gr := G.map fun x => if x.1 = p then (x.1, x.2.1, x.2.2 ++ [k]) else x
noncomputable def edge (k : Str) (G : Gr) (p : Str) : Gr := succs p k (touch p G)
noncomputable def addG (k : Str) (ps : List Str) (G : Gr) : Gr := ps.foldl (edge k) (bump k ps.length (touch k G))
theorem keys_nodup {prog : Program} {w : World} {h : Heap} {q : Hdr} {es : List Ent} (st : SortSt prog w h q es) : (es.map (·.key)).Nodup := by
  obtain ⟨od, hod, _⟩ := st.od
  have := keysNodup_of_isDictOf hod
  rw [kvsOf, List.map_map] at this
  exact this
theorem view_upd {es pre post : List Ent} {e e' : Ent} (hes : es = pre ++ e :: post) (hn : (es.map (·.key)).Nodup) (f : Str × Int × List Str → Str × Int × List Str) (hf : e'.view = f e.view) :
    viewOf (pre ++ e' :: post) = (viewOf es).map fun x => if x.1 = e.key then f x else x := by
  subst hes
  have off : ∀ x ∈ pre ++ post, x.key ≠ e.key := by
    have hp : ((pre ++ e :: post).map (·.key)).Perm ((e :: (pre ++ post)).map (·.key)) := List.perm_middle.map _
    have := hp.nodup_iff.mp hn
    rw [List.map_cons, List.nodup_cons] at this
    intro x hx h
    exact this.1 (h ▸ List.mem_map_of_mem hx)
  have one : ∀ l : List Ent, (∀ x ∈ l, x.key ≠ e.key) → (viewOf l).map (fun x => if x.1 = e.key then f x else x) = viewOf l := by
    intro l hl
    unfold viewOf
    rw [List.map_map]
    refine List.map_congr_left fun x hx => ?_
    have hne : x.view.1 ≠ e.key := hl x hx
    simp only [Function.comp]
    rw [if_neg hne]
  have e1 := one pre fun x hx => off x (List.mem_append_left _ hx)
  have e2 := one post fun x hx => off x (List.mem_append_right _ hx)
  simp only [viewOf, List.map_append, List.map_cons] at e1 e2 ⊢
  rw [e1, e2, hf]
  simp [Ent.view]

noncomputable def Bd (n : Nat) (G : Gr) : Prop := ∀ y ∈ G, y.2.2.length ≤ n
theorem Bd.touch {n : Nat} {G : Gr} {k : Str} (h : Bd n G) : Bd n (touch k G) := by
  unfold Mine.touch
  split
  · exact h
  · intro y hy
    rcases List.mem_append.mp hy with hy | hy
    · exact h y hy
    · rw [List.mem_singleton.mp hy]; exact Nat.zero_le _
theorem Bd.bump {n : Nat} {G : Gr} {k : Str} {c : Int} (h : Bd n G) : Bd n (bump k c G) := by
  intro y hy
  obtain ⟨z, hz, rfl⟩ := List.mem_map.mp hy
  have := h z hz
  split <;> exact this
theorem add_call {n : Nat} {prog : Program} {w : World} {A : Around} {s : Shared} {h₀ : Heap} {L : Addr} {m : Str → Option Value} {R : Result → Shared → Prop}
   (C : Cx n w A h₀ L) (hn : n ≤ 20) (F : Fr h₀ L s.heap m) {q : Hdr} {es : List Ent} {k : Str} {t : Tok} (ps : List (Str × Tok)) (hps : ps = [] ∨ ∃ p, ps = [p]) (st : SortSt prog w s.heap q es) (own : Own h₀ L (addrs q es)) (hz : es.length ≤ 90) (hzs : Bd 1000 (viewOf es)) (hrv : q.rv = .none)
   (kk : ∀ es' h' tk, viewOf es' = addG k (ps.map (·.1)) (viewOf es) → Ext (addrs q es) s.heap h' → SortSt prog w h' q es' → Own h₀ L (addrs q es') → (∀ a ∈ addrs q es', a ∈ addrs q es ∨ s.heap.get? a = none) →
     R (.ok (.ret .none)) { s with heap := h', toks := tk }) :
   codeAny (model prog w) A (.call (.ref 140) ⟨.ref q.x :: .str k t :: strValues ps, []⟩) R s := by
  obtain ⟨hd0, dp0, fr0, gd0, un0⟩ := A
  have hh0 : hd0 = none := C.handled
  subst hh0
  obtain ⟨x, dx, d, t1, t2, t3, t4, rv, po, tp, fi, tf⟩ := q
  dsimp only at hrv
  subst hrv
  obtain ⟨od, hod, hhas⟩ := st.od
  have N := news_of hhas (by rw [sled_addrs]; exact own)
  refine' enterV (vs := strValues ps) (binds := fun D => [("self", .ref x), ("node", .str k t), ("predecessors", .ref D)]) C (le_lit hn rfl) F _ N ?ho ?hcd ?hb ?hloc ?c1 ?c2 ?c3 ?c4 ?_
  case ho => k_is
  case hcd => k_is
  case hb => rcases hps with rfl | ⟨p, rfl⟩ <;> exact fun _ _ _ h _ _ _ => h
  case hloc => exact fun _ => locs rfl
  case c1 => rfl
  case c2 => rfl
  case c3 => rfl
  case c4 => decide
  intro D g L' h₁ hg hD hT C' F' N'
  refine C'.top_el fun pp loose mg mb T => ?_
  have X := C'.X
  rw [sled_addrs] at hg
  simp only [sled_addrs]
  have own1 : Own g L' (addrs ⟨x, dx, d, t1, t2, t3, t4, .none, po, tp, fi, tf⟩ es) := own_led N'
  refine hideQ fun K0 hK0 => ?_
  have st1 : SortSt prog w h₁ ⟨x, dx, d, t1, t2, t3, t4, .none, po, tp, fi, tf⟩ es := ⟨⟨od, hod, has_of N'⟩, st.sys, st.nodup⟩
  unfold sled at N'
  dsimp only at N'
  repeat' walk1
  refine wpAny_call (info_call (q := ⟨x, dx, d, t1, t2, t3, t4, .none, po, tp, fi, tf⟩) C' (le_lit (Nat.succ_le_succ hn) rfl) F' st1 own1 (by omega) fun es' pre e post h' tk hes hek hview hex st2 own2 hin => ?_)
  have F2 := fr_ext F' own1 hex
  refine ex1_2 st2.od ?_
  intro od2 hod2 hhas2
  have N2 := split_news hes (news_of hhas2 (by rw [sled_addrs]; exact own2))
  have ap := split_apart hes st2.nodup
  dsimp only at N2 ap
  refine ex0_8 ap ?_; clear ap
  intro ap1 ap2 ap3 ap4 ap5 ap6 ap7 ap8
  have ap41 := ap4.1
  have ap42 := ap4.2.1
  have ap43 := ap4.2.2
  have ap51 := ap5.1
  have ap52 := ap5.2.1
  have ap53 := ap5.2.2
  have ap61 := ap6.1
  have ap62 := ap6.2.1
  have ap63 := ap6.2.2
  have hT2 := hT.keeps F2.keep
  have hlen : (strValues ps).length ≤ 1 := by rw [str_len]; exact hps.elim (fun e => e ▸ Nat.zero_le _) fun ⟨_, e⟩ => e ▸ Nat.le_refl _
  dsimp only
  generalize hZe : (pre ++ post).flatMap Ent.led = Z at N2 ap7 ap8
  repeat' walk1
  rename Fr g L' _ _ => F3
  refine len_tuple (hT.keeps F3.keep) (by rw [List.size_toArray]; omega) ?_
  repeat' walk1
  rename Fr g L' _ _ => F3
  rename News g L' _ _ => N3
  refine ex1_1 (⟨_, N3⟩ : ∃ nt, News g L' _ ((e.a, Ent.obj { e with np := e.np + (strValues ps).toArray.size, nt := nt }) :: (e.sa, Ent.lst { e with np := e.np + (strValues ps).toArray.size, nt := nt }) :: (e.da, dictOf [] 0) :: (x, instObj 190 dx) :: (dx, Hdr.dict w ⟨x, dx, d, t1, t2, t3, t4, .none, po, tp, fi, tf⟩) :: (d, od2) :: Z)) ?_
  clear N3
  intro nt N4
  rw [← hZe] at N4
  have hes1 : addrs ⟨x, dx, d, t1, t2, t3, t4, .none, po, tp, fi, tf⟩ (pre ++ { e with np := e.np + (strValues ps).toArray.size, nt := nt } :: post) = addrs ⟨x, dx, d, t1, t2, t3, t4, .none, po, tp, fi, tf⟩ es' := addrs_np hes
  have hview1 : viewOf (pre ++ { e with np := e.np + (strValues ps).toArray.size, nt := nt } :: post) = bump k (ps.map (·.1)).length (touch k (viewOf es)) := by
    rw [view_upd hes (keys_nodup st2) (fun y => (y.1, y.2.1 + (strValues ps).toArray.size, y.2.2)) rfl, hview, hek]
    simp [bump, strValues]
  have hkv : kvsOf (pre ++ { e with np := e.np + (strValues ps).toArray.size, nt := nt } :: post) = kvsOf es' := kvs_np hes
  have H4 := sled_back (w := w) (q := ⟨x, dx, d, t1, t2, t3, t4, .none, po, tp, fi, tf⟩) (od := od2) (pre := pre) (post := post) (e := { e with np := e.np + (strValues ps).toArray.size, nt := nt }) (has_of N4)
  have N5 := news_of (h₀ := g) (L := L') H4 (by rw [sled_addrs, hes1]; exact own2)
  clear N4
  refine wpAny_For ?_
  walk1
  refine iter_tup (L := L') (vs := strValues ps) (fun i m₁ news₁ => ∃ esi odi, news₁ = sled w ⟨x, dx, d, t1, t2, t3, t4, .none, po, tp, fi, tf⟩ odi esi ∧ odi.IsDictOf (PySem.strKind prog w) (kvsOf esi) ∧ (addrs ⟨x, dx, d, t1, t2, t3, t4, .none, po, tp, fi, tf⟩ esi).Nodup ∧
      viewOf esi = ((ps.take i).map (·.1)).foldl (edge k) (bump k (ps.map (·.1)).length (touch k (viewOf es))) ∧ esi.length ≤ es.length + 1 + i ∧ Vars m₁ [("self", .ref x), ("node", .str k t), ("predecessors", .ref D)]) rfl rfl F3 N5 ?hl ?hj ?turn ?done
  case hl => exact fun h i m₁ news₁ _ F₁ _ => hT.keeps F₁.keep
  case hj =>
    refine ⟨_, od2, rfl, by rw [hkv]; exact hod2, by rw [hes1]; exact st2.nodup, hview1, ?_, ⟨rfl, rfl, rfl, trivial⟩⟩
    have h1 := congrArg List.length hview
    have h2 : (touch k (viewOf es)).length ≤ (viewOf es).length + 1 := by unfold touch; split <;> simp
    rw [len_mid hes]
    simp only [viewOf, List.length_map] at h1 h2
    omega
  case done =>
    intro m₁ news₁ h6 tk6 hJ F6 N6
    refine ex2_6 hJ ?_; clear hJ
    intro esi odi hn hodi hndi hvi _ _
    replace N6 := newsE hn N6
    clear hn news₁
    dsimp only
    repeat' walk1
    have hg6 : ∀ a ∈ addrs ⟨x, dx, d, t1, t2, t3, t4, .none, po, tp, fi, tf⟩ esi, a ∈ addrs ⟨x, dx, d, t1, t2, t3, t4, .none, po, tp, fi, tf⟩ es ∨ s.heap.get? a = none := by
      intro a ha
      by_cases hm : a ∈ addrs ⟨x, dx, d, t1, t2, t3, t4, .none, po, tp, fi, tf⟩ es
      · exact .inl hm
      · have h1 := fresh_of hg (own_led N6 a ha).1 hm
        refine .inr ?_
        cases hq : s.heap.get? a with
        | none => rfl
        | some o => rw [Heap.get?_push_of_some _ hq] at h1; cases h1
    refine hK0 _ _ <| Done.intro F6 fun hex6 => kk esi h6 tk6 ?_ hex6 ⟨⟨odi, hodi, has_of N6⟩, st.sys, hndi⟩ (fun a ha => ?_) hg6
    · rw [hvi]
      rw [str_len, List.take_length]; rfl
    · exact (hg6 a ha).elim (own a) (own_new F)
  case turn =>
    intro i v m₁ news₁ h6 tk6 it o hit hv hJ hap F6 N6
    refine hideT fun K1 hK1 => ?_
    refine ex2_6 hJ ?_; clear hJ
    intro esi odi hn hodi hndi hvi hlen6 hV
    replace N6 := newsE1 hn N6
    replace hap := apE hn hap
    clear hn news₁
    refine (str_at hv).elim fun hil hve => asgE hve ?_
    clear hve hv
    have hil2 : ps.length ≤ 1 := str_len ps ▸ hlen
    have F7 := frs F6 hV
    clear F6
    have hita := it_off hap
    unfold sled at N6
    dsimp only at N6
    dsimp only
    generalize hZ6 : esi.flatMap Ent.led = Z6 at N6
    repeat' walk1
    rename Fr g L' _ _ => F8
    rename News g L' _ _ => N8
    have N8' : News g L' _ (sled w ⟨x, dx, d, t1, t2, t3, t4, .none, po, tp, fi, tf⟩ odi esi) := fun p hp => N8 p (.tail _ (by unfold sled at hp; rw [hZ6] at hp; exact hp))
    have own8 : Own g L' (addrs ⟨x, dx, d, t1, t2, t3, t4, .none, po, tp, fi, tf⟩ esi) := own_led N8'
    refine wpAny_call (info_call (q := ⟨x, dx, d, t1, t2, t3, t4, .none, po, tp, fi, tf⟩) C' (le_lit (Nat.succ_le_succ hn) rfl) F8 ⟨⟨odi, hodi, has_of N8'⟩, st.sys, hndi⟩ own8 (by omega) fun es9 pre9 e9 post9 h9 tk9 hes9 hek9 hview9 hex9 st9 own9 hin9 => ?_)
    have F9 := fr_ext F8 own8 hex9
    refine ex1_2 st9.od ?_
    intro od9 hod9 hhas9
    have N9 := split_news hes9 (news_of hhas9 (by rw [sled_addrs]; exact own9))
    have ap9 := split_apart hes9 st9.nodup
    dsimp only at N9 ap9
    refine ex0_8 ap9 ?_; clear ap9
    intro bp1 bp2 bp3 bp4 bp5 bp6 bp7 bp8
    have bp41 := bp4.1
    have bp42 := bp4.2.1
    have bp43 := bp4.2.2
    have bp51 := bp5.1
    have bp52 := bp5.2.1
    have bp53 := bp5.2.2
    have bp61 := bp6.1
    have bp62 := bp6.2.1
    have bp63 := bp6.2.2
    have hitn : ∀ a ∈ addrs ⟨x, dx, d, t1, t2, t3, t4, .none, po, tp, fi, tf⟩ es9, a ≠ it := fun a ha e =>
      (hin9 a ha).elim (fun h => hita (e ▸ h)) fun h => by rw [e] at h; exact absurd ((newsH N8).1.symm.trans h) (by simp)
    have hitob := hex9 it o hita (N8 _ (.head _)).1
    have he9 := in_mid hes9
    have n1 : @Ne Nat it e9.a := (hitn _ (addrs_a he9)).symm
    have n2 : @Ne Nat it e9.sa := (hitn _ (addrs_sa he9)).symm
    generalize hZ9 : (pre9 ++ post9).flatMap Ent.led = Z9 at N9 bp7 bp8
    have N10 : News g L' h9 ((it, o) :: (e9.a, e9.obj) :: (e9.sa, e9.lst) :: (e9.da, dictOf [] 0) :: (x, instObj 190 dx) :: (dx, Hdr.dict w ⟨x, dx, d, t1, t2, t3, t4, .none, po, tp, fi, tf⟩) :: (d, od9) :: Z9) := by
      exact newsC ⟨hitob, (newsH N8).2⟩ N9
    clear N9 N8 F8 N8'
    dsimp only
    repeat' walk1
    rename Fr g L' _ _ => F10
    rename News g L' _ _ => N11
    have hi0 : i = 0 := by omega
    have hbd : e9.ss.length ≤ 1000 := by
      have h1 : Bd 1000 (viewOf es9) := by
        have ht0 : ps.take i = [] := by rw [List.take_eq_nil_iff]; exact .inl hi0
        rw [hview9, hvi, ht0]
        exact (Bd.bump (Bd.touch hzs)).touch
      have := h1 e9.view (List.mem_map_of_mem he9)
      simpa [Ent.view] using this
    refine' append_K F10 N11 ?U ?_ ?z
    case U => k_upd
    case z => simp [strValues]; rw [sizeLine_eq]; omega
    intro h12 F12 N12
    clear F10 N11
    dsimp only
    repeat' walk1
    have elst : W.listOf ((strValues e9.ss).toArray.push (.str k t)) (e9.ep + 1) = Ent.lst { e9 with ss := e9.ss ++ [(k, t)], ep := e9.ep + 1 } := by simp [strValues]
    rw [elst, ← hZ9] at N12
    have H13 := sled_back (w := w) (q := ⟨x, dx, d, t1, t2, t3, t4, .none, po, tp, fi, tf⟩) (od := od9) (pre := pre9) (post := post9) (e := { e9 with ss := e9.ss ++ [(k, t)], ep := e9.ep + 1 }) (fun p hp => (N12 p (.tail _ hp)).1)
    have had : addrs ⟨x, dx, d, t1, t2, t3, t4, .none, po, tp, fi, tf⟩ (pre9 ++ { e9 with ss := e9.ss ++ [(k, t)], ep := e9.ep + 1 } :: post9) = addrs ⟨x, dx, d, t1, t2, t3, t4, .none, po, tp, fi, tf⟩ es9 := addrs_ss hes9
    have hkv9 : kvsOf (pre9 ++ { e9 with ss := e9.ss ++ [(k, t)], ep := e9.ep + 1 } :: post9) = kvsOf es9 := kvs_ss hes9
    refine hK1 _ _ <| Turn.next F12 (news' := sled w ⟨x, dx, d, t1, t2, t3, t4, .none, po, tp, fi, tf⟩ od9 (pre9 ++ { e9 with ss := e9.ss ++ [(k, t)], ep := e9.ep + 1 } :: post9)) ?nw ?off ⟨_, od9, rfl, by rw [hkv9]; exact hod9, by rw [had]; exact st9.nodup, ?vw, ?ln, ⟨rfl, rfl, rfl, trivial⟩⟩
    case nw => exact newsC (newsH N12) fun p hp => ⟨H13 p hp, (own9 _ (had ▸ sled_at hp)).2, (own9 _ (had ▸ sled_at hp)).1⟩
    case off => exact fun p hp => hitn _ (had ▸ sled_at hp)
    case vw =>
      rw [view_upd hes9 (keys_nodup st9) (fun y => (y.1, y.2.1, y.2.2 ++ [k])) (by simp [Ent.view]), hview9, hvi, hek9]
      rw [List.take_add_one, List.getElem?_eq_getElem hil, List.map_append, List.foldl_append]
      rfl
    case ln =>
      have h1 := congrArg List.length hview9
      have h2 : (touch ps[i].1 (viewOf esi)).length ≤ (viewOf esi).length + 1 := by unfold touch; split <;> simp
      rw [len_mid hes9]
      simp only [viewOf, List.length_map] at h1 h2
      omega
end Mine
end

section
open PySem PySem.W PyProof.Rows PySem.Calls
set_option maxHeartbeats 4000000
namespace Mine

theorem all3 {P : Addr → Prop} {a b c : Addr} (ha : P a) (hb : P b) (hc : P c) : ∀ x ∈ [a, b, c], P x := fun x hx => (List.mem_cons.mp hx).elim (fun e => e ▸ ha) fun hx => (List.mem_cons.mp hx).elim (fun e => e ▸ hb) fun hx => (List.mem_cons.mp hx).elim (fun e => e ▸ hc) fun h => nomatch h
theorem new_sorter {n : Nat} {prog : Program} {w : World} {A : Around} {s : Shared} {h₀ : Heap} {L : Addr} {m : Str → Option Value} {R : Result → Shared → Prop}
   (C : Cx n w A h₀ L) (hn : n ≤ 40) (F : Fr h₀ L s.heap m)
   (kk : ∀ (q : Hdr) h' tk, q.rv = .none → q.po = 0 → q.fi = 0 → (∀ a ∈ addrs q [], s.heap.get? a = none) → Ext [] s.heap h' → SortSt prog w h' q [] →
     R (.ok (.ret (.ref q.x))) { s with heap := h', toks := tk }) :
   codeAny (model prog w) A (.call (.ref 190) ⟨[], []⟩) R s := by
  have X := C.X
  refine' make_X (K := Mine.hd.heap_39 w.params) (fI := 126) F (C.X.keeps F.keep) ?a ?b ?c ?_
  case a => k_is
  case b => k_is
  case c => k_is
  intro x dx h' hlt hx0 hdx0 hext F' N'
  k_lt2 hlt
  refine' enter (binds := [("self", .ref x), ("graph", .none)]) (C.make _ _) (le_lit (Nat.succ_le_succ hn) rfl) F' _ N' ?ho ?hcd ?hb ?hloc ?c1 ?c2 ?c3 ?c4 ?_
  ((case ho => k_is); (case hcd => k_is); (case hb => first | exact BindsTo.of_eq rfl | exact binds_K (by k_in) rfl (by k_is) rfl rfl rfl); (case hloc => exact locs rfl); (case c1 => rfl); (case c2 => rfl); (case c3 => rfl); (case c4 => decide))
  clear N'
  intro g L' h₁ hg C' F' N'
  refine C'.top_el fun pp loose mg mb T => ?_
  have X := C'.X
  refine hideQ fun K0 hK0 => ?_
  have n1 : x ≠ dx := Nat.ne_of_gt hlt
  have fin : ∀ (d : Addr) (o' : Obj) t1 t2 t3 t4 tp tf h2 m2 tk2, o'.IsDictOf (PySem.strKind prog w) ([] : List (Str × Value)) → (d == sysModules) = false → x < d → dx < d → Fr g L' h2 m2 → News g L' h2 [(d, o'), (x, instObj 190 dx), (dx, Hdr.dict w ⟨x, dx, d, t1, t2, t3, t4, .none, 0, tp, 0, tf⟩)] → K0 .next ⟨h2, s.gens, s.drawn, tk2, s.os⟩ := by
    intro d o' t1 t2 t3 t4 tp tf h2 m2 tk2 hod' hsys' hl1 hl2 Fz Ny
    have n2 : x ≠ d := Nat.ne_of_lt hl1
    have n3 : dx ≠ d := Nat.ne_of_lt hl2
    have hd0 : s.heap.get? d = none := by
      have h1 := fresh_of hg (Ny _ (.head _)).2.2 (by simp [n2.symm, n3.symm])
      cases hq : s.heap.get? d with
      | none => rfl
      | some o => exact absurd ((hext _ _ (fun h => nomatch h) hq).symm.trans h1) (by simp)
    refine hK0 _ _ <| Done.intro Fz fun he => ⟨rfl, ?_⟩
    refine kk ⟨x, dx, d, t1, t2, t3, t4, .none, 0, tp, 0, tf⟩ _ _ rfl rfl rfl ?_ (ext_two he hext hx0 hdx0) ⟨⟨_, hod', ?_⟩, hsys', ?_⟩
    · exact all3 (P := fun a => s.heap.get? a = none) hx0 hdx0 hd0
    · exact memC (newsH (newsT Ny)).1 (memC (newsH (newsT (newsT Ny))).1 (memC (newsH Ny).1 memN))
    · simp [addrs, n1, n2, n3]
  clear hK0 kk
  repeat' walk1
  rename Fr g L' _ _ => Fz
  rename News g L' _ _ => Nz
  rename Obj.IsDictOf (PySem.strKind prog w) _ [] => hod
  rename (_ == sysModules) = false => hsys
  rename _ < _ ∧ _ < _ => hl
  try dsimp only
  exact fin _ _ _ _ _ _ _ _ _ _ _ hod hsys hl.1 hl.2 Fz Nz

theorem meets_bool_list (l : Addr) (items : Array Value) (hfit : (items.size : Int) < 2 ^ 63) :
    Meets (Builtin.«bool.__new__» ⟨[.type "bool", .ref l], []⟩) (fun _ R s => s.heap.IsList l items ∧ R (.ok (.ret (.bool (!items.isEmpty)))) { s with toks := s.toks + 1 + 1 }) :=
  Meets.of_wp fun prog w A R s hs => by
    obtain ⟨hl, hs⟩ := hs
    obtain ⟨hp, g, d, tk, os⟩ := s
    have f1 := F.conv_sub_bool
    repeat (any_goals (first | assumption | (with_reducible refine wpAny_truthy_list hl hfit ?_) | wp_step))
    all_goals first | exact ⟨_, rfl, hs⟩ | exact hs | skip
theorem bool_list {prog : Program} {w : World} {A : Around} {E : Value → Shared → Prop} {s : Shared} {l : Addr} {items : Array Value} {Q : Value → Shared → Prop} (hl : s.heap.IsList l items) (hfit : (items.size : Int) < 2 ^ 63) (h : Q (.bool (!items.isEmpty)) { s with toks := s.toks + 1 + 1 }) :
    wpAny (model prog w) A (call (.type "bool") [.ref l]) Q E s :=
  call_bool_1 (meets_bool_list l items hfit) ⟨hl, show wants (fun obj s₁ => s₁.TypeIs obj "bool" ∧ Q obj s₁) E _ _ from ⟨rfl, h⟩⟩
theorem ext_all {h h' : Heap} {l : List (Addr × Obj)} (e : Ext (l.map (·.1)) h h') (a : Has h l) (b : Has h' l) : Ext [] h h' := by
  intro c o _ hc
  by_cases hm : c ∈ l.map (·.1)
  · obtain ⟨p, hp, rfl⟩ := List.mem_map.mp hm
    have := a p hp
    rw [hc] at this
    cases this
    exact b p hp
  · exact e c o hm hc
structure SortR (prog : Program) (w : World) (h : Heap) (q : Hdr) (es : List Ent) (rl : Addr) (rs : List (Str × Tok)) : Prop where
  st : SortSt prog w h q es
  rv : q.rv = .ref rl
  lst : ∃ ep, h.get? rl = some { cls := .type "list", data := .seq (strValues rs).toArray ep }
  off : rl ∉ addrs q es
theorem active_call {n : Nat} {prog : Program} {w : World} {A : Around} {s : Shared} {h₀ : Heap} {L : Addr} {m : Str → Option Value} {R : Result → Shared → Prop}
   (C : Cx n w A h₀ L) (hn : n ≤ 40) (F : Fr h₀ L s.heap m) {q : Hdr} {es : List Ent} {rl : Addr} {rs : List (Str × Tok)} (st : SortR prog w s.heap q es rl rs) (own : Own h₀ L (rl :: addrs q es)) (hrs : rs.length ≤ 100)
   (kk : ∀ h' tk, Ext [] s.heap h' → R (.ok (.ret (.bool (decide (q.fi < q.po) || !rs.isEmpty)))) { s with heap := h', toks := tk }) :
   codeAny (model prog w) A (.call (.ref 159) ⟨[.ref q.x], []⟩) R s := by
  obtain ⟨hd0, dp0, fr0, gd0, un0⟩ := A
  have hh0 : hd0 = none := C.handled
  subst hh0
  obtain ⟨st, hrv, ⟨ep, hrl⟩, hrn⟩ := st
  obtain ⟨x, dx, d, t1, t2, t3, t4, rv, po, tp, fi, tf⟩ := q
  dsimp only at hrv
  subst hrv
  obtain ⟨od, hod, hhas⟩ := st.od
  have H : Has s.heap [(x, instObj 190 dx), (dx, Hdr.dict w ⟨x, dx, d, t1, t2, t3, t4, .ref rl, po, tp, fi, tf⟩), (rl, { cls := .type "list", data := .seq (strValues rs).toArray ep })] := by
    exact memC (hhas _ (.head _)) (memC (hhas _ (.tail _ (.head _))) (memC hrl memN))
  have N := news_of H (h₀ := h₀) (L := L) (all3 (own _ (List.mem_cons_of_mem _ addrs_x)) (own _ (List.mem_cons_of_mem _ addrs_dx)) (own _ (.head _)))
  refine' enter (binds := [("self", .ref x)]) C (le_lit hn rfl) F _ N ?ho ?hcd ?hb ?hloc ?c1 ?c2 ?c3 ?c4 ?_
  ((case ho => k_is); (case hcd => k_is); (case hb => first | exact BindsTo.of_eq rfl | exact binds_K (by k_in) rfl (by k_is) rfl rfl rfl); (case hloc => exact locs rfl); (case c1 => rfl); (case c2 => rfl); (case c3 => rfl); (case c4 => decide))
  intro g L' h₁ hg C' F' N'
  refine C'.top_el fun pp loose mg mb T => ?_
  have X := C'.X
  have hlv := str_len rs
  refine hideQ fun K0 hK0 => ?_
  repeat' walk1
  · rename (fi < po) => hlt
    have e : Value.bool (decide (fi < po) || !rs.isEmpty) = .bool (decide (fi < po)) := by simp [hlt]
    rw [e] at kk
    exact hK0 _ _ (Done.intro F' fun he => kk h₁ _ (ext_all he H (has_of N')))
  · refine bool_list (N'.isList (by k_mem)) (by rw [List.size_toArray]; omega) ?_
    rename ¬ (fi < po) => hlt
    have e : Value.bool (decide (fi < po) || !rs.isEmpty) = .bool (!(strValues rs).toArray.isEmpty) := by simp [hlt, strValues]
    rw [e] at kk
    exact hK0 _ _ (Done.intro F' fun he => kk h₁ _ (ext_all he H (has_of N')))
end Mine
end

section
open PySem PySem.W PyProof.Rows PySem.Calls
set_option maxHeartbeats 4000000
namespace Mine
noncomputable def setnp (c : Int) (G : Gr) (k : Str) : Gr := G.map fun x => if x.1 = k then (x.1, c, x.2.2) else x

theorem tuple_off {prog : Program} {w : World} {g h : Heap} {L tt rl : Addr} {q : Hdr} {od : Obj} {es : List Ent} {vs : Array Value} {ws : Array Value} {ep : Nat} (hod : od.IsDictOf (PySem.strKind prog w) (kvsOf es))
    (N : News g L h ((tt, { cls := .type "tuple", data := .seq vs }) :: (rl, { cls := .type "list", data := .seq ws ep }) :: sled w q od es)) : ∀ a ∈ rl :: addrs q es, a ≠ tt := by
  have key : ∀ p ∈ (rl, { cls := .type "list", data := .seq ws ep }) :: sled w q od es, p.2.cls ≠ .type "tuple" := by
    intro p hp
    simp only [sled, List.mem_cons] at hp
    rcases hp with rfl | rfl | rfl | rfl | hp
    · simp
    · simp
    · simp
    · obtain ⟨es', ep', h1, _⟩ := hod
      have := h1.1
      simp [this]
    · obtain ⟨e, _, he⟩ := List.mem_flatMap.mp hp
      simp only [Ent.led, List.mem_cons, List.not_mem_nil, or_false] at he
      rcases he with rfl | rfl | rfl <;> simp
  intro a ha e
  subst e
  rw [← sled_addrs w q od es] at ha
  have ha' : a ∈ ((rl, ({ cls := .type "list", data := .seq ws ep } : Obj)) :: sled w q od es).map (·.1) := by simpa using ha
  obtain ⟨p, hp, rfl⟩ := List.mem_map.mp ha'
  have h1 := (N p (.tail _ hp)).1
  have h2 := (N _ (.head _)).1
  simp only at h2
  rw [h1] at h2
  have := key p hp
  rw [Option.some.inj h2] at this
  exact this rfl
theorem key_back {es es' : List Ent} {k : Str} (h : kvsOf es' = kvsOf es) (he : ∃ e ∈ es, e.key = k) : ∃ e, e ∈ es' ∧ e.key = k := by
  obtain ⟨e, he, hek⟩ := he
  have h1 : (e.key, Value.ref e.a) ∈ kvsOf es' := by rw [h]; exact List.mem_map_of_mem he
  obtain ⟨e', he', h2⟩ := List.mem_map.mp h1
  exact ⟨e', he', by rw [(Prod.mk.inj h2).1]; exact hek⟩
theorem keys_same {es es' : List Ent} (h : kvsOf es' = kvsOf es) (hn : (es.map (·.key)).Nodup) : (es'.map (·.key)).Nodup := by
  have h1 : (kvsOf es').map (·.1) = (kvsOf es).map (·.1) := by rw [h]
  simp only [kvsOf, List.map_map] at h1
  have h3 : es'.map (·.key) = es.map (·.key) := h1
  rw [h3]; exact hn
theorem ready_call {n : Nat} {prog : Program} {w : World} {A : Around} {s : Shared} {h₀ : Heap} {L : Addr} {m : Str → Option Value} {R : Result → Shared → Prop}
   (C : Cx n w A h₀ L) (hn : n ≤ 40) (F : Fr h₀ L s.heap m) {q : Hdr} {es : List Ent} {rl : Addr} {rs : List (Str × Tok)} (st : SortR prog w s.heap q es rl rs) (own : Own h₀ L (rl :: addrs q es)) (hrs : rs.length ≤ 100)
   (hin : ∀ r ∈ rs, ∃ e ∈ es, e.key = r.1) (hne : rs ≠ [])
   (kk : ∀ (tt : Addr) (es' : List Ent) h' tk tp', viewOf es' = (rs.map (·.1)).foldl (setnp (-1)) (viewOf es) → kvsOf es' = kvsOf es → addrs q es' = addrs q es → s.heap.get? tt = none → Ext (rl :: addrs q es) s.heap h' →
     IsTup h' tt (strValues rs).toArray → SortR prog w h' { q with po := q.po + rs.length, tp := tp' } es' rl [] → R (.ok (.ret (.ref tt))) { s with heap := h', toks := tk }) :
   codeAny (model prog w) A (.call (.ref 152) ⟨[.ref q.x], []⟩) R s := by
  obtain ⟨hd0, dp0, fr0, gd0, un0⟩ := A
  have hh0 : hd0 = none := C.handled
  subst hh0
  obtain ⟨st, hrv, ⟨ep, hrl⟩, hrn⟩ := st
  obtain ⟨x, dx, d, t1, t2, t3, t4, rv, po, tp, fi, tf⟩ := q
  dsimp only at hrv
  subst hrv
  obtain ⟨od, hod, hhas⟩ := st.od
  have H : Has s.heap ((rl, { cls := .type "list", data := .seq (strValues rs).toArray ep }) :: sled w ⟨x, dx, d, t1, t2, t3, t4, .ref rl, po, tp, fi, tf⟩ od es) := by
    exact memC hrl hhas
  have N := news_of H (h₀ := h₀) (L := L) (by rw [List.map_cons, sled_addrs]; exact own)
  refine' enter (binds := [("self", .ref x)]) C (le_lit hn rfl) F _ N ?ho ?hcd ?hb ?hloc ?c1 ?c2 ?c3 ?c4 ?_
  ((case ho => k_is); (case hcd => k_is); (case hb => first | exact BindsTo.of_eq rfl | exact binds_K (by k_in) rfl (by k_is) rfl rfl rfl); (case hloc => exact locs rfl); (case c1 => rfl); (case c2 => rfl); (case c3 => rfl); (case c4 => decide))
  intro g L' h₁ hg C' F' N'
  refine C'.top_el fun pp loose mg mb T => ?_
  have X := C'.X
  have hlv := str_len rs
  refine hideQ fun K0 hK0 => ?_
  unfold sled at N'
  dsimp only at N'
  generalize hZ : es.flatMap Ent.led = Z at N'
  repeat' walk1
  rename Fr g L' _ _ => F2
  rename News g L' _ _ => N2
  rename_i _ tt _ _ _ h2
  have N3 : News g L' h2 ((tt, { cls := .type "tuple", data := .seq (strValues rs).toArray }) :: (rl, { cls := .type "list", data := .seq (strValues rs).toArray ep }) :: sled w ⟨x, dx, d, t1, t2, t3, t4, .ref rl, po, tp, fi, tf⟩ od es) := by
    unfold sled; rw [hZ]; exact N2
  clear N2
  have htt : ∀ a ∈ rl :: addrs ⟨x, dx, d, t1, t2, t3, t4, .ref rl, po, tp, fi, tf⟩ es, a ≠ tt := tuple_off hod N3
  have own3 : Own g L' (addrs ⟨x, dx, d, t1, t2, t3, t4, .ref rl, po, tp, fi, tf⟩ es) := own_led (newsT (newsT N3))
  refine wpAny_For ?_
  walk1
  refine iter_tup (L := L') (vs := strValues rs) (fun i m₁ news₁ => ∃ esi, news₁ = (tt, { cls := .type "tuple", data := .seq (strValues rs).toArray }) :: (rl, { cls := .type "list", data := .seq (strValues rs).toArray ep }) :: sled w ⟨x, dx, d, t1, t2, t3, t4, .ref rl, po, tp, fi, tf⟩ od esi ∧
      kvsOf esi = kvsOf es ∧ addrs ⟨x, dx, d, t1, t2, t3, t4, .ref rl, po, tp, fi, tf⟩ esi = addrs ⟨x, dx, d, t1, t2, t3, t4, .ref rl, po, tp, fi, tf⟩ es ∧ viewOf esi = ((rs.take i).map (·.1)).foldl (setnp (-1)) (viewOf es) ∧ Vars m₁ [("self", .ref x), ("n2i", .ref d), ("result", .ref tt)]) rfl rfl F2 N3 ?hl ?hj ?turn ?done
  case hl =>
    rintro h i m₁ news₁ ⟨esi, rfl, _⟩ _ Nq
    exact ⟨_, (Nq _ (.head _)).1, rfl, _, rfl⟩
  case hj => exact ⟨es, rfl, rfl, rfl, rfl, ⟨rfl, rfl, rfl, trivial⟩⟩
  case done =>
    intro m₁ news₁ h6 tk6 hJ F6 N6
    refine ex1_5 hJ ?_; clear hJ
    intro esi hn hk6 ha6 hv6 hV6
    replace N6 := newsE hn N6
    clear hn news₁
    have F7 := frs F6 hV6
    have hnd6 : (addrs ⟨x, dx, d, t1, t2, t3, t4, .ref rl, po, tp, fi, tf⟩ esi).Nodup := by rw [ha6]; exact st.nodup
    have hoffr : ∀ p ∈ esi.flatMap Ent.led, p.1 ≠ rl := fun p hp e => hrn (ha6 ▸ e ▸ sled_at (w := w) (od := od) (.tail _ (.tail _ (.tail _ hp))))
    have hoff7 := addrs_off hnd6
    have hoffx := hoff7.1
    have m1 : @Ne Nat rl x := nx hrn addrs_x
    have m2 : @Ne Nat rl dx := nx hrn addrs_dx
    have m3 : @Ne Nat rl d := nx hrn addrs_d
    have m4 : @Ne Nat tt rl := (htt rl (.head _)).symm
    have m5 : @Ne Nat tt dx := (htt dx (List.mem_cons_of_mem _ addrs_dx)).symm
    have m6 : @Ne Nat dx x := hoff7.2.1
    have m7 : @Ne Nat dx d := hoff7.2.2
    dsimp only at hoffx
    unfold sled at N6
    dsimp only at N6
    dsimp only
    generalize hZ6 : esi.flatMap Ent.led = Z6 at N6 hoffr hoffx
    repeat' walk1
    refine' kl_clear F7 N6 ?U ?ne ?z ?_
    case U => k_upd
    case ne => simp [strValues, hne]
    case z => simp [strValues]; rw [sizeLine_eq]; omega
    intro h7 F8 N8
    clear F7 N6 F6
    dsimp only
    repeat' walk1
    refine len_tuple ⟨_, (N8 _ (.head _)).1, rfl, _, rfl⟩ (by rw [List.size_toArray]; omega) ?_
    repeat' walk1
    rename Fr g L' _ _ => F9
    rename News g L' _ _ => N9
    refine ex1_1 (⟨_, N9⟩ : ∃ tp', News g L' _ ((tt, { cls := .type "tuple", data := .seq (strValues rs).toArray }) :: (rl, W.listOf #[] (ep + 1)) :: (x, instObj 190 dx) :: (dx, Hdr.dict w ⟨x, dx, d, t1, t2, t3, t4, .ref rl, po + (strValues rs).toArray.size, tp', fi, tf⟩) :: (d, od) :: Z6)) ?_
    clear N9
    intro tp' N10
    have hsz : (((strValues rs).toArray.size : Nat) : Int) = (rs.length : Int) := by rw [List.size_toArray, hlv]
    rw [hsz] at N10
    dsimp only
    refine hK0 _ _ <| Done.intro F9 fun hex9 => kk tt esi _ _ tp' ?_ hk6 ha6 ?_ ?_ ⟨_, (N10 _ (.head _)).1, rfl, _, rfl⟩ ⟨⟨⟨od, by rw [hk6]; exact hod, ?_⟩, st.sys, ?_⟩, rfl, ⟨ep + 1, (N10 _ (.tail _ (.head _))).1⟩, ?_⟩
    · rw [hv6, hlv, List.take_length]
    · exact fresh_of hg (N10 _ (.head _)).2.2 (by rw [List.map_cons, sled_addrs]; exact fun hm => htt tt hm rfl)
    · rw [List.map_cons, sled_addrs] at hex9; exact hex9
    · intro p hp
      refine (N10 p (.tail _ (.tail _ ?_))).1
      unfold sled at hp; rw [hZ6] at hp; exact hp
    · exact hnd6
    · rw [show addrs { x := x, dx := dx, d := d, t1 := t1, t2 := t2, t3 := t3, t4 := t4, rv := .ref rl, po := po + rs.length, tp := tp', fi := fi, tf := tf } esi = addrs ⟨x, dx, d, t1, t2, t3, t4, .ref rl, po, tp, fi, tf⟩ esi from rfl, ha6]; exact hrn
  case turn =>
    intro i v m₁ news₁ h6 tk6 it o hit hv hJ hap F6 N6
    refine hideT fun K1 hK1 => ?_
    refine ex1_5 hJ ?_; clear hJ
    intro esi hn hk6 ha6 hv6 hV6
    replace N6 := newsE1 hn N6
    replace hap := apE hn hap
    clear hn news₁
    refine (str_at hv).elim fun hil hve => asgE hve ?_
    clear hve hv
    have F7 := frs F6 hV6
    clear F6
    have hnd6 : (addrs ⟨x, dx, d, t1, t2, t3, t4, .ref rl, po, tp, fi, tf⟩ esi).Nodup := by rw [ha6]; exact st.nodup
    refine ex1_2 (key_back hk6 (hin rs[i] (List.getElem_mem hil))) ?_
    intro e he hek
    refine ex2_1 (List.append_of_mem he) ?_
    intro pre post hes
    have hkn : (esi.map (·.key)).Nodup := keys_same hk6 (keys_nodup st)
    have hod6 : od.IsDictOf (PySem.strKind prog w) (kvsOf esi) := by rw [hk6]; exact hod
    have hva : valueAt (kvsOf esi) rs[i].1 = some (.ref e.a) := val_at he hkn hek
    have Nq : News g L' h6 (sled w ⟨x, dx, d, t1, t2, t3, t4, .ref rl, po, tp, fi, tf⟩ od esi) := fun p hp => N6 p (.tail _ (.tail _ (.tail _ hp)))
    have N9 := split_news hes Nq
    have ap9 := split_apart hes hnd6
    dsimp only at N9 ap9
    refine ex0_8 ap9 ?_; clear ap9
    intro bp1 bp2 bp3 bp4 bp5 bp6 bp7 bp8
    have bp41 := bp4.1
    have bp42 := bp4.2.1
    have bp43 := bp4.2.2
    have bp51 := bp5.1
    have bp52 := bp5.2.1
    have bp53 := bp5.2.2
    have bp61 := bp6.1
    have bp62 := bp6.2.1
    have bp63 := bp6.2.2
    have hea : e.a ∈ addrs ⟨x, dx, d, t1, t2, t3, t4, .ref rl, po, tp, fi, tf⟩ esi := addrs_a he
    have hapS := apR fun p hp => hap p (.tail _ (.tail _ hp))
    have n1 : @Ne Nat it e.a := (hapS _ hea).symm
    have n2 : @Ne Nat tt e.a := (htt e.a (.tail _ (ha6 ▸ hea))).symm
    have n3 : @Ne Nat rl e.a := nx hrn (ha6 ▸ hea)
    generalize hZ9 : (pre ++ post).flatMap Ent.led = Z9 at N9 bp7 bp8
    have N10 : News g L' h6 ((it, o) :: (tt, { cls := .type "tuple", data := .seq (strValues rs).toArray }) :: (rl, { cls := .type "list", data := .seq (strValues rs).toArray ep }) :: (e.a, e.obj) :: (e.sa, e.lst) :: (e.da, dictOf [] 0) :: (x, instObj 190 dx) :: (dx, Hdr.dict w ⟨x, dx, d, t1, t2, t3, t4, .ref rl, po, tp, fi, tf⟩) :: (d, od) :: Z9) := by
      exact newsC (newsH N6) (newsC (newsH (newsT N6)) (newsC (newsH (newsT (newsT N6))) N9))
    clear N9 Nq N6
    dsimp only
    repeat' walk1
    rename Fr g L' _ _ => F8
    rename News g L' _ _ => N10
    refine kda_item (knd := PySem.strKind _ _) N10 (by k_mem) hod6 (strKind_is _ _ _ _) hva ?_
    repeat' walk1
    rename Fr g L' _ _ => F11
    rename News g L' _ _ => N11
    refine ex1_1 (⟨_, N11⟩ : ∃ nt, News g L' _ ((it, o) :: (tt, { cls := .type "tuple", data := .seq (strValues rs).toArray }) :: (rl, { cls := .type "list", data := .seq (strValues rs).toArray ep }) :: (e.a, Ent.obj { e with np := -1, nt := nt }) :: (e.sa, Ent.lst { e with np := -1, nt := nt }) :: (e.da, dictOf [] 0) :: (x, instObj 190 dx) :: (dx, Hdr.dict w ⟨x, dx, d, t1, t2, t3, t4, .ref rl, po, tp, fi, tf⟩) :: (d, od) :: Z9)) ?_
    clear N11
    intro nt N12
    rw [← hZ9] at N12
    have H13 := newsT (newsT (newsT N12))
    have had : addrs ⟨x, dx, d, t1, t2, t3, t4, .ref rl, po, tp, fi, tf⟩ (pre ++ { e with np := -1, nt := nt } :: post) = addrs ⟨x, dx, d, t1, t2, t3, t4, .ref rl, po, tp, fi, tf⟩ esi := addrs_np hes
    have hkv9 : kvsOf (pre ++ { e with np := -1, nt := nt } :: post) = kvsOf esi := kvs_np hes
    refine hK1 _ _ <| Turn.next F11 (news' := (tt, { cls := .type "tuple", data := .seq (strValues rs).toArray }) :: (rl, { cls := .type "list", data := .seq (strValues rs).toArray ep }) :: sled w ⟨x, dx, d, t1, t2, t3, t4, .ref rl, po, tp, fi, tf⟩ od (pre ++ { e with np := -1, nt := nt } :: post)) ?nw ?off ⟨_, rfl, by rw [hkv9, hk6], by rw [had, ha6], ?vw, ⟨rfl, rfl, rfl, trivial⟩⟩
    case nw => exact newsC (newsH N12) (newsC (newsH (newsT N12)) (newsC (newsH (newsT (newsT N12))) (sled_mid H13)))
    case off => exact apC (hap _ (.head _)) (apC (hap _ (.tail _ (.head _))) (apS (fun a ha => hapS a (had ▸ ha))))
    case vw =>
      rw [view_upd hes hkn (fun y => (y.1, -1, y.2.2)) (by simp [Ent.view]), hv6, hek]
      rw [List.take_add_one, List.getElem?_eq_getElem hil, List.map_append, List.foldl_append]
      rfl
end Mine
end

section
open PySem PySem.W PyProof.Rows PySem.Calls
set_option maxHeartbeats 4000000
namespace Mine
noncomputable def shape (e : Ent) : Ent := { e with np := 0, nt := 0 }
theorem shape_kvs {es es' : List Ent} (h : es'.map shape = es.map shape) : kvsOf es' = kvsOf es := by
  have h1 : ∀ l : List Ent, kvsOf l = kvsOf (l.map shape) := fun l => by simp [kvsOf, shape]
  rw [h1 es', h, ← h1]
theorem shape_addrs {es es' : List Ent} (q : Hdr) (h : es'.map shape = es.map shape) : addrs q es' = addrs q es := by
  have h1 : ∀ l : List Ent, addrs q l = addrs q (l.map shape) := fun l => by simp [addrs, shape, List.flatMap_map]
  rw [h1 es', h, ← h1]
theorem shape_keys {es es' : List Ent} (h : es'.map shape = es.map shape) : es'.map (·.key) = es.map (·.key) := by
  have h1 : ∀ l : List Ent, l.map (·.key) = (l.map shape).map (·.key) := fun l => by simp [shape]
  rw [h1 es', h, ← h1]
theorem shape_mem {es es' : List Ent} {e : Ent} (h : es'.map shape = es.map shape) (he : e ∈ es) : ∃ e' ∈ es', shape e' = shape e := by
  have : shape e ∈ es'.map shape := by rw [h]; exact List.mem_map_of_mem he
  exact List.mem_map.mp this
theorem shape_upd {es pre post : List Ent} {e : Ent} {c : Int} {t : Tok} (hes : es = pre ++ e :: post) : (pre ++ { e with np := c, nt := t } :: post).map shape = es.map shape := by
  subst hes; simp [shape]
theorem shape_lst {e e' : Ent} (h : shape e' = shape e) : e'.key = e.key ∧ e'.a = e.a ∧ e'.sa = e.sa ∧ e'.ss = e.ss ∧ e'.ep = e.ep := by
  simp only [shape, Ent.mk.injEq] at h
  simp [h]
theorem news_back {g h : Heap} {L : Addr} {w : World} {q : Hdr} {od : Obj} {pre post : List Ent} {e : Ent} (top : List (Addr × Obj))
    (N : News g L h (top ++ ((e.a, e.obj) :: (e.sa, e.lst) :: (e.da, dictOf [] 0) :: (q.x, instObj 190 q.dx) :: (q.dx, q.dict w) :: (q.d, od) :: (pre ++ post).flatMap Ent.led))) : News g L h (top ++ sled w q od (pre ++ e :: post)) := by
  exact newsA (newsL N) (sled_mid (newsR N))
noncomputable def npAt (G : Gr) (k : Str) : Int := ((G.find? fun x => x.1 = k).map (·.2.1)).getD 0
noncomputable def ssAt (G : Gr) (k : Str) : List Str := ((G.find? fun x => x.1 = k).map (·.2.2)).getD []
noncomputable def decS (Gr1 : Gr × List Str) (k : Str) : Gr × List Str := (bump k (-1) Gr1.1, if npAt (bump k (-1) Gr1.1) k = 0 then Gr1.2 ++ [k] else Gr1.2)
noncomputable def doneS (Gr1 : Gr × List Str) (k : Str) : Gr × List Str := (ssAt Gr1.1 k).foldl decS (setnp (-2) Gr1.1 k, Gr1.2)
theorem find_view {es : List Ent} {e : Ent} (he : e ∈ es) (hn : (es.map (·.key)).Nodup) : (viewOf es).find? (fun x => x.1 = e.key) = some e.view := by
  induction es with
  | nil => cases he
  | cons x es ih =>
    rw [List.map_cons, List.nodup_cons] at hn
    show List.find? _ (x.view :: viewOf es) = _
    rcases List.mem_cons.mp he with rfl | h
    · simp [Ent.view]
    · have : x.key ≠ e.key := fun h2 => hn.1 (h2 ▸ List.mem_map_of_mem h)
      rw [List.find?_cons_of_neg (by simp [Ent.view, this])]
      exact ih h hn.2
theorem npAt_view {es : List Ent} {e : Ent} (he : e ∈ es) (hn : (es.map (·.key)).Nodup) : npAt (viewOf es) e.key = e.np := by
  simp only [npAt, find_view he hn]; rfl
theorem ssAt_view {es : List Ent} {e : Ent} (he : e ∈ es) (hn : (es.map (·.key)).Nodup) : ssAt (viewOf es) e.key = e.ss.map (·.1) := by
  simp only [ssAt, find_view he hn]; rfl
theorem done_call {n : Nat} {prog : Program} {w : World} {A : Around} {s : Shared} {h₀ : Heap} {L : Addr} {m : Str → Option Value} {R : Result → Shared → Prop}
   (C : Cx n w A h₀ L) (hn : n ≤ 40) (F : Fr h₀ L s.heap m) {q : Hdr} {es : List Ent} {rl : Addr} {rs : List (Str × Tok)} (st : SortR prog w s.heap q es rl []) (own : Own h₀ L (rl :: addrs q es)) (hrs : rs.length ≤ 100)
   (hzs : Bd 1000 (viewOf es)) (hss : ∀ e ∈ es, ∀ r ∈ e.ss, ∃ e' ∈ es, e'.key = r.1)
   (hin : ∀ i, (hi : i < rs.length) → (∃ e ∈ es, e.key = rs[i].1) ∧ npAt (((rs.take i).map (·.1)).foldl doneS (viewOf es, [])).1 rs[i].1 = -1)
   (kk : ∀ (es' : List Ent) (rs' : List (Str × Tok)) h' tk tf', es'.map shape = es.map shape → (viewOf es', rs'.map (·.1)) = (rs.map (·.1)).foldl doneS (viewOf es, []) → Ext (rl :: addrs q es) s.heap h' →
     SortR prog w h' { q with fi := q.fi + rs.length, tf := tf' } es' rl rs' → R (.ok (.ret .none)) { s with heap := h', toks := tk }) :
   codeAny (model prog w) A (.call (.ref 173) ⟨.ref q.x :: strValues rs, []⟩) R s := by
  obtain ⟨hd0, dp0, fr0, gd0, un0⟩ := A
  have hh0 : hd0 = none := C.handled
  subst hh0
  obtain ⟨st, hrv, ⟨ep, hrl⟩, hrn⟩ := st
  obtain ⟨x, dx, d, t1, t2, t3, t4, rv, po, tp, fi, tf⟩ := q
  dsimp only at hrv
  subst hrv
  obtain ⟨od, hod, hhas⟩ := st.od
  have H : Has s.heap ((rl, { cls := .type "list", data := .seq (strValues []).toArray ep }) :: sled w ⟨x, dx, d, t1, t2, t3, t4, .ref rl, po, tp, fi, tf⟩ od es) := by
    exact fun p hp => (List.mem_cons.mp hp).elim (fun e => e ▸ hrl) (hhas p)
  have N := news_of H (h₀ := h₀) (L := L) (by rw [List.map_cons, sled_addrs]; exact own)
  refine' enterV (vs := strValues rs) (binds := fun D => [("self", .ref x), ("nodes", .ref D)]) C (le_lit hn rfl) F _ N ?ho ?hcd ?hb ?hloc ?c1 ?c2 ?c3 ?c4 ?_
  case ho => k_is
  case hcd => k_is
  case hb =>
    intro A0 E0 Q0 h0
    unfold bindArgs
    simp only [fnOf, Option.isNone_some, Bool.and_false]
    show wpAny _ _ (newTuple (strValues rs) >>= fun t => pure [(Str.ofString "self", Value.ref x), (Str.ofString "nodes", t)]) _ _ _
    refine wpAny_bind (wpAny_newTuple ?_ ?_)
    · exact wpAny_pure h0
    · simp [strValues]; rw [sizeLine_eq]; omega
  case hloc => exact fun _ => locs rfl
  case c1 => rfl
  case c2 => rfl
  case c3 => rfl
  case c4 => decide
  intro D g L' h₁ hg hD hT C' F' N'
  refine hideQ fun K0 hK0 => ?_
  refine C'.top_el fun pp loose mg mb T => ?_
  have X := C'.X
  have hlv : (strValues rs).length = rs.length := by simp [strValues]
  have own3 : Own g L' (rl :: addrs ⟨x, dx, d, t1, t2, t3, t4, .ref rl, po, tp, fi, tf⟩ es) := fun a ha => by
    rw [← sled_addrs w _ od es] at ha
    have ha' : a ∈ ((rl, ({ cls := .type "list", data := .seq (strValues []).toArray ep } : Obj)) :: sled w ⟨x, dx, d, t1, t2, t3, t4, .ref rl, po, tp, fi, tf⟩ od es).map (·.1) := by simpa using ha
    obtain ⟨p, hp, rfl⟩ := List.mem_map.mp ha'
    exact ⟨(N' p hp).2.2, (N' p hp).2.1⟩
  unfold sled at N'
  dsimp only at N'
  generalize hZ : es.flatMap Ent.led = Z at N'
  repeat' walk1
  refine wpAny_For ?_
  walk1
  rename Fr g L' _ _ => F2
  rename News g L' _ _ => N2
  rename_i h2
  have N3 : News g L' h2 ((rl, { cls := .type "list", data := .seq (strValues []).toArray ep }) :: sled w ⟨x, dx, d, t1, t2, t3, t4, .ref rl, po, tp, fi, tf⟩ od es) := by
    unfold sled; rw [hZ]; assumption
  clear N2
  refine iter_tup (L := L') (vs := strValues rs) (fun i m₁ news₁ => ∃ esi rsi epi tf', news₁ = (rl, { cls := .type "list", data := .seq (strValues rsi).toArray epi }) :: sled w ⟨x, dx, d, t1, t2, t3, t4, .ref rl, po, tp, fi + i, tf'⟩ od esi ∧
      esi.map shape = es.map shape ∧ rsi.length ≤ i * 1000 ∧ (viewOf esi, rsi.map (·.1)) = ((rs.take i).map (·.1)).foldl doneS (viewOf es, []) ∧ Vars m₁ [("self", .ref x), ("n2i", .ref d), ("nodes", .ref D)]) rfl rfl F2 N3 ?hl ?hj ?turn ?done
  case hl => exact fun h i m₁ news₁ _ F₁ _ => hT.keeps F₁.keep
  case hj => exact ⟨es, [], ep, tf, by simp, rfl, Nat.zero_le _, rfl, ⟨rfl, rfl, rfl, trivial⟩⟩
  case done =>
    intro m₁ news₁ h6 tk6 hJ F6 N6
    refine ex4_5 hJ ?_; clear hJ
    intro esi rsi epi tf6 hn6 hsh hlen6 hv6 hV6
    replace N6 := newsE hn6 N6
    have ha6 := shape_addrs ⟨x, dx, d, t1, t2, t3, t4, .ref rl, po, tp, fi, tf⟩ hsh
    dsimp only
    repeat' walk1
    refine hK0 _ _ <| Done.intro F6 fun hex9 => kk esi rsi _ _ tf6 hsh ?_ ?_ ⟨⟨⟨od, by rw [shape_kvs hsh]; exact hod, ?_⟩, st.sys, ?_⟩, rfl, ⟨epi, (N6 _ (.head _)).1⟩, ?_⟩
    · rw [hv6, hlv, List.take_length]
    · rw [List.map_cons, sled_addrs] at hex9; exact hex9
    · rw [hlv] at N6
      exact fun p hp => (N6 p (.tail _ hp)).1
    · show (addrs ⟨x, dx, d, t1, t2, t3, t4, .ref rl, po, tp, fi, tf⟩ esi).Nodup
      rw [ha6]; exact st.nodup
    · show rl ∉ addrs ⟨x, dx, d, t1, t2, t3, t4, .ref rl, po, tp, fi, tf⟩ esi
      rw [ha6]; exact hrn
  case turn =>
    intro i v m₁ news₁ h6 tk6 it o hit hv hJ hap F6 N6
    refine hideT fun K1 hK1 => ?_
    refine ex4_5 hJ ?_; clear hJ
    intro esi rsi epi tf6 hn6 hsh hlen6 hv6 hV6
    replace N6 := newsE1 hn6 N6
    replace hap := apE hn6 hap
    clear hn6 news₁
    refine (str_at hv).elim fun hil hve => asgE hve ?_
    clear hve hv
    have F7 := frs F6 hV6
    clear F6
    have ha6 := shape_addrs ⟨x, dx, d, t1, t2, t3, t4, .ref rl, po, tp, fi + i, tf6⟩ hsh
    have hnd6 : (addrs ⟨x, dx, d, t1, t2, t3, t4, .ref rl, po, tp, fi + i, tf6⟩ esi).Nodup := by rw [ha6]; exact st.nodup
    have hkn : (esi.map (·.key)).Nodup := by rw [shape_keys hsh]; exact keys_nodup st
    have hnp0 := (hin i hil).2
    refine ex1_2 (hin i hil).1 ?_
    intro e0 he0 hek0
    refine ex1_2 (shape_mem hsh he0) ?_
    intro e he hes0
    have hek : e.key = rs[i].1 := (shape_lst hes0).1.trans hek0
    have hnp : e.np = -1 := by rw [← hv6, ← hek, npAt_view he hkn] at hnp0; exact hnp0
    refine ex2_1 (List.append_of_mem he) ?_
    intro pre post hes
    have hod6 : od.IsDictOf (PySem.strKind prog w) (kvsOf esi) := by rw [shape_kvs hsh]; exact hod
    have hva : valueAt (kvsOf esi) rs[i].1 = some (.ref e.a) := val_at he hkn hek
    have Nq : News g L' h6 (sled w ⟨x, dx, d, t1, t2, t3, t4, .ref rl, po, tp, fi + i, tf6⟩ od esi) := fun p hp => N6 p (.tail _ (.tail _ hp))
    have N9 := split_news hes Nq
    have ap9 := split_apart hes hnd6
    dsimp only at N9 ap9
    refine ex0_8 ap9 ?_
    intro bp1 bp2 bp3 bp4 bp5 bp6 bp7 bp8
    have bp41 := bp4.1
    have bp42 := bp4.2.1
    have bp43 := bp4.2.2
    have bp51 := bp5.1
    have bp52 := bp5.2.1
    have bp53 := bp5.2.2
    have bp61 := bp6.1
    have bp62 := bp6.2.1
    have bp63 := bp6.2.2
    have hea : e.a ∈ addrs ⟨x, dx, d, t1, t2, t3, t4, .ref rl, po, tp, fi + i, tf6⟩ esi := addrs_a he
    have hapS := apR fun p hp => hap p (.tail _ hp)
    have n1 : @Ne Nat it e.a := (hapS _ hea).symm
    have n3 : @Ne Nat rl e.a := nx hrn (ha6 ▸ hea)
    generalize hZ9 : (pre ++ post).flatMap Ent.led = Z9 at N9 bp7 bp8
    have N10 : News g L' h6 ((it, o) :: (rl, { cls := .type "list", data := .seq (strValues rsi).toArray epi }) :: (e.a, e.obj) :: (e.sa, e.lst) :: (e.da, dictOf [] 0) :: (x, instObj 190 dx) :: (dx, Hdr.dict w ⟨x, dx, d, t1, t2, t3, t4, .ref rl, po, tp, fi + i, tf6⟩) :: (d, od) :: Z9) := newsC (newsH N6) (newsC (newsH (newsT N6)) N9)
    clear N9 Nq N6 ap9
    have hsys := st.sys
    dsimp only
    repeat' walk1
    rename Fr g L' _ _ => F8
    rename News g L' _ _ => N10
    refine kdg_get1 N10 (by k_mem) hod6 hsys (k := rs[i].1) (by simp [PySem.strKind, Value.isStrOf]) (some (.ref e.a)) hva ?_
    dsimp only [Option.getD]
    iterate 22 walk1
    · exfalso
      rename_i hx
      simp [hnp] at hx
    iterate 8 walk1
    rename Fr g L' _ _ => F11
    rename News g L' _ _ => N11
    refine ex1_1 (⟨_, N11⟩ : ∃ nt, News g L' _ ((it, o) :: (rl, { cls := .type "list", data := .seq (strValues rsi).toArray epi }) :: (e.a, Ent.obj { e with np := -2, nt := nt }) :: (e.sa, Ent.lst { e with np := -2, nt := nt }) :: (e.da, dictOf [] 0) :: (x, instObj 190 dx) :: (dx, Hdr.dict w ⟨x, dx, d, t1, t2, t3, t4, .ref rl, po, tp, fi + i, tf6⟩) :: (d, od) :: Z9)) ?_
    intro nt N12
    clear N11
    refine wpAny_For ?_
    iterate 3 walk1
    rename Fr g L' _ _ => F11
    rename News g L' _ _ => N12
    rw [← hZ9] at N12
    have hsh2 : (pre ++ { e with np := -2, nt := nt } :: post).map shape = es.map shape := (shape_upd hes).trans hsh
    have had : addrs ⟨x, dx, d, t1, t2, t3, t4, .ref rl, po, tp, fi + i, tf6⟩ (pre ++ { e with np := -2, nt := nt } :: post) = addrs ⟨x, dx, d, t1, t2, t3, t4, .ref rl, po, tp, fi + i, tf6⟩ esi := addrs_np hes
    have hitn : ∀ a ∈ rl :: addrs ⟨x, dx, d, t1, t2, t3, t4, .ref rl, po, tp, fi, tf⟩ es, a ≠ it := fun a ha => (List.mem_cons.mp ha).elim (fun e => e ▸ hap _ (.head _)) fun ha => hapS a (ha6 ▸ ha)
    have hsled : ∀ (es2 : List Ent), es2.map shape = es.map shape → ∀ p ∈ sled w ⟨x, dx, d, t1, t2, t3, t4, .ref rl, po, tp, fi + i, tf6⟩ od es2, p.1 ∈ addrs ⟨x, dx, d, t1, t2, t3, t4, .ref rl, po, tp, fi, tf⟩ es := fun es2 h2 p hp => shape_addrs ⟨x, dx, d, t1, t2, t3, t4, .ref rl, po, tp, fi + i, tf6⟩ h2 ▸ sled_at hp
    have N14 := news_back (w := w) (q := ⟨x, dx, d, t1, t2, t3, t4, .ref rl, po, tp, fi + i, tf6⟩) (od := od) (pre := pre) (post := post) (e := { e with np := -2, nt := nt }) [(it, o), (rl, { cls := .type "list", data := .seq (strValues rsi).toArray epi })] N12
    clear N12
    have hvw : viewOf (pre ++ { e with np := -2, nt := nt } :: post) = setnp (-2) (viewOf esi) rs[i].1 := by
      rw [view_upd hes hkn (fun y => (y.1, -2, y.2.2)) (by simp [Ent.view]), hek]; rfl
    have hsl : e.ss.length ≤ 1000 := by
      have := hzs e0.view (List.mem_map_of_mem he0)
      rw [(shape_lst hes0).2.2.2.1]
      simpa [Ent.view] using this
    have hfold : ((rs.take (i + 1)).map (·.1)).foldl doneS (viewOf es, []) = (e.ss.map (·.1)).foldl decS (setnp (-2) (viewOf esi) rs[i].1, rsi.map (·.1)) := by
      rw [List.take_add_one, List.getElem?_eq_getElem hil, List.map_append, List.foldl_append, ← hv6]
      show doneS (viewOf esi, _) rs[i].1 = _
      unfold doneS
      rw [← hek, ssAt_view he hkn]
    refine iter_list (L := L') (vs := strValues e.ss) (fun j m₂ news₂ => ∃ esj rsj epj, news₂ = (it, o) :: (rl, { cls := .type "list", data := .seq (strValues rsj).toArray epj }) :: sled w ⟨x, dx, d, t1, t2, t3, t4, .ref rl, po, tp, fi + i, tf6⟩ od esj ∧
      esj.map shape = es.map shape ∧ rsj.length ≤ i * 1000 + j ∧ (viewOf esj, rsj.map (·.1)) = ((e.ss.take j).map (·.1)).foldl decS (setnp (-2) (viewOf esi) rs[i].1, rsi.map (·.1)) ∧ Vars m₂ [("self", .ref x), ("n2i", .ref d), ("nodes", .ref D)]) rfl rfl F11 N14 ?hl2 ?hj2 ?turn2 ?done2
    case hl2 =>
      rintro h j m₂ news₂ ⟨esj, rsj, epj, rfl, hshj, _⟩ _ Nj
      obtain ⟨e', he', h1⟩ := shape_mem hshj he0
      have h2 := shape_lst (h1.trans hes0.symm)
      have h3 : (e'.sa, e'.lst) ∈ sled w ⟨x, dx, d, t1, t2, t3, t4, .ref rl, po, tp, fi + i, tf6⟩ od esj := sled_sa he'
      have h4 := (Nj _ (.tail _ (.tail _ h3))).1
      simp only [h2.2.2.1, Ent.lst, h2.2.2.2.1] at h4
      exact ⟨_, h4, rfl, _, rfl⟩
    case hj2 => exact ⟨_, rsi, epi, rfl, hsh2, by omega, by rw [hvw]; rfl, ⟨rfl, rfl, rfl, trivial⟩⟩
    case done2 =>
      intro m₂ news₂ h15 tk15 hJ Fj Nj
      refine ex3_5 hJ ?_; clear hJ
      intro esj rsj epj hn6 hshj hlenj hvj hVj
      replace Nj := newsE hn6 Nj
      clear hn6 news₂
      have Fk := frs Fj hVj
      have haj := shape_addrs ⟨x, dx, d, t1, t2, t3, t4, .ref rl, po, tp, fi + i, tf6⟩ hshj
      have hndj : (addrs ⟨x, dx, d, t1, t2, t3, t4, .ref rl, po, tp, fi + i, tf6⟩ esj).Nodup := by rw [haj]; exact st.nodup
      have hoff7 := addrs_off hndj
      have hoffx := hoff7.1
      have m2 : @Ne Nat rl dx := nx hrn addrs_dx
      have m5 : @Ne Nat it dx := (hitn dx (List.mem_cons_of_mem _ addrs_dx)).symm
      have m6 : @Ne Nat dx x := hoff7.2.1
      have m7 : @Ne Nat dx d := hoff7.2.2
      dsimp only at hoffx
      unfold sled at Nj
      dsimp only at Nj
      dsimp only
      generalize hZj : esj.flatMap Ent.led = Zj at Nj hoffx
      clear Fj
      repeat' walk1
      rename Fr g L' _ _ => F16
      rename News g L' _ _ => N16
      refine ex1_1 (⟨_, N16⟩ : ∃ tf7, News g L' _ ((it, o) :: (rl, { cls := .type "list", data := .seq (strValues rsj).toArray epj }) :: (x, instObj 190 dx) :: (dx, Hdr.dict w ⟨x, dx, d, t1, t2, t3, t4, .ref rl, po, tp, fi + i + 1, tf7⟩) :: (d, od) :: Zj)) ?_
      intro tf7 N17
      clear N16
      have hfi : fi + (i : Int) + 1 = fi + ((i + 1 : Nat) : Int) := by omega
      rw [hfi, ← hZj] at N17
      refine hK1 _ _ <| Turn.next F16 (news' := (rl, { cls := .type "list", data := .seq (strValues rsj).toArray epj }) :: sled w ⟨x, dx, d, t1, t2, t3, t4, .ref rl, po, tp, fi + ((i + 1 : Nat) : Int), tf7⟩ od esj) N17 ?off ⟨esj, rsj, epj, tf7, rfl, hshj, ?ln, ?vw, ⟨rfl, rfl, rfl, trivial⟩⟩
      case off =>
        exact apC (hitn _ (.head _)) fun p hp => hitn _ (.tail _ (shape_addrs ⟨x, dx, d, t1, t2, t3, t4, .ref rl, po, tp, fi + ((i + 1 : Nat) : Int), tf7⟩ hshj ▸ sled_at hp))
      case ln =>
        have : (strValues e.ss).length = e.ss.length := by simp [strValues]
        omega
      case vw =>
        have : (strValues e.ss).length = e.ss.length := by simp [strValues]
        rw [hfold, hvj, this, List.take_length]
    case turn2 =>
      intro j v m₂ news₂ h15 tk15 it2 o2 hit2 hv2 hJ hapj Fj Nj
      refine hideT fun K2 hK2 => ?_
      refine ex3_5 hJ ?_; clear hJ
      intro esj rsj epj hn6 hshj hlenj hvj hVj
      replace Nj := newsE1 hn6 Nj
      replace hapj := apE hn6 hapj
      clear hn6 news₂
      refine (str_at hv2).elim fun hjl hve => asgE hve ?_
      clear hve
      have Fk := frs Fj hVj
      clear Fj
      have haj := shape_addrs ⟨x, dx, d, t1, t2, t3, t4, .ref rl, po, tp, fi + i, tf6⟩ hshj
      have hndj : (addrs ⟨x, dx, d, t1, t2, t3, t4, .ref rl, po, tp, fi + i, tf6⟩ esj).Nodup := by rw [haj]; exact st.nodup
      have hknj : (esj.map (·.key)).Nodup := by rw [shape_keys hshj]; exact keys_nodup st
      refine ex1_2 (hss e0 he0 e.ss[j] (by rw [← (shape_lst hes0).2.2.2.1]; exact List.getElem_mem hjl)) ?_
      intro e1 he1 hek1
      refine ex1_2 (shape_mem hshj he1) ?_
      intro e2 he2 hes1
      have hek2 : e2.key = e.ss[j].1 := (shape_lst hes1).1.trans hek1
      refine ex2_1 (List.append_of_mem he2) ?_
      intro pre2 post2 hes2
      have hodj : od.IsDictOf (PySem.strKind prog w) (kvsOf esj) := by rw [shape_kvs hshj]; exact hod
      have hva2 : valueAt (kvsOf esj) e.ss[j].1 = some (.ref e2.a) := val_at he2 hknj hek2
      have Nq : News g L' h15 (sled w ⟨x, dx, d, t1, t2, t3, t4, .ref rl, po, tp, fi + i, tf6⟩ od esj) := fun p hp => Nj p (.tail _ (.tail _ (.tail _ hp)))
      have N16 := split_news hes2 Nq
      have ap2 := split_apart hes2 hndj
      dsimp only at N16 ap2
      refine ex0_8 ap2 ?_
      intro cp1 cp2 cp3 cp4 cp5 cp6 cp7 cp8
      have cp41 := cp4.1
      have cp42 := cp4.2.1
      have cp43 := cp4.2.2
      have cp51 := cp5.1
      have cp52 := cp5.2.1
      have cp53 := cp5.2.2
      have cp61 := cp6.1
      have cp62 := cp6.2.1
      have cp63 := cp6.2.2
      have hapS2 := apR fun p hp => hapj p (.tail _ (.tail _ hp))
      have hea2 : e2.a ∈ addrs ⟨x, dx, d, t1, t2, t3, t4, .ref rl, po, tp, fi, tf⟩ es := haj ▸ addrs_a he2
      have k1 : @Ne Nat it2 e2.a := (hapS2 _ (addrs_a he2)).symm
      have k2 : @Ne Nat it e2.a := (hitn _ (.tail _ hea2)).symm
      have k3 : @Ne Nat rl e2.a := nx hrn hea2
      have k4 : @Ne Nat it2 rl := (hapj _ (.tail _ (.head _))).symm
      have k5 : @Ne Nat it rl := (hitn _ (.head _)).symm
      have k6 : @Ne Nat rl x := nx hrn addrs_x
      have k7 : @Ne Nat rl dx := nx hrn addrs_dx
      have k8 : @Ne Nat rl d := nx hrn addrs_d
      have k9 : @Ne Nat rl e2.sa := nx hrn (haj ▸ addrs_sa he2)
      have k10 : @Ne Nat rl e2.da := nx hrn (haj ▸ addrs_da he2)
      have hoffr : ∀ p ∈ (pre2 ++ post2).flatMap Ent.led, p.1 ≠ rl := fun p hp h => hrn (h ▸ hsled _ hshj p (sled_rest hes2 hp))
      generalize hZ2 : (pre2 ++ post2).flatMap Ent.led = Z2 at N16 cp7 cp8 hoffr
      have N17 : News g L' h15 ((it2, o2) :: (it, o) :: (rl, { cls := .type "list", data := .seq (strValues rsj).toArray epj }) :: (e2.a, e2.obj) :: (e2.sa, e2.lst) :: (e2.da, dictOf [] 0) :: (x, instObj 190 dx) :: (dx, Hdr.dict w ⟨x, dx, d, t1, t2, t3, t4, .ref rl, po, tp, fi + i, tf6⟩) :: (d, od) :: Z2) := newsC (newsH Nj) (newsC (newsH (newsT Nj)) (newsC (newsH (newsT (newsT Nj))) N16))
      clear N16 Nq Nj ap2
      have hit2n : ∀ a ∈ rl :: addrs ⟨x, dx, d, t1, t2, t3, t4, .ref rl, po, tp, fi, tf⟩ es, a ≠ it2 := fun a ha => (List.mem_cons.mp ha).elim (fun e => e ▸ hapj _ (.tail _ (.head _))) fun ha => hapS2 a (haj ▸ ha)
      have hii : @Ne Nat it it2 := hapj _ (.head _)
      have hall : ∀ (o2 : Obj) p, p ∈ (e2.sa, o2) :: (e2.da, dictOf [] 0) :: (x, instObj 190 dx) :: (dx, Hdr.dict w ⟨x, dx, d, t1, t2, t3, t4, .ref rl, po, tp, fi + i, tf6⟩) :: (d, od) :: Z2 → p.1 ≠ e2.a := by
        exact fun o2 => apC cp1.symm (apC cp2.symm (apC cp4.1.symm (apC cp4.2.1.symm (apC cp4.2.2.symm cp7))))
      have hall2 : ∀ (o2 o3 : Obj) p, p ∈ (e2.a, o2) :: (e2.sa, o3) :: (e2.da, dictOf [] 0) :: (x, instObj 190 dx) :: (dx, Hdr.dict w ⟨x, dx, d, t1, t2, t3, t4, .ref rl, po, tp, fi + i, tf6⟩) :: (d, od) :: Z2 → p.1 ≠ rl := by
        exact fun o2 o3 => apC k3.symm (apC k9.symm (apC k10.symm (apC k6.symm (apC k7.symm (apC k8.symm hoffr)))))
      generalize hr : e.ss[j] = r at hek2 hva2 ⊢
      have hr2 : e.ss[j]? = some r := by rw [List.getElem?_eq_getElem hjl, hr]
      have hshk : ∀ nt2, (pre2 ++ { e2 with np := e2.np - 1, nt := nt2 } :: post2).map shape = es.map shape := fun nt2 => (shape_upd hes2).trans hshj
      have hvk : ∀ nt2, viewOf (pre2 ++ { e2 with np := e2.np - 1, nt := nt2 } :: post2) = bump r.1 (-1) (viewOf esj) := fun nt2 => by
        rw [view_upd hes2 hknj (fun y => (y.1, y.2.1 + (-1), y.2.2)) (by simp [Ent.view]; omega), hek2]; rfl
      have hnk : npAt (bump r.1 (-1) (viewOf esj)) r.1 = e2.np - 1 := by
        rw [← hvk 0, ← hek2]
        refine npAt_view (e := { e2 with np := e2.np - 1, nt := 0 }) (List.mem_append_right _ (.head _)) ?_
        rw [shape_keys (hshk 0), ← shape_keys hshj]; exact hknj
      have hfo : ((e.ss.take (j + 1)).map (·.1)).foldl decS (setnp (-2) (viewOf esi) rs[i].1, rsi.map (·.1)) = decS (viewOf esj, rsj.map (·.1)) r.1 := by
        rw [List.take_add_one, hr2, List.map_append, List.foldl_append, ← hvj]; rfl
      have hoff : ∀ nt2, ∀ (o3 : Obj), ∀ p ∈ (it, o) :: (rl, o3) :: sled w ⟨x, dx, d, t1, t2, t3, t4, .ref rl, po, tp, fi + i, tf6⟩ od (pre2 ++ { e2 with np := e2.np - 1, nt := nt2 } :: post2), p.1 ≠ it2 := by
        exact fun nt2 o3 => apC hii (apC (hit2n _ (.head _)) fun p hp => hit2n _ (.tail _ (hsled _ (hshk nt2) p hp)))
      have hlj : (strValues rsj).toArray.size + 1 ≤ 200000 := by simp [strValues]; have : i * 1000 ≤ 100 * 1000 := Nat.mul_le_mul_right _ (by omega); omega
      have end1 : ∀ nt2 h21 tk21 m21, e2.np - 1 = 0 → Fr g L' h21 m21 → Vars m21 [("self", .ref x), ("n2i", .ref d), ("nodes", .ref D)] → News g L' h21 ((it2, o2) :: (it, o) :: (rl, W.listOf ((strValues rsj).toArray.push (.str r.1 r.2)) (epj + 1)) :: (e2.a, Ent.obj { e2 with np := e2.np - 1, nt := nt2 }) :: (e2.sa, Ent.lst { e2 with np := e2.np - 1, nt := nt2 }) :: (e2.da, dictOf [] 0) :: (x, instObj 190 dx) :: (dx, Hdr.dict w ⟨x, dx, d, t1, t2, t3, t4, .ref rl, po, tp, fi + i, tf6⟩) :: (d, od) :: Z2) → K2 .next { s with heap := h21, toks := tk21 } := by
        intro nt2 h21 tk21 m21 hx F21 V21 N21
        have elst : W.listOf ((strValues rsj).toArray.push (.str r.1 r.2)) (epj + 1) = { cls := .type "list", data := .seq (strValues (rsj ++ [r])).toArray (epj + 1) } := by simp [strValues, W.listOf]
        rw [elst, ← hZ2] at N21
        have N22 := news_back (w := w) (q := ⟨x, dx, d, t1, t2, t3, t4, .ref rl, po, tp, fi + i, tf6⟩) (od := od) (pre := pre2) (post := post2) (e := { e2 with np := e2.np - 1, nt := nt2 }) [(it2, o2), (it, o), (rl, { cls := .type "list", data := .seq (strValues (rsj ++ [r])).toArray (epj + 1) })] N21
        refine hK2 _ _ <| Turn.next F21 N22 (hoff _ _) ⟨_, rsj ++ [r], epj + 1, rfl, hshk _, by rw [List.length_append]; simp only [List.length_cons, List.length_nil]; omega, ?_, V21⟩
        rw [hfo, hvk]
        unfold decS
        dsimp only
        rw [hnk, if_pos hx, List.map_append]; rfl
      have end2 : ∀ nt2 h21 tk21 m21, ¬ e2.np - 1 = 0 → Fr g L' h21 m21 → Vars m21 [("self", .ref x), ("n2i", .ref d), ("nodes", .ref D)] → News g L' h21 ((it2, o2) :: (it, o) :: (rl, { cls := .type "list", data := .seq (strValues rsj).toArray epj }) :: (e2.a, Ent.obj { e2 with np := e2.np - 1, nt := nt2 }) :: (e2.sa, Ent.lst { e2 with np := e2.np - 1, nt := nt2 }) :: (e2.da, dictOf [] 0) :: (x, instObj 190 dx) :: (dx, Hdr.dict w ⟨x, dx, d, t1, t2, t3, t4, .ref rl, po, tp, fi + i, tf6⟩) :: (d, od) :: Z2) → K2 .next { s with heap := h21, toks := tk21 } := by
        intro nt2 h21 tk21 m21 hx F21 V21 N20
        rw [← hZ2] at N20
        have N22 := news_back (w := w) (q := ⟨x, dx, d, t1, t2, t3, t4, .ref rl, po, tp, fi + i, tf6⟩) (od := od) (pre := pre2) (post := post2) (e := { e2 with np := e2.np - 1, nt := nt2 }) [(it2, o2), (it, o), (rl, { cls := .type "list", data := .seq (strValues rsj).toArray epj })] N20
        refine hK2 _ _ <| Turn.next F21 N22 (hoff _ _) ⟨_, rsj, epj, rfl, hshk _, by omega, ?_, V21⟩
        rw [hfo, hvk]
        unfold decS
        dsimp only
        rw [hnk, if_neg hx]
      clear hshk hvk hnk hfo hoff hK0 hK1 hK2
      clear hr hr2
      clear hek1 he1 hv2
      clear F11 N14
      clear hvj hlenj hshj hknj hes2 hek2 hit2n hitn hsled he2 hjl hrs hsl hfold hvw hsh2 had hnp0 hv6 kk hin hss hzs hlen6 hapj hap hes1 hek he hes hes0 he0 hek0 hnp hkn hnd6 ha6 haj hea hea2 hit hit2 hndj hapS hapS2 hZ2 hZ9 hsh hV6 hVj hva hod6 hrn own3 own st hrl hZ hhas H N
      dsimp only
      iterate 8 walk1
      rename Fr g L' _ _ => F18
      rename News g L' _ _ => N17
      refine kda_item (knd := PySem.strKind _ _) N17 (by k_mem) hodj (strKind_is _ _ _ _) hva2 ?_
      iterate 7 walk1
      dsimp only
      rename Fr g L' _ _ => F18
      rename News g L' _ _ => N17
      refine' set_slot F18 X N17 ?k4 ?k5 ?k6 ?k7 ?k8 ?k9 ?k10 ?k11 ?k12 (.tail k1 (.tail k2 (.tail k3 (.head (hall _))))) ?_
      case k4 => k_inst
      case k5 => k_is
      case k6 => k_is
      case k7 => k_is
      case k8 => k_is
      case k9 => k_is
      case k10 => decide
      case k11 => k_slotset
      case k12 => exact rfl
      intro h19 F19 N19
      clear F18 N17
      refine ex1_1 (⟨_, N19⟩ : ∃ nt2, News g L' h19 ((it2, o2) :: (it, o) :: (rl, { cls := .type "list", data := .seq (strValues rsj).toArray epj }) :: (e2.a, Ent.obj { e2 with np := e2.np - 1, nt := nt2 }) :: (e2.sa, Ent.lst { e2 with np := e2.np - 1, nt := nt2 }) :: (e2.da, dictOf [] 0) :: (x, instObj 190 dx) :: (dx, Hdr.dict w ⟨x, dx, d, t1, t2, t3, t4, .ref rl, po, tp, fi + i, tf6⟩) :: (d, od) :: Z2)) ?_
      intro nt2 N20
      clear N19
      dsimp only
      repeat' walk1
      · rename Fr g L' _ _ => F21
        rename News g L' _ _ => N21
        exact end1 _ _ _ _ (by assumption) F21 ⟨rfl, rfl, rfl, trivial⟩ N21
      · rename Fr g L' _ _ => F21
        rename News g L' _ _ => N21
        exact end2 _ _ _ _ (by assumption) F21 ⟨rfl, rfl, rfl, trivial⟩ N21
end Mine
end

section
open PySem PySem.W PyProof.Rows PySem.Calls
set_option maxHeartbeats 4000000
namespace Mine
section
variable {n : Nat} {prog : Program} {w : World} {A : Around} {s : Shared} {h₀ : Heap} {L : Addr} {m : Str → Option Value} {R : Result → Shared → Prop} {E : Value → Shared → Prop}
theorem enterT {name qual : Str} {params : Arguments} {body : List Stmt} {scope : Scope} {dV kV doc pm cdv ct oc : Value} {an od : Option Addr} {osl : Array (Option Value)} {f : Addr} {args : Args} {binds : List (Str × Value)}
    {env : Env} {outer : List Env} {oL : Obj} {frs : List (Addr × Obj)} {p : Program} {loose : List Str} {mean : ExcName → Option Value} {mg mb : Str → Option Value}
    (hdp : A.depth ≤ 500) (hfrA : A.frames = some (env :: outer))
    (X : (Mine.hd.heap_39 w.params).In h₀) (T : Top p loose mean mg mb h₀) (F : Fr h₀ L s.heap m) (sub : List (Addr × Obj)) (N : News h₀ L s.heap (sub ++ frs))
    (Fs : TI.Frs (env :: outer) ((L, oL) :: frs)) (hL : s.heap.get? L = some oL)
    (ho : (Mine.hd.heap_39 w.params).lookup f = some ⟨oc, od, .func (fnOf name qual params body scope dV kV doc pm an cdv ct), osl⟩) (hcd : codeIn (Mine.hd.heap_39 w.params) cdv qual = true)
    (hbind : BindsTo s (fnOf name qual params body scope dV kV doc pm an cdv ct) args binds) (hloc : ∀ y ∈ binds, scope.names.lookup y.1 = some .local)
    (hco : scope.isCoroutine = false) (hgen : scope.isGenerator = false) (hk : scope.kind = .function)
    (hcell : ∀ x ∈ scope.names, x.2 ≠ .cell)
    (h : ∀ g L' h₁, g = hideAll s.heap ((sub ++ (L, oL) :: frs).map (·.1)) → (A.deeper (envOf qual scope L' f cdv)).frames = some (envOf qual scope L' f cdv :: env :: outer) → (Mine.hd.heap_39 w.params).In g → Top p loose mean mg mb g → Fr g L' h₁ (fun y => binds.reverse.lookup y) → News g L' h₁ (sub ++ (L, oL) :: frs) →
      wpAny (model prog w) (A.deeper (envOf qual scope L' f cdv)) (execs body (envOf qual scope L' f cdv))
        (Done g L' ((sub ++ (L, oL) :: frs).map (·.1)) s.heap R) (fun _ _ => False)
        { s with heap := h₁, toks := s.toks + binds.length }) : codeAny (model prog w) A (.call (.ref f) args) R s := by
  have hroom : A.depth < recursionLimit := by show A.depth < 1000; omega
  have XS := X.keeps F.keep
  have st : ∀ b o, h₀.get? b = some o → (hideAll s.heap ((sub ++ (L, oL) :: frs).map (·.1))).get? b = some o := fun b o e => by
    refine hideAll_get _ (F.keep b o e) fun hm => ?_
    simp only [List.map_append, List.map_cons, List.mem_append, List.mem_cons] at hm
    rcases hm with hm | rfl | hm
    · obtain ⟨q, hq, rfl⟩ := List.mem_map.mp hm
      have := (N q (List.mem_append_left _ hq)).2.2; rw [e] at this; cases this
    · exact absurd (Nat.lt_of_lt_of_le (Heap.lt_size e) F.above) (Nat.lt_irrefl _)
    · obtain ⟨q, hq, rfl⟩ := List.mem_map.mp hm
      have := (N q (List.mem_append_right _ hq)).2.2; rw [e] at this; cases this
  have hin : ∀ q ∈ sub ++ (L, oL) :: frs, s.heap.get? q.1 = some q.2 := fun q hq => by
    rcases List.mem_append.mp hq with hq | hq
    · exact (N q (List.mem_append_left _ hq)).1
    · rcases List.mem_cons.mp hq with rfl | hq
      · exact hL
      · exact (N q (List.mem_append_right _ hq)).1
  refine codeAny_call_def (fd := fnOf name qual params body scope dV kV doc pm an cdv ct) (body := body) (binds := binds) hroom (XS _ _ ho) rfl (T.nolimit.keeps F.keep) (codeRec_of XS hcd) rfl hbind hcell hloc (fun h₁ hns hk₁ => ?_) hco hgen hk
  refine wpAny_mono (h _ s.heap.objs.size h₁ rfl (Around.frames_deeper hfrA) (X.keeps st) (T.keeps st) ⟨hns, fun b o e => hk₁ b o (of_hideAll _ e), Nat.le_of_eq (hideAll_size _ _)⟩
    (fun p hp => ⟨hk₁ _ _ (hin p hp), Nat.ne_of_lt (Heap.lt_size (hin p hp)), hideAll_none _ (List.mem_map_of_mem hp)⟩)) (fun fl s' hl => ?_) fun _ _ y => y.elim
  obtain ⟨m', F', k⟩ := hl
  exact k fun b o nb e => F'.keep b o (hideAll_get _ e nb)
end
end Mine
end

section
open PySem PySem.W PyProof.Rows PySem.Calls
namespace Mine
section
variable {M : Model} {A : Around} {E : Value → Shared → Prop} {s : Shared}
theorem stop_raised {α : Type} {Q : α → Shared → Prop} (hh : A.handled = none) (h : ∀ h' e, Heap.NewExc s.heap h' e "StopIteration" → E (.ref e) { s with heap := h' }) :
    wpAny M A (newExc (.type "StopIteration") [] >>= fun e => (raiseNew e : Sem α)) Q E s := by
  have made : wpAny M A (newExc (.type "StopIteration") []) (fun v s' => ∃ h' e, v = .ref e ∧ s' = { s with heap := h' } ∧ Heap.NewExc s.heap h' e "StopIteration") E s := by
    unfold newExc newTuple
    have none_first : (firstArgMember (.type "StopIteration") [] : Sem Value) = pure .none := rfl
    refine wpAny_bind (wpAny_newObj_type ?_ (Nat.zero_le _))
    rw [none_first]
    refine wpAny_bind (wpAny_pure (wpAny_newObj_type ⟨_, _, rfl, rfl, ⟨?old, ?new, ⟨_, _, Heap.get?_push_size _ rfl, rfl, rfl⟩⟩⟩ (by size_fits)))
    case old => exact fun b o hb => Heap.get?_push_of_some _ (Heap.get?_push_of_some _ hb)
    case new => exact Heap.get?_none_of_le (Nat.le_of_lt (by rw [Heap.size_push]; exact Nat.lt_succ_self _))
  refine wpAny_bind (wpAny_mono made ?_ fun _ _ x => x)
  rintro _ _ ⟨h', e, rfl, rfl, hx⟩
  exact wpAny_raiseNew_none hh (h h' e hx)
theorem stop_is {h h' : Heap} {e : Addr} {s : Shared} (x : Heap.NewExc h h' e "StopIteration") (hs : s.heap = h') : s.TypeIs (.ref e) "StopIteration" := by
  obtain ⟨o, _, ho, hc, _⟩ := x.there
  exact ⟨o, hs ▸ ho, hc⟩
theorem stop_ext {h g g' : Heap} {I e : Addr} (a : Heap.SameBut I h g) (x : Heap.NewExc g g' e "StopIteration") : Heap.ExtBut I h g' := fun b o hb ho => x.keeps b o ((a.2 b hb).trans ho)
end
end Mine
end

section
open PySem PySem.W PyProof.Rows PySem.Calls
set_option maxHeartbeats 4000000
namespace Mine
section
variable {prog : Program} {w : World} {A : Around} {s : Shared} {E : Value → Shared → Prop}
noncomputable def nextOf (it : Addr) : Obj := { cls := .type "method-wrapper", data := .fields #[.builtin "list_iterator.__next__", .ref it] }
noncomputable def iterOf (l : Addr) (i : Nat) : Obj := { cls := .type "list_iterator", data := .fields #[.ref l, .int i 0] }
theorem check_next (a : Value) : checkBoundCall "list_iterator.__next__" ⟨[a], []⟩ = pure () := by first | kernel_rfl | rfl
theorem plain_next : plainId "list_iterator.__next__" = true := by decide +kernel
theorem mw_call {mw it : Addr} {Q : Value → Shared → Prop} (hmw : s.heap.get? mw = some (nextOf it))
    (hc : wpAny (model prog w) A.in1 (Builtin.«list_iterator.__next__» ⟨[.ref it], []⟩) (fun fin s' => ∃ v, fin = .done (.ret v) ∧ Q v s') E s) : wpAny (model prog w) A (call (.ref mw) []) Q E s := by
  refine wpAny_call (codeAny_of_tree ?_)
  show wpAny _ A.in1 (callAny (.ref mw) ⟨[], []⟩) _ _ s
  simp only [callAny]
  refine wpAny_bind (wpAny_load hmw ?_)
  simp only [nextOf, show (Value.type "method-wrapper" == Value.type "method" || Value.type "method-wrapper" == Value.type "builtin_function_or_method" || Value.type "method-wrapper" == Value.type "method-wrapper") = true by decide, if_true]
  refine KFB.if_so (by decide) ?_
  refine wpAny_bind (wpAny_of_eq (a := ()) (check_next _) ?_)
  refine wpAny_bind (wpAny_pure (wpAny_pure ?_))
  refine ⟨plainId_quiet plain_next _, codeAny_builtin entry_listiter_next ?_⟩
  rw [Around.under_plainId plain_next]
  refine wpAny_mono hc (fun fin s' h' => ?_) fun _ _ h' => h'
  obtain ⟨v, rfl, hv⟩ := h'
  exact hv
theorem next_both {A : Around} {it l : Addr} {i : Nat} {items : Array Value} {Q : Fin → Shared → Prop} (hh : items[i]? = none → A.handled = none) (ho : s.heap.get? it = some (iterOf l i)) (hl : s.heap.IsList l items)
    (some_ : ∀ x h', items[i]? = some x → Heap.SameBut it s.heap h' → h'.get? it = some (iterOf l (i + 1)) → Q (.done (.ret x)) { s with heap := h' })
    (none_ : ∀ h' h'' e, items[i]? = none → Heap.SameBut it s.heap h' → Heap.NewExc h' h'' e "StopIteration" → E (.ref e) { s with heap := h'' }) :
    wpAny (model prog w) A (Builtin.«list_iterator.__next__» ⟨[.ref it], []⟩) Q E s := by
  let ⟨ol, hol, _, nl, hdl⟩ := hl
  have read : ∀ {j x} {R : Value → Shared → Prop}, #[Value.ref l, .int i 0][j]? = some x → R x s → wpAny (model prog w) A (field (.ref it) j) R E s := fun hj hr => wpAny_field ho rfl hj hr
  have write : ∀ {j x} {R : Unit → Shared → Prop}, j < 2 → R () { s with heap := s.heap.update it (Obj.mapFields (·.setIfInBounds j x)) } → wpAny (model prog w) A (setField (.ref it) j x) R E s := fun hj hr => wpAny_setField ho rfl hj hr
  have far (j : Nat) (x : Value) : Heap.SameBut it s.heap (s.heap.update it (Obj.mapFields (·.setIfInBounds j x))) := Heap.SameBut.update ..
  have there : (Value.ref l == Value.none) = false := rfl
  refine wpAny_bind (wpAny_of_eq (a := (Value.ref it, [])) rfl (wpAny_bind (read (j := 0) (x := .ref l) rfl ?_)))
  simp only [there, Bool.false_eq_true, if_false]
  refine wpAny_bind (read (j := 1) (x := .int i 0) rfl (wpAny_bind (wpAny_seqItems hol hdl ?_)))
  simp only [Int.toNat_natCast]
  cases hx : items[i]? with
  | some x =>
    refine wpAny_bind (write (j := 1) (by decide) (wpAny_pure (some_ x _ hx (far ..) ?_)))
    exact (Heap.get?_update_self (Obj.mapFields (·.setIfInBounds 1 (rawInt ((i : Int) + 1)))) ho rfl).trans rfl
  | none => exact wpAny_bind (wpAny_rule (wpAny_bind (write (j := 0) (by decide) (stop_raised (hh hx) fun h'' e he => none_ _ h'' e hx (far ..) he))))
theorem mw_item {mw it l : Addr} {i : Nat} {items : Array Value} {x : Value} {Q : Value → Shared → Prop} (hmw : s.heap.get? mw = some (nextOf it)) (ho : s.heap.get? it = some (iterOf l i)) (hl : s.heap.IsList l items) (hx : items[i]? = some x)
    (hQ : ∀ h', Heap.SameBut it s.heap h' → h'.get? it = some (iterOf l (i + 1)) → Q x { s with heap := h' }) : wpAny (model prog w) A (call (.ref mw) []) Q E s :=
  mw_call hmw (next_both (fun hn => by rw [hn] at hx; cases hx) ho hl (fun y h' hy hb hi => ⟨y, rfl, Option.some.inj (hx.symm.trans hy) ▸ hQ h' hb hi⟩) fun _ _ _ hn => by rw [hn] at hx; cases hx)
theorem mw_stop {mw it l : Addr} {i : Nat} {items : Array Value} {Q : Value → Shared → Prop} (hh : A.handled = none) (hmw : s.heap.get? mw = some (nextOf it)) (ho : s.heap.get? it = some (iterOf l i)) (hl : s.heap.IsList l items) (hx : items[i]? = none)
    (hQ : ∀ h' h'' e, Heap.SameBut it s.heap h' → Heap.NewExc h' h'' e "StopIteration" → E (.ref e) { s with heap := h'' }) : wpAny (model prog w) A (call (.ref mw) []) Q E s :=
  mw_call hmw (next_both (fun _ => hh) ho hl (fun y _ hy => by rw [hx] at hy; cases hy) fun h' h'' e _ => hQ h' h'' e)
noncomputable def WTurn (g : Heap) (L : Addr) (J : Nat → (Str → Option Value) → List (Addr × Obj) → Prop) (s : Shared) (Q : Flow → Shared → Prop) (n : Nat) (f : Flow) (s' : Shared) : Prop :=
  match f with
  | .next | .cont => ∃ h' tk m' news' n', s' = { s with heap := h', toks := tk } ∧ Fr g L h' m' ∧ News g L h' news' ∧ n' < n ∧ J n' m' news'
  | .brk => Q .next s'
  | .ret v => Q (.ret v) s'
theorem WTurn.next {g : Heap} {L : Addr} {J : Nat → (Str → Option Value) → List (Addr × Obj) → Prop} {Q : Flow → Shared → Prop} {n n' : Nat} {h' : Heap} {tk : Nat} {m' : Str → Option Value} {news' : List (Addr × Obj)}
    (F : Fr g L h' m') (N : News g L h' news') (hn : n' < n) (j : J n' m' news') : WTurn g L J s Q n .next { s with heap := h', toks := tk } := ⟨h', tk, m', news', n', rfl, F, N, hn, j⟩
theorem while_rule {g : Heap} {L : Addr} {env : Env} {test : Expr} {body orelse : List Stmt} {pos : Pos} {Q : Flow → Shared → Prop} {m : Str → Option Value} {news : List (Addr × Obj)} (J : Nat → (Str → Option Value) → List (Addr × Obj) → Prop) {n₀ : Nat}
    (F : Fr g L s.heap m) (N : News g L s.heap news) (hJ : J n₀ m news)
    (turn : ∀ n m₁ news₁ h₁ tk₁, Fr g L h₁ m₁ → News g L h₁ news₁ → J n m₁ news₁ →
      wpAny (model prog w) A (isTrue test env (eval test env)) (fun b s₂ =>
        if b = true then wpAny (model prog w) A (execs body env) (WTurn g L J s Q n) (fun _ _ => False) s₂ else wpAny (model prog w) A (execs orelse env) Q (fun _ _ => False) s₂) (fun _ _ => False) { s with heap := h₁, toks := tk₁ }) :
    wpAny (model prog w) A (exec (.While test body orelse pos) env) Q E s := by
  refine wpAny_While (codeAny_whileLoop (fun n s' => ∃ h₁ tk₁ m₁ news₁, s' = { s with heap := h₁, toks := tk₁ } ∧ Fr g L h₁ m₁ ∧ News g L h₁ news₁ ∧ J n m₁ news₁) ?_ n₀ ⟨s.heap, s.toks, m, news, rfl, F, N, hJ⟩)
  rintro n s' ⟨h₁, tk₁, m₁, news₁, rfl, F₁, N₁, J₁⟩
  refine wpAny_mono (turn n m₁ news₁ h₁ tk₁ F₁ N₁ J₁) (fun b s₂ h₂ => ?_) fun _ _ x => x.elim
  cases b with
  | false =>
    simp only [Bool.false_eq_true, if_false] at h₂ ⊢
    exact wpAny_mono h₂ (fun _ _ x => x) fun _ _ x => x.elim
  | true =>
    simp only [if_true] at h₂ ⊢
    refine wpAny_mono h₂ (fun f s₃ h₃ => ?_) fun _ _ x => x.elim
    cases f with
    | ret v => exact h₃
    | brk => exact h₃
    | next =>
      obtain ⟨h', tk, m₂, news₂, n', rfl, F₂, N₂, hn, J₂⟩ := h₃
      exact ⟨n', hn, h', tk, m₂, news₂, rfl, F₂, N₂, J₂⟩
    | cont =>
      obtain ⟨h', tk, m₂, news₂, n', rfl, F₂, N₂, hn, J₂⟩ := h₃
      exact ⟨n', hn, h', tk, m₂, news₂, rfl, F₂, N₂, J₂⟩
end
end Mine
end

section
open PySem PySem.W PyProof.Rows PySem.Calls Builtin Builtin.ObjectAttr
set_option maxHeartbeats 4000000
namespace Mine
theorem slot_li_ga : Slot "list_iterator" "__getattribute__" "object.__getattribute__" :=
  .of (owner := "object") (n := "__getattribute__") (by rw [typeLookup_type, builtinLookup_eq_fast]; kernel_rfl) (by decide +kernel) (by decide +kernel) (by decide +kernel)
    (by first | exact .inl (by decide +kernel) | exact .inr (by decide +kernel)) (by rw [isSubtype_type]; kernel_rfl)
theorem entry_li_ga : entryFor table "object.__getattribute__" = some Builtin.«object.__getattribute__» := by first | exact entryFor_of_fast (by kernel_rfl) | exact entryFor_of_tree (by kernel_rfl)
theorem li_getattr_none : typeLookup (.type "list_iterator") "__getattr__" = pure none := by rw [typeLookup_type, builtinLookup_eq_fast]; kernel_rfl
theorem args_li_ga (a b : Value) : argsOk "object.__getattribute__" ⟨[a, b], []⟩ := by unfold argsOk; kernel_rfl
theorem slot_wd_get : Slot "wrapper_descriptor" "__get__" "wrapper_descriptor.__get__" :=
  .of (owner := "wrapper_descriptor") (n := "__get__") (by rw [typeLookup_type, builtinLookup_eq_fast]; kernel_rfl) (by decide +kernel) (by decide +kernel) (by decide +kernel)
    (by first | exact .inl (by decide +kernel) | exact .inr (by decide +kernel)) (by rw [isSubtype_type]; kernel_rfl)
theorem entry_wd_get : entryFor table "wrapper_descriptor.__get__" = some Builtin.«wrapper_descriptor.__get__» := by first | exact entryFor_of_fast (by kernel_rfl) | exact entryFor_of_tree (by kernel_rfl)
theorem args_wd_get (a b c : Value) : argsOk "wrapper_descriptor.__get__" ⟨[a, b, c], []⟩ := by unfold argsOk; kernel_rfl
theorem ty_next : typeOf (.builtin "list_iterator.__next__") = pure (.type "wrapper_descriptor") := by kernel_rfl
theorem find_next : typeLookup (.type "list_iterator") "__next__" = pure (some (.builtin "list_iterator.__next__")) := slot_listiter_next.lookup
theorem sub_li : isSubtype (.type "list_iterator") (.type "list_iterator") = pure true := by rw [isSubtype_type]; kernel_rfl
theorem run_wd_get {prog : Program} {w : World} {A : Around} {E : Value → Shared → Prop} {s : Shared} {it l : Addr} {i : Nat} {P : Fin → Shared → Prop} (ho : s.heap.get? it = some (iterOf l i))
    (h : P (.done (.ret (.ref s.heap.objs.size))) { s with heap := s.heap.push (nextOf it) }) :
    wpAny (model prog w) A (Builtin.«wrapper_descriptor.__get__» ⟨[.builtin "list_iterator.__next__", .ref it, .type "list_iterator"], []⟩) P E s := by
  have hT : s.TypeIs (.ref it) "list_iterator" := ⟨_, ho, rfl⟩
  unfold Builtin.«wrapper_descriptor.__get__»
  refine wpAny_bind (wpAny_of_eq (a := (Value.builtin "list_iterator.__next__", some (Value.ref it), some (Value.type "list_iterator"))) (by rfl) ?_)
  show wpAny _ _ (_ >>= fun _ => _) _ _ _
  refine wpAny_bind ?_
  refine wpAny_bind (wpAny_of_eq (a := (Str.ofString "__next__", Value.type "list_iterator")) (by kernel_rfl) ?_)
  refine wpAny_bind (wpAny_isInstance (T := "list_iterator") (b := true) hT sub_li ?_)
  refine wpAny_pure ?_
  refine wpAny_bind ?_
  unfold newFields
  exact wpAny_newObj_type (wpAny_pure h) (by size_fits)
theorem wd_set : typeLookup (.type "wrapper_descriptor") "__set__" = pure none := by rw [typeLookup_type, builtinLookup_eq_fast]; kernel_rfl
theorem wd_del : typeLookup (.type "wrapper_descriptor") "__delete__" = pure none := by rw [typeLookup_type, builtinLookup_eq_fast]; kernel_rfl
theorem meets_next {prog : Program} {w : World} {A : Around} {E : Value → Shared → Prop} {s : Shared} {it l : Addr} {i : Nat} {u : Tok} {P : Fin → Shared → Prop} (ho : s.heap.get? it = some (iterOf l i))
    (h : P (.done (.ret (.ref s.heap.objs.size))) { s with heap := s.heap.push (nextOf it) }) :
    wpAny (model prog w) A (Builtin.«object.__getattribute__» ⟨[.ref it, .str "__next__" u], []⟩) P E s := by
  have hT : s.TypeIs (.ref it) "list_iterator" := ⟨_, ho, rfl⟩
  unfold Builtin.«object.__getattribute__»
  have f1 := find_next
  have f2 := ty_next
  have f3 := slot_wd_get.lookup
  have f4 := wd_set
  have f5 := wd_del
  unfold iterOf at ho
  repeat (any_goals (first | assumption | wp_step))
  refine codeAny_call_builtin slot_wd_get.plain entry_wd_get (slot_wd_get.check _ _ _ _ _ _ _ _ (by first | rfl | exact ty_next | trivial) (args_wd_get _ _ _) (run_wd_get (l := l) (i := i) ho ?_))
  exact wpAny_pure h
theorem attr_next {prog : Program} {w : World} {A : Around} {E : Value → Shared → Prop} {s : Shared} {it l : Addr} {i : Nat} {ex : Bool} {Q : Value → Shared → Prop} (ho : s.heap.get? it = some (iterOf l i))
    (h : ∀ tk, Q (.ref s.heap.objs.size) { s with heap := s.heap.push (nextOf it), toks := tk }) :
    wpAny (model prog w) A (getAttr (.ref it) "__next__" ex) Q E s := by
  obtain ⟨hp, g, d, tk, os⟩ := s
  have hT : ∀ tk', (⟨hp, g, d, tk', os⟩ : Shared).TypeIs (.ref it) "list_iterator" := fun _ => ⟨_, ho, rfl⟩
  have ho2 : hp.get? it = some { cls := .type "list_iterator", dict := none, data := .fields #[.ref l, .int i 0], slots := #[] } := ho
  clear ho
  have f3 := slot_li_ga.lookup
  have f4 := slot_li_ga.bind (.ref it)
  have f5 := li_getattr_none
  unfold getAttr getAttrBy
  repeat (any_goals (first | assumption | exact hT _ | ((with_reducible show wpAny _ _ (call (Value.builtin "object.__getattribute__") _ _) _ _ _); refine wpAny_call_entry slot_li_ga (hT _) entry_li_ga (meets_next (l := l) (i := i) ho2 ⟨_, rfl, ?_⟩) (args_li_ga _ _)) | wp_step))
  rw [if_neg (by simp [onTheHeap])]
  unfold boundAndCalled
  repeat (any_goals (first | assumption | exact hT _ | ((with_reducible show wpAny _ _ (call (Value.builtin "object.__getattribute__") _ _) _ _ _); refine wpAny_call_entry slot_li_ga (hT _) entry_li_ga (meets_next (l := l) (i := i) ho2 ⟨_, rfl, ?_⟩) (args_li_ga _ _)) | wp_step))
  exact h _
end Mine
end

section
open PySem PySem.W PyProof.Rows PySem.Calls
set_option maxHeartbeats 4000000
namespace Mine
section
variable {prog : Program} {w : World} {A : Around} {s : Shared} {g : Heap} {env : Env} {E : Value → Shared → Prop} {target : Expr} {body : List Stmt} {Q : Flow → Shared → Prop}
theorem iter_dict {d : Addr} {od : Obj} {kvs : List (Str × Value)} {m₀ : Str → Option Value} {news₀ : List (Addr × Obj)} (J : Nat → (Str → Option Value) → List (Addr × Obj) → Prop)
    {L : Addr} (_hL : env.locals = L) (hh : A.handled = none) (hsys : (d == sysModules) = false) (hod : od.IsDictOf (PySem.strKind prog w) kvs) (F : Fr g L s.heap m₀) (N : News g L s.heap news₀)
    (hl : ∀ i m₁ news₁, J i m₁ news₁ → (d, od) ∈ news₁) (hj : J 0 m₀ news₀)
    (turn : ∀ i k t m₁ news₁ h tk it o, it = s.heap.objs.size → (kvs.map (·.1))[i]? = some k → J i m₁ news₁ → (∀ p ∈ news₁, p.1 ≠ it) → Fr g L h m₁ → News g L h ((it, o) :: news₁) →
      wpAny (model prog w) A (assign target env (.str k t)) (fun _ s₂ => wpAny (model prog w) A (execs body env) (Turn g L (it, o) (J (i + 1)) s Q) (fun _ _ => False) s₂) (fun _ _ => False) { s with heap := h, toks := tk })
    (done : ∀ m₁ news₁ h tk, J kvs.length m₁ news₁ → Fr g L h m₁ → News g L h news₁ → Q .next { s with heap := h, toks := tk }) :
    wpAny (model prog w) A (pyIter (.ref d)) (fun it s₂ => codeAny (model prog w) A (.forLoop target it body [] env) (fun r s' => match r with | .ok f => Q f s' | .error e => cameBackBy (model prog w) A env E e s') s₂) E s := by
  obtain ⟨ep, ha⟩ := KdkAt.of hod
  have hd0 := (N _ (hl 0 m₀ news₀ hj)).1
  refine wpAny_pyIter_dict hsys (ha.dictAt hd0) ?_
  refine loop_core (nm := "dict_keyiterator") (n := kvs.length) (St := fun i o => o.cls = .type "dict_keyiterator" ∧ o.data = .fields #[.ref d, .int i 0, .int kvs.length 0, .int ep 0]) (V := fun i v => ∃ k t, v = .str k t ∧ (kvs.map (·.1))[i]? = some k) J rfl (fun _ _ h => h.1) F N hj ⟨rfl, rfl⟩ rfl ?_ ?_ ?_ done
  · intro i h m₁ news₁ o tk Q' E' hi hJ F₁ N₁ ho hQ
    refine wpAny_pyNext_dict_item (i := i) (k := kvs[i].1) (v := kvs[i].2) ⟨o, (N₁ _ (.head _)).1, ho⟩ (ha.dictAt (N₁ _ (.tail _ (hl i m₁ news₁ hJ))).1) (by simp [hi]) fun key h' hkey hit' hsb => ?_
    exact hit'.elim fun o' h5 => (Value.isStrOf_shape hkey).elim fun t e => hQ _ h' o' ⟨_, t, e, by simp [hi]⟩ hsb h5.1 h5.2
  · intro h m₁ news₁ o tk Q' E' hJ F₁ N₁ ho hQ
    exact wpAny_pyNext_dict_end hh (i := kvs.length) ⟨o, (N₁ _ (.head _)).1, ho⟩ (ha.dictAt (N₁ _ (.tail _ (hl kvs.length m₁ news₁ hJ))).1) (by simp) hQ
  · intro i v m₁ news₁ h tk it o hit hV hJ hap F₁ N₁
    obtain ⟨k, t, rfl, hk⟩ := hV
    exact turn i k t m₁ news₁ h tk it o hit hk hJ hap F₁ N₁
end
structure Fm where
  e : Ent
  kt : Tok
  i : Nat
  it : Addr
  mw : Addr
noncomputable def Fm.led (f : Fm) : List (Addr × Obj) := [(f.mw, nextOf f.it), (f.it, iterOf f.e.sa f.i)]
noncomputable def stL (stk : List Fm) : List Value := stk.reverse.map fun f => .str f.e.key f.kt
noncomputable def itL (stk : List Fm) : List Value := stk.reverse.map fun f => .ref f.mw
noncomputable def cled (ds dn li ls : Addr) (os on : Obj) (ni ns : Nat) (stk : List Fm) (rest : List (Addr × Obj)) : List (Addr × Obj) :=
  (ds, os) :: (dn, on) :: (li, W.listOf (itL stk).toArray ni) :: (ls, W.listOf (stL stk).toArray ns) :: (stk.flatMap Fm.led ++ rest)
noncomputable def unseen (es : List Ent) (S : Str → Bool) : Nat := (es.map fun e => if S e.key then 0 else e.ss.length + 1).sum
noncomputable def left (stk : List Fm) : Nat := (stk.map fun f => f.e.ss.length - f.i).sum
theorem unseen_add {S : Str → Bool} {e : Ent} : ∀ {es : List Ent}, e ∈ es → S e.key = false → unseen es (fun k' => S k' || decide (k' = e.key)) + (e.ss.length + 1) ≤ unseen es S := by
  have mono : ∀ (x : Ent), (if (S x.key || decide (x.key = e.key)) = true then 0 else x.ss.length + 1) ≤ (if S x.key = true then 0 else x.ss.length + 1) := by
    intro x
    by_cases h1 : S x.key = true
    · simp [h1]
    · by_cases h2 : x.key = e.key <;> simp [h1, h2]
  have mono2 : ∀ l : List Ent, unseen l (fun k' => S k' || decide (k' = e.key)) ≤ unseen l S := by
    intro l
    induction l with
    | nil => simp [unseen]
    | cons x l ih =>
      simp only [unseen, List.map_cons, List.sum_cons] at ih ⊢
      have := mono x
      omega
  intro es he hS
  induction es with
  | nil => cases he
  | cons x es ih =>
    rcases List.mem_cons.mp he with rfl | he
    · have := mono2 es
      simp only [unseen, List.map_cons, List.sum_cons] at this ⊢
      simp [hS]
      simp at this
      omega
    · have := ih he
      have h2 := mono x
      simp only [unseen, List.map_cons, List.sum_cons] at this ⊢
      omega
structure Dfs (prog : Program) (w : World) (es : List Ent) (lv : Str → Nat) (os on : Obj) (S : Str → Bool) (n : Nat) (stk : List Fm) : Prop where
  set : os.SetObjOf (PySem.strKind prog w) S n
  size : n + unseen es S ≤ unseen es (fun _ => false)
  dict : ∃ kvs : List (Str × Value), on.IsDictOf (PySem.strKind prog w) kvs ∧ kvs.map (·.1) = stk.reverse.map (·.e.key)
  mem : ∀ f ∈ stk, f.e ∈ es ∧ S f.e.key = true ∧ f.i ≤ f.e.ss.length
  chain : stk.Pairwise fun f f' => lv f'.e.key < lv f.e.key
  len : stk.length ≤ n
theorem top_fresh {lv : Str → Nat} {stk : List Fm} {k : Str} (h : stk.Pairwise fun f f' => lv f'.e.key < lv f.e.key) (ht : ∀ f ∈ stk.head?, lv f.e.key < lv k) : ∀ f ∈ stk, lv f.e.key < lv k := by
  cases stk with
  | nil => intro f hf; cases hf
  | cons t stk =>
    have h0 := ht t rfl
    intro f hf
    rcases List.mem_cons.mp hf with rfl | hf
    · exact h0
    · rw [List.pairwise_cons] at h
      exact Nat.lt_trans (h.1 f hf) h0
theorem stL_cons (f : Fm) (stk : List Fm) : stL (f :: stk) = stL stk ++ [.str f.e.key f.kt] := by simp [stL]
theorem itL_cons (f : Fm) (stk : List Fm) : itL (f :: stk) = itL stk ++ [.ref f.mw] := by simp [itL]
theorem valueAt_key {kvs : List (Str × Value)} {k : Str} : (valueAt kvs k).isSome = true ↔ k ∈ kvs.map (·.1) := by
  simp [valueAt, List.mem_map]
theorem stored_key {kvs : List (Str × Value)} {k : Str} {v : Value} (h : k ∉ kvs.map (·.1)) : stored kvs k v = kvs ++ [(k, v)] := by
  unfold stored
  rw [if_neg]
  simp only [List.any_eq_true, decide_eq_true_eq, not_exists, not_and]
  exact fun p hp e => h (e ▸ List.mem_map_of_mem hp)
theorem without_key {kvs : List (Str × Value)} {k : Str} {ks : List Str} (h : kvs.map (·.1) = ks ++ [k]) (hk : k ∉ ks) : (without kvs k).map (·.1) = ks := by
  have h1 : (without kvs k).map (·.1) = (kvs.map (·.1)).filter fun x => decide (x ≠ k) := by
    unfold without
    rw [List.filter_map]; rfl
  rw [h1, h, List.filter_append]
  have h2 : ks.filter (fun x => decide (x ≠ k)) = ks := List.filter_eq_self.mpr fun x hx => by simp; exact fun e => hk (e ▸ hx)
  rw [h2]; simp
theorem upd_o {a : Addr} {o o' : Obj} (pre : List (Addr × Obj)) {mid rest : List (Addr × Obj)} (h : ((pre ++ (a, o) :: mid).map (·.1)).Nodup) (hr : ∀ p ∈ rest, p.1 ≠ a) : Upd a o o' (pre ++ (a, o) :: (mid ++ rest)) (pre ++ (a, o') :: (mid ++ rest)) := by
  induction pre with
  | nil =>
    refine .head fun p hp e => ?_
    simp only [List.nil_append, List.map_cons, List.nodup_cons] at h
    rcases List.mem_append.mp hp with hp | hp
    · exact h.1 (e ▸ List.mem_map_of_mem hp)
    · exact hr p hp e
  | cons q pre ih =>
    simp only [List.cons_append, List.map_cons, List.nodup_cons] at h
    exact .tail (fun e => h.1 (by simp [e])) (ih h.2)
theorem updF_o {a : Addr} {o : Obj} (pre : List (Addr × Obj)) {mid rest : List (Addr × Obj)} (h : ((pre ++ (a, o) :: mid).map (·.1)).Nodup) (hr : ∀ p ∈ rest, p.1 ≠ a) : UpdF a o (pre ++ (a, o) :: (mid ++ rest)) (fun o' => pre ++ (a, o') :: (mid ++ rest)) := by
  induction pre with
  | nil =>
    refine .head fun p hp e => ?_
    simp only [List.nil_append, List.map_cons, List.nodup_cons] at h
    rcases List.mem_append.mp hp with hp | hp
    · exact h.1 (e ▸ List.mem_map_of_mem hp)
    · exact hr p hp e
  | cons q pre ih =>
    simp only [List.cons_append, List.map_cons, List.nodup_cons] at h
    exact .tail (fun e => h.1 (by simp [e])) (ih h.2)
noncomputable def oa (I ds dn li ls : Addr) (stk : List Fm) : List Addr := I :: ds :: dn :: li :: ls :: stk.flatMap fun f => [f.mw, f.it]
theorem fled_addrs (stk : List Fm) : (stk.flatMap Fm.led).map (·.1) = stk.flatMap fun f => [f.mw, f.it] := by
  induction stk with
  | nil => rfl
  | cons f stk ih => simp [List.flatMap_cons, Fm.led, ih]
theorem same_addrs : ∀ {a b : List (Addr × Obj)}, TI.SameUp a b → b.map (·.1) = a.map (·.1)
  | [], [], _ => rfl
  | [], _ :: _, h => h.elim
  | _ :: _, [], h => h.elim
  | p :: a, q :: b, h => by simp [h.1, same_addrs h.2.2]
noncomputable def DSt (prog : Program) (w : World) (es : List Ent) (lv : Str → Nat) (I : Addr) (oI : Obj) (ds dn li ls : Addr) (SL FR : List (Addr × Obj)) (stk : List Fm) (S : Str → Bool) (n : Nat) (news : List (Addr × Obj)) : Prop :=
  ∃ os on ni ns FR', news = (I, oI) :: cled ds dn li ls os on ni ns stk (SL ++ FR') ∧ Dfs prog w es lv os on S n stk ∧ TI.SameUp FR FR' ∧ (oa I ds dn li ls stk).Nodup ∧ ∀ p ∈ SL ++ FR', p.1 ∉ oa I ds dn li ls stk
theorem Turn.cont {s : Shared} {g : Heap} {L : Addr} {own : Addr × Obj} {J : (Str → Option Value) → List (Addr × Obj) → Prop} {Q : Flow → Shared → Prop} {h' : Heap} {tk : Nat} {m' : Str → Option Value} {news' : List (Addr × Obj)}
    (F : Fr g L h' m') (N : News g L h' (own :: news')) (a : ∀ p ∈ news', p.1 ≠ own.1) (j : J m' news') : Turn g L own J s Q .cont { s with heap := h', toks := tk } := ⟨h', tk, m', news', rfl, F, N, a, j⟩
theorem iter_call {prog : Program} {w : World} {A : Around} {E : Value → Shared → Prop} {s : Shared} {l : Addr} {items : Array Value} {Q : Value → Shared → Prop} (hl : s.heap.IsList l items)
    (h : Q (.ref s.heap.objs.size) { s with heap := s.heap.push (iterOf l 0) }) : wpAny (model prog w) A (call (.builtin "iter") [.ref l]) Q E s := by
  refine call_function_entry (by decide +kernel) (by decide +kernel) kdk_entry_iter (kdk_args_iter _) ?_
  unfold Builtin.«iter»
  refine wpAny_bind (m := someArgs "iter" 1 2 _) (wpAny_of_eq (a := [Value.ref l]) (by first | rfl | kernel_rfl!) ?_)
  show wpAny _ _ (pyIter (.ref l) >>= _) _ _ _
  refine wpAny_bind (wpAny_pyIter_list hl ?_)
  exact wpAny_pure ⟨_, rfl, h⟩
noncomputable def Mid1 (s : Shared) (g : Heap) (L : Addr) (P : (Str → Option Value) → List (Addr × Obj) → Prop) (s' : Shared) : Prop :=
  ∃ h tk m' news', s' = { s with heap := h, toks := tk } ∧ Fr g L h m' ∧ News g L h news' ∧ P m' news'
theorem Mid1.intro {s : Shared} {g : Heap} {L : Addr} {P : (Str → Option Value) → List (Addr × Obj) → Prop} {h : Heap} {tk : Nat} {m' : Str → Option Value} {news' : List (Addr × Obj)} (F : Fr g L h m') (N : News g L h news') (p : P m' news') : Mid1 s g L P { s with heap := h, toks := tk } := ⟨h, tk, m', news', rfl, F, N, p⟩
theorem oa_cons {I ds dn li ls : Addr} {stk : List Fm} {f : Fm} (h : (oa I ds dn li ls stk).Nodup) (h1 : f.it ∉ oa I ds dn li ls stk) (h2 : f.mw ∉ oa I ds dn li ls stk) (h3 : f.mw ≠ f.it) : (oa I ds dn li ls (f :: stk)).Nodup := by
  have p : List.Perm (oa I ds dn li ls (f :: stk)) (f.mw :: f.it :: oa I ds dn li ls stk) := by
    show List.Perm ([I, ds, dn, li, ls] ++ ([f.mw, f.it] ++ stk.flatMap fun f => [f.mw, f.it])) ([f.mw, f.it] ++ ([I, ds, dn, li, ls] ++ stk.flatMap fun f => [f.mw, f.it]))
    rw [← List.append_assoc, ← List.append_assoc]
    exact List.Perm.append_right _ List.perm_append_comm
  rw [p.nodup_iff, List.nodup_cons, List.nodup_cons]
  exact ⟨by simp only [List.mem_cons, not_or]; exact ⟨h3, h2⟩, h1, h⟩
theorem oa_tail {I ds dn li ls : Addr} {stk : List Fm} {f : Fm} (h : (oa I ds dn li ls (f :: stk)).Nodup) : (oa I ds dn li ls stk).Nodup := by
  have p : List.Perm (oa I ds dn li ls (f :: stk)) (f.mw :: f.it :: oa I ds dn li ls stk) := by
    show List.Perm ([I, ds, dn, li, ls] ++ ([f.mw, f.it] ++ stk.flatMap fun f => [f.mw, f.it])) ([f.mw, f.it] ++ ([I, ds, dn, li, ls] ++ stk.flatMap fun f => [f.mw, f.it]))
    rw [← List.append_assoc, ← List.append_assoc]
    exact List.Perm.append_right _ List.perm_append_comm
  rw [p.nodup_iff, List.nodup_cons, List.nodup_cons] at h
  exact h.2.2
theorem oa_mem {I ds dn li ls a : Addr} {stk : List Fm} {f : Fm} : a ∈ oa I ds dn li ls (f :: stk) ↔ a = f.mw ∨ a = f.it ∨ a ∈ oa I ds dn li ls stk := by
  simp only [oa, List.flatMap_cons, List.mem_cons, List.mem_append, List.not_mem_nil, or_false]
  constructor
  · rintro (h | h | h | h | h | (h | h) | h) <;> simp [h]
  · rintro (h | h | h | h | h | h | h | h) <;> simp [h]
theorem oa_led {I ds dn li ls a : Addr} {oI os on o3 o4 : Obj} {stk : List Fm} {rest : List (Addr × Obj)} (h : a ∈ oa I ds dn li ls stk) : ∃ o, (a, o) ∈ (I, oI) :: (ds, os) :: (dn, on) :: (li, o3) :: (ls, o4) :: (stk.flatMap Fm.led ++ rest) := by
  simp only [oa, List.mem_cons] at h
  rcases h with rfl | rfl | rfl | rfl | rfl | h
  · exact ⟨_, .head _⟩
  · exact ⟨_, .tail _ (.head _)⟩
  · exact ⟨_, .tail _ (.tail _ (.head _))⟩
  · exact ⟨_, .tail _ (.tail _ (.tail _ (.head _)))⟩
  · exact ⟨_, .tail _ (.tail _ (.tail _ (.tail _ (.head _))))⟩
  · rw [← fled_addrs] at h
    obtain ⟨p, hp, rfl⟩ := List.mem_map.mp h
    exact ⟨p.2, .tail _ (.tail _ (.tail _ (.tail _ (.tail _ (List.mem_append_left _ hp)))))⟩
theorem callWith_next {M : Model} {A : Around} {E : Value → Shared → Prop} {s : Shared} {pos : Pos} {u it : Addr} {env : Env} {Q : Value → Shared → Prop} (ho : s.heap.get? u = some (nextOf it)) (h : wpAny M A (call (.ref u) []) Q E s) :
    wpAny M A (callWith pos (.ref u) [] (backTo pos (starEach [] env)) []) Q E s := by
  show wpAny M A (callWith pos (.ref u) [] [] []) Q E s
  unfold callWith
  refine wpAny_bind (wpAny_holding ?_)
  unfold evalArgs
  show wpAny M A (spliced [] >>= _) _ _ _
  refine wpAny_bind (wpAny_of_eq (a := []) rfl ?_)
  refine wpAny_bind (wpAny_pure ?_)
  refine wpAny_holding ?_
  refine wpAny_bind (wpAny_pure (wpAny_bind (wpAny_pure (wpAny_pure ?_))))
  refine wpAny_bind (wpAny_standAt ?_)
  refine wpAny_bind (m := keeperOf (.ref u)) ?_
  unfold keeperOf
  refine wpAny_bind (wpAny_load ho ?_)
  simp only [nextOf, show (Value.type "method-wrapper" != Value.type "method") = true by decide, show (Value.type "method-wrapper" == Value.type "builtin_function_or_method" || Value.type "method-wrapper" == Value.type "method-wrapper") = true by decide, if_true]
  refine wpAny_pure ?_
  exact wpAny_bind (wpAny_mono h (fun r s₂ hr => wpAny_bind (wpAny_holding (wpAny_point (wpAny_pure hr)))) fun _ _ x => x)
theorem caught_stop {prog : Program} {w : World} {A₀ : Around} {s' : Shared} {g h : Heap} {L a e : Addr} {m : Str → Option Value} {name : Str} {scope : Scope} {cd : Value} {Q : Flow → Shared → Prop} {l : List Env} {frs new : List (Addr × Obj)}
    {np pos : Pos} {b₀ : Stmt} {suite : List Stmt} {rest : List ExceptHandler}
    (hfr : A₀.frames = some l) (Fs : TI.Frs l frs) (hx : Heap.NewExc h s'.heap e "StopIteration") (F : Fr g L h m) (N : News g L h (new ++ frs)) (hap : ∀ p ∈ new, p.1 ∉ L :: frs.map (·.1)) (hk : scope.kind = .function)
    (hev : ∀ (A' : Around) (s'' : Shared) (Q' : Value → Shared → Prop), Fr g L s''.heap m → Q' (.type "StopIteration") s'' → wpAny (model prog w) A' (eval (.Name "StopIteration" np) (envOf name scope L a cd)) Q' (fun _ _ => False) s'')
    (k : ∀ h' frs', TI.SameUp frs frs' → Fr g L h' m → News g L h' (new ++ frs') → wpAny (model prog w) ((A₀.deeper (envOf name scope L a cd)).mark (some (.ref e))) (execs (b₀ :: suite) (envOf name scope L a cd)) Q (fun _ _ => False) { s' with heap := h' }) :
    wpAny (model prog w) (A₀.deeper (envOf name scope L a cd)) (noteFrame (.ref e) (envOf name scope L a cd)) (fun _ s₂ => wpAny (model prog w) (A₀.deeper (envOf name scope L a cd)) (setFlight (.ref e) none) (fun _ s₃ =>
      wpAny (model prog w) (A₀.deeper (envOf name scope L a cd)) (handleBy (.ref e) (envOf name scope L a cd) (.ExceptHandler (some (.Name "StopIteration" np)) none (b₀ :: suite) pos :: rest)) Q (fun _ _ => False) s₃) (fun _ _ => False) s₂) (fun _ _ => False) s' := by
  refine TLg.noted_newA (new := new) hfr Fs hx F N hap (fun h' frs' SU Fs' H => ?_) hk
  refine H.land (fun h₂ H₂ => ?_)
  refine wpAny_handleBy_builtin (X := "StopIteration") (T := "StopIteration") (b := true) (isSubtype_of_subB (by decide +kernel)) (isSubtype_of_subB (by decide +kernel)) (isSubtype_of_subB (by decide +kernel)) (wpAny_passesOwnAt .never (hev _ _ _ H₂.held.fr ⟨rfl, H₂.isA, ?_⟩))
  rw [if_pos rfl]
  exact H₂.lands fun h₃ F₃ N₃ => wpAny_passesOwnAt .never (k h₃ frs' SU F₃ N₃)
theorem news_upd {g h h' : Heap} {L a : Addr} {o o' : Obj} {l l' : List (Addr × Obj)} (N : News g L h l) (U : Upd a o o' l l') (hs : Heap.SameBut a h h') (ho : h'.get? a = some o') : News g L h' l' := by
  obtain ⟨pre, post, rfl, rfl, a, b⟩ := U.split
  exact news_set N a b hs ho
end Mine
end

section
open PySem PySem.W PyProof.Rows PySem.Calls
set_option maxHeartbeats 4000000
namespace Mine
section
variable {prog : Program} {w : World} {A : Around} {R : Result → Shared → Prop} {s₀ : Shared}
noncomputable abbrev Kp (as : List Addr) (h h' : Heap) : Prop := ∀ b o, b ∉ as → h.get? b = some o → h'.get? b = some o
end
end Mine
namespace Mine
section
variable {prog : Program} {w : World} {A : Around} {E : Value → Shared → Prop} {s : Shared}
noncomputable abbrev cenvOf (scope : Scope) (cl : List (Str × Addr)) (C : Addr) (env : Env) : Env := compEnvC scope (cellsFrom (C + 1) scope.names cl) C env
theorem new_fe {M : Model} {scope : Scope} {globals : Addr} {cl : List (Str × Addr)} {qual : Str} {env : Env} {Q : Env → Shared → Prop}
    (h : Q (newEnv scope s.heap.objs.size globals (cellsFrom (s.heap.objs.size + 1) scope.names cl) qual none .none (some env) builtinsNs) { s with heap := pushCells (s.heap.push { cls := .type "dict", data := .dict #[] }) scope.names }) :
    wpAny M A (newFunctionEnv scope globals cl [] qual none .none (some env)) Q E s := by
  simp only [newFunctionEnv, Option.isSome_some, if_true]
  refine wpAny_bind (wpAny_alloc ?_)
  refine wpAny_bind (wpAny_layCells _ (fun name kind cells => by cases hkc : kind == NameKind.cell <;> simp [hkc]) _ _ _ _ ?_)
  rw [show ({ s with heap := s.heap.push { cls := .type "dict", data := .dict #[] } } : Shared).heap.objs.size = s.heap.objs.size + 1 from Heap.size_push ..]
  simp only [List.forIn_nil]
  exact wpAny_bind (wpAny_pure (wpAny_pure h))
end
end Mine
end

section
open PySem PySem.W PyProof.Rows PySem.Calls
set_option maxHeartbeats 4000000
namespace Mine
section
variable {prog : Program} {w : World} {A : Around} {R : Result → Shared → Prop} {s₀ : Shared}
noncomputable def KeepsD (s s' : Shared) : Prop := ∃ h' tk dr, s' = { s with heap := h', toks := tk, drawn := dr } ∧ ∀ b o, s.heap.get? b = some o → h'.get? b = some o
noncomputable def KeepsB (d : Bool) (s s' : Shared) : Prop := ∃ h' tk dr, s' = ⟨h', s.gens, dr, tk, s.os⟩ ∧ (d = false → dr = s.drawn) ∧ ∀ b o, s.heap.get? b = some o → h'.get? b = some o
theorem at_snoc {ys : List Value} {y z : Value} {j : Nat} (h : (ys ++ [y])[j]? = some z) : ys[j]? = some z ∨ (j = ys.length ∧ z = y) := by
  rcases Nat.lt_or_ge j ys.length with hj | hj
  · rw [List.getElem?_append_left hj] at h; exact .inl h
  · rw [List.getElem?_append_right hj] at h
    cases e : j - ys.length with
    | zero => rw [e] at h; cases h; exact .inr ⟨by omega, rfl⟩
    | succ n => rw [e] at h; cases h
inductive LcI (s₀ : Shared) (I D : Addr) (own : List Addr) (n : Nat) (St : Nat → Heap → Prop) (Inv : Heap → Prop) (G : Nat → Value → Heap → Prop) (d : Bool) (ys0 : List Value) (k : Nat) (s' : Shared) : Prop
  | mk (i : Nat) (h : Heap) (tk : Nat) dr (ys : List Value) (ep : Nat) (hil : i ≤ n) (hk : k = n - i) (hs : s' = ⟨h, s₀.gens, dr, tk, s₀.os⟩) (hd : d = false → dr = s₀.drawn) (hst : St i h) (hD : h.get? D = some (PySem.W.listOf (ys0 ++ ys).toArray ep)) (hyl : ys.length = i) (hin : Inv h) (hkp : Kp (I :: D :: own) s₀.heap h) (hg : ∀ (j : Nat) (y : Value), ys[j]? = some y → G j y h) : LcI s₀ I D own n St Inv G d ys0 k s'
theorem LcI.el {I D : Addr} {own : List Addr} {n : Nat} {St : Nat → Heap → Prop} {Inv : Heap → Prop} {G : Nat → Value → Heap → Prop} {d : Bool} {ys0 : List Value} {k : Nat} {s' : Shared} {X : Shared → Prop} (x : LcI s₀ I D own n St Inv G d ys0 k s')
    (f : ∀ (i : Nat) (h : Heap) (tk : Nat) dr (ys : List Value) (ep : Nat), i ≤ n → k = n - i → (d = false → dr = s₀.drawn) → St i h → h.get? D = some (PySem.W.listOf (ys0 ++ ys).toArray ep) → ys.length = i → Inv h → Kp (I :: D :: own) s₀.heap h → (∀ (j : Nat) (y : Value), ys[j]? = some y → G j y h) → X ⟨h, s₀.gens, dr, tk, s₀.os⟩) : X s' := by
  obtain ⟨i, h, tk, dr, ys, ep, hil, hk, rfl, hd, hst, hD, hyl, hin, hkp, hg⟩ := x
  exact f i h tk dr ys ep hil hk hd hst hD hyl hin hkp hg
theorem lcg_core (d : Bool) {elt target : Expr} {gs : List Comprehension} {scope : Scope} {pos : Pos} {ix : Nat} {itp : Pos} {cenv : Env} {I D : Addr} {fp own : List Addr} {n : Nat} {ys0 : List Value} {ep0 : Nat} {P : Nat → Value → Prop} {St : Nat → Heap → Prop} (W : Walks prog w A I fp [I] n P St) (Inv : Heap → Prop) (Asg : Value → Heap → Prop) (G : Nat → Value → Heap → Prop)
    (heq : compTurn (.ListComp elt gs scope pos) ix (.ref I) (.ref D) cenv = (standAt itp >>= fun _ => pyNext (.ref I) >>= fun r => match r with
      | none => pure (.done .next)
      | some v => letOwnedTupleGo target (.ref I) v >>= fun _ => assign target cenv v >>= fun _ =>
        (eval elt cenv >>= fun x => call (.builtin "list.append") [.ref D, x] >>= fun _ => pure ()) >>= fun _ => again (.compLoop (.ListComp elt gs scope pos) ix (.ref I) (.ref D) cenv)))
    (n2 : D ∉ own) (nf : ∀ b ∈ fp, b ∉ D :: own) (hz : n ≤ 1000)
    (hlo : ∀ i v (s : Shared) (Q : Unit → Shared → Prop) (E : Value → Shared → Prop), St i s.heap → Q () s → wpAny (model prog w) A (letOwnedTupleGo target (.ref I) v) Q E s)
    (hInv : ∀ h h', Inv h → (∀ b o, b ∈ own → h.get? b = some o → h'.get? b = some o) → Inv h')
    (hG : ∀ i y h h', G i y h → Kp (I :: D :: own) h h' → G i y h')
    (asg : ∀ (i : Nat) (v : Value) (s₂ : Shared) (E' : Value → Shared → Prop), P i v → i < n → Inv s₂.heap → Kp (I :: D :: own) s₀.heap s₂.heap →
      wpAny (model prog w) A (assign target cenv v) (fun _ s₃ => Inv s₃.heap ∧ Asg v s₃.heap ∧ ∃ h' tk, s₃ = { s₂ with heap := h', toks := tk } ∧ Kp own s₂.heap h') E' s₂)
    (eltok : ∀ (i : Nat) (v : Value) (s₃ : Shared) (E' : Value → Shared → Prop), P i v → i < n → Asg v s₃.heap → Kp (I :: D :: own) s₀.heap s₃.heap → (∃ h, St (i + 1) h ∧ ∀ b o, b ∉ own → h.get? b = some o → s₃.heap.get? b = some o) → wpAny (model prog w) A (eval elt cenv) (fun y s₄ => G i y s₄.heap ∧ KeepsB d s₃ s₄) E' s₃)
    (hI : St 0 s₀.heap) (hD : s₀.heap.get? D = some (PySem.W.listOf ys0.toArray ep0)) (hz0 : ys0.length ≤ 1000) (hi : Inv s₀.heap)
    (fin : ∀ (h : Heap) (tk : Nat) dr (ys : List Value) (ep : Nat), (d = false → dr = s₀.drawn) → ys.length = n → (∀ (j : Nat) (y : Value), ys[j]? = some y → G j y h) → h.get? D = some (PySem.W.listOf (ys0 ++ ys).toArray ep) → Kp (I :: D :: own) s₀.heap h → Inv h → R (.ok .next) { s₀ with heap := h, toks := tk, drawn := dr }) :
    codeAny (model prog w) A (.compLoop (.ListComp elt gs scope pos) ix (.ref I) (.ref D) cenv) R s₀ := by
  have hIf : I ∈ fp := W.sub I (.head _)
  have n1 : I ∉ own := fun h => nf I hIf (.tail _ h)
  have n4 : I ≠ D := fun h => nf I hIf (h ▸ .head _)
  have oneI : ∀ {b : Addr} {l : List Addr}, b ∉ I :: l → b ∉ [I] := fun hb q => hb (by rw [List.mem_singleton.mp q]; exact .head _)
  have ownI : ∀ {b : Addr}, b ∈ own → b ∉ [I] := fun hb q => n1 (by rw [List.mem_singleton.mp q] at hb; exact hb)
  have DI : D ∉ [I] := fun q => n4 (List.mem_singleton.mp q).symm
  refine codeAny_loop rfl (LcI s₀ I D own n St Inv G d ys0) (fun m s hJ => ?_) n ⟨0, s₀.heap, s₀.toks, s₀.drawn, [], ep0, Nat.zero_le _, rfl, rfl, fun _ => rfl, hI, by rw [List.append_nil]; exact hD, rfl, hi, fun _ _ _ e => e, fun j y h => nomatch h⟩
  show wpAny _ A ((compTurn (.ListComp elt gs scope pos) ix (.ref I) (.ref D) cenv).onRaise (fun x => do noteFrame x cenv; theTreesLotGoes x)) _ _ _
  refine wpAny_noted ?_
  rw [heq]
  refine hideQ fun K0 hK0 => ?_
  refine hJ.el ?_; clear hJ
  intro i h tk dr ys ep hil hm hd hst hDt hyl hin hk hg
  refine wpAny_bind (wpAny_standAt (wpAny_bind ?_))
  refine (Nat.lt_or_eq_of_le hil).elim (fun hlt => ?_) fun e => ?_
  · refine W.item i _ _ _ hlt hst fun v h1 tk1 hP hst1 k1 => ?_
    dsimp only
    dsimp only at k1
    refine wpAny_bind (hlo (i + 1) v _ _ _ hst1 ?_)
    have hin1 : Inv h1 := hInv h h1 hin fun b o hb e => k1 b o (ownI hb) e
    have kk1 : Kp (I :: D :: own) s₀.heap h1 := fun b o hb e => k1 b o (oneI hb) (hk b o hb e)
    refine wpAny_bind (wpAny_mono (asg i v ⟨h1, s₀.gens, dr, tk1, s₀.os⟩ _ hP hlt hin1 kk1) (fun _ s₂ h₂ => ?_) fun _ _ e => e)
    have hin2 := h₂.1
    have hasg := h₂.2.1
    have hkp := h₂.2.2
    clear h₂
    obtain ⟨h2, tk2, rfl, k2⟩ := hkp
    dsimp only at k2 hin2 hasg
    have kk2 : Kp (I :: D :: own) s₀.heap h2 := fun b o hb e => k2 b o (fun q => hb (.tail _ (.tail _ q))) (kk1 b o hb e)
    refine wpAny_bind (wpAny_bind (wpAny_mono (eltok i v _ _ hP hlt hasg kk2 ⟨h1, hst1, k2⟩) (fun y s₃ h₃ => ?_) fun _ _ e => e))
    have hgy := h₃.1
    have hkp := h₃.2
    clear h₃
    obtain ⟨h3, tk3, dr3, rfl, hd3, k3⟩ := hkp
    dsimp only at k3 hgy hd3
    have hD3 : h3.get? D = some (PySem.W.listOf (ys0 ++ ys).toArray ep) := k3 _ _ (k2 D _ n2 (k1 D _ DI hDt))
    have hlt2 : n - (i + 1) < m := by rw [hm]; exact Nat.sub_succ_lt_self n i hlt
    have k14 : ∀ b o, b ∉ I :: D :: own → h.get? b = some o → h3.get? b = some o := fun b o hb e => k3 b o (k2 b o (fun q => hb (.tail _ (.tail _ q))) (k1 b o (oneI hb) e))
    refine wpAny_bind (append_at (hsz := by rw [List.size_toArray, List.length_append, hyl, sizeLine_eq]; omega) hD3 fun h4 hs4 ho4 => wpAny_pure (wpAny_pure (hK0 _ _ ⟨rfl, n - (i + 1), hlt2, i + 1, h4, tk3, dr3, ys ++ [y], ep + 1, hlt, rfl, rfl, fun e => (hd3 e).trans (hd e), ?_, ?_, by rw [List.length_append, hyl]; rfl, ?_, ?_, ?_⟩)))
    · exact W.frame (i + 1) h1 h4 hst1 fun b hb o e => (hs4.2 b (fun q => nf b hb (q ▸ .head _))).trans (k3 b o (k2 b o (fun q => nf b hb (.tail _ q)) e))
    · rw [ho4]; simp
    · exact hInv h2 h4 hin2 fun b o hb e => (hs4.2 b (fun q => n2 (q ▸ hb))).trans (k3 b o e)
    · exact fun b o hb e => (hs4.2 b (fun q => hb (by rw [q]; exact .tail _ (.head _)))).trans (k14 b o hb (hk b o hb e))
    · intro j z hz
      have k4 : Kp (I :: D :: own) h3 h4 := fun b o hb e => (hs4.2 b (fun q => hb (by rw [q]; exact .tail _ (.head _)))).trans e
      exact (at_snoc hz).elim (fun hz => hG j z h h4 (hg j z hz) fun b o hb e => k4 b o hb (k14 b o hb e)) fun hz => hG j z h3 h4 (by rw [hz.1, hz.2, hyl]; exact hgy) k4
  · rw [e] at hst hyl
    refine W.done _ _ _ hst fun h1 tk1 k1 => ?_
    dsimp only
    dsimp only at k1
    exact wpAny_pure (hK0 _ _ (fin h1 tk1 dr ys ep hd hyl (fun j y hj => hG j y h h1 (hg j y hj) fun b o hb e => k1 b o (oneI hb) e) (k1 D _ DI hDt)
      (fun b o hb e => k1 b o (oneI hb) (hk b o hb e)) (hInv h h1 hin fun b o hb e => k1 b o (ownI hb) e)))
theorem lcw_core {elt target iter : Expr} {scope : Scope} {pos : Pos} {cenv : Env} {I D : Addr} {fp own : List Addr} {n : Nat} {P : Nat → Value → Prop} {St : Nat → Heap → Prop} (W : Walks prog w A I fp [I] n P St) (Inv : Heap → Prop) (Asg : Value → Heap → Prop) (G : Nat → Value → Heap → Prop)
    (n2 : D ∉ own) (nf : ∀ b ∈ fp, b ∉ D :: own) (hz : n ≤ 1000)
    (hlo : ∀ i v (s : Shared) (Q : Unit → Shared → Prop) (E : Value → Shared → Prop), St i s.heap → Q () s → wpAny (model prog w) A (letOwnedTupleGo target (.ref I) v) Q E s)
    (hInv : ∀ h h', Inv h → (∀ b o, b ∈ own → h.get? b = some o → h'.get? b = some o) → Inv h')
    (hG : ∀ i y h h', G i y h → Kp (I :: D :: own) h h' → G i y h')
    (asg : ∀ (i : Nat) (v : Value) (s₂ : Shared) (E' : Value → Shared → Prop), P i v → i < n → Inv s₂.heap → Kp (I :: D :: own) s₀.heap s₂.heap →
      wpAny (model prog w) A (assign target cenv v) (fun _ s₃ => Inv s₃.heap ∧ Asg v s₃.heap ∧ ∃ h' tk, s₃ = { s₂ with heap := h', toks := tk } ∧ Kp own s₂.heap h') E' s₂)
    (eltok : ∀ (i : Nat) (v : Value) (s₃ : Shared) (E' : Value → Shared → Prop), P i v → i < n → Asg v s₃.heap → Kp (I :: D :: own) s₀.heap s₃.heap → wpAny (model prog w) A (eval elt cenv) (fun y s₄ => G i y s₄.heap ∧ Keeps s₃ s₄) E' s₃)
    (hI : St 0 s₀.heap) (hD : s₀.heap.get? D = some (PySem.W.listOf #[] 0)) (hi : Inv s₀.heap)
    (fin : ∀ (h : Heap) (tk : Nat) (ys : List Value) (ep : Nat), ys.length = n → (∀ (j : Nat) (y : Value), ys[j]? = some y → G j y h) → h.get? D = some (PySem.W.listOf ys.toArray ep) → Kp (I :: D :: own) s₀.heap h → Inv h → R (.ok .next) { s₀ with heap := h, toks := tk }) :
    codeAny (model prog w) A (.compLoop (.ListComp elt [⟨target, iter, [], 0⟩] scope pos) 0 (.ref I) (.ref D) cenv) R s₀ := by
  refine lcg_core false (gs := [⟨target, iter, [], 0⟩]) (ys0 := []) W Inv Asg G (compTurn_list1 ..) n2 nf hz hlo hInv hG asg (fun i v s₃ E' hP hi ha hk _ => wpAny_mono (eltok i v s₃ E' hP hi ha hk) (fun y s₄ h => ⟨h.1, ?_⟩) fun _ _ e => e) hI hD (Nat.zero_le _) hi fun h tk dr ys ep hd hl hg hD hk hin => ?_
  · obtain ⟨h', tk, rfl, a⟩ := h.2
    exact ⟨h', tk, _, rfl, fun _ => rfl, a⟩
  · rw [hd rfl]; exact fin h tk ys ep hl hg hD hk hin
theorem lcw_open {E : Value → Shared → Prop} {s : Shared} {elt target iter : Expr} {scope : Scope} {cl : List (Str × Addr)} {pos : Pos} {env : Env} {Q : Value → Shared → Prop}
    (hclos : closureFor scope env = pure cl) (hkind : scope.kind = .function) (hnames : ∀ y ∈ scope.names, y.2 = .local → scope.names.lookup y.1 = some .local)
    (h : wpAny (model prog w) A (eval iter env) (fun xv s₁ => wpAny (model prog w) A (pyIter xv) (fun it s₂ => ∃ I fp n P St, it = .ref I ∧ Walks prog w A I fp [I] n P St ∧ St 0 s₂.heap ∧ (∀ b ∈ fp, b < s₂.heap.objs.size) ∧
      ∀ (D C : Addr) (h₄ : Heap), D = s₂.heap.objs.size → C = D + 1 → Kp [] s₂.heap h₄ → St 0 h₄ → h₄.get? D = some (PySem.W.listOf #[] 0) → h₄.Ns C (fun _ => none) →
        (∀ X : Heap, X.objs.size = C + 1 → (∀ b o, X.get? b = some o → h₄.get? b = some o) → h₄ = pushCells X scope.names →
        codeAny (model prog w) A (.compLoop (.ListComp elt [⟨target, iter, [], 0⟩] scope pos) 0 (.ref I) (.ref D) (cenvOf scope cl C env)) (compPost (model prog w) A E none Q (.ref D) C) { s₂ with heap := h₄ })) E s₁) E s)
    (hs : ∀ x, foldedSetIterable iter env x = pure x) :
    wpAny (model prog w) A (eval (.ListComp elt [⟨target, iter, [], 0⟩] scope pos) env) Q E s := by
  rw [eval_ListComp]
  refine wpAny_comprehension_free (use := none) rfl hs hclos hkind hnames (wpAny_mono h (fun xv s₁ h₁ => wpAny_mono h₁ (fun it s₂ h₂ => ?_) fun _ _ e => e) fun _ _ e => e)
  obtain ⟨I, fp, n, P, St, rfl, W, hst, hfp, hk⟩ := h₂
  refine wpAny_newObj_type (hd := by size_fits) ?_
  refine new_fe ?_
  dsimp only
  generalize hX : ((s₂.heap.push { cls := .type "list", dict := none, data := .seq ([] : List Value).toArray }).push { cls := .type "dict", data := .dict #[] }) = X
  have eC : (s₂.heap.push { cls := .type "list", dict := none, data := .seq ([] : List Value).toArray }).objs.size = s₂.heap.objs.size + 1 := Heap.size_push ..
  have hXs : X.objs.size = s₂.heap.objs.size + 1 + 1 := by rw [← hX, Heap.size_push, eC]
  have k4 := pushCells_keeps scope.names X
  have hXD : X.get? s₂.heap.objs.size = some (PySem.W.listOf #[] 0) := by
    rw [← hX]
    exact Heap.get?_push_of_some _ (Heap.get?_push_size _ rfl)
  have hXC : X.Ns (s₂.heap.objs.size + 1) (fun _ => none) := by
    rw [← hX, ← eC]
    exact Heap.Ns.new _ (.type "dict")
  have hk1 : Kp [] s₂.heap X := fun b o _ e => by rw [← hX]; exact Heap.get?_push_of_some _ (Heap.get?_push_of_some _ e)
  have hst4 : St 0 (pushCells X scope.names) := W.frame 0 _ _ hst fun b _ o e => k4 b o (hk1 b o (by simp) e)
  have hloop := hk s₂.heap.objs.size _ (pushCells X scope.names) rfl rfl (fun b o hb e => k4 b o (hk1 b o hb e)) hst4 (k4 _ _ hXD) (hXC.keeps k4) X hXs k4 rfl
  rw [eC]
  refine codeAny_compStart_list hloop ?_
  exact W.self 0 _ _ _ hst4 hloop
end
end Mine
end

section
open PySem PySem.W PyProof.Rows PySem.Calls
set_option maxHeartbeats 4000000
namespace Mine
section
variable {prog : Program} {w : World} {A : Around} {E : Value → Shared → Prop} {s : Shared}
theorem pair_asg {env : Env} {x y : Str} {px py pos : Pos} {k} {t : Addr} {v₁ v₂ : Value} {m : Str → Option Value} {Q : Unit → Shared → Prop} (hh : A.handled = none) (hx : env.kindOf x = some .local) (hy : env.kindOf y = some .local)
    (hp : (env.scope.kind == .class || (env.scope.kind == .module && env.locals != env.globals)) = false) (hn : s.heap.Ns env.locals m) (ht : IsTup s.heap t #[v₁, v₂])
    (h : ∀ h' tk, h'.Ns env.locals (fun z => if z = y then some v₂ else if z = x then some v₁ else m z) → Kp [env.locals] s.heap h' → Q () { s with heap := h', toks := tk }) :
    wpAny (model prog w) A (assign (.Tuple [.Name x px, .Name y py] k pos) env (.ref t)) Q E s := by
  refine assign_Tuple_tuple hh ht rfl rfl fun h1 he1 => ?_
  have hlt := hn.lt
  have hn1 : h1.Ns env.locals m := by
    obtain ⟨o, es, ep, ho, r⟩ := hn
    exact ⟨o, es, ep, he1 _ _ (Nat.ne_of_lt hlt) ho, r⟩
  show wpAny _ _ (assignInOrder [_, _] [v₁, v₂]) _ _ _
  refine assignInOrder_cons ?_
  refine wpAny_assign_Name (wpAny_storeName_local hx hn1 (fun h2 hn2 hs2 => ?_) hp)
  refine assignInOrder_cons ?_
  refine wpAny_assign_Name (wpAny_storeName_local hy hn2 (fun h3 hn3 hs3 => ?_) hp)
  refine assignInOrder_nil ?_
  refine h h3 _ hn3 fun b o hb e => ?_
  have hbl : b ≠ env.locals := fun q => hb (by simp [q])
  exact (hs3.2 b hbl).trans ((hs2.2 b hbl).trans (he1 b o (Nat.ne_of_lt (Heap.lt_size e)) e))
end
end Mine
end

section
open PySem PySem.W PyProof.Rows PySem.Calls
set_option maxHeartbeats 4000000
namespace Mine
noncomputable def signOf (n : Nat) : Nat := n / 36 % 256
noncomputable def restOf (n : Nat) : List Nat := match n / 3 % 4 with
  | 0 => []
  | 1 => [97]
  | 2 => [97, 46]
  | _ => if signOf n = 46 ∨ signOf n = 13 ∨ signOf n = 10 then [98] else [signOf n]
noncomputable def rowOf (n : Nat) : List Nat := List.replicate (n % 3) 46 ++ restOf n
noncomputable def endRaw (n : Nat) : List Nat := match n / 12 % 3 with
  | 0 => [13]
  | 1 => [10]
  | _ => [13, 10]
noncomputable def rowStep (acc : List Row) (n : Nat) : List Row :=
  acc ++ [(rowOf n, if endRaw n = [10] ∧ rowOf n = [] ∧ acc.getLast?.map (·.2) = some [13] then [13, 10] else endRaw n)]
noncomputable def rowsOf (ns : List Nat) : List Row := ns.foldl rowStep [] ++ [(List.replicate (ns.sum % 2) 46, [])]
noncomputable def intValues (ns : List (Nat × Tok)) : List Value := ns.map fun r => .int (r.1 : Int) r.2
structure Tp where
  a : Addr
  r : Row
  t : Tok
  u : Tok
noncomputable def Tp.led (q : Tp) : Addr × Obj := (q.a, { cls := .type "tuple", data := .seq #[.str (S q.r.1) q.t, .str (S q.r.2) q.u] })
noncomputable def tpRefs (l : List Tp) : List Value := l.map fun q => .ref q.a
theorem occ_sign : ∀ c, c < 256 → (Builtin.Str.occurrences (Str.ofString ".\r\n") (S [c]) 0 (Str.ofString ".\r\n").length 1).isEmpty = !(decide (c = 46) || decide (c = 13) || decide (c = 10)) := by decide +kernel
theorem fdivN (a b : Nat) : (a : Int).fdiv (b : Int) = ((a / b : Nat) : Int) := by rw [Int.fdiv_eq_ediv_of_nonneg _ (Int.natCast_nonneg b)]; rfl
theorem fmodN (a b : Nat) : (a : Int).fmod (b : Int) = ((a % b : Nat) : Int) := by rw [Int.fmod_eq_emod_of_nonneg _ (Int.natCast_nonneg b)]; rfl
theorem sum_keep {prog : Program} {w : World} {A : Around} {E : Value → Shared → Prop} {s : Shared} {l : Addr} {ns : List (Int × Tok)} {Q : Value → Shared → Prop} (hh : A.handled = none) (hl : s.heap.IsList l (ns.map fun p => Value.int p.1 p.2).toArray)
    (h : ∀ h' tk t', Ext [] s.heap h' → Q (.int (ns.map (·.1)).sum t') { s with heap := h', toks := tk }) : wpAny (model prog w) A (call (.builtin "sum") [.ref l]) Q E s := by
  have e : (ns.map fun p => Value.int p.1 p.2).toArray = intItems ns.toArray := by simp [intItems]
  rw [e] at hl
  refine sum_intListG hh hl fun h' tk t' hk => ?_
  have := h h' tk t' (fun b o _ e => hk b o e)
  rw [preSum_eq, List.take_of_length_le (by simp)]; exact this
theorem rows_call {n : Nat} {prog : Program} {w : World} {A : Around} {s : Shared} {h₀ : Heap} {L : Addr} {m : Str → Option Value} {R : Result → Shared → Prop}
   (C : Cx n w A h₀ L) (hn : n ≤ 50) (F : Fr h₀ L s.heap m) {l : Addr} {ns : List (Nat × Tok)} (hl : s.heap.IsList l (intValues ns).toArray) (hlen : ns.length ≤ 6) (hsm : ∀ r ∈ ns, r.1 < 1000000)
   (k : ∀ D h' tk, s.heap.get? D = none → Ext [] s.heap h' → RowsAt h' D (rowsOf (ns.map (·.1))) → R (.ok (.ret (.ref D))) { s with heap := h', toks := tk }) :
   codeAny (model prog w) A (.call (.ref 201) ⟨[.ref l], []⟩) R s := by
  obtain ⟨hd0, dp0, fr0, gd0, un0⟩ := A
  have hh0 : hd0 = none := C.handled
  subst hh0
  refine' enter (binds := [("numbers", .ref l)]) C (le_lit hn rfl) F [] News.nil ?ho ?hcd ?hb ?hloc ?c1 ?c2 ?c3 ?c4 ?_
  case ho => k_is
  case hcd => k_is
  case hb => exact BindsTo.of_eq rfl
  case hloc => exact locs rfl
  case c1 => rfl
  case c2 => rfl
  case c3 => rfl
  case c4 => decide
  intro g L' h₁ hg C' F' N'
  refine C'.top_el fun pp loose mg mb T => ?_
  have X := C'.X
  refine hideQ fun K0 hK0 => ?_
  have hgs : g = s.heap := by rw [hg]; rfl
  have hlg : g.IsList l (intValues ns).toArray := by rw [hgs]; exact hl
  repeat' walk1
  refine wpAny_For ?_
  walk1
  rename Fr g L' _ _ => F2
  rename News g L' _ _ => N2
  rename_i D _ _ _
  have N3 : News g L' _ ((D, W.listOf (tpRefs []).toArray 0) :: ([] : List Tp).map Tp.led) := N2
  clear N2
  refine iter_list (L := L') (vs := intValues ns) (fun i m₁ news₁ => ∃ tps ep, news₁ = (D, W.listOf (tpRefs tps).toArray ep) :: tps.map Tp.led ∧ tps.map (·.r) = ((ns.take i).map (·.1)).foldl rowStep [] ∧ tps.length ≤ i ∧ (∀ q ∈ tps, @LT.lt Nat _ D q.a) ∧
      Vars m₁ [("numbers", .ref l), ("rows", .ref D)]) rfl rfl F2 N3 ?hl ?hj ?turn ?done
  case hl => exact fun h i m₁ news₁ _ F₁ _ => hlg.at fun o e => F₁.keep _ _ e
  case hj => exact ⟨[], 0, rfl, rfl, Nat.zero_le _, (fun _ h => nomatch h), ⟨rfl, rfl, trivial⟩⟩
  case done =>
    intro m₁ news₁ h6 tk6 hJ F6 N6
    refine ex2_5 hJ ?_; clear hJ
    intro tps ep hn hrs hlen6 hDt hV
    replace N6 := newsE hn N6
    clear hn news₁
    have F7 := frs F6 hV
    clear F6
    dsimp only
    repeat' walk1
    rename Fr g L' _ _ => F8
    rename News g L' _ _ => N8
    have hls : (h6 : Heap).IsList l ((ns.map fun r => ((r.1 : Int), r.2)).map fun p => Value.int p.1 p.2).toArray := by
      have e : ((ns.map fun r => ((r.1 : Int), r.2)).map fun p => Value.int p.1 p.2) = intValues ns := by simp [intValues]
      rw [e]; exact hlg.at fun o e => F8.keep _ _ e
    refine sum_keep rfl hls fun h9 tk9 t9 hex9 => ?_
    have F9 := fr_ext F8 Own.nil hex9
    have N9 : News g L' h9 ((D, W.listOf (tpRefs tps).toArray ep) :: tps.map Tp.led) := fun p hp => ⟨hex9 _ _ (by simp) (N8 p hp).1, (N8 p hp).2⟩
    clear F8 N8
    have esum : ((ns.map fun r => ((r.1 : Int), r.2)).map (·.1)).sum = (((ns.map (·.1)).sum : Nat) : Int) := by
      rw [List.map_map]
      clear hsm hlen hls hl k hlg hrs hlen6
      induction ns with
      | nil => rfl
      | cons r ns ih => simp only [List.map_cons, List.sum_cons, Function.comp] at ih ⊢; rw [ih]; simp
    rw [esum]
    generalize hsu : (ns.map (·.1)).sum = su
    dsimp only
    repeat' walk1
    rename Fr g L' _ _ => F13
    rename News g L' _ _ => N13
    rename_i tq kq _ _ T2 _ l13
    have e1 : Txt.mul (Str.ofString ".") ((su : Int).fmod 2) = S (List.replicate (su % 2) 46) := by
      have h2 : (su : Int).fmod 2 = ((su % 2 : Nat) : Int) := fmodN su 2
      rw [S_dot, h2, mul_dot, Int.toNat_natCast]
    rw [e1, S_nil] at N13
    have hU : Upd D (W.listOf (tpRefs tps).toArray ep) (W.listOf ((tpRefs tps).toArray.push (.ref T2)) (ep + 1)) ((T2, { cls := .type "tuple", data := .seq #[.str (S (List.replicate (su % 2) 46)) tq, .str (S []) kq] }) :: (D, W.listOf (tpRefs tps).toArray ep) :: tps.map Tp.led)
        ((T2, { cls := .type "tuple", data := .seq #[.str (S (List.replicate (su % 2) 46)) tq, .str (S []) kq] }) :: (D, W.listOf ((tpRefs tps).toArray.push (.ref T2)) (ep + 1)) :: tps.map Tp.led) := by
      refine .tail (Nat.ne_of_gt l13.1) (.head fun p hp e => ?_)
      obtain ⟨q, hq, rfl⟩ := List.mem_map.mp hp
      exact absurd e (Nat.ne_of_gt (hDt q hq))
    have hlv : (intValues ns).length = ns.length := by simp [intValues]
    refine' append_K F13 N13 hU ?_ ?z
    case z => simp [tpRefs]; rw [sizeLine_eq]; omega
    intro h14 F14 N14
    clear F13 N13 hU
    repeat' walk1
    have elst : W.listOf ((tpRefs tps).toArray.push (.ref T2)) (ep + 1) = W.listOf (tpRefs (tps ++ [(⟨T2, (List.replicate (su % 2) 46, []), tq, kq⟩ : Tp)])).toArray (ep + 1) := by simp [tpRefs]
    rw [elst] at N14
    have hrows : rowsOf (ns.map (·.1)) = (tps ++ [(⟨T2, (List.replicate (su % 2) 46, []), tq, kq⟩ : Tp)]).map (·.r) := by
      unfold rowsOf
      rw [List.map_append, hrs, hlv, List.take_length, hsu]; rfl
    refine hK0 _ _ <| Done.intro F14 fun hex => k D _ _ ?_ hex ?_
    · have := (N14 (D, _) (.tail _ (.head _))).2.2
      rw [hgs] at this; exact this
    · rw [hrows]
      generalize hts : tps ++ [(⟨T2, (List.replicate (su % 2) 46, []), tq, kq⟩ : Tp)] = ts at N14
      refine ⟨tpRefs ts, ⟨_, (N14 _ (.tail _ (.head _))).1, rfl, _, rfl⟩, by simp [tpRefs], fun i r hr => ?_⟩
      rw [List.getElem?_map, Option.map_eq_some_iff] at hr
      obtain ⟨q, hq, rfl⟩ := hr
      refine ⟨q.a, q.t, q.u, by simp [tpRefs, hq], ⟨_, (N14 q.led ?_).1, rfl, _, rfl⟩⟩
      have hm := List.mem_of_getElem? hq
      rw [← hts] at hm
      rcases List.mem_append.mp hm with hm | hm
      · exact .tail _ (.tail _ (List.mem_map_of_mem hm))
      · rw [List.mem_singleton.mp hm]; exact .head _
  case turn =>
    intro i v m₁ news₁ h6 tk6 it o hit hv hJ hap F6 N6
    refine hideT fun K1 hK1 => ?_
    refine ex2_5 hJ ?_; clear hJ
    intro tps ep hn hrs hlen6 hDt hV
    replace N6 := newsE1 hn N6
    replace hap := apE hn hap
    clear hn news₁
    have hil : i < ns.length := by
      have := (List.getElem?_eq_some_iff.mp hv).1
      simpa [intValues] using this
    have hve : v = .int (ns[i].1 : Int) ns[i].2 := by
      have : (intValues ns)[i]? = some (.int (ns[i].1 : Int) ns[i].2) := by simp [intValues, hil]
      rw [this] at hv; exact (Option.some.inj hv).symm
    refine asgE hve ?_
    clear hve hv
    have hsi := hsm ns[i] (List.getElem_mem hil)
    have hfold : ((ns.take (i + 1)).map (·.1)).foldl rowStep [] = rowStep (tps.map (·.r)) ns[i].1 := by
      rw [List.take_add_one, List.getElem?_eq_getElem hil, List.map_append, List.foldl_append, ← hrs]; rfl
    generalize ns[i] = nu at hsi hfold
    generalize nu.2 = tnu
    generalize nu.1 = nu at hsi hfold ⊢
    have F7 := frs F6 hV
    clear F6
    iterate 2 walk1
    refine mid_val (g := g) (L := L') (fun u => [("sign", .str (S [signOf nu]) u), ("number", .int (nu : Int) tnu), ("numbers", .ref l), ("rows", .ref D)]) ((it, o) :: (D, W.listOf (tpRefs tps).toArray ep) :: tps.map Tp.led) ?_ ?_
    · intro K hK
      try dsimp only at hK
      repeat' walk1
      rename Fr g L' _ _ => F7
      rename News g L' _ _ => N7
      have e1 : (((nu : Int).fdiv 36).fmod 256).toNat = signOf nu := by
        have h1 : (nu : Int).fdiv 36 = ((nu / 36 : Nat) : Int) := fdivN nu 36
        have h2 : ((nu / 36 : Nat) : Int).fmod 256 = ((nu / 36 % 256 : Nat) : Int) := fmodN (nu / 36) 256
        rw [h1, h2]; rfl
      rw [e1] at F7
      try dsimp only
      exact hK _ _ _ _ F7 N7 ⟨rfl, rfl, rfl, rfl, trivial⟩
    intro h7 tk7 m7 u7 F8 N7
    try dsimp only
    refine mid_val (g := g) (L := L') (fun u => [("rest", .str (S (restOf nu)) u), ("number", .int (nu : Int) tnu), ("numbers", .ref l), ("rows", .ref D)]) ((it, o) :: (D, W.listOf (tpRefs tps).toArray ep) :: tps.map Tp.led) ?_ ?_
    · intro K hK
      try dsimp only at hK
      have hocc := occ_sign (signOf nu) (Nat.mod_lt _ (by decide))
      have hidx : ((nu : Int).fdiv 3).fmod 4 = ((nu / 3 % 4 : Nat) : Int) := by
        have h1 : (nu : Int).fdiv 3 = ((nu / 3 : Nat) : Int) := fdivN nu 3
        have h2 : ((nu / 3 : Nat) : Int).fmod 4 = ((nu / 3 % 4 : Nat) : Int) := fmodN (nu / 3) 4
        rw [h1, h2]
      have hlt4 : nu / 3 % 4 < 4 := Nat.mod_lt _ (by decide)
      iterate 10 walk1
      refine eval_mid (fun v => ∃ u, v = .str (S (if signOf nu = 46 ∨ signOf nu = 13 ∨ signOf nu = 10 then [98] else [signOf nu])) u) ?_ ?_
      · clear hK hidx hlt4
        repeat' walk1
        all_goals
          rename (_ : Bool) = _ => hx
          refine EvP.intro ⟨_, congrArg (fun z => Value.str z _) (?_ : _ = _)⟩
          rw [hocc] at hx
        · refine congrArg S (if_neg (fun h => ?_)).symm
          simp at hx
          rcases h with h | h | h <;> simp [h] at hx
        · refine S_b.trans (congrArg S (if_pos ?_).symm)
          simp only [Bool.not_eq_eq_eq_not, Bool.not_false, Bool.or_eq_true, decide_eq_true_eq] at hx
          rcases hx with (h | h) | h <;> simp [h]
      intro v9 tk9 hv9
      refine ex1_1 hv9 ?_; clear hv9
      intro u9 hv9
      rw [hv9]
      clear hv9
      dsimp only
      repeat' walk1
      rename Fr g L' _ _ => F9
      rename News g L' _ _ => N9
      rw [hidx]
      refine KTb.item_tup (ws := [Str.ofString "", Str.ofString "a", Str.ofString "a.", S (if signOf nu = 46 ∨ signOf nu = 13 ∨ signOf nu = 10 then [98] else [signOf nu])]) ⟨_, (N9 _ (.head _)).1, rfl, _, rfl⟩ (.cons _ _ (.cons _ _ (.cons _ _ (.cons _ _ .nil)))) (by omega) (by simp; omega) (by omega) ?_
      intro t' _
      have hgd : ([Str.ofString "", Str.ofString "a", Str.ofString "a.", S (if signOf nu = 46 ∨ signOf nu = 13 ∨ signOf nu = 10 then [98] else [signOf nu])] : List Str).getD ((nu / 3 % 4 : Nat) : Int).toNat Str.empty = S (restOf nu) := by
        rw [Int.toNat_natCast]
        unfold restOf
        match hq : nu / 3 % 4, hlt4 with
        | 0, _ => exact S_nil
        | 1, _ => exact S_a
        | 2, _ => exact S_adot
        | 3, _ => rfl
      rw [hgd]
      clear hgd
      have N10 := newsT N9
      clear N9
      repeat' walk1
      rename Fr g L' _ _ => F9
      rename News g L' _ _ => N9
      try dsimp only
      exact hK _ _ _ _ F9 N9 ⟨rfl, rfl, rfl, rfl, trivial⟩
    intro h8 tk8 m8 u8 F9 N8
    try dsimp only
    refine mid_val (g := g) (L := L') (fun u => [("row", .str (S (rowOf nu)) u), ("number", .int (nu : Int) tnu), ("numbers", .ref l), ("rows", .ref D)]) ((it, o) :: (D, W.listOf (tpRefs tps).toArray ep) :: tps.map Tp.led) ?_ ?_
    · intro K hK
      try dsimp only at hK
      have q1 := S_len (restOf nu)
      have q2 : (restOf nu).length ≤ 2 := by unfold restOf; split <;> (try split) <;> simp
      repeat' walk1
      rename Fr g L' _ _ => F10
      rename News g L' _ _ => N10
      have e1 : Txt.mul (Str.ofString ".") ((nu : Int).fmod 3) ++ S (restOf nu) = S (rowOf nu) := by
        have h2 : (nu : Int).fmod 3 = ((nu % 3 : Nat) : Int) := fmodN nu 3
        rw [S_dot, h2, mul_dot, S_append, Int.toNat_natCast]; rfl
      rw [e1] at F10
      try dsimp only
      exact hK _ _ _ _ F10 N10 ⟨rfl, rfl, rfl, rfl, trivial⟩
    intro h9 tk9 m9 u9 F10 N9
    try dsimp only
    refine mid_val (g := g) (L := L') (fun u => [("end", .str (S (endRaw nu)) u), ("row", .str (S (rowOf nu)) u9), ("numbers", .ref l), ("rows", .ref D)]) ((it, o) :: (D, W.listOf (tpRefs tps).toArray ep) :: tps.map Tp.led) ?_ ?_
    · intro K hK
      try dsimp only at hK
      have hidx : ((nu : Int).fdiv 12).fmod 3 = ((nu / 12 % 3 : Nat) : Int) := by
        have h1 : (nu : Int).fdiv 12 = ((nu / 12 : Nat) : Int) := fdivN nu 12
        have h2 : ((nu / 12 : Nat) : Int).fmod 3 = ((nu / 12 % 3 : Nat) : Int) := fmodN (nu / 12) 3
        rw [h1, h2]
      have hlt3 : nu / 12 % 3 < 3 := Nat.mod_lt _ (by decide)
      repeat' walk1
      rename Fr g L' _ _ => F11
      rename News g L' _ _ => N11
      rw [hidx]
      refine KTb.item_tup (ws := [Str.ofString "\r", Str.ofString "\n", Str.ofString "\r\n"]) ⟨_, (N11 _ (.head _)).1, rfl, _, rfl⟩ (.cons _ _ (.cons _ _ (.cons _ _ .nil))) (by omega) (by simp; omega) (by omega) ?_
      intro t' _
      have hgd : ([Str.ofString "\r", Str.ofString "\n", Str.ofString "\r\n"] : List Str).getD ((nu / 12 % 3 : Nat) : Int).toNat Str.empty = S (endRaw nu) := by
        rw [Int.toNat_natCast]
        unfold endRaw
        match hq : nu / 12 % 3, hlt3 with
        | 0, _ => exact S_cr
        | 1, _ => exact S_lf
        | 2, _ => exact S_crlf
      rw [hgd]
      clear hgd
      have N12 : News g L' _ ((it, o) :: (D, W.listOf (tpRefs tps).toArray ep) :: tps.map Tp.led) := fun p hp => N11 p (.tail _ hp)
      clear N11
      repeat' walk1
      rename Fr g L' _ _ => F11
      rename News g L' _ _ => N11
      try dsimp only
      exact hK _ _ _ _ F11 N11 ⟨rfl, rfl, rfl, rfl, trivial⟩
    intro h10 tk10 m10 u10 F11 N10
    try dsimp only
    generalize hE : (if endRaw nu = [10] ∧ rowOf nu = [] ∧ (tps.map (·.r)).getLast?.map (·.2) = some [13] then [13, 10] else endRaw nu) = EN
    refine mid_val (g := g) (L := L') (fun u => [("end", .str (S EN) u), ("row", .str (S (rowOf nu)) u9), ("numbers", .ref l), ("rows", .ref D)]) ((it, o) :: (D, W.listOf (tpRefs tps).toArray ep) :: tps.map Tp.led) ?_ ?_
    · intro K hK
      try dsimp only at hK
      have q1 := S_len (rowOf nu)
      have q2 := S_len (endRaw nu)
      have q4 : (restOf nu).length ≤ 2 := by unfold restOf; split <;> (try split) <;> simp
      have q5 : nu % 3 < 3 := Nat.mod_lt _ (by decide)
      have q3 : (rowOf nu).length ≤ 4 := by simp [rowOf]; omega
      repeat' walk1
      · rename (_ : Int) ≠ 0 => hx2
        rename Fr g L' _ _ => F12
        rename News g L' _ _ => N12
        have hEN : EN = endRaw nu := by
          rw [← hE, if_neg]
          intro h
          rw [h.2.1] at hx2
          exact hx2 (by simp [S_len])
        try dsimp only
        exact hK _ _ _ _ F12 N12 ⟨(congrArg (fun z => some (Value.str (S z) _)) hEN.symm : _), rfl, rfl, rfl, trivial⟩
      · rename (S (endRaw nu) == Str.ofString "\n") = true => hx1
        rename (_ : Int) = 0 => hx2
        rename Fr g L' _ _ => F12
        rename News g L' _ _ => N12
        rw [S_lf, S_beq] at hx1
        have hx1' : endRaw nu = [10] := by simpa using hx1
        have hx2' : rowOf nu = [] := by
          have : (rowOf nu).length = 0 := by omega
          exact List.length_eq_zero_iff.mp this
        refine wpAny_truthy_list (items := (tpRefs tps).toArray) ⟨_, (N12 _ (.tail _ (.head _))).1, rfl, _, rfl⟩ (by simp [tpRefs]; omega) ?_
        rcases List.eq_nil_or_concat tps with h0 | ⟨tq, q, h0⟩
        · have hEN : EN = endRaw nu := by
            rw [← hE, if_neg]
            rw [h0]
            intro h
            simp at h
          have hb : (!(tpRefs tps).toArray.isEmpty) = false := by rw [h0]; rfl
          rw [hb]
          repeat' walk1
          rename Fr g L' _ _ => F12
          rename News g L' _ _ => N12
          try dsimp only
          exact hK _ _ _ _ F12 N12 ⟨(congrArg (fun z => some (Value.str (S z) _)) hEN.symm : _), rfl, rfl, rfl, trivial⟩
        · have hb : (!(tpRefs tps).toArray.isEmpty) = true := by rw [h0]; simp [tpRefs]
          rw [hb]
          have hql : q.led ∈ tps.map Tp.led := List.mem_map_of_mem (by rw [h0]; simp)
          generalize hLG : (it, o) :: (D, W.listOf (tpRefs tps).toArray ep) :: tps.map Tp.led = LG at N12
          have hmD : (D, W.listOf (tpRefs tps).toArray ep) ∈ LG := by rw [← hLG]; exact .tail _ (.head _)
          have hmq : q.led ∈ LG := by rw [← hLG]; exact .tail _ (.tail _ hql)
          repeat' walk1
          rename Fr g L' _ _ => F12
          rename News g L' _ _ => N12
          have hlist : h10.IsList D (tpRefs tq ++ [Value.ref q.a]).toArray := by
            have : tpRefs tq ++ [Value.ref q.a] = tpRefs tps := by rw [h0]; simp [tpRefs]
            rw [this]; exact ⟨_, (N12 _ hmD).1, rfl, _, rfl⟩
          refine item_last hlist ?_
          repeat' walk1
          rename Fr g L' _ _ => F12
          rename News g L' _ _ => N12
          refine item_tuple (items := #[.str (S q.r.1) q.t, .str (S q.r.2) q.u]) (j := 1) (x := .str (S q.r.2) q.u) ⟨_, (N12 _ hmq).1, rfl, _, rfl⟩ (by decide) (by decide) rfl rfl ?_
          have hgl : (tps.map (·.r)).getLast?.map (·.2) = some q.r.2 := by rw [h0]; simp
          repeat' walk1
          · rename (S q.r.2 == Str.ofString "\r") = true => hx3
            rename Fr g L' _ _ => F12
            rename News g L' _ _ => N12
            rw [S_cr, S_beq] at hx3
            have hx3' : q.r.2 = [13] := by simpa using hx3
            have hEN : EN = [13, 10] := by rw [← hE, if_pos]; exact ⟨hx1', hx2', by rw [hgl, hx3']⟩
            rw [S_crlf] at F12
            try dsimp only
            exact hK _ _ _ _ F12 (newsE hLG.symm N12) ⟨(congrArg (fun z => some (Value.str (S z) _)) hEN.symm : _), rfl, rfl, rfl, trivial⟩
          · rename (S q.r.2 == Str.ofString "\r") = false => hx3
            rename Fr g L' _ _ => F12
            rename News g L' _ _ => N12
            rw [S_cr, S_beq] at hx3
            have hx3' : ¬ q.r.2 = [13] := by simpa using hx3
            have hEN : EN = endRaw nu := by rw [← hE, if_neg]; exact fun h => hx3' (by rw [hgl] at h; simpa using h.2.2)
            try dsimp only
            exact hK _ _ _ _ F12 (newsE hLG.symm N12) ⟨(congrArg (fun z => some (Value.str (S z) _)) hEN.symm : _), rfl, rfl, rfl, trivial⟩
      · rename (S (endRaw nu) == Str.ofString "\n") = false => hx
        rename Fr g L' _ _ => F12
        rename News g L' _ _ => N12
        rw [S_lf, S_beq] at hx
        have hx' : ¬ endRaw nu = [10] := by simpa using hx
        have hEN : EN = endRaw nu := by rw [← hE, if_neg]; exact fun h => hx' h.1
        try dsimp only
        exact hK _ _ _ _ F12 N12 ⟨(congrArg (fun z => some (Value.str (S z) _)) hEN.symm : _), rfl, rfl, rfl, trivial⟩
    intro h11 tk11 m11 u11 F12 N11
    try dsimp only
    repeat' walk1
    rename Fr g L' _ _ => F13
    rename News g L' _ _ => N13
    rename_i T2 _ l13
    have hit : @Ne Nat it D := fun e => hap _ (.head _) e.symm
    have hU : Upd D (W.listOf (tpRefs tps).toArray ep) (W.listOf ((tpRefs tps).toArray.push (.ref T2)) (ep + 1)) ((T2, { cls := .type "tuple", data := .seq #[.str (S (rowOf nu)) u9, .str (S EN) u11] }) :: (it, o) :: (D, W.listOf (tpRefs tps).toArray ep) :: tps.map Tp.led)
        ((T2, { cls := .type "tuple", data := .seq #[.str (S (rowOf nu)) u9, .str (S EN) u11] }) :: (it, o) :: (D, W.listOf ((tpRefs tps).toArray.push (.ref T2)) (ep + 1)) :: tps.map Tp.led) := by
      refine .tail (Nat.ne_of_gt l13.2.1) (.tail hit (.head fun p hp e => ?_))
      obtain ⟨q, hq, rfl⟩ := List.mem_map.mp hp
      exact absurd e (Nat.ne_of_gt (hDt q hq))
    refine' append_K F13 N13 hU ?_ ?z
    case z => simp [tpRefs]; rw [sizeLine_eq]; omega
    intro h14 F14 N14
    clear F13 N13 hU
    repeat' walk1
    have elst : W.listOf ((tpRefs tps).toArray.push (.ref T2)) (ep + 1) = W.listOf (tpRefs (tps ++ [(⟨T2, (rowOf nu, EN), u9, u11⟩ : Tp)])).toArray (ep + 1) := by simp [tpRefs]
    rw [elst] at N14
    refine hK1 _ _ <| Turn.next F14 (news' := (D, W.listOf (tpRefs (tps ++ [(⟨T2, (rowOf nu, EN), u9, u11⟩ : Tp)])).toArray (ep + 1)) :: (tps ++ [(⟨T2, (rowOf nu, EN), u9, u11⟩ : Tp)]).map Tp.led) ?nw ?off ⟨_, ep + 1, rfl, ?fo, by simp; omega, ?dt, ⟨rfl, rfl, trivial⟩⟩
    case nw =>
      intro p hp
      refine N14 p ?_
      simp only [List.map_append, List.map_cons, List.map_nil, List.mem_cons, List.mem_append, List.not_mem_nil, or_false] at hp ⊢
      rcases hp with h | h | h | h
      · exact .inr (.inl h)
      · exact .inr (.inr (.inl h))
      · exact .inr (.inr (.inr h))
      · exact .inl h
    case off =>
      intro p hp
      simp only [List.map_append, List.map_cons, List.map_nil, List.mem_cons, List.mem_append, List.not_mem_nil, or_false] at hp
      rcases hp with rfl | h | rfl
      · exact fun e => hit e.symm
      · exact hap p (.tail _ h)
      · exact Nat.ne_of_gt l13.1
    case fo => rw [hfold]; unfold rowStep; rw [hE, List.map_append]; rfl
    case dt =>
      intro q hq
      rcases List.mem_append.mp hq with hq | hq
      · exact hDt q hq
      · rw [List.mem_singleton.mp hq]; exact l13.2.1
end Mine
end

section
open PySem PySem.W PyProof.Rows
namespace Mine
theorem in5_5 {T1 T2 T3 T4 T5 : Sort _} {P1 P2 P3 P4 P5 : T1 → T2 → T3 → T4 → T5 → Prop} (a1 : T1) (a2 : T2) (a3 : T3) (a4 : T4) (a5 : T5) (h1 : P1 a1 a2 a3 a4 a5) (h2 : P2 a1 a2 a3 a4 a5) (h3 : P3 a1 a2 a3 a4 a5) (h4 : P4 a1 a2 a3 a4 a5) (h5 : P5 a1 a2 a3 a4 a5) : ∃ a1 a2 a3 a4 a5, P1 a1 a2 a3 a4 a5 ∧ P2 a1 a2 a3 a4 a5 ∧ P3 a1 a2 a3 a4 a5 ∧ P4 a1 a2 a3 a4 a5 ∧ P5 a1 a2 a3 a4 a5 := ⟨a1, a2, a3, a4, a5, h1, h2, h3, h4, h5⟩
theorem in8_7 {T1 T2 T3 T4 T5 T6 T7 T8 : Sort _} {P1 P2 P3 P4 P5 P6 P7 : T1 → T2 → T3 → T4 → T5 → T6 → T7 → T8 → Prop} (a1 : T1) (a2 : T2) (a3 : T3) (a4 : T4) (a5 : T5) (a6 : T6) (a7 : T7) (a8 : T8) (h1 : P1 a1 a2 a3 a4 a5 a6 a7 a8) (h2 : P2 a1 a2 a3 a4 a5 a6 a7 a8) (h3 : P3 a1 a2 a3 a4 a5 a6 a7 a8) (h4 : P4 a1 a2 a3 a4 a5 a6 a7 a8) (h5 : P5 a1 a2 a3 a4 a5 a6 a7 a8) (h6 : P6 a1 a2 a3 a4 a5 a6 a7 a8) (h7 : P7 a1 a2 a3 a4 a5 a6 a7 a8) : ∃ a1 a2 a3 a4 a5 a6 a7 a8, P1 a1 a2 a3 a4 a5 a6 a7 a8 ∧ P2 a1 a2 a3 a4 a5 a6 a7 a8 ∧ P3 a1 a2 a3 a4 a5 a6 a7 a8 ∧ P4 a1 a2 a3 a4 a5 a6 a7 a8 ∧ P5 a1 a2 a3 a4 a5 a6 a7 a8 ∧ P6 a1 a2 a3 a4 a5 a6 a7 a8 ∧ P7 a1 a2 a3 a4 a5 a6 a7 a8 := ⟨a1, a2, a3, a4, a5, a6, a7, a8, h1, h2, h3, h4, h5, h6, h7⟩
end Mine
end

section
open PySem PySem.W PyProof.Rows PySem.Calls
set_option maxHeartbeats 4000000
namespace Mine
section
variable {prog : Program} {w : World} {A : Around} {E : Value → Shared → Prop} {s : Shared}
theorem sorted_any {x : Value} {ks : List Str} {Q : Value → Shared → Prop} (P : Heap → Drawn → Prop) (h64 : ks.length < 64)
    (hcol : ∀ (Q' : List Value → Shared → Prop), (∀ vs ss h1 tk dr, StrsAre vs ss → ss.Perm ks → Ext [] s.heap h1 → P h1 dr → Q' vs { s with heap := h1, toks := tk, drawn := dr }) → wpAny (model prog w) A.in1 (collect x) Q' E s)
    (h : ∀ D h' tk dr (out : List Value) (ss' : List Str) e, StrsAre out ss' → ss'.Perm ks → sortedS ss' = true → s.heap.get? D = none → (∃ h1 : Heap, D = h1.objs.size ∧ P h1 dr) → Ext [] s.heap h' → h'.get? D = some (seqObj "list" out.toArray e) →
      Q (.ref D) { s with heap := h', toks := tk, drawn := dr }) :
    wpAny (model prog w) A (call (.builtin "sorted") [x]) Q E s := by
  refine Calls.call_function_entry kind_sorted plain_sorted entry_sorted (args_sorted1 _) ?_
  unfold Builtin.«sorted»
  refine wpAny_bind (m := checkCount "sorted" 1 1 _) (wpAny_pure (wpAny_bind (hcol _ fun vs ss h1 tk dr hS hp hex hP => ?_)))
  have hvl : vs.length < 64 := by rw [hS.length, hp.length_eq]; exact h64
  refine wpAny_bind (wpAny_newList ?_ (by rw [sizeLine_eq]; omega))
  have hoL : (h1.push (seqObj "list" vs.toArray 0)).get? h1.objs.size = some (seqObj "list" vs.toArray 0) := Heap.get?_push_size _ rfl
  refine wpAny_bind (wpAny_holding (wpAny_call_entry slot_list_sort ⟨_, hoL, rfl⟩ entry_list_sort (list_sort_treeK strKind_oneLt hoL hS.keysOf (fun v₁ v₂ rest e => keyKind_strs (by rw [← e]; exact hS)) hvl fun st' a1 a2 => ⟨_, rfl, ?_⟩) (args_list_sort _)))
  obtain ⟨ss', b1, b2, b3⟩ := sorted_out_str hS a1 a2
  obtain ⟨e, he⟩ := sortedHeap_at (out := (arrOf st').map (·.2)) hoL
  refine wpAny_pure ⟨_, rfl, h h1.objs.size _ _ _ _ ss' e b1 (b2.trans hp) b3 ?_ ⟨h1, rfl, hP⟩ (fun b o _ hb => ?_) he⟩
  · cases q : s.heap.get? h1.objs.size with
    | none => rfl
    | some o => exact absurd (Heap.lt_size (hex _ _ (fun h => nomatch h) q)) (Nat.lt_irrefl _)
  · have hb1 := hex b o (fun h => nomatch h) hb
    have hlt : b < h1.objs.size := Heap.lt_size hb1
    rw [sortedHeap_old (Nat.ne_of_lt hlt) (by rw [Heap.size_push]; exact Nat.lt_succ_of_lt hlt)]
    exact Heap.get?_push_of_some _ hb1
theorem sorted_tup {l : Addr} {vs : List Value} {ss : List Str} {Q : Value → Shared → Prop} (ht : IsTup s.heap l vs.toArray) (hS : StrsAre vs ss) (h64 : vs.length < 64)
    (h : ∀ D h' tk (out : List Value) (ss' : List Str) e, StrsAre out ss' → ss'.Perm ss → sortedS ss' = true → s.heap.get? D = none → Ext [] s.heap h' → h'.get? D = some (seqObj "list" out.toArray e) → Q (.ref D) { s with heap := h', toks := tk }) :
    wpAny (model prog w) A (call (.builtin "sorted") [.ref l]) Q E s := by
  obtain ⟨o, ho, hc, n, hd⟩ := ht
  refine sorted_any (fun _ dr => dr = s.drawn) (by rw [← hS.length]; exact h64) (fun Q' hQ' => wpAny_collect_seq l (.inr rfl) ho hc hd (fun h1 hk => hQ' _ ss h1 s.toks s.drawn hS (List.Perm.refl _) (fun b o _ => hk b o) rfl) ?_) ?_
  · rw [sizeLine_eq, List.size_toArray]; omega
  · rintro D h' tk dr out ss' e x1 x2 x3 x4 ⟨_, _, rfl⟩ x5 x6
    exact h D h' tk out ss' e x1 x2 x3 x4 x5 x6
end
end Mine
end

section
open PySem PySem.W PyProof.Rows PySem.Calls
namespace Mine
theorem lay_led (t : SetTable) (es : Array (Int × Value)) (h : Int) (x : Value) : (layNew t es h x).2.1.led = t.led := by
  unfold layNew
  split
  · rename_i slot wd _
    have hp : (t.put slot).1.led = t.led := rfl
    dsimp only
    unfold SetTable.orStandIn
    split
    · exact hp
    · exact hp
  · rfl
theorem relay_plain (t : SetTable) (es : Array (Int × Value)) (wanted : Nat) (hp0 : t.plain = false) : (relayAll t es wanted).2.1.plain = false := by
  unfold relayAll
  split
  · rename_i t' order hq
    have hl : t'.plain = false := by
      unfold SetTable.relaid SetTable.laid at hq
      simp only [Option.bind_eq_bind, Option.bind_eq_some_iff] at hq
      obtain ⟨ow, _, hq⟩ := hq
      simp only [pure, Option.some.injEq, Prod.mk.injEq] at hq
      rw [← hq.1]
      exact hp0
    dsimp only
    split
    · exact hl
    · rfl
  · rfl
theorem relay_led (t : SetTable) (es : Array (Int × Value)) (wanted : Nat) : (relayAll t es wanted).2.1.led = t.led := by
  unfold relayAll
  split
  · rename_i t' order hq
    have hl : t'.led = t.led := by
      unfold SetTable.relaid SetTable.laid at hq
      simp only [Option.bind_eq_bind, Option.bind_eq_some_iff] at hq
      obtain ⟨ow, _, hq⟩ := hq
      simp only [pure, Option.some.injEq, Prod.mk.injEq] at hq
      rw [← hq.1]
    dsimp only
    split
    · exact hl
    · rfl
  · rfl
end Mine
namespace Mine
section
set_option linter.unusedSectionVars false
variable {prog : Program} {w : World} {A : Around} {E : Value → Shared → Prop} {s : Shared} {K : Type} [DecidableEq K] [BEq K] [LawfulBEq K] {knd : KeyKind prog w K}
noncomputable def LedOf (knd : KeyKind prog w K) (h : Heap) (a : Addr) (S : K → Bool) (n : Nat) (ld : Bool) : Prop :=
  ∃ o es ep t, h.get? a = some o ∧ o.ExactSet ∧ o.data = .set es ep t ∧ ElemsOf knd es.toList ∧ (∀ k, S k = true ↔ ∃ e ∈ es.toList, knd.is k e.2 = true)
    ∧ es.size < scanBound ∧ t.fits es.size = true ∧ es.size = n ∧ t.led = ld ∧ (n = 0 ∨ t.plain = false)
theorem LedOf.setOf {h : Heap} {a : Addr} {S : K → Bool} {n : Nat} {ld : Bool} (x : LedOf knd h a S n ld) : h.SetOf knd a S n := by
  obtain ⟨o, es, ep, t, h1, h2, h3, h4, h5, h6, h7, h8, _, _⟩ := x
  exact ⟨o, es, ep, t, h1, h2, h3, h4, h5, h6, h7, h8⟩
structure Tab (knd : KeyKind prog w K) (es : Array (Int × Value)) (t : SetTable) (S : K → Bool) (n : Nat) (ld : Bool) : Prop where
  el : ElemsOf knd es.toList
  mem : ∀ k, S k = true ↔ ∃ e ∈ es.toList, knd.is k e.2 = true
  fits : t.fits es.size = true
  size : es.size = n
  led : t.led = ld
  off : n = 0 ∨ t.plain = false
noncomputable def offTab (t : SetTable) : SetTable := if !t.plain then t else { t with plain := false }
theorem offTab_is (t : SetTable) : (offTab t).plain = false ∧ (offTab t).led = t.led ∧ ∀ n, (offTab t).fits n = t.fits n := by
  unfold offTab
  cases hp : t.plain
  · exact ⟨hp, rfl, fun _ => rfl⟩
  · exact ⟨rfl, rfl, fun _ => rfl⟩
theorem perm_size {es es' : Array (Int × Value)} (p : es'.toList.Perm es.toList) : es'.size = es.size := by
  have := p.length_eq
  rwa [Array.length_toList, Array.length_toList] at this
theorem Tab.more {es : Array (Int × Value)} {t : SetTable} {S : K → Bool} {n : Nat} {ld : Bool} (T : Tab knd es t S n ld) {k : K} {x : Value} (hk : knd.is k x = true) (hx : x.scannable = true) :
    Tab knd (layNew t es (knd.hash k) x).1 (offTab (layNew t es (knd.hash k) x).2.1) (fun k' => S k' || decide (k' = k)) (n + 1) ld := by
  have p := layNew_perm t es (knd.hash k) x
  have z := perm_size p
  have o := offTab_is (layNew t es (knd.hash k) x).2.1
  rw [Array.toList_push] at p
  exact ⟨(T.el.push hk hx).perm p, mem_push_iff hk T.mem p, (o.2.2 _).trans (layNew_fits ..), z.trans ((Array.size_push ..).trans (congrArg _ T.size)), (o.2.1.trans (lay_led ..)).trans T.led, .inr o.1⟩
theorem Tab.moved {es : Array (Int × Value)} {t : SetTable} {S : K → Bool} {n : Nat} {ld : Bool} (T : Tab knd es t S (n + 1) ld) (m : Nat) : Tab knd (relayAll t es m).1 (relayAll t es m).2.1 S (n + 1) ld := by
  have p := relayAll_perm t es m
  exact ⟨T.el.perm p, fun k => (T.mem k).trans (exists_congr fun _ => and_congr_left fun _ => p.mem_iff.symm), relayAll_fits .., (perm_size p).trans T.size, (relay_led ..).trans T.led, .inr (relay_plain _ _ _ (T.off.resolve_left (Nat.succ_ne_zero _)))⟩
noncomputable def SetAt (h : Heap) (a : Addr) (es : Array (Int × Value)) (t : SetTable) : Prop := ∃ o ep, h.get? a = some o ∧ o.ExactSet ∧ o.data = .set es ep t
theorem put_at {a : Addr} {es es' : Array (Int × Value)} {t t' : SetTable} {Q : Unit → Shared → Prop} (x : SetAt s.heap a es t) (hz : es'.size < scanBound)
    (h : ∀ h', Heap.SameBut a s.heap h' → SetAt h' a es' t' → Q () { s with heap := h' }) : wpAny (model prog w) A (storeSet a es' t') Q E s := by
  obtain ⟨o, ep, ho, hx, hd⟩ := x
  have e := putSet_of es' t' hd
  exact wpAny_storeSet_of ho hd (h _ (Heap.SameBut.update ..) ⟨_, ep + 1, (Heap.get?_update_self _ ho (by rw [e]; rfl)).trans (congrArg some e), hx, rfl⟩) (fits_of_scanBound hz)
theorem scan_add {a : Addr} {es : Array (Int × Value)} {t : SetTable} {S : K → Bool} {n : Nat} {ld : Bool} {k : K} {x : Value} {Q : Option Bool → Shared → Prop} (at_ : SetAt s.heap a es t) (T : Tab knd es t S n ld) (hk : knd.is k x = true) (hx : x.scannable = true) (hpk : plainKind x = false) (hroom : n + 1 < scanBound)
    (old : S k = true → Q (some false) s)
    (new : S k = false → ∀ h' es' t', Heap.SameBut a s.heap h' → SetAt h' a es' t' → Tab knd es' t' (fun k' => S k' || decide (k' = k)) (n + 1) ld → Q (some true) { s with heap := h' }) :
    wpAny (model prog w) A (setAddByScan a x (knd.hash k) es t) Q E s := by
  let ⟨o, ep, ho, _, hd⟩ := at_
  refine wpAny_bind (wpAny_rule (wpAny_bind (wpAny_setScan_of hk ho hd T.fits T.el ?_)))
  cases hs : S k with
  | true =>
    obtain ⟨j, hj⟩ : ∃ j, es.toList.findIdx? (fun e => knd.is k e.2) = some j := Option.isSome_iff_exists.mp (by rw [List.findIdx?_isSome]; exact List.any_eq_true.mpr ((T.mem k).mp hs))
    rw [hj]
    exact wpAny_pure (old hs)
  | false =>
    have hj : es.toList.findIdx? (fun e => knd.is k e.2) = none := List.findIdx?_eq_none_iff.mpr fun e he => Bool.eq_false_iff.mpr fun q => Bool.false_ne_true (hs.symm.trans ((T.mem k).mpr ⟨e, he, q⟩))
    rw [hj]
    have T1 := T.more hk hx
    generalize layNew t es (knd.hash k) x = L at T1 ⊢
    obtain ⟨es1, t1, dummy, gave⟩ := L
    have two : ∀ b : Bool, t1.plain = !b → offTab t1 = if b = true then t1 else { t1 with plain := false } := fun b hp => by unfold offTab; rw [hp, Bool.not_not]
    have quiet : ∀ {b : Bool} {s₁ : Shared} {R : Unit → Shared → Prop}, R () s₁ → wpAny (model prog w) A (match b with | true => rule "set.scan.the-table-gave-way" | false => pure ()) R E s₁ := fun {b} _ _ r => match b with
      | true => wpAny_rule r
      | false => wpAny_pure r
    dsimp only at T1 ⊢
    refine wpAny_bind (quiet (wpAny_ite_split (fun hp => ?_) fun hp => ?_))
    · rw [hashByValue_scannable 8 hx, hpk]
      rw [two false hp] at T1
      exact wpAny_bind (wpAny_pure (wpAny_bind (put_at at_ (by rw [T1.size]; exact hroom) fun h1 k1 at1 => wpAny_ite_split (fun _ => wpAny_bind (quiet (wpAny_bind (put_at at1 (by rw [(T1.moved _).size]; exact hroom) fun h2 k2 at2 => wpAny_pure (new hs h2 _ _ (k1.trans k2) at2 (T1.moved _)))))) fun _ => wpAny_pure (new hs h1 es1 _ k1 at1 T1))))
    · rw [two true (Bool.eq_false_iff.mpr hp)] at T1
      exact wpAny_bind (wpAny_pure (wpAny_bind (put_at at_ (by rw [T1.size]; exact hroom) fun h1 k1 at1 => wpAny_ite_split (fun _ => wpAny_bind (quiet (wpAny_bind (put_at at1 (by rw [(T1.moved _).size]; exact hroom) fun h2 k2 at2 => wpAny_pure (new hs h2 _ _ (k1.trans k2) at2 (T1.moved _)))))) fun _ => wpAny_pure (new hs h1 es1 _ k1 at1 T1))))
theorem led_add {a : Addr} {S : K → Bool} {n : Nat} {ld : Bool} {k : K} {x : Value} {Q : Bool → Shared → Prop} (hkey : knd.is k x = true) (hsc : x.scannable = true) (hpk : plainKind x = false) (hS : LedOf knd s.heap a S n ld)
    (hroom : n + 1 < scanBound)
    (h : ∀ b h', Heap.SameBut a s.heap h' → LedOf knd h' a (fun k' => S k' || decide (k' = k)) (if S k then n else n + 1) ld → Q b { s with heap := h' }) :
    wpAny (model prog w) A (setAddHashed a x (knd.hash k)) Q E s := by
  obtain ⟨o, es, ep, t, ho, hex, hd, hel, hmem, hb, hf, hn, hld, hpl⟩ := hS
  refine wpAny_holding (wpAny_bind (wpAny_setState_of ho hd hf ?_))
  dsimp only
  rw [if_pos (byScan_of hsc hb hel)]
  refine wpAny_bind (scan_add ⟨o, ep, ho, hex, hd⟩ ⟨hel, hmem, hf, hn, hld, hpl⟩ hkey hsc hpk hroom (fun hs => wpAny_pure (h _ s.heap (Heap.SameBut.refl a s.heap) ?_)) fun hs h' es' t' k' ⟨o', ep', ho', hx', hd'⟩ T => wpAny_pure (h _ h' k' ?_))
  · rw [if_pos hs]
    have e : (fun k' => S k' || decide (k' = k)) = S := funext fun k' => by
      by_cases q : k' = k
      · rw [q, hs]; rfl
      · rw [decide_eq_false q, Bool.or_false]
    rw [e]
    exact ⟨o, es, ep, t, ho, hex, hd, hel, hmem, hb, hf, hn, hld, hpl⟩
  · rw [if_neg (by rw [hs]; exact Bool.false_ne_true)]
    exact ⟨o', es', ep', t', ho', hx', hd', T.el, T.mem, by rw [T.size]; exact hroom, T.fits, T.size, T.led, T.off⟩
theorem led_call {a : Addr} {S : K → Bool} {n : Nat} {ld : Bool} {k : K} {key : Value} {Q : Value → Shared → Prop} (hkey : knd.is k key = true) (hsc : key.scannable = true) (hpk : plainKind key = false) (hS : LedOf knd s.heap a S n ld) (hroom : n + 1 < scanBound)
    (h : ∀ h', Heap.SameBut a s.heap h' → LedOf knd h' a (fun k' => S k' || decide (k' = k)) (if S k then n else n + 1) ld → Q .none { s with heap := h', toks := s.toks + 1 }) :
    wpAny (model prog w) A (call (.builtin "set.add") [.ref a, key]) Q E s := by
  refine wpAny_call_entry F.slot_set_add hS.setOf.typeIs F.entry_set_add ?_ (F.args_set_add_2 _ _)
  show wpAny _ _ (setAdd a key >>= fun _ => ret Value.none) _ _ s
  refine wpAny_bind (wpAny_holding (wpAny_bind (knd.pyHash hkey ?_)))
  exact led_add (s := { s with toks := s.toks + 1 }) hkey hsc hpk hS hroom fun _ h' hsb hS' => wpAny_pure ⟨_, rfl, h h' hsb hS'⟩
end
end Mine
end

section
open PySem PySem.W PyProof.Rows PySem.Calls
set_option maxHeartbeats 4000000
namespace Mine
section
variable {prog : Program} {w : World} {A : Around} {R : Result → Shared → Prop} {s₀ : Shared}
theorem compTurn_set1 (elt target iter c : Expr) (scope : Scope) (pos : Pos) (it acc : Value) (env : Env) :
    compTurn (.SetComp elt [⟨target, iter, [c], 0⟩] scope pos) 0 it acc env = (do
      standAt iter.pos
      match ← pyNext it with
      | none => pure (.done .next)
      | some v =>
        letOwnedTupleGo target it v
        assign target env v
        let mut ok := true
        for c in [c] do
          if ok then ok ← isTrue c env (eval c env)
        if ok then
          (do let v ← eval elt env; standAt elt.pos; let _ ← call (.builtin "set.add") [acc, v])
        again (.compLoop (.SetComp elt [⟨target, iter, [c], 0⟩] scope pos) 0 it acc env)) := by rfl
noncomputable def inSetOf (pz : Nat → Bool) (ky : Nat → Str) (i : Nat) (k : Str) : Bool := (List.range i).any fun j => pz j && decide (k = ky j)
theorem inSet_succ (pz : Nat → Bool) (ky : Nat → Str) (i : Nat) (k : Str) : inSetOf pz ky (i + 1) k = (inSetOf pz ky i k || (pz i && decide (k = ky i))) := by
  unfold inSetOf
  rw [List.range_succ, List.any_append]; simp
theorem ks_more {pz : Nat → Bool} {ky : Nat → Str} {i : Nat} {ks : List Str} (hp : pz i = true) (hn : ks.Nodup) (hm : ∀ k, k ∈ ks ↔ inSetOf pz ky i k = true) :
    (if inSetOf pz ky i (ky i) then ks else ks ++ [ky i]).Nodup ∧ ∀ k, k ∈ (if inSetOf pz ky i (ky i) then ks else ks ++ [ky i]) ↔ inSetOf pz ky (i + 1) k = true := by
  by_cases hq : inSetOf pz ky i (ky i) = true
  · rw [if_pos hq]
    refine ⟨hn, fun k => ?_⟩
    rw [inSet_succ, hp, hm k]
    by_cases e : k = ky i
    · simp [e, hq]
    · simp [e]
  · rw [if_neg hq]
    refine ⟨?_, fun k => ?_⟩
    · rw [List.nodup_append]
      refine ⟨hn, by simp, fun a ha b hb e => ?_⟩
      rw [List.mem_singleton.mp hb] at e
      exact hq ((hm _).mp (e ▸ ha))
    · rw [inSet_succ, hp, List.mem_append, hm k]; simp
theorem in_more {pz : Nat → Bool} {ky : Nat → Str} {i : Nat} (hp : pz i = true) : inSetOf pz ky (i + 1) = fun k' => inSetOf pz ky i k' || decide (k' = ky i) := by
  funext k
  rw [inSet_succ, hp]; simp
theorem in_same {pz : Nat → Bool} {ky : Nat → Str} {i : Nat} (hp : ¬ pz i = true) : inSetOf pz ky (i + 1) = inSetOf pz ky i := by
  funext k
  rw [inSet_succ]
  simp only [Bool.not_eq_true] at hp
  simp [hp]
theorem len_more {pz : Nat → Bool} {ky : Nat → Str} {i : Nat} {ks : List Str} : (if inSetOf pz ky i (ky i) then ks else ks ++ [ky i]).length = if inSetOf pz ky i (ky i) then ks.length else ks.length + 1 := by split <;> simp
theorem led_keep {h h' : Heap} {D : Addr} {S : Str → Bool} {m : Nat} {ld : Bool} (hs : LedOf (PySem.strKind prog w) h D S m ld) (hk : ∀ o, h.get? D = some o → h'.get? D = some o) : LedOf (PySem.strKind prog w) h' D S m ld := by
  obtain ⟨o, es, ep, t, ho, r⟩ := hs
  exact ⟨o, es, ep, t, hk o ho, r⟩
inductive ScwI (prog : Program) (w : World) (s₀ : Shared) (I D : Addr) (own : List Addr) (n : Nat) (St : Nat → Heap → Prop) (pz : Nat → Bool) (ky : Nat → Str) (ld : Bool) (Inv : Heap → Prop) (k : Nat) (s' : Shared) : Prop
  | mk (i : Nat) (h : Heap) (tk : Nat) (ks : List Str) (hil : i ≤ n) (hk : k = n - i) (hs : s' = ⟨h, s₀.gens, s₀.drawn, tk, s₀.os⟩) (hst : St i h) (hmi : ks.length ≤ i) (hnd : ks.Nodup) (hmem : ∀ k, k ∈ ks ↔ inSetOf pz ky i k = true) (hD : LedOf (PySem.strKind prog w) h D (inSetOf pz ky i) ks.length ld) (hin : Inv h) (hkp : Kp (I :: D :: own) s₀.heap h) : ScwI prog w s₀ I D own n St pz ky ld Inv k s'
theorem ScwI.el {I D : Addr} {own : List Addr} {n : Nat} {St : Nat → Heap → Prop} {pz : Nat → Bool} {ky : Nat → Str} {ld : Bool} {Inv : Heap → Prop} {k : Nat} {s' : Shared} {G : Shared → Prop} (x : ScwI prog w s₀ I D own n St pz ky ld Inv k s')
    (f : ∀ (i : Nat) (h : Heap) (tk : Nat) (ks : List Str), i ≤ n → k = n - i → St i h → ks.length ≤ i → ks.Nodup → (∀ k, k ∈ ks ↔ inSetOf pz ky i k = true) → LedOf (PySem.strKind prog w) h D (inSetOf pz ky i) ks.length ld → Inv h → Kp (I :: D :: own) s₀.heap h → G ⟨h, s₀.gens, s₀.drawn, tk, s₀.os⟩) : G s' := by
  obtain ⟨i, h, tk, ks, hil, hk, rfl, hst, hmi, hnd, hmem, hD, hin, hkp⟩ := x
  exact f i h tk ks hil hk hst hmi hnd hmem hD hin hkp
theorem scw_core {elt target iter c : Expr} {scope : Scope} {pos : Pos} {cenv : Env} {I D : Addr} {fp own : List Addr} {n : Nat} {P : Nat → Value → Prop} {St : Nat → Heap → Prop} (W : Walks prog w A I fp [I] n P St) (Inv : Heap → Prop) (Asg : Value → Heap → Prop) (pz : Nat → Bool) (ky : Nat → Str)
    (n2 : D ∉ own) (nf : ∀ b ∈ fp, b ∉ D :: own) (hz : n ≤ 1000)
    (hlo : ∀ i v (s : Shared) (Q : Unit → Shared → Prop) (E : Value → Shared → Prop), St i s.heap → Q () s → wpAny (model prog w) A (letOwnedTupleGo target (.ref I) v) Q E s)
    (hInv : ∀ h h', Inv h → (∀ b o, b ∈ own → h.get? b = some o → h'.get? b = some o) → Inv h')
    (hAsg : ∀ v h h', Asg v h → (∀ b o, h.get? b = some o → h'.get? b = some o) → Asg v h')
    (asg : ∀ (i : Nat) (v : Value) (s₂ : Shared) (E' : Value → Shared → Prop), P i v → i < n → Inv s₂.heap → Kp (I :: D :: own) s₀.heap s₂.heap →
      wpAny (model prog w) A (assign target cenv v) (fun _ s₃ => Inv s₃.heap ∧ Asg v s₃.heap ∧ ∃ h' tk, s₃ = { s₂ with heap := h', toks := tk } ∧ Kp own s₂.heap h') E' s₂)
    (testok : ∀ (i : Nat) (v : Value) (s₃ : Shared) (E' : Value → Shared → Prop), P i v → i < n → Asg v s₃.heap → Kp (I :: D :: own) s₀.heap s₃.heap → wpAny (model prog w) A (isTrue c cenv (eval c cenv)) (fun b s₄ => b = pz i ∧ Keeps s₃ s₄) E' s₃)
    (eltok : ∀ (i : Nat) (v : Value) (s₃ : Shared) (E' : Value → Shared → Prop), P i v → i < n → pz i = true → Asg v s₃.heap → Kp (I :: D :: own) s₀.heap s₃.heap → wpAny (model prog w) A (eval elt cenv) (fun y s₄ => (∃ t, y = .str (ky i) t) ∧ Keeps s₃ s₄) E' s₃)
    (hI : St 0 s₀.heap) {ld : Bool} (hD : LedOf (PySem.strKind prog w) s₀.heap D (fun _ => false) 0 ld) (hi : Inv s₀.heap)
    (fin : ∀ (h : Heap) (tk : Nat) (ks : List Str), ks.length ≤ n → ks.Nodup → (∀ k, k ∈ ks ↔ inSetOf pz ky n k = true) → LedOf (PySem.strKind prog w) h D (inSetOf pz ky n) ks.length ld → Kp (I :: D :: own) s₀.heap h → Inv h → R (.ok .next) { s₀ with heap := h, toks := tk }) :
    codeAny (model prog w) A (.compLoop (.SetComp elt [⟨target, iter, [c], 0⟩] scope pos) 0 (.ref I) (.ref D) cenv) R s₀ := by
  have hIf : I ∈ fp := W.sub I (.head _)
  have n1 : I ∉ own := fun h => nf I hIf (.tail _ h)
  have n4 : I ≠ D := fun h => nf I hIf (h ▸ .head _)
  refine codeAny_loop rfl (ScwI prog w s₀ I D own n St pz ky ld Inv) (fun m s hJ => ?_) n ⟨0, s₀.heap, s₀.toks, [], Nat.zero_le _, rfl, rfl, hI, Nat.le_refl _, List.nodup_nil, fun k => by simp [inSetOf], hD, hi, fun _ _ _ e => e⟩
  show wpAny _ A ((compTurn (.SetComp elt [⟨target, iter, [c], 0⟩] scope pos) 0 (.ref I) (.ref D) cenv).onRaise (fun x => do noteFrame x cenv; theTreesLotGoes x)) _ _ _
  refine wpAny_noted ?_
  rw [compTurn_set1]
  refine hideQ fun K0 hK0 => ?_
  refine hJ.el ?_; clear hJ
  intro i h tk ks hil hm hst hmi hnd hmem hDt hin hk
  have oneI : ∀ {b : Addr} {l : List Addr}, b ∉ I :: l → b ∉ [I] := fun hb q => hb (by rw [List.mem_singleton.mp q]; exact .head _)
  have ownI : ∀ {b : Addr}, b ∈ own → b ∉ [I] := fun hb q => n1 (by rw [List.mem_singleton.mp q] at hb; exact hb)
  have DI : D ∉ [I] := fun q => n4 (List.mem_singleton.mp q).symm
  refine wpAny_bind (wpAny_standAt (wpAny_bind ?_))
  refine (Nat.lt_or_eq_of_le hil).elim (fun hlt => ?_) fun e => ?_
  · refine W.item i _ _ _ hlt hst fun v h1 tk1 hP hst1 k1 => ?_
    dsimp only
    dsimp only at k1
    refine wpAny_bind (hlo (i + 1) v _ _ _ hst1 ?_)
    have hin1 : Inv h1 := hInv h h1 hin fun b o hb e => k1 b o (ownI hb) e
    have kk1 : Kp (I :: D :: own) s₀.heap h1 := fun b o hb e => k1 b o (oneI hb) (hk b o hb e)
    refine wpAny_bind (wpAny_mono (asg i v { s₀ with heap := h1, toks := tk1 } _ hP hlt hin1 kk1) (fun _ s₂ h₂ => ?_) fun _ _ e => e)
    have hin2 := h₂.1
    have hasg := h₂.2.1
    have hkp := h₂.2.2
    clear h₂
    obtain ⟨h2, tk2, rfl, k2⟩ := hkp
    have kk2 : Kp (I :: D :: own) s₀.heap h2 := fun b o hb e => k2 b o (fun q => hb (.tail _ (.tail _ q))) (kk1 b o hb e)
    refine wpAny_bind (wpAny_mono (wpAny_tests_one (testok i v _ _ hP hlt hasg kk2)) (fun b s₃ h₃ => ?_) fun _ _ e => e)
    rw [h₃.1]
    have hkp := h₃.2
    clear h₃
    obtain ⟨h3, tk3, rfl, k3⟩ := hkp
    dsimp only at k3 hin2 hasg k2
    have hst3 : St (i + 1) h3 := W.frame (i + 1) h1 h3 hst1 fun b hb o e => k3 b o (k2 b o (fun q => nf b hb (.tail _ q)) e)
    have hD3 : LedOf (PySem.strKind prog w) h3 D (inSetOf pz ky i) ks.length ld := led_keep hDt fun o e => k3 _ _ (k2 D _ n2 (k1 D _ DI e))
    have hin3 : Inv h3 := hInv h2 h3 hin2 fun b o _ e => k3 b o e
    have kk3 : Kp (I :: D :: own) s₀.heap h3 := fun b o hb e => k3 b o (kk2 b o hb e)
    have hlt2 : n - (i + 1) < m := by rw [hm]; exact Nat.sub_succ_lt_self n i hlt
    by_cases hp : pz i = true
    · rw [if_pos hp]
      refine wpAny_bind (wpAny_bind (wpAny_mono (eltok i v _ _ hP hlt hp (hAsg v _ _ hasg k3) kk3) (fun y s₄ h₄ => ?_) fun _ _ e => e))
      refine h₄.1.elim fun t ht => ?_
      rw [ht]
      have hkp := h₄.2
      clear h₄ ht
      obtain ⟨h4, tk4, rfl, k4⟩ := hkp
      dsimp only at k4
      refine wpAny_bind (wpAny_standAt ?_)
      have hD4 : LedOf (PySem.strKind prog w) h4 D (inSetOf pz ky i) ks.length ld := led_keep hD3 fun o e => k4 _ _ e
      refine wpAny_bind (led_call (knd := PySem.strKind prog w) (s := ⟨h4, s₀.gens, s₀.drawn, tk4, s₀.os⟩) (strKind_is _ _ _ _) rfl rfl hD4 (by show ks.length + 1 < 4096; omega) fun h5 hs5 hD5 => wpAny_pure (wpAny_pure (hK0 _ _ ⟨rfl, n - (i + 1), hlt2, i + 1, h5, tk4 + 1, (if inSetOf pz ky i (ky i) then ks else ks ++ [ky i]), hlt, rfl, rfl, ?_, ?ln, (ks_more hp hnd hmem).1, (ks_more hp hnd hmem).2, ?_, ?_, ?_⟩)))
      case ln => rw [len_more]; split <;> omega
      · exact W.frame (i + 1) h3 h5 hst3 fun b hb o e => (hs5.2 b (fun q => nf b hb (q ▸ .head _))).trans (k4 b o e)
      · rw [in_more hp, len_more]; exact hD5
      · exact hInv h3 h5 hin3 fun b o hb e => (hs5.2 b (fun q => n2 (q ▸ hb))).trans (k4 b o e)
      · exact fun b o hb e => (hs5.2 b (fun q => hb (by rw [q]; exact .tail _ (.head _)))).trans (k4 b o (kk3 b o hb e))
    · rw [if_neg hp]
      exact wpAny_pure (hK0 _ _ ⟨rfl, n - (i + 1), hlt2, i + 1, h3, tk3, ks, hlt, rfl, rfl, hst3, Nat.le_succ_of_le hmi, hnd, by rw [in_same hp]; exact hmem, by rw [in_same hp]; exact hD3, hin3, kk3⟩)
  · rw [e] at hst hmi hmem hDt
    refine W.done _ _ _ hst fun h1 tk1 k1 => ?_
    dsimp only
    dsimp only at k1
    exact wpAny_pure (hK0 _ _ (fin h1 tk1 ks hmi hnd hmem (led_keep hDt fun o e => k1 D _ DI e)
      (fun b o hb e => k1 b o (oneI hb) (hk b o hb e)) (hInv h h1 hin fun b o hb e => k1 b o (ownI hb) e)))
end
end Mine
end

section
open PySem PySem.W PyProof.Rows PySem.Calls
set_option maxHeartbeats 4000000
namespace Mine
section
variable {prog : Program} {w : World} {A : Around} {R : Result → Shared → Prop} {E : Value → Shared → Prop} {s : Shared}
theorem start_set {elt target iter : Expr} {ifs : List Expr} {scope : Scope} {pos : Pos} {it acc : Value} {env : Env}
    (h0 : codeAny (model prog w) A (.compLoop (.SetComp elt [⟨target, iter, ifs, 0⟩] scope pos) 0 it acc env) R s)
    (h : wpAny (model prog w) A (pyIter it) (fun it' s' => codeAny (model prog w) A (.compLoop (.SetComp elt [⟨target, iter, ifs, 0⟩] scope pos) 0 it' acc env) R s')
      (notedBy (model prog w) A env fun x s' => R (.error x) s') s) :
    codeAny (model prog w) A (.compStart (.SetComp elt [⟨target, iter, ifs, 0⟩] scope pos) 0 it acc env) R s := by
  have noted {m : Sem Fin} {Q : Fin → Shared → Prop} (x : wpAny (model prog w) A m Q (notedBy (model prog w) A env fun x s' => R (.error x) s') s) :
      wpAny (model prog w) A (m.onRaise fun x => do noteFrame x env; standAt theWindowsPlace) Q (fun x s' => R (.error x) s') s := wpAny_notedAt x
  refine codeAny_of_tree (noted (m := compStart _ 0 it acc env) ?_)
  refine wpAny_bind (m := ask) (wpAny_askSetting (wpAny_ite_split (fun _ => ?_) fun _ => ?_))
  · exact wpAny_pure ⟨rfl, h0⟩
  · exact wpAny_bind (wpAny_rule (wpAny_bind (wpAny_standAt (wpAny_bind (wpAny_mono h (fun _ _ k => wpAny_pure ⟨rfl, k⟩) fun _ _ x => x)))))
theorem new_led {Q : Value → Shared → Prop}
    (h : ∀ led : Bool, led = !(w.params.followText "set-order") → LedOf (PySem.strKind prog w) (s.heap.push { cls := .type "set", dict := none, data := .set #[] 0 (.fresh 0 0 led) }) s.heap.objs.size (fun _ => false) 0 led →
      Q (.ref s.heap.objs.size) { s with heap := s.heap.push { cls := .type "set", dict := none, data := .set #[] 0 (.fresh 0 0 led) } }) :
    wpAny (model prog w) A (newSet (.type "set")) Q E s := by
  have empty : LedOf (PySem.strKind prog w) _ s.heap.objs.size (fun _ => false) 0 (!(w.params.followText "set-order")) :=
    ⟨_, #[], 0, _, Heap.get?_push_size s.heap (o := { cls := .type "set", dict := none, data := .set #[] 0 (.fresh 0 0 (!(w.params.followText "set-order"))) }) rfl, ⟨rfl, rfl, rfl⟩, rfl, (fun _ he => absurd he List.not_mem_nil), (fun k => by simp), by decide, rfl, rfl, rfl, .inl rfl⟩
  exact wpAny_bind (wpAny_bind (wpAny_askSetting (wpAny_pure (wpAny_bind (wpAny_alloc (wpAny_pure (h _ rfl empty)))))))
theorem scw_open {elt target iter c : Expr} {scope : Scope} {cl : List (Str × Addr)} {pos : Pos} {env : Env} {Q : Value → Shared → Prop}
    (hclos : closureFor scope env = pure cl) (hkind : scope.kind = .function) (hnames : ∀ y ∈ scope.names, y.2 = .local → scope.names.lookup y.1 = some .local)
    (h : wpAny (model prog w) A (eval iter env) (fun xv s₁ => wpAny (model prog w) A (pyIter xv) (fun it s₂ => ∃ I fp n P St, it = .ref I ∧ Walks prog w A I fp [I] n P St ∧ St 0 s₂.heap ∧ (∀ b ∈ fp, b < s₂.heap.objs.size) ∧
      ∀ (D C : Addr) (h₄ : Heap), D = s₂.heap.objs.size → C = D + 1 → Kp [] s₂.heap h₄ → St 0 h₄ → LedOf (PySem.strKind prog w) h₄ D (fun _ => false) 0 (!(w.params.followText "set-order")) → h₄.Ns C (fun _ => none) →
        (∀ X : Heap, X.objs.size = C + 1 → (∀ b o, X.get? b = some o → h₄.get? b = some o) → h₄ = pushCells X scope.names →
        codeAny (model prog w) A (.compLoop (.SetComp elt [⟨target, iter, [c], 0⟩] scope pos) 0 (.ref I) (.ref D) (cenvOf scope cl C env)) (compPost (model prog w) A E none Q (.ref D) C) { s₂ with heap := h₄ })) E s₁) E s)
    (hs : ∀ x, foldedSetIterable iter env x = pure x) :
    wpAny (model prog w) A (eval (.SetComp elt [⟨target, iter, [c], 0⟩] scope pos) env) Q E s := by
  rw [arm_eval_SetComp]
  show wpAny _ _ (comprehension _ scope env _ (newSet (.type "set")) false (eval iter env)) _ _ _
  refine wpAny_comprehension_free (use := none) rfl hs hclos hkind hnames (wpAny_mono h (fun xv s₁ h₁ => wpAny_mono h₁ (fun it s₂ h₂ => ?_) fun _ _ e => e) fun _ _ e => e)
  obtain ⟨I, fp, n, P, St, rfl, W, hst, hfp, hk⟩ := h₂
  refine new_led fun led hled hset => ?_
  rw [← hled] at hk
  clear hled
  refine new_fe ?_
  dsimp only
  generalize hX : ((s₂.heap.push { cls := .type "set", dict := none, data := .set #[] 0 (.fresh 0 0 led) }).push { cls := .type "dict", data := .dict #[] }) = X
  have eC : (s₂.heap.push { cls := .type "set", dict := none, data := .set #[] 0 (.fresh 0 0 led) }).objs.size = s₂.heap.objs.size + 1 := Heap.size_push ..
  have hXs : X.objs.size = s₂.heap.objs.size + 1 + 1 := by rw [← hX, Heap.size_push, eC]
  have k4 := pushCells_keeps scope.names X
  have hXD : LedOf (PySem.strKind prog w) (pushCells X scope.names) s₂.heap.objs.size (fun _ => false) 0 led := by
    obtain ⟨o, es, ep, t, ho, r⟩ := hset
    exact ⟨o, es, ep, t, k4 _ _ (by rw [← hX]; exact Heap.get?_push_of_some _ ho), r⟩
  have hXC : X.Ns (s₂.heap.objs.size + 1) (fun _ => none) := by
    rw [← hX, ← eC]
    exact Heap.Ns.new _ (.type "dict")
  have hk1 : Kp [] s₂.heap X := fun b o _ e => by rw [← hX]; exact Heap.get?_push_of_some _ (Heap.get?_push_of_some _ e)
  have hst4 : St 0 (pushCells X scope.names) := W.frame 0 _ _ hst fun b _ o e => k4 b o (hk1 b o (by simp) e)
  have hloop := hk s₂.heap.objs.size _ (pushCells X scope.names) rfl rfl (fun b o hb e => k4 b o (hk1 b o hb e)) hst4 hXD (hXC.keeps k4) X hXs k4 rfl
  rw [eC]
  refine start_set hloop ?_
  exact W.self 0 _ _ _ hst4 hloop
end
end Mine
end

section
open PySem PySem.W PyProof.Rows PySem.Calls
namespace Mine
theorem perm_of_sub {α : Type} : ∀ {ks l : List α}, ks.Nodup → l.length = ks.length → (∀ k ∈ ks, k ∈ l) → l.Perm ks
  | [], l, _, hl, _ => by rw [List.length_eq_zero_iff.mp hl]
  | k :: ks, l, hn, hl, hs => by
    rw [List.nodup_cons] at hn
    obtain ⟨a, b, rfl⟩ := List.append_of_mem (hs k (.head _))
    have ih := perm_of_sub (ks := ks) (l := a ++ b) hn.2 (by simp at hl ⊢; omega) fun x hx => by
      have := hs x (.tail _ hx)
      rcases List.mem_append.mp this with h | h
      · exact List.mem_append_left _ h
      · rcases List.mem_cons.mp h with rfl | h
        · exact absurd hx hn.1
        · exact List.mem_append_right _ h
    exact List.perm_middle.trans (ih.cons k)
theorem erase_perm {α : Type} {xs : List α} {i : Nat} {x : α} (h : xs[i]? = some x) : (x :: xs.eraseIdx i).Perm xs := by
  obtain ⟨hi, rfl⟩ := List.getElem?_eq_some_iff.mp h
  rw [List.eraseIdx_eq_take_drop_succ]
  have e : xs = xs.take i ++ xs[i] :: xs.drop (i + 1) := by
    rw [List.getElem_cons_drop, List.take_append_drop]
  conv => rhs; rw [e]
  exact List.perm_middle.symm
end Mine
end

section
open PySem PySem.W PyProof.Rows PySem.Calls
namespace Mine
section
variable {M : Model} {A : Around} {E : Value → Shared → Prop}
theorem choose_any {s : Shared} {src : Source} {n : Nat} {Q : Nat → Shared → Prop} (hn : n ≠ 0) (h : ∀ i dr, i < n → Q i { s with drawn := dr }) : wpAny M A (choose src n) Q E s := by
  intro Γ C hΓ
  show Sem.wp M Γ (.choose src n .pure) _ _ C s
  rw [Sem.wp_choose]
  refine ⟨hn, ?_⟩
  rw [Sem.wp_pure]
  exact h _ _ (Nat.mod_lt _ (Nat.pos_of_ne_zero hn))
theorem draw_order {α : Type} : ∀ (n : Nat) (xs : List α) {s : Shared} {Q : List α → Shared → Prop}, xs.length = n → (∀ ys dr, ys.Perm xs → Q ys { s with drawn := dr }) → wpAny M A (drawOrder n xs) Q E s
  | 0, xs, s, Q, hl, h => by
    rw [List.length_eq_zero_iff.mp hl] at h ⊢
    exact wpAny_pure (h [] s.drawn (List.Perm.refl _))
  | n + 1, [], s, Q, hl, h => by simp at hl
  | n + 1, x :: xs, s, Q, hl, h => by
    show wpAny M A (choose .order (x :: xs).length >>= fun i => match (x :: xs)[i]? with | some x' => drawOrder n ((x :: xs).eraseIdx i) >>= fun ys => pure (x' :: ys) | none => unsupported "internal:drawOrder") Q E s
    refine wpAny_bind (choose_any (by simp) fun i dr hi => ?_)
    have hx : (x :: xs)[i]? = some ((x :: xs)[i]'hi) := List.getElem?_eq_getElem hi
    rw [hx]
    dsimp only
    refine wpAny_bind (draw_order n ((x :: xs).eraseIdx i) (by rw [List.length_eraseIdx_of_lt hi, hl]; rfl) fun ys dr2 hp => wpAny_pure ?_)
    exact h _ dr2 ((hp.cons _).trans (erase_perm hx))
end
end Mine
end

section
open PySem PySem.W PyProof.Rows PySem.Calls
set_option maxHeartbeats 4000000
namespace Mine
theorem owner_setit : Manifest.owners.lookup (String.ofList ['r', 'o', 't', 'a', 'r', 'e', 't', 'i', '_', 't', 'e', 's'].reverse) = some Manifest.sig_set_iterator := by kernel_rfl
theorem slot_setit_next : Slot "set_iterator" "__next__" "set_iterator.__next__" :=
  .of (owner := "set_iterator") (n := "__next__") (by rw [typeLookup_type, builtinLookup_eq_fast]; kernel_rfl) (by decide +kernel) (by decide +kernel) (by decide +kernel)
    (by first | exact .inl (by decide +kernel) | exact .inr (by decide +kernel)) (by rw [isSubtype_type]; kernel_rfl)
theorem entry_setit_next : entryFor table "set_iterator.__next__" = some Builtin.«set_iterator.__next__» := entryFor_of_tree (by kernel_rfl)
theorem args_setit_next (a : Value) : argsOk "set_iterator.__next__" ⟨[a], []⟩ := by
  unfold argsOk; rw [signature?_of (id := "set_iterator.__next__") (n := ['_', '_', 't', 'x', 'e', 'n', '_', '_']) (o := ['r', 'o', 't', 'a', 'r', 'e', 't', 'i', '_', 't', 'e', 's']) (by kernel_rfl) owner_setit]; kernel_rfl
theorem entry_set_iter : entryFor table "set.__iter__" = some Builtin.«frozenset.__iter__» :=
  entryFor_alias (id' := "frozenset.__iter__") (by kernel_rfl) (by first | rfl | decide +kernel | (unfold String.splitOn; simp +decide [String.splitOnAux])) (by decide +kernel) (by kernel_rfl)
section
variable {prog : Program} {w : World} {A : Around} {E : Value → Shared → Prop} {s : Shared}
theorem set_hint {r : Addr} {Q : Bool → Shared → Prop} (hT : s.TypeIs (.ref r) "set") (h : Q false s) : wpAny (model prog w) A (Builtin.List.listLengthHint (.ref r)) Q E s := by
  unfold Builtin.List.listLengthHint
  refine wpAny_bind (wpAny_specialOf hT PySem.F.slot_set_len.lookup ?_)
  generalize hid : ("set.__len__" : String) = id0
  wp_delta
  rw [show splitId id0 = some ("set", "__len__") from by subst hid; decide +kernel]
  subst hid
  refine wpAny_bind (wpAny_isInstance (T := "set") (b := true) hT (by rw [isSubtype_type]; kernel_rfl) ?_)
  refine wpAny_ite_split (fun hab => absurd hab (by decide)) (fun _ => ?_)
  refine wpAny_ite_split (fun _ => ?_) (fun hab => absurd (by decide +kernel) hab)
  refine wpAny_bind (wpAny_typeOf hT ?_)
  exact wpAny_pure h
noncomputable def SitAt (h : Heap) (I : Addr) (f0 : Value) (i : Nat) (a : Addr) (n ep : Nat) : Prop :=
  ∃ oi, h.get? I = some oi ∧ oi.cls = .type "set_iterator" ∧ oi.data = .fields #[f0, rawInt (i : Int), .ref a, rawInt (n : Int), rawInt (ep : Int)]
theorem SitAt.typeIs {I : Addr} {f0 : Value} {i : Nat} {a : Addr} {n ep : Nat} (x : SitAt s.heap I f0 i a n ep) : s.TypeIs (.ref I) "set_iterator" := let ⟨o, ho, hc, _⟩ := x; ⟨o, ho, hc⟩
theorem sit_slot_item {I a : Addr} {slot slot' i n ep : Nat} {o : Obj} {es : Array (Int × Value)} {t : SetTable} {x : Value} {Q : Option Value → Shared → Prop} (hit : SitAt s.heap I (rawInt (slot : Int)) i a n ep)
    (ho : s.heap.get? a = some o) (hd : o.data = .set es ep t) (hf : t.fits es.size = true) (hn : es.size = n)
    (hN : ∀ A' Q' E', Q' (some (x, slot')) s → wpAny (model prog w) A' (setNext a slot i ep) Q' E' s)
    (hQ : ∀ h', SitAt h' I (rawInt (slot' : Int)) (i + 1) a n ep → Heap.SameBut I s.heap h' → Q (some x) { s with heap := h' }) :
    wpAny (model prog w) A (pyNext (.ref I)) Q E s := by
  obtain ⟨oi, hoi, hci, hdi⟩ := id hit
  unfold pyNext
  refine wpAny_bind (wpAny_attempt (wpAny_callSpecial?_slot (name := Str.ofString "__next__") hit.typeIs slot_setit_next
    (wpAny_call_entry slot_setit_next hit.typeIs entry_setit_next ?_ (args_setit_next _))))
  show wpAny _ _ (fieldsOf (.ref I) >>= _) _ _ s
  refine wpAny_bind (wpAny_fieldsOf hoi hdi ?_)
  dsimp only [rawInt]
  refine wpAny_bind (wpAny_setEntries_of ho hd hf ?_)
  rw [hn]
  rw [if_neg (by simp)]
  simp only [Int.toNat_natCast]
  refine wpAny_bind (hN _ _ _ ?_)
  dsimp only
  refine wpAny_bind (wpAny_setField hoi hdi (by simp) ?_)
  have g1 := Heap.get?_update_self (Obj.mapFields (·.setIfInBounds 0 (rawInt (slot' : Int)))) hoi (Obj.isFreed_of_fields (Obj.data_mapFields hdi _))
  refine wpAny_bind (wpAny_setField g1 (Obj.data_mapFields hdi _) (by simp) ?_)
  have g2 := Heap.get?_update_self (Obj.mapFields (·.setIfInBounds 1 (rawInt ((i : Int) + 1)))) g1 (Obj.isFreed_of_fields (Obj.data_mapFields (Obj.data_mapFields hdi _) _))
  refine wpAny_pure ⟨x, rfl, wpAny_pure (hQ _ ⟨_, g2, ?_, ?_⟩ ((Heap.SameBut.update ..).trans (Heap.SameBut.update ..)))⟩
  · exact (Obj.cls_mapFields ..).trans ((Obj.cls_mapFields ..).trans hci)
  · rw [Obj.data_mapFields (Obj.data_mapFields hdi _)]; simp [rawInt]
theorem sit_slot_end {I a : Addr} {slot i n ep : Nat} {o : Obj} {es : Array (Int × Value)} {t : SetTable} {Q : Option Value → Shared → Prop} (hh : A.handled = none) (hit : SitAt s.heap I (rawInt (slot : Int)) i a n ep)
    (ho : s.heap.get? a = some o) (hd : o.data = .set es ep t) (hf : t.fits es.size = true) (hn : es.size = n)
    (hN : ∀ A' Q' E', Q' none s → wpAny (model prog w) A' (setNext a slot i ep) Q' E' s)
    (hQ : ∀ h', Heap.ExtBut I s.heap h' → Q none { s with heap := h' }) :
    wpAny (model prog w) A (pyNext (.ref I)) Q E s := by
  obtain ⟨oi, hoi, hci, hdi⟩ := id hit
  unfold pyNext
  refine wpAny_bind (wpAny_attempt (wpAny_callSpecial?_slot (name := Str.ofString "__next__") hit.typeIs slot_setit_next
    (wpAny_call_entry slot_setit_next hit.typeIs entry_setit_next ?_ (args_setit_next _))))
  show wpAny _ _ (fieldsOf (.ref I) >>= _) _ _ s
  refine wpAny_bind (wpAny_fieldsOf hoi hdi ?_)
  dsimp only [rawInt]
  refine wpAny_bind (wpAny_setEntries_of ho hd hf ?_)
  rw [hn]
  rw [if_neg (by simp)]
  simp only [Int.toNat_natCast]
  refine wpAny_bind (hN _ _ _ ?_)
  dsimp only
  refine wpAny_bind (wpAny_setField hoi hdi (by simp) ?_)
  exact stop_raised hh fun h' e he => wpAny_bind (wpAny_isInstance (stop_is he rfl) isSubtype_stop (wpAny_pure (hQ h' (stop_ext (Heap.SameBut.update ..) he))))
theorem sit_draw_item {I a tp : Addr} {i n ep p : Nat} {o : Obj} {es : Array (Int × Value)} {t : SetTable} {hx : Int} {x : Value} {ps : List Nat} {Q : Option Value → Shared → Prop} (hit : SitAt s.heap I (.ref tp) i a n ep)
    (ho : s.heap.get? a = some o) (hd : o.data = .set es ep t) (hf : t.fits es.size = true) (hn : es.size = n) (htp : IsTup s.heap tp (ps.map fun (i : Nat) => rawInt (i : Int)).toArray) (hp : ps[i]? = some p) (he : es[p]? = some (hx, x))
    (hQ : ∀ h', SitAt h' I (.ref tp) (i + 1) a n ep → Heap.SameBut I s.heap h' → Q (some x) { s with heap := h' }) :
    wpAny (model prog w) A (pyNext (.ref I)) Q E s := by
  obtain ⟨oi, hoi, hci, hdi⟩ := id hit
  obtain ⟨ot, hot, hct, nt, hdt⟩ := htp
  unfold pyNext
  refine wpAny_bind (wpAny_attempt (wpAny_callSpecial?_slot (name := Str.ofString "__next__") hit.typeIs slot_setit_next
    (wpAny_call_entry slot_setit_next hit.typeIs entry_setit_next ?_ (args_setit_next _))))
  show wpAny _ _ (fieldsOf (.ref I) >>= _) _ _ s
  refine wpAny_bind (wpAny_fieldsOf hoi hdi ?_)
  dsimp only [rawInt]
  refine wpAny_bind (wpAny_setEntries_of ho hd hf ?_)
  rw [hn]
  rw [if_neg (by simp)]
  refine wpAny_bind (wpAny_seqItems hot hdt ?_)
  have hq : ((ps.map fun (i : Nat) => rawInt (i : Int)).toArray)[((i : Nat) : Int).toNat]? = some (rawInt (p : Int)) := by simp [hp]
  simp only [hq]
  dsimp only [rawInt]
  unfold setNextDrawn
  refine wpAny_bind (wpAny_bind (wpAny_setState_of ho hd hf ?_))
  dsimp only
  simp only [Int.toNat_natCast, bne_self_eq_false, Bool.false_eq_true, if_false, he]
  refine wpAny_pure ?_
  refine wpAny_bind (wpAny_setField hoi hdi (by simp) ?_)
  have g1 := Heap.get?_update_self (Obj.mapFields (·.setIfInBounds 1 (rawInt ((i : Int) + 1)))) hoi (Obj.isFreed_of_fields (Obj.data_mapFields hdi _))
  refine wpAny_pure ⟨x, rfl, wpAny_pure (hQ _ ⟨_, g1, ?_, ?_⟩ (Heap.SameBut.update ..))⟩
  · exact (Obj.cls_mapFields ..).trans hci
  · rw [Obj.data_mapFields hdi]; simp [rawInt]
theorem sit_draw_end {I a tp : Addr} {i n ep : Nat} {o : Obj} {es : Array (Int × Value)} {t : SetTable} {ps : List Nat} {Q : Option Value → Shared → Prop} (hh : A.handled = none) (hit : SitAt s.heap I (.ref tp) i a n ep)
    (ho : s.heap.get? a = some o) (hd : o.data = .set es ep t) (hf : t.fits es.size = true) (hn : es.size = n) (htp : IsTup s.heap tp (ps.map fun (i : Nat) => rawInt (i : Int)).toArray) (hp : ps[i]? = none)
    (hQ : ∀ h', Heap.ExtBut I s.heap h' → Q none { s with heap := h' }) :
    wpAny (model prog w) A (pyNext (.ref I)) Q E s := by
  obtain ⟨oi, hoi, hci, hdi⟩ := id hit
  obtain ⟨ot, hot, hct, nt, hdt⟩ := htp
  unfold pyNext
  refine wpAny_bind (wpAny_attempt (wpAny_callSpecial?_slot (name := Str.ofString "__next__") hit.typeIs slot_setit_next
    (wpAny_call_entry slot_setit_next hit.typeIs entry_setit_next ?_ (args_setit_next _))))
  show wpAny _ _ (fieldsOf (.ref I) >>= _) _ _ s
  refine wpAny_bind (wpAny_fieldsOf hoi hdi ?_)
  dsimp only [rawInt]
  refine wpAny_bind (wpAny_setEntries_of ho hd hf ?_)
  rw [hn]
  rw [if_neg (by simp)]
  refine wpAny_bind (wpAny_seqItems hot hdt ?_)
  have hq : ((ps.map fun (i : Nat) => rawInt (i : Int)).toArray)[((i : Nat) : Int).toNat]? = none := by simpa using hp
  simp only [hq]
  refine wpAny_bind (wpAny_setField hoi hdi (by simp) ?_)
  have g1 := Heap.get?_update_self (Obj.mapFields (·.setIfInBounds 0 (rawInt 0))) hoi (Obj.isFreed_of_fields (Obj.data_mapFields hdi _))
  refine wpAny_bind (wpAny_setField g1 (Obj.data_mapFields hdi _) (by simp) ?_)
  exact stop_raised hh fun h' e he => wpAny_bind (wpAny_isInstance (stop_is he rfl) isSubtype_stop (wpAny_pure (hQ h' (stop_ext ((Heap.SameBut.update ..).trans (Heap.SameBut.update ..)) he))))
end
end Mine
end

section
open PySem PySem.W PyProof.Rows PySem.Calls
set_option maxHeartbeats 4000000
namespace Mine
section
variable {prog : Program} {w : World} {A : Around} {E : Value → Shared → Prop} {s : Shared}
theorem walk_text {a : Addr} {o : Obj} {es : Array (Int × Value)} {ep : Nat} {t : SetTable} {Q : Array (Int × Value) → Shared → Prop} (ho : s.heap.get? a = some o) (hd : o.data = .set es ep t) (hf : t.fits es.size = true)
    (ht : w.params.followText "set-order" = true) (h : Q (pickOrder (w.params.setOrder a ep) es) s) : wpAny (model prog w) A (setWalk a) Q E s := by
  unfold setWalk setsByText
  refine wpAny_bind (wpAny_setState_of ho hd hf ?_)
  dsimp only
  refine wpAny_bind (wpAny_bind (wpAny_askSetting (wpAny_pure ?_)))
  dsimp only
  rw [show (model prog w).w.params.followText "set-order" = true from ht]
  simp only [if_true]
  exact wpAny_bind (wpAny_askSetting (wpAny_pure h))
theorem next_text {a : Addr} {o : Obj} {es : Array (Int × Value)} {ep slot i : Nat} {t : SetTable} {Q : Option (Value × Nat) → Shared → Prop} (ho : s.heap.get? a = some o) (hd : o.data = .set es ep t) (hf : t.fits es.size = true)
    (ht : w.params.followText "set-order" = true) (h : Q (((pickOrder (w.params.setOrder a ep) es)[i]?).map fun e => (e.2, slot)) s) : wpAny (model prog w) A (setNext a slot i ep) Q E s := by
  unfold setNext
  refine wpAny_bind (wpAny_setState_of ho hd hf ?_)
  dsimp only
  refine wpAny_bind ?_
  unfold setsByText
  refine wpAny_bind (wpAny_askSetting (wpAny_pure ?_))
  rw [show (model prog w).w.params.followText "set-order" = true from ht]
  simp only [if_true, bne_self_eq_false, Bool.false_eq_true, if_false]
  exact wpAny_bind (walk_text ho hd hf ht (wpAny_pure h))
theorem next_place {a : Addr} {o : Obj} {es : Array (Int × Value)} {ep slot i : Nat} {t : SetTable} {Q : Option (Value × Nat) → Shared → Prop} (ho : s.heap.get? a = some o) (hd : o.data = .set es ep t) (hf : t.fits es.size = true)
    (ht : w.params.followText "set-order" = false) (h1 : es.size ≤ 1) (hl : t.led = true)
    (h : Q (match es[SetTable.below t.place slot]?, t.place[SetTable.below t.place slot]? with
    | some (_, x), some j => some (x, j + 1)
    | _, _ => none) s) : wpAny (model prog w) A (setNext a slot i ep) Q E s := by
  unfold setNext
  refine wpAny_bind (wpAny_setState_of ho hd hf ?_)
  dsimp only
  refine wpAny_bind ?_
  unfold setsByText
  refine wpAny_bind (wpAny_askSetting (wpAny_pure ?_))
  rw [show (model prog w).w.params.followText "set-order" = false from ht]
  simp only [Bool.false_eq_true, if_false]
  refine wpAny_ite_split (fun hc => absurd (show (!t.plain && decide (es.size > 1)) = true from hc) (by simp; omega)) (fun _ => ?_)
  refine wpAny_bind ?_
  show wpAny _ _ (if (!t.led && !es.isEmpty) = true then _ else _) _ _ _
  rw [hl]
  simp only [Bool.not_true, Bool.false_and, Bool.false_eq_true, if_false]
  exact wpAny_pure (wpAny_pure h)
end
theorem pick_go {α : Type} (next : Nat → Nat) : ∀ (fuel k : Nat) (left : List α) (out : Array α), left.length = fuel → (pickOrder.go next fuel k left out).toList.Perm (out.toList ++ left)
  | 0, k, left, out, h => by
    rw [List.length_eq_zero_iff.mp h]
    exact (List.append_nil _).symm ▸ List.Perm.refl _
  | fuel + 1, k, left, out, h => by
    show (match left[next k % left.length]? with | some x => pickOrder.go next fuel (k + 1) (left.eraseIdx (next k % left.length)) (out.push x) | none => out).toList.Perm _
    have hlt : next k % left.length < left.length := Nat.mod_lt _ (by omega)
    rw [List.getElem?_eq_getElem hlt]
    dsimp only
    have ih := pick_go next fuel (k + 1) (left.eraseIdx (next k % left.length)) (out.push left[next k % left.length]) (by rw [List.length_eraseIdx_of_lt hlt, h]; rfl)
    refine ih.trans ?_
    rw [Array.toList_push, List.append_assoc]
    exact List.Perm.append_left _ (erase_perm (List.getElem?_eq_getElem hlt))
theorem pick_perm {α : Type} (next : Nat → Nat) (xs : Array α) : (pickOrder next xs).toList.Perm xs.toList := by
  have := pick_go next xs.size 0 xs.toList #[] (by simp)
  simpa [pickOrder] using this
end Mine
end

section
open PySem PySem.W PyProof.Rows PySem.Calls
set_option maxHeartbeats 4000000
namespace Mine
section
variable {prog : Program} {w : World} {A : Around} {E : Value → Shared → Prop} {s : Shared}
theorem slot_setit_iter : Slot "set_iterator" "__iter__" "set_iterator.__iter__" :=
  .of (owner := "set_iterator") (n := "__iter__") (by rw [typeLookup_type, builtinLookup_eq_fast]; kernel_rfl) (by decide +kernel) (by decide +kernel) (by decide +kernel)
    (by first | exact .inl (by decide +kernel) | exact .inr (by decide +kernel)) (by rw [isSubtype_type]; kernel_rfl)
theorem entry_setit_iter : entryFor table "set_iterator.__iter__" = some Builtin.«dict_keyiterator.__iter__» :=
  entryFor_alias (id' := "dict_keyiterator.__iter__") (by kernel_rfl) (by first | rfl | decide +kernel | (unfold String.splitOn; simp +decide [String.splitOnAux])) (by decide +kernel) (by kernel_rfl)
theorem args_setit_iter (a : Value) : argsOk "set_iterator.__iter__" ⟨[a], []⟩ := by
  unfold argsOk; rw [signature?_of (id := "set_iterator.__iter__") (n := ['_', '_', 'r', 'e', 't', 'i', '_', '_']) (o := ['r', 'o', 't', 'a', 'r', 'e', 't', 'i', '_', 't', 'e', 's']) (by kernel_rfl) owner_setit]; kernel_rfl
theorem sit_self {I : Addr} {f0 : Value} {i : Nat} {a : Addr} {n ep : Nat} {Q : Value → Shared → Prop} (hit : SitAt s.heap I f0 i a n ep) (h : Q (.ref I) s) : wpAny (model prog w) A (pyIter (.ref I)) Q E s := by
  refine wpAny_pyIter_slot hit.typeIs slot_setit_iter (wpAny_call_entry slot_setit_iter hit.typeIs entry_setit_iter ?_ (args_setit_iter _))
  show wpAny _ _ (ret (.ref I)) _ _ s
  exact wpAny_pure ⟨_, rfl, "set_iterator", _, hit.typeIs, slot_setit_next.lookup, h⟩
theorem Walks.textual {I a : Addr} {n ep : Nat} {o : Obj} {es : Array (Int × Value)} {t : SetTable} (hne : a ≠ I) (hh : A.handled = none) (hd : o.data = .set es ep t) (hf : t.fits es.size = true) (hn : es.size = n)
    (ht : w.params.followText "set-order" = true) :
    Walks prog w A I [I, a] [I] n (fun i v => ((pickOrder (w.params.setOrder a ep) es).toList.map (·.2))[i]? = some v) (fun i h => SitAt h I (rawInt ((0 : Nat) : Int)) i a n ep ∧ h.get? a = some o) where
  sub := fun b hb => by simp at hb; simp [hb]
  frame := fun _ _ _ st hk => by
    obtain ⟨⟨oi, hoi, r⟩, ho⟩ := st
    exact ⟨⟨oi, hk I (by simp) _ hoi, r⟩, hk a (by simp) _ ho⟩
  item := fun i s Q E hi st hQ => by
    obtain ⟨hs, ho⟩ := st
    have hsz : (pickOrder (w.params.setOrder a ep) es).size = n := by
      have := (pick_perm (w.params.setOrder a ep) es).length_eq
      simpa [hn] using this
    have hx : (pickOrder (w.params.setOrder a ep) es)[i]? = some (pickOrder (w.params.setOrder a ep) es)[i] := Array.getElem?_eq_getElem (by omega)
    refine sit_slot_item (x := (pickOrder (w.params.setOrder a ep) es)[i].2) (slot' := 0) hs ho hd hf hn (fun A' Q' E' hq => next_text ho hd hf ht (by rw [hx]; exact hq)) fun h' hs' hsb => ?_
    exact hQ _ h' s.toks (by rw [List.getElem?_map, Array.getElem?_toList, hx]; rfl) ⟨hs', (hsb.2 a hne).trans ho⟩ fun b o hb e => (hsb.2 b (fun q => hb (by simp [q]))).trans e
  done := fun s Q E st hQ => by
    obtain ⟨hs, ho⟩ := st
    have hsz : (pickOrder (w.params.setOrder a ep) es).size = n := by
      have := (pick_perm (w.params.setOrder a ep) es).length_eq
      simpa [hn] using this
    have hx : (pickOrder (w.params.setOrder a ep) es)[n]? = none := by simp [hsz]
    refine sit_slot_end hh hs ho hd hf hn (fun A' Q' E' hq => next_text ho hd hf ht (by rw [hx]; exact hq)) fun h' he => ?_
    exact hQ h' s.toks fun b o hb e => he b o (fun q => hb (by simp [q])) e
  self := fun i s Q E st hQ => sit_self st.1 hQ
theorem Walks.drawn {I a tp : Addr} {n ep : Nat} {o : Obj} {es : Array (Int × Value)} {t : SetTable} {ps : List Nat} (hne : a ≠ I) (hnt : tp ≠ I) (hh : A.handled = none) (hd : o.data = .set es ep t) (hf : t.fits es.size = true) (hn : es.size = n)
    (hp : ps.length = n) (hr : ∀ p ∈ ps, p < n) :
    Walks prog w A I [I, a, tp] [I] n (fun i v => (ps.map fun p => (es.getD p (0, .none)).2)[i]? = some v) (fun i h => SitAt h I (.ref tp) i a n ep ∧ h.get? a = some o ∧ IsTup h tp (ps.map fun (i : Nat) => rawInt (i : Int)).toArray) where
  sub := fun b hb => by simp at hb; simp [hb]
  frame := fun _ _ _ st hk => by
    obtain ⟨⟨oi, hoi, r⟩, ho, ⟨ot, hot, rt⟩⟩ := st
    exact ⟨⟨oi, hk I (by simp) _ hoi, r⟩, hk a (by simp) _ ho, ⟨ot, hk tp (by simp) _ hot, rt⟩⟩
  item := fun i s Q E hi st hQ => by
    obtain ⟨hs, ho, htp⟩ := st
    have hpi : ps[i]? = some ps[i] := List.getElem?_eq_getElem (by omega)
    have hpn : ps[i] < es.size := by rw [hn]; exact hr _ (List.getElem_mem _)
    have hx : es[ps[i]]? = some (es[ps[i]].1, es[ps[i]].2) := Array.getElem?_eq_getElem hpn
    refine sit_draw_item hs ho hd hf hn htp hpi hx fun h' hs' hsb => ?_
    refine hQ _ h' s.toks (by rw [List.getElem?_map, hpi]; simp [Array.getD, hpn]) ⟨hs', (hsb.2 a hne).trans ho, ?_⟩ fun b o hb e => (hsb.2 b (fun q => hb (by simp [q]))).trans e
    obtain ⟨ot, hot, rt⟩ := htp
    exact ⟨ot, (hsb.2 tp hnt).trans hot, rt⟩
  done := fun s Q E st hQ => by
    obtain ⟨hs, ho, htp⟩ := st
    refine sit_draw_end hh hs ho hd hf hn htp (List.getElem?_eq_none (by omega)) fun h' he => ?_
    exact hQ h' s.toks fun b o hb e => he b o (fun q => hb (by simp [q])) e
  self := fun i s Q E st hQ => sit_self st.1 hQ
theorem below_one (j k : Nat) : SetTable.below #[j] k = if j < k then 1 else 0 := by
  simp only [SetTable.below, SetTable.below.go, List.size_toArray, List.length_cons, List.length_nil]
  simp
theorem Walks.place1 {I a : Addr} {n ep : Nat} {o : Obj} {es : Array (Int × Value)} {t : SetTable} (hne : a ≠ I) (hh : A.handled = none) (hd : o.data = .set es ep t) (hf : t.fits es.size = true) (hn : es.size = n)
    (ht : w.params.followText "set-order" = false) (h1 : es.size ≤ 1) (hl : t.led = true) :
    Walks prog w A I [I, a] [I] n (fun i v => (es.toList.map (·.2))[i]? = some v) (fun i h => SitAt h I (rawInt ((if i = 0 then 0 else t.place.getD 0 0 + 1 : Nat) : Int)) i a n ep ∧ h.get? a = some o) where
  sub := fun b hb => by simp at hb; simp [hb]
  frame := fun _ _ _ st hk => by
    obtain ⟨⟨oi, hoi, r⟩, ho⟩ := st
    exact ⟨⟨oi, hk I (by simp) _ hoi, r⟩, hk a (by simp) _ ho⟩
  item := fun i s Q E hi st hQ => by
    obtain ⟨hs, ho⟩ := st
    have hi0 : i = 0 := by omega
    subst hi0
    have hps : t.place.size = 1 := by
      have := hf
      unfold SetTable.fits at this
      simp only [Bool.and_eq_true, beq_iff_eq] at this
      omega
    obtain ⟨j, hj⟩ : ∃ j, t.place = #[j] := Array.size_eq_one_iff.mp hps
    obtain ⟨e0, he0⟩ : ∃ e, es = #[e] := Array.size_eq_one_iff.mp (by omega)
    refine sit_slot_item (x := e0.2) (slot' := j + 1) hs ho hd hf hn (fun A' Q' E' hq => next_place ho hd hf ht h1 hl (by rw [hj, below_one, he0]; simpa using hq)) fun h' hs' hsb => ?_
    exact hQ _ h' s.toks (by rw [he0]; rfl) ⟨by rw [hj]; exact hs', (hsb.2 a hne).trans ho⟩ fun b o hb e => (hsb.2 b (fun q => hb (by simp [q]))).trans e
  done := fun s Q E st hQ => by
    obtain ⟨hs, ho⟩ := st
    have hps : t.place.size = n := by
      have := hf
      unfold SetTable.fits at this
      simp only [Bool.and_eq_true, beq_iff_eq] at this
      omega
    refine sit_slot_end hh hs ho hd hf hn (fun A' Q' E' hq => next_place ho hd hf ht h1 hl ?_) fun h' he => ?_
    · rcases Nat.eq_zero_or_pos n with q | q
      · subst q
        rw [Array.size_eq_zero_iff.mp hn]
        simpa using hq
      · have q1 : n = 1 := by omega
        subst q1
        obtain ⟨j, hj⟩ : ∃ j, t.place = #[j] := Array.size_eq_one_iff.mp hps
        obtain ⟨e0, he0⟩ : ∃ e, es = #[e] := Array.size_eq_one_iff.mp hn
        rw [hj, he0]
        simp only [Nat.one_ne_zero, if_false]
        rw [show (#[j] : Array Nat).getD 0 0 = j from rfl, below_one, if_pos (Nat.lt_succ_self _)]
        exact hq
    exact hQ h' s.toks fun b o hb e => he b o (fun q => hb (by simp [q])) e
  self := fun i s Q E st hQ => sit_self st.1 hQ
end
end Mine
end

section
open PySem PySem.W PyProof.Rows PySem.Calls
set_option maxHeartbeats 4000000
namespace Mine
section
variable {prog : Program} {w : World} {A : Around} {E : Value → Shared → Prop} {s : Shared}
theorem iter_set {a : Addr} {o : Obj} {es : Array (Int × Value)} {ep n : Nat} {t : SetTable} {Q : Value → Shared → Prop}
    (ho : s.heap.get? a = some o) (hex : o.ExactSet) (hd : o.data = .set es ep t) (hf : t.fits es.size = true) (hn : es.size = n) (hsm : n < 4096) (hl : t.led = !(w.params.followText "set-order")) (hp : n = 0 ∨ t.plain = false) (hh : A.handled = none)
    (h : ∀ I fp (vs : List Value) St h' dr, (∀ b o, s.heap.get? b = some o → h'.get? b = some o) → s.heap.objs.size ≤ h'.objs.size → (∀ b ∈ fp, b = a ∨ s.heap.objs.size ≤ b) → (@LE.le Nat _ s.heap.objs.size I) → vs.Perm (es.toList.map (·.2)) →
      (∀ A' : Around, A'.handled = none → Walks prog w A' I fp [I] n (fun i v => vs[i]? = some v) St) → St 0 h' → Q (.ref I) { s with heap := h', drawn := dr }) :
    wpAny (model prog w) A (pyIter (.ref a)) Q E s := by
  have hT : s.TypeIs (.ref a) "set" := ⟨o, ho, hex.1⟩
  have hal : a < s.heap.objs.size := Heap.lt_size ho
  refine wpAny_pyIter_slot hT PySem.F.slot_set_iter (wpAny_call_entry PySem.F.slot_set_iter hT entry_set_iter ?_ (PySem.F.args_set_iter_1 _))
  show wpAny _ _ (Builtin.Frozenset.sizeOf a >>= _) _ _ _
  refine wpAny_bind (wpAny_bind (wpAny_setEntries_of ho hd hf (wpAny_pure ?_)))
  unfold setDrawn setsByText
  refine wpAny_bind (wpAny_bind (wpAny_setState_of ho hd hf ?_))
  dsimp only
  refine wpAny_bind (wpAny_bind (wpAny_askSetting (wpAny_pure ?_)))
  show wpAny _ _ (pure (!(w.params.followText "set-order") && (!t.plain && decide (es.size > 1))) >>= _) _ _ _
  refine wpAny_pure ?_
  have hend : ∀ (A' : Around) (h0 : Heap) dr (f0 : Value) (E' : Value → Shared → Prop) (Q' : Fin → Shared → Prop), h0.get? a = some o → (∀ I h', I = h0.objs.size → h' = h0.push { cls := .type "set_iterator", data := .fields #[f0, rawInt 0, .ref a, rawInt ((es.size : Nat) : Int), rawInt (ep : Int)] } → h'.get? I = some { cls := .type "set_iterator", data := .fields #[f0, rawInt 0, .ref a, rawInt ((es.size : Nat) : Int), rawInt (ep : Int)] } → Q' (.done (.ret (.ref I))) { s with heap := h', drawn := dr }) →
      wpAny (model prog w) A' (do ret (← newFields "set_iterator" [f0, rawInt 0, .ref a, rawInt ((es.size : Nat) : Int), rawInt (← setEpoch a)])) Q' E' { s with heap := h0, drawn := dr } := by
    intro A' h0 dr f0 E' Q' ho0 hq
    unfold setEpoch
    refine wpAny_bind (wpAny_bind (wpAny_setState_of ho0 hd hf (wpAny_pure ?_)))
    exact wpAny_bind (wpAny_newObj_type (wpAny_pure (hq _ _ rfl rfl (Heap.get?_push_size _ rfl))))
  refine wpAny_ite_split (fun hc => ?_) (fun hc => ?_)
  · simp only [Bool.and_eq_true, Bool.not_eq_true', decide_eq_true_eq] at hc
    refine wpAny_bind (draw_order es.size (List.range es.size) (by simp) fun ps dr hps => ?_)
    have hpl : ps.length = es.size := by simpa using hps.length_eq
    simp only [newTuple]
    refine wpAny_bind (wpAny_newObj_type (hd := by simp only [sizeOk, sizeLine_eq, List.size_toArray, List.length_map]; omega) ?_)
    have ho1 : (s.heap.push { cls := .type "tuple", dict := none, data := .seq (ps.map fun (i : Nat) => rawInt (i : Int)).toArray }).get? a = some o := Heap.get?_push_of_some _ ho
    refine hend A.in1 _ dr _ _ _ ho1 fun I h' hI hh' hg => ⟨_, rfl, "set_iterator", _, ⟨_, hg, rfl⟩, slot_setit_next.lookup, ?_⟩
    have hI' : I = s.heap.objs.size + 1 := by rw [hI, Heap.size_push]
    have hIa : a ≠ I := by rw [hI']; exact Nat.ne_of_lt (Nat.lt_succ_of_lt hal)
    have hIt : s.heap.objs.size ≠ I := by rw [hI']; exact Nat.ne_of_lt (Nat.lt_succ_self _)
    have hmem : ∀ p ∈ ps, p < n := fun p hp => by
      have := hps.mem_iff.mp hp
      rw [List.mem_range, hn] at this
      exact this
    refine h I [I, a, s.heap.objs.size] (ps.map fun p => (es.getD p (0, .none)).2) _ h' dr (fun b x e => by rw [hh']; exact Heap.get?_push_of_some _ (Heap.get?_push_of_some _ e)) (by rw [hh', Heap.size_push, Heap.size_push]; exact Nat.le_succ_of_le (Nat.le_succ _)) ?_ (by rw [hI']; exact Nat.le_succ _) ?_
      (fun A' hA' => Walks.drawn hIa hIt hA' hd hf hn (by rw [hpl, hn]) hmem) ⟨⟨_, hg, rfl, by rw [hn]; rfl⟩, by rw [hh']; exact Heap.get?_push_of_some _ ho1, ⟨_, by rw [hh']; exact Heap.get?_push_of_some _ (Heap.get?_push_size _ rfl), rfl, _, rfl⟩⟩
    · intro b hb
      simp only [List.mem_cons, List.not_mem_nil, or_false] at hb
      rcases hb with rfl | rfl | rfl
      · right; rw [hI']; exact Nat.le_succ _
      · exact .inl rfl
      · exact .inr (Nat.le_refl _)
    · refine (hps.map _).trans ?_
      have e : (List.range es.size).map (fun p => (es.getD p (0, .none)).2) = es.toList.map (·.2) := by
        refine List.ext_getElem (by simp) fun i h1 h2 => ?_
        simp at h1 h2
        simp [Array.getD, h1]
      rw [e]
  · have key : ∀ (vs : List Value) (St : Nat → Heap → Prop) (I : Addr) (h' : Heap), I = s.heap.objs.size → h' = s.heap.push { cls := .type "set_iterator", data := .fields #[rawInt 0, rawInt 0, .ref a, rawInt ((es.size : Nat) : Int), rawInt (ep : Int)] } → vs.Perm (es.toList.map (·.2)) →
        (∀ A' : Around, A'.handled = none → Walks prog w A' I [I, a] [I] n (fun i v => vs[i]? = some v) St) → St 0 h' → Q (.ref I) { s with heap := h' } := by
      intro vs St I h' hI hh' hv hW hS
      refine h I [I, a] vs St h' s.drawn (fun b x e => by rw [hh']; exact Heap.get?_push_of_some _ e) (by rw [hh', Heap.size_push]; omega) ?_ (by rw [hI]; exact Nat.le_refl _) hv hW hS
      intro b hb
      simp only [List.mem_cons, List.not_mem_nil, or_false] at hb
      rcases hb with rfl | rfl
      · right; rw [hI]; exact Nat.le_refl _
      · exact .inl rfl
    refine wpAny_bind (wpAny_pure ?_)
    refine hend A.in1 s.heap s.drawn (rawInt 0) _ _ ho fun I h' hI hh' hg => ⟨_, rfl, "set_iterator", _, ⟨_, hg, rfl⟩, slot_setit_next.lookup, ?_⟩
    have hIa : a ≠ I := by rw [hI]; exact Nat.ne_of_lt hal
    have hS0 : SitAt h' I (rawInt ((0 : Nat) : Int)) 0 a n ep ∧ h'.get? a = some o := ⟨⟨_, hg, rfl, by rw [hn]; rfl⟩, by rw [hh']; exact Heap.get?_push_of_some _ ho⟩
    cases hb : w.params.followText "set-order" with
    | true => exact key _ _ I h' hI hh' ((pick_perm _ es).map _) (fun A' hA' => Walks.textual hIa hA' hd hf hn hb) hS0
    | false =>
      have h1 : es.size ≤ 1 := by
        rw [hb] at hc
        rcases hp with q | q
        · omega
        · rw [q] at hc
          simpa using hc
      exact key _ _ I h' hI hh' (List.Perm.refl _) (fun A' hA' => Walks.place1 hIa hA' hd hf hn hb h1 (by rw [hl, hb]; rfl)) hS0
theorem set_strs_of : ∀ (vs : List Value), (∀ v ∈ vs, ∃ k t, v = Value.str k t) → ∃ ss, StrsAre vs ss ∧ ss.length = vs.length ∧ ∀ k t, Value.str k t ∈ vs → k ∈ ss
  | [], _ => ⟨[], .nil, rfl, fun _ _ h => nomatch h⟩
  | v :: vs, h => by
    obtain ⟨k, t, rfl⟩ := h v (.head _)
    obtain ⟨ss, h1, h2, h3⟩ := set_strs_of vs fun x hx => h x (.tail _ hx)
    refine ⟨k :: ss, .cons k t h1, by simp [h2], fun k' t' hm => ?_⟩
    rcases List.mem_cons.mp hm with e | hm
    · injection e with e1 _; rw [e1]; exact .head _
    · exact .tail _ (h3 k' t' hm)
theorem collect_set {a : Addr} {S : Str → Bool} {n : Nat} {Q : List Value → Shared → Prop} (hS : LedOf (PySem.strKind prog w) s.heap a S n (!(w.params.followText "set-order"))) (hsm : n < 4096) (hh : A.handled = none)
    (h : ∀ (vs : List Value) (ss : List Str) h' tk dr, StrsAre vs ss → ss.length = n → (∀ k, S k = true → k ∈ ss) → Ext [] s.heap h' → s.heap.objs.size ≤ h'.objs.size → Q vs { s with heap := h', toks := tk, drawn := dr }) :
    wpAny (model prog w) A (collect (.ref a)) Q E s := by
  obtain ⟨o, es, ep, t, ho, hex, hd, hel, hmem, hb, hf, hn, hl, hp⟩ := hS
  have hal : a < s.heap.objs.size := Heap.lt_size ho
  unfold collect
  refine wpAny_bind (wpAny_runValue (codeAny_builtin entry_proto_collect' ?_))
  rw [Around.under_plainId PySem.F.plain_proto_collect _]
  show wpAny _ A.in1 (newList [] >>= fun l => again (.builtin "list.__iadd__" ⟨[l, .ref a], []⟩)) _ _ s
  refine wpAny_bind (wpAny_newObj_type ?_)
  refine wpAny_pure ⟨plainId_quiet PySem.F.plain_list_iadd _, codeAny_builtin entry_list_iadd' ?_⟩
  rw [Around.under_plainId PySem.F.plain_list_iadd _]
  have hS₁ : (s.heap.push { cls := .type "list", data := .seq ([] : List Value).toArray }).get? s.heap.objs.size = some { cls := .type "list", data := .seq #[] } := Heap.get?_push_size _ rfl
  have ho1 : (s.heap.push { cls := .type "list", data := .seq ([] : List Value).toArray }).get? a = some o := Heap.get?_push_of_some _ ho
  have hT1 : ∀ (x : Shared), x.heap.get? a = some o → x.TypeIs (.ref a) "set" := fun x e => ⟨o, e, hex.1⟩
  have hSa : s.heap.objs.size ≠ a := Nat.ne_of_gt hal
  show wpAny _ A.in1 (Builtin.List.listExtendWith (.ref s.heap.objs.size) (.ref a) (.ref s.heap.objs.size)) _ _ _
  unfold Builtin.List.listExtendWith
  refine wpAny_bind (wpAny_typeOf (T := "set") (hT1 _ ho1) ?_)
  have h1 : Builtin.List.listSameRef (.ref s.heap.objs.size) (.ref a) = false := by simp [Builtin.List.listSameRef, hSa]
  have h2 : (Value.type "set" == Value.type "list") = false := by decide
  have h3 : (Value.type "set" == Value.type "tuple") = false := by decide
  simp only [h1, h2, h3, Bool.or_false, Bool.false_eq_true, if_false]
  refine wpAny_bind (iter_set ho1 hex hd hf hn hsm hl hp hh fun I fp vs St h2 dr k2 z2 hfp hI hvs hW hS0 => ?_)
  dsimp only at k2 z2 hfp hI
  rw [Heap.size_push] at z2 hfp hI
  have hS₂ := k2 _ _ hS₁
  have ho2 := k2 _ _ ho1
  have hSf : s.heap.objs.size ∉ fp := fun hm => by
    rcases hfp _ hm with q | q
    · exact hSa q
    · exact absurd q (Nat.not_le.mpr (Nat.lt_succ_self _))
  have hvl : vs.length = n := by
    have := hvs.length_eq
    simpa [hn] using this
  have hve : ∀ v ∈ vs, ∃ k t, v = Value.str k t := fun v hv => by
    obtain ⟨e, he, rfl⟩ := List.mem_map.mp (hvs.mem_iff.mp hv)
    obtain ⟨⟨k, hk, _⟩, _⟩ := hel e he
    obtain ⟨t, ht⟩ := Value.isStrOf_shape hk
    exact ⟨k, t, ht⟩
  obtain ⟨ss, hss, hsl, hsm2⟩ := set_strs_of vs hve
  have hall : ∀ k, S k = true → k ∈ ss := fun k hk => by
    obtain ⟨e, he, hke⟩ := (hmem k).mp hk
    obtain ⟨t, ht⟩ := Value.isStrOf_shape hke
    exact hsm2 k t (by rw [← ht]; exact hvs.mem_iff.mpr (List.mem_map_of_mem he))
  have W1 := hW A.in1 hh
  refine wpAny_bind (wpAny_holding (set_hint (hT1 _ ho2) ?_))
  refine wpAny_ite_split (fun _ => ?_) (fun hc => absurd (by decide +kernel) hc)
  refine wpAny_bind (wpAny_rule ?_)
  refine wpAny_bind ?_
  show wpAny _ _ (updateSeq s.heap.objs.size (·.push .none) >>= fun _ => updateSeq s.heap.objs.size (·.pop)) _ _ _
  refine wpAny_bind (wpAny_updateSeq hS₂ rfl ?_)
  have hS3 := Heap.get?_update_self (Obj.mapSeq (·.push Value.none)) hS₂ rfl
  refine wpAny_updateSeq (hz := by seq_fits) hS3 rfl ?_
  have hS4 := Heap.get?_update_self (Obj.mapSeq (·.pop)) hS3 rfl
  refine wpAny_pure ⟨plainId_quiet PySem.F.plain_extend_loop _, ?_⟩
  have up : ∀ b o, b ≠ s.heap.objs.size → h2.get? b = some o → ((h2.update s.heap.objs.size (Obj.mapSeq (·.push Value.none))).update s.heap.objs.size (Obj.mapSeq (·.pop))).get? b = some o := fun b o hb e =>
    (Heap.get?_update_other _ _ (Ne.symm hb)).trans ((Heap.get?_update_other _ _ (Ne.symm hb)).trans e)
  refine codeAny_extend_loopS W1.toS (by rw [sizeLine_eq]; omega) s.heap.objs.size hSf _ n 0 _ #[] _ rfl (Nat.zero_le _) (W1.frame 0 _ _ hS0 fun b hb o e => up b o (fun q => hSf (q ▸ hb)) e) hS4 (ItemsOf.nil _) fun s' acc' c' hm hS' hacc => ?_
  have hav : acc'.toList = vs := by
    refine List.ext_getElem? fun j => ?_
    rcases Nat.lt_or_ge j acc'.size with hj | hj
    · have h5 := hacc.2 j acc'[j] (Array.getElem?_eq_getElem hj)
      rw [h5, Array.getElem?_toList, Array.getElem?_eq_getElem hj]
    · rw [Array.getElem?_toList, Array.getElem?_eq_none hj, List.getElem?_eq_none]
      rw [hvl, ← hacc.1]; exact hj
  refine wpAny_bind (wpAny_load hS' ?_)
  refine wpAny_pure ?_
  show Q acc'.toList s'
  rw [hav, Moved.eq_with hm]
  have hk : ∀ b o, s.heap.get? b = some o → s'.heap.get? b = some o := fun b o e => by
    have hb : (b : Nat) < s.heap.objs.size := Heap.lt_size e
    refine hm.heap b o (fun hx => ?_) (up b o (Nat.ne_of_lt hb) (k2 b o (Heap.get?_push_of_some _ e)))
    simp only [List.mem_cons, List.not_mem_nil, or_false] at hx
    rcases hx with q | q
    · rw [q] at hb; exact absurd hb (Nat.lt_irrefl _)
    · rw [q] at hb; exact absurd hb (Nat.not_lt.mpr (Nat.le_of_succ_le hI))
  refine h vs ss s'.heap s'.toks dr hss (by rw [hsl, hvl]) hall (fun b o _ e => hk b o e) ?_
  exact Nat.le_of_lt (Heap.lt_size hS')
end
end Mine
end

section
open PySem PySem.W PyProof.Rows PySem.Calls
set_option maxHeartbeats 4000000
namespace Mine
section
variable {prog : Program} {w : World} {A : Around} {R : Result → Shared → Prop} {s₀ : Shared}
theorem lcd_core {elt target iter : Expr} {scope : Scope} {pos : Pos} {cenv : Env} {I D : Addr} {fp own : List Addr} {n : Nat} {P : Nat → Value → Prop} {St : Nat → Heap → Prop} (W : Walks prog w A I fp [I] n P St) (Inv : Heap → Prop) (Asg : Value → Heap → Prop) (G : Nat → Value → Heap → Prop)
    (n2 : D ∉ own) (nf : ∀ b ∈ fp, b ∉ D :: own) (hz : n ≤ 1000)
    (hlo : ∀ i v (s : Shared) (Q : Unit → Shared → Prop) (E : Value → Shared → Prop), St i s.heap → Q () s → wpAny (model prog w) A (letOwnedTupleGo target (.ref I) v) Q E s)
    (hInv : ∀ h h', Inv h → (∀ b o, b ∈ own → h.get? b = some o → h'.get? b = some o) → Inv h')
    (hG : ∀ i y h h', G i y h → Kp (I :: D :: own) h h' → G i y h')
    (asg : ∀ (i : Nat) (v : Value) (s₂ : Shared) (E' : Value → Shared → Prop), P i v → i < n → Inv s₂.heap → Kp (I :: D :: own) s₀.heap s₂.heap →
      wpAny (model prog w) A (assign target cenv v) (fun _ s₃ => Inv s₃.heap ∧ Asg v s₃.heap ∧ ∃ h' tk, s₃ = { s₂ with heap := h', toks := tk } ∧ Kp own s₂.heap h') E' s₂)
    (eltok : ∀ (i : Nat) (v : Value) (s₃ : Shared) (E' : Value → Shared → Prop), P i v → i < n → Asg v s₃.heap → Kp (I :: D :: own) s₀.heap s₃.heap → wpAny (model prog w) A (eval elt cenv) (fun y s₄ => G i y s₄.heap ∧ KeepsD s₃ s₄) E' s₃)
    (hI : St 0 s₀.heap) (hD : s₀.heap.get? D = some (PySem.W.listOf #[] 0)) (hi : Inv s₀.heap)
    (fin : ∀ (h : Heap) (tk : Nat) dr (ys : List Value) (ep : Nat), ys.length = n → (∀ (j : Nat) (y : Value), ys[j]? = some y → G j y h) → h.get? D = some (PySem.W.listOf ys.toArray ep) → Kp (I :: D :: own) s₀.heap h → Inv h → R (.ok .next) { s₀ with heap := h, toks := tk, drawn := dr }) :
    codeAny (model prog w) A (.compLoop (.ListComp elt [⟨target, iter, [], 0⟩] scope pos) 0 (.ref I) (.ref D) cenv) R s₀ := by
  refine lcg_core true (gs := [⟨target, iter, [], 0⟩]) (ys0 := []) W Inv Asg G (compTurn_list1 ..) n2 nf hz hlo hInv hG asg (fun i v s₃ E' hP hi ha hk _ => wpAny_mono (eltok i v s₃ E' hP hi ha hk) (fun y s₄ h => ⟨h.1, ?_⟩) fun _ _ e => e) hI hD (Nat.zero_le _) hi fun h tk dr ys ep _ => fin h tk dr ys ep
  obtain ⟨h', tk, dr, rfl, a⟩ := h.2
  exact ⟨h', tk, dr, rfl, (fun h => Bool.noConfusion h), a⟩
end
end Mine
end

section
open PySem PySem.W PyProof.Rows PySem.Calls
set_option maxHeartbeats 4000000
namespace Mine
section
variable {prog : Program} {w : World} {A : Around} {E : Value → Shared → Prop} {s : Shared}
theorem sorted_set {a : Addr} {ks : List Str} {S : Str → Bool} {Q : Value → Shared → Prop} (hS : LedOf (PySem.strKind prog w) s.heap a S ks.length (!(w.params.followText "set-order"))) (hnd : ks.Nodup) (hks : ∀ k, k ∈ ks ↔ S k = true) (h64 : ks.length < 64) (hh : A.handled = none)
    (h : ∀ D h' tk dr (out : List Value) (ss' : List Str) e, StrsAre out ss' → ss'.Perm ks → sortedS ss' = true → s.heap.get? D = none → (@LE.le Nat _ s.heap.objs.size D) → Ext [] s.heap h' → h'.get? D = some (seqObj "list" out.toArray e) → Q (.ref D) { s with heap := h', toks := tk, drawn := dr }) :
    wpAny (model prog w) A (call (.builtin "sorted") [.ref a]) Q E s := by
  refine sorted_any (fun h1 _ => @LE.le Nat _ s.heap.objs.size h1.objs.size) h64 (fun Q' hQ' => collect_set hS (by omega) hh fun vs ss h1 tk dr hss hsl hall hex hle => hQ' vs ss h1 tk dr hss (perm_of_sub hnd hsl fun k hk => hall k ((hks k).mp hk)) hex hle) ?_
  rintro D h' tk dr out ss' e x1 x2 x3 x4 ⟨_, rfl, hle⟩ x5 x6
  exact h _ h' tk dr out ss' e x1 x2 x3 x4 hle x5 x6
end
end Mine
end

section
open PySem PySem.W PyProof.Rows PySem.Calls
set_option maxHeartbeats 4000000
namespace Mine
theorem nm_builtin {M : Model} {env : Env} {x : Str} {v : Value} {pos : Pos} {A : Around} {E : Value → Shared → Prop} {s : Shared} {Q : Value → Shared → Prop} {K : Frag} {p : Program} {loose : List Str} {mg mb : Str → Option Value} (hk : env.scope.kind = .function) (hx : env.kindOf x = some .globalImplicit) (hg : env.globals = mainGlobals) (hb : env.builtins = builtinsNs) (X : K.In s.heap) (T : TopRead p loose mg mb s.heap) (e : nsIn K mainGlobals x = some none) (hv : bootBuiltins x = some v) (hn : x ≠ "__name__") (h : Q v s)
    (hd : (x == ("__debug__" : Str)) = false := by decide) :
    wpAny M A (eval (.Name x pos) env) Q E s :=
  Name_function_global hk hx (loadGlobal_builtin (by show s.heap.Ns env.globals mg; rw [hg]; exact T.g) (mg_none_of X T.g e) (by show s.heap.Ns env.builtins mb; rw [hb]; exact T.b) ((T.builtins x hn).trans hv) h) hd
theorem fr_keep2 {g h h' : Heap} {L : Addr} {m : Str → Option Value} (F : Fr g L h m) (k : ∀ b o, h.get? b = some o → h'.get? b = some o) : Fr g L h' m := by
  obtain ⟨oL, es, ep, hL, r⟩ := F.ns
  exact ⟨⟨oL, es, ep, k _ _ hL, r⟩, fun b o e => k b o (F.keep b o e), F.above⟩
noncomputable abbrev Stt := Nat × Bool × Nat
noncomputable def StatesAt (h : Heap) (l : Addr) (sts : List Stt) : Prop :=
  ∃ vs : List Value, h.IsList l vs.toArray ∧ vs.length = sts.length ∧ ∀ (i : Nat) (r : Stt), sts[i]? = some r → ∃ (a : Addr) (t u : Tok), vs[i]? = some (Value.ref a) ∧ IsTup h a #[.int r.1 t, .bool r.2.1, .int r.2.2 u]
noncomputable def rdStep (acc : Bool × Bool × Bool × Bool) (r : Row) : Bool × Bool × Bool × Bool :=
  (if r.1.head? == some 46 then acc.1 || acc.2.2.2 else acc.1, if r.1.head? == some 46 then acc.2.1 || !acc.2.2.2 else acc.2.1, acc.2.2.1 || (r.2 == [13] || r.2 == [10]), r.2.getLast? == some 10)
noncomputable def flags (rows : List Row) : Bool × Bool × Bool × Bool := rows.foldl rdStep (false, false, false, true)
noncomputable def levOf (fl : Bool × Bool × Bool × Bool) (st : Stt) : Nat := (if fl.1 then st.1 + st.2.2 else if fl.2.1 then st.2.2 else 0) + (if st.2.1 && fl.2.2.1 then 1 else 0)
structure Pp where
  a : Addr
  lv : Nat
  tx : List Nat
  t : Tok
  u : Tok
noncomputable def Pp.led (q : Pp) : Addr × Obj := (q.a, { cls := .type "tuple", data := .seq #[.int (q.lv : Int) q.t, .str (S q.tx) q.u] })
noncomputable def ppRefs (l : List Pp) : List Value := l.map fun q => .ref q.a
theorem pp_at {prs : List Pp} {i : Nat} {v : Value} (h : (ppRefs prs).toArray[i]? = some v) : ∃ q, prs[i]? = some q ∧ v = .ref q.a := by
  simp only [ppRefs, List.getElem?_toArray, List.getElem?_map, Option.map_eq_some_iff] at h
  obtain ⟨q, hq, rfl⟩ := h
  exact ⟨q, hq, rfl⟩
theorem pp_same {h : Heap} {q q' : Pp} (e : q'.a = q.a) (h1 : IsTup h q.a #[.int (q.lv : Int) q.t, .str (S q.tx) q.u]) (h2 : IsTup h q'.a #[.int (q'.lv : Int) q'.t, .str (S q'.tx) q'.u]) :
    Value.int (q'.lv : Int) q'.t = .int (q.lv : Int) q.t ∧ Value.str (S q'.tx) q'.u = .str (S q.tx) q.u := by
  obtain ⟨o1, g1, _, z1, d1⟩ := h1
  obtain ⟨o2, g2, _, z2, d2⟩ := h2
  rw [e, g1] at g2
  cases g2
  rw [d1] at d2
  injection d2 with d2
  have d3 := congrArg (fun a : Array Value => a[0]?) d2
  have d4 := congrArg (fun a : Array Value => a[1]?) d2
  simp at d3 d4
  exact ⟨by rw [d3.1, d3.2], by rw [d4.1, d4.2]⟩
noncomputable def LvlS (prs : List Pp) (i : Nat) (ss : List Str) : Prop := ss.Nodup ∧ sortedS ss = true ∧ ∀ k, k ∈ ss ↔ ∃ q ∈ prs, q.lv = i ∧ k = S q.tx
noncomputable def LevelsAt (h : Heap) (D : Addr) (sss : List (List Str)) : Prop :=
  ∃ (ys : List Value) (ep : Nat), h.get? D = some (PySem.W.listOf ys.toArray ep) ∧ ys.length = sss.length ∧ ∀ (j : Nat) (y : Value) (ss : List Str), ys[j]? = some y → sss[j]? = some ss → ∃ (T : Addr) (out : List Value) (e : Nat), y = Value.ref T ∧ h.get? T = some (seqObj "list" out.toArray e) ∧ StrsAre out ss
noncomputable def RoundsOk (rows : List Row) (sts : List Stt) (sss : List (List Str)) : Prop :=
  ∃ M, sss.length = M + 1 ∧ (∃ st ∈ sts, levOf (flags rows) st = M) ∧ (∀ st ∈ sts, levOf (flags rows) st ≤ M) ∧
    ∀ (i : Nat) (ss : List Str), sss[i]? = some ss → ss.Nodup ∧ sortedS ss = true ∧ ∀ k, k ∈ ss ↔ ∃ st ∈ sts, levOf (flags rows) st = i ∧ k = S (told rows st.1 st.2.1 st.2.2)
theorem choose_list {α β : Type} {P : Nat → α → β → Prop} : ∀ (ys : List α) (n : Nat), (∀ (j : Nat) (y : α), ys[j]? = some y → ∃ b, P (n + j) y b) → ∃ bs : List β, bs.length = ys.length ∧ ∀ (j : Nat) (y : α) (b : β), ys[j]? = some y → bs[j]? = some b → P (n + j) y b
  | [], n, h => ⟨[], rfl, fun j y b e => by simp at e⟩
  | y :: ys, n, h => by
    obtain ⟨b, hb⟩ := h 0 y rfl
    obtain ⟨bs, hl, hbs⟩ := choose_list (P := P) ys (n + 1) fun j z e => by
      have := h (j + 1) z e
      rw [show n + 1 + j = n + (j + 1) by omega]
      exact this
    refine ⟨b :: bs, by simp [hl], fun j z c e1 e2 => ?_⟩
    cases j with
    | zero => cases e1; cases e2; exact hb
    | succ j =>
      have := hbs j z c e1 e2
      rw [show n + 1 + j = n + (j + 1) by omega] at this
      exact this
theorem rounds_ok {rows : List Row} {sts : List Stt} {prs : List Pp} {qM : Pp} {sss : List (List Str)} (hp : prs.map (fun q => (q.lv, q.tx)) = sts.map fun st => (levOf (flags rows) st, told rows st.1 st.2.1 st.2.2))
    (hM : qM ∈ prs) (hmax : ∀ q ∈ prs, q.lv ≤ qM.lv) (hl : sss.length = qM.lv + 1) (h : ∀ (i : Nat) (ss : List Str), sss[i]? = some ss → LvlS prs i ss) : RoundsOk rows sts sss := by
  have to : ∀ q ∈ prs, ∃ st ∈ sts, levOf (flags rows) st = q.lv ∧ told rows st.1 st.2.1 st.2.2 = q.tx := fun q hq => by
    have : (q.lv, q.tx) ∈ prs.map (fun q => (q.lv, q.tx)) := List.mem_map_of_mem (f := fun q : Pp => (q.lv, q.tx)) hq
    rw [hp] at this
    obtain ⟨st, hst, e⟩ := List.mem_map.mp this
    injection e with e1 e2
    exact ⟨st, hst, e1, e2⟩
  have back : ∀ st ∈ sts, ∃ q ∈ prs, q.lv = levOf (flags rows) st ∧ q.tx = told rows st.1 st.2.1 st.2.2 := fun st hst => by
    have : (levOf (flags rows) st, told rows st.1 st.2.1 st.2.2) ∈ sts.map (fun st => (levOf (flags rows) st, told rows st.1 st.2.1 st.2.2)) := List.mem_map_of_mem (f := fun st : Stt => (levOf (flags rows) st, told rows st.1 st.2.1 st.2.2)) hst
    rw [← hp] at this
    obtain ⟨q, hq, e⟩ := List.mem_map.mp this
    injection e with e1 e2
    exact ⟨q, hq, e1, e2⟩
  refine ⟨qM.lv, hl, ?_, ?_, fun i ss hi => ?_⟩
  · obtain ⟨st, h1, h2, _⟩ := to qM hM
    exact ⟨st, h1, h2⟩
  · intro st hst
    obtain ⟨q, hq, e, _⟩ := back st hst
    rw [← e]
    exact hmax q hq
  · obtain ⟨a, b, c⟩ := h i ss hi
    refine ⟨a, b, fun k => (c k).trans ⟨?_, ?_⟩⟩
    · rintro ⟨q, hq, rfl, rfl⟩
      obtain ⟨st, h1, h2, h3⟩ := to q hq
      exact ⟨st, h1, h2, by rw [h3]⟩
    · rintro ⟨st, hst, rfl, rfl⟩
      obtain ⟨q, hq, e1, e2⟩ := back st hst
      exact ⟨q, hq, e1, by rw [e2]⟩
section
variable {prog : Program} {w : World} {A : Around} {E : Value → Shared → Prop} {s : Shared}
noncomputable def pzOf (prs : List Pp) (i : Nat) (j : Nat) : Bool := match prs[j]? with | some q => ((q.lv : Int) == 0 + (i : Int) * 1) | none => false
noncomputable def kyOf (prs : List Pp) (j : Nat) : Str := match prs[j]? with | some q => S q.tx | none => S []
theorem inSet_pp {prs : List Pp} {i : Nat} {k : Str} : inSetOf (pzOf prs i) (kyOf prs) prs.length k = true ↔ ∃ q ∈ prs, q.lv = i ∧ k = S q.tx := by
  unfold inSetOf pzOf kyOf
  simp only [List.any_eq_true, List.mem_range, Bool.and_eq_true, decide_eq_true_eq]
  constructor
  · rintro ⟨j, hj, h1, h2⟩
    rw [List.getElem?_eq_getElem hj] at h1 h2
    simp at h1 h2
    exact ⟨prs[j], List.getElem_mem hj, by omega, h2⟩
  · rintro ⟨q, hq, h1, h2⟩
    obtain ⟨j, hj, rfl⟩ := List.mem_iff_getElem.mp hq
    refine ⟨j, hj, ?_⟩
    rw [List.getElem?_eq_getElem hj]
    simp
    exact ⟨by omega, h2⟩
theorem set_lvl {env : Env} {scope : Scope} {cl : List (Str × Addr)} {k : Nat} {pos p1 p2 p3 p4 p5 p6 p7 p8 : Pos} {prs : List Pp} {P cp ct : Addr} {i : Nat} {ti : Tok} {Q : Value → Shared → Prop} (hh : A.handled = none)
    (hk : env.scope.kind = .function) (hpk : env.kindOf "pairs" = some .cell) (hpc : env.cells.lookup ("pairs" : Str) = some cp) (hP : s.heap.IsCell cp (some (.ref P)))
    (hclos : closureFor scope env = pure cl) (hsk : scope.kind = .function) (hnames : ∀ y ∈ scope.names, y.2 = .local → scope.names.lookup y.1 = some .local)
    (kl : ∀ C, (cenvOf scope cl C env).kindOf "level" = some .local) (kt : ∀ C, (cenvOf scope cl C env).kindOf "text" = some .local) (ku : ∀ C, (cenvOf scope cl C env).kindOf "turn" = some .cell)
    (kc : ∀ C, (cenvOf scope cl C env).cells.lookup ("turn" : Str) = some ct) (kk : ∀ C, (cenvOf scope cl C env).scope.kind = .function)
    (hT : s.heap.IsCell ct (some (.int (0 + (i : Int) * 1) ti))) (hPl : s.heap.IsList P (ppRefs prs).toArray)
    (htu : ∀ q ∈ prs, IsTup s.heap q.a #[.int (q.lv : Int) q.t, .str (S q.tx) q.u]) (hlen : prs.length ≤ 60)
    (h : ∀ D h' tk (ks : List Str), ks.length ≤ prs.length → ks.Nodup → (∀ k, k ∈ ks ↔ ∃ q ∈ prs, q.lv = i ∧ k = S q.tx) → LedOf (PySem.strKind prog w) h' D (inSetOf (pzOf prs i) (kyOf prs) prs.length) ks.length (!(w.params.followText "set-order")) →
      (∀ b o, s.heap.get? b = some o → h'.get? b = some o) → Q (.ref D) { s with heap := h', toks := tk })
    (hs : ∀ x, foldedSetIterable (.Name "pairs" p5) env x = pure x) :
    wpAny (model prog w) A (eval (.SetComp (.Name "text" p1) [⟨.Tuple [.Name "level" p2, .Name "text" p3] k p4, .Name "pairs" p5, [.Compare (.Name "level" p6) [.Eq] [.Name "turn" p7] p8], 0⟩] scope pos) env) Q E s := by
  have hPlt : P < s.heap.objs.size := by obtain ⟨_, e, _⟩ := hPl; exact Heap.lt_size e
  refine scw_open hclos hsk hnames ?_ hs
  refine wpAny_Name (wpAny_loadName_cell hk hpk hpc hP ?_) (by decide)
  refine wpAny_pyIter_list hPl ?_
  refine in5_5 s.heap.objs.size [s.heap.objs.size, P] (ppRefs prs).toArray.size _ _ rfl (Walks.list hh _ P (Nat.ne_of_lt hPlt) (ppRefs prs).toArray) ⟨⟨_, Heap.get?_push_size _ rfl, rfl, rfl⟩, hPl.push _⟩ ?fpl ?_
  case fpl =>
    intro b hb
    show b < (s.heap.push _).objs.size
    rw [Heap.size_push]
    simp only [List.mem_cons, List.not_mem_nil, or_false] at hb
    rcases hb with rfl | rfl
    · exact Nat.lt_succ_self _
    · exact Nat.lt_succ_of_lt hPlt
  intro D C h₄ eD eC k4 st4 hD4 hC4 X4 hXs hX4 hXe
  have eD' : D = s.heap.objs.size + 1 := by rw [eD]; exact Heap.size_push ..
  have eC' : C = s.heap.objs.size + 2 := by rw [eC, eD']
  have old : ∀ (b : Addr) (o : Obj), s.heap.get? b = some o → b ∉ s.heap.objs.size :: D :: [C] := fun b o e hx => by
    have hb : (b : Nat) < s.heap.objs.size := Heap.lt_size e
    simp only [List.mem_cons, List.not_mem_nil, or_false] at hx
    rcases hx with q | q | q
    · rw [q] at hb; exact absurd hb (Nat.lt_irrefl _)
    · rw [q, eD'] at hb; exact absurd hb (Nat.not_lt.mpr (Nat.le_succ _))
    · rw [q, eC'] at hb; exact absurd hb (Nat.not_lt.mpr (Nat.le_add_right _ _))
  have k04 : ∀ b o, s.heap.get? b = some o → h₄.get? b = some o := fun b o e => k4 b o (by simp) (Heap.get?_push_of_some _ e)
  have hDC : D ≠ C := by rw [eD', eC']; exact Nat.ne_of_lt (Nat.lt_succ_self _)
  refine scw_core (own := [C]) (Walks.list hh _ P (Nat.ne_of_lt hPlt) (ppRefs prs).toArray) (fun h => ∃ m, h.Ns C m)
    (fun v h => ∀ q ∈ prs, v = .ref q.a → ∃ m, h.Ns C m ∧ m "level" = some (.int (q.lv : Int) q.t) ∧ m "text" = some (.str (S q.tx) q.u)) (pzOf prs i) (kyOf prs)
    ?x1 ?x2 ?x3 ?x4 ?x5 ?x6 ?x7 ?x8 ?x8b st4 hD4 ⟨_, hC4⟩ ?x9
  case x1 => rw [List.mem_singleton]; exact hDC
  case x2 =>
    intro b hb h
    simp only [List.mem_cons, List.not_mem_nil, or_false] at hb h
    rcases hb with rfl | rfl
    · rcases h with h | h
      · rw [eD'] at h; exact absurd h (Nat.ne_of_lt (Nat.lt_succ_self _))
      · rw [eC'] at h; exact absurd h (Nat.ne_of_lt (Nat.lt_add_of_pos_right (by decide)))
    · rcases h with h | h
      · rw [h, eD'] at hPlt; exact absurd hPlt (Nat.not_lt.mpr (Nat.le_succ _))
      · rw [h, eC'] at hPlt; exact absurd hPlt (Nat.not_lt.mpr (Nat.le_add_right _ _))
  case x3 => simp [ppRefs]; omega
  case x4 =>
    intro i v s5 Q5 E5 st5 h5
    obtain ⟨⟨o5, g5, c5, _⟩, _⟩ := st5
    exact letOwned_plain "list_iterator" g5 c5 rfl h5
  case x5 =>
    rintro h h' ⟨m5, o5, es5, ep5, g5, r5⟩ hk5
    exact ⟨m5, o5, es5, ep5, hk5 _ _ (.head _) g5, r5⟩
  case x6 =>
    intro v h h' ha hk q hq e
    obtain ⟨m5, ⟨o5, es5, ep5, g5, r5⟩, r⟩ := ha q hq e
    exact ⟨m5, ⟨o5, es5, ep5, hk _ _ g5, r5⟩, r⟩
  case x7 =>
    intro j v s5 E5 hP5 hi5 hin5 hk5
    obtain ⟨q, hq, rfl⟩ := pp_at hP5
    have hqm := List.mem_of_getElem? hq
    obtain ⟨m5, hm5⟩ := hin5
    have ht5 : IsTup s5.heap q.a #[.int (q.lv : Int) q.t, .str (S q.tx) q.u] := by
      obtain ⟨o5, g5, r5⟩ := htu q hqm
      exact ⟨o5, hk5 _ _ (old _ _ g5) (k04 _ _ g5), r5⟩
    have hcls : ((cenvOf scope cl C env).scope.kind == .class || ((cenvOf scope cl C env).scope.kind == .module && (cenvOf scope cl C env).locals != (cenvOf scope cl C env).globals)) = false := by rw [kk C]; rfl
    refine pair_asg (m := m5) hh (kl C) (kt C) hcls hm5 ht5 fun h6 tk6 hn6 hk6 => ⟨⟨_, hn6⟩, fun q' hq' e' => ⟨_, hn6, ?_⟩, h6, tk6, rfl, hk6⟩
    have ea : q'.a = q.a := by injection e' with e'; exact e'.symm
    obtain ⟨e1, e2⟩ := pp_same ea (htu q hqm) (htu q' hq')
    rw [e1, e2]
    exact ⟨rfl, rfl⟩
  case x8 =>
    intro j v s5 E5 hP5 hi5 ha5 hk5
    obtain ⟨q, hq, rfl⟩ := pp_at hP5
    obtain ⟨m5, hm5, hl5, _⟩ := ha5 q (List.mem_of_getElem? hq) rfl
    have hT5 : s5.heap.IsCell ct (some (.int (0 + (i : Int) * 1) ti)) := by
      obtain ⟨o5, g5, r5⟩ := hT
      exact ⟨o5, hk5 _ _ (old _ _ g5) (k04 _ _ g5), r5⟩
    refine wpAny_isTrue_Compare1 ?_
    refine wpAny_Name (wpAny_loadName_local (kk C) (kl C) hm5 hl5 ?_) (by decide)
    refine wpAny_Name (wpAny_loadName_cell (kk C) (ku C) (kc C) hT5 ?_) (by decide)
    refine PySem.P.eq_int ?_
    refine wpAny_truthy_bool ⟨?_, _, _, rfl, fun _ _ e => e⟩
    unfold pzOf
    rw [hq]
  case x8b =>
    intro j v s5 E5 hP5 hi5 hz5 ha5 hk5
    obtain ⟨q, hq, rfl⟩ := pp_at hP5
    obtain ⟨m5, hm5, _, hl5⟩ := ha5 q (List.mem_of_getElem? hq) rfl
    refine wpAny_Name (wpAny_loadName_local (kk C) (kt C) hm5 hl5 ⟨⟨q.u, ?_⟩, _, _, rfl, fun _ _ e => e⟩) (by decide)
    unfold kyOf
    rw [hq]
  case x9 =>
    intro h5 tk5 ks hkl hkn hks hL hk5 hin5
    obtain ⟨m5, hm5⟩ := hin5
    have hsz : (ppRefs prs).toArray.size = prs.length := by simp [ppRefs]
    rw [hsz] at hkl hks hL
    refine ⟨m5, hm5, fun h6 hs6 => ?_⟩
    refine h D h6 tk5 ks hkl hkn (fun k => (hks k).trans inSet_pp) ?_ ?_
    · obtain ⟨o, es, ep, t, ho, r⟩ := hL
      exact ⟨o, es, ep, t, (hs6.2 D hDC).trans ho, r⟩
    · intro b o e
      have hb := old b o e
      exact (hs6.2 b (fun q => hb (by rw [q]; simp))).trans (hk5 b o hb (k04 b o e))
end
end Mine
end

section
open PySem PySem.W PyProof.Rows PySem.Calls
set_option maxHeartbeats 4000000
namespace Mine
section
variable {prog : Program} {w : World} {A : Around} {E : Value → Shared → Prop} {s : Shared}
theorem num_elt {env : Env} {K : Frag} {p : Program} {loose : List Str} {mg mb m : Str → Option Value} {l cs : Addr} {vals : List Value} {ns : List Int} {i : Int} {t : Tok} {p1 p2 p3 p4 p5 p6 p7 p8 p9 p10 p11 p12 : Pos} {k1 k2 k3 k4 : Nat} (hh : A.handled = none)
    (hk : env.scope.kind = .function) (hsum : env.kindOf "sum" = some .globalImplicit) (hg : env.globals = mainGlobals) (hb : env.builtins = builtinsNs) (X : K.In s.heap) (T : TopRead p loose mg mb s.heap) (e : nsIn K mainGlobals "sum" = some none)
    (hsc : env.kindOf "script" = some .cell) (hcc : env.cells.lookup ("script" : Str) = some cs) (hcell : s.heap.IsCell cs (some (.ref l)))
    (hpl : env.kindOf "place" = some .local) (hn : s.heap.Ns env.locals m) (hm : m "place" = some (.int i t))
    (hl : s.heap.IsList l vals.toArray) (hi : IntsAre vals ns) (h63 : ns.length ≤ 63)
    (h1 : ∀ l' i', subscripted (.Slice (some (.Name "place" p5)) (some (.Constant (.int 48) k1 p6)) (some (.Constant (.int 6) k2 p7)) p8) false (.ref l') (.ref i') = operate [.ref l', .ref i'] (getItem (.ref l') (.ref i')))
    (h2 : ∀ l' r, letTemporaryGo (.Name "script" p4) (.ref l') r = pure ()) :
    wpAny (model prog w) A (eval (.BinOp (.Call (.Name "sum" p2) [.Subscript (.Name "script" p4) (.Slice (some (.Name "place" p5)) (some (.Constant (.int 48) k1 p6)) (some (.Constant (.int 6) k2 p7)) p8) p3] [] p9) .Mod (.BinOp (.Constant (.int 10) k3 p10) .Pow (.Constant (.int 6) k4 p11) p12) p1) env)
      (fun y s' => (∃ (n : Nat) (t : Tok), n < 1000000 ∧ y = .int (n : Int) t) ∧ Keeps s s') E s := by
  refine wpAny_BinOp ?_
  refine Call_ (nm_builtin hk hsum hg hb X T e rfl (by decide) (callWith_builtin1 (args_cons ?_)))
  refine Subscript_ ?_
  refine wpAny_Name (wpAny_loadName_cell hk hsc hcc hcell ?_) (by decide)
  refine wpAny_Slice (evalPart_some_step (wpAny_Name (wpAny_loadName_local hk hpl hn hm ?_) (by decide)))
  refine evalPart_some_step (wpAny_Constant_int ?_)
  refine evalPart_some_step (wpAny_Constant_int ?_)
  dsimp only
  refine subscriptTail_ops (Heap.IsList.typeIs (hl.push _)) list_getitem_lookup
    (wpAny_getItem_list_slice (hl.push _) (Heap.IsSliceOf.new ..) (.int _ _) (.int _ _) (.int _ _) (by decide) ?_ (by have := hi.length; rw [sizeLine_eq]; simp; omega)) (h1 _ _) (h2 _)
  dsimp only
  refine args_nil ?_
  obtain ⟨xs, hxs⟩ := (hi.pick (some i) (some 48) (some 6)).allInts.items
  have hxs' : slicePick vals.toArray (some i) (some 48) (some 6) = intItems xs := by
    rw [← hxs]
  rw [hxs']
  refine sum_intListG hh ⟨_, Heap.get?_push_size _ rfl, rfl, _, rfl⟩ fun h' tk t' hk => ?_
  dsimp only at hk ⊢
  refine wpAny_BinOp (wpAny_Constant_int (wpAny_Constant_int ?_))
  refine pow_int_small (by decide) (by decide) (by decide) ?_
  refine mod_int' (by decide) ⟨?_, _, _, rfl, fun b o e => hk b o (Heap.get?_push_of_some _ (Heap.get?_push_of_some _ e))⟩
  have e6 : (10 : Int) ^ (6 : Int).toNat = 1000000 := by decide
  rw [e6]
  have hnn : 0 ≤ (preSum (numAt xs) xs.size).fmod 1000000 := Int.fmod_nonneg_of_pos _ (by decide)
  have hlt : (preSum (numAt xs) xs.size).fmod 1000000 < 1000000 := Int.fmod_lt_of_pos _ (by decide)
  exact ⟨((preSum (numAt xs) xs.size).fmod 1000000).toNat, _, by omega, by rw [Int.toNat_of_nonneg hnn]⟩
end
end Mine
end

section
open PySem PySem.W PyProof.Rows PySem.Calls
set_option maxHeartbeats 4000000
namespace Mine
noncomputable def getD {q : Program} {loose : List Str} {XP : (Str → Option Value) → Heap → Prop} {YP : World → Heap → Prop} {r : RowW} {d : DefRec} {kwd : List (Str × Expr)} {run : Value → List Value → Sem Value} {H : Prop} (_ : WalkO q loose XP YP r d kwd run → H) : DefRec := d
theorem range_small6 : ∀ k : Nat, k ≤ 6 → Builtin.Range.small 0 (k : Int) 1 = true ∧ Builtin.Range.rangeSize 0 (k : Int) 1 = (k : Int) := by decide
theorem six (a : Nat) : ∃ c : Nat, c ≤ 6 ∧ (if (a : Int) < 6 then (a : Int) else 6) = (c : Int) := by
  by_cases h : (a : Int) < 6
  · exact ⟨a, by omega, by rw [if_pos h]⟩
  · exact ⟨6, by omega, by rw [if_neg h]; rfl⟩
theorem nums_of : ∀ (ys : List Value), (∀ (j : Nat) (y : Value), ys[j]? = some y → ∃ (n : Nat) (t : Tok), n < 1000000 ∧ y = .int (n : Int) t) → ∃ nn : List (Nat × Tok), ys = intValues nn ∧ ∀ r ∈ nn, r.1 < 1000000
  | [], _ => ⟨[], rfl, fun _ h => nomatch h⟩
  | y :: ys, h => by
    obtain ⟨n, t, hn, rfl⟩ := h 0 y rfl
    obtain ⟨nn, rfl, hnn⟩ := nums_of ys fun j z e => h (j + 1) z e
    refine ⟨(n, t) :: nn, rfl, fun r hr => ?_⟩
    rcases List.mem_cons.mp hr with rfl | hr
    · exact hn
    · exact hnn r hr
noncomputable def lawRec : DefRec := getD hd
noncomputable abbrev lawEnv (L fa : Addr) (cd : Value) : Env := envOfC lawRec.name lawRec.scope L fa cd
theorem off3l {b n : Nat} (h : b < n) : b ∉ [n, n + 1, n + 2] := by simp; omega
theorem seg1 {n : Nat} {prog : Program} {w : World} {A : Around} {s : Shared} {h₀ : Heap} {L fa lx : Addr} {cd : Value} {m : Str → Option Value} {o1 o2 : Obj} {vals : List Value} {ns : List Int} {Q : Flow → Shared → Prop} {E : Value → Shared → Prop}
   (C : Cx n w A h₀ L) (hn : n ≤ 5) (F : Fr h₀ L s.heap m) (N : News h₀ L s.heap [(L + 1 + 1, o2), (L + 1, o1)]) (ho1 : o1.data = .cell (some (.ref lx))) (hl : h₀.IsList lx vals.toArray) (hi : IntsAre vals ns) (h63 : ns.length ≤ 63)
   (k : ∀ h' tk D (nn : List (Nat × Tok)) m', Fr h₀ L h' m' → m' "numbers" = some (.ref D) → News h₀ L h' [(L + 1 + 1, o2), (L + 1, o1)] → h'.IsList D (intValues nn).toArray → nn.length ≤ 6 → (∀ r ∈ nn, r.1 < 1000000) →
     wpAny (model prog w) A (execs (lawRec.body.drop 1) (lawEnv L fa cd)) Q E { s with heap := h', toks := tk }) :
   wpAny (model prog w) A (execs lawRec.body (lawEnv L fa cd)) Q E s := by
  obtain ⟨hd0, dp0, fr0, gd0, un0⟩ := A
  have hh0 : hd0 = none := C.handled
  subst hh0
  unfold lawEnv lawRec
  dsimp only [getD]
  refine C.top_el fun pp loose mg mb T => ?_
  have X := C.X
  iterate 3 walk1
  have hs : News h₀ L s.heap [(L + 1 + 1, o2), (L + 1, o1)] := N
  refine lcw_open (cl := [("script", L + 1)]) rfl rfl (by decide) ?_ (fun _ => rfl)
  repeat' walk1
  rename IsRange _ _ _ _ _ _ _ _ => hR
  rename Fr h₀ L _ _ => F1
  rename News h₀ L _ _ => N1
  rename_i h8 _ _ _ _ k8
  dsimp only at k8 ⊢
  refine ex1_2 (six ns.length) ?_
  intro c hc6 hce
  rw [hce] at hR
  have rs1 := (range_small6 c hc6).1
  have rs2 := (range_small6 c hc6).2
  refine wpAny_pyIter_range hR rs1 ?_
  rw [rs2]
  dsimp only
  refine in5_5 h8.objs.size [h8.objs.size] c _ _ rfl (Walks.range rfl _ 0 1 c) ?sr ?fr ?_
  case sr =>
    have := Heap.get?_push_size h8 (o := { cls := .type "range_iterator", data := .fields #[rawInt 0, rawInt ((c : Nat) : Int), rawInt 1] }) rfl
    simpa [IsRangeIter] using this
  case fr =>
    intro b hb
    rw [List.mem_singleton.mp hb]
    show h8.objs.size < (h8.push _).objs.size
    rw [Heap.size_push]; exact Nat.lt_succ_self _
  intro D2 C2 h10 eD2 eC2 k10 st10 hD10 hC10 X10 hXs10 hX10 hXe10
  have eD2' : D2 = h8.objs.size + 1 := by rw [eD2]; exact Heap.size_push ..
  have eC2' : C2 = h8.objs.size + 2 := by rw [eC2, eD2']
  have old : ∀ (b : Addr) (o : Obj), h8.get? b = some o → b ∉ h8.objs.size :: D2 :: [C2] := fun b o e hx => by
    have hb : (b : Nat) < h8.objs.size := Heap.lt_size e
    rw [eD2', eC2'] at hx
    exact off3l hb hx
  have k08 : ∀ b o, h8.get? b = some o → h10.get? b = some o := fun b o e => k10 b o (by simp) (Heap.get?_push_of_some _ e)
  refine lcw_core (own := [C2]) (Walks.range rfl _ 0 1 c) (fun h => ∃ m, h.Ns C2 m) (fun v h => ∃ m, h.Ns C2 m ∧ m "place" = some v) (fun i y h => ∃ (n : Nat) (t : Tok), n < 1000000 ∧ y = .int (n : Int) t)
    ?y1 ?y2 ?y3 ?y4 ?y5 ?y6 ?y7 ?y8 st10 hD10 ⟨_, hC10⟩ ?y9
  case y1 => rw [List.mem_singleton, eC2', eD2']; exact Nat.ne_of_lt (Nat.lt_succ_self _)
  case y2 =>
    rw [eD2', eC2']
    intro b hb
    rw [List.mem_singleton.mp hb]
    simp only [List.mem_cons, List.not_mem_nil, or_false]
    intro h
    have : (h8.objs.size : Nat) = h8.objs.size + 1 ∨ (h8.objs.size : Nat) = h8.objs.size + 2 := h
    omega
  case y3 => omega
  case y4 => exact fun i v s5 Q5 E5 _ h5 => wpAny_pure h5
  case y5 =>
    rintro h h' ⟨m5, o5, es5, ep5, g5, r5⟩ hk5
    exact ⟨m5, o5, es5, ep5, hk5 _ _ (.head _) g5, r5⟩
  case y6 => exact fun i y h h' hg _ => hg
  case y7 =>
    intro i v s5 E5 hP5 hi5 hin5 hk5
    obtain ⟨m5, hm5⟩ := hin5
    refine wpAny_assign_Name (wpAny_storeName_local rfl hm5 (fun h6 hn6 hs6 => ⟨⟨_, hn6⟩, ⟨_, hn6, by exact if_pos rfl⟩, h6, _, rfl, fun b o hb e => (hs6.2 b (fun q => hb (by rw [q]; exact .head _))).trans e⟩) rfl)
  case y8 =>
    intro i v s5 E5 hP5 hi5 ha5 hk5
    obtain ⟨m5, hm5, hv5⟩ := ha5
    obtain ⟨t5, rfl⟩ := hP5
    have k85 : ∀ b o, h8.get? b = some o → s5.heap.get? b = some o := fun b o e => hk5 b o (old b o e) (k08 b o e)
    have k05 : ∀ b o, h₀.get? b = some o → s5.heap.get? b = some o := fun b o e => k85 b o (F1.keep b o e)
    have hcell : s5.heap.IsCell (L + 1) (some (.ref lx)) := ⟨o1, k85 _ _ (N1 _ (.tail _ (.head _))).1, ho1⟩
    exact num_elt (h1 := by intro _ _; with_unfolding_all rfl) (h2 := by intro _ _; with_unfolding_all rfl) (cs := L + 1) (ns := ns) rfl rfl rfl rfl rfl (X.keeps k05) (T.keeps k05) (by k_is) rfl rfl hcell rfl hm5 hv5 (hl.at fun o e => k05 _ _ e) hi h63
  case y9 =>
    intro h11 tk11 ys11 ep11 hyl11 hyg11 hD11 hk11 hin11
    obtain ⟨m11, hm11⟩ := hin11
    refine ⟨m11, hm11, fun h12 hs12 => ?_⟩
    have hDC2 : D2 ≠ C2 := by rw [eD2', eC2']; exact Nat.ne_of_lt (Nat.lt_succ_self _)
    have old12 : ∀ (b : Addr) (o : Obj), h8.get? b = some o → h12.get? b = some o := fun b o e =>
      (hs12.2 b (fun q => old b o e (by rw [q]; simp))).trans (hk11 b o (old b o e) (k08 b o e))
    have F2 := fr_keep2 F1 old12
    obtain ⟨nn, rfl, hnn⟩ := nums_of ys11 hyg11
    have hD12 : h12.get? D2 = some (PySem.W.listOf (intValues nn).toArray ep11) := (hs12.2 D2 hDC2).trans hD11
    have hlen : nn.length = c := by simpa [intValues] using hyl11
    have hD0 : h₀.get? D2 = none ∧ D2 ≠ L := own_new F1 (by
      cases q : h8.get? D2 with
      | none => rfl
      | some o =>
        have h1 : (D2 : Nat) < h8.objs.size := Heap.lt_size q
        rw [eD2'] at h1
        exact absurd h1 (Nat.not_lt.mpr (Nat.le_succ _)))
    have N2 : News h₀ L h12 [(D2, PySem.W.listOf (intValues nn).toArray ep11), (L + 1 + 1, o2), (L + 1, o1)] := by
      exact newsC ⟨hD12, hD0.2, hD0.1⟩ fun p hp => ⟨old12 _ _ (N1 p hp).1, (N1 p hp).2⟩
    clear N N1 F F1
    dsimp only
    iterate 1 walk1
    have hnl : nn.length ≤ 6 := by omega
    split
    · iterate 1 walk1
      rename Fr h₀ L _ _ => F3
      rename News h₀ L _ _ => N3
      refine k _ _ D2 nn _ F3 ?n1 (fun p hp => N3 p (.tail _ hp)) ⟨_, (N3 _ (.head _)).1, rfl, _, rfl⟩ hnl hnn
      case n1 => rfl
    · iterate 7 walk1
      rename Fr h₀ L _ _ => F3
      rename News h₀ L _ _ => N3
      refine k _ _ _ [(1, _)] _ F3 ?n1 (fun p hp => N3 p (.tail _ (.tail _ hp))) ⟨_, (N3 _ (.head _)).1, rfl, _, rfl⟩ (by simp) (by simp)
      case n1 => rfl
end Mine
end

section
open PySem PySem.W PyProof.Rows PySem.Calls
namespace Mine
noncomputable def cn (k : Str) : List Str → Nat
  | [] => 0
  | x :: l => (if x = k then 1 else 0) + cn k l
theorem cn_pos {k : Str} : ∀ {l : List Str}, k ∈ l → 0 < cn k l
  | x :: l, h => by
    rcases List.mem_cons.mp h with rfl | h
    · simp only [cn, if_true]; omega
    · have := cn_pos h; simp only [cn]; omega
theorem mem_of_cn {k : Str} : ∀ {l : List Str}, 0 < cn k l → k ∈ l
  | [], h => absurd h (Nat.lt_irrefl _)
  | x :: l, h => by
    simp only [cn] at h
    by_cases e : x = k
    · exact e ▸ .head _
    · rw [if_neg e] at h; exact .tail _ (mem_of_cn (by omega))
noncomputable def skel (G : Gr) : List (Str × List Str) := G.map fun x => (x.1, x.2.2)
noncomputable def isKey (G : Gr) (k : Str) : Prop := k ∈ G.map (·.1)
theorem key_skel {G G' : Gr} (h : skel G' = skel G) : G'.map (·.1) = G.map (·.1) := by
  have e : ∀ G : Gr, G.map (·.1) = (skel G).map (·.1) := fun G => by simp [skel]
  rw [e, h, ← e]
noncomputable def cnt (sk : List (Str × List Str)) (W : Str → Bool) (k : Str) : Nat := (sk.map fun x => if W x.1 then cn k x.2 else 0).sum
theorem find_map {f : Str × Int × List Str → Str × Int × List Str} (hf : ∀ x, (f x).1 = x.1) (k : Str) : ∀ (G : Gr), (G.map f).find? (fun x => x.1 = k) = (G.find? fun x => x.1 = k).map f
  | [] => rfl
  | x :: G => by
    rw [List.map_cons]
    by_cases h : x.1 = k
    · rw [List.find?_cons_of_pos (by simp [hf, h]), List.find?_cons_of_pos (by simp [h])]; rfl
    · rw [List.find?_cons_of_neg (by simp [hf, h]), List.find?_cons_of_neg (by simp [h])]; exact find_map hf k G
theorem find_key {G : Gr} {k : Str} (h : isKey G k) : ∃ x, G.find? (fun x => x.1 = k) = some x ∧ x.1 = k := by
  cases hf : G.find? (fun x => x.1 = k) with
  | none =>
    obtain ⟨x, hx, rfl⟩ := List.mem_map.mp h
    have := List.find?_eq_none.mp hf x hx
    simp at this
  | some x => exact ⟨x, rfl, by have := List.find?_some hf; simpa using this⟩
theorem np_bump {G : Gr} {s k : Str} {c : Int} (hk : isKey G k) : npAt (bump s c G) k = npAt G k + (if k = s then c else 0) := by
  obtain ⟨x, hx, rfl⟩ := find_key hk
  unfold npAt bump
  rw [find_map (fun x => by split <;> rfl), hx]
  by_cases e : x.1 = s <;> simp [e]
theorem np_setnp {G : Gr} {s k : Str} {c : Int} (hk : isKey G k) : npAt (setnp c G s) k = if k = s then c else npAt G k := by
  obtain ⟨x, hx, rfl⟩ := find_key hk
  unfold npAt setnp
  rw [find_map (fun x => by split <;> rfl), hx]
  by_cases e : x.1 = s <;> simp [e]
theorem skel_bump {G : Gr} {s : Str} {c : Int} : skel (bump s c G) = skel G := by
  unfold skel bump
  rw [List.map_map]
  refine List.map_congr_left fun x _ => ?_
  simp only [Function.comp]; split <;> rfl
theorem skel_setnp {G : Gr} {s : Str} {c : Int} : skel (setnp c G s) = skel G := by
  unfold skel setnp
  rw [List.map_map]
  refine List.map_congr_left fun x _ => ?_
  simp only [Function.comp]; split <;> rfl
theorem setnp_fold {c : Int} : ∀ (ps : List Str) (G : Gr), skel (ps.foldl (setnp c) G) = skel G ∧ ∀ k, isKey G k → npAt (ps.foldl (setnp c) G) k = if k ∈ ps then c else npAt G k
  | [], G => ⟨rfl, fun k _ => by simp⟩
  | p :: ps, G => by
    have ih := setnp_fold (c := c) ps (setnp c G p)
    refine ⟨ih.1.trans skel_setnp, fun k hk => ?_⟩
    have hk' : isKey (setnp c G p) k := by unfold isKey; rw [key_skel skel_setnp]; exact hk
    rw [List.foldl_cons, ih.2 k hk', np_setnp hk]
    by_cases h1 : k ∈ ps
    · simp [h1]
    · by_cases h2 : k = p <;> simp [h1, h2]
theorem dec_fold : ∀ (l : List Str) (G : Gr) (R : List Str), (∀ k ∈ l, isKey G k) → (∀ k ∈ l, (cn k l : Int) ≤ npAt G k) → R.Nodup → (∀ k ∈ R, k ∉ l) →
    skel (l.foldl decS (G, R)).1 = skel G ∧ (∀ k, isKey G k → npAt (l.foldl decS (G, R)).1 k = npAt G k - cn k l) ∧ (l.foldl decS (G, R)).2.Nodup ∧
      ∀ k, k ∈ (l.foldl decS (G, R)).2 ↔ k ∈ R ∨ (k ∈ l ∧ npAt G k = cn k l)
  | [], G, R, _, _, hR, _ => ⟨rfl, fun k _ => by simp [cn], hR, fun k => by simp⟩
  | s :: l, G, R, hk, hn, hR, hd => by
    have hsk := hk s (.head _)
    have hnp : npAt (bump s (-1) G) s = npAt G s - 1 := by rw [np_bump hsk, if_pos rfl]; omega
    have hkk : ∀ k, isKey (bump s (-1) G) k ↔ isKey G k := fun k => by unfold isKey; rw [key_skel skel_bump]
    have hs0 := hn s (.head _)
    simp only [cn, if_true] at hs0
    rw [List.foldl_cons]
    have hdec : decS (G, R) s = (bump s (-1) G, if npAt G s - 1 = 0 then R ++ [s] else R) := by unfold decS; dsimp only; rw [hnp]
    rw [hdec]
    have hRn : (if npAt G s - 1 = 0 then R ++ [s] else R).Nodup := by
      split
      · rw [List.nodup_append]
        refine ⟨hR, by simp, fun a ha b hb e => ?_⟩
        rw [List.mem_singleton.mp hb] at e
        exact hd a ha (e ▸ .head _)
      · exact hR
    have hRd : ∀ k ∈ (if npAt G s - 1 = 0 then R ++ [s] else R), k ∉ l := by
      intro k hkR hkl
      split at hkR
      · rename_i h0
        rcases List.mem_append.mp hkR with h | h
        · exact hd k h (.tail _ hkl)
        · rw [List.mem_singleton.mp h] at hkl
          have := cn_pos hkl; omega
      · exact hd k hkR (.tail _ hkl)
    obtain ⟨i1, i2, i3, i4⟩ := dec_fold l (bump s (-1) G) _ (fun k h => (hkk k).mpr (hk k (.tail _ h))) (fun k h => by
      have h1 := hn k (.tail _ h)
      rw [np_bump (hk k (.tail _ h))]
      simp only [cn] at h1
      by_cases e : k = s
      · rw [if_pos e]; rw [if_pos e.symm] at h1; omega
      · rw [if_neg e]; rw [if_neg (fun h => e h.symm)] at h1; omega) hRn hRd
    refine ⟨i1.trans skel_bump, fun k hk' => ?_, i3, fun k => ?_⟩
    · rw [i2 k ((hkk k).mpr hk'), np_bump hk']
      simp only [cn]
      by_cases e : k = s
      · rw [if_pos e, if_pos e.symm]; omega
      · rw [if_neg e, if_neg (fun h => e h.symm)]; omega
    · rw [i4 k]
      constructor
      · rintro (h | ⟨h1, h2⟩)
        · split at h
          · rename_i h0
            rcases List.mem_append.mp h with h | h
            · exact .inl h
            · rw [List.mem_singleton.mp h]
              refine .inr ⟨.head _, ?_⟩
              have : ¬ 0 < cn s l := fun hp => by have := hs0; omega
              simp only [cn, if_true]; omega
          · exact .inl h
        · refine .inr ⟨.tail _ h1, ?_⟩
          rw [np_bump (hk k (.tail _ h1))] at h2
          simp only [cn]
          by_cases e : k = s
          · rw [if_pos e] at h2; rw [if_pos e.symm]; omega
          · rw [if_neg e] at h2; rw [if_neg (fun h => e h.symm)]; omega
      · rintro (h | ⟨h1, h2⟩)
        · left; split
          · exact List.mem_append_left _ h
          · exact h
        · simp only [cn] at h2
          by_cases hl : k ∈ l
          · right
            refine ⟨hl, ?_⟩
            rw [np_bump (hk k h1)]
            by_cases e : k = s
            · rw [if_pos e]; rw [if_pos e.symm] at h2; omega
            · rw [if_neg e]; rw [if_neg (fun h => e h.symm)] at h2; omega
          · left
            have e : k = s := by rcases List.mem_cons.mp h1 with h | h; exact h; exact absurd h hl
            subst e
            have : cn k l = 0 := by
              cases hc : cn k l with
              | zero => rfl
              | succ n => exact absurd (mem_of_cn (by omega)) hl
            rw [if_pos rfl] at h2
            rw [if_pos (by omega)]; simp
end Mine
end

section
open PySem PySem.W PyProof.Rows PySem.Calls
namespace Mine
structure Web (sk : List (Str × List Str)) (lv : Str → Nat) : Prop where
  nodup : (sk.map (·.1)).Nodup
  up : ∀ x ∈ sk, ∀ k ∈ x.2, k ∈ sk.map (·.1) ∧ lv x.1 < lv k
  pred : ∀ k ∈ sk.map (·.1), 0 < lv k → ∃ x ∈ sk, k ∈ x.2 ∧ lv x.1 + 1 = lv k
theorem cnt_zero {W : Str → Bool} {k : Str} : ∀ {sk : List (Str × List Str)}, cnt sk W k = 0 ↔ ∀ x ∈ sk, W x.1 = true → k ∉ x.2
  | [] => by simp [cnt]
  | x :: sk => by
    have ih := cnt_zero (W := W) (k := k) (sk := sk)
    simp only [cnt, List.map_cons, List.sum_cons, Nat.add_eq_zero_iff] at ih ⊢
    rw [ih]
    constructor
    · rintro ⟨h1, h2⟩ y hy hw
      rcases List.mem_cons.mp hy with rfl | hy
      · rw [if_pos hw] at h1
        exact fun hm => by have := cn_pos hm; omega
      · exact h2 y hy hw
    · intro h
      refine ⟨?_, fun y hy => h y (.tail _ hy)⟩
      by_cases hw : W x.1 = true
      · rw [if_pos hw]
        cases hc : cn k x.2 with
        | zero => rfl
        | succ n => exact absurd (mem_of_cn (by omega)) (h x (.head _) hw)
      · rw [if_neg hw]
theorem cnt_congr {W W' : Str → Bool} {k : Str} : ∀ {sk : List (Str × List Str)}, (∀ x ∈ sk, W x.1 = W' x.1) → cnt sk W k = cnt sk W' k := by
  intro sk h
  unfold cnt
  congr 1
  exact List.map_congr_left fun x hx => by rw [h x hx]
theorem cnt_less {W : Str → Bool} {k p : Str} {l : List Str} : ∀ {sk : List (Str × List Str)}, (sk.map (·.1)).Nodup → (p, l) ∈ sk → W p = true → cnt sk W k = cnt sk (fun y => W y && !decide (y = p)) k + cn k l
  | x :: sk, hn, hp, hw => by
    rw [List.map_cons, List.nodup_cons] at hn
    simp only [cnt, List.map_cons, List.sum_cons]
    rcases List.mem_cons.mp hp with rfl | hp
    · have hc : cnt sk W k = cnt sk (fun y => W y && !decide (y = p)) k := cnt_congr fun y hy => by
        have : y.1 ≠ p := fun e => hn.1 (by show p ∈ _; rw [← e]; exact List.mem_map_of_mem (f := (·.1)) hy)
        simp [this]
      simp only [cnt] at hc
      rw [hc]
      simp [hw]; omega
    · have ih := cnt_less (W := W) (k := k) hn.2 hp hw
      have hx : x.1 ≠ p := fun e => hn.1 (by rw [e]; exact List.mem_map_of_mem (f := (·.1)) hp)
      simp only [cnt] at ih
      rw [ih]
      simp [hx]; omega
theorem ss_mem {G : Gr} (_hn : ((skel G).map (·.1)).Nodup) {p : Str} (hp : isKey G p) : (p, ssAt G p) ∈ skel G := by
  obtain ⟨x, hx, rfl⟩ := find_key hp
  have hm := List.mem_of_find?_eq_some hx
  have : ssAt G x.1 = x.2.2 := by unfold ssAt; rw [hx]; rfl
  rw [this]
  exact List.mem_map.mpr ⟨x, hm, rfl⟩
theorem skel_keys (G : Gr) : (skel G).map (·.1) = G.map (·.1) := by simp [skel]
theorem done_fold {lv : Str → Nat} {t : Nat} {sk : List (Str × List Str)} (web : Web sk lv) : ∀ (ps : List Str) (G : Gr) (R : List Str) (W : Str → Bool), skel G = sk → ps.Nodup →
    (∀ p ∈ ps, isKey G p ∧ lv p = t ∧ W p = true ∧ npAt G p = -1) → (∀ k, isKey G k → t < lv k → npAt G k = cnt sk W k) → R.Nodup → (∀ k, k ∈ R ↔ isKey G k ∧ t < lv k ∧ cnt sk W k = 0) →
    skel (ps.foldl doneS (G, R)).1 = sk ∧ (∀ k, isKey G k → t < lv k → npAt (ps.foldl doneS (G, R)).1 k = cnt sk (fun y => W y && !decide (y ∈ ps)) k) ∧ (ps.foldl doneS (G, R)).2.Nodup ∧
      (∀ k, k ∈ (ps.foldl doneS (G, R)).2 ↔ isKey G k ∧ t < lv k ∧ cnt sk (fun y => W y && !decide (y ∈ ps)) k = 0) ∧
      ∀ (i : Nat) (p : Str), ps[i]? = some p → npAt ((ps.take i).foldl doneS (G, R)).1 p = -1
  | [], G, R, W, hs, _, _, h1, h2, h3 => by
    have e : (fun y => W y && !decide (y ∈ ([] : List Str))) = W := by funext y; simp
    rw [e]
    exact ⟨hs, h1, h2, h3, fun i p h => by simp at h⟩
  | p :: ps, G, R, W, hs, hnd, hp, h1, h2, h3 => by
    rw [List.nodup_cons] at hnd
    obtain ⟨hpk, hpl, hpw, hpn⟩ := hp p (.head _)
    have hkn : ((skel G).map (·.1)).Nodup := by rw [hs]; exact web.nodup
    have hss := ss_mem hkn hpk
    rw [hs] at hss
    have hup := web.up _ hss
    have hkey : ∀ k, k ∈ sk.map (·.1) ↔ isKey G k := fun k => by rw [← hs, skel_keys]; rfl
    have hkk : ∀ k, isKey (setnp (-2) G p) k ↔ isKey G k := fun k => by unfold isKey; rw [key_skel skel_setnp]
    have hnp : ∀ k, isKey G k → t < lv k → npAt (setnp (-2) G p) k = cnt sk W k := fun k hk hl => by
      rw [np_setnp hk, if_neg (fun e => by rw [e, hpl] at hl; exact Nat.lt_irrefl _ hl)]; exact h1 k hk hl
    have hless : ∀ k, cnt sk W k = cnt sk (fun y => W y && !decide (y = p)) k + cn k (ssAt G p) := fun k => cnt_less web.nodup hss hpw
    obtain ⟨d1, d2, d3, d4⟩ := dec_fold (ssAt G p) (setnp (-2) G p) R (fun k hk => (hkk k).mpr ((hkey k).mp (hup k hk).1))
      (fun k hk => by
        have hl : t < lv k := by have := (hup k hk).2; rw [← hpl]; exact this
        rw [hnp k ((hkey k).mp (hup k hk).1) hl, hless k]; omega) h2
      (fun k hk hm => by
        have := ((h3 k).mp hk).2.2
        rw [hless k] at this
        have h9 := cn_pos hm; omega)
    have hdone : doneS (G, R) p = (ssAt G p).foldl decS (setnp (-2) G p, R) := rfl
    rw [List.foldl_cons, hdone]
    generalize hGR : (ssAt G p).foldl decS (setnp (-2) G p, R) = GR at d1 d2 d3 d4
    obtain ⟨G1, R1⟩ := GR
    dsimp only at d1 d2 d3 d4
    have hs1 : skel G1 = sk := (d1.trans skel_setnp).trans hs
    have hk1 : ∀ k, isKey G1 k ↔ isKey G k := fun k => by unfold isKey; rw [key_skel (hs1.trans hs.symm)]
    have hW : (fun y => W y && !decide (y ∈ p :: ps)) = fun y => (W y && !decide (y = p)) && !decide (y ∈ ps) := by
      funext y
      by_cases e : y = p <;> simp [e]
    obtain ⟨i1, i2, i3, i4, i5⟩ := done_fold (t := t) web ps G1 R1 (fun y => W y && !decide (y = p)) hs1 hnd.2
      (fun q hq => by
        obtain ⟨a1, a2, a3, a4⟩ := hp q (.tail _ hq)
        have hqp : q ≠ p := fun e => hnd.1 (e ▸ hq)
        refine ⟨(hk1 q).mpr a1, a2, by simp [a3, hqp], ?_⟩
        have hz : cn q (ssAt G p) = 0 := by
          cases hc : cn q (ssAt G p) with
          | zero => rfl
          | succ n =>
            have := (hup q (mem_of_cn (by rw [hc]; exact Nat.succ_pos _))).2
            rw [hpl, a2] at this
            exact absurd this (Nat.lt_irrefl _)
        rw [d2 q ((hkk q).mpr a1), np_setnp a1, if_neg hqp, a4, hz]; rfl)
      (fun k hk hl => by
        have hk' := (hk1 k).mp hk
        rw [d2 k ((hkk k).mpr hk'), hnp k hk' hl, hless k]; omega)
      d3
      (fun k => by
        rw [d4 k, h3 k]
        constructor
        · rintro (⟨b1, b2, b3⟩ | ⟨b1, b2⟩)
          · have := hless k
            exact ⟨(hk1 k).mpr b1, b2, by omega⟩
          · have hl : t < lv k := by have := (hup k b1).2; rw [← hpl]; exact this
            have hk' := (hkey k).mp (hup k b1).1
            rw [hnp k hk' hl] at b2
            have := hless k
            exact ⟨(hk1 k).mpr hk', hl, by omega⟩
        · rintro ⟨b1, b2, b3⟩
          have hk' := (hk1 k).mp b1
          have := hless k
          cases hc : cn k (ssAt G p) with
          | zero => exact .inl ⟨hk', b2, by omega⟩
          | succ n =>
            refine .inr ⟨mem_of_cn (by omega), ?_⟩
            rw [hnp k hk' b2]; omega)
    rw [hW]
    refine ⟨i1, fun k hk hl => i2 k ((hk1 k).mpr hk) hl, i3, fun k => by rw [i4 k, hk1 k], fun i q hq => ?_⟩
    cases i with
    | zero => simp at hq; subst hq; exact hpn
    | succ i =>
      rw [List.take_succ_cons, List.foldl_cons, hdone, hGR]
      exact i5 i q (by simpa using hq)
end Mine
end

section
open PySem PySem.W PyProof.Rows PySem.Calls
namespace Mine
structure AtTurn (sk : List (Str × List Str)) (lv : Str → Nat) (t : Nat) (G : Gr) (rs : List Str) : Prop where
  isk : skel G = sk
  nd : rs.Nodup
  mem : ∀ k, k ∈ rs ↔ k ∈ sk.map (·.1) ∧ lv k = t
  np : ∀ k ∈ sk.map (·.1), t < lv k → npAt G k = cnt sk (fun y => decide (t ≤ lv y)) k
theorem lev_zero {sk : List (Str × List Str)} {lv : Str → Nat} (web : Web sk lv) {k : Str} (hk : k ∈ sk.map (·.1)) {t : Nat} (ht : t ≤ lv k) : cnt sk (fun y => decide (t ≤ lv y)) k = 0 ↔ lv k = t := by
  rw [cnt_zero]
  constructor
  · intro h
    by_cases h0 : lv k = t
    · exact h0
    · obtain ⟨x, hx, hm, hl⟩ := web.pred k hk (by omega)
      exact absurd hm (h x hx (by simp; omega))
  · intro h x hx hw hm
    have := (web.up x hx k hm).2
    simp at hw; omega
theorem kahn_start {sk : List (Str × List Str)} {lv : Str → Nat} (web : Web sk lv) {G : Gr} (hs : skel G = sk) (hn : ∀ k, isKey G k → npAt G k = cnt sk (fun _ => true) k) : AtTurn sk lv 0 G ((G.filter fun x => decide (x.2.1 = 0)).map (·.1)) := by
  have e : (fun y => decide (0 ≤ lv y)) = fun _ => true := by funext y; simp
  have hkeys : sk.map (·.1) = G.map (·.1) := by rw [← hs, skel_keys]
  have hnd : (G.map (·.1)).Nodup := by rw [← hkeys]; exact web.nodup
  have hnp : ∀ x ∈ G, npAt G x.1 = x.2.1 := by
    intro x hx
    clear hn hs hkeys
    induction G with
    | nil => cases hx
    | cons y G ih =>
      rw [List.map_cons, List.nodup_cons] at hnd
      unfold npAt
      rcases List.mem_cons.mp hx with rfl | hx
      · rw [List.find?_cons_of_pos (by simp)]; rfl
      · have : y.1 ≠ x.1 := fun e => hnd.1 (e ▸ List.mem_map_of_mem hx)
        rw [List.find?_cons_of_neg (by simp [this])]
        exact ih hnd.2 hx
  refine ⟨hs, ?_, fun k => ?_, fun k hk hl => ?_⟩
  · exact hnd.sublist (List.Sublist.map _ List.filter_sublist)
  · constructor
    · intro h
      obtain ⟨x, hx, rfl⟩ := List.mem_map.mp h
      rw [List.mem_filter] at hx
      have hk : x.1 ∈ sk.map (·.1) := by rw [hkeys]; exact List.mem_map_of_mem hx.1
      refine ⟨hk, (lev_zero web hk (Nat.zero_le _)).mp ?_⟩
      rw [e]
      have h1 := hn x.1 (List.mem_map_of_mem hx.1)
      have h2 := hnp x hx.1
      have h3 : x.2.1 = 0 := by simpa using hx.2
      omega
    · rintro ⟨hk, hl⟩
      have h0 := (lev_zero web hk (Nat.zero_le _)).mpr hl
      rw [e] at h0
      rw [hkeys] at hk
      have h1 := hn k hk
      obtain ⟨x, hx, rfl⟩ := List.mem_map.mp hk
      have h2 := hnp x hx
      exact List.mem_map.mpr ⟨x, List.mem_filter.mpr ⟨hx, by simp; omega⟩, rfl⟩
  · rw [e]; exact hn k (by unfold isKey; rw [← hkeys]; exact hk)
theorem kahn_turn {sk : List (Str × List Str)} {lv : Str → Nat} (web : Web sk lv) {t : Nat} {G : Gr} {rs : List Str} (h : AtTurn sk lv t G rs) :
    AtTurn sk lv (t + 1) (rs.foldl doneS (rs.foldl (setnp (-1)) G, [])).1 (rs.foldl doneS (rs.foldl (setnp (-1)) G, [])).2 ∧
      ∀ (i : Nat) (p : Str), rs[i]? = some p → npAt ((rs.take i).foldl doneS (rs.foldl (setnp (-1)) G, [])).1 p = -1 := by
  have hkeys : sk.map (·.1) = G.map (·.1) := by rw [← h.isk, skel_keys]
  obtain ⟨s1, s2⟩ := setnp_fold (c := -1) rs G
  have hkk : ∀ k, isKey (rs.foldl (setnp (-1)) G) k ↔ k ∈ sk.map (·.1) := fun k => by unfold isKey; rw [key_skel s1, hkeys]
  have hkG : ∀ k, isKey G k ↔ k ∈ sk.map (·.1) := fun k => by unfold isKey; rw [hkeys]
  obtain ⟨d1, d2, d3, d4, d5⟩ := done_fold (t := t) web rs (rs.foldl (setnp (-1)) G) [] (fun y => decide (t ≤ lv y)) (s1.trans h.isk) h.nd
    (fun p hp => by
      obtain ⟨h1, h2⟩ := (h.mem p).mp hp
      exact ⟨(hkk p).mpr h1, h2, by simp [h2], by rw [s2 p ((hkG p).mpr h1), if_pos hp]⟩)
    (fun k hk hl => by
      have hk' := (hkk k).mp hk
      rw [s2 k ((hkG k).mpr hk'), if_neg (fun hm => by have := ((h.mem k).mp hm).2; omega)]
      exact h.np k hk' hl)
    List.nodup_nil
    (fun k => by
      constructor
      · intro hm; cases hm
      · rintro ⟨b1, b2, b3⟩
        have hk' := (hkk k).mp b1
        have := (lev_zero web hk' (Nat.le_of_lt b2)).mp b3
        omega)
  have hW : ∀ k, cnt sk (fun y => decide (t ≤ lv y) && !decide (y ∈ rs)) k = cnt sk (fun y => decide (t + 1 ≤ lv y)) k := fun k => cnt_congr fun x hx => by
    have hxk : x.1 ∈ sk.map (·.1) := List.mem_map_of_mem hx
    have hm := h.mem x.1
    by_cases hl : lv x.1 = t
    · have : x.1 ∈ rs := hm.mpr ⟨hxk, hl⟩
      simp [this]; omega
    · have : x.1 ∉ rs := fun hq => hl (hm.mp hq).2
      simp only [this, decide_false, Bool.not_false, Bool.and_true]
      by_cases h2 : t ≤ lv x.1
      · have h3 : t + 1 ≤ lv x.1 := by omega
        rw [decide_eq_true h2, decide_eq_true h3]
      · have h3 : ¬ t + 1 ≤ lv x.1 := by omega
        rw [decide_eq_false h2, decide_eq_false h3]
  refine ⟨⟨d1, d3, fun k => ?_, fun k hk hl => ?_⟩, d5⟩
  · rw [d4 k, hkk k, hW k]
    constructor
    · rintro ⟨b1, b2, b3⟩
      exact ⟨b1, (lev_zero web b1 b2).mp b3⟩
    · rintro ⟨b1, b2⟩
      exact ⟨b1, by omega, (lev_zero web b1 (by omega)).mpr b2⟩
  · rw [d2 k ((hkk k).mpr hk) (by omega), hW k]
structure GrownD (δ : Str → Int) (G : Gr) : Prop where
  nd : (G.map (·.1)).Nodup
  np : ∀ k, isKey G k → npAt G k = cnt (skel G) (fun _ => true) k + δ k
  inn : ∀ x ∈ skel G, ∀ k ∈ x.2, isKey G k
noncomputable abbrev Grown (G : Gr) : Prop := GrownD (fun _ => 0) G
noncomputable def tot (G : Gr) : Nat := (G.map fun x => x.2.2.length + 1).sum
noncomputable def Edge (G : Gr) (p k : Str) : Prop := ∃ x ∈ skel G, x.1 = p ∧ k ∈ x.2
theorem grown_nil : Grown [] := ⟨List.nodup_nil, (fun k h => nomatch h), (fun x h => nomatch h)⟩
theorem touch_spec {δ : Str → Int} {G : Gr} (h : GrownD δ G) (k : Str) (hδ : ¬ isKey G k → δ k = 0) : GrownD δ (touch k G) ∧ (∀ y, isKey (touch k G) y ↔ isKey G y ∨ y = k) ∧ (∀ p y, Edge (touch k G) p y ↔ Edge G p y) ∧ (∀ y, npAt (touch k G) y = npAt G y) ∧ tot (touch k G) ≤ tot G + 1 := by
  unfold touch
  by_cases hm : G.any (fun x => decide (x.1 = k)) = true
  · rw [if_pos hm]
    have hk : isKey G k := by
      simp only [List.any_eq_true, decide_eq_true_eq] at hm
      obtain ⟨x, hx, rfl⟩ := hm
      exact List.mem_map_of_mem hx
    exact ⟨h, fun y => ⟨.inl, fun q => q.elim id fun e => e ▸ hk⟩, fun _ _ => Iff.rfl, fun _ => rfl, Nat.le_succ _⟩
  · rw [if_neg hm]
    have hk : ¬ isKey G k := fun hk => hm (by
      obtain ⟨x, hx, rfl⟩ := List.mem_map.mp hk
      simp only [List.any_eq_true, decide_eq_true_eq]
      exact ⟨x, hx, rfl⟩)
    have hsk : skel (G ++ [(k, 0, [])]) = skel G ++ [(k, [])] := by simp [skel]
    have hkey : ∀ y, isKey (G ++ [(k, 0, [])]) y ↔ isKey G y ∨ y = k := fun y => by simp [isKey]
    have hnp : ∀ y, npAt (G ++ [(k, 0, [])]) y = npAt G y := fun y => by
      unfold npAt
      rw [List.find?_append]
      cases hf : G.find? (fun x => x.1 = y) with
      | some x => rfl
      | none =>
        by_cases e : k = y
        · simp [e]
        · simp [e]
    refine ⟨⟨?_, fun y hy => ?_, fun x hx y hy => ?_⟩, hkey, fun p y => ?_, hnp, by simp [tot]⟩
    · rw [List.map_append, List.nodup_append]
      exact ⟨h.nd, by simp, fun a ha b hb e => by simp at hb; exact hk (by rw [← hb, ← e]; exact ha)⟩
    · rw [hnp, hsk]
      have hc : cnt (skel G ++ [(k, [])]) (fun _ => true) y = cnt (skel G) (fun _ => true) y := by simp [cnt, cn]
      rw [hc]
      rcases (hkey y).mp hy with hy | rfl
      · exact h.np y hy
      · have h1 : npAt G y = 0 := by
          unfold npAt
          cases hf : G.find? (fun x => x.1 = y) with
          | none => rfl
          | some x =>
            have := List.find?_some hf
            exact absurd (by simp at this; rw [← this]; exact List.mem_map_of_mem (List.mem_of_find?_eq_some hf)) hk
        have h2 : cnt (skel G) (fun _ => true) y = 0 := cnt_zero.mpr fun x hx _ hm => hk (h.inn x hx y hm)
        rw [h1, h2, hδ hk]; rfl
    · rw [hsk] at hx
      rcases List.mem_append.mp hx with hx | hx
      · exact (hkey y).mpr (.inl (h.inn x hx y hy))
      · rw [List.mem_singleton.mp hx] at hy; cases hy
    · unfold Edge
      rw [hsk]
      constructor
      · rintro ⟨x, hx, e, hy⟩
        rcases List.mem_append.mp hx with hx | hx
        · exact ⟨x, hx, e, hy⟩
        · rw [List.mem_singleton.mp hx] at hy; cases hy
      · rintro ⟨x, hx, e, hy⟩
        exact ⟨x, List.mem_append_left _ hx, e, hy⟩
theorem bump_spec {G : Gr} {k : Str} {c : Int} : (∀ y, isKey (bump k c G) y ↔ isKey G y) ∧ skel (bump k c G) = skel G ∧ tot (bump k c G) = tot G := by
  refine ⟨fun y => by unfold isKey; rw [key_skel skel_bump], skel_bump, ?_⟩
  have e : ∀ G : Gr, tot G = ((skel G).map fun x => x.2.length + 1).sum := fun G => by simp [tot, skel, Function.comp_def]
  rw [e, skel_bump, ← e]
theorem add0 {G : Gr} (h : Grown G) (k : Str) : Grown (addG k [] G) ∧ (∀ y, isKey (addG k [] G) y ↔ isKey G y ∨ y = k) ∧ (∀ p y, Edge (addG k [] G) p y ↔ Edge G p y) ∧ tot (addG k [] G) ≤ tot G + 3 := by
  obtain ⟨t1, t2, t3, t4, t5⟩ := touch_spec h k (fun _ => rfl)
  have e : addG k [] G = bump k 0 (touch k G) := rfl
  rw [e]
  obtain ⟨b1, b2, b3⟩ := bump_spec (G := touch k G) (k := k) (c := 0)
  refine ⟨⟨?_, fun y hy => ?_, fun x hx y hy => ?_⟩, fun y => (b1 y).trans (t2 y), fun p y => ?_, by omega⟩
  · rw [key_skel b2]; exact t1.nd
  · rw [np_bump ((b1 y).mp hy), b2]
    have := t1.np y ((b1 y).mp hy)
    split <;> omega
  · rw [b2] at hx; exact (b1 y).mpr (t1.inn x hx y hy)
  · unfold Edge; rw [b2]; exact t3 p y
theorem cnt_snoc {k p y : Str} : ∀ {sk : List (Str × List Str)}, (sk.map (·.1)).Nodup → p ∈ sk.map (·.1) → cnt (sk.map fun x => if x.1 = p then (x.1, x.2 ++ [k]) else x) (fun _ => true) y = cnt sk (fun _ => true) y + (if k = y then 1 else 0)
  | [], _, h => nomatch h
  | x :: sk, hn, h => by
    rw [List.map_cons, List.nodup_cons] at hn
    have hcn : ∀ l : List Str, cn y (l ++ [k]) = cn y l + (if k = y then 1 else 0) := by
      intro l
      induction l with
      | nil => simp [cn]
      | cons z l ih => simp only [List.cons_append, cn, ih]; omega
    simp only [cnt, List.map_cons, List.sum_cons, if_true]
    by_cases e : x.1 = p
    · have hid : (sk.map fun x => if x.1 = p then (x.1, x.2 ++ [k]) else x) = sk := by
        conv => rhs; rw [← List.map_id sk]
        refine List.map_congr_left fun z hz => ?_
        have : z.1 ≠ p := fun e2 => hn.1 (by rw [e, ← e2]; exact List.mem_map_of_mem (f := (·.1)) hz)
        simp [this]
      rw [hid, if_pos e, hcn]; omega
    · have hp : p ∈ sk.map (·.1) := by
        rcases List.mem_cons.mp h with h | h
        · exact absurd h.symm e
        · exact h
      have ih := cnt_snoc (k := k) (y := y) hn.2 hp
      simp only [cnt, if_true] at ih
      rw [if_neg e, ih]; omega
theorem succs_skel {G : Gr} {p k : Str} : skel (succs p k G) = (skel G).map fun x => if x.1 = p then (x.1, x.2 ++ [k]) else x := by
  unfold skel succs
  rw [List.map_map, List.map_map]
  refine List.map_congr_left fun x _ => ?_
  simp only [Function.comp]; split <;> rfl
theorem np_succs {G : Gr} {p k y : Str} (hy : isKey G y) : npAt (succs p k G) y = npAt G y := by
  obtain ⟨x, hx, rfl⟩ := find_key hy
  unfold npAt succs
  rw [find_map (fun x => by split <;> rfl), hx]
  by_cases e : x.1 = p <;> simp [e]
theorem add1 {G : Gr} (h : Grown G) (k p : Str) : Grown (addG k [p] G) ∧ (∀ y, isKey (addG k [p] G) y ↔ isKey G y ∨ y = k ∨ y = p) ∧ (∀ q y, Edge (addG k [p] G) q y ↔ Edge G q y ∨ (q = p ∧ y = k)) ∧ tot (addG k [p] G) ≤ tot G + 3 := by
  obtain ⟨t1, t2, t3, t4, t5⟩ := touch_spec h k (fun _ => rfl)
  have e : addG k [p] G = succs p k (touch p (bump k 1 (touch k G))) := rfl
  rw [e]
  obtain ⟨b1, b2, b3⟩ := bump_spec (G := touch k G) (k := k) (c := 1)
  have hb : GrownD (fun y => if y = k then 1 else 0) (bump k 1 (touch k G)) := by
    refine ⟨?_, fun y hy => ?_, fun x hx y hy => ?_⟩
    · rw [key_skel b2]; exact t1.nd
    · rw [np_bump ((b1 y).mp hy), b2, t1.np y ((b1 y).mp hy)]; simp
    · rw [b2] at hx; exact (b1 y).mpr (t1.inn x hx y hy)
  obtain ⟨u1, u2, u3, u4, u5⟩ := touch_spec hb p (fun hp => if_neg fun e => hp (by rw [e]; exact (b1 k).mpr ((t2 k).mpr (.inr rfl))))
  generalize touch p (bump k 1 (touch k G)) = G2 at u1 u2 u3 u4 u5
  have hkp : isKey G2 p := (u2 p).mpr (.inr rfl)
  have hkk : isKey G2 k := (u2 k).mpr (.inl ((b1 k).mpr ((t2 k).mpr (.inr rfl))))
  have hkeys : ∀ y, isKey (succs p k G2) y ↔ isKey G2 y := fun y => by
    unfold isKey
    rw [← skel_keys, succs_skel, List.map_map, ← skel_keys G2]
    have : ((fun x : Str × List Str => x.1) ∘ fun x : Str × List Str => if x.1 = p then (x.1, x.2 ++ [k]) else x) = fun x => x.1 := by funext x; simp only [Function.comp]; split <;> rfl
    rw [this]
  have hnd2 : ((skel G2).map (·.1)).Nodup := by rw [skel_keys]; exact u1.nd
  have hGy : ∀ y, isKey G2 y ↔ isKey G y ∨ y = k ∨ y = p := fun y => by
    rw [u2 y, b1 y, t2 y]
    constructor
    · rintro ((h | h) | h)
      · exact .inl h
      · exact .inr (.inl h)
      · exact .inr (.inr h)
    · rintro (h | h | h)
      · exact .inl (.inl h)
      · exact .inl (.inr h)
      · exact .inr h
  refine ⟨⟨?_, fun y hy => ?_, fun x hx y hy => ?_⟩, fun y => (hkeys y).trans (hGy y), fun q y => ?_, ?_⟩
  · have : (succs p k G2).map (·.1) = G2.map (·.1) := by
      unfold succs
      rw [List.map_map]
      refine List.map_congr_left fun x _ => ?_
      simp only [Function.comp]; split <;> rfl
    rw [this]; exact u1.nd
  · have hy2 := (hkeys y).mp hy
    rw [np_succs hy2, succs_skel, cnt_snoc hnd2 (by rw [skel_keys]; exact hkp), u1.np y hy2]
    by_cases e : y = k
    · simp [e]
    · have : ¬ k = y := fun h => e h.symm
      simp [e, this]
  · rw [succs_skel] at hx
    obtain ⟨z, hz, rfl⟩ := List.mem_map.mp hx
    refine (hkeys y).mpr ?_
    split at hy
    · rcases List.mem_append.mp hy with hy | hy
      · exact u1.inn z hz y hy
      · rw [List.mem_singleton.mp hy]; exact hkk
    · exact u1.inn z hz y hy
  · have h3 : Edge G2 q y ↔ Edge G q y := by
      rw [u3 q y]
      unfold Edge
      rw [b2]
      exact t3 q y
    rw [← h3]
    unfold Edge
    rw [succs_skel]
    constructor
    · rintro ⟨x, hx, hq, hy⟩
      obtain ⟨z, hz, rfl⟩ := List.mem_map.mp hx
      by_cases e : z.1 = p
      · rw [if_pos e] at hq hy
        rcases List.mem_append.mp hy with hy | hy
        · exact .inl ⟨z, hz, hq, hy⟩
        · exact .inr ⟨by rw [← hq]; exact e, List.mem_singleton.mp hy⟩
      · rw [if_neg e] at hq hy
        exact .inl ⟨z, hz, hq, hy⟩
    · rintro (⟨z, hz, hq, hy⟩ | ⟨rfl, rfl⟩)
      · refine ⟨_, List.mem_map_of_mem hz, ?_⟩
        by_cases e : z.1 = p
        · rw [if_pos e]; exact ⟨hq, List.mem_append_left _ hy⟩
        · rw [if_neg e]; exact ⟨hq, hy⟩
      · have : q ∈ (skel G2).map (·.1) := by rw [skel_keys]; exact hkp
        obtain ⟨z, hz, e⟩ := List.mem_map.mp this
        refine ⟨_, List.mem_map_of_mem hz, ?_⟩
        rw [if_pos e]
        exact ⟨e, List.mem_append_right _ (.head _)⟩
  · have ht : ∀ (sk : List (Str × List Str)), (sk.map (·.1)).Nodup → ((sk.map fun x => if x.1 = p then (x.1, x.2 ++ [k]) else x).map fun x => x.2.length + 1).sum ≤ (sk.map fun x => x.2.length + 1).sum + 1 := by
      intro sk
      induction sk with
      | nil => intro _; simp
      | cons x sk ih =>
        intro hn
        rw [List.map_cons, List.nodup_cons] at hn
        simp only [List.map_cons, List.sum_cons]
        by_cases e : x.1 = p
        · have hid : (sk.map fun x => if x.1 = p then (x.1, x.2 ++ [k]) else x) = sk := by
            conv => rhs; rw [← List.map_id sk]
            refine List.map_congr_left fun z hz => ?_
            have : z.1 ≠ p := fun e2 => hn.1 (by rw [e, ← e2]; exact List.mem_map_of_mem (f := (·.1)) hz)
            simp [this]
          rw [hid, if_pos e]; simp; omega
        · rw [if_neg e]
          have := ih hn.2
          omega
    have e2 : ∀ G : Gr, tot G = ((skel G).map fun x => x.2.length + 1).sum := fun G => by simp [tot, skel, Function.comp_def]
    have := ht (skel G2) hnd2
    rw [e2, succs_skel]
    rw [e2 G2] at u5
    omega
end Mine
end

section
open PySem PySem.W PyProof.Rows PySem.Calls PySem.Builtin PySem.Builtin.Re
namespace Mine
theorem slot_sub : Slot "re.Pattern" "sub" "re.Pattern.sub" :=
  .of (owner := "re.Pattern") (n := "sub") (by rw [typeLookup_type, builtinLookup_eq_fast]; kernel_rfl) (by decide +kernel) (by decide +kernel) (by decide +kernel)
    (by first | exact .inl (by decide +kernel) | exact .inr (by decide +kernel)) (by rw [isSubtype_type]; kernel_rfl)
theorem type_sub : typeOf (.builtin "re.Pattern.sub") = pure (.type "method_descriptor") := by show builtinType _ = _; rw [builtinType_eq_fast]; kernel_rfl
theorem entry_sub : entryFor table "re.Pattern.sub" = some Builtin.«re.Pattern.sub» := entryFor_of_tree (by kernel_rfl)
theorem entry_subloop : entryFor table "re.Pattern.sub.loop" = some Builtin.«re.Pattern.sub.loop» := entryFor_of_tree (by kernel_rfl)
theorem args_sub (a b c : Value) : argsOk "re.Pattern.sub" ⟨[a, b, c], []⟩ := by
  unfold argsOk; kernel_rfl
end Mine
end

section
open PySem PySem.W PyProof.Rows
namespace Mine
theorem fuel {l d e f : Nat} (h : l - d < f + 1) (h1 : d < e) (h2 : e ≤ l) : l - e < f := Nat.lt_of_lt_of_le (Nat.sub_lt_sub_left (Nat.lt_of_lt_of_le h1 h2) h1) (Nat.le_of_lt_succ h)
theorem fuel0 {l p : Nat} (h : p ≤ l) : l - p < l + 1 - p := Nat.sub_lt_sub_right h (Nat.lt_succ_self l)
theorem sub_step {b s : Nat} (h : s < b) : b - s = (b - (s + 1)) + 1 := by rw [Nat.sub_add_eq]; exact (Nat.sub_add_cancel (Nat.sub_pos_of_lt h)).symm
theorem eq_of_no {s l : Nat} (h : s ≤ l) (n : ¬ s < l) : s = l := Nat.le_antisymm h (Nat.le_of_not_lt n)
theorem part_le {a b c n : Nat} (h : b ≤ n) : min a (b - c) ≤ n := Nat.le_trans (Nat.min_le_right _ _) (Nat.le_trans (Nat.sub_le _ _) h)
theorem sub_three {l p b e : Nat} (h1 : p ≤ b) (h2 : b ≤ e) (h3 : e ≤ l) : l - p = (b - p) + ((e - b) + (l - e)) := by
  rw [Nat.add_comm (e - b), Nat.sub_add_sub_cancel h3 h2, Nat.add_comm, Nat.sub_add_sub_cancel (Nat.le_trans h2 h3) h1]
end Mine
end

section
open PySem PySem.Sre
namespace Mine
noncomputable def C1 : Array Nat := #[14, 4, 0, 1, 1, 6, 1, 16, 46, 1]
noncomputable def C3 : Array Nat := #[14, 9, 4, 1, 2, 16, 10, 16, 13, 0, 7, 7, 16, 13, 16, 10, 15, 18, 5, 16, 10, 15, 13, 11, 16, 13, 5, 5, 0, 16, 10, 1, 15, 2, 0, 1]
noncomputable def Go (k : Nat) (m m' : M) : Prop := ∀ j, M.runFor (k + j) m = M.runFor j m'
theorem Go.one {m : M} (h : m.outcome = none) : Go 1 m m.step := fun j => by
  rw [Nat.add_comm]; show M.runFor (j + 1) m = _; simp [M.runFor, h]
theorem Go.trans {k l : Nat} {a b c : M} (x : Go k a b) (y : Go l b c) : Go (k + l) a c := fun j => by rw [Nat.add_assoc, x, y]
theorem Go.refl {m : M} : Go 0 m m := fun j => by rw [Nat.zero_add]

noncomputable def atS (code text : Array Nat) (lim s pc : Nat) (first must : Bool) (seen : Seen) : M :=
  { code, text, lim, start := s, lastStart := lim, mustAdvance := must, pc := pc, pos := s, handed := s, outermost := first, marks := #[], lastmark := -1, lastindex := -1,
    frames := [{ wait := .nextStart, pc := pc, pos := s, outermost := first }], weight := 1, seen }
noncomputable def AtLine (text : Array Nat) (s : Nat) : Bool := s == 0 || text.getD (s - 1) 0 == 10

section
variable {text : Array Nat} {lim s : Nat} {first must : Bool} {seen : Seen}
theorem c1_at : (atS C1 text lim s 5 first must seen).step =
    if AtLine text s = true then { atS C1 text lim s 5 first must ((seen.add 6).add 44) with pc := 7 } else { atS C1 text lim s 5 first must ((seen.add 6).add 44) with answer := some false } := rfl
theorem c1_lit (h : s < lim) (hc : text.getD s 0 = 46) : ({ atS C1 text lim s 5 first must seen with pc := 7 } : M).step = { atS C1 text lim s 5 first must (seen.add 16) with pc := 9, pos := s + 1 } := by
  have h1 : ¬ s ≥ lim := by omega
  show (if s ≥ lim then _ else _) = _
  rw [if_neg h1]
  show (match (Except.ok (text.getD s 0 == 46, seen.add 16) : Except String (Bool × Seen)) with | .error _ => _ | .ok (false, _) => _ | .ok (true, _) => _) = _
  rw [hc]
  rfl
theorem c1_lit_no (h : s < lim) (hc : text.getD s 0 ≠ 46) : ({ atS C1 text lim s 5 first must seen with pc := 7 } : M).step = { atS C1 text lim s 5 first must (seen.add 16) with pc := 7, answer := some false } := by
  have h1 : ¬ s ≥ lim := by omega
  show (if s ≥ lim then _ else _) = _
  rw [if_neg h1]
  show (match (Except.ok (text.getD s 0 == 46, seen.add 16) : Except String (Bool × Seen)) with | .error _ => _ | .ok (false, _) => _ | .ok (true, _) => _) = _
  rw [beq_eq_false_iff_ne.mpr hc]
  rfl
theorem c1_lit_end (h : lim ≤ s) : ({ atS C1 text lim s 5 first must seen with pc := 7 } : M).step = { atS C1 text lim s 5 first must (seen.add 16) with pc := 7, answer := some false } := by
  show (if s ≥ lim then _ else _) = _
  rw [if_pos h]; rfl
theorem c1_succ : ({ atS C1 text lim s 5 first must seen with pc := 9, pos := s + 1 } : M).step = { atS C1 text lim s 5 first must (seen.add 1) with pc := 9, pos := s + 1, handed := s + 1, answer := some true } := by
  show (if (first && ((false && s + 1 != lim) || (must && s + 1 == s))) = true then _ else _) = _
  have : (s + 1 == s) = false := by simp
  rw [this]
  simp only [Bool.false_and, Bool.and_false, Bool.or_false, Bool.false_eq_true, if_false]
  rfl
theorem won1 {code : Array Nat} {pc pos p hd : Nat} : ({ atS code text lim s p first must seen with pc := pc, pos := pos, handed := hd, answer := some true } : M).step = { atS code text lim s p first must seen with handed := hd, answer := some true, frames := [], weight := 0 } := rfl
theorem won2 {code : Array Nat} {p hd : Nat} : ({ atS code text lim s p first must seen with handed := hd, answer := some true, frames := [], weight := 0 } : M).step = { atS code text lim s p first must seen with handed := hd, answer := some true, frames := [], weight := 0, outcome := some .matched } := rfl
theorem c1_fail {pc : Nat} : ({ atS C1 text lim s 5 first must seen with pc := pc, answer := some false } : M).step = if s < lim then atS C1 text lim (s + 1) 5 false false seen else { atS C1 text lim s 5 first must seen with answer := some false, frames := [], weight := 0 } := rfl
theorem lost {code : Array Nat} {p hd : Nat} : ({ atS code text lim s p first must seen with handed := hd, answer := some false, frames := [], weight := 0 } : M).step = { atS code text lim s p first must seen with handed := hd, answer := some false, frames := [], weight := 0, outcome := some .failed } := rfl

noncomputable def Found (m : M) (r : Option (Nat × Nat)) : Prop := match r with
  | some (b, e) => m.outcome = some .matched ∧ m.start = b ∧ m.handed = e
  | none => m.outcome = some .failed
noncomputable def find1 (text : Array Nat) (lim : Nat) : (fuel s : Nat) → Option (Nat × Nat)
  | 0, _ => none
  | f + 1, s => if AtLine text s && decide (s < lim) && text.getD s 0 == 46 then some (s, s + 1) else if s < lim then find1 text lim f (s + 1) else none
theorem Go.of {m m' : M} (e : m.step = m') (h : m.outcome = none := by rfl) : Go 1 m m' := e ▸ Go.one h
theorem c1_run : ∀ (f s : Nat) (first must : Bool) (seen : Seen), s ≤ lim → lim - s < f → ∃ k m', k ≤ 4 * f + 4 ∧ Go k (atS C1 text lim s 5 first must seen) m' ∧ Found m' (find1 text lim f s)
  | 0, s, first, must, seen, _, h => absurd h (Nat.not_lt_zero _)
  | f + 1, s, first, must, seen, hs, h => by
    have fail : ∀ (pc : Nat) (sn : Seen) (k₀ : Nat), k₀ ≤ 2 → Go k₀ (atS C1 text lim s 5 first must seen) { atS C1 text lim s 5 first must sn with pc := pc, answer := some false } →
        (AtLine text s && decide (s < lim) && text.getD s 0 == 46) = false → ∃ k m', k ≤ 4 * (f + 1) + 4 ∧ Go k (atS C1 text lim s 5 first must seen) m' ∧ Found m' (find1 text lim (f + 1) s) := by
      intro pc sn k₀ hk g hn
      rw [find1, hn]
      by_cases hl : s < lim
      · obtain ⟨k, m', hk', g', hf⟩ := c1_run f (s + 1) false false sn (by omega) (by omega)
        refine ⟨k₀ + (1 + k), m', by omega, g.trans ((Go.of (c1_fail.trans (if_pos hl))).trans g'), ?_⟩
        simpa [hl] using hf
      · refine ⟨k₀ + (1 + 1), _, by omega, g.trans ((Go.of (c1_fail.trans (if_neg hl))).trans (Go.of lost)), ?_⟩
        simp [hl, Found]
    by_cases hA : AtLine text s = true
    · have g1 := Go.of ((c1_at (text := text) (lim := lim) (s := s) (first := first) (must := must) (seen := seen)).trans (if_pos hA))
      by_cases hl : s < lim
      · by_cases hc : text.getD s 0 = 46
        · refine ⟨1 + (1 + (1 + (1 + 1))), _, by omega, g1.trans ((Go.of (c1_lit hl hc)).trans ((Go.of c1_succ).trans ((Go.of won1).trans (Go.of won2)))), ?_⟩
          rw [find1, hA, hc, decide_eq_true hl]
          exact ⟨rfl, rfl, rfl⟩
        · exact fail 7 _ (1 + 1) (by omega) (g1.trans (Go.of (c1_lit_no hl hc))) (by rw [beq_eq_false_iff_ne.mpr hc, Bool.and_false])
      · exact fail 7 _ (1 + 1) (by omega) (g1.trans (Go.of (c1_lit_end (by omega)))) (by simp [hl])
    · exact fail 5 _ 1 (by omega) (Go.of (c1_at.trans (if_neg hA))) (by simp [hA])

noncomputable def st (text : Array Nat) (lim s : Nat) (must : Bool) (pc pos hd : Nat) (outer : Bool) (fr : List Sre.Frame) (wt : Nat) (ans : Option Bool) (seen : Seen) : M :=
  { code := C3, text, lim, start := s, lastStart := lim, mustAdvance := must, pc, pos, handed := hd, outermost := outer, marks := #[], lastmark := -1, lastindex := -1, frames := fr, weight := wt, answer := ans, seen }
noncomputable def f0 (s : Nat) (first : Bool) : Sre.Frame := { wait := .nextStart, pc := 10, pos := s, outermost := first }
noncomputable def fB (s : Nat) (first : Bool) (alt : Nat) : Sre.Frame := { wait := .nextBranch, pc := alt, pos := s, outermost := first, kept := { lastmark := -1, lastindex := -1, whole := false, marks := #[] } }
noncomputable def fN (s : Nat) (first : Bool) : Sre.Frame := { wait := .lookNot, pc := 26, pos := s + 1, outermost := first, kept := { lastmark := -1, lastindex := -1, whole := false, marks := #[] } }
section
variable {hd wt : Nat} {fr : List Sre.Frame} {outer : Bool} {pos : Nat}
theorem c3_branch : (st text lim s must 10 s hd outer fr 1 none seen).step = st text lim s must 12 s s outer (fB s outer 11 :: fr) 2 none (seen.add 7) := rfl
theorem c3_alt2 : (st text lim s must pos hd wt outer (fB s first 11 :: fr) 2 (some false) seen).step = st text lim s must 19 s s first (fB s first 18 :: fr) 2 none seen := rfl
theorem c3_alt3 : (st text lim s must pos hd wt outer (fB s first 18 :: fr) 2 (some false) seen).step = st text lim s must 24 s s first (fB s first 23 :: fr) 2 none seen := rfl
theorem c3_jump1 : (st text lim s must 16 pos hd outer fr wt none seen).step = st text lim s must 35 pos hd outer fr wt none (seen.add 15) := rfl
theorem c3_jump2 : (st text lim s must 21 pos hd outer fr wt none seen).step = st text lim s must 35 pos hd outer fr wt none (seen.add 15) := rfl
theorem c3_jump3 : (st text lim s must 32 pos hd outer fr wt none seen).step = st text lim s must 35 pos hd outer fr wt none (seen.add 15) := rfl
theorem c3_not : (st text lim s must 26 (s + 1) hd outer fr 2 none seen).step = st text lim s must 29 (s + 1) (s + 1) false (fN s outer :: fr) 3 none (seen.add 5) := rfl
theorem c3_notBack : (st text lim s must pos hd wt outer (fN s first :: fr) 3 (some false) seen).step = st text lim s must 32 (s + 1) wt first fr 2 none seen := rfl
theorem c3_up : (st text lim s must pos hd wt outer (fB s first 11 :: fr) 2 (some true) seen).step = st text lim s must 11 s wt first fr 1 (some true) seen := rfl
theorem c3_up2 : (st text lim s must pos hd wt outer (fB s first 18 :: fr) 2 (some true) seen).step = st text lim s must 18 s wt first fr 1 (some true) seen := rfl
theorem c3_up3 : (st text lim s must pos hd wt outer (fB s first 23 :: fr) 2 (some true) seen).step = st text lim s must 23 s wt first fr 1 (some true) seen := rfl
theorem c3_top : (st text lim s must pos hd wt outer [f0 s first] 1 (some true) seen).step = st text lim s must 10 s wt first [] 0 (some true) seen := rfl
theorem c3_end : (st text lim s must pos hd wt outer [] 0 (some true) seen).step = { st text lim s must pos hd wt outer [] 0 (some true) seen with outcome := some .matched } := rfl
theorem c3_succ (h : pos ≠ s) : (st text lim s must 35 pos hd outer fr wt none seen).step = st text lim s must 35 pos pos outer fr wt (some true) (seen.add 1) := by
  show (if (outer && ((false && pos != lim) || (must && pos == s))) = true then _ else _) = _
  rw [beq_eq_false_iff_ne.mpr h]
  simp only [Bool.false_and, Bool.and_false, Bool.or_false, Bool.false_eq_true, if_false]
  rfl
theorem acc_lit {code : Array Nat} {i c : Nat} {sn : Seen} (e : ops[code.getD i 0]? = some .LITERAL) : accepts code i c sn = .ok (c == code.getD (i + 1) 0, sn) := by
  unfold accepts; rw [e]
theorem wid_lit {code : Array Nat} {i : Nat} (e : ops[code.getD i 0]? = some .LITERAL) : itemWidth code i = 2 := by
  unfold itemWidth; rw [e]
theorem lit_ok {m : M} (h0 : m.outcome = none) (ha : m.answer = none) (hp : m.pc < m.code.size) (ho : m.code.getD m.pc 0 = 16) (hl : m.pos < m.lim) (hc : m.text.getD m.pos 0 = m.code.getD (m.pc + 1) 0) :
    m.step = { m with seen := m.seen.add 16, pc := m.pc + 2, pos := m.pos + 1 } := by
  obtain ⟨code, text, lim, start, lastStart, wholeText, mustAdvance, pc, pos, handed, outermost, marks, lastmark, lastindex, loops, inner, frames, weight, answer, seen, outcome⟩ := m
  dsimp only at h0 ha hp ho hl hc
  subst h0 ha
  have e : ops[code.getD pc 0]? = some .LITERAL := by rw [ho]; rfl
  show (if pc < code.size then M.exec _ else _) = _
  rw [if_pos hp]
  unfold M.exec
  simp only [M.word, Nat.add_zero, e]
  rw [if_neg (by omega : ¬ pos ≥ lim)]
  simp only [acc_lit e, wid_lit e, hc, beq_self_eq_true, ho]
theorem lit_no {m : M} (h0 : m.outcome = none) (ha : m.answer = none) (hp : m.pc < m.code.size) (ho : m.code.getD m.pc 0 = 16) (hc : m.lim ≤ m.pos ∨ m.text.getD m.pos 0 ≠ m.code.getD (m.pc + 1) 0) :
    m.step = { m with seen := m.seen.add 16, answer := some false } := by
  obtain ⟨code, text, lim, start, lastStart, wholeText, mustAdvance, pc, pos, handed, outermost, marks, lastmark, lastindex, loops, inner, frames, weight, answer, seen, outcome⟩ := m
  dsimp only at h0 ha hp ho hc
  subst h0 ha
  have e : ops[code.getD pc 0]? = some .LITERAL := by rw [ho]; rfl
  show (if pc < code.size then M.exec _ else _) = _
  rw [if_pos hp]
  unfold M.exec
  simp only [M.word, Nat.add_zero, e]
  by_cases hl : pos ≥ lim
  · rw [if_pos hl]; simp only [M.say, ho]
  · rw [if_neg hl]
    have hc' : text.getD pos 0 ≠ code.getD (pc + 1) 0 := hc.resolve_left (by omega)
    simp only [acc_lit e, beq_eq_false_iff_ne.mpr hc', M.say, ho]
noncomputable def eolEnd (text : Array Nat) (lim s : Nat) : Nat := if text.getD s 0 == 13 && decide (s + 1 < lim) && text.getD (s + 1) 0 == 10 then s + 2 else s + 1
theorem stOk {pc : Nat} (hp : pc < C3.size) (ho : C3.getD pc 0 = 16) (hl : pos < lim) (hc : text.getD pos 0 = C3.getD (pc + 1) 0) :
    (st text lim s must pc pos hd outer fr wt none seen).step = st text lim s must (pc + 2) (pos + 1) hd outer fr wt none (seen.add 16) := lit_ok (m := st text lim s must pc pos hd outer fr wt none seen) rfl rfl hp ho hl hc
theorem stNo {pc : Nat} (hp : pc < C3.size) (ho : C3.getD pc 0 = 16) (hc : lim ≤ pos ∨ text.getD pos 0 ≠ C3.getD (pc + 1) 0) :
    (st text lim s must pc pos hd outer fr wt none seen).step = st text lim s must pc pos hd outer fr wt (some false) (seen.add 16) := lit_no (m := st text lim s must pc pos hd outer fr wt none seen) rfl rfl hp ho hc
theorem c3_run (hs : s < lim) (hc : text.getD s 0 = 10 ∨ text.getD s 0 = 13) : ∃ k m', k ≤ 20 ∧ Go k (st text lim s must 10 s s first [f0 s first] 1 none seen) m' ∧ Found m' (some (s, eolEnd text lim s)) := by
  rcases hc with hc | hc
  · refine ⟨1 + (1 + (1 + (1 + (1 + (1 + (1 + (1 + 1))))))), _, by omega, (Go.of c3_branch).trans ((Go.of (stNo (by decide) (by decide) (.inr (by rw [hc]; decide)))).trans ((Go.of c3_alt2).trans ((Go.of (stOk (by decide) (by decide) hs (by rw [hc]; decide))).trans
      ((Go.of c3_jump2).trans ((Go.of (c3_succ (by omega))).trans ((Go.of c3_up2).trans ((Go.of c3_top).trans (Go.of c3_end)))))))), ?_⟩
    have : eolEnd text lim s = s + 1 := by unfold eolEnd; rw [hc]; rfl
    rw [this]; exact ⟨rfl, rfl, rfl⟩
  · by_cases h2 : s + 1 < lim ∧ text.getD (s + 1) 0 = 10
    · refine ⟨1 + (1 + (1 + (1 + (1 + (1 + (1 + 1)))))), _, by omega, (Go.of c3_branch).trans ((Go.of (stOk (by decide) (by decide) hs (by rw [hc]; decide))).trans ((Go.of (stOk (by decide) (by decide) h2.1 (by rw [h2.2]; decide))).trans
        ((Go.of c3_jump1).trans ((Go.of (c3_succ (by omega))).trans ((Go.of c3_up).trans ((Go.of c3_top).trans (Go.of c3_end))))))), ?_⟩
      have : eolEnd text lim s = s + 2 := by unfold eolEnd; rw [hc, h2.2, decide_eq_true h2.1]; rfl
      rw [this]; exact ⟨rfl, rfl, rfl⟩
    · have hno : lim ≤ s + 1 ∨ text.getD (s + 1) 0 ≠ 10 := by
        by_cases h3 : s + 1 < lim
        · exact .inr fun e => h2 ⟨h3, e⟩
        · exact .inl (by omega)
      refine ⟨1 + (1 + (1 + (1 + (1 + (1 + (1 + (1 + (1 + (1 + (1 + (1 + (1 + (1 + 1))))))))))))), _, by omega, (Go.of c3_branch).trans ((Go.of (stOk (by decide) (by decide) hs (by rw [hc]; decide))).trans ((Go.of (stNo (by decide) (by decide) hno)).trans
        ((Go.of c3_alt2).trans ((Go.of (stNo (by decide) (by decide) (.inr (by rw [hc]; decide)))).trans ((Go.of c3_alt3).trans ((Go.of (stOk (by decide) (by decide) hs (by rw [hc]; decide))).trans ((Go.of c3_not).trans
        ((Go.of (stNo (by decide) (by decide) hno)).trans ((Go.of c3_notBack).trans ((Go.of c3_jump3).trans ((Go.of (c3_succ (by omega))).trans ((Go.of c3_up3).trans ((Go.of c3_top).trans (Go.of c3_end)))))))))))))), ?_⟩
      have : eolEnd text lim s = s + 1 := by
        unfold eolEnd; rw [hc]
        rcases hno with h | h
        · rw [decide_eq_false (by omega : ¬ s + 1 < lim)]; rfl
        · rw [beq_eq_false_iff_ne.mpr h, Bool.and_false]; rfl
      rw [this]; exact ⟨rfl, rfl, rfl⟩
noncomputable def find3 (text : Array Nat) (lim : Nat) : (fuel s : Nat) → Option (Nat × Nat)
  | 0, _ => none
  | f + 1, s => if s ≥ lim then none else if text.getD s 0 == 10 || text.getD s 0 == 13 then some (s, eolEnd text lim s) else find3 text lim f (s + 1)
theorem inSet3 (c : Nat) (sn : Seen) : ∃ sn', inSet C3 c C3.size 5 true sn = .ok (c == 10 || c == 13, sn') := by
  by_cases h : c = 10
  · subst h; exact ⟨_, rfl⟩
  · by_cases h' : c = 13
    · subst h'; exact ⟨_, rfl⟩
    · refine ⟨((sn.add 16).add 16).add 0, ?_⟩
      show (if (c == 10) = true then _ else if (c == 13) = true then _ else _) = _
      rw [beq_eq_false_iff_ne.mpr h, beq_eq_false_iff_ne.mpr h']
      rfl
theorem admitted3 (m : M) (hm : m.code = C3) (hmt : m.text = text) (hml : m.lim = lim) : ∀ (f s : Nat) (sn : Seen), ∃ sn', M.admitted m f s sn = .ok ((find3 text lim f s).map (·.1), sn')
  | 0, _, sn => ⟨sn, rfl⟩
  | f + 1, s, sn => by
    unfold M.admitted find3
    rw [hml]
    by_cases h : s ≥ lim
    · rw [if_pos h, if_pos h]; exact ⟨_, rfl⟩
    · rw [if_neg h, if_neg h, hm, hmt]
      obtain ⟨sn', e⟩ := inSet3 (text.getD s 0) sn
      rw [e]
      cases hb : (text.getD s 0 == 10 || text.getD s 0 == 13)
      · exact admitted3 m hm hmt hml f (s + 1) sn'
      · exact ⟨_, rfl⟩
end
theorem search1 (pos : Nat) (must : Bool) (hp : pos ≤ lim) : ∃ k m', k ≤ 4 * (lim + 1) + 4 ∧ Go k (forSearch C1 text 0 pos lim must) m' ∧ Found m' (find1 text lim (lim + 1 - pos) pos) := by
  by_cases h : pos < lim
  · obtain ⟨k, m', hk, g, f⟩ := c1_run (text := text) (lim := lim) (lim + 1 - pos) pos true must (({} : Seen).add 14) hp (by omega)
    refine ⟨k, m', by omega, ?_, f⟩
    have e : forSearch C1 text 0 pos lim must = atS C1 text lim pos 5 true must (({} : Seen).add 14) := by
      show (if (decide (pos > lim) || decide (lim - pos < 1)) = true then _ else _) = _
      rw [if_neg (by simp; omega)]
      rfl
    rw [e]; exact g
  · have e : forSearch C1 text 0 pos lim must = { atS C1 text lim pos 5 true must (({} : Seen).add 14) with frames := [], weight := 0, lastStart := 0, answer := some false } := by
      show (if (decide (pos > lim) || decide (lim - pos < 1)) = true then _ else _) = _
      rw [if_pos (by simp; omega)]
      rfl
    rw [e]
    refine ⟨1, _, by omega, Go.of rfl, ?_⟩
    have : lim + 1 - pos = 0 + 1 := by omega
    rw [this, find1]
    have h2 : ¬ pos < lim := h
    simp only [h2, decide_false, Bool.and_false, Bool.false_and, Bool.false_eq_true, if_false]
    rfl
theorem find3_some : ∀ {f s p e : Nat}, find3 text lim f s = some (p, e) → p < lim ∧ (text.getD p 0 = 10 ∨ text.getD p 0 = 13) ∧ e = eolEnd text lim p
  | 0, _, _, _, h => nomatch h
  | f + 1, s, p, e, h => by
    unfold find3 at h
    by_cases hs : s ≥ lim
    · rw [if_pos hs] at h; cases h
    · rw [if_neg hs] at h
      cases hb : (text.getD s 0 == 10 || text.getD s 0 == 13)
      · rw [hb] at h; exact find3_some h
      · rw [hb] at h; cases h
        refine ⟨by omega, ?_, rfl⟩
        rcases Bool.or_eq_true_iff.mp hb with q | q
        · exact .inl (eq_of_beq q)
        · exact .inr (eq_of_beq q)
theorem search3 (pos : Nat) (must : Bool) (hp : pos ≤ lim) : ∃ k m', k ≤ 20 ∧ Go k (forSearch C3 text 0 pos lim must) m' ∧ Found m' (find3 text lim (lim + 1 - pos) pos) := by
  by_cases h : pos < lim
  · obtain ⟨sn', ea⟩ := admitted3 (text := text) (lim := lim) (st text lim pos must 10 pos pos true [] 0 none (({} : Seen).add 14)) rfl rfl rfl (lim + 1 - pos) pos (({} : Seen).add 14)
    have e : forSearch C3 text 0 pos lim must = (st text lim pos must 10 pos pos true [] 0 none (({} : Seen).add 14)).attemptFrom pos true := by
      show (if (decide (pos > lim) || decide (lim - pos < 1)) = true then _ else _) = _
      rw [if_neg (by simp; omega)]
      rfl
    rw [e]
    have e2 : (st text lim pos must 10 pos pos true [] 0 none (({} : Seen).add 14)).attemptFrom pos true = (match M.admitted (st text lim pos must 10 pos pos true [] 0 none (({} : Seen).add 14)) (lim + 1 - pos) pos (({} : Seen).add 14) with
        | .ok (some s, seen) => ({ st text lim pos must 10 pos pos true [] 0 none (({} : Seen).add 14) with mustAdvance := false, seen } : M).attemptAt s true
        | .ok (none, seen) => ({ st text lim pos must 10 pos pos true [] 0 none (({} : Seen).add 14) with seen } : M).say false
        | .error why => (st text lim pos must 10 pos pos true [] 0 none (({} : Seen).add 14)).stick why) := rfl
    rw [e2, ea]
    cases hf : find3 text lim (lim + 1 - pos) pos with
    | none => exact ⟨1, _, by omega, Go.of rfl, rfl⟩
    | some pe =>
      obtain ⟨p, e⟩ := pe
      obtain ⟨h1, h2, rfl⟩ := find3_some hf
      exact c3_run (first := true) (must := false) (seen := sn') h1 h2
  · have e : forSearch C3 text 0 pos lim must = { st text lim pos must 10 pos pos true [] 0 (some false) (({} : Seen).add 14) with lastStart := 0 } := by
      show (if (decide (pos > lim) || decide (lim - pos < 1)) = true then _ else _) = _
      rw [if_pos (by simp; omega)]
      rfl
    rw [e]
    refine ⟨1, _, by omega, Go.of rfl, ?_⟩
    have : lim + 1 - pos = 0 + 1 := by omega
    rw [this, find3, if_pos (by omega)]
    rfl
end
end Mine
end

section
open PySem PySem.W PyProof.Rows PySem.Calls PySem.Builtin PySem.Builtin.Re PySem.Sre
namespace Mine
theorem runFor_done {m : M} (h : m.outcome.isSome = true) : ∀ j, M.runFor j m = m
  | 0 => rfl
  | j + 1 => by simp [M.runFor, h]
section
variable {MM : Model} {A : Around} {E : Value → Shared → Prop} {s : Shared}
theorem drive_go : ∀ (turns k : Nat) (m m' : M) {Q : M → Shared → Prop}, Go k m m' → m'.outcome.isSome = true → k ≤ 4 * turns → 0 < turns → Q m' s → wpAny MM A (reDrive turns m) Q E s
  | 0, _, _, _, _, _, _, _, h, _ => absurd h (Nat.lt_irrefl _)
  | turns + 1, k, m, m', Q, g, ho, hk, _, hQ => by
    show wpAny MM A (if (m.runFor reTurnSteps).outcome.isSome = true then pure (m.runFor reTurnSteps) else do rule "sre.turn"; reDrive turns (m.runFor reTurnSteps)) Q E s
    have e4 : reTurnSteps = 4 := rfl
    rw [e4]
    by_cases hb : (m.runFor 4).outcome.isSome = true
    · rw [if_pos hb]
      have e : m.runFor 4 = m' := by
        have a : M.runFor (k + 4) m = m' := (g 4).trans (runFor_done ho 4)
        have b : M.runFor (4 + k) m = m.runFor 4 := by
          have : ∀ j (x : M), M.runFor (4 + j) x = M.runFor j (M.runFor 4 x) := by
            have gen : ∀ i j (x : M), M.runFor (i + j) x = M.runFor j (M.runFor i x) := by
              intro i
              induction i with
              | zero => intro j x; rw [Nat.zero_add]; rfl
              | succ i ih =>
                intro j x
                rw [show i + 1 + j = (i + j) + 1 by omega]
                show (if x.outcome.isSome = true then x else M.runFor (i + j) x.step) = M.runFor j (if x.outcome.isSome = true then x else M.runFor i x.step)
                by_cases hx : x.outcome.isSome = true
                · rw [if_pos hx, if_pos hx, runFor_done hx]
                · rw [if_neg hx, if_neg hx, ih]
            exact gen 4
          rw [this, runFor_done hb]
        rw [Nat.add_comm] at b
        exact b.symm.trans a
      rw [e]; exact wpAny_pure hQ
    · rw [if_neg hb]
      have gen : ∀ i j (x : M), M.runFor (i + j) x = M.runFor j (M.runFor i x) := by
        intro i
        induction i with
        | zero => intro j x; rw [Nat.zero_add]; rfl
        | succ i ih =>
          intro j x
          rw [show i + 1 + j = (i + j) + 1 by omega]
          show (if x.outcome.isSome = true then x else M.runFor (i + j) x.step) = M.runFor j (if x.outcome.isSome = true then x else M.runFor i x.step)
          by_cases hx : x.outcome.isSome = true
          · rw [if_pos hx, if_pos hx, runFor_done hx]
          · rw [if_neg hx, if_neg hx, ih]
      have hk4 : 4 < k := by
        refine Nat.lt_of_not_le fun hle => hb ?_
        have := g (4 - k)
        rw [show k + (4 - k) = 4 by omega, runFor_done ho] at this
        rw [this]; exact ho
      refine wpAny_bind (wpAny_rule (drive_go turns (k - 4) (m.runFor 4) m' (fun j => ?_) ho (by omega) (by omega) hQ))
      rw [← gen, show 4 + (k - 4 + j) = k + j by omega]
      exact g j
theorem run_end {k : Nat} {m m' : M} {r : Option (Nat × Nat)} {Q : Option M → Shared → Prop} (g : Go k m m') (hk : k ≤ 2 ^ 64) (hf : Found m' r)
    (hQ : Q (r.map fun _ => m') s) : wpAny MM A (reRunToEnd m) Q E s := by
  unfold reRunToEnd
  have ho : m'.outcome.isSome = true := by
    cases r with
    | none => have : m'.outcome = some .failed := hf; rw [this]; rfl
    | some be => rw [hf.1]; rfl
  refine wpAny_bind (drive_go (2 ^ 64) k m m' g ho (by omega) (by decide) ?_)
  refine wpAny_bind (wpAny_forIn_list _ (fun _ _ s' => s' = s) _ (fun i rest b s' e => ?_) (fun b s' e => ?_) _ _ rfl)
  · subst e
    split
    · exact wpAny_bind (wpAny_rule (wpAny_pure rfl))
    · exact wpAny_pure rfl
  · subst e
    cases r with
    | none => have q : m'.outcome = some .failed := hf; rw [q]; exact wpAny_pure hQ
    | some be => rw [hf.1]; exact wpAny_pure hQ

inductive TV : Nat → List Nat → Value → Prop
  | str (l : List Nat) (t : Tok) : TV 0 l (.str (S l) t)
  | bytes (l : List Nat) (t : Tok) (h : ∀ c ∈ l, c < 256) : TV 1 l (.bytes (l.map (·.toUInt8)).toArray t)
theorem toNat_map {l : List Nat} (h : ∀ c ∈ l, c < 256) : ((l.map (·.toUInt8)).toArray.map (·.toNat)) = l.toArray := by
  apply Array.ext'
  simp only [Array.toList_map, List.map_map]
  conv => rhs; rw [← List.map_id l]
  refine List.map_congr_left fun c hc => ?_
  simp [Nat.toUInt8, Nat.mod_eq_of_lt (h c hc)]
theorem textOf_TV {kd : Nat} {l : List Nat} {v : Value} {Q : Array Nat × Nat → Shared → Prop} (h : TV kd l v) (hQ : Q (l.toArray, kd) s) : wpAny MM A (reTextOf v) Q E s := by
  cases h with
  | str l t => exact wpAny_pure hQ
  | bytes l t hb =>
    unfold reTextOf
    refine wpAny_bind (wpAny_of_eq (a := none) (by rfl) ?_)
    refine wpAny_bind (wpAny_of_eq KBy.quiet_eq (wpAny_pure ?_))
    rw [toNat_map hb]; exact hQ
theorem slice_TV {kd : Nat} {l : List Nat} {b e : Nat} {Q : Value → Shared → Prop} (hk : kd = 0 ∨ (kd = 1 ∧ ∀ c ∈ l, c < 256)) (hl : l.length ≤ 100000)
    (hQ : ∀ v tk, TV kd ((l.drop b).take (e - b)) v → Q v { s with toks := tk }) : wpAny MM A (reSlice l.toArray kd b e) Q E s := by
  unfold reSlice
  have ex : l.toArray.extract b e = ((l.drop b).take (e - b)).toArray := by rw [List.extract_toArray]
  have hlen : ((l.drop b).take (e - b)).length ≤ 100000 := by rw [List.length_take, List.length_drop]; exact part_le hl
  rw [ex]
  rcases hk with rfl | ⟨rfl, hb⟩
  · exact wpAny_mkStr (hQ _ _ (.str _ _)) (by rw [sizeLine_eq]; show ((l.drop b).take (e - b)).toArray.size ≤ _; rw [List.size_toArray]; exact Nat.le_trans hlen (by decide))
  · show wpAny MM A (mkBytes (((l.drop b).take (e - b)).toArray.map (·.toUInt8))) Q E s
    have e2 : ((l.drop b).take (e - b)).toArray.map (·.toUInt8) = (((l.drop b).take (e - b)).map (·.toUInt8)).toArray := by simp
    rw [e2]
    unfold mkBytes
    rw [if_neg (by rw [sizeLine_eq, List.size_toArray, List.length_map]; omega)]
    exact wpAny_bind (wpAny_fresh (wpAny_pure (hQ _ _ (.bytes _ _ fun c hc => hb c (List.mem_of_mem_drop (List.mem_of_mem_take hc))))))
noncomputable def Pat (h : Heap) (p : Addr) (code : Array Nat) (kd : Nat) : Prop :=
  ∃ o fs c oc items n, h.get? p = some o ∧ o.data = .fields fs ∧ fs.getD 2 .none = .int 0 0 ∧ fs.getD 5 .none = .ref c ∧ fs.getD 6 .none = .int kd 0 ∧ h.get? c = some oc ∧ oc.data = .seq items n ∧ (items.map reRawOf).map (·.toNat) = code
theorem Pat.ext {h h' : Heap} {p : Addr} {code : Array Nat} {kd : Nat} (x : Pat h p code kd) (e : ∀ b o, h.get? b = some o → h'.get? b = some o) : Pat h' p code kd := by
  obtain ⟨o, fs, c, oc, items, n, a, b⟩ := x
  obtain ⟨b1, b2, b3, b4, b5, b6⟩ := b
  exact ⟨o, fs, c, oc, items, n, e _ _ a, b1, b2, b3, b4, e _ _ b5, b6⟩
theorem whole_TV {p : Addr} {code : Array Nat} {kd : Nat} {l : List Nat} {v : Value} {Q : ReTarget → Shared → Prop} (hp : Pat s.heap p code kd) (hv : TV kd l v)
    (hQ : Q { pattern := .ref p, string := v, code := code, text := l.toArray, kind := kd, groups := 0, pos := 0, lim := l.length } s) : wpAny MM A (reWholeTarget (.ref p) v) Q E s := by
  obtain ⟨o, fs, c, oc, items, n, ho, hd, h2, h5, h6, hoc, hdc, hco⟩ := hp
  unfold reWholeTarget
  refine wpAny_bind (wpAny_fieldsOf ho hd (wpAny_bind (textOf_TV hv ?_)))
  simp only [h2, h5, h6]
  have fin : wpAny MM A (do
      pure { pattern := .ref p, string := v, code := (← reRawItems (.ref c)).map (·.toNat), text := l.toArray, kind := kd, groups := reRawNat (.int 0 0), pos := 0, lim := l.toArray.size }) Q E s := by
    refine wpAny_bind ?_
    unfold reRawItems
    refine wpAny_bind (wpAny_seqItems hoc hdc (wpAny_pure (wpAny_pure ?_)))
    show Q { pattern := .ref p, string := v, code := (items.map reRawOf).map (·.toNat), text := l.toArray, kind := kd, groups := 0, pos := 0, lim := l.toArray.size } s
    rw [hco, List.size_toArray]; exact hQ
  cases hv with
  | str l t => exact fin
  | bytes l t hb =>
    unfold reNoCollectionInside
    refine wpAny_bind ?_
    refine wpAny_bind (wpAny_of_eq KBy.isInstance_eq ?_)
    exact wpAny_pure fin
end

noncomputable def TVs (kd : Nat) : List (List Nat) → List Value → Prop
  | [], [] => True
  | p :: ps, v :: vs => TV kd p v ∧ TVs kd ps vs
  | _, _ => False
theorem TVs.snoc {kd : Nat} : ∀ {ps : List (List Nat)} {vs : List Value} {p : List Nat} {v : Value}, TVs kd ps vs → TV kd p v → TVs kd (ps ++ [p]) (vs ++ [v])
  | [], [], _, _, _, h => ⟨h, trivial⟩
  | _ :: _, _ :: _, _, _, h, h' => ⟨h.1, h.2.snoc h'⟩
  | [], _ :: _, _, _, h, _ => h.elim
  | _ :: _, [], _, _, h, _ => h.elim
theorem TVs.len {kd : Nat} : ∀ {ps : List (List Nat)} {vs : List Value}, TVs kd ps vs → ps.length = vs.length
  | [], [], _ => rfl
  | _ :: _, _ :: _, h => congrArg (· + 1) h.2.len
  | [], _ :: _, h => h.elim
  | _ :: _, [], h => h.elim
theorem TVs.strs : ∀ {ps : List (List Nat)} {vs : List Value}, TVs 0 ps vs → ∃ l : List (Str × Tok), vs = strValues l ∧ l.map (·.1) = ps.map S
  | [], [], _ => ⟨[], rfl, rfl⟩
  | p :: ps, v :: vs, h => by
    obtain ⟨l, e1, e2⟩ := h.2.strs
    obtain ⟨h1, h2⟩ := h
    cases h1 with
    | str _ t => exact ⟨(S p, t) :: l, by rw [e1]; rfl, by rw [List.map_cons, List.map_cons, e2]⟩
  | [], _ :: _, h => h.elim
  | _ :: _, [], h => h.elim
theorem join_S : ∀ ps : List (List Nat), Str.join (S []) (ps.map S) = S ps.flatten
  | [] => rfl
  | [p] => by simp [Str.join]
  | p :: q :: r => by
    have ih := join_S (q :: r)
    show S p ++ S [] ++ Str.join (S []) ((q :: r).map S) = _
    rw [ih, S_append, S_append]; simp
theorem sum_S (ps : List (List Nat)) : ((ps.map S).map (·.length)).sum = ps.flatten.length := by
  induction ps with
  | nil => rfl
  | cons p ps ih => simp only [List.map_cons, List.sum_cons, ih, S_len, List.flatten_cons, List.length_append]
end Mine
end

section
open PySem PySem.W PyProof.Rows PySem.Calls PySem.Builtin PySem.Builtin.Re PySem.Sre
namespace Mine
theorem slot_bjoin : Slot "bytes" "join" "bytes.join" :=
  .of (owner := "bytes") (n := "join") (by rw [typeLookup_type, builtinLookup_eq_fast]; kernel_rfl) (by decide +kernel) (by decide +kernel) (by decide +kernel)
    (by first | exact .inl (by decide +kernel) | exact .inr (by decide +kernel)) (by rw [isSubtype_type]; kernel_rfl)
theorem entry_bjoin : entryFor table "bytes.join" = some Builtin.«bytes.join» := entryFor_of_tree (by kernel_rfl)
theorem args_bjoin (a b : Value) : argsOk "bytes.join" ⟨[a, b], []⟩ := by unfold argsOk; kernel_rfl
theorem bytesOf {ps : List (List Nat)} : ∀ {vs : List Value}, TVs 1 ps vs → ∃ l : List (Array UInt8 × Tok), vs = l.map (fun x => .bytes x.1 x.2) ∧ l.map (·.1) = ps.map (fun p => (p.map (·.toUInt8)).toArray) ∧ ∀ p ∈ ps, ∀ c ∈ p, c < 256 := by
  induction ps with
  | nil => intro vs h; cases vs with | nil => exact ⟨[], rfl, rfl, fun _ h => nomatch h⟩ | cons => exact h.elim
  | cons p ps ih =>
    intro vs h
    cases vs with
    | nil => exact h.elim
    | cons v vs =>
      obtain ⟨l, e1, e2, e3⟩ := ih h.2
      obtain ⟨h1, _⟩ := h
      cases h1 with
      | bytes _ t hb => exact ⟨((p.map (·.toUInt8)).toArray, t) :: l, by rw [e1]; rfl, by rw [List.map_cons, List.map_cons, e2], fun q hq => by rcases List.mem_cons.mp hq with rfl | hq; exact hb; exact e3 q hq⟩
theorem take_bytes {id : String} {b : Array UInt8} {t : Tok} : Bytes.takeBufferQuiet? id (.bytes b t) 0 = pure (some (b, none)) := by
  unfold Bytes.takeBufferQuiet? Bytes.takeBuffer?
  rw [KBy.special_eq KBy.look_buffer, KBy.own_buffer]
  rw [show ((0 : Int) == Bytes.fullReadOnly) = false from by decide +kernel, KBy.buffer_eq]
  rfl
theorem joined_nil (ll : List (Array UInt8)) : Bytes.joined #[] ll = (ll.flatMap (·.toList)).toArray := by
  have gen : ∀ (ll : List (Array UInt8)) (k : Nat) (out : Array UInt8), (ll.zipIdx k).foldl (fun out (p : Array UInt8 × Nat) => (if p.2 > 0 then out ++ #[] else out) ++ p.1) out = out ++ (ll.flatMap (·.toList)).toArray := by
    intro ll
    induction ll with
    | nil => intro k out; simp
    | cons y ll ih =>
      intro k out
      rw [List.zipIdx_cons, List.foldl_cons, ih, List.flatMap_cons]
      have : (if k > 0 then out ++ #[] else out) = out := by split <;> simp
      simp only [this]
      apply Array.ext'
      simp
  show (ll.zipIdx).foldl _ _ = _
  rw [show (ll.zipIdx) = ll.zipIdx 0 from rfl]
  refine (gen ll 0 #[]).trans ?_
  simp
section
variable {prog : Program} {w : World} {A : Around} {E : Value → Shared → Prop} {s : Shared}
theorem letGo_all {M : Model} {Q : Unit → Shared → Prop} : ∀ (l : List (Array UInt8 × Tok)) (keep : List Value), Q () s → wpAny M A (Bytes.joinLetGo (l.map fun x => (Value.bytes x.1 x.2, none)) keep) Q E s
  | [], _, h => wpAny_pure h
  | _ :: l, keep, h => wpAny_bind (wpAny_letGo (letGo_all l keep h))
theorem bj {pl : Addr} {l : List (Array UInt8 × Tok)} {Q : Value → Shared → Prop} {t : Tok} (hl : s.heap.IsList pl (l.map (fun x => Value.bytes x.1 x.2)).toArray) (hn : 2 ≤ l.length)
    (hz : ((l.map (·.1)).map (·.size)).sum ≤ 1000000)
    (hQ : ∀ tk tk', Q (.bytes (Bytes.joined #[] (l.map (·.1))) tk) { s with toks := tk' }) : wpAny (model prog w) A (call (.builtin "bytes.join") [.bytes #[] t, .ref pl]) Q E s := by
  refine wpAny_call_entry slot_bjoin rfl entry_bjoin ?_ (args_bjoin _ _)
  show wpAny (model prog w) A.in1 (Bytes.joinM .bytes ⟨[.bytes #[] t, .ref pl], []⟩) _ _ s
  unfold Bytes.joinM
  refine wpAny_bind (wpAny_of_eq (a := (.bytes #[] t, .ref pl)) (by rfl) ?_)
  have k1 : (Bytes.Kind.bytes == Bytes.Kind.bytes) = true := rfl
  have k2 : (Bytes.Kind.bytes == Bytes.Kind.bytearray) = false := rfl
  show wpAny _ _ (if (Bytes.Kind.bytes == Bytes.Kind.bytes) = true then _ else _) _ _ _
  rw [if_pos k1]
  obtain ⟨o, ho, hc, n, hd⟩ := id hl
  refine wpAny_bind ?_
  unfold Bytes.joinItems
  refine wpAny_bind (wpAny_typeOf hl.typeIs ?_)
  show wpAny _ _ (pure (Value.ref pl)) _ _ _
  refine wpAny_pure ?_
  refine wpAny_bind (wpAny_seqItems ho hd ?_)
  show wpAny _ _ (if (Bytes.Kind.bytes == Bytes.Kind.bytes) = true then _ else _) _ _ _
  rw [if_pos k1]
  have hsz : ¬ (l.map (fun x => Value.bytes x.1 x.2)).toArray.size = 1 := by simp; omega
  delta PySem.Builtin.Bytes.joinM.match_1
  dsimp only
  rw [dif_neg hsz]
  refine wpAny_bind ?_
  rw [Std.Legacy.Range.forIn_eq_forIn_range']
  refine wpAny_forIn_list _ (fun rest st s' => s' = s ∧ ∃ i, rest = List.range' i (l.length - i) ∧ i ≤ l.length ∧ st = (((l.take i).map (·.1)).toArray, (l.take i).map fun x => (Value.bytes x.1 x.2, none))) _ ?turn ?fin _ _ ⟨rfl, 0, ?_, Nat.zero_le _, rfl⟩
  case fin =>
    rintro st s' ⟨rfl, i, hi, hil, rfl⟩
    have : i = l.length := by
      have := congrArg List.length hi
      simp at this; omega
    subst this
    rw [List.take_length]
    refine wpAny_bind (wpAny_of_eq (a := #[]) (by rfl) ?_)
    have hfold : Array.foldl (fun x1 (x2 : Array UInt8) => x1 + x2.size) ((#[] : Array UInt8).size * ((l.map (·.1)).toArray.size - 1)) (l.map (·.1)).toArray ≤ 1000000 := by
      have gen : ∀ (ll : List (Array UInt8)) (a : Nat), ll.foldl (fun x1 x2 => x1 + x2.size) a = a + (ll.map (·.size)).sum := by
        intro ll
        induction ll with
        | nil => intro a; simp
        | cons y ll ih => intro a; rw [List.foldl_cons, ih, List.map_cons, List.sum_cons]; omega
      rw [List.foldl_toArray, gen]
      simp only [List.size_toArray, List.length_nil, Nat.zero_mul, Nat.zero_add]
      exact hz
    show wpAny _ _ (if Bytes.tooLong _ = true then _ else _) _ _ _
    rw [if_neg (by rw [KBy.tooLong_not (Nat.le_trans hfold (by omega))]; decide)]
    have hlen : (Bytes.joined #[] (l.map (·.1))).size ≤ sizeLine := by
      rw [joined_nil, sizeLine_eq, List.size_toArray, List.length_flatMap]
      have e : (l.map (·.1)).map (fun y => y.toList.length) = (l.map (·.1)).map (·.size) := List.map_congr_left fun y _ => by simp
      rw [e]; omega
    show wpAny _ _ (mkBytes (Bytes.joined #[] (l.map (·.1)).toArray.toList) >>= _) _ _ _
    rw [List.toList_toArray]
    unfold mkBytes
    rw [if_neg (by omega)]
    refine wpAny_bind (wpAny_bind (wpAny_fresh (wpAny_pure ?_)))
    refine wpAny_bind (wpAny_holding (wpAny_point ?_))
    refine wpAny_bind (letGo_all _ _ ?_)
    exact wpAny_pure ⟨_, rfl, hQ _ _⟩
  case turn =>
    rintro x rest st s' ⟨rfl, i, hi, hil, rfl⟩
    have hi2 : i < l.length := by
      have := congrArg List.length hi
      simp at this; omega
    have hx : x = i ∧ rest = List.range' (i + 1) (l.length - (i + 1)) := by
      rw [show l.length - i = (l.length - (i + 1)) + 1 from sub_step hi2, List.range'_succ] at hi
      exact ⟨(List.cons.inj hi).1, (List.cons.inj hi).2⟩
    obtain ⟨rfl, rfl⟩ := hx
    have hget : (l.map (fun y => Value.bytes y.1 y.2)).toArray.getD x Value.none = .bytes l[x].1 l[x].2 := by simp [hi2]
    refine wpAny_bind (wpAny_seqItems ho hd ?_)
    have hany : ((l.take x).map fun y => (Value.bytes y.1 y.2, (none : Option Value))).any (fun y => y.1.onHeap) = false := by
      rw [List.any_eq_false]
      intro y hy
      obtain ⟨z, _, rfl⟩ := List.mem_map.mp hy
      simp [Value.onHeap]
    show wpAny _ _ (if (Bytes.Kind.bytes == Bytes.Kind.bytearray || ((l.take x).map fun y => (Value.bytes y.1 y.2, (none : Option Value))).any (fun y => y.1.onHeap)) = true then _ else _) _ _ _
    rw [hany, k2, Bool.or_false, if_neg Bool.false_ne_true]
    dsimp only
    rw [hget]
    refine wpAny_bind (wpAny_holding (wpAny_of_eq take_bytes ?_))
    refine wpAny_bind (wpAny_seqItems ho hd ?_)
    dsimp only
    rw [bne_self_eq_false, if_neg Bool.false_ne_true]
    refine wpAny_pure ⟨rfl, x + 1, rfl, hi2, ?_⟩
    rw [List.take_add_one, List.getElem?_eq_getElem hi2, List.push_toArray]
    simp only [Option.toList, List.map_append, List.map_cons, List.map_nil]
  · simp
theorem bytes_join1 {pl : Addr} {v : Value} {t : Tok} {Q : Value → Shared → Prop} (hl : s.heap.IsList pl [v].toArray) (hv : typeOf v = pure (.type "bytes"))
    (hQ : Q v s) : wpAny (model prog w) A (call (.builtin "bytes.join") [.bytes #[] t, .ref pl]) Q E s := by
  refine wpAny_call_entry slot_bjoin rfl entry_bjoin ?_ (args_bjoin _ _)
  show wpAny (model prog w) A.in1 (Bytes.joinM .bytes ⟨[.bytes #[] t, .ref pl], []⟩) _ _ s
  unfold Bytes.joinM
  refine wpAny_bind (wpAny_of_eq (a := (.bytes #[] t, .ref pl)) (by rfl) ?_)
  have k1 : (Bytes.Kind.bytes == Bytes.Kind.bytes) = true := rfl
  show wpAny _ _ (if (Bytes.Kind.bytes == Bytes.Kind.bytes) = true then _ else _) _ _ _
  rw [if_pos k1]
  obtain ⟨o, ho, hc, n, hd⟩ := id hl
  refine wpAny_bind ?_
  unfold Bytes.joinItems
  refine wpAny_bind (wpAny_typeOf hl.typeIs ?_)
  show wpAny _ _ (pure (Value.ref pl)) _ _ _
  refine wpAny_pure ?_
  refine wpAny_bind (wpAny_seqItems ho hd ?_)
  show wpAny _ _ (if (Bytes.Kind.bytes == Bytes.Kind.bytes) = true then _ else _) _ _ _
  rw [if_pos k1]
  show wpAny _ _ (typeOf v >>= _) _ _ _
  rw [hv]
  refine wpAny_bind (wpAny_pure ?_)
  show wpAny _ _ (rule "bytes.join.one-item" >>= fun _ => ret v) _ _ _
  exact wpAny_bind (wpAny_rule (wpAny_pure ⟨_, rfl, hQ⟩))
theorem bytes_join {pl : Addr} {ps : List (List Nat)} {vs : List Value} {t : Tok} {Q : Value → Shared → Prop} (hl : s.heap.IsList pl vs.toArray) (hv : TVs 1 ps vs) (h2 : 2 ≤ vs.length) (hz : ps.flatten.length ≤ 1000000)
    (hQ : ∀ v tk, TV 1 ps.flatten v → Q v { s with toks := tk }) : wpAny (model prog w) A (call (.builtin "bytes.join") [.bytes #[] t, .ref pl]) Q E s := by
  obtain ⟨l, rfl, e, hb⟩ := bytesOf hv
  refine bj hl (by simpa using h2) ?_ ?_
  · rw [e, List.map_map]
    have : ps.map ((fun x : Array UInt8 => x.size) ∘ fun p => (p.map (·.toUInt8)).toArray) = ps.map List.length := List.map_congr_left fun p _ => by simp
    rw [this]; simpa [List.length_flatten] using hz
  · intro tk tk'
    have : Bytes.joined #[] (l.map (·.1)) = (ps.flatten.map (·.toUInt8)).toArray := by
      rw [joined_nil, e, List.flatMap_map, List.map_flatten]
      congr 1
    rw [this]
    exact hQ _ _ (.bytes _ _ fun c hc => by obtain ⟨p, hp, hcp⟩ := List.mem_flatten.mp hc; exact hb p hp c hcp)
end
end Mine
end

section
open PySem PySem.W PyProof.Rows PySem.Calls PySem.Builtin PySem.Builtin.Re PySem.Sre
namespace Mine
section
variable {prog : Program} {w : World} {A : Around} {E : Value → Shared → Prop} {s : Shared}
theorem join_TV {kd : Nat} {pl : Addr} {ps : List (List Nat)} {vs : List Value} {jv : Value} {Q : Value → Shared → Prop} (hj : TV kd [] jv) (hl : s.heap.IsList pl vs.toArray) (hv : TVs kd ps vs) (hz : ps.flatten.length ≤ 1000000) (hne : kd = 1 → vs ≠ [])
    (hQ : ∀ v tk, TV kd ps.flatten v → Q v { s with toks := tk }) : wpAny (model prog w) A (call (.builtin (if kd == 0 then "str.join" else "bytes.join")) [jv, .ref pl]) Q E s := by
  cases hj with
  | str _ t =>
    obtain ⟨l, rfl, e⟩ := hv.strs
    refine SC.join hl e ?_ ?_
    · unfold JoinOk
      have : (PySem.Builtin.Str.tooLong ((ps.map S).toArray.foldl (· + ·.length + (S []).length) 0)) = false := by
        rw [StrLaws.joinTotal, sum_S]
        unfold PySem.Builtin.Str.tooLong
        rw [sizeLine_eq, S_len]
        exact decide_eq_false (by simp only [List.length_nil, Nat.mul_zero, Nat.add_zero]; omega)
      rw [this]; rfl
    · intro t' k
      have : Txt.join (S []) (ps.map S) = S ps.flatten := by
        show Builtin.Str.glued (S []) (ps.map S) = _
        rw [StrLaws.glued_eq_join, join_S]
      rw [this]; exact hQ _ _ (.str _ _)
  | bytes _ t _ =>
    match vs, hv, hl with
    | [], hv, hl => exact absurd rfl (hne rfl)
    | [v], hv, hl =>
      match ps, hv, hQ with
      | [p], hv, hQ =>
        have h1 := hv.1
        refine bytes_join1 hl ?_ ?_
        · cases h1; exact rfl
        · have := hQ v s.toks (by simpa using h1)
          exact this
    | v :: v' :: vs, hv, hl => exact bytes_join hl hv (by simp) hz hQ

structure Finds (code : Array Nat) (l : List Nat) (find : Nat → Option (Nat × Nat)) : Prop where
  run : ∀ pos, pos ≤ l.length → ∃ k m', k ≤ 2 ^ 64 ∧ Go k (forSearch code l.toArray 0 pos l.length false) m' ∧ Found m' (find pos)
  le : ∀ pos b e, find pos = some (b, e) → pos ≤ b ∧ b < e ∧ e ≤ l.length
noncomputable def subFrom (find : Nat → Option (Nat × Nat)) (rl l : List Nat) : (fuel pos : Nat) → List Nat
  | 0, pos => l.drop pos
  | f + 1, pos => match find pos with
    | none => l.drop pos
    | some (b, e) => (l.drop pos).take (b - pos) ++ (rl ++ subFrom find rl l f e)
noncomputable def loopCode (p : Addr) (v r : Value) (n : Int) (dn : Nat) (pl : Addr) : Code :=
  .builtin "re.Pattern.sub.loop" ⟨[.ref p, v, r, rawInt 0, rawInt 0, rawInt n, rawInt dn, rawInt dn, .bool false, .ref pl, .bool false], []⟩
theorem loop_plain : plainId "re.Pattern.sub.loop" = true := by decide +kernel
theorem notTurned {M : Model} {kd : Nat} {rl : List Nat} {r : Value} {Q : Unit → Shared → Prop} (h : TV kd rl r) (hQ : Q () s) : wpAny M A (reLiteralCannotBeTurned r) Q E s := by
  cases h with
  | str => exact wpAny_pure hQ
  | bytes =>
    unfold reLiteralCannotBeTurned
    refine wpAny_bind (wpAny_of_eq (a := none) (by rfl) ?_)
    refine wpAny_bind (wpAny_of_eq KBy.isInstance_eq ?_)
    exact wpAny_pure hQ
theorem push_list {M : Model} {pl : Addr} {vs : List Value} {n : Nat} {v : Value} {Q : Unit → Shared → Prop} (ho : s.heap.get? pl = some { cls := .type "list", data := .seq vs.toArray n }) (hz : vs.length ≤ 100000)
    (hQ : ∀ h' n', h'.get? pl = some { cls := .type "list", data := .seq (vs ++ [v]).toArray n' } → Ext [pl] s.heap h' → Q () { s with heap := h' }) : wpAny M A (updateSeq pl (·.push v)) Q E s := by
  refine wpAny_updateSeq ho rfl (hQ _ (n + 1) ?_ ?_) (by rw [sizeLine_eq, List.size_toArray]; omega) (by rw [sizeLine_eq, Array.size_push, List.size_toArray]; omega)
  · rw [Heap.get?_update_self _ ho (by rfl)]
    simp [Obj.mapSeq]
  · intro b o hb e
    rw [Heap.get?_update_ne _ _ _ _ (by simpa using hb)]; exact e

theorem sub_loop {p : Addr} {code : Array Nat} {kd : Nat} {l rl : List Nat} {v r : Value} {find : Nat → Option (Nat × Nat)} {pl : Addr} {R : Result → Shared → Prop}
    {hb : Heap} (hpb : Pat hb p code kd) (hbn : hb.get? pl = none) (hv : TV kd l v) (hr : TV kd rl r) (hf : Finds code l find) (hll : l.length ≤ 1000) (hrl : rl.length ≤ 10) :
    ∀ (f : Nat) (dn : Nat) (n : Int) (ps : List (List Nat)) (vs : List Value) (ep : Nat) (s : Shared), l.length - dn < f → dn ≤ l.length → (∀ b o, hb.get? b = some o → s.heap.get? b = some o) →
      s.heap.get? pl = some { cls := .type "list", data := .seq vs.toArray ep } → TVs kd ps vs → vs.length ≤ 2 * dn → ps.flatten.length ≤ 11 * dn →
      (∀ x h' tk, TV kd (ps.flatten ++ subFrom find rl l f dn) x → Ext [pl] s.heap h' → R (.ok (.ret x)) { s with heap := h', toks := tk }) →
      codeAny (model prog w) A (loopCode p v r n dn pl) R s
  | 0, dn, _, _, _, _, _, h, _, _, _, _, _, _, _ => absurd h (Nat.not_lt_zero _)
  | f + 1, dn, n, ps, vs, ep, s, hfu, hdn, hkeep, hpl, hvs, hvl, hps, hR => by
    refine codeAny_builtin entry_subloop ?_
    rw [Around.under_plainId loop_plain]
    show wpAny (model prog w) A.in1 (do
      let t ← reWholeTarget (.ref p) v
      reLiteralCannotBeTurned r
      match ← reNextFound t (dn : Int).toNat false with
      | some m =>
        if (dn : Int).toNat < m.start then updateSeq pl (·.push (← reSlice t.text t.kind (dn : Int).toNat m.start))
        if r != .none then updateSeq pl (·.push r)
        again (.builtin "re.Pattern.sub.loop" ⟨[.ref p, v, r, rawInt 0, rawInt 0, rawInt (n + 1), rawInt m.handed, rawInt m.handed, .bool (m.handed == m.start), .ref pl, .bool false], []⟩)
      | none =>
        if (dn : Int).toNat < t.lim then updateSeq pl (·.push (← reSlice t.text t.kind (dn : Int).toNat t.lim))
        let joiner ← reSlice t.text t.kind 0 0
        let text ← if ((← seqItems? (.ref pl)).getD #[]).isEmpty then pure joiner
          else call (.builtin (if t.kind == 0 then "str.join" else "bytes.join")) [joiner, .ref pl]
        ret text) _ _ s
    have hkd : kd = 0 ∨ (kd = 1 ∧ ∀ c ∈ l, c < 256) := by
      cases hv with
      | str => exact .inl rfl
      | bytes _ _ h => exact .inr ⟨rfl, h⟩
    refine wpAny_bind (whole_TV (hpb.ext hkeep) hv (wpAny_bind (notTurned hr ?_)))
    dsimp only
    rw [Int.toNat_natCast]
    obtain ⟨k, m', hk, g, hfd⟩ := hf.run dn hdn
    refine wpAny_bind ?_
    unfold reNextFound
    refine run_end g hk hfd ?_
    cases hfi : find dn with
    | none =>
      dsimp only [Option.map]
      have hsub : subFrom find rl l (f + 1) dn = l.drop dn := by simp [subFrom, hfi]
      rw [hsub] at hR
      have fin : ∀ (ps' : List (List Nat)) (vs' : List Value) (ep' : Nat) (h' : Heap) (tk : Nat), ps'.flatten = ps.flatten ++ l.drop dn → TVs kd ps' vs' → h'.get? pl = some { cls := .type "list", data := .seq vs'.toArray ep' } → Ext [pl] s.heap h' →
          wpAny (model prog w) A.in1 (do
            let joiner ← reSlice l.toArray kd 0 0
            let text ← if ((← seqItems? (.ref pl)).getD #[]).isEmpty then pure joiner
              else call (.builtin (if kd == 0 then "str.join" else "bytes.join")) [joiner, .ref pl]
            ret text) (fun fin s' => match fin with | .done f => R (.ok f) s' | .again c' => c'.quiet = true ∧ codeAny (model prog w) A c' R s') (fun e s' => R (.error e) s') { s with heap := h', toks := tk } := by
        intro ps' vs' ep' h' tk e hvs' ho' hx
        refine wpAny_bind (slice_TV hkd (Nat.le_trans hll (by decide)) fun jv tk' hj => ?_)
        have hj0 : TV kd [] jv := by simpa using hj
        refine wpAny_bind (wpAny_seqItems (s := { s with heap := h', toks := tk' }) ho' rfl ?_)
        have hz : ps'.flatten.length ≤ 1000000 := by rw [e, List.length_append, List.length_drop]; omega
        cases vs' with
        | nil =>
          have : ps' = [] := by cases ps' with | nil => rfl | cons => exact hvs'.elim
          subst this
          refine wpAny_bind (wpAny_pure (wpAny_pure ?_))
          exact hR _ h' tk' (e ▸ (by simpa using hj0)) hx
        | cons v0 vs' =>
          show wpAny _ _ (if ((some (v0 :: vs').toArray).getD #[]).isEmpty = true then _ else _) _ _ _
          rw [if_neg (by simp)]
          refine wpAny_bind (join_TV (s := { s with heap := h', toks := tk' }) hj0 ⟨_, ho', rfl, _, rfl⟩ hvs' hz (by simp) fun x tk2 hx2 => wpAny_pure ?_)
          exact hR _ h' tk2 (e ▸ hx2) hx
      by_cases hlt : dn < l.length
      · rw [if_pos hlt]
        refine wpAny_bind (slice_TV hkd (Nat.le_trans hll (by decide)) fun x tk hx => ?_)
        refine wpAny_bind (push_list (s := { s with toks := tk }) hpl (by omega) fun h' n' ho' he' => ?_)
        refine fin (ps ++ [_]) _ n' h' tk ?_ (hvs.snoc hx) ho' he'
        rw [List.flatten_append, List.flatten_singleton, List.take_of_length_le (by rw [List.length_drop]; omega)]
      · rw [if_neg hlt]
        refine fin ps vs ep s.heap s.toks ?_ hvs hpl Ext.refl
        rw [List.drop_eq_nil_of_le (by omega), List.append_nil]
    | some be =>
      obtain ⟨b, e⟩ := be
      rw [hfi] at hfd
      obtain ⟨_, hst, hhd⟩ := hfd
      obtain ⟨h1, h2, h3⟩ := hf.le dn b e hfi
      dsimp only [Option.map]
      rw [hst, hhd]
      have hsub : subFrom find rl l (f + 1) dn = (l.drop dn).take (b - dn) ++ (rl ++ subFrom find rl l f e) := by simp [subFrom, hfi]
      rw [hsub] at hR
      have hne : (r != .none) = true := by cases hr <;> rfl
      have hmust : (e == b) = false := beq_eq_false_iff_ne.mpr (Nat.ne_of_gt h2)
      rw [hne, hmust]
      rw [if_pos rfl]
      have fin : ∀ (ps' : List (List Nat)) (vs' : List Value) (ep' : Nat) (h' : Heap) (tk : Nat), ps'.flatten = ps.flatten ++ (l.drop dn).take (b - dn) → TVs kd ps' vs' → vs'.length ≤ 2 * dn + 1 → h'.get? pl = some { cls := .type "list", data := .seq vs'.toArray ep' } → Ext [pl] s.heap h' →
          wpAny (model prog w) A.in1 (do
            updateSeq pl (·.push r)
            again (.builtin "re.Pattern.sub.loop" ⟨[.ref p, v, r, rawInt 0, rawInt 0, rawInt (n + 1), rawInt e, rawInt e, .bool false, .ref pl, .bool false], []⟩))
            (fun fin s' => match fin with | .done f => R (.ok f) s' | .again c' => c'.quiet = true ∧ codeAny (model prog w) A c' R s') (fun e s' => R (.error e) s') { s with heap := h', toks := tk } := by
        intro ps' vs' ep' h' tk hfl hvs' hlen ho' hx
        refine wpAny_bind (push_list (s := { s with heap := h', toks := tk }) ho' (by omega) fun h'' n' ho'' he'' => wpAny_pure ⟨plainId_quiet loop_plain _, ?_⟩)
        have hx2 : Ext [pl] s.heap h'' := hx.trans he''
        refine sub_loop hpb hbn hv hr hf hll hrl f e (n + 1) (ps' ++ [rl]) (vs' ++ [r]) n' { s with heap := h'', toks := tk } (fuel hfu (Nat.lt_of_le_of_lt h1 h2) h3) h3 ?_ ho'' (hvs'.snoc hr) ?_ ?_ ?_
        · intro b o hbo
          refine hx2 b o ?_ (hkeep b o hbo)
          intro hmem
          rw [List.mem_singleton.mp hmem, hbn] at hbo; cases hbo
        · rw [List.length_append, List.length_singleton]; omega
        · rw [List.flatten_append, List.flatten_singleton, hfl, List.length_append, List.length_append, List.length_take, List.length_drop]; omega
        · intro x h3' tk3 hx3 he3
          refine hR x h3' tk3 ?_ (hx2.trans he3)
          rw [List.flatten_append, List.flatten_singleton, hfl] at hx3
          simpa only [List.append_assoc] using hx3
      by_cases hlt : dn < b
      · rw [if_pos hlt]
        refine wpAny_bind (slice_TV hkd (Nat.le_trans hll (by decide)) fun x tk hx => ?_)
        refine wpAny_bind (push_list (s := { s with toks := tk }) hpl (by omega) fun h' n' ho' he' => ?_)
        refine fin (ps ++ [_]) _ n' h' tk ?_ (hvs.snoc hx) (by rw [List.length_append, List.length_singleton]; exact Nat.succ_le_succ hvl) ho' he'
        rw [List.flatten_append, List.flatten_singleton]
      · rw [if_neg hlt]
        refine fin ps vs ep s.heap s.toks ?_ hvs (Nat.le_succ_of_le hvl) hpl Ext.refl
        rw [Nat.sub_eq_zero_of_le (Nat.le_of_not_lt hlt), List.take_zero, List.append_nil]

theorem nocall_str : typeLookup (.type "str") "__call__" = pure none := by rw [typeLookup_type, builtinLookup_eq_fast]; kernel_rfl
theorem nocall_bytes : typeLookup (.type "bytes") "__call__" = pure none := by rw [typeLookup_type, builtinLookup_eq_fast]; kernel_rfl
theorem nocall_TV {kd : Nat} {l : List Nat} {v : Value} (h : TV kd l v) : specialOf v "__call__" = pure none := by
  cases h with
  | str l t => exact nocall_str
  | bytes l t _ => exact KBy.special_eq nocall_bytes
theorem sub_call {p : Addr} {code : Array Nat} {kd : Nat} {l rl : List Nat} {v r : Value} {find : Nat → Option (Nat × Nat)} {Q : Value → Shared → Prop}
    (hp : Pat s.heap p code kd) (hT : s.TypeIs (.ref p) "re.Pattern") (hv : TV kd l v) (hr : TV kd rl r) (hf : Finds code l find) (hll : l.length ≤ 1000) (hrl : rl.length ≤ 10) (hno : 92 ∉ rl)
    (hQ : ∀ x h' tk, TV kd (subFrom find rl l (l.length + 1) 0) x → Ext [] s.heap h' → Q x { s with heap := h', toks := tk }) :
    wpAny (model prog w) A (call (.builtin "re.Pattern.sub") [.ref p, r, v]) Q E s := by
  refine wpAny_call (codeAny_call_builtin slot_sub.plain entry_sub (slot_sub.check _ _ _ _ _ _ _ _ hT (args_sub _ _ _) ?_))
  show wpAny (model prog w) A.in1 (reSubstitute "re.Pattern.sub" "sub" false ⟨[.ref p, r, v], []⟩) _ _ s
  show wpAny (model prog w) A.in1 (do
    let called := (← specialOf r "__call__").isSome
    let literal ← if called then pure false else match ← asStr? r with
      | some s => pure !s.cps.contains 92
      | none => do match ← Bytes.bufferQuiet? "re.Pattern.sub" r with
        | some b => pure !b.contains 92
        | none => pure false
    let (repl, way) ← if called then pure (r, 1) else if literal then pure (r, 0) else do
      let t ← reCompileTemplate (.ref p) r
      if ← reOnlyLiteral t then pure (← field t 0, 0) else pure (t, 2)
    let _ ← holding [repl] (reWholeTarget (.ref p) v)
    if way == 1 then reNotHeld "re.Pattern.sub" v
    again (.builtin "re.Pattern.sub.loop" ⟨[.ref p, v, repl, rawInt way, rawInt 0, rawInt 0, rawInt 0, rawInt 0, .bool false, ← newList [], .bool false], []⟩)) _ _ s
  refine wpAny_bind (wpAny_of_eq (nocall_TV hr) ?_)
  have tail : wpAny (model prog w) A.in1 (do
      let _ ← holding [r] (reWholeTarget (.ref p) v)
      again (.builtin "re.Pattern.sub.loop" ⟨[.ref p, v, r, rawInt 0, rawInt 0, rawInt 0, rawInt 0, rawInt 0, .bool false, ← newList [], .bool false], []⟩))
      (fun fin s' => match fin with | .done f => (match (Except.ok f : Result) with | .ok (.ret v) => Q v s' | .ok _ => False | .error e => E e s') | .again c' => c'.quiet = true ∧ codeAny (model prog w) A c' (fun r s' => match r with | .ok (.ret v) => Q v s' | .ok _ => False | .error e => E e s') s')
      (fun e s' => (match (Except.error e : Result) with | .ok (.ret v) => Q v s' | .ok _ => False | .error e => E e s')) s := by
    refine wpAny_bind (wpAny_holding (whole_TV hp hv ?_))
    refine wpAny_bind (wpAny_newObj_type ?_ (by size_fits))
    refine wpAny_pure ⟨plainId_quiet loop_plain _, ?_⟩
    have hpush : ∀ b o, s.heap.get? b = some o → (s.heap.push { cls := .type "list", data := .seq ([] : List Value).toArray }).get? b = some o := fun b o e => Heap.get?_push_of_some _ e
    refine sub_loop (hb := s.heap) (pl := s.heap.objs.size) hp ?_ hv hr hf hll hrl (l.length + 1) 0 0 [] [] 0 _ (by omega) (by omega) hpush (Heap.get?_push_size _ rfl) trivial (by simp) (by simp) ?_
    · cases q : s.heap.get? s.heap.objs.size with
      | none => rfl
      | some o => exact absurd (Heap.lt_size q) (Nat.lt_irrefl _)
    · intro x h' tk hx he
      refine hQ x h' tk (by simpa using hx) fun b o _ e => he b o ?_ (hpush b o e)
      intro hm
      rw [List.mem_singleton.mp hm] at e
      exact absurd (Heap.lt_size e) (Nat.lt_irrefl _)
  cases hr with
  | str rl t =>
    have hc : (S rl).cps.contains 92 = false := by
      show rl.toArray.contains 92 = false
      simp [hno]
    refine wpAny_bind (wpAny_of_eq (a := some (S rl)) rfl ?_)
    dsimp only
    rw [hc]
    exact tail
  | bytes rl t hb =>
    have hc : (rl.map (·.toUInt8)).toArray.contains 92 = false := by
      simp only [List.contains_toArray, List.contains_eq_mem, decide_eq_false_iff_not, List.mem_map, not_exists, not_and]
      intro c hcm e
      have h1 : c.toUInt8.toNat = 92 := by rw [e]; rfl
      have h2 : c.toUInt8.toNat = c := by simp [Nat.toUInt8, Nat.mod_eq_of_lt (hb c hcm)]
      rw [h2] at h1; subst h1; exact hno hcm
    refine wpAny_bind (wpAny_of_eq (a := none) (by rfl) ?_)
    dsimp only
    refine wpAny_bind (wpAny_of_eq KBy.quiet_eq ?_)
    dsimp only
    rw [hc]
    exact tail
end
end Mine
end

section
open PySem PySem.W PyProof.Rows PySem.Calls PySem.Builtin PySem.Builtin.Re PySem.Sre
set_option maxHeartbeats 4000000
namespace Mine
theorem plainAttrs_pat : PlainAttrs "re.Pattern" :=
  ⟨⟨"object.__getattribute__", by rw [typeLookup_type, builtinLookup_eq_fast]; kernel_rfl, by decide +kernel⟩, by rw [typeLookup_type, builtinLookup_eq_fast]; kernel_rfl⟩
structure PatAt (h : Heap) (p : Addr) (code : Array Nat) (kd : Nat) : Prop where
  pat : Pat h p code kd
  typ : ∃ o, h.get? p = some o ∧ o.cls = .type "re.Pattern" ∧ o.dict = none
theorem PatAt.ext {h h' : Heap} {p : Addr} {code : Array Nat} {kd : Nat} (x : PatAt h p code kd) (e : ∀ b o, h.get? b = some o → h'.get? b = some o) : PatAt h' p code kd :=
  ⟨x.pat.ext e, let ⟨o, a, b⟩ := x.typ; ⟨o, e _ _ a, b⟩⟩
theorem pat1 {w : World} {h : Heap} (X : (Mine.hd.heap_39 w.params).In h) : PatAt h 43 C1 0 := by
  obtain ⟨o, ho⟩ : ∃ o, h.get? 43 = some o ∧ o.cls = .type "re.Pattern" ∧ o.dict = none ∧ ∃ fs, o.data = .fields fs ∧ fs.getD 2 .none = .int 0 0 ∧ fs.getD 5 .none = .ref 42 ∧ fs.getD 6 .none = .int 0 0 := ⟨_, X 43 _ (by k_is), rfl, rfl, _, rfl, rfl, rfl, rfl⟩
  obtain ⟨oc, hoc⟩ : ∃ oc, h.get? 42 = some oc ∧ ∃ items n, oc.data = .seq items n ∧ (items.map reRawOf).map (·.toNat) = C1 := ⟨_, X 42 _ (by k_is), _, _, rfl, by decide +kernel⟩
  obtain ⟨h1, h2, h3, fs, h4, h5, h6, h7⟩ := ho
  obtain ⟨g1, items, n, g2, g3⟩ := hoc
  exact ⟨⟨o, fs, 42, oc, items, n, h1, h4, h5, h6, h7, g1, g2, g3⟩, o, h1, h2, h3⟩
theorem pat2 {w : World} {h : Heap} (X : (Mine.hd.heap_39 w.params).In h) : PatAt h 48 C1 1 := by
  obtain ⟨o, ho⟩ : ∃ o, h.get? 48 = some o ∧ o.cls = .type "re.Pattern" ∧ o.dict = none ∧ ∃ fs, o.data = .fields fs ∧ fs.getD 2 .none = .int 0 0 ∧ fs.getD 5 .none = .ref 47 ∧ fs.getD 6 .none = .int 1 0 := ⟨_, X 48 _ (by k_is), rfl, rfl, _, rfl, rfl, rfl, rfl⟩
  obtain ⟨oc, hoc⟩ : ∃ oc, h.get? 47 = some oc ∧ ∃ items n, oc.data = .seq items n ∧ (items.map reRawOf).map (·.toNat) = C1 := ⟨_, X 47 _ (by k_is), _, _, rfl, by decide +kernel⟩
  obtain ⟨h1, h2, h3, fs, h4, h5, h6, h7⟩ := ho
  obtain ⟨g1, items, n, g2, g3⟩ := hoc
  exact ⟨⟨o, fs, 47, oc, items, n, h1, h4, h5, h6, h7, g1, g2, g3⟩, o, h1, h2, h3⟩
theorem pat3 {w : World} {h : Heap} (X : (Mine.hd.heap_39 w.params).In h) : PatAt h 53 C3 0 := by
  obtain ⟨o, ho⟩ : ∃ o, h.get? 53 = some o ∧ o.cls = .type "re.Pattern" ∧ o.dict = none ∧ ∃ fs, o.data = .fields fs ∧ fs.getD 2 .none = .int 0 0 ∧ fs.getD 5 .none = .ref 52 ∧ fs.getD 6 .none = .int 0 0 := ⟨_, X 53 _ (by k_is), rfl, rfl, _, rfl, rfl, rfl, rfl⟩
  obtain ⟨oc, hoc⟩ : ∃ oc, h.get? 52 = some oc ∧ ∃ items n, oc.data = .seq items n ∧ (items.map reRawOf).map (·.toNat) = C3 := ⟨_, X 52 _ (by k_is), _, _, rfl, by decide +kernel⟩
  obtain ⟨h1, h2, h3, fs, h4, h5, h6, h7⟩ := ho
  obtain ⟨g1, items, n, g2, g3⟩ := hoc
  exact ⟨⟨o, fs, 52, oc, items, n, h1, h4, h5, h6, h7, g1, g2, g3⟩, o, h1, h2, h3⟩
theorem pat_method {M : Model} {A : Around} {E : Value → Shared → Prop} {s : Shared} {p : Addr} {code : Array Nat} {kd : Nat} {pl : Sem Bool} {Q : Value × List Value → Shared → Prop} (x : PatAt s.heap p code kd) (h : Q (.builtin "re.Pattern.sub", [.ref p]) s) :
    wpAny M A (getMethod (.ref p) "sub" pl) Q E s := by
  obtain ⟨o, h1, h2, h3⟩ := x.typ
  exact getMethod_builtin (T := "re.Pattern") ⟨o, h1, h2⟩ plainAttrs_pat slot_sub type_sub (fun a e => by cases e; exact ⟨o, h1, h3⟩) h
noncomputable def find1L (l : List Nat) (pos : Nat) : Option (Nat × Nat) := find1 l.toArray l.length (l.length + 1 - pos) pos
noncomputable def find3L (l : List Nat) (pos : Nat) : Option (Nat × Nat) := find3 l.toArray l.length (l.length + 1 - pos) pos
theorem find1_le {text : Array Nat} {lim : Nat} : ∀ {f s b e : Nat}, find1 text lim f s = some (b, e) → s ≤ b ∧ b < e ∧ e ≤ lim
  | 0, _, _, _, h => nomatch h
  | f + 1, s, b, e, h => by
    unfold find1 at h
    by_cases h1 : (AtLine text s && decide (s < lim) && text.getD s 0 == 46) = true
    · rw [if_pos h1] at h; cases h
      simp only [Bool.and_eq_true, decide_eq_true_eq] at h1
      exact ⟨Nat.le_refl _, by omega, h1.1.2⟩
    · rw [if_neg h1] at h
      by_cases h2 : s < lim
      · rw [if_pos h2] at h; have := find1_le h; exact ⟨by omega, this.2.1, this.2.2⟩
      · rw [if_neg h2] at h; cases h
theorem find3_le {text : Array Nat} {lim : Nat} : ∀ {f s b e : Nat}, find3 text lim f s = some (b, e) → s ≤ b ∧ b < e ∧ e ≤ lim
  | 0, _, _, _, h => nomatch h
  | f + 1, s, b, e, h => by
    unfold find3 at h
    by_cases h1 : s ≥ lim
    · rw [if_pos h1] at h; cases h
    · rw [if_neg h1] at h
      cases hb : (text.getD s 0 == 10 || text.getD s 0 == 13)
      · rw [hb] at h; have := find3_le h; exact ⟨by omega, this.2.1, this.2.2⟩
      · rw [hb] at h; cases h
        unfold eolEnd
        split
        · rename_i q; simp only [Bool.and_eq_true, decide_eq_true_eq] at q; omega
        · omega
theorem finds1 (l : List Nat) (h : l.length ≤ 1000) : Finds C1 l (find1L l) where
  run := fun pos hp => by
    obtain ⟨k, m', a, b, c⟩ := search1 (text := l.toArray) pos false hp
    exact ⟨k, m', by have : (2 : Nat) ^ 64 = 18446744073709551616 := by decide
                     omega, b, c⟩
  le := fun _ _ _ e => find1_le e
theorem finds3 (l : List Nat) : Finds C3 l (find3L l) where
  run := fun pos hp => by
    obtain ⟨k, m', a, b, c⟩ := search3 (text := l.toArray) pos false hp
    exact ⟨k, m', by have : (2 : Nat) ^ 64 = 18446744073709551616 := by decide
                     omega, b, c⟩
  le := fun _ _ _ e => find3_le e
noncomputable def fixL (l : List Nat) : List Nat := subFrom (find3L l) [13, 10] l (l.length + 1) 0
noncomputable def quoteL (l : List Nat) : List Nat := subFrom (find1L l) [46, 46] l (l.length + 1) 0
theorem fix_call {n : Nat} {prog : Program} {w : World} {A : Around} {s : Shared} {h₀ : Heap} {L : Addr} {m : Str → Option Value} {R : Result → Shared → Prop}
   (C : Cx n w A h₀ L) (hn : n ≤ 50) (F : Fr h₀ L s.heap m) {l : List Nat} {t : Tok} (hl : l.length ≤ 1000)
   (k : ∀ t h' tk, Ext [] s.heap h' → R (.ok (.ret (.str (S (fixL l)) t))) { s with heap := h', toks := tk }) :
   codeAny (model prog w) A (.call (.ref 74) ⟨[.str (S l) t], []⟩) R s := by
  refine' enter (binds := [("data", .str (S l) t)]) C (le_lit hn rfl) F [] News.nil ?ho ?hcd ?hb ?hloc ?c1 ?c2 ?c3 ?c4 ?_
  ((case ho => k_is); (case hcd => k_is); (case hb => first | exact BindsTo.of_eq rfl | exact binds_K (by k_in) rfl (by k_is) rfl rfl rfl); (case hloc => exact locs rfl); (case c1 => rfl); (case c2 => rfl); (case c3 => rfl); (case c4 => decide))
  intro g L' h₁ hg C' F' N'
  refine C'.top_el fun pp loose mg mb T => ?_
  have X := C'.X
  iterate 4 walk1
  have P := (pat3 X).ext F'.keep
  refine pat_method P ?_
  dsimp only
  repeat' walk1
  rw [S_crlf]
  refine sub_call P.pat (let ⟨o, a, b, _⟩ := P.typ; ⟨o, a, b⟩) (.str l _) (.str [13, 10] _) (finds3 l) hl (by decide) (by decide) fun x h' tk hx he => ?_
  cases hx with
  | str _ t' =>
    have F2 : Fr g L' h' _ := fr_ext F' Own.nil he
    exact Done.intro F2 fun e => k _ _ _ e
theorem quotep_call {n : Nat} {prog : Program} {w : World} {A : Around} {s : Shared} {h₀ : Heap} {L : Addr} {m : Str → Option Value} {R : Result → Shared → Prop}
   (C : Cx n w A h₀ L) (hn : n ≤ 50) (F : Fr h₀ L s.heap m) {l : List Nat} {v : Value} (hv : TV 1 l v) (hl : l.length ≤ 1000)
   (k : ∀ x h' tk, TV 1 (quoteL l) x → Ext [] s.heap h' → R (.ok (.ret x)) { s with heap := h', toks := tk }) :
   codeAny (model prog w) A (.call (.ref 67) ⟨[v], []⟩) R s := by
  refine' enter (binds := [("bindata", v)]) C (le_lit hn rfl) F [] News.nil ?ho ?hcd ?hb ?hloc ?c1 ?c2 ?c3 ?c4 ?_
  ((case ho => k_is); (case hcd => k_is); (case hb => first | exact BindsTo.of_eq rfl | exact binds_K (by k_in) rfl (by k_is) rfl rfl rfl); (case hloc => exact locs rfl); (case c1 => rfl); (case c2 => rfl); (case c3 => rfl); (case c4 => decide))
  intro g L' h₁ hg C' F' N'
  refine C'.top_el fun pp loose mg mb T => ?_
  have X := C'.X
  iterate 4 walk1
  have P := (pat2 X).ext F'.keep
  refine pat_method P ?_
  dsimp only
  repeat' walk1
  refine sub_call P.pat (let ⟨o, a, b, _⟩ := P.typ; ⟨o, a, b⟩) hv (.bytes [46, 46] _ (by decide)) (finds1 l hl) hl (by decide) (by decide) fun x h' tk hx he => ?_
  have F2 : Fr g L' h' _ := fr_ext F' Own.nil he
  exact Done.intro F2 fun e => k _ _ _ hx e
theorem quotedata_call {n : Nat} {prog : Program} {w : World} {A : Around} {s : Shared} {h₀ : Heap} {L : Addr} {m : Str → Option Value} {R : Result → Shared → Prop}
   (C : Cx n w A h₀ L) (hn : n ≤ 50) (F : Fr h₀ L s.heap m) {l : List Nat} {t : Tok} (hl : l.length ≤ 1000) (hl2 : (fixL l).length ≤ 1000)
   (k : ∀ t h' tk, Ext [] s.heap h' → R (.ok (.ret (.str (S (quoteL (fixL l))) t))) { s with heap := h', toks := tk }) :
   codeAny (model prog w) A (.call (.ref 60) ⟨[.str (S l) t], []⟩) R s := by
  refine' enter (binds := [("data", .str (S l) t)]) C (le_lit hn rfl) F [] News.nil ?ho ?hcd ?hb ?hloc ?c1 ?c2 ?c3 ?c4 ?_
  ((case ho => k_is); (case hcd => k_is); (case hb => first | exact BindsTo.of_eq rfl | exact binds_K (by k_in) rfl (by k_is) rfl rfl rfl); (case hloc => exact locs rfl); (case c1 => rfl); (case c2 => rfl); (case c3 => rfl); (case c4 => decide))
  intro g L' h₁ hg C' F' N'
  refine C'.top_el fun pp loose mg mb T => ?_
  have X := C'.X
  iterate 4 walk1
  have P := (pat1 X).ext F'.keep
  refine pat_method P ?_
  dsimp only
  repeat' walk1
  have P3 := (pat3 X).ext F'.keep
  refine pat_method P3 ?_
  dsimp only
  repeat' walk1
  rw [S_crlf]
  refine sub_call P3.pat (let ⟨o, a, b, _⟩ := P3.typ; ⟨o, a, b⟩) (.str l _) (.str [13, 10] _) (finds3 l) hl (by decide) (by decide) fun x h' tk hx he => ?_
  cases hx with
  | str _ t' =>
    have F2 : Fr g L' h' _ := fr_ext F' Own.nil he
    have P2 := P.ext fun b o e => he b o (by simp) e
    dsimp only
    repeat' walk1
    refine sub_call P2.pat (let ⟨o, a, b, _⟩ := P2.typ; ⟨o, a, b⟩) (.str (fixL l) _) (.str [46, 46] _) (finds1 _ hl2) hl2 (by decide) (by decide) fun x h'' tk hx he2 => ?_
    cases hx with
    | str _ t'' =>
      have F3 : Fr g L' h'' _ := fr_ext F2 Own.nil he2
      exact Done.intro F3 fun e => k _ _ _ e
end Mine
end

section
open PySem PySem.W PyProof.Rows PySem.Calls
namespace Mine
noncomputable def qd : Bool → List Nat → List Nat
  | _, [] => []
  | s, c :: cs => if s && c == 46 then 46 :: 46 :: qd false cs else c :: qd (c == 10) cs
noncomputable def fx : Bool → List Nat → List Nat
  | _, [] => []
  | p, c :: cs => if c == 10 then (if p then fx false cs else 13 :: 10 :: fx false cs) else if c == 13 then 13 :: 10 :: fx true cs else c :: fx false cs
theorem getD_drop {l : List Nat} {s : Nat} (h : s < l.length) : l.drop s = l[s] :: l.drop (s + 1) := List.drop_eq_getElem_cons h
theorem arr_getD {l : List Nat} {s : Nat} (h : s < l.length) : l.toArray.getD s 0 = l[s] := by simp [Array.getD, h]
theorem find1_qd {l : List Nat} : ∀ (g s : Nat), s ≤ l.length → l.length - s < g → match find1 l.toArray l.length g s with
    | none => qd (AtLine l.toArray s) (l.drop s) = l.drop s
    | some (b, e) => e = b + 1 ∧ s ≤ b ∧ b < l.length ∧ qd (AtLine l.toArray s) (l.drop s) = (l.drop s).take (b - s) ++ ([46, 46] ++ qd (AtLine l.toArray (b + 1)) (l.drop (b + 1)))
  | 0, s, _, h => absurd h (Nat.not_lt_zero _)
  | g + 1, s, hs, hg => by
    unfold find1
    by_cases hlt : s < l.length
    · have hal : AtLine l.toArray (s + 1) = (l[s] == 10) := by
        simp only [AtLine, Nat.add_sub_cancel, arr_getD hlt]
        simp
      rw [getD_drop hlt, arr_getD hlt]
      by_cases hc : (AtLine l.toArray s && decide (s < l.length) && l[s] == 46) = true
      · rw [if_pos hc]
        simp only [Bool.and_eq_true, beq_iff_eq, decide_eq_true_eq] at hc
        refine ⟨rfl, Nat.le_refl _, hlt, ?_⟩
        rw [hal, hc.2]
        simp [qd, hc.1.1]
      · rw [if_neg hc, if_pos hlt]
        have ih := find1_qd (l := l) g (s + 1) hlt (fuel hg (Nat.lt_succ_self s) hlt)
        have hq : qd (AtLine l.toArray s) (l[s] :: l.drop (s + 1)) = l[s] :: qd (AtLine l.toArray (s + 1)) (l.drop (s + 1)) := by
          rw [hal, qd, if_neg]
          intro h
          apply hc
          simp only [Bool.and_eq_true] at h ⊢
          exact ⟨⟨h.1, by simpa using hlt⟩, h.2⟩
        rw [hq]
        cases hf : find1 l.toArray l.length g (s + 1) with
        | none => rw [hf] at ih; simp only at ih ⊢; rw [ih]
        | some be =>
          obtain ⟨b, e⟩ := be
          rw [hf] at ih
          simp only at ih ⊢
          obtain ⟨h1, h2, h3, h4⟩ := ih
          refine ⟨h1, Nat.le_of_succ_le h2, h3, ?_⟩
          rw [h4]
          have : b - s = (b - (s + 1)) + 1 := sub_step h2
          rw [this, List.take_succ_cons]; rfl
    · have e : s = l.length := eq_of_no hs hlt
      subst e
      have hd : l.drop l.length = [] := List.drop_length
      rw [if_neg (by simp), if_neg (by omega), hd]
      simp [qd]
theorem sub_qd {l : List Nat} : ∀ (f pos : Nat), pos ≤ l.length → l.length - pos < f → subFrom (find1L l) [46, 46] l f pos = qd (AtLine l.toArray pos) (l.drop pos)
  | 0, _, _, h => absurd h (Nat.not_lt_zero _)
  | f + 1, pos, hp, hf => by
    have h1 := find1_qd (l := l) (l.length + 1 - pos) pos hp (fuel0 hp)
    unfold subFrom find1L
    cases hq : find1 l.toArray l.length (l.length + 1 - pos) pos with
    | none => rw [hq] at h1; exact h1.symm
    | some be =>
      obtain ⟨b, e⟩ := be
      rw [hq] at h1
      simp only at h1 ⊢
      obtain ⟨rfl, h2, h3, h4⟩ := h1
      rw [h4, ← sub_qd f (b + 1) h3 (fuel hf (Nat.lt_succ_of_le h2) h3)]; rfl
theorem quoteL_qd (l : List Nat) : quoteL l = qd true l := by
  unfold quoteL
  rw [sub_qd _ _ (Nat.zero_le _) (by omega)]
  rfl
theorem fx_flag {p : Bool} {c : Nat} {cs : List Nat} (h : c ≠ 10) : fx p (c :: cs) = fx false (c :: cs) := by
  simp [fx, h]
theorem find3_fx {l : List Nat} : ∀ (g s : Nat), s ≤ l.length → l.length - s < g → match find3 l.toArray l.length g s with
    | none => fx false (l.drop s) = l.drop s
    | some (b, e) => s ≤ b ∧ b < e ∧ e ≤ l.length ∧ fx false (l.drop s) = (l.drop s).take (b - s) ++ ([13, 10] ++ fx false (l.drop e))
  | 0, s, _, h => absurd h (Nat.not_lt_zero _)
  | g + 1, s, hs, hg => by
    unfold find3
    by_cases hlt : s < l.length
    · rw [if_neg (by omega), getD_drop hlt, arr_getD hlt]
      by_cases hc : (l[s] == 10 || l[s] == 13) = true
      · rw [if_pos hc]
        simp only [Bool.or_eq_true, beq_iff_eq] at hc
        simp only [Nat.sub_self, List.take_zero, List.nil_append]
        unfold eolEnd
        rw [arr_getD hlt]
        rcases hc with hc | hc
        · rw [if_neg (by simp [hc])]
          exact ⟨Nat.le_refl _, Nat.lt_succ_self _, hlt, by simp [fx, hc]⟩
        · by_cases h2 : s + 1 < l.length
          · rw [arr_getD h2]
            by_cases h3 : l[s + 1] = 10
            · rw [if_pos (by simp [hc, h2, h3])]
              refine ⟨Nat.le_refl _, Nat.lt_add_of_pos_right (by decide), h2, ?_⟩
              rw [getD_drop h2]
              simp [fx, hc, h3]
            · rw [if_neg (by simp [h3])]
              refine ⟨Nat.le_refl _, Nat.lt_succ_self _, hlt, ?_⟩
              rw [getD_drop h2]
              have : fx false (l[s] :: l[s + 1] :: l.drop (s + 1 + 1)) = 13 :: 10 :: fx true (l[s + 1] :: l.drop (s + 1 + 1)) := by simp [fx, hc]
              rw [this, fx_flag h3]; rfl
          · rw [if_neg (by simp; omega)]
            refine ⟨Nat.le_refl _, Nat.lt_succ_self _, hlt, ?_⟩
            have hd : l.drop (s + 1) = [] := List.drop_eq_nil_of_le (by omega)
            rw [hd]; simp [fx, hc]
      · rw [if_neg hc]
        have ih := find3_fx (l := l) g (s + 1) hlt (fuel hg (Nat.lt_succ_self s) hlt)
        simp only [Bool.or_eq_true, beq_iff_eq, not_or] at hc
        have hq : fx false (l[s] :: l.drop (s + 1)) = l[s] :: fx false (l.drop (s + 1)) := by simp [fx, hc]
        rw [hq]
        cases hf : find3 l.toArray l.length g (s + 1) with
        | none => rw [hf] at ih; simp only at ih ⊢; rw [ih]
        | some be =>
          obtain ⟨b, e⟩ := be
          rw [hf] at ih
          simp only at ih ⊢
          obtain ⟨h1, h2, h3, h4⟩ := ih
          refine ⟨Nat.le_of_succ_le h1, h2, h3, ?_⟩
          rw [h4]
          have : b - s = (b - (s + 1)) + 1 := sub_step h1
          rw [this, List.take_succ_cons]; rfl
    · have e : s = l.length := eq_of_no hs hlt
      subst e
      have hd : l.drop l.length = [] := List.drop_length
      rw [if_pos (Nat.le_refl _), hd]
      simp [fx]
theorem sub_fx {l : List Nat} : ∀ (f pos : Nat), pos ≤ l.length → l.length - pos < f → subFrom (find3L l) [13, 10] l f pos = fx false (l.drop pos)
  | 0, _, _, h => absurd h (Nat.not_lt_zero _)
  | f + 1, pos, hp, hf => by
    have h1 := find3_fx (l := l) (l.length + 1 - pos) pos hp (fuel0 hp)
    unfold subFrom find3L
    cases hq : find3 l.toArray l.length (l.length + 1 - pos) pos with
    | none => rw [hq] at h1; exact h1.symm
    | some be =>
      obtain ⟨b, e⟩ := be
      rw [hq] at h1
      simp only at h1 ⊢
      obtain ⟨h2, h3, h4, h5⟩ := h1
      rw [h5, ← sub_fx f e h4 (fuel hf (Nat.lt_of_le_of_lt h2 h3) h4)]; rfl
theorem fixL_fx (l : List Nat) : fixL l = fx false l := by
  unfold fixL
  rw [sub_fx _ _ (Nat.zero_le _) (by omega)]
  rfl
end Mine
end

section
open PySem PySem.W PyProof.Rows PySem.Calls
namespace Mine
noncomputable def tl (a : Nat) (md : Bool) (b : Nat) : Bool → List Row → List Nat
  | _, [] => []
  | seen, r :: rs => (List.replicate (dotsOf a b seen r) 46 ++ r.1) ++ (endOf md r ++ tl a md b (r.2.getLast? == some 10) rs)
theorem told_tl (rows : List Row) (a : Nat) (md : Bool) (b : Nat) : told rows a md b = tl a md b true rows := by
  have key : ∀ (rows : List Row) (acc : List Nat) (sn : Bool), (rows.foldl (toldStep a md b) (acc, sn)).1 = acc ++ tl a md b sn rows := by
    intro rows
    induction rows with
    | nil => intro acc sn; simp [tl]
    | cons r rs ih =>
      intro acc sn
      have h1 : toldStep a md b (acc, sn) r = (acc ++ (List.replicate (dotsOf a b sn r) 46 ++ r.1 ++ endOf md r), r.2.getLast? == some 10) := rfl
      rw [List.foldl_cons, h1, ih]
      simp [tl]
  exact key rows [] true
noncomputable def Clean (x : List Nat) : Prop := ∀ c ∈ x, c ≠ 13 ∧ c ≠ 10
noncomputable def Good : Bool → List Row → Prop
  | _, [] => False
  | pc, r :: rs => Clean r.1 ∧ ((rs = [] ∧ r.2 = []) ∨ ((r.2 = [13] ∨ r.2 = [10] ∨ r.2 = [13, 10]) ∧ (pc = true → r.1 = [] → r.2 ≠ [10]) ∧ Good (r.2 == [13]) rs))
theorem clean_dots {k : Nat} {x : List Nat} (h : Clean x) : Clean (List.replicate k 46 ++ x) := by
  intro c hc
  rcases List.mem_append.mp hc with hc | hc
  · rw [List.eq_of_mem_replicate hc]; decide
  · exact h c hc
theorem fx_clean {x : List Nat} (h : Clean x) (rest : List Nat) : ∀ p, x ≠ [] → fx p (x ++ rest) = x ++ fx false rest := by
  induction x with
  | nil => intro p h; exact absurd rfl h
  | cons c x ih =>
    intro p _
    have h0 := h c (.head _)
    have : fx p (c :: (x ++ rest)) = c :: fx false (x ++ rest) := by simp [fx, h0]
    rw [List.cons_append, this]
    cases x with
    | nil => rfl
    | cons d x => rw [ih (fun y hy => h y (.tail _ hy)) false (by simp)]; rfl
theorem qd_false {x : List Nat} (h : Clean x) (rest : List Nat) : qd false (x ++ rest) = x ++ qd false rest := by
  induction x with
  | nil => rfl
  | cons c x ih =>
    have h0 := h c (.head _)
    rw [List.cons_append, qd]
    simp only [Bool.false_and, Bool.false_eq_true, if_false]
    have : (c == 10) = false := by simp [h0.2]
    rw [this, ih fun y hy => h y (.tail _ hy)]; rfl
theorem qd_clean {x : List Nat} (h : Clean x) (rest : List Nat) (sol : Bool) (hx : x ≠ []) : qd sol (x ++ rest) = (if sol && x.head? == some 46 then 46 :: x else x) ++ qd false rest := by
  cases x with
  | nil => exact absurd rfl hx
  | cons c x =>
    have h0 := h c (.head _)
    have hc : (c == 10) = false := by simp [h0.2]
    have hq := qd_false (fun y hy => h y (.tail _ hy)) rest (x := x)
    rw [List.cons_append, qd]
    by_cases h1 : (sol && c == 46) = true
    · rw [if_pos h1, if_pos (by simpa using h1), hq]
      have : c = 46 := by simp at h1; exact h1.2
      rw [this]; rfl
    · rw [if_neg h1, if_neg (by simpa using h1), hc, hq]; rfl
theorem fx_told {a b : Nat} {md : Bool} : ∀ {rows : List Row} {pc p seen : Bool}, Good pc rows → (p = true → pc = true ∧ md = false) → fx p (tl a md b seen rows) = tl a true b seen rows := by
  intro rows
  induction rows with
  | nil => intro pc p seen h; exact h.elim
  | cons r rs ih =>
    intro pc p seen h hp
    obtain ⟨hc, h⟩ := h
    have hcl : Clean (List.replicate (dotsOf a b seen r) 46 ++ r.1) := clean_dots hc
    rcases h with ⟨rfl, he⟩ | ⟨he, hpc, hg⟩
    · simp only [tl, endOf, he, List.isEmpty_nil, Bool.not_true, Bool.and_false, Bool.false_eq_true, if_false, List.append_nil]
      generalize List.replicate (dotsOf a b seen r) 46 ++ r.1 = x at hcl
      cases x with
      | nil => rfl
      | cons c x => have := fx_clean hcl [] p (by simp); rw [List.append_nil] at this; rw [this]; simp [fx]
    · have hne : r.2.isEmpty = false := by rcases he with h | h | h <;> simp [h]
      have e2 : endOf true r = [13, 10] := by simp [endOf, hne]
      have tailE : ∀ p', (p' = true → pc = true ∧ md = false ∧ r.1 = []) → fx p' (endOf md r ++ tl a md b (r.2.getLast? == some 10) rs) = [13, 10] ++ tl a true b (r.2.getLast? == some 10) rs := by
        intro p' hp'
        cases md with
        | true =>
          have hp0 : p' = false := by cases p' with | false => rfl | true => exact absurd (hp' rfl).2.1 (by simp)
          rw [e2, hp0]
          have := ih (pc := (r.2 == [13])) (p := false) (seen := (r.2.getLast? == some 10)) hg (by simp)
          simp only [List.cons_append, List.nil_append, fx]
          simpa using this
        | false =>
          have e3 : endOf false r = r.2 := by simp [endOf]
          rw [e3]
          rcases he with h | h | h
          · have := ih (pc := (r.2 == [13])) (p := true) (seen := (r.2.getLast? == some 10)) hg (by simp [h])
            rw [h] at this ⊢
            simp only [List.cons_append, List.nil_append, fx]
            simpa using this
          · have := ih (pc := (r.2 == [13])) (p := false) (seen := (r.2.getLast? == some 10)) hg (by simp)
            have hp0 : p' = false := by
              cases p' with
              | false => rfl
              | true => exact absurd h (hpc (hp' rfl).1 (hp' rfl).2.2)
            rw [h] at this ⊢
            rw [hp0]
            simp only [List.cons_append, List.nil_append, fx]
            simpa using this
          · have := ih (pc := (r.2 == [13])) (p := false) (seen := (r.2.getLast? == some 10)) hg (by simp)
            rw [h] at this ⊢
            simp only [List.cons_append, List.nil_append, fx]
            simpa using this
      rw [tl, tl, e2]
      by_cases hx : List.replicate (dotsOf a b seen r) 46 ++ r.1 = []
      · rw [hx, List.nil_append, List.nil_append]
        refine tailE p fun h => ⟨(hp h).1, (hp h).2, ?_⟩
        exact (List.append_eq_nil_iff.mp hx).2
      · rw [fx_clean hcl _ p hx, tailE false (by simp)]
theorem qd_end {md : Bool} {r : Row} (he : r.2 = [13] ∨ r.2 = [10] ∨ r.2 = [13, 10]) (sol : Bool) (rest : List Nat) : qd sol (endOf md r ++ rest) = endOf md r ++ qd (md || r.2.getLast? == some 10) rest := by
  have hne : r.2.isEmpty = false := by rcases he with h | h | h <;> simp [h]
  cases md with
  | true =>
    have e2 : endOf true r = [13, 10] := by simp [endOf, hne]
    rw [e2]; simp [qd]
  | false =>
    have e3 : endOf false r = r.2 := by simp [endOf]
    rw [e3]
    rcases he with h | h | h <;> rw [h] <;> simp [qd]
theorem qd_told {a b a' b' : Nat} {md : Bool} (hm : (md = true ∧ a' = a ∧ b' = b + 1) ∨ (md = false ∧ b = 0 ∧ b' = 0 ∧ a' = a + 1)) : ∀ {rows : List Row} {pc seen sol : Bool}, Good pc rows → sol = (md || seen) → qd sol (tl a md b seen rows) = tl a' md b' seen rows := by
  intro rows
  induction rows with
  | nil => intro pc seen sol h; exact h.elim
  | cons r rs ih =>
    intro pc seen sol h hs
    obtain ⟨hc, h⟩ := h
    have hcl : Clean (List.replicate (dotsOf a b seen r) 46 ++ r.1) := clean_dots hc
    have hx : ∀ rest, (List.replicate (dotsOf a b seen r) 46 ++ r.1) ≠ [] → qd sol ((List.replicate (dotsOf a b seen r) 46 ++ r.1) ++ rest) = (List.replicate (dotsOf a' b' seen r) 46 ++ r.1) ++ qd false rest := by
      intro rest hne
      rw [qd_clean hcl rest sol hne]
      refine congrArg (· ++ qd false rest) ?_
      by_cases hd : r.1.head? = some 46
      · have hh : (List.replicate (dotsOf a b seen r) 46 ++ r.1).head? = some 46 := by
          cases hk : dotsOf a b seen r with
          | zero => simpa using hd
          | succ k => simp [List.replicate_succ]
        rw [hh]
        simp only [BEq.rfl, Bool.and_true]
        rcases hm with ⟨rfl, rfl, rfl⟩ | ⟨rfl, rfl, rfl, rfl⟩
        · rw [hs]
          simp only [Bool.true_or, if_true, dotsOf, hd, BEq.rfl]
          rw [← Nat.add_assoc, List.replicate_succ]; rfl
        · rw [hs]
          simp only [Bool.false_or, dotsOf, hd, BEq.rfl, if_true]
          cases seen with
          | true => simp [List.replicate_succ]
          | false => simp
      · have hk : ∀ x y, dotsOf x y seen r = 0 := by intro x y; simp [dotsOf, hd]
        rw [hk, hk]
        simp [hd]
    have hx0 : (List.replicate (dotsOf a b seen r) 46 ++ r.1) = [] → (List.replicate (dotsOf a' b' seen r) 46 ++ r.1) = [] := by
      intro h0
      have := (List.append_eq_nil_iff.mp h0).2
      rw [this]
      have hk : dotsOf a' b' seen r = 0 := by simp [dotsOf, this]
      rw [hk]; rfl
    rcases h with ⟨rfl, he⟩ | ⟨he, hpc, hg⟩
    · simp only [tl, endOf, he, List.isEmpty_nil, Bool.not_true, Bool.and_false, Bool.false_eq_true, if_false, List.append_nil]
      by_cases h0 : (List.replicate (dotsOf a b seen r) 46 ++ r.1) = []
      · rw [h0, hx0 h0]; rfl
      · have := hx [] h0
        rw [List.append_nil] at this
        rw [this]; simp [qd]
    · have hi := ih (pc := (r.2 == [13])) (seen := (r.2.getLast? == some 10)) (sol := (md || r.2.getLast? == some 10)) hg rfl
      rw [tl, tl]
      by_cases h0 : (List.replicate (dotsOf a b seen r) 46 ++ r.1) = []
      · rw [h0, hx0 h0, List.nil_append, List.nil_append, qd_end he, hi]
      · rw [hx _ h0, qd_end he, hi]
theorem fix_told {rows : List Row} (h : Good false rows) (a b : Nat) (md : Bool) : fixL (told rows a md b) = told rows a true b := by
  rw [fixL_fx, told_tl, told_tl]; exact fx_told h (by simp)
theorem quote_told {rows : List Row} (h : Good false rows) (a b : Nat) : quoteL (told rows a true b) = told rows a true (b + 1) := by
  rw [quoteL_qd, told_tl, told_tl]; exact qd_told (.inl ⟨rfl, rfl, rfl⟩) h rfl
theorem quote_told0 {rows : List Row} (h : Good false rows) (a : Nat) : quoteL (told rows a false 0) = told rows (a + 1) false 0 := by
  rw [quoteL_qd, told_tl, told_tl]; exact qd_told (.inr ⟨rfl, rfl, rfl, rfl⟩) h rfl
end Mine
end

section
open PySem PySem.W PyProof.Rows PySem.Calls
namespace Mine
noncomputable def endNext (pe : Option (List Nat)) (n : Nat) : List Nat := if endRaw n = [10] ∧ rowOf n = [] ∧ pe = some [13] then [13, 10] else endRaw n
noncomputable def rowsFrom : Option (List Nat) → List Nat → List Row
  | _, [] => []
  | pe, n :: ns => (rowOf n, endNext pe n) :: rowsFrom (some (endNext pe n)) ns
theorem fold_rows : ∀ (ns : List Nat) (acc : List Row), ns.foldl rowStep acc = acc ++ rowsFrom (acc.getLast?.map (·.2)) ns
  | [], acc => by simp [rowsFrom]
  | n :: ns, acc => by
    rw [List.foldl_cons, fold_rows ns]
    have h1 : rowStep acc n = acc ++ [(rowOf n, endNext (acc.getLast?.map (·.2)) n)] := rfl
    rw [h1]
    simp [rowsFrom]
theorem endRaw_or (n : Nat) : endRaw n = [13] ∨ endRaw n = [10] ∨ endRaw n = [13, 10] := by unfold endRaw; split <;> simp
theorem rest_ok (n : Nat) : ∀ c ∈ restOf n, c ≠ 13 ∧ c ≠ 10 ∧ c < 256 := by
  unfold restOf
  split
  · intro c hc; cases hc
  · intro c hc; rw [List.mem_singleton.mp hc]; decide
  · intro c hc; simp at hc; rcases hc with rfl | rfl <;> decide
  · split
    · intro c hc; rw [List.mem_singleton.mp hc]; decide
    · rename_i h
      intro c hc
      rw [List.mem_singleton.mp hc]
      exact ⟨fun e => h (.inr (.inl e)), fun e => h (.inr (.inr e)), Nat.mod_lt _ (by decide)⟩
theorem row_ok (n : Nat) : ∀ c ∈ rowOf n, c ≠ 13 ∧ c ≠ 10 ∧ c < 256 := by
  intro c hc
  rcases List.mem_append.mp hc with hc | hc
  · rw [List.eq_of_mem_replicate hc]; decide
  · exact rest_ok n c hc
theorem good_from (k : Nat) : ∀ (ns : List Nat) (pe : Option (List Nat)), Good (pe == some [13]) (rowsFrom pe ns ++ [(List.replicate k 46, [])])
  | [], pe => ⟨fun c hc => by rw [List.eq_of_mem_replicate hc]; decide, .inl ⟨rfl, rfl⟩⟩
  | n :: ns, pe => by
    have ih := good_from k ns (some (endNext pe n))
    refine ⟨fun c hc => ⟨(row_ok n c hc).1, (row_ok n c hc).2.1⟩, .inr ⟨?_, ?_, ?_⟩⟩
    · show endNext pe n = [13] ∨ endNext pe n = [10] ∨ endNext pe n = [13, 10]
      unfold endNext
      split
      · simp
      · exact endRaw_or n
    · intro hp hr
      show endNext pe n ≠ [10]
      have hr' : rowOf n = [] := hr
      unfold endNext
      split
      · simp
      · rename_i h
        exact fun e => h ⟨e, hr', by simpa using hp⟩
    · simpa using ih
theorem good_rows (ns : List Nat) : Good false (rowsOf ns) := by
  unfold rowsOf
  rw [fold_rows]
  exact good_from _ ns none
theorem from_small : ∀ (ns : List Nat) (pe : Option (List Nat)), ∀ r ∈ rowsFrom pe ns, (r.1.length ≤ 4 ∧ r.2.length ≤ 2) ∧ (∀ c ∈ r.1, c < 256) ∧ ∀ c ∈ r.2, c < 256
  | [], _, r, h => nomatch h
  | n :: ns, pe, r, h => by
    rcases List.mem_cons.mp h with rfl | h
    · have q4 : (restOf n).length ≤ 2 := by unfold restOf; split <;> (try split) <;> simp
      have q5 : n % 3 < 3 := Nat.mod_lt _ (by decide)
      have he : endNext pe n = [13] ∨ endNext pe n = [10] ∨ endNext pe n = [13, 10] := by
        unfold endNext; split
        · simp
        · exact endRaw_or n
      refine ⟨⟨by simp [rowOf]; omega, ?_⟩, fun c hc => (row_ok n c hc).2.2, ?_⟩
      · rcases he with h | h | h <;> simp [h]
      · intro c hc
        show c < 256
        have hc' : c ∈ endNext pe n := hc
        rcases he with h | h | h <;> rw [h] at hc' <;> simp at hc' <;> omega
    · exact from_small ns _ r h
theorem from_len : ∀ (ns : List Nat) (pe : Option (List Nat)), (rowsFrom pe ns).length = ns.length
  | [], _ => rfl
  | n :: ns, pe => by simp [rowsFrom, from_len ns]
theorem rows_small {ns : List Nat} (h : ns.length ≤ 6) : Small (rowsOf ns) := by
  unfold rowsOf
  rw [fold_rows]
  refine ⟨by simp [from_len]; omega, fun r hr => ?_⟩
  simp only [List.nil_append] at hr
  rcases List.mem_append.mp hr with hr | hr
  · exact (from_small ns _ r hr).1
  · rw [List.mem_singleton.mp hr]
    have : ns.sum % 2 < 2 := Nat.mod_lt _ (by decide)
    simp; omega
theorem rows_256 (ns : List Nat) : ∀ r ∈ rowsOf ns, (∀ c ∈ r.1, c < 256) ∧ ∀ c ∈ r.2, c < 256 := by
  unfold rowsOf
  rw [fold_rows]
  intro r hr
  simp only [List.nil_append] at hr
  rcases List.mem_append.mp hr with hr | hr
  · exact (from_small ns _ r hr).2
  · rw [List.mem_singleton.mp hr]
    exact ⟨fun c hc => by rw [List.eq_of_mem_replicate hc]; decide, fun c hc => nomatch hc⟩
theorem told_256 {a b : Nat} {md : Bool} : ∀ {rows : List Row} {sn : Bool}, (∀ r ∈ rows, (∀ c ∈ r.1, c < 256) ∧ ∀ c ∈ r.2, c < 256) → ∀ c ∈ tl a md b sn rows, c < 256
  | [], _, _, c, hc => nomatch hc
  | r :: rs, sn, h, c, hc => by
    have h0 := h r (.head _)
    simp only [tl, List.mem_append] at hc
    rcases hc with (hc | hc) | hc | hc
    · rw [List.eq_of_mem_replicate hc]; decide
    · exact h0.1 c hc
    · unfold endOf at hc
      split at hc
      · simp at hc; omega
      · exact h0.2 c hc
    · exact told_256 (fun x hx => h x (.tail _ hx)) c hc
end Mine
end

section
open PySem PySem.W PyProof.Rows PySem.Calls
namespace Mine
noncomputable def hasE : Bool → List Row → Bool
  | _, [] => false
  | sn, r :: rs => (r.1.head? == some 46 && sn) || hasE (r.2.getLast? == some 10) rs
noncomputable def hasL : Bool → List Row → Bool
  | _, [] => false
  | sn, r :: rs => (r.1.head? == some 46 && !sn) || hasL (r.2.getLast? == some 10) rs
noncomputable def hasU : List Row → Bool
  | [] => false
  | r :: rs => (r.2 == [13] || r.2 == [10]) || hasU rs
theorem flags_fold : ∀ (rows : List Row) (e l u sn : Bool), ∃ z, rows.foldl rdStep (e, l, u, sn) = (e || hasE sn rows, l || hasL sn rows, u || hasU rows, z)
  | [], e, l, u, sn => ⟨sn, by simp [hasE, hasL, hasU]⟩
  | r :: rs, e, l, u, sn => by
    rw [List.foldl_cons]
    obtain ⟨z, hz⟩ := flags_fold rs (rdStep (e, l, u, sn) r).1 (rdStep (e, l, u, sn) r).2.1 (rdStep (e, l, u, sn) r).2.2.1 (rdStep (e, l, u, sn) r).2.2.2
    refine ⟨z, hz.trans ?_⟩
    simp only [rdStep, hasE, hasL, hasU]
    by_cases h : (r.1.head? == some 46) = true
    · simp [h, Bool.or_assoc]
    · simp only [Bool.not_eq_true] at h
      simp [h, Bool.or_assoc]
theorem flags_are (rows : List Row) : (flags rows).1 = hasE true rows ∧ (flags rows).2.1 = hasL true rows ∧ (flags rows).2.2.1 = hasU rows := by
  obtain ⟨z, hz⟩ := flags_fold rows false false false true
  unfold flags
  rw [hz]; simp
theorem cancel {e R R' : List Nat} {c : Nat} {e' : List Nat} (he : e = c :: e') (hc : c = 13 ∨ c = 10) : ∀ {x x' : List Nat}, Clean x → Clean x' → x ++ (e ++ R) = x' ++ (e ++ R') → x = x' ∧ R = R'
  | [], [], _, _, h => ⟨rfl, List.append_cancel_left h⟩
  | [], y :: x', _, h', h => by
    rw [he] at h
    simp only [List.nil_append, List.cons_append, List.cons.injEq] at h
    have := h' y (.head _)
    rw [← h.1] at this
    rcases hc with rfl | rfl
    · exact absurd rfl this.1
    · exact absurd rfl this.2
  | y :: x, [], h', _, h => by
    rw [he] at h
    simp only [List.nil_append, List.cons_append, List.cons.injEq] at h
    have := h' y (.head _)
    rw [h.1] at this
    rcases hc with rfl | rfl
    · exact absurd rfl this.1
    · exact absurd rfl this.2
  | y :: x, z :: x', h1, h2, h => by
    simp only [List.cons_append, List.cons.injEq] at h
    obtain ⟨rfl, h⟩ := h
    obtain ⟨rfl, hR⟩ := cancel he hc (fun c hc => h1 c (.tail _ hc)) (fun c hc => h2 c (.tail _ hc)) h
    exact ⟨rfl, hR⟩
theorem end_head {md : Bool} {r : Row} (he : r.2 = [13] ∨ r.2 = [10] ∨ r.2 = [13, 10]) : ∃ c e', endOf md r = c :: e' ∧ (c = 13 ∨ c = 10) := by
  have hne : r.2.isEmpty = false := by rcases he with h | h | h <;> simp [h]
  cases md with
  | true => exact ⟨13, [10], by simp [endOf, hne], .inl rfl⟩
  | false =>
    have : endOf false r = r.2 := by simp [endOf]
    rw [this]
    rcases he with h | h | h
    · exact ⟨13, [], h, .inl rfl⟩
    · exact ⟨10, [], h, .inr rfl⟩
    · exact ⟨13, [10], h, .inl rfl⟩
theorem dots_eq {a b a' b' : Nat} {sn : Bool} {r : Row} (h : List.replicate (dotsOf a b sn r) 46 ++ r.1 = List.replicate (dotsOf a' b' sn r) 46 ++ r.1) : dotsOf a b sn r = dotsOf a' b' sn r := by
  have := congrArg List.length h
  simp at this; exact this
theorem tl_dots {a b a' b' : Nat} {md : Bool} : ∀ {rows : List Row} {pc sn : Bool}, Good pc rows → tl a md b sn rows = tl a' md b' sn rows → (hasE sn rows = true → a + b = a' + b') ∧ (hasL sn rows = true → b = b')
  | [], _, _, h, _ => h.elim
  | r :: rs, pc, sn, h, ht => by
    obtain ⟨hc, h⟩ := h
    have key : dotsOf a b sn r = dotsOf a' b' sn r ∧ (hasE (r.2.getLast? == some 10) rs = true → a + b = a' + b') ∧ (hasL (r.2.getLast? == some 10) rs = true → b = b') := by
      rcases h with ⟨rfl, he⟩ | ⟨he, _, hg⟩
      · simp only [tl, endOf, he, List.isEmpty_nil, Bool.not_true, Bool.and_false, Bool.false_eq_true, if_false, List.append_nil] at ht
        exact ⟨dots_eq ht, by simp [hasE], by simp [hasL]⟩
      · obtain ⟨c, e', hce, hcc⟩ := end_head (md := md) he
        simp only [tl] at ht
        obtain ⟨h1, h2⟩ := cancel hce hcc (clean_dots hc) (clean_dots hc) ht
        exact ⟨dots_eq h1, tl_dots hg h2⟩
    obtain ⟨k1, k2, k3⟩ := key
    constructor
    · intro hE
      simp only [hasE, Bool.or_eq_true, Bool.and_eq_true] at hE
      rcases hE with ⟨h1, h2⟩ | hE
      · simp only [dotsOf, h1, h2, if_true] at k1; exact k1
      · exact k2 hE
    · intro hL
      simp only [hasL, Bool.or_eq_true, Bool.and_eq_true, Bool.not_eq_true'] at hL
      rcases hL with ⟨h1, h2⟩ | hL
      · simp only [dotsOf, h1, h2, if_true, Bool.false_eq_true, if_false] at k1; omega
      · exact k3 hL
theorem end_len {r : Row} (he : r.2 = [13] ∨ r.2 = [10] ∨ r.2 = [13, 10]) : (endOf true r).length = (endOf false r).length + (if (r.2 == [13] || r.2 == [10]) = true then 1 else 0) := by
  have hne : r.2.isEmpty = false := by rcases he with h | h | h <;> simp [h]
  have h1 : endOf true r = [13, 10] := by simp [endOf, hne]
  have h2 : endOf false r = r.2 := by simp [endOf]
  rw [h1, h2]
  rcases he with h | h | h <;> simp [h]
theorem tl_len {a b : Nat} : ∀ {rows : List Row} {pc sn : Bool}, Good pc rows → (tl a false b sn rows).length ≤ (tl a true b sn rows).length ∧ (hasU rows = true → (tl a false b sn rows).length < (tl a true b sn rows).length)
  | [], _, _, h => h.elim
  | r :: rs, pc, sn, h => by
    obtain ⟨hc, h⟩ := h
    rcases h with ⟨rfl, he⟩ | ⟨he, _, hg⟩
    · simp [tl, endOf, he, hasU]
    · have ih := tl_len (a := a) (b := b) (sn := (r.2.getLast? == some 10)) hg
      have hl := end_len he
      simp only [tl, List.length_append, hasU, Bool.or_eq_true]
      constructor
      · have := ih.1
        split at hl <;> omega
      · intro hu
        have h1 := ih.1
        rcases hu with hu | hu
        · have : (r.2 == [13] || r.2 == [10]) = true := by simpa using hu
          rw [if_pos this] at hl
          omega
        · have h2 := ih.2 hu
          split at hl <;> omega
theorem tl_same {a b : Nat} : ∀ {rows : List Row} {pc sn : Bool}, Good pc rows → hasU rows = false → tl a false b sn rows = tl a true b sn rows
  | [], _, _, h, _ => h.elim
  | r :: rs, pc, sn, h, hu => by
    obtain ⟨hc, h⟩ := h
    simp only [hasU, Bool.or_eq_false_iff] at hu
    rcases h with ⟨rfl, he⟩ | ⟨he, _, hg⟩
    · simp [tl, endOf, he]
    · have ih := tl_same (a := a) (b := b) (sn := (r.2.getLast? == some 10)) hg hu.2
      simp only [tl, ih]
      have h3 : r.2 = [13, 10] := by
        rcases he with h | h | h
        · rw [h] at hu; simp at hu
        · rw [h] at hu; simp at hu
        · exact h
      have : endOf false r = endOf true r := by simp [endOf, h3]
      rw [this]
theorem tl_noE {a b a' : Nat} {md : Bool} : ∀ {rows : List Row} {sn : Bool}, hasE sn rows = false → tl a md b sn rows = tl a' md b sn rows
  | [], _, _ => rfl
  | r :: rs, sn, h => by
    simp only [hasE, Bool.or_eq_false_iff] at h
    simp only [tl, tl_noE (a := a) (a' := a') h.2]
    have : dotsOf a b sn r = dotsOf a' b sn r := by
      unfold dotsOf
      split
      · rename_i h1
        have : sn = false := by simpa [h1] using h.1
        simp [this]
      · rfl
    rw [this]
theorem tl_noD {a b a' b' : Nat} {md : Bool} : ∀ {rows : List Row} {sn : Bool}, hasE sn rows = false → hasL sn rows = false → tl a md b sn rows = tl a' md b' sn rows
  | [], _, _, _ => rfl
  | r :: rs, sn, h, h2 => by
    simp only [hasE, Bool.or_eq_false_iff] at h
    simp only [hasL, Bool.or_eq_false_iff] at h2
    simp only [tl, tl_noD (a := a) (a' := a') (b := b) (b' := b') h.2 h2.2]
    have : dotsOf a b sn r = dotsOf a' b' sn r := by
      unfold dotsOf
      split
      · rename_i h1
        have e1 : sn = false := by simpa [h1] using h.1
        have e2 := h2.1
        simp [h1, e1] at e2
      · rfl
    rw [this]
noncomputable def Fine (st : Stt) : Prop := st.2.1 = false → st.2.2 = 0
theorem lev_of_told {rows : List Row} (hg : Good false rows) {s s' : Stt} (h1 : Fine s) (h2 : Fine s') (h : told rows s.1 s.2.1 s.2.2 = told rows s'.1 s'.2.1 s'.2.2) : levOf (flags rows) s = levOf (flags rows) s' := by
  obtain ⟨a, md, b⟩ := s
  obtain ⟨a', md', b'⟩ := s'
  obtain ⟨e1, e2, e3⟩ := flags_are rows
  simp only [told_tl] at h
  simp only [Fine] at h1 h2
  unfold levOf
  rw [e1, e2, e3]
  dsimp only
  have same : ∀ {a a' b b' : Nat} {md : Bool}, tl a md b true rows = tl a' md b' true rows → (if hasE true rows = true then a + b else if hasL true rows = true then b else 0) = (if hasE true rows = true then a' + b' else if hasL true rows = true then b' else 0) := by
    intro a a' b b' md ht
    obtain ⟨q1, q2⟩ := tl_dots hg ht
    by_cases hE : hasE true rows = true
    · rw [if_pos hE, if_pos hE]; exact q1 hE
    · rw [if_neg hE, if_neg hE]
      by_cases hL : hasL true rows = true
      · rw [if_pos hL, if_pos hL]; exact q2 hL
      · rw [if_neg hL, if_neg hL]
  have cross : ∀ {a a' b' : Nat}, tl a false 0 true rows = tl a' true b' true rows → hasU rows = false ∧ tl a true 0 true rows = tl a' true b' true rows := by
    intro a a' b' ht
    have hU : hasU rows = false := by
      cases hu : hasU rows with
      | false => rfl
      | true =>
        have f1 : fx false (tl a false 0 true rows) = tl a true 0 true rows := fx_told hg (by simp)
        have f2 : fx false (tl a' true b' true rows) = tl a' true b' true rows := fx_told hg (by simp)
        rw [ht, f2, ← ht] at f1
        have := (tl_len (a := a) (b := 0) (sn := true) hg).2 hu
        rw [f1] at this
        exact absurd this (Nat.lt_irrefl _)
    exact ⟨hU, (tl_same hg hU).symm.trans ht⟩
  cases md with
  | true =>
    cases md' with
    | true => rw [same h]
    | false =>
      have hb := h2 rfl
      subst hb
      obtain ⟨hU, ht⟩ := cross h.symm
      rw [hU, ← same ht]; simp
  | false =>
    have hb := h1 rfl
    subst hb
    cases md' with
    | true =>
      obtain ⟨hU, ht⟩ := cross h
      rw [hU, same ht]; simp
    | false =>
      have hb := h2 rfl
      subst hb
      rw [same h]
end Mine
end

section
open PySem PySem.W PyProof.Rows PySem.Calls
namespace Mine
noncomputable def T (rows : List Row) (st : Stt) : Str := S (told rows st.1 st.2.1 st.2.2)
noncomputable def stepsOf (st : Stt) : List Stt := [(st.1, true, st.2.2), if st.2.1 then (st.1, true, st.2.2 + 1) else (st.1 + 1, false, 0), (st.1, true, st.2.2 + 1)]
noncomputable def stepG (rows : List Row) (sts : List Stt) (st : Stt) (G : Gr) (s' : Stt) : Gr := if T rows s' ≠ T rows st ∧ s' ∈ sts then addG (T rows s') [T rows st] G else G
noncomputable def stG (rows : List Row) (sts : List Stt) (G : Gr) (st : Stt) : Gr := (stepsOf st).foldl (stepG rows sts st) (addG (T rows st) [] G)
noncomputable def webG (rows : List Row) (sts : List Stt) : Gr := sts.foldl (stG rows sts) []
noncomputable def statesOf (most : Nat) : List Stt := (List.range (most + 1)).map (fun a => (a, false, 0)) ++ (List.range (most + 1)).flatMap fun a => (List.range (most + 1)).map fun b => (a, true, b)
theorem mem_states {most a b : Nat} {md : Bool} : (a, md, b) ∈ statesOf most ↔ a ≤ most ∧ ((md = false ∧ b = 0) ∨ (md = true ∧ b ≤ most)) := by
  unfold statesOf
  simp only [List.mem_append, List.mem_map, List.mem_range, List.mem_flatMap, Prod.mk.injEq]
  constructor
  · rintro (⟨x, hx, rfl, rfl, rfl⟩ | ⟨x, hx, y, hy, rfl, rfl, rfl⟩)
    · exact ⟨by omega, .inl ⟨rfl, rfl⟩⟩
    · exact ⟨by omega, .inr ⟨rfl, by omega⟩⟩
  · rintro ⟨ha, ⟨rfl, rfl⟩ | ⟨rfl, hb⟩⟩
    · exact .inl ⟨a, by omega, rfl, rfl, rfl⟩
    · exact .inr ⟨a, by omega, b, by omega, rfl, rfl, rfl⟩
theorem step_fold {rows : List Row} {sts : List Stt} {st : Stt} : ∀ (l : List Stt) (G : Gr), Grown G → isKey G (T rows st) →
    Grown (l.foldl (stepG rows sts st) G) ∧ (∀ y, isKey (l.foldl (stepG rows sts st) G) y ↔ isKey G y ∨ ∃ s' ∈ l, (T rows s' ≠ T rows st ∧ s' ∈ sts) ∧ y = T rows s') ∧
      (∀ q y, Edge (l.foldl (stepG rows sts st) G) q y ↔ Edge G q y ∨ (q = T rows st ∧ ∃ s' ∈ l, (T rows s' ≠ T rows st ∧ s' ∈ sts) ∧ y = T rows s')) ∧ tot (l.foldl (stepG rows sts st) G) ≤ tot G + 3 * l.length
  | [], G, h, _ => ⟨h, fun y => by simp, fun q y => by simp, by simp⟩
  | s' :: l, G, h, hk => by
    rw [List.foldl_cons]
    by_cases hc : T rows s' ≠ T rows st ∧ s' ∈ sts
    · have e : stepG rows sts st G s' = addG (T rows s') [T rows st] G := if_pos hc
      rw [e]
      obtain ⟨a1, a2, a3, a4⟩ := add1 h (T rows s') (T rows st)
      obtain ⟨i1, i2, i3, i4⟩ := step_fold (sts := sts) l _ a1 ((a2 _).mpr (.inl hk))
      refine ⟨i1, fun y => ?_, fun q y => ?_, by simp only [List.length_cons]; omega⟩
      · rw [i2 y, a2 y]
        constructor
        · rintro ((h | rfl | rfl) | ⟨z, hz, h⟩)
          · exact .inl h
          · exact .inr ⟨s', .head _, hc, rfl⟩
          · exact .inl hk
          · exact .inr ⟨z, .tail _ hz, h⟩
        · rintro (h | ⟨z, hz, h1, rfl⟩)
          · exact .inl (.inl h)
          · rcases List.mem_cons.mp hz with rfl | hz
            · exact .inl (.inr (.inl rfl))
            · exact .inr ⟨z, hz, h1, rfl⟩
      · rw [i3 q y, a3 q y]
        constructor
        · rintro ((h | ⟨rfl, rfl⟩) | ⟨rfl, z, hz, h⟩)
          · exact .inl h
          · exact .inr ⟨rfl, s', .head _, hc, rfl⟩
          · exact .inr ⟨rfl, z, .tail _ hz, h⟩
        · rintro (h | ⟨rfl, z, hz, h1, rfl⟩)
          · exact .inl (.inl h)
          · rcases List.mem_cons.mp hz with rfl | hz
            · exact .inl (.inr ⟨rfl, rfl⟩)
            · exact .inr ⟨rfl, z, hz, h1, rfl⟩
    · have e : stepG rows sts st G s' = G := if_neg hc
      rw [e]
      obtain ⟨i1, i2, i3, i4⟩ := step_fold (sts := sts) l G h hk
      have hx : ∀ y, (∃ z ∈ s' :: l, (T rows z ≠ T rows st ∧ z ∈ sts) ∧ y = T rows z) ↔ ∃ z ∈ l, (T rows z ≠ T rows st ∧ z ∈ sts) ∧ y = T rows z := fun y => by
        constructor
        · rintro ⟨z, hz, h1, h2⟩
          rcases List.mem_cons.mp hz with rfl | hz
          · exact absurd h1 hc
          · exact ⟨z, hz, h1, h2⟩
        · rintro ⟨z, hz, h⟩; exact ⟨z, .tail _ hz, h⟩
      refine ⟨i1, fun y => by rw [i2 y, hx y], fun q y => by rw [i3 q y, hx y], by simp only [List.length_cons]; omega⟩
theorem stG_spec {rows : List Row} {sts : List Stt} {st : Stt} {G : Gr} (h : Grown G) :
    Grown (stG rows sts G st) ∧ (∀ y, isKey (stG rows sts G st) y ↔ isKey G y ∨ y = T rows st ∨ ∃ s' ∈ stepsOf st, (T rows s' ≠ T rows st ∧ s' ∈ sts) ∧ y = T rows s') ∧
      (∀ q y, Edge (stG rows sts G st) q y ↔ Edge G q y ∨ (q = T rows st ∧ ∃ s' ∈ stepsOf st, (T rows s' ≠ T rows st ∧ s' ∈ sts) ∧ y = T rows s')) ∧ tot (stG rows sts G st) ≤ tot G + 12 := by
  obtain ⟨a1, a2, a3, a4⟩ := add0 h (T rows st)
  obtain ⟨i1, i2, i3, i4⟩ := step_fold (rows := rows) (sts := sts) (st := st) (stepsOf st) _ a1 ((a2 _).mpr (.inr rfl))
  refine ⟨i1, fun y => ?_, fun q y => ?_, ?_⟩
  · unfold stG; rw [i2 y, a2 y]
    constructor
    · rintro ((h | h) | h)
      · exact .inl h
      · exact .inr (.inl h)
      · exact .inr (.inr h)
    · rintro (h | h | h)
      · exact .inl (.inl h)
      · exact .inl (.inr h)
      · exact .inr h
  · unfold stG; rw [i3 q y, a3 q y]
  · have : (stepsOf st).length = 3 := rfl
    unfold stG
    omega
theorem web_fold {rows : List Row} {sts : List Stt} : ∀ (l : List Stt) (G : Gr), (∀ s ∈ l, s ∈ sts) → Grown G →
    Grown (l.foldl (stG rows sts) G) ∧ (∀ y, isKey (l.foldl (stG rows sts) G) y → isKey G y ∨ ∃ s ∈ sts, y = T rows s) ∧ (∀ s ∈ l, isKey (l.foldl (stG rows sts) G) (T rows s)) ∧ (∀ y, isKey G y → isKey (l.foldl (stG rows sts) G) y) ∧
      (∀ q y, Edge (l.foldl (stG rows sts) G) q y ↔ Edge G q y ∨ ∃ st ∈ l, q = T rows st ∧ ∃ s' ∈ stepsOf st, (T rows s' ≠ T rows st ∧ s' ∈ sts) ∧ y = T rows s') ∧ tot (l.foldl (stG rows sts) G) ≤ tot G + 12 * l.length
  | [], G, _, h => ⟨h, fun y hy => .inl hy, (fun s hs => nomatch hs), fun y hy => hy, fun q y => by simp, by simp⟩
  | st :: l, G, hl, h => by
    obtain ⟨a1, a2, a3, a4⟩ := stG_spec (rows := rows) (sts := sts) (st := st) h
    obtain ⟨i1, i2, i3, i4, i5, i6⟩ := web_fold (rows := rows) (sts := sts) l (stG rows sts G st) (fun s hs => hl s (.tail _ hs)) a1
    rw [List.foldl_cons]
    refine ⟨i1, fun y hy => ?_, fun s hs => ?_, fun y hy => i4 y ((a2 y).mpr (.inl hy)), fun q y => ?_, by simp only [List.length_cons]; omega⟩
    · rcases i2 y hy with h | h
      · rcases (a2 y).mp h with h | rfl | ⟨z, _, ⟨_, hz⟩, rfl⟩
        · exact .inl h
        · exact .inr ⟨st, hl st (.head _), rfl⟩
        · exact .inr ⟨z, hz, rfl⟩
      · exact .inr h
    · rcases List.mem_cons.mp hs with rfl | hs
      · exact i4 _ ((a2 _).mpr (.inr (.inl rfl)))
      · exact i3 s hs
    · rw [i5 q y, a3 q y]
      constructor
      · rintro ((h | ⟨rfl, h⟩) | ⟨z, hz, h⟩)
        · exact .inl h
        · exact .inr ⟨st, .head _, rfl, h⟩
        · exact .inr ⟨z, .tail _ hz, h⟩
      · rintro (h | ⟨z, hz, hq, h⟩)
        · exact .inl (.inl h)
        · rcases List.mem_cons.mp hz with rfl | hz
          · exact .inl (.inr ⟨hq, h⟩)
          · exact .inr ⟨z, hz, hq, h⟩
noncomputable def lvT (rows : List Row) (sts : List Stt) (k : Str) : Nat := ((sts.find? fun s => decide (T rows s = k)).map (levOf (flags rows))).getD 0
theorem fine_states {most : Nat} {s : Stt} (h : s ∈ statesOf most) : Fine s := by
  obtain ⟨a, md, b⟩ := s
  obtain ⟨_, h | h⟩ := mem_states.mp h
  · exact fun _ => h.2
  · intro e
    have e' : md = false := e
    rw [h.1] at e'; cases e'
theorem lvT_at {rows : List Row} (hg : Good false rows) {most : Nat} {s : Stt} (h : s ∈ statesOf most) : lvT rows (statesOf most) (T rows s) = levOf (flags rows) s := by
  unfold lvT
  cases hf : (statesOf most).find? (fun z => decide (T rows z = T rows s)) with
  | none => have := List.find?_eq_none.mp hf s h; simp at this
  | some z =>
    have h1 : T rows z = T rows s := by have := List.find?_some hf; simpa using this
    have h2 := List.mem_of_find?_eq_some hf
    exact lev_of_told hg (fine_states h2) (fine_states h) (S_inj h1)
theorem lev_up {rows : List Row} (hg : Good false rows) {st s' : Stt} (hf : Fine st) (hs : s' ∈ stepsOf st) (hne : T rows s' ≠ T rows st) : levOf (flags rows) st < levOf (flags rows) s' := by
  obtain ⟨a, md, b⟩ := st
  obtain ⟨e1, e2, e3⟩ := flags_are rows
  have tne : ∀ x y z x' y' z', T rows (x, y, z) ≠ T rows (x', y', z') → tl x y z true rows ≠ tl x' y' z' true rows := by
    intro x y z x' y' z' h e
    apply h
    unfold T
    rw [told_tl, told_tl]
    exact congrArg S e
  simp only [Fine] at hf
  simp only [stepsOf, List.mem_cons, List.not_mem_nil, or_false] at hs
  unfold levOf
  rw [e1, e2, e3]
  have dots : ∀ {x md z}, tl x md (z + 1) true rows ≠ tl x md z true rows → hasE true rows = true ∨ hasL true rows = true := by
    intro x md z h
    cases hE : hasE true rows with
    | true => exact .inl rfl
    | false =>
      cases hL : hasL true rows with
      | true => exact .inr rfl
      | false => exact absurd (tl_noD hE hL) h
  cases md with
  | true =>
    have hs2 : s' = (a, true, b) ∨ s' = (a, true, b + 1) := by
      rcases hs with h | h | h
      · exact .inl h
      · exact .inr (by simpa using h)
      · exact .inr h
    rcases hs2 with rfl | rfl
    · exact absurd rfl hne
    · rcases dots (tne _ _ _ _ _ _ hne) with h | h
      · simp [h]
      · by_cases hE : hasE true rows = true
        · simp [hE]
        · simp [hE, h]
  | false =>
    have hb := hf rfl
    have hb' : b = 0 := hb
    subst hb'
    rcases hs with rfl | h | rfl
    · have hU : hasU rows = true := by
        cases hu : hasU rows with
        | true => rfl
        | false => exact absurd (tl_same hg hu).symm (tne _ _ _ _ _ _ hne)
      simp [hU]
    · have h' : s' = (a + 1, false, 0) := by simpa using h
      subst h'
      have hE : hasE true rows = true := by
        cases hE : hasE true rows with
        | true => rfl
        | false => exact absurd (tl_noE hE) (tne _ _ _ _ _ _ hne)
      simp [hE]
    · by_cases hE : hasE true rows = true
      · simp [hE]; omega
      · by_cases hL : hasL true rows = true
        · simp [hE, hL]; omega
        · have hU : hasU rows = true := by
            cases hu : hasU rows with
            | true => rfl
            | false =>
              simp only [Bool.not_eq_true] at hE hL
              have h1 := tl_noD (a := a) (b := 0 + 1) (a' := a) (b' := 0) (md := true) hE hL
              exact absurd (h1.trans (tl_same hg hu).symm) (tne _ _ _ _ _ _ hne)
          simp [hE, hL, hU]
end Mine
end

section
open PySem PySem.W PyProof.Rows PySem.Calls
namespace Mine
theorem lev_pred {rows : List Row} (hg : Good false rows) {most : Nat} {s : Stt} (hs : s ∈ statesOf most) (hl : 0 < levOf (flags rows) s) :
    ∃ st ∈ statesOf most, ∃ s' ∈ stepsOf st, s' ∈ statesOf most ∧ T rows s' = T rows s ∧ levOf (flags rows) st + 1 = levOf (flags rows) s := by
  obtain ⟨a, md, b⟩ := s
  obtain ⟨e1, e2, e3⟩ := flags_are rows
  obtain ⟨ha, hm⟩ := mem_states.mp hs
  unfold levOf at hl ⊢
  rw [e1, e2, e3] at hl ⊢
  have tq : ∀ {x y z x' y' z'}, tl x y z true rows = tl x' y' z' true rows → T rows (x, y, z) = T rows (x', y', z') := by
    intro x y z x' y' z' e
    unfold T
    rw [told_tl, told_tl]
    exact congrArg S e
  rcases hm with ⟨rfl, rfl⟩ | ⟨rfl, hb⟩
  · by_cases hE : hasE true rows = true
    · simp only [hE, if_true, Bool.false_and, Bool.false_eq_true, if_false, Nat.add_zero] at hl ⊢
      refine ⟨(a - 1, false, 0), mem_states.mpr ⟨Nat.le_trans (Nat.sub_le _ _) ha, .inl ⟨rfl, rfl⟩⟩, (a, false, 0), ?_, hs, rfl, by dsimp only; simp; omega⟩
      simp only [stepsOf, List.mem_cons]
      right; left
      have : a - 1 + 1 = a := Nat.sub_add_cancel hl
      simp [this]
    · simp [hE] at hl
  · by_cases hD : (hasE true rows = true ∨ hasL true rows = true)
    · by_cases hb0 : b = 0
      · subst hb0
        by_cases hU : hasU rows = true
        · refine ⟨(a, false, 0), mem_states.mpr ⟨ha, .inl ⟨rfl, rfl⟩⟩, (a, true, 0), by simp [stepsOf], hs, rfl, by simp [hU]⟩
        · simp only [Bool.not_eq_true] at hU
          by_cases hE : hasE true rows = true
          · simp only [hE, hU, if_true, Bool.and_false, Bool.false_eq_true, if_false, Nat.add_zero] at hl ⊢
            refine ⟨(a - 1, false, 0), mem_states.mpr ⟨Nat.le_trans (Nat.sub_le _ _) ha, .inl ⟨rfl, rfl⟩⟩, (a, false, 0), ?_, mem_states.mpr ⟨ha, .inl ⟨rfl, rfl⟩⟩, tq (tl_same hg hU), by dsimp only; simp; omega⟩
            simp only [stepsOf, List.mem_cons]
            right; left
            have : a - 1 + 1 = a := Nat.sub_add_cancel hl
            simp [this]
          · simp [hE, hU] at hl
      · refine ⟨(a, true, b - 1), mem_states.mpr ⟨ha, .inr ⟨rfl, Nat.le_trans (Nat.sub_le _ _) hb⟩⟩, (a, true, b), ?_, hs, rfl, ?_⟩
        · simp only [stepsOf, List.mem_cons]
          right; right; left
          have : b - 1 + 1 = b := Nat.sub_add_cancel (Nat.pos_of_ne_zero hb0)
          simp [this]
        · dsimp only
          by_cases hE : hasE true rows = true
          · simp only [hE, if_true]; omega
          · have hL : hasL true rows = true := by rcases hD with h | h; exact absurd h hE; exact h
            simp only [hE, hL, if_true, if_false]
            simp; omega
    · have hE : hasE true rows = false := by
        cases h : hasE true rows with
        | false => rfl
        | true => exact absurd (.inl h) hD
      have hL : hasL true rows = false := by
        cases h : hasL true rows with
        | false => rfl
        | true => exact absurd (.inr h) hD
      have hU : hasU rows = true := by
        cases h : hasU rows with
        | true => rfl
        | false => simp [hE, hL, h] at hl
      refine ⟨(a, false, 0), mem_states.mpr ⟨ha, .inl ⟨rfl, rfl⟩⟩, (a, true, 0), by simp [stepsOf], mem_states.mpr ⟨ha, .inr ⟨rfl, Nat.zero_le _⟩⟩, tq (tl_noD hE hL), by simp [hE, hL, hU]⟩
theorem web_is {rows : List Row} (hg : Good false rows) (most : Nat) : Grown (webG rows (statesOf most)) ∧ Web (skel (webG rows (statesOf most))) (lvT rows (statesOf most)) ∧
    (∀ y, isKey (webG rows (statesOf most)) y ↔ ∃ s ∈ statesOf most, y = T rows s) ∧ tot (webG rows (statesOf most)) ≤ 12 * (statesOf most).length := by
  obtain ⟨w1, w2, w3, w4, w5, w6⟩ := web_fold (rows := rows) (sts := statesOf most) (statesOf most) [] (fun _ h => h) grown_nil
  have hkey : ∀ y, isKey (webG rows (statesOf most)) y ↔ ∃ s ∈ statesOf most, y = T rows s := fun y => by
    constructor
    · intro h
      rcases w2 y h with h | h
      · cases h
      · exact h
    · rintro ⟨s, hs, rfl⟩; exact w3 s hs
  have hedge : ∀ q y, Edge (webG rows (statesOf most)) q y ↔ ∃ st ∈ statesOf most, q = T rows st ∧ ∃ s' ∈ stepsOf st, (T rows s' ≠ T rows st ∧ s' ∈ statesOf most) ∧ y = T rows s' := fun q y => by
    unfold webG
    rw [w5 q y]
    constructor
    · rintro (⟨x, hx, _⟩ | h)
      · cases hx
      · exact h
    · exact .inr
  refine ⟨w1, ⟨?_, ?_, ?_⟩, hkey, by have : tot ([] : Gr) = 0 := rfl; unfold webG; omega⟩
  · rw [skel_keys]; exact w1.nd
  · intro x hx k hk
    obtain ⟨st, hst, hq, s', hs', ⟨hne, hin⟩, hy⟩ := (hedge x.1 k).mp ⟨x, hx, rfl, hk⟩
    rw [skel_keys]
    refine ⟨(hkey k).mpr ⟨s', hin, hy⟩, ?_⟩
    rw [hq, hy, lvT_at hg hst, lvT_at hg hin]
    exact lev_up hg (fine_states hst) hs' hne
  · intro k hk hl
    rw [skel_keys] at hk
    obtain ⟨s, hs, rfl⟩ := (hkey k).mp hk
    rw [lvT_at hg hs] at hl ⊢
    obtain ⟨st, hst, s', hs', hin, hT, hlev⟩ := lev_pred hg hs hl
    have hls : levOf (flags rows) s' = levOf (flags rows) s := lev_of_told hg (fine_states hin) (fine_states hs) (S_inj hT)
    have hne : T rows s' ≠ T rows st := fun e => by
      have := lev_of_told hg (fine_states hin) (fine_states hst) (S_inj e)
      omega
    obtain ⟨x, hx, e1, e2⟩ := (hedge (T rows st) (T rows s')).mpr ⟨st, hst, rfl, s', hs', ⟨hne, hin⟩, rfl⟩
    refine ⟨x, hx, by rw [← hT]; exact e2, ?_⟩
    rw [e1, lvT_at hg hst]; exact hlev
end Mine
end

section
open PySem PySem.W PyProof.Rows PySem.Calls
set_option maxHeartbeats 4000000
namespace Mine
theorem compTurn_in (elt t0 i0 target iter : Expr) (scope : Scope) (pos : Pos) (it acc : Value) (env : Env) :
    compTurn (.ListComp elt [⟨t0, i0, [], 0⟩, ⟨target, iter, [], 0⟩] scope pos) 1 it acc env = (standAt iter.pos >>= fun _ => pyNext it >>= fun r => match r with
      | none => pure (.done .next)
      | some v => letOwnedTupleGo target it v >>= fun _ => assign target env v >>= fun _ =>
        (eval elt env >>= fun x => call (.builtin "list.append") [acc, x] >>= fun _ => pure ()) >>= fun _ =>
          again (.compLoop (.ListComp elt [⟨t0, i0, [], 0⟩, ⟨target, iter, [], 0⟩] scope pos) 1 it acc env)) := by rfl
noncomputable def innerK (elt t0 i0 t1 i1 : Expr) (scope : Scope) (pos : Pos) (acc : Value) (env : Env) (k : Sem Fin) : Sem Fin :=
  eval i1 env >>= fun x => standAt i1.pos >>= fun _ => foldedSetIterable i1 env x >>= fun x => holding [x] (pyIter x) >>= fun it1 => runOwn (.compStart (.ListComp elt [⟨t0, i0, [], 0⟩, ⟨t1, i1, [], 0⟩] scope pos) 1 it1 acc env) env >>= fun _ => k
theorem compTurn_out (elt t0 i0 t1 i1 : Expr) (scope : Scope) (pos : Pos) (it acc : Value) (env : Env) :
    compTurn (.ListComp elt [⟨t0, i0, [], 0⟩, ⟨t1, i1, [], 0⟩] scope pos) 0 it acc env = (standAt i0.pos >>= fun _ => pyNext it >>= fun r => match r with
      | none => pure (.done .next)
      | some v => letOwnedTupleGo t0 it v >>= fun _ => assign t0 env v >>= fun _ =>
        innerK elt t0 i0 t1 i1 scope pos acc env
          (again (.compLoop (.ListComp elt [⟨t0, i0, [], 0⟩, ⟨t1, i1, [], 0⟩] scope pos) 0 it acc env))) := by rfl
section
variable {prog : Program} {w : World} {A : Around} {R : Result → Shared → Prop} {s₀ : Shared}
theorem lc2_in {elt t0 i0 target iter : Expr} {scope : Scope} {pos : Pos} {cenv : Env} {I D : Addr} {fp own : List Addr} {n : Nat} {ys0 : List Value} {ep0 : Nat} {P : Nat → Value → Prop} {St : Nat → Heap → Prop} (W : Walks prog w A I fp [I] n P St) (Inv : Heap → Prop) (Asg : Value → Heap → Prop) (G : Nat → Value → Heap → Prop)
    (n2 : D ∉ own) (nf : ∀ b ∈ fp, b ∉ D :: own) (hz : n ≤ 1000)
    (hlo : ∀ i v (s : Shared) (Q : Unit → Shared → Prop) (E : Value → Shared → Prop), St i s.heap → Q () s → wpAny (model prog w) A (letOwnedTupleGo target (.ref I) v) Q E s)
    (hSt : ∀ i h, St i h → ∃ o, h.get? I = some o)
    (hInv : ∀ h h', Inv h → (∀ b o, b ∈ own → h.get? b = some o → h'.get? b = some o) → Inv h')
    (hG : ∀ i y h h', G i y h → Kp (I :: D :: own) h h' → G i y h')
    (asg : ∀ (i : Nat) (v : Value) (s₂ : Shared) (E' : Value → Shared → Prop), P i v → i < n → Inv s₂.heap → Kp (I :: D :: own) s₀.heap s₂.heap →
      wpAny (model prog w) A (assign target cenv v) (fun _ s₃ => Inv s₃.heap ∧ Asg v s₃.heap ∧ ∃ h' tk, s₃ = { s₂ with heap := h', toks := tk } ∧ Kp own s₂.heap h') E' s₂)
    (eltok : ∀ (i : Nat) (v : Value) (s₃ : Shared) (E' : Value → Shared → Prop), P i v → i < n → Asg v s₃.heap → Kp (I :: D :: own) s₀.heap s₃.heap → (∃ o, s₃.heap.get? I = some o) → wpAny (model prog w) A (eval elt cenv) (fun y s₄ => G i y s₄.heap ∧ Keeps s₃ s₄) E' s₃)
    (hI : St 0 s₀.heap) (hD : s₀.heap.get? D = some (PySem.W.listOf ys0.toArray ep0)) (hz0 : ys0.length ≤ 1000) (hi : Inv s₀.heap)
    (fin : ∀ (h : Heap) (tk : Nat) (ys : List Value) (ep : Nat), ys.length = n → (∀ (j : Nat) (y : Value), ys[j]? = some y → G j y h) → h.get? D = some (PySem.W.listOf (ys0 ++ ys).toArray ep) → Kp (I :: D :: own) s₀.heap h → Inv h → R (.ok .next) { s₀ with heap := h, toks := tk }) :
    codeAny (model prog w) A (.compLoop (.ListComp elt [⟨t0, i0, [], 0⟩, ⟨target, iter, [], 0⟩] scope pos) 1 (.ref I) (.ref D) cenv) R s₀ := by
  refine lcg_core false (gs := [⟨t0, i0, [], 0⟩, ⟨target, iter, [], 0⟩]) W Inv Asg G (compTurn_in ..) n2 nf hz hlo hInv hG asg (fun i v s₃ E' hP hi ha hk hx => wpAny_mono (eltok i v s₃ E' hP hi ha hk ?_) (fun y s₄ h => ⟨h.1, ?_⟩) fun _ _ e => e) hI hD hz0 hi fun h tk dr ys ep hd hl hg hD hk hin => ?_
  · exact hx.elim fun h1 h2 => (hSt _ _ h2.1).elim fun o ho => ⟨o, h2.2 I o (fun q => nf I (W.sub I (.head _)) (.tail _ q)) ho⟩
  · obtain ⟨h', tk, rfl, a⟩ := h.2
    exact ⟨h', tk, _, rfl, fun _ => rfl, a⟩
  · rw [hd rfl]; exact fin h tk ys ep hl hg hD hk hin
inductive LoI (s₀ : Shared) (I D : Addr) (own : List Addr) (n : Nat) (St : Nat → Heap → Prop) (Inv : Heap → Prop) (J : Nat → List Value → Heap → Prop) (k : Nat) (s' : Shared) : Prop
  | mk (i : Nat) (h : Heap) (tk : Nat) (ys : List Value) (ep : Nat) (hil : i ≤ n) (hk : k = n - i) (hs : s' = ⟨h, s₀.gens, s₀.drawn, tk, s₀.os⟩) (hst : St i h) (hD : h.get? D = some (PySem.W.listOf ys.toArray ep)) (hin : Inv h) (hkp : Kp (I :: D :: own) s₀.heap h) (hj : J i ys h) : LoI s₀ I D own n St Inv J k s'
theorem LoI.el {I D : Addr} {own : List Addr} {n : Nat} {St : Nat → Heap → Prop} {Inv : Heap → Prop} {J : Nat → List Value → Heap → Prop} {k : Nat} {s' : Shared} {X : Shared → Prop} (x : LoI s₀ I D own n St Inv J k s')
    (f : ∀ (i : Nat) (h : Heap) (tk : Nat) (ys : List Value) (ep : Nat), i ≤ n → k = n - i → St i h → h.get? D = some (PySem.W.listOf ys.toArray ep) → Inv h → Kp (I :: D :: own) s₀.heap h → J i ys h → X ⟨h, s₀.gens, s₀.drawn, tk, s₀.os⟩) : X s' := by
  obtain ⟨i, h, tk, ys, ep, hil, hk, rfl, hst, hD, hin, hkp, hj⟩ := x
  exact f i h tk ys ep hil hk hst hD hin hkp hj
theorem lc2_out {elt t0 i0 t1 i1 : Expr} {scope : Scope} {pos : Pos} {cenv : Env} {I D : Addr} {fp own : List Addr} {n : Nat} {P : Nat → Value → Prop} {St : Nat → Heap → Prop} (W : Walks prog w A I fp [I] n P St) (Inv : Heap → Prop) (Asg : Value → Heap → Prop) (J : Nat → List Value → Heap → Prop)
    (n2 : D ∉ own) (nf : ∀ b ∈ fp, b ∉ D :: own)
    (hlo : ∀ i v (s : Shared) (Q : Unit → Shared → Prop) (E : Value → Shared → Prop), St i s.heap → Q () s → wpAny (model prog w) A (letOwnedTupleGo t0 (.ref I) v) Q E s)
    (hInv : ∀ h h', Inv h → (∀ b o, b ∈ own → h.get? b = some o → h'.get? b = some o) → Inv h')
    (hJ : ∀ i ys h h', J i ys h → Kp (I :: D :: own) h h' → J i ys h')
    (asg : ∀ (i : Nat) (v : Value) (s₂ : Shared) (E' : Value → Shared → Prop), P i v → i < n → Inv s₂.heap → Kp (I :: D :: own) s₀.heap s₂.heap →
      wpAny (model prog w) A (assign t0 cenv v) (fun _ s₃ => Inv s₃.heap ∧ Asg v s₃.heap ∧ ∃ h' tk, s₃ = { s₂ with heap := h', toks := tk } ∧ Kp own s₂.heap h') E' s₂)
    (mid : ∀ (i : Nat) (v : Value) (s₃ : Shared) (ys : List Value) (ep : Nat) (Q' : PySem.Fin → Shared → Prop) (E' : Value → Shared → Prop) (k : Sem PySem.Fin), P i v → i < n → Asg v s₃.heap → Inv s₃.heap → s₃.heap.get? D = some (PySem.W.listOf ys.toArray ep) → J i ys s₃.heap → Kp (I :: D :: own) s₀.heap s₃.heap →
      (∀ h' tk ys' ep', h'.get? D = some (PySem.W.listOf ys'.toArray ep') → J (i + 1) ys' h' → Inv h' → Kp (D :: own) s₃.heap h' → wpAny (model prog w) A k Q' E' { s₃ with heap := h', toks := tk }) →
      wpAny (model prog w) A (innerK elt t0 i0 t1 i1 scope pos (.ref D) cenv k) Q' E' s₃)
    (hI : St 0 s₀.heap) (hD : s₀.heap.get? D = some (PySem.W.listOf #[] 0)) (hJ0 : J 0 [] s₀.heap) (hi : Inv s₀.heap)
    (fin : ∀ (h : Heap) (tk : Nat) (ys : List Value) (ep : Nat), J n ys h → h.get? D = some (PySem.W.listOf ys.toArray ep) → Kp (I :: D :: own) s₀.heap h → Inv h → R (.ok .next) { s₀ with heap := h, toks := tk }) :
    codeAny (model prog w) A (.compLoop (.ListComp elt [⟨t0, i0, [], 0⟩, ⟨t1, i1, [], 0⟩] scope pos) 0 (.ref I) (.ref D) cenv) R s₀ := by
  have hIf : I ∈ fp := W.sub I (.head _)
  have n1 : I ∉ own := fun h => nf I hIf (.tail _ h)
  have n4 : I ≠ D := fun h => nf I hIf (h ▸ .head _)
  have oneI : ∀ {b : Addr} {l : List Addr}, b ∉ I :: l → b ∉ [I] := fun hb q => hb (by rw [List.mem_singleton.mp q]; exact .head _)
  have ownI : ∀ {b : Addr}, b ∈ own → b ∉ [I] := fun hb q => n1 (by rw [List.mem_singleton.mp q] at hb; exact hb)
  have DI : D ∉ [I] := fun q => n4 (List.mem_singleton.mp q).symm
  refine codeAny_loop rfl (LoI s₀ I D own n St Inv J) (fun m s hJ' => ?_) n ⟨0, s₀.heap, s₀.toks, [], 0, Nat.zero_le _, rfl, rfl, hI, hD, hi, fun _ _ _ e => e, hJ0⟩
  show wpAny _ A ((compTurn (.ListComp elt [⟨t0, i0, [], 0⟩, ⟨t1, i1, [], 0⟩] scope pos) 0 (.ref I) (.ref D) cenv).onRaise (fun x => do noteFrame x cenv; theTreesLotGoes x)) _ _ _
  refine wpAny_noted ?_
  rw [compTurn_out]
  refine hideQ fun K0 hK0 => ?_
  refine hJ'.el ?_; clear hJ'
  intro i h tk ys ep hil hm hst hDt hin hk hj
  refine wpAny_bind (wpAny_standAt (wpAny_bind ?_))
  refine (Nat.lt_or_eq_of_le hil).elim (fun hlt => ?_) fun e => ?_
  · refine W.item i _ _ _ hlt hst fun v h1 tk1 hP hst1 k1 => ?_
    dsimp only
    dsimp only at k1
    refine wpAny_bind (hlo (i + 1) v _ _ _ hst1 ?_)
    have hin1 : Inv h1 := hInv h h1 hin fun b o hb e => k1 b o (ownI hb) e
    have w1 : Kp (I :: D :: own) h h1 := fun b o hb e => k1 b o (oneI hb) e
    have kk1 : Kp (I :: D :: own) s₀.heap h1 := fun b o hb e => w1 b o hb (hk b o hb e)
    refine wpAny_bind (wpAny_mono (asg i v ⟨h1, s₀.gens, s₀.drawn, tk1, s₀.os⟩ _ hP hlt hin1 kk1) (fun _ s₂ h₂ => ?_) fun _ _ e => e)
    have hin2 := h₂.1
    have hasg := h₂.2.1
    have hkp := h₂.2.2
    clear h₂
    obtain ⟨h2, tk2, rfl, k2⟩ := hkp
    have w2 : Kp (I :: D :: own) h1 h2 := fun b o hb e => k2 b o (fun q => hb (.tail _ (.tail _ q))) e
    have kk2 : Kp (I :: D :: own) s₀.heap h2 := fun b o hb e => w2 b o hb (kk1 b o hb e)
    have hD2 : h2.get? D = some (PySem.W.listOf ys.toArray ep) := k2 D _ n2 (k1 D _ DI hDt)
    have hj2 : J i ys h2 := hJ i ys h h2 hj fun b o hb e => w2 b o hb (w1 b o hb e)
    have hlt2 : n - (i + 1) < m := by rw [hm]; exact Nat.sub_succ_lt_self n i hlt
    refine mid i v _ ys ep _ _ _ hP hlt hasg hin2 hD2 hj2 kk2 fun h3 tk3 ys3 ep3 hD3 hj3 hin3 k3 => wpAny_pure (hK0 _ _ ⟨rfl, n - (i + 1), hlt2, i + 1, h3, tk3, ys3, ep3, hlt, rfl, rfl, ?_, hD3, hin3, fun b o hb e => k3 b o (fun q => hb (.tail _ q)) (kk2 b o hb e), hj3⟩)
    exact W.frame (i + 1) h1 h3 hst1 fun b hb o e => k3 b o (nf b hb) (k2 b o (fun q => nf b hb (.tail _ q)) e)
  · rw [e] at hst hj
    refine W.done _ _ _ hst fun h1 tk1 k1 => ?_
    dsimp only
    dsimp only at k1
    have w1 : Kp (I :: D :: own) h h1 := fun b o hb e => k1 b o (oneI hb) e
    exact wpAny_pure (hK0 _ _ (fin h1 tk1 ys ep (hJ _ _ h h1 hj w1) (k1 D _ DI hDt) (fun b o hb e => w1 b o hb (hk b o hb e)) (hInv h h1 hin fun b o hb e => k1 b o (ownI hb) e)))
theorem inner_open {E : Value → Shared → Prop} {s : Shared} {elt t0 i0 t1 i1 : Expr} {scope : Scope} {pos : Pos} {cenv : Env} {D : Addr} {k : Sem PySem.Fin} {Q : PySem.Fin → Shared → Prop} (hfs : ∀ x, foldedSetIterable i1 cenv x = pure x)
    (h : wpAny (model prog w) A (eval i1 cenv) (fun xv s₁ => wpAny (model prog w) A (pyIter xv) (fun it s₂ => ∃ I fp n P St, it = .ref I ∧ Walks prog w A I fp [I] n P St ∧ St 0 s₂.heap ∧
      codeAny (model prog w) A (.compLoop (.ListComp elt [⟨t0, i0, [], 0⟩, ⟨t1, i1, [], 0⟩] scope pos) 1 (.ref I) (.ref D) cenv) (fun r s' => match r with | .ok _ => wpAny (model prog w) A k Q E s' | .error e => cameBackBy (model prog w) A cenv E e s') s₂) E s₁) E s) :
    wpAny (model prog w) A (innerK elt t0 i0 t1 i1 scope pos (.ref D) cenv k) Q E s := by
  unfold innerK
  refine wpAny_bind (wpAny_mono h (fun xv s₁ h₁ => wpAny_bind (wpAny_standAt ?_)) fun _ _ e => e)
  rw [hfs]
  refine wpAny_bind (wpAny_pure ?_)
  refine wpAny_bind (wpAny_holding (wpAny_mono h₁ (fun it s₂ h₂ => wpAny_bind ?_) fun _ _ e => e))
  obtain ⟨I, fp, n, P, St, rfl, W, hst, hl⟩ := h₂
  refine wpAny_runOwn ?_
  refine codeAny_of_tree ?_
  show wpAny _ _ ((compStart (.ListComp elt [⟨t0, i0, [], 0⟩, ⟨t1, i1, [], 0⟩] scope pos) 1 (.ref I) (.ref D) cenv).onRaise (fun x => do noteFrame x cenv; standAt theWindowsPlace)) _ _ _
  refine wpAny_notedAt ?_
  unfold compStart
  show wpAny _ _ (ask >>= _) _ _ _
  have hl' : codeAny (model prog w) A (.compLoop (.ListComp elt [⟨t0, i0, [], 0⟩, ⟨t1, i1, [], 0⟩] scope pos) 1 (.ref I) (.ref D) cenv) (fun r s' => match r with | .ok _ => wpAny (model prog w) A k Q E s' | .error e => cameBackBy (model prog w) A cenv E e s') s₂ := hl
  refine wpAny_bind (wpAny_askSetting (wpAny_ite ?_))
  split
  · first
      | exact wpAny_bind (wpAny_pure (wpAny_pure (And.intro rfl hl')))
      | exact wpAny_pure (And.intro rfl hl')
  · refine wpAny_bind (wpAny_rule ?_)
    show wpAny _ _ (standAt i1.pos >>= _) _ _ _
    exact wpAny_bind (wpAny_standAt (wpAny_bind (W.self 0 _ _ _ hst (wpAny_pure (And.intro rfl hl')))))
theorem lc2_open {E : Value → Shared → Prop} {s : Shared} {elt target iter t1 i1 : Expr} {scope : Scope} {cl : List (Str × Addr)} {pos : Pos} {env : Env} {Q : Value → Shared → Prop}
    (hclos : closureFor scope env = pure cl) (hkind : scope.kind = .function) (hnames : ∀ y ∈ scope.names, y.2 = .local → scope.names.lookup y.1 = some .local)
    (h : wpAny (model prog w) A (eval iter env) (fun xv s₁ => wpAny (model prog w) A (pyIter xv) (fun it s₂ => ∃ I fp n P St, it = .ref I ∧ Walks prog w A I fp [I] n P St ∧ St 0 s₂.heap ∧ (∀ b ∈ fp, b < s₂.heap.objs.size) ∧
      ∀ (D C : Addr) (h₄ : Heap), D = s₂.heap.objs.size → C = D + 1 → Kp [] s₂.heap h₄ → St 0 h₄ → h₄.get? D = some (PySem.W.listOf #[] 0) → h₄.Ns C (fun _ => none) →
        (∀ X : Heap, X.objs.size = C + 1 → (∀ b o, X.get? b = some o → h₄.get? b = some o) → h₄ = pushCells X scope.names →
        codeAny (model prog w) A (.compLoop (.ListComp elt [⟨target, iter, [], 0⟩, ⟨t1, i1, [], 0⟩] scope pos) 0 (.ref I) (.ref D) (cenvOf scope cl C env)) (compPost (model prog w) A E none Q (.ref D) C) { s₂ with heap := h₄ })) E s₁) E s)
    (hs : ∀ x, foldedSetIterable iter env x = pure x) :
    wpAny (model prog w) A (eval (.ListComp elt [⟨target, iter, [], 0⟩, ⟨t1, i1, [], 0⟩] scope pos) env) Q E s := by
  rw [eval_ListComp]
  refine wpAny_comprehension_free (use := none) rfl hs hclos hkind hnames (wpAny_mono h (fun xv s₁ h₁ => wpAny_mono h₁ (fun it s₂ h₂ => ?_) fun _ _ e => e) fun _ _ e => e)
  obtain ⟨I, fp, n, P, St, rfl, W, hst, hfp, hk⟩ := h₂
  refine wpAny_newObj_type (hd := by size_fits) ?_
  refine new_fe ?_
  dsimp only
  generalize hX : ((s₂.heap.push { cls := .type "list", dict := none, data := .seq ([] : List Value).toArray }).push { cls := .type "dict", data := .dict #[] }) = X
  have eC : (s₂.heap.push { cls := .type "list", dict := none, data := .seq ([] : List Value).toArray }).objs.size = s₂.heap.objs.size + 1 := Heap.size_push ..
  have hXs : X.objs.size = s₂.heap.objs.size + 1 + 1 := by rw [← hX, Heap.size_push, eC]
  have k4 := pushCells_keeps scope.names X
  have hXD : X.get? s₂.heap.objs.size = some (PySem.W.listOf #[] 0) := by
    rw [← hX]
    exact Heap.get?_push_of_some _ (Heap.get?_push_size _ rfl)
  have hXC : X.Ns (s₂.heap.objs.size + 1) (fun _ => none) := by
    rw [← hX, ← eC]
    exact Heap.Ns.new _ (.type "dict")
  have hk1 : Kp [] s₂.heap X := fun b o _ e => by rw [← hX]; exact Heap.get?_push_of_some _ (Heap.get?_push_of_some _ e)
  have hst4 : St 0 (pushCells X scope.names) := W.frame 0 _ _ hst fun b _ o e => k4 b o (hk1 b o (by simp) e)
  have hloop := hk s₂.heap.objs.size _ (pushCells X scope.names) rfl rfl (fun b o hb e => k4 b o (hk1 b o hb e)) hst4 (k4 _ _ hXD) (hXC.keeps k4) X hXs k4 rfl
  rw [eC]
  refine codeAny_compStart_list hloop ?_
  exact W.self 0 _ _ _ hst4 hloop
end
end Mine
end

section
open PySem PySem.W PyProof.Rows PySem.Calls
set_option maxHeartbeats 4000000
namespace Mine
structure Sp where
  a : Addr
  st : Stt
  t : Tok
  u : Tok
noncomputable abbrev Sp.obj (q : Sp) : Obj := { cls := .type "tuple", data := .seq #[.int q.st.1 q.t, .bool q.st.2.1, .int q.st.2.2 q.u] }
noncomputable def Sp.led (q : Sp) : Addr × Obj := (q.a, q.obj)
noncomputable def spRefs (l : List Sp) : List Value := l.map fun q => .ref q.a
noncomputable def StsAt (h : Heap) (l : Addr) (sts : List Stt) : Prop :=
  ∃ tps : List Sp, tps.map (·.st) = sts ∧ h.IsList l (spRefs tps).toArray ∧ ∀ q ∈ tps, h.get? q.a = some q.obj
theorem StsAt.states {h : Heap} {l : Addr} {sts : List Stt} (x : StsAt h l sts) : StatesAt h l sts := by
  obtain ⟨tps, rfl, hl, hq⟩ := x
  refine ⟨spRefs tps, hl, by simp [spRefs], fun i r hr => ?_⟩
  rw [List.getElem?_map, Option.map_eq_some_iff] at hr
  obtain ⟨q, hqi, rfl⟩ := hr
  refine ⟨q.a, q.t, q.u, by unfold spRefs; rw [List.getElem?_map, hqi]; rfl, ⟨_, hq q (List.mem_of_getElem? hqi), rfl, _, rfl⟩⟩
section
variable {M : Model} {A : Around} {E : Value → Shared → Prop} {s : Shared}
theorem sts_elt1 {env : Env} {m : Str → Option Value} {i : Nat} {t : Tok} {k k1 k2 : Nat} {pos p1 p2 p3 : Pos} (hk : env.scope.kind = .function) (ha : env.kindOf "ahead" = some .local) (hn : s.heap.Ns env.locals m) (hm : m "ahead" = some (.int (i : Int) t)) :
    wpAny M A (eval (.Tuple [.Name "ahead" p1, .Constant (.bool false) k1 p2, .Constant (.int 0) k2 p3] k pos) env)
      (fun y s' => (∃ q : Sp, q.st = (i, false, 0) ∧ y = .ref q.a ∧ q.a = s.heap.objs.size ∧ s'.heap.get? q.a = some q.obj) ∧ Keeps s s') E s := by
  refine Tuple_ ?_
  refine args_cons (wpAny_Name (wpAny_loadName_local hk ha hn hm ?_) (by decide))
  refine args_cons (wpAny_pure ?_)
  refine args_cons (wpAny_Constant_int ?_)
  refine args_nil ?_
  refine wpAny_newTuple ?_
  exact ⟨⟨⟨_, (i, false, 0), t, _⟩, rfl, rfl, rfl, Heap.get?_push_size _ rfl⟩, _, _, rfl, fun b o e => Heap.get?_push_of_some _ e⟩
theorem sts_elt2 {env : Env} {m : Str → Option Value} {i j : Nat} {t u : Tok} {k k1 : Nat} {pos p1 p2 p3 : Pos} (hk : env.scope.kind = .function) (ha : env.kindOf "ahead" = some .local) (hb : env.kindOf "behind" = some .local) (hn : s.heap.Ns env.locals m) (hm : m "ahead" = some (.int (i : Int) t)) (hmb : m "behind" = some (.int (j : Int) u)) :
    wpAny M A (eval (.Tuple [.Name "ahead" p1, .Constant (.bool true) k1 p2, .Name "behind" p3] k pos) env)
      (fun y s' => (∃ q : Sp, q.st = (i, true, j) ∧ y = .ref q.a ∧ q.a = s.heap.objs.size ∧ s'.heap.get? q.a = some q.obj) ∧ Keeps s s') E s := by
  refine Tuple_ ?_
  refine args_cons (wpAny_Name (wpAny_loadName_local hk ha hn hm ?_) (by decide))
  refine args_cons (wpAny_pure ?_)
  refine args_cons (wpAny_Name (wpAny_loadName_local hk hb hn hmb ?_) (by decide))
  refine args_nil ?_
  refine wpAny_newTuple ?_
  exact ⟨⟨⟨_, (i, true, j), t, u⟩, rfl, rfl, rfl, Heap.get?_push_size _ rfl⟩, _, _, rfl, fun b o e => Heap.get?_push_of_some _ e⟩
end
theorem sps_of {h : Heap} {I D C lo : Nat} {f : Nat → Stt} : ∀ (ys : List Value) (n : Nat), (∀ (j : Nat) (y : Value), ys[j]? = some y → ∃ q : Sp, q.st = f (n + j) ∧ y = .ref q.a ∧ (@LE.le Nat _ lo q.a) ∧ h.get? q.a = some q.obj) →
    ∃ tps : List Sp, ys = spRefs tps ∧ tps.map (·.st) = (List.range' n ys.length).map f ∧ ∀ q ∈ tps, (@LE.le Nat _ lo q.a) ∧ h.get? q.a = some q.obj
  | [], n, _ => ⟨[], rfl, rfl, fun _ h => nomatch h⟩
  | y :: ys, n, hy => by
    obtain ⟨q, h1, rfl, h2, h3⟩ := hy 0 y rfl
    obtain ⟨tps, rfl, ht, hq⟩ := sps_of (h := h) (I := I) (D := D) (C := C) (lo := lo) (f := f) ys (n + 1) fun j z e => by
      have := hy (j + 1) z e
      rw [show n + 1 + j = n + (j + 1) by omega]
      exact this
    refine ⟨q :: tps, rfl, ?_, fun x hx => ?_⟩
    · rw [List.map_cons, ht, h1]
      simp [List.range'_succ]
    · rcases List.mem_cons.mp hx with rfl | hx
      · exact ⟨h2, h3⟩
      · exact hq x hx
theorem ledger_of {h₀ h : Heap} {L : Addr} {m : Str → Option Value} (F : Fr h₀ L h m) (K : List (Addr × Obj)) (hK : ∀ p ∈ K, h.get? p.1 = some p.2) (hL : ∀ p ∈ K, p.1 ≠ L) :
    ∃ K' : List (Addr × Obj), News h₀ L h K' ∧ (∀ p ∈ K', p ∈ K) ∧ ∀ h' m', Fr h₀ L h' m' → News h₀ L h' K' → ∀ p ∈ K, h'.get? p.1 = some p.2 := by
  refine ⟨K.filter fun p => (h₀.get? p.1).isNone, fun p hp => ?_, fun p hp => (List.mem_filter.mp hp).1, fun h' m' F' N' p hp => ?_⟩
  · obtain ⟨h1, h2⟩ := List.mem_filter.mp hp
    exact ⟨hK p h1, hL p h1, by simpa using h2⟩
  · cases q : h₀.get? p.1 with
    | none => exact (N' p (List.mem_filter.mpr ⟨hp, by simp [q]⟩)).1
    | some o =>
      have := F.keep _ _ q
      rw [hK p hp] at this
      cases this
      exact F'.keep _ _ q
theorem not_frame {h₀ h : Heap} {L a : Addr} {m : Str → Option Value} {o : Obj} (F : Fr h₀ L h m) (ho : h.get? a = some o) (hd : ∀ es ep, o.data ≠ .dict es ep) : a ≠ L := by
  rintro rfl
  obtain ⟨oL, es, ep, hL, hdat, _⟩ := F.ns
  rw [hL] at ho
  cases ho
  exact hd _ _ hdat
theorem rows_led {h₀ h : Heap} {L l : Addr} {m : Str → Option Value} {rows : List Row} (F : Fr h₀ L h m) (hr : RowsAt h l rows) :
    ∃ K : List (Addr × Obj), (∀ p ∈ K, h.get? p.1 = some p.2) ∧ (∀ p ∈ K, p.1 ≠ L) ∧ (∀ p ∈ K, ∃ xs n, p.2.data = .seq xs n) ∧ ∀ h' : Heap, (∀ p ∈ K, h'.get? p.1 = some p.2) → RowsAt h' l rows := by
  obtain ⟨vs, ⟨ol, hol, hcl, nl, hdl⟩, hn, hv⟩ := hr
  have key : ∀ k : Nat, k ≤ rows.length → ∃ K : List (Addr × Obj), (∀ p ∈ K, h.get? p.1 = some p.2) ∧ (∀ p ∈ K, p.1 ≠ L) ∧ (∀ p ∈ K, ∃ xs n, p.2.data = .seq xs n) ∧ ∀ h' : Heap, (∀ p ∈ K, h'.get? p.1 = some p.2) →
      ∀ (i : Nat) (r : Row), i < k → rows[i]? = some r → ∃ (a : Addr) (t u : Tok), vs[i]? = some (Value.ref a) ∧ IsTup h' a #[.str (S r.1) t, .str (S r.2) u] := by
    intro k
    induction k with
    | zero => exact fun _ => ⟨[], (fun _ h => nomatch h), (fun _ h => nomatch h), (fun _ h => nomatch h), fun h' _ i r hi => absurd hi (Nat.not_lt_zero _)⟩
    | succ k ih =>
      intro hk
      obtain ⟨K, h1, h2, h2b, h3⟩ := ih (by omega)
      have hkr : rows[k]? = some rows[k] := List.getElem?_eq_getElem (by omega)
      obtain ⟨a, t, u, e1, o, ho, hc, z, hd⟩ := hv k rows[k] hkr
      refine ⟨(a, o) :: K, fun p hp => ?_, fun p hp => ?_, fun p hp => ?_, fun h' hp i r hi hri => ?_⟩
      · rcases List.mem_cons.mp hp with rfl | hp
        · exact ho
        · exact h1 p hp
      · rcases List.mem_cons.mp hp with rfl | hp
        · exact not_frame F ho (by rw [hd]; exact fun _ _ => nofun)
        · exact h2 p hp
      · rcases List.mem_cons.mp hp with rfl | hp
        · exact ⟨_, z, hd⟩
        · exact h2b p hp
      · rcases Nat.lt_or_ge i k with hlt | hge
        · exact h3 h' (fun p q => hp p (.tail _ q)) i r hlt hri
        · have : i = k := by omega
          subst this
          rw [hkr] at hri
          cases hri
          exact ⟨a, t, u, e1, o, hp _ (.head _), hc, z, hd⟩
  obtain ⟨K, h1, h2, h2b, h3⟩ := key rows.length (Nat.le_refl _)
  refine ⟨(l, ol) :: K, fun p hp => ?_, fun p hp => ?_, fun p hp => ?_, fun h' hp => ⟨vs, ⟨ol, hp _ (.head _), hcl, nl, hdl⟩, hn, fun i r hi => h3 h' (fun p q => hp p (.tail _ q)) i r (List.getElem?_eq_some_iff.mp hi).1 hi⟩⟩
  · rcases List.mem_cons.mp hp with rfl | hp
    · exact hol
    · exact h1 p hp
  · rcases List.mem_cons.mp hp with rfl | hp
    · exact not_frame F hol (by rw [hdl]; exact fun _ _ => nofun)
    · exact h2 p hp
  · rcases List.mem_cons.mp hp with rfl | hp
    · exact ⟨_, nl, hdl⟩
    · exact h2b p hp
end Mine
end

section
open PySem PySem.W PyProof.Rows PySem.Calls
set_option maxHeartbeats 4000000
namespace Mine
theorem nodup_le {α : Type} [DecidableEq α] : ∀ {l k : List α}, l.Nodup → (∀ x ∈ l, x ∈ k) → l.length ≤ k.length
  | [], _, _, _ => Nat.zero_le _
  | x :: l, k, hn, hs => by
    rw [List.nodup_cons] at hn
    have hx := hs x (.head _)
    have := nodup_le (l := l) (k := k.erase x) hn.2 fun y hy => by
      refine (List.mem_erase_of_ne ?_).mpr (hs y (.tail _ hy))
      rintro rfl
      exact hn.1 hy
    rw [List.length_erase_of_mem hx] at this
    have h1 := List.length_pos_of_mem hx
    simp only [List.length_cons]
    omega
noncomputable def OkG (rows : List Row) (sts : List Stt) (G : Gr) (c : Nat) : Prop := Grown G ∧ (∀ y, isKey G y → ∃ s ∈ sts, y = T rows s) ∧ tot G ≤ c
theorem OkG.nil {rows : List Row} {sts : List Stt} : OkG rows sts [] 0 := ⟨grown_nil, (fun y h => nomatch h), Nat.le_refl _⟩
theorem OkG.len {rows : List Row} {sts : List Stt} {G : Gr} {c : Nat} (h : OkG rows sts G c) : G.length ≤ sts.length := by
  have := nodup_le (k := sts.map (T rows)) h.1.nd fun y hy => by
    obtain ⟨s, hs, rfl⟩ := h.2.1 y hy
    exact List.mem_map_of_mem hs
  simpa using this
theorem tot_mem : ∀ {G : Gr}, ∀ y ∈ G, y.2.2.length ≤ tot G
  | [], _, h => nomatch h
  | x :: G, y, h => by
    have e : tot (x :: G) = (x.2.2.length + 1) + tot G := by simp [tot]
    rcases List.mem_cons.mp h with rfl | h
    · omega
    · have := tot_mem y h
      omega
theorem OkG.bd {rows : List Row} {sts : List Stt} {G : Gr} {c n : Nat} (h : OkG rows sts G c) (hc : c ≤ n) : Bd n G := fun y hy => Nat.le_trans (tot_mem y hy) (Nat.le_trans h.2.2 hc)
theorem OkG.add0 {rows : List Row} {sts : List Stt} {st : Stt} {G : Gr} {c : Nat} (h : OkG rows sts G c) (hst : st ∈ sts) : OkG rows sts (addG (T rows st) [] G) (c + 3) ∧ isKey (addG (T rows st) [] G) (T rows st) := by
  obtain ⟨a1, a2, a3, a4⟩ := Mine.add0 h.1 (T rows st)
  refine ⟨⟨a1, fun y hy => ?_, by have := h.2.2; omega⟩, (a2 _).mpr (.inr rfl)⟩
  rcases (a2 y).mp hy with hy | rfl
  · exact h.2.1 y hy
  · exact ⟨st, hst, rfl⟩
theorem OkG.step {rows : List Row} {sts : List Stt} {st s' : Stt} {G : Gr} {c : Nat} (h : OkG rows sts G c) (hk : isKey G (T rows st)) : OkG rows sts (stepG rows sts st G s') (c + 3) ∧ isKey (stepG rows sts st G s') (T rows st) := by
  obtain ⟨i1, i2, i3, i4⟩ := step_fold (rows := rows) (sts := sts) (st := st) [s'] G h.1 hk
  refine ⟨⟨i1, fun y hy => ?_, by have := h.2.2; simp only [List.foldl_cons, List.foldl_nil, List.length_cons, List.length_nil] at i4; omega⟩, (i2 _).mpr (.inl hk)⟩
  rcases (i2 y).mp hy with hy | ⟨z, hz, ⟨h1, h2⟩, rfl⟩
  · exact h.2.1 y hy
  · exact ⟨z, h2, rfl⟩
noncomputable def stData (st : Stt) : PyData := .tuple [.int (st.1 : Int), .bool st.2.1, .int (st.2.2 : Int)]
theorem stData_eqv (a b : Stt) : PyData.eqv (stData a) (stData b) = decide (a = b) := by
  obtain ⟨a1, a2, a3⟩ := a
  obtain ⟨b1, b2, b3⟩ := b
  simp only [stData, PyData.eqv, PyData.eqvAll]
  rw [Bool.eq_iff_iff]
  simp only [Bool.and_eq_true, beq_iff_eq, decide_eq_true_eq, Prod.mk.injEq, Int.natCast_inj]
  simp
theorem stData_lay (sts : List Stt) : PyData.canLayAll0 (sts.map stData) = true := by
  induction sts with
  | nil => rfl
  | cons s sts ih => simp [PyData.canLayAll0, stData, PyData.canLay0, ih]
theorem stData_depth (sts : List Stt) : PyData.depthAll (sts.map stData) ≤ 2 := by
  induction sts with
  | nil => simp [PyData.depthAll]
  | cons s sts ih => simp [PyData.depthAll, stData, PyData.depth]; omega
theorem st_reads {h : Heap} {a : Addr} {st : Stt} {t u : Tok} (ht : IsTup h a #[.int st.1 t, .bool st.2.1, .int st.2.2 u]) : Reads h (.ref a) (stData st) [] := by
  obtain ⟨o, ho, hc, n, hd⟩ := ht
  exact .tuple ho hc hd (.cons (.int _ _) (.cons (.bool _) (.cons (.int _ _) .nil)))
theorem sts_reads {h : Heap} {l : Addr} {sts : List Stt} (x : StsAt h l sts) : ∃ as, Reads h (.ref l) (.list (sts.map stData)) as := by
  obtain ⟨tps, rfl, ⟨o, ho, hc, n, hd⟩, hq⟩ := x
  have key : ∀ tps : List Sp, (∀ q ∈ tps, h.get? q.a = some q.obj) → ReadsAll h (spRefs tps) ((tps.map (·.st)).map stData) [] := by
    intro tps
    induction tps with
    | nil => exact fun _ => .nil
    | cons q tps ih => exact fun hq => .cons (st_reads ⟨_, hq q (.head _), rfl, _, rfl⟩) (ih fun q' h' => hq q' (.tail _ h'))
  exact ⟨_, .list ho hc hd (key tps hq)⟩
theorem any_st (sts : List Stt) (st : Stt) : ((sts.map stData).any fun y => PyData.eqv y (stData st)) = decide (st ∈ sts) := by
  rw [List.any_map, Bool.eq_iff_iff]
  simp [stData_eqv]
end Mine
end

section
open PySem PySem.W PyProof.Rows PySem.Calls
namespace Mine
section
variable {M : Model} {A : Around} {E : Value → Shared → Prop} {s : Shared} {C : Addr} {m : Str → Option Value} {env : Env} {scope : Scope} {x : Str} {pos : Pos} {v : Value} {Q : Value → Shared → Prop}
theorem cn_local (hns : s.heap.Ns C m) (hv : m x = some v) (h : Q v s) (hk : scope.kind = .function := by rfl) (hx : (compEnv scope C env).kindOf x = some .local := by rfl) (hd : (x == ("__debug__" : Str)) = false := by decide) :
    wpAny M A (eval (.Name x pos) (compEnv scope C env)) Q E s := wpAny_Name (wpAny_loadName_local (env := compEnv scope C env) hk hx hns hv h) hd
theorem cn_builtin {K : Frag} {p : Program} {loose : List Str} {mg mb : Str → Option Value} (hg : env.globals = mainGlobals) (hb : env.builtins = builtinsNs) (X : K.In s.heap) (T : TopRead p loose mg mb s.heap) (e : nsIn K mainGlobals x = some none) (hv : bootBuiltins x = some v) (hn : x ≠ "__name__") (h : Q v s)
    (hk : scope.kind = .function := by rfl) (hx : (compEnv scope C env).kindOf x = some .globalImplicit := by rfl) (hd : (x == ("__debug__" : Str)) = false := by decide) :
    wpAny M A (eval (.Name x pos) (compEnv scope C env)) Q E s :=
  Name_function_global (env := compEnv scope C env) hk hx (loadGlobal_builtin (env := compEnv scope C env) (by show s.heap.Ns env.globals mg; rw [hg]; exact T.g) (mg_none_of X T.g e) (by show s.heap.Ns env.builtins mb; rw [hb]; exact T.b) ((T.builtins x hn).trans hv) h) hd
theorem elt_call1 {K : Frag} {p : Program} {loose : List Str} {mg mb : Str → Option Value} {f : Str} {id : String} {p1 p2 : Pos} (hg : env.globals = mainGlobals) (hb : env.builtins = builtinsNs) (X : K.In s.heap) (T : TopRead p loose mg mb s.heap)
    (e : nsIn K mainGlobals f = some none) (hv : bootBuiltins f = some (.builtin id)) (hn : f ≠ "__name__") (hns : s.heap.Ns C m) (hm : m x = some v) (h : wpAny M A (call (.builtin id) [v]) Q E s)
    (hk : scope.kind = .function := by rfl) (hf : (compEnv scope C env).kindOf f = some .globalImplicit := by rfl) (hd : (f == ("__debug__" : Str)) = false := by decide)
    (hx : (compEnv scope C env).kindOf x = some .local := by rfl) (hd2 : (x == ("__debug__" : Str)) = false := by decide) :
    wpAny M A (eval (.Call (.Name f p1) [.Name x p2] [] pos) (compEnv scope C env)) Q E s :=
  Call_ (cn_builtin hg hb X T e hv hn (callWith_builtin1 (args_cons (cn_local hns hm (args_nil h) hk hx hd2))) hk hf hd)
end
section
variable {prog : Program} {w : World} {A : Around} {E : Value → Shared → Prop} {s : Shared} {g : Heap} {L : Addr} {m : Str → Option Value} {env : Env} {scope : Scope} {x : Str} {elt : Expr} {Q : Value → Shared → Prop}
theorem Paired.all {α β : Type} {F G : α → β → Prop} {l₁ : List α} {l₂ : List β} (h : Paired F l₁ l₂) (k : ∀ a b, F a b → G a b) : Paired G l₁ l₂ := by
  induction h with
  | nil => exact .nil
  | cons a _ ih => exact .cons (k _ _ a) ih
theorem pair_up {α : Type} {val G : α → Value → Prop} {vs : List Value} {ys : List Value} (h : Paired (fun v y => ∀ a, val a v → G a y) vs ys) : ∀ {as : List α}, vs.length = as.length →
    (∀ (j : Nat) v, vs[j]? = some v → ∃ a, as[j]? = some a ∧ val a v) → Paired G as ys := by
  induction h with
  | nil => intro as hl _; cases as with | nil => exact .nil | cons => cases hl
  | @cons v y vs ys h1 _ ih =>
    intro as hl hP
    cases as with
    | nil => cases hl
    | cons a as =>
      obtain ⟨a', e, hv⟩ := hP 0 v rfl
      cases e
      exact .cons (h1 a hv) (ih (by simpa using hl) fun j u hj => hP (j + 1) u hj)
theorem comp_walk {α : Type} {I : Addr} {as : List α} {St : Nat → Heap → Prop} {h₂ : Heap} {tk₂ : Nat} (val : α → Value → Prop) (G : α → Value → Prop) (inj : ∀ a a' v, val a v → val a' v → a = a')
    (hI : I = s.heap.objs.size) (hx2 : Ext [] s.heap h₂) (W : Walks prog w A I [I] [I] as.length (fun i v => ∃ a, as[i]? = some a ∧ val a v) St) (h0 : St 0 h₂) (hIl : I < h₂.objs.size) (hz : as.length ≤ 10000)
    (elt_ok : ∀ C a v s₃ m₃ E', a ∈ as → val a v → s₃.heap.Ns C m₃ → m₃ x = some v → (∀ b o, s.heap.get? b = some o → s₃.heap.get? b = some o) →
      wpAny (model prog w) A (eval elt (compEnv scope C env)) (fun y s₄ => G a y ∧ Keeps s₃ s₄) E' s₃)
    (fin : ∀ D h' tk (ys : List Value), s.heap.get? D = none → Ext [] s.heap h' → h'.PlainList D ys.toArray → Paired G as ys → Q (.ref D) { s with heap := h', toks := tk }) :
    CompPost prog w A env scope x [] elt Q (.ref I) { s with heap := h₂, toks := tk₂ } := by
  have hnew : ∀ b o, s.heap.get? b = some o → b ∉ [I] := fun b o e hm => by
    rw [List.mem_singleton.mp hm, hI] at e
    exact absurd (Heap.lt_size e) (Nat.lt_irrefl _)
  refine ⟨fun _ => true, fun v y => ∀ a, val a v → G a y, I, [I], [I], as.length, _, St, rfl, W, by rw [sizeLine_eq]; omega, h0, fun b hb => by rw [List.mem_singleton.mp hb]; exact hIl, ⟨?_, ?_⟩, ?_⟩
  · intro C i v s₃ m₃ E' _ _ _ _ _
    exact wpAny_pure ⟨rfl, s₃.heap, s₃.toks, rfl, fun _ _ e => e⟩
  · rintro C i v s₃ m₃ E' ⟨a, ha, hv⟩ _ hns hm hk _
    refine wpAny_mono (elt_ok C a v s₃ m₃ E' (List.mem_of_getElem? ha) hv hns hm fun b o e => hk b o (hnew b o e) (hx2 b o (by simp) e)) (fun y s₄ h => ⟨fun a' hv' => ?_, h.2⟩) fun _ _ e => e
    rw [inj a' a v hv' hv]; exact h.1
  · intro D h' tk ys vs hD _ hpl hvl hvP hpr hk
    have hfl : vs.filter (fun _ => true) = vs := List.filter_eq_self.mpr fun _ _ => rfl
    rw [hfl] at hpr
    refine fin D h' tk ys.toList ?_ (fun b o _ e => hk b o (hnew b o e) (hx2 b o (by simp) e)) (by simpa using hpl) (pair_up hpr hvl hvP)
    cases q : s.heap.get? D with
    | none => rfl
    | some o => have := hx2 D o (by simp) q; simp only at hD; rw [this] at hD; cases hD
theorem comp_signs {l : List Nat} {t : Tok} (G : Nat → Value → Prop) (hh : A.handled = none) (hz : l.length ≤ 10000)
    (elt_ok : ∀ C c u s₃ m₃ E', c ∈ l → s₃.heap.Ns C m₃ → m₃ x = some (.str (S [c]) u) → (∀ b o, s.heap.get? b = some o → s₃.heap.get? b = some o) →
      wpAny (model prog w) A (eval elt (compEnv scope C env)) (fun y s₄ => G c y ∧ Keeps s₃ s₄) E' s₃)
    (fin : ∀ D h' tk (ys : List Value), s.heap.get? D = none → Ext [] s.heap h' → h'.PlainList D ys.toArray → Paired G l ys → Q (.ref D) { s with heap := h', toks := tk }) :
    wpAny (model prog w) A (pyIter (.str (S l) t)) (CompPost prog w A env scope x [] elt Q) E s := by
  refine wpAny_pyIter_str fun o St W h0 => ?_
  have W' := W A hh
  have e1 : (S l).cps.size = l.length := by simp [S]
  rw [e1] at W'
  have e2 : SignAt (S l) = fun i v => ∃ c, l[i]? = some c ∧ ∃ u, v = .str (S [c]) u := by
    funext i v
    apply propext
    constructor
    · rintro ⟨c, u, a, b⟩; exact ⟨c, by simpa [S] using a, u, b⟩
    · rintro ⟨c, a, u, b⟩; exact ⟨c, u, by simpa [S] using a, b⟩
  rw [e2] at W'
  refine comp_walk (tk₂ := s.toks) (fun c v => ∃ u, v = .str (S [c]) u) G ?_ rfl (fun b o' _ e => Heap.get?_push_of_some _ e) W' h0 (by rw [Heap.size_push]; exact Nat.lt_succ_self _) hz ?_ fin
  · rintro a a' v ⟨u, rfl⟩ ⟨u', e⟩
    have := S_inj (Value.str.inj e).1
    simpa using this
  · rintro C c v s₃ m₃ E' hc ⟨u, rfl⟩ hns hm hk
    exact elt_ok C c u s₃ m₃ E' hc hns hm hk
theorem comp_octets {l : List Nat} {t : Tok} (G : Nat → Value → Prop) (hh : A.handled = none) (hz : l.length ≤ 10000) (hb : ∀ c ∈ l, c < 256)
    (elt_ok : ∀ C (c : Nat) u s₃ m₃ E', c ∈ l → s₃.heap.Ns C m₃ → m₃ x = some (.int c u) → (∀ b o, s.heap.get? b = some o → s₃.heap.get? b = some o) →
      wpAny (model prog w) A (eval elt (compEnv scope C env)) (fun y s₄ => G c y ∧ Keeps s₃ s₄) E' s₃)
    (fin : ∀ D h' tk (ys : List Value), s.heap.get? D = none → Ext [] s.heap h' → h'.PlainList D ys.toArray → Paired G l ys → Q (.ref D) { s with heap := h', toks := tk }) :
    wpAny (model prog w) A (pyIter (.bytes (l.map (·.toUInt8)).toArray t)) (CompPost prog w A env scope x [] elt Q) E s := by
  refine KBw.pyIter_bytes ?_
  have W := KBw.walks (prog := prog) (w := w) hh s.heap.objs.size (l.map (·.toUInt8)).toArray t
  have e1 : (l.map (·.toUInt8)).toArray.size = l.length := by simp
  rw [e1] at W
  have e2 : (fun (i : Nat) v => ∃ c u, (l.map (·.toUInt8)).toArray[i]? = some c ∧ v = Value.int (c.toNat : Int) u) = fun i v => ∃ c, l[i]? = some c ∧ c < 256 ∧ ∃ u, v = .int c u := by
    funext i v
    apply propext
    constructor
    · rintro ⟨c, u, a, rfl⟩
      simp only [List.getElem?_toArray, List.getElem?_map, Option.map_eq_some_iff] at a
      obtain ⟨d, hd, rfl⟩ := a
      have hlt := hb d (List.mem_of_getElem? hd)
      refine ⟨d, hd, hlt, u, ?_⟩
      simp [Nat.toUInt8, Nat.mod_eq_of_lt hlt]
    · rintro ⟨c, a, hlt, u, rfl⟩
      refine ⟨c.toUInt8, u, by simp [a], ?_⟩
      simp [Nat.toUInt8, Nat.mod_eq_of_lt hlt]
  rw [e2] at W
  refine comp_walk (tk₂ := s.toks) (fun (c : Nat) v => c < 256 ∧ ∃ u, v = .int c u) G ?_ rfl (fun b o' _ e => Heap.get?_push_of_some _ e) W ⟨_, Heap.get?_push_size _ rfl, rfl, rfl⟩ (by rw [Heap.size_push]; exact Nat.lt_succ_self _) hz ?_ fin
  · rintro a a' v ⟨_, u, rfl⟩ ⟨_, u', e⟩
    have := (Value.int.inj e).1
    omega
  · rintro C c v s₃ m₃ E' hc ⟨_, u, rfl⟩ hns hm hk
    exact elt_ok C c u s₃ m₃ E' hc hns hm hk
end
end Mine
end

section
open PySem PySem.W PyProof.Rows PySem.Calls PySem.Builtin PySem.Builtin.Re PySem.Sre
set_option maxHeartbeats 4000000
namespace Mine
theorem ints_of {l : List Nat} {ys : List Value} (h : Paired (fun (c : Nat) y => ∃ u, y = Value.int c u) l ys) : IntsAre ys (l.map fun (c : Nat) => (c : Int)) := by
  induction h with
  | nil => exact .nil
  | cons a _ ih => obtain ⟨u, rfl⟩ := a; exact .cons _ _ ih
theorem subFrom_len {code : Array Nat} {l rl : List Nat} {find : Nat → Option (Nat × Nat)} (hf : Finds code l find) : ∀ (f pos : Nat), pos ≤ l.length → (subFrom find rl l f pos).length ≤ (l.length - pos) * (rl.length + 1)
  | 0, pos, h => by
    show (l.drop pos).length ≤ _
    rw [List.length_drop]
    exact Nat.le_mul_of_pos_right _ (Nat.succ_pos _)
  | f + 1, pos, h => by
    unfold subFrom
    cases hq : find pos with
    | none =>
      show (l.drop pos).length ≤ _
      rw [List.length_drop]
      exact Nat.le_mul_of_pos_right _ (Nat.succ_pos _)
    | some be =>
      obtain ⟨b, e⟩ := be
      obtain ⟨h1, h2, h3⟩ := hf.le pos b e hq
      have ih := subFrom_len (rl := rl) hf f e h3
      show ((l.drop pos).take (b - pos) ++ (rl ++ subFrom find rl l f e)).length ≤ _
      rw [List.length_append, List.length_append, List.length_take, List.length_drop]
      have e1 : l.length - pos = (b - pos) + ((e - b) + (l.length - e)) := sub_three h1 (Nat.le_of_lt h2) h3
      have e2 : (l.length - pos) * (rl.length + 1) = (b - pos) * (rl.length + 1) + ((e - b) * (rl.length + 1) + (l.length - e) * (rl.length + 1)) := by rw [e1, Nat.add_mul, Nat.add_mul]
      have e3 : b - pos ≤ (b - pos) * (rl.length + 1) := Nat.le_mul_of_pos_right _ (Nat.succ_pos _)
      have e4 : rl.length + 1 ≤ (e - b) * (rl.length + 1) := Nat.le_mul_of_pos_left _ (Nat.sub_pos_of_lt h2)
      rw [e2]
      exact Nat.add_le_add (Nat.le_trans (Nat.min_le_left _ _) e3) (Nat.add_le_add (Nat.le_trans (Nat.le_succ _) e4) ih)
theorem quoteL_len {l : List Nat} (h : l.length ≤ 1000) : (quoteL l).length ≤ 3 * l.length := by
  have := subFrom_len (rl := [46, 46]) (finds1 l h) (l.length + 1) 0 (Nat.zero_le _)
  show (subFrom _ _ _ _ _).length ≤ _
  simp only [List.length_cons, List.length_nil] at this
  omega
theorem strs_of {l : List Nat} {ys : List Value} (h : Paired (fun (c : Nat) y => ∃ u, y = Value.str (S [c]) u) l ys) : TVs 0 (l.map fun c => [c]) ys := by
  induction h with
  | nil => exact trivial
  | cons a _ ih => obtain ⟨u, rfl⟩ := a; exact ⟨.str _ _, ih⟩
theorem flat_one (l : List Nat) : (l.map fun c => [c]).flatten = l := by
  induction l with
  | nil => rfl
  | cons c l ih => simp [ih]
theorem quoted_call {n : Nat} {prog : Program} {w : World} {A : Around} {s : Shared} {h₀ : Heap} {L : Addr} {m : Str → Option Value} {R : Result → Shared → Prop}
   (C : Cx n w A h₀ L) (hn : n ≤ 40) (F : Fr h₀ L s.heap m) {l : List Nat} {t : Tok} (hl : l.length ≤ 1000) (hb : ∀ c ∈ l, c < 256)
   (k : ∀ t h' tk, Ext [] s.heap h' → R (.ok (.ret (.str (S (quoteL l)) t))) { s with heap := h', toks := tk }) :
   codeAny (model prog w) A (.call (.ref 213) ⟨[.str (S l) t], []⟩) R s := by
  obtain ⟨hd0, dp0, fr0, gd0, un0⟩ := A
  have hh0 : hd0 = none := C.handled
  subst hh0
  refine' enter (binds := [("text", .str (S l) t)]) C (le_lit hn rfl) F [] News.nil ?ho ?hcd ?hb ?hloc ?c1 ?c2 ?c3 ?c4 ?_
  ((case ho => k_is); (case hcd => k_is); (case hb => first | exact BindsTo.of_eq rfl | exact binds_K (by k_in) rfl (by k_is) rfl rfl rfl); (case hloc => exact locs rfl); (case c1 => rfl); (case c2 => rfl); (case c3 => rfl); (case c4 => decide))
  intro g L' h₁ hg C' F' N'
  refine C'.top_el fun pp loose mg mb T => ?_
  have X := C'.X
  have q1 := S_len l
  iterate 7 walk1
  refine ListComp_rowsP (by decide) (by decide) rfl (by decide) rfl ?_
  iterate 8 walk1
  refine ListComp_rowsP (by decide) (by decide) rfl (by decide) rfl ?_
  walk1
  refine comp_signs (fun c y => ∃ u, y = .int c u) rfl (by omega) ?elt1 ?_
  case elt1 =>
    intro C0 c u s₃ m₃ E' hc hns hm hk
    have X3 := X.keeps fun b o e => hk b o (F'.keep b o e)
    have T3 := T.keeps fun b o e => hk b o (F'.keep b o e)
    refine' elt_call1 rfl rfl X3 T3 ?a ?b ?c hns hm ?_
    case a => k_is
    case b => boot_fast
    case c => decide
    exact P.ord_of_char ⟨⟨_, rfl⟩, _, _, rfl, fun _ _ e => e⟩
  intro D h' tk ys hD he hpl hpr
  have F2 : Fr g L' h' _ := fr_ext F' Own.nil he
  have hi := ints_of hpr
  dsimp only
  iterate 1 walk1
  refine call_bytes_ints (s := { s with heap := h', toks := tk }) hpl.isList hi (fun n hn => ?_) ?_ rfl ?_
  · obtain ⟨c, hc, rfl⟩ := List.mem_map.mp hn
    have := hb c hc; omega
  · have := hi.length; rw [this, sizeLine_eq]; simp; omega
  intro h2 t2 k2 hk2
  have F3 : Fr g L' h2 _ := fr_ext F2 Own.nil (fun b o _ e => hk2 b o e)
  have X3 := X.keeps F3.keep
  iterate 1 walk1
  refine ⟨X3, ?_⟩
  have hby : TV 1 l (.bytes (byteArr (l.map fun (c : Nat) => (c : Int))) t2) := by
    have e : byteArr (l.map fun (c : Nat) => (c : Int)) = (l.map (·.toUInt8)).toArray := by
      unfold byteArr; rw [List.map_map]; rfl
    rw [e]; exact .bytes _ _ hb
  refine wpAny_call (quotep_call C' (le_lit (Nat.succ_le_succ hn) rfl) F3 hby hl fun x h3 tk3 hx he3 => ?_)
  have F4 : Fr g L' h3 _ := fr_ext F3 Own.nil he3
  have hq := quoteL_len hl
  cases hx with
  | bytes _ t3 hb3 =>
  dsimp only
  refine comp_octets (l := quoteL l) (fun c y => ∃ u, y = .str (S [c]) u) rfl (by omega) hb3 ?elt2 ?_
  case elt2 =>
    intro C0 c u s₃ m₃ E' hc hns hm hk
    have X3 := X.keeps fun b o e => hk b o (F4.keep b o e)
    have T3 := T.keeps fun b o e => hk b o (F4.keep b o e)
    refine' elt_call1 rfl rfl X3 T3 ?a ?b ?c hns hm ?_
    case a => k_is
    case b => boot_fast
    case c => decide
    have hlt := hb3 c hc
    exact chr_of_range (by omega) (by omega) ⟨⟨_, rfl⟩, _, _, rfl, fun _ _ e => e⟩
  intro D2 h4 tk4 zs hD2 he4 hpl4 hpr4
  have F5 : Fr g L' h4 _ := fr_ext F4 Own.nil he4
  dsimp only
  iterate 1 walk1
  rw [S_nil]
  refine join_TV (kd := 0) (s := { s with heap := h4, toks := tk4 }) (.str [] _) hpl4.isList (strs_of hpr4) (by rw [flat_one]; omega) (fun e => nomatch e) ?_
  intro x tk5 hx
  rw [flat_one] at hx
  cases hx with
  | str _ t5 =>
    exact Done.intro F5 fun e => k _ _ _ e
end Mine
end

section
open PySem PySem.W PyProof.Rows PySem.Calls
set_option maxHeartbeats 4000000
namespace Mine
noncomputable def forBody : Stmt → List Stmt
  | .For _ _ b _ _ => b
  | _ => []
noncomputable def webBody : List Stmt := forBody (lawRec.body.getD 5 (.Pass default))
structure Stp where
  t : Addr
  sa : Addr
  st : Stt
  u : Tok
  t1 : Tok
  t2 : Tok
noncomputable def Stp.led (rows : List Row) (p : Stp) : List (Addr × Obj) := [(p.t, { cls := .type "tuple", data := .seq #[.str (S (told rows p.st.1 p.st.2.1 p.st.2.2)) p.u, .ref p.sa] }), (p.sa, { cls := .type "tuple", data := .seq #[.int (p.st.1 : Int) p.t1, .bool p.st.2.1, .int (p.st.2.2 : Int) p.t2] })]
noncomputable def stpRefs (l : List Stp) : List Value := l.map fun p => .ref p.t
noncomputable def stpLed (rows : List Row) (SL : Addr) (l : List Stp) : List (Addr × Obj) := (SL, { cls := .type "list", data := .seq (stpRefs l).toArray }) :: l.flatMap (Stp.led rows)
theorem told_1000 {rows : List Row} {a b : Nat} {md : Bool} (hsm : Small rows) (ha : a ≤ 3) (hb : b ≤ 3) : (told rows a md b).length ≤ 1000 := by
  have := told_len (md := md) ha hb hsm.2 ([], true)
  have h7 := hsm.1
  show ((rows.foldl (toldStep a md b) ([], true)).1).length ≤ 1000
  simp only [List.length_nil] at this
  omega
theorem told_signs {rows : List Row} {a b : Nat} {md : Bool} (h : ∀ r ∈ rows, (∀ c ∈ r.1, c < 256) ∧ ∀ c ∈ r.2, c < 256) : ∀ c ∈ told rows a md b, c < 256 := by
  rw [told_tl]
  exact told_256 h
theorem off_addrs {w : World} {q : Hdr} {od : Obj} {es : List Ent} {Z LG : List (Addr × Obj)} {D : Addr} (hLG : sled w q od es ++ Z = LG) (l : ∀ p ∈ LG, @LT.lt Nat _ p.1 D) : D ∉ addrs q es := fun h => by
  rw [← sled_addrs w _ od es] at h
  obtain ⟨p, hp, rfl⟩ := List.mem_map.mp h
  exact absurd (l p (by rw [← hLG]; exact List.mem_append_left _ hp)) (Nat.lt_irrefl _)
theorem lt_all {D : Addr} : ∀ {l : List (Addr × Obj)}, AllLt D l → ∀ p ∈ l, @LT.lt Nat _ p.1 D
  | [], _, _, h => nomatch h
  | x :: l, a, p, h => by
    rcases List.mem_cons.mp h with rfl | h
    · exact a.1
    · exact lt_all a.2 p h
theorem off_lt {w : World} {q : Hdr} {od : Obj} {es : List Ent} {Z LG : List (Addr × Obj)} {D : Addr} (hLG : sled w q od es ++ Z = LG) (l : AllLt D LG) : D ∉ addrs q es := off_addrs hLG (lt_all l)
structure WebL (prog : Program) (w : World) (h₀ : Heap) (L : Addr) (h : Heap) (q : Hdr) (od : Obj) (es : List Ent) (Z : List (Addr × Obj)) : Prop where
  N : News h₀ L h (sled w q od es ++ Z)
  hod : od.IsDictOf (PySem.strKind prog w) (kvsOf es)
  sys : (q.d == sysModules) = false
  nodup : (addrs q es).Nodup
  dis : ∀ p ∈ Z, p.1 ∉ addrs q es
theorem WebL.st {prog : Program} {w : World} {h₀ h : Heap} {L : Addr} {q : Hdr} {od : Obj} {es : List Ent} {Z : List (Addr × Obj)} (x : WebL prog w h₀ L h q od es Z) : SortSt prog w h q es :=
  ⟨⟨od, x.hod, fun p hp => (x.N p (List.mem_append_left _ hp)).1⟩, x.sys, x.nodup⟩
theorem WebL.own {prog : Program} {w : World} {h₀ h : Heap} {L : Addr} {q : Hdr} {od : Obj} {es : List Ent} {Z : List (Addr × Obj)} (x : WebL prog w h₀ L h q od es Z) : Own h₀ L (addrs q es) := fun a ha => by
  rw [← sled_addrs w _ od es] at ha
  obtain ⟨p, hp, rfl⟩ := List.mem_map.mp ha
  exact ⟨(x.N p (List.mem_append_left _ hp)).2.2, (x.N p (List.mem_append_left _ hp)).2.1⟩
theorem WebL.behind {prog : Program} {w : World} {h₀ h : Heap} {L : Addr} {q : Hdr} {od : Obj} {es : List Ent} {Z : List (Addr × Obj)} (x : WebL prog w h₀ L h q od es Z) : News h₀ L h Z := fun p hp => x.N p (List.mem_append_right _ hp)
theorem WebL.ext {prog : Program} {w : World} {h₀ h h' : Heap} {L : Addr} {q : Hdr} {od : Obj} {es : List Ent} {Z : List (Addr × Obj)} (x : WebL prog w h₀ L h q od es Z) (e : Ext [] h h') : WebL prog w h₀ L h' q od es Z :=
  ⟨fun p hp => ⟨e _ _ (by simp) (x.N p hp).1, (x.N p hp).2⟩, x.hod, x.sys, x.nodup, x.dis⟩
theorem WebL.other {prog : Program} {w : World} {h₀ h h' : Heap} {L : Addr} {q : Hdr} {od : Obj} {es : List Ent} {Z Z' : List (Addr × Obj)} (x : WebL prog w h₀ L h q od es Z) (N : News h₀ L h' (sled w q od es ++ Z')) (dis : ∀ p ∈ Z', p.1 ∉ addrs q es) : WebL prog w h₀ L h' q od es Z' :=
  ⟨N, x.hod, x.sys, x.nodup, dis⟩
theorem WebL.new {prog : Program} {w : World} {h₀ h h' : Heap} {L : Addr} {q q' : Hdr} {od : Obj} {es es' : List Ent} {Z : List (Addr × Obj)} {as : List Addr} (x : WebL prog w h₀ L h q od es Z) (hex : Ext as h h') (hZ : ∀ p ∈ Z, p.1 ∉ as) (st' : SortSt prog w h' q' es') (own' : Own h₀ L (addrs q' es'))
    (hin : ∀ a ∈ addrs q' es', a ∈ addrs q es ∨ h.get? a = none) : ∃ od', WebL prog w h₀ L h' q' od' es' Z := by
  obtain ⟨od', hod', hhas'⟩ := st'.od
  refine ⟨od', fun p hp => ?_, hod', st'.sys, st'.nodup, fun p hp ha => ?_⟩
  · rcases List.mem_append.mp hp with hp | hp
    · exact news_of hhas' (by rw [sled_addrs]; exact own') p hp
    · exact ⟨hex _ _ (hZ p hp) (x.behind p hp).1, (x.behind p hp).2⟩
  · rcases hin _ ha with h1 | h1
    · exact x.dis p hp h1
    · rw [(x.behind p hp).1] at h1; cases h1
theorem ent_len {es : List Ent} : (viewOf es).length = es.length := by simp [viewOf]
theorem add_step {n : Nat} {prog : Program} {w : World} {A : Around} {s : Shared} {h₀ : Heap} {L : Addr} {m : Str → Option Value} {R : Result → Shared → Prop} {rows : List Row} {sts : List Stt} {Z : List (Addr × Obj)} {c : Nat}
   (C : Cx n w A h₀ L) (hn : n ≤ 20) (F : Fr h₀ L s.heap m) {q : Hdr} {od : Obj} {es : List Ent} {k : Str} {t : Tok} (ps : List (Str × Tok)) (hps : ps = [] ∨ ∃ p, ps = [p]) (W : WebL prog w h₀ L s.heap q od es Z) (hok : OkG rows sts (viewOf es) c) (hc : c ≤ 1000) (hsl : sts.length ≤ 12) (hrv : q.rv = .none)
   (kk : ∀ od' es' h' tk, Fr h₀ L h' m → WebL prog w h₀ L h' q od' es' Z → viewOf es' = addG k (ps.map (·.1)) (viewOf es) → R (.ok (.ret .none)) { s with heap := h', toks := tk }) :
   codeAny (model prog w) A (.call (.ref 140) ⟨.ref q.x :: .str k t :: strValues ps, []⟩) R s := by
  have hl := hok.len
  rw [ent_len] at hl
  refine add_call C hn F ps hps W.st W.own (by omega) (hok.bd hc) hrv fun es' h' tk hv hex st' own' hin => ?_
  obtain ⟨od', W'⟩ := W.new hex W.dis st' own' hin
  exact kk od' es' h' tk (fr_ext F W.own hex) W' hv
end Mine
end

section
open PySem PySem.W PyProof.Rows PySem.Calls
set_option maxHeartbeats 4000000
namespace Mine
noncomputable def stepBody : List Stmt := forBody (webBody.getD 4 (.Pass default))
theorem step_turn {n : Nat} {prog : Program} {w : World} {A : Around} {s : Shared} {h₀ : Heap} {L fa lr ls : Addr} {cd : Value} {m : Str → Option Value} {rows : List Row} {sts : List Stt} {st : Stt} {tt : Tok} {p : Stp} {q : Hdr} {od : Obj} {es : List Ent} {Z : List (Addr × Obj)} {c : Nat} {Q : Flow → Shared → Prop} {E : Value → Shared → Prop}
   (C : Cx n w A h₀ L) (hn : n ≤ 5) (F : Fr h₀ L s.heap m) (hV : Vars m [("result", .str (S (told rows p.st.1 p.st.2.1 p.st.2.2)) p.u), ("state", .ref p.sa), ("text", .str (Mine.T rows st) tt), ("rows", .ref lr), ("states", .ref ls), ("web", .ref q.x)])
   (W : WebL prog w h₀ L s.heap q od es Z) (hrv : q.rv = .none) (hZp : ∀ x ∈ Stp.led rows p, x ∈ Z)
   (hR : ∀ h'' m'', Fr h₀ L h'' m'' → News h₀ L h'' Z → RowsAt h'' lr rows ∧ StsAt h'' ls sts) (hsm : Small rows)
   (hsl : sts.length ≤ 12) (hsa : p.st.1 ≤ 3 ∧ p.st.2.2 ≤ 3) (hok : OkG rows sts (viewOf es) c) (hc : c ≤ 1000)
   (k : ∀ h' tk od' es' m', Fr h₀ L h' m' → Vars m' [("text", .str (Mine.T rows st) tt), ("rows", .ref lr), ("states", .ref ls), ("web", .ref q.x)] → WebL prog w h₀ L h' q od' es' Z → viewOf es' = stepG rows sts st (viewOf es) p.st → Q .next { s with heap := h', toks := tk }) :
   wpAny (model prog w) A (execs stepBody (lawEnv L fa cd)) Q E s := by
  obtain ⟨hd0, dp0, fr0, gd0, un0⟩ := A
  have hh0 : hd0 = none := C.handled
  subst hh0
  obtain ⟨pt, sa, ⟨a, md, b⟩, u, t1', t2'⟩ := p
  obtain ⟨x, dx, d, t1, t2, t3, t4, rv, po, tp, fi, tf⟩ := q
  dsimp only at hrv hV hsa
  subst hrv
  unfold lawEnv stepBody webBody lawRec
  dsimp only [getD, List.getD, forBody, List.getElem?_cons_succ, List.getElem?_cons_zero, Option.getD]
  refine C.top_el fun pp loose mg mb T => ?_
  have X := C.X
  have F1 := frs F hV
  clear F
  have hT : ∀ (h : Heap), News h₀ L h Z → IsTup h sa #[.int (a : Int) t1', .bool md, .int (b : Int) t2'] := fun h N => ⟨_, (N _ (hZp _ (.tail _ (.head _)))).1, rfl, _, rfl⟩
  have hT1 := hT _ W.behind
  repeat' walk1
  have W1 : WebL prog w h₀ L s.heap ⟨x, dx, d, t1, t2, t3, t4, .none, po, tp, fi, tf⟩ od es Z := W
  refine wpAny_call (told_call (s := { s with toks := s.toks + 1 + 1 + 1 }) C (le_lit hn rfl) F1 (hR _ _ F1 W1.behind).1 hsm hsa.1 hsa.2 fun tt2 h1 tk1 hx1 => ?_)
  have F2 := fr_ext F1 Own.nil hx1
  have W2 := W1.ext hx1
  clear F1 W W1 hx1 hT1
  dsimp only
  have N2 := W2.N
  generalize hLG : sled w ⟨x, dx, d, t1, t2, t3, t4, .none, po, tp, fi, tf⟩ od es ++ Z = LG at N2
  iterate 3 walk1
  · rename (_ : Bool) = true => hne
    simp at hne
  repeat' walk1
  · rename (_ : Bool) = true => hne
    have hne' : Mine.T rows (a, md, b) ≠ Mine.T rows st := by
      intro e
      have e' : S (told rows a md b) = Mine.T rows st := e
      rw [e'] at hne
      simp at hne
    obtain ⟨as, rs⟩ := sts_reads (hR _ _ F2 W2.behind).2
    refine SeqAt.in_list_reads rs (st_reads (st := (a, md, b)) (hT _ W2.behind)) (stData_lay sts) (by simp [stData, PyData.canLay0, PyData.canLayAll0]) ?un ?_
    case un =>
      have h1 := C.units
      have h2 := cLine_is
      have h3 : min (PyData.depthAll (sts.map stData)) (stData (a, md, b)).depth ≤ 2 := Nat.le_trans (Nat.min_le_left _ _) (stData_depth sts)
      dsimp only at h1 ⊢
      omega
    rw [any_st]
    iterate 2 walk1
    · rename_i hin
      have hin' : (a, md, b) ∈ sts := by simpa using hin
      clear N2
      have N2 := W2.N
      clear hLG
      unfold sled at N2
      dsimp only at N2
      repeat' walk1
      rename Fr h₀ L _ _ => F3
      rename News h₀ L _ _ => N3
      have W3 := W2.other N3 W2.dis
      clear N3 W2
      refine wpAny_call (add_step (q := ⟨x, dx, d, t1, t2, t3, t4, .none, po, tp, fi, tf⟩) (rows := rows) (sts := sts) (c := c) C (le_lit hn rfl) F3 [(Mine.T rows st, tt)] (.inr ⟨_, rfl⟩) W3 hok hc hsl rfl fun od4 es4 h4 tk4 F4 W4 hv4 => ?_)
      dsimp only
      repeat' walk1
      refine k _ _ od4 es4 _ F4 ⟨rfl, rfl, rfl, rfl, trivial⟩ W4 ?_
      rw [hv4]
      exact (if_pos ⟨hne', hin'⟩).symm
    · rename_i hin
      have hin' : (a, md, b) ∉ sts := by simpa using hin
      repeat' walk1
      refine k _ _ od es _ F2 ⟨rfl, rfl, rfl, rfl, trivial⟩ W2 ?_
      exact (if_neg fun h => hin' h.2).symm
  · rename (S (told rows a md b) != Mine.T rows st) = false => heq
    have heq' : Mine.T rows (a, md, b) = Mine.T rows st := by
      have : S (told rows a md b) = Mine.T rows st := by simpa using heq
      exact this
    refine k _ _ od es _ F2 ⟨rfl, rfl, rfl, rfl, trivial⟩ W2 ?_
    exact (if_neg fun h => h.1 heq').symm
end Mine
end

section
open PySem PySem.W PyProof.Rows PySem.Calls
namespace Mine
noncomputable def c5 (I : Addr) (oI : Obj) (ds : Addr) (os : Obj) (dn : Addr) (on : Obj) (li : Addr) (o3 : Obj) (ls : Addr) (o4 : Obj) (X : List (Addr × Obj)) : List (Addr × Obj) :=
  (I, oI) :: (ds, os) :: (dn, on) :: (li, o3) :: (ls, o4) :: X
section
variable {I ds dn li ls L : Addr} {oI os on o3 o4 o o' : Obj} {stk : List Fm} {f : Fm} {X rest SL FR : List (Addr × Obj)} {g h h' : Heap} {prog : Program} {w : World} {es : List Ent} {lv : Str → Nat} {S : Str → Bool} {n : Nat} {p : Addr × Obj}
theorem cl_size (stk : List Fm) : (stL stk).toArray.size = stk.length := by simp [stL]
theorem ci_size (stk : List Fm) : (itL stk).toArray.size = stk.length := by simp [itL]
theorem itL_push (f : Fm) (stk : List Fm) : (itL stk).toArray.push (.ref f.mw) = (itL (f :: stk)).toArray := by rw [itL_cons]; simp
theorem stL_push (f : Fm) (stk : List Fm) : (stL stk).toArray.push (.str f.e.key f.kt) = (stL (f :: stk)).toArray := by rw [stL_cons]; simp
theorem c5_li : (li, o3) ∈ c5 I oI ds os dn on li o3 ls o4 X := .tail _ (.tail _ (.tail _ (.head _)))
theorem c5_ls : (ls, o4) ∈ c5 I oI ds os dn on li o3 ls o4 X := .tail _ (.tail _ (.tail _ (.tail _ (.head _))))
theorem c5_X (hp : p ∈ X) : p ∈ c5 I oI ds os dn on li o3 ls o4 X := .tail _ (.tail _ (.tail _ (.tail _ (.tail _ hp))))
theorem c5_SL (hp : p ∈ SL) : p ∈ c5 I oI ds os dn on li o3 ls o4 (stk.flatMap Fm.led ++ (SL ++ FR)) := c5_X (List.mem_append_right _ (List.mem_append_left _ hp))
theorem c5_rest (hp : p ∈ rest) : p ∈ c5 I oI ds os dn on li o3 ls o4 (stk.flatMap Fm.led ++ rest) := c5_X (List.mem_append_right _ hp)
theorem c5_mw : (f.mw, nextOf f.it) ∈ c5 I oI ds os dn on li o3 ls o4 ((f :: stk).flatMap Fm.led ++ rest) := c5_X (.head _)
theorem c5_it : (f.it, iterOf f.e.sa f.i) ∈ c5 I oI ds os dn on li o3 ls o4 ((f :: stk).flatMap Fm.led ++ rest) := c5_X (.tail _ (.head _))
theorem off_ds (h : p.1 ∉ oa I ds dn li ls stk) : p.1 ≠ ds := fun e => h (by simp [oa, e])
theorem off_dn (h : p.1 ∉ oa I ds dn li ls stk) : p.1 ≠ dn := fun e => h (by simp [oa, e])
theorem off_li (h : p.1 ∉ oa I ds dn li ls stk) : p.1 ≠ li := fun e => h (by simp [oa, e])
theorem off_ls (h : p.1 ∉ oa I ds dn li ls stk) : p.1 ≠ ls := fun e => h (by simp [oa, e])
section
variable (hoa : (oa I ds dn li ls stk).Nodup) (hro : ∀ p ∈ rest, p.1 ∉ oa I ds dn li ls stk)
include hoa hro
theorem upd_ls : Upd ls o o' (c5 I oI ds os dn on li o3 ls o (stk.flatMap Fm.led ++ rest)) (c5 I oI ds os dn on li o3 ls o' (stk.flatMap Fm.led ++ rest)) :=
  upd_o [(I, oI), (ds, os), (dn, on), (li, o3)] (mid := stk.flatMap Fm.led) (by simpa only [oa, fled_addrs, List.map_append, List.map_cons, List.map_nil, List.cons_append, List.nil_append] using hoa) fun p hp => off_ls (hro p hp)
theorem upd_li : Upd li o o' (c5 I oI ds os dn on li o ls o4 (stk.flatMap Fm.led ++ rest)) (c5 I oI ds os dn on li o' ls o4 (stk.flatMap Fm.led ++ rest)) :=
  upd_o [(I, oI), (ds, os), (dn, on)] (mid := (ls, o4) :: stk.flatMap Fm.led) (by simpa only [oa, fled_addrs, List.map_append, List.map_cons, List.map_nil, List.cons_append, List.nil_append] using hoa) fun p hp => off_li (hro p hp)
theorem updF_dn : UpdF dn on (c5 I oI ds os dn on li o3 ls o4 (stk.flatMap Fm.led ++ rest)) (fun o' => c5 I oI ds os dn o' li o3 ls o4 (stk.flatMap Fm.led ++ rest)) :=
  updF_o [(I, oI), (ds, os)] (mid := (li, o3) :: (ls, o4) :: stk.flatMap Fm.led) (by simpa only [oa, fled_addrs, List.map_append, List.map_cons, List.map_nil, List.cons_append, List.nil_append] using hoa) fun p hp => off_dn (hro p hp)
theorem updF_ds : UpdF ds os (c5 I oI ds os dn on li o3 ls o4 (stk.flatMap Fm.led ++ rest)) (fun o' => c5 I oI ds o' dn on li o3 ls o4 (stk.flatMap Fm.led ++ rest)) :=
  updF_o [(I, oI)] (mid := (dn, on) :: (li, o3) :: (ls, o4) :: stk.flatMap Fm.led) (by simpa only [oa, fled_addrs, List.map_append, List.map_cons, List.map_nil, List.cons_append, List.nil_append] using hoa) fun p hp => off_ds (hro p hp)
end
theorem upd_it (hoa : (oa I ds dn li ls (f :: stk)).Nodup) (hro : ∀ p ∈ rest, p.1 ∉ oa I ds dn li ls (f :: stk)) {ni ns : Nat} :
    Upd f.it (iterOf f.e.sa f.i) (iterOf f.e.sa (f.i + 1)) (c5 I oI ds os dn on li (W.listOf (itL (f :: stk)).toArray ni) ls (W.listOf (stL (f :: stk)).toArray ns) ((f :: stk).flatMap Fm.led ++ rest))
      (c5 I oI ds os dn on li (W.listOf (itL ({ f with i := f.i + 1 } :: stk)).toArray ni) ls (W.listOf (stL ({ f with i := f.i + 1 } :: stk)).toArray ns) (({ f with i := f.i + 1 } :: stk : List Fm).flatMap Fm.led ++ rest)) := by
  have := upd_o (a := f.it) (o := iterOf f.e.sa f.i) (o' := iterOf f.e.sa (f.i + 1)) [(I, oI), (ds, os), (dn, on), (li, W.listOf (itL (f :: stk)).toArray ni), (ls, W.listOf (stL (f :: stk)).toArray ns), (f.mw, nextOf f.it)] (mid := stk.flatMap Fm.led) (rest := rest)
    (by simpa only [oa, fled_addrs, List.map_append, List.map_cons, List.map_nil, List.cons_append, List.nil_append, List.flatMap_cons] using hoa) (fun p hp e => hro p hp (by rw [oa_mem, e]; simp))
  simpa [c5, Fm.led, stL, itL] using this
theorem news_more (N : News g L h (c5 I oI ds os dn on li o3 ls o4 (stk.flatMap Fm.led ++ rest))) (p1 : h.get? f.mw = some (nextOf f.it) ∧ f.mw ≠ L ∧ g.get? f.mw = none) (p2 : h.get? f.it = some (iterOf f.e.sa f.i) ∧ f.it ≠ L ∧ g.get? f.it = none) :
    News g L h (c5 I oI ds os dn on li o3 ls o4 ((f :: stk).flatMap Fm.led ++ rest)) :=
  newsC (newsH N) (newsC (newsH (newsT N)) (newsC (newsH (newsT (newsT N))) (newsC (newsH (newsT (newsT (newsT N)))) (newsC (newsH (newsT (newsT (newsT (newsT N))))) (newsC p1 (newsC p2 (newsT (newsT (newsT (newsT (newsT N))))))))))) 
theorem news_less (N : News g L h (c5 I oI ds os dn on li o3 ls o4 ((f :: stk).flatMap Fm.led ++ (SL ++ FR)))) (hoa : (oa I ds dn li ls (f :: stk)).Nodup) (hro : ∀ p ∈ SL ++ FR, p.1 ∉ oa I ds dn li ls (f :: stk)) (hsb : Heap.SameBut f.it h h') :
    News g L h' (c5 I oI ds os dn on li o3 ls o4 (stk.flatMap Fm.led ++ SL) ++ FR) := by
  have hfit : f.it ∉ oa I ds dn li ls stk := by
    have p : List.Perm (oa I ds dn li ls (f :: stk)) (f.mw :: f.it :: oa I ds dn li ls stk) := by
      show List.Perm ([I, ds, dn, li, ls] ++ ([f.mw, f.it] ++ stk.flatMap fun f => [f.mw, f.it])) ([f.mw, f.it] ++ ([I, ds, dn, li, ls] ++ stk.flatMap fun f => [f.mw, f.it]))
      rw [← List.append_assoc, ← List.append_assoc]
      exact List.Perm.append_right _ List.perm_append_comm
    have h := hoa
    rw [p.nodup_iff, List.nodup_cons, List.nodup_cons] at h
    exact h.2.1
  have h2 : ∀ p ∈ c5 I oI ds os dn on li o3 ls o4 (stk.flatMap Fm.led), p.1 ≠ f.it := fun p hp e => by
    refine hfit (e ▸ ?_)
    have : (c5 I oI ds os dn on li o3 ls o4 (stk.flatMap Fm.led)).map (·.1) = oa I ds dn li ls stk := by simp [c5, oa, fled_addrs]
    rw [← this]; exact List.mem_map_of_mem hp
  have h3 : ∀ p ∈ SL ++ FR, p.1 ≠ f.it := fun p hp e => hro p hp (by rw [oa_mem, e]; simp)
  intro p hp
  have e1 : c5 I oI ds os dn on li o3 ls o4 (stk.flatMap Fm.led ++ SL) ++ FR = c5 I oI ds os dn on li o3 ls o4 (stk.flatMap Fm.led) ++ (SL ++ FR) := by simp [c5]
  rw [e1] at hp
  rcases List.mem_append.mp hp with hp | hp
  · have h1 : p ∈ c5 I oI ds os dn on li o3 ls o4 ((f :: stk).flatMap Fm.led ++ (SL ++ FR)) := by
      simp only [c5, List.mem_cons, List.mem_append, List.flatMap_cons] at hp ⊢
      rcases hp with h | h | h | h | h | h <;> simp [h]
    exact ⟨(hsb.2 _ (h2 p hp)).trans (N p h1).1, (N p h1).2⟩
  · exact ⟨(hsb.2 _ (h3 p hp)).trans (N p (c5_rest hp)).1, (N p (c5_rest hp)).2⟩
theorem new_at (hp : p ∈ c5 I oI ds os dn on li o3 ls o4 (stk.flatMap Fm.led ++ SL)) : p.1 ∈ oa I ds dn li ls stk ∨ p ∈ SL := by
  rcases List.mem_append.mp (show p ∈ c5 I oI ds os dn on li o3 ls o4 (stk.flatMap Fm.led) ++ SL by simpa [c5] using hp) with hp | hp
  · refine .inl ?_
    have : (c5 I oI ds os dn on li o3 ls o4 (stk.flatMap Fm.led)).map (·.1) = oa I ds dn li ls stk := by simp [c5, oa, fled_addrs]
    rw [← this]; exact List.mem_map_of_mem hp
  · exact .inr hp
theorem c5_app : c5 I oI ds os dn on li o3 ls o4 (stk.flatMap Fm.led ++ SL) ++ FR = c5 I oI ds os dn on li o3 ls o4 (stk.flatMap Fm.led ++ (SL ++ FR)) := by simp [c5]
theorem oa_low {it : Addr} (hlt : ∀ q ∈ c5 I oI ds os dn on li o3 ls o4 (stk.flatMap Fm.led ++ rest), q.1 < it) (hoa : (oa I ds dn li ls stk).Nodup) (hro : ∀ p ∈ rest, p.1 ∉ oa I ds dn li ls stk) (e : Ent) (t : Tok) :
    (oa I ds dn li ls (⟨e, t, 0, it, it + 1⟩ :: stk)).Nodup ∧ ∀ p ∈ rest, p.1 ∉ oa I ds dn li ls (⟨e, t, 0, it, it + 1⟩ :: stk) := by
  have hfo : ∀ a ∈ oa I ds dn li ls stk, a < it := fun a ha => by
    obtain ⟨o, ho⟩ := oa_led (oI := oI) (os := os) (on := on) (o3 := o3) (o4 := o4) (rest := rest) ha
    exact hlt _ ho
  refine ⟨oa_cons hoa (fun h => Nat.lt_irrefl _ (hfo _ h)) (fun h => absurd (hfo _ h) (Nat.not_lt.mpr (Nat.le_succ _))) (Nat.succ_ne_self _), fun p hp h => ?_⟩
  have h1 : p.1 < it := hlt p (c5_rest hp)
  rcases oa_mem.mp h with h | h | h
  · have h2 : p.1 = it + 1 := h
    rw [h2] at h1; exact absurd h1 (Nat.not_lt.mpr (Nat.le_succ _))
  · have h2 : p.1 = it := h
    rw [h2] at h1; exact absurd h1 (Nat.lt_irrefl _)
  · exact hro p hp h
theorem hro_less (SU : TI.SameUp FR X) (hro : ∀ p ∈ SL ++ FR, p.1 ∉ oa I ds dn li ls (f :: stk)) : ∀ p ∈ SL ++ X, p.1 ∉ oa I ds dn li ls stk := by
  intro p hp h
  rcases List.mem_append.mp hp with hp | hp
  · exact hro p (List.mem_append_left _ hp) (oa_mem.mpr (.inr (.inr h)))
  · obtain ⟨q, hq, e⟩ := SU.fwd p hp
    exact hro q (List.mem_append_right _ hq) (oa_mem.mpr (.inr (.inr (e ▸ h))))
theorem left_step (hi : f.i < f.e.ss.length) : left ({ f with i := f.i + 1 } :: stk) + 1 = left (f :: stk) := by
  show f.e.ss.length - (f.i + 1) + left stk + 1 = f.e.ss.length - f.i + left stk
  rw [Nat.add_right_comm, ← sub_step hi]
theorem left_le : left stk ≤ left (f :: stk) := Nat.le_add_left _ _
theorem key_off (D : Dfs prog w es lv os on S n (f :: stk)) : f.e.key ∉ stk.reverse.map (·.e.key) := by
  intro h
  obtain ⟨x, hx, e'⟩ := List.mem_map.mp h
  have h1 := D.chain
  rw [List.pairwise_cons] at h1
  have := h1.1 x (List.mem_reverse.mp hx)
  rw [e'] at this
  exact absurd this (Nat.lt_irrefl _)
theorem dfs_step (D : Dfs prog w es lv os on S n (f :: stk)) (hi : f.i < f.e.ss.length) : Dfs prog w es lv os on S n ({ f with i := f.i + 1 } :: stk) := by
  obtain ⟨hfe, hfS, hfi⟩ := D.mem f (.head _)
  refine ⟨D.set, D.size, ?_, ?_, ?_, D.len⟩
  · obtain ⟨kvs, h1, h2⟩ := D.dict; exact ⟨kvs, h1, by simpa using h2⟩
  · intro x hx
    rcases List.mem_cons.mp hx with rfl | hx
    · exact ⟨hfe, hfS, hi⟩
    · exact D.mem x (.tail _ hx)
  · have h1 := D.chain; rw [List.pairwise_cons] at h1 ⊢; exact h1
theorem dfs_less {on' : Obj} {kvs : List (Str × Value)} (D : Dfs prog w es lv os on S n (f :: stk)) (hkv : kvs.map (·.1) = (f :: stk).reverse.map (·.e.key)) (hkd : on'.IsDictOf (PySem.strKind prog w) (without kvs f.e.key)) : Dfs prog w es lv os on' S n stk := by
  have hkv2 : kvs.map (·.1) = stk.reverse.map (·.e.key) ++ [f.e.key] := by rw [hkv]; simp
  refine ⟨D.set, D.size, ⟨_, hkd, without_key hkv2 (key_off D)⟩, fun x hx => D.mem x (.tail _ hx), ?_, ?_⟩
  · have h1 := D.chain; rw [List.pairwise_cons] at h1; exact h1.2
  · have h1 := D.len; simp at h1; omega
theorem dfs_more {os' on' : Obj} {kvs : List (Str × Value)} {e : Ent} {k : Str} {t : Tok} {v : Value} {a b : Addr} (D : Dfs prog w es lv os on S n stk) (he : e ∈ es) (hek : e.key = k) (hS : S k = false) (hall : ∀ f ∈ stk, lv f.e.key < lv k) (hkv : kvs.map (·.1) = stk.reverse.map (·.e.key))
    (hset : os'.SetObjOf (PySem.strKind prog w) (fun k' => S k' || decide (k' = k)) (n + 1)) (hkd : on'.IsDictOf (PySem.strKind prog w) (kvs ++ [(k, v)])) :
    Dfs prog w es lv os' on' (fun k' => S k' || decide (k' = k)) (n + 1) (⟨e, t, 0, a, b⟩ :: stk) ∧ unseen es (fun k' => S k' || decide (k' = k)) + left (⟨e, t, 0, a, b⟩ :: stk) ≤ unseen es S + left stk := by
  have h2 := unseen_add he (S := S) (by rw [hek]; exact hS)
  rw [hek] at h2
  have h1 := D.size
  refine ⟨⟨hset, by omega, ⟨_, hkd, by simp [hkv, hek]⟩, ?_, ?_, ?_⟩, ?_⟩
  · intro x hx
    rcases List.mem_cons.mp hx with rfl | hx
    · exact ⟨he, by simp [hek], Nat.zero_le _⟩
    · obtain ⟨y1, y2, y3⟩ := D.mem x hx
      exact ⟨y1, by simp [y2], y3⟩
  · rw [List.pairwise_cons]
    exact ⟨fun x hx => by show lv _ < lv e.key; rw [hek]; exact hall x hx, D.chain⟩
  · have := D.len; simp; omega
  · have h3 : left (⟨e, t, 0, a, b⟩ :: stk) = e.ss.length + left stk := by simp [left]
    rw [h3]; omega
theorem len_kvs {kvs : List (Str × Value)} (h : kvs.map (·.1) = stk.reverse.map (·.e.key)) : kvs.length = stk.length := by have := congrArg List.length h; simpa using this
theorem key_new {kvs : List (Str × Value)} {k : Str} (h : kvs.map (·.1) = stk.reverse.map (·.e.key)) (hall : ∀ f ∈ stk, lv f.e.key < lv k) : k ∉ kvs.map (·.1) := by
  rw [h]
  intro h
  obtain ⟨f, hf, e'⟩ := List.mem_map.mp h
  have := hall f (List.mem_reverse.mp hf)
  rw [e'] at this
  exact absurd this (Nat.lt_irrefl _)
theorem key_old {kvs : List (Str × Value)} (h : kvs.map (·.1) = (f :: stk).reverse.map (·.e.key)) : (valueAt kvs f.e.key).isSome = true := valueAt_key.mpr (by rw [h]; simp)
theorem no_value {kvs : List (Str × Value)} {k : Str} (h : k ∉ kvs.map (·.1)) : (valueAt kvs k).isSome = false := by
  have := mt valueAt_key.mp h
  simpa using this
theorem ss_at (hi : f.i < f.e.ss.length) : (strValues f.e.ss).toArray[f.i]? = some (.str f.e.ss[f.i].1 f.e.ss[f.i].2) := by simp [strValues, hi]
theorem ss_no (hi : ¬ f.i < f.e.ss.length) : (strValues f.e.ss).toArray[f.i]? = none := by simp [strValues]; omega
theorem stk_len (D : Dfs prog w es lv os on S n stk) (htot : unseen es (fun _ => false) ≤ 4000) : stk.length ≤ 4000 := by have h1 := D.len; have h2 := D.size; omega
theorem scan_ok (D : Dfs prog w es lv os on S n stk) (htot : unseen es (fun _ => false) ≤ 4000) : n + 1 < scanBound := by
  have := D.size
  show n + 1 < 4096
  omega
theorem led_a {e : Ent} : (e.a, e.obj) ∈ e.led := by simp [Ent.led]
theorem led_da {e : Ent} : (e.da, dictOf [] 0) ∈ e.led := by simp [Ent.led]
theorem led_sa {e : Ent} : (e.sa, e.lst) ∈ e.led := by simp [Ent.led]
theorem off_four {ni ns : Nat} (hap : ∀ p ∈ cled ds dn li ls os on ni ns [] X, p.1 ≠ I) : I ∉ [ds, dn, li, ls] ∧ ∀ p ∈ X, p.1 ≠ I := by
  refine ⟨fun h => ?_, fun p hp => hap p (by simp only [cled, List.flatMap_nil, List.nil_append, List.mem_cons]; exact .inr (.inr (.inr (.inr hp))))⟩
  simp only [List.mem_cons, List.not_mem_nil, or_false] at h
  rcases h with h | h | h | h
  · exact hap (ds, os) (by simp [cled]) h.symm
  · exact hap (dn, on) (by simp [cled]) h.symm
  · exact hap (li, _) (by unfold cled; exact .tail _ (.tail _ (.head _))) h.symm
  · exact hap (ls, _) (by unfold cled; exact .tail _ (.tail _ (.tail _ (.head _)))) h.symm
theorem low_up (SU : TI.SameUp FR X) (hsl : ∀ p ∈ SL ++ FR, p.1 < ls) : ∀ p ∈ SL ++ X, p.1 < ls := by
  intro p hp
  rcases List.mem_append.mp hp with hp | hp
  · exact hsl p (List.mem_append_left _ hp)
  · obtain ⟨q, hq, e⟩ := SU.fwd p hp
    rw [e]; exact hsl q (List.mem_append_right _ hq)
theorem oa_nil (hI4 : I ∉ [ds, dn, li, ls]) (o1 : ls < li) (o2 : li < ds) (o3 : ds < dn) : (oa I ds dn li ls []).Nodup := by
  simp only [oa, List.flatMap_nil, List.nodup_cons, List.mem_cons, List.not_mem_nil, or_false, not_or, List.nodup_nil, and_true, not_false_eq_true] at hI4 ⊢
  have z : ∀ {a b : Nat}, a < b → ¬ a = b := fun h => Nat.ne_of_lt h
  have z' : ∀ {a b : Nat}, b < a → ¬ a = b := fun h => Nat.ne_of_gt h
  exact ⟨hI4, ⟨z o3, z' o2, z' (Nat.lt_trans o1 o2)⟩, ⟨z' (Nat.lt_trans o2 o3), z' (Nat.lt_trans o1 (Nat.lt_trans o2 o3))⟩, z' o1⟩
theorem oa_nil_off (h2 : ∀ p ∈ X, p.1 ≠ I) (h1 : ∀ p ∈ X, p.1 < ls) (o1 : ls < li) (o2 : li < ds) (o3 : ds < dn) : ∀ p ∈ X, p.1 ∉ oa I ds dn li ls [] := by
  intro p hp
  have h1 := h1 p hp
  have h2 := h2 p hp
  simp only [oa, List.flatMap_nil, List.mem_cons, List.not_mem_nil, or_false, not_or]
  have z : ∀ {b : Nat}, p.1 < b → ¬ p.1 = b := fun h => Nat.ne_of_lt h
  exact ⟨h2, z (Nat.lt_trans h1 (Nat.lt_trans o1 o2)), z (Nat.lt_trans h1 (Nat.lt_trans o1 (Nat.lt_trans o2 o3))), z (Nat.lt_trans h1 o1), z h1⟩
theorem kvs_key {i : Nat} {k : Str} (hk : ((kvsOf es).map (·.1))[i]? = some k) : ∃ e, e ∈ es ∧ e.key = k := by
  have h1 : k ∈ (kvsOf es).map (·.1) := List.mem_of_getElem? hk
  simp only [kvsOf, List.map_map, List.mem_map, Function.comp] at h1
  obtain ⟨e, he, h2⟩ := h1
  exact ⟨e, he, h2⟩
theorem mid_el {s s' : Shared} {P : (Str → Option Value) → List (Addr × Obj) → Prop} {G : Shared → Prop} (hm : Mid1 s g L P s') (k : ∀ h tk m' news', Fr g L h m' → News g L h news' → P m' news' → G { s with heap := h, toks := tk }) : G s' := by
  obtain ⟨h, tk, m', news', rfl, F, N, p⟩ := hm
  exact k h tk m' news' F N p
theorem off_I_nil {ni ns : Nat} (hoa : (oa I ds dn li ls []).Nodup) (hro : ∀ p ∈ X, p.1 ∉ oa I ds dn li ls []) : ∀ p ∈ cled ds dn li ls os on ni ns [] X, p.1 ≠ I := by
  intro p hp e'
  simp only [oa, List.nodup_cons, List.flatMap_nil] at hoa
  simp only [cled, List.flatMap_nil, List.nil_append, List.mem_cons] at hp
  rcases hp with rfl | rfl | rfl | rfl | hp
  · exact hoa.1 (by have h : ds = I := e'; rw [h]; simp)
  · exact hoa.1 (by have h : dn = I := e'; rw [h]; simp)
  · exact hoa.1 (by have h : li = I := e'; rw [h]; simp)
  · exact hoa.1 (by have h : ls = I := e'; rw [h]; simp)
  · exact hro p hp (by simp [oa, e'])
end
end Mine
end

section
open PySem PySem.W PyProof.Rows PySem.Calls
set_option maxHeartbeats 4000000
namespace Mine
theorem webl_swap {prog : Program} {w : World} {h₀ h : Heap} {L it : Addr} {q : Hdr} {od o : Obj} {es : List Ent} {Y : List (Addr × Obj)} (N : News h₀ L h ((it, o) :: (sled w q od es ++ Y))) (hod : od.IsDictOf (PySem.strKind prog w) (kvsOf es)) (sys : (q.d == sysModules) = false) (nd : (addrs q es).Nodup)
    (dis : ∀ p ∈ Y, p.1 ∉ addrs q es) (hap : ∀ p ∈ sled w q od es ++ Y, p.1 ≠ it) : WebL prog w h₀ L h q od es ((it, o) :: Y) := by
  refine ⟨fun p hp => ?_, hod, sys, nd, fun p hp => ?_⟩
  · rcases List.mem_append.mp hp with hp | hp
    · exact N p (.tail _ (List.mem_append_left _ hp))
    · rcases List.mem_cons.mp hp with rfl | hp
      · exact N _ (.head _)
      · exact N p (.tail _ (List.mem_append_right _ hp))
  · rcases List.mem_cons.mp hp with rfl | hp
    · intro ha
      rw [← sled_addrs w _ od es] at ha
      obtain ⟨y, hy, e⟩ := List.mem_map.mp ha
      exact hap y (List.mem_append_left _ hy) e
    · exact dis p hp
theorem web_turn {n : Nat} {prog : Program} {w : World} {A : Around} {s : Shared} {h₀ : Heap} {L fa lr ls : Addr} {cd : Value} {m : Str → Option Value} {rows : List Row} {sts : List Stt} {st : Stt} {ta tb : Tok} {q : Hdr} {od : Obj} {es : List Ent} {Z : List (Addr × Obj)} {c : Nat} {Q : Flow → Shared → Prop} {E : Value → Shared → Prop}
   (C : Cx n w A h₀ L) (hn : n ≤ 5) (F : Fr h₀ L s.heap m) (hV : Vars m [("ahead", .int (st.1 : Int) ta), ("mended", .bool st.2.1), ("behind", .int (st.2.2 : Int) tb), ("rows", .ref lr), ("states", .ref ls), ("web", .ref q.x)])
   (W : WebL prog w h₀ L s.heap q od es Z) (hrv : q.rv = .none)
   (hR : ∀ h'' m'', Fr h₀ L h'' m'' → News h₀ L h'' Z → RowsAt h'' lr rows ∧ StsAt h'' ls sts) (hsm : Small rows) (hg : Good false rows) (h256 : ∀ r ∈ rows, (∀ c ∈ r.1, c < 256) ∧ ∀ c ∈ r.2, c < 256)
   (hst : st ∈ sts) (hfine : Fine st) (hsl : sts.length ≤ 12) (hsa : st.1 ≤ 2 ∧ st.2.2 ≤ 2) (hok : OkG rows sts (viewOf es) c) (hc : c ≤ 900)
   (k : ∀ h' tk od' es' m', Fr h₀ L h' m' → Vars m' [("rows", .ref lr), ("states", .ref ls), ("web", .ref q.x)] → WebL prog w h₀ L h' q od' es' Z → viewOf es' = stG rows sts (viewOf es) st → Q .next { s with heap := h', toks := tk }) :
   wpAny (model prog w) A (execs webBody (lawEnv L fa cd)) Q E s := by
  obtain ⟨hd0, dp0, fr0, gd0, un0⟩ := A
  have hh0 : hd0 = none := C.handled
  subst hh0
  obtain ⟨a, md, b⟩ := st
  obtain ⟨x, dx, d, t1, t2, t3, t4, rv, po, tp, fi, tf⟩ := q
  dsimp only at hrv hV hsa
  subst hrv
  unfold lawEnv webBody lawRec
  dsimp only [getD, List.getD, forBody, List.getElem?_cons_succ, List.getElem?_cons_zero, Option.getD]
  refine C.top_el fun pp loose mg mb T => ?_
  have X := C.X
  have F1 := frs F hV
  clear F
  repeat' walk1
  refine wpAny_call (told_call C (le_lit hn rfl) F1 (hR _ _ F1 W.behind).1 hsm (Nat.le_succ_of_le hsa.1) (Nat.le_succ_of_le hsa.2) fun tt h1 tk1 hx1 => ?_)
  have F2 := fr_ext F1 Own.nil hx1
  have W2 := W.ext hx1
  clear F1 W hx1
  have N2 := W2.N
  unfold sled at N2
  dsimp only at N2 ⊢
  repeat' walk1
  rename Fr h₀ L _ _ => F3
  rename News h₀ L _ _ => N3
  have W3 := W2.other N3 W2.dis
  clear N3 W2
  refine wpAny_call (add_step (q := ⟨x, dx, d, t1, t2, t3, t4, .none, po, tp, fi, tf⟩) C (le_lit hn rfl) F3 [] (.inl rfl) W3 hok (by omega) hsl rfl fun od4 es4 h4 tk4 F4 W4 hv4 => ?_)
  clear F3 W3
  have hok4 := hok.add0 hst
  rw [show Mine.T rows (a, md, b) = S (told rows a md b) from rfl] at hok4
  rw [← show viewOf es4 = addG (S (told rows a md b)) [] (viewOf es) from hv4] at hok4
  obtain ⟨hok4, hkey4⟩ := hok4
  have N4 := W4.N
  dsimp only at N4 ⊢
  generalize hLG : sled w ⟨x, dx, d, t1, t2, t3, t4, .none, po, tp, fi, tf⟩ od4 es4 ++ Z = LG at N4
  iterate 16 walk1
  refine execs_mid (Mid1 s h₀ L fun m' news' => ∃ SL stl, Vars m' [("steps", .ref SL), ("text", .str (S (told rows a md b)) tt), ("rows", .ref lr), ("states", .ref ls), ("web", .ref x)] ∧ stl.map (·.st) = stepsOf (a, md, b) ∧
      (∀ p ∈ LG, p ∈ news') ∧ (∀ p ∈ stpLed rows SL stl, p ∈ news') ∧ ∀ p ∈ stpLed rows SL stl, p.1 ∉ addrs ⟨x, dx, d, t1, t2, t3, t4, .none, po, tp, fi, tf⟩ es4) ?_ ?_
  · refine hideQ fun K3 hK3 => ?_
    rename Fr h₀ L _ _ => F5
    rename News h₀ L _ _ => N5
    have hl1 := told_1000 (md := md) (a := a) (b := b) hsm (Nat.le_succ_of_le hsa.1) (Nat.le_succ_of_le hsa.2)
    have hl2 := told_1000 (md := true) (a := a) (b := b) hsm (Nat.le_succ_of_le hsa.1) (Nat.le_succ_of_le hsa.2)
    cases md with
    | true =>
      repeat' walk1
      refine wpAny_call (fix_call C (le_lit hn rfl) F5 hl1 fun t5 h5 tk5 hx5 => ?_)
      rw [fix_told hg]
      have F6 := fr_ext F5 Own.nil hx5
      have N6 : News h₀ L h5 _ := fun p hp => ⟨hx5 _ _ (by simp) (N5 p hp).1, (N5 p hp).2⟩
      clear F5 N5 hx5
      dsimp only
      repeat' walk1
      rename Fr h₀ L _ _ => F7
      rename News h₀ L _ _ => N7
      refine wpAny_call (quoted_call C (le_lit hn rfl) F7 hl1 (told_signs h256) fun t8 h8 tk8 hx8 => ?_)
      rw [quote_told hg]
      have F8 := fr_ext F7 Own.nil hx8
      have N8 : News h₀ L h8 _ := fun p hp => ⟨hx8 _ _ (by simp) (N7 p hp).1, (N7 p hp).2⟩
      clear F7 N7 hx8
      dsimp only
      repeat' walk1
      rename Fr h₀ L _ _ => F9
      rename News h₀ L _ _ => N9
      refine wpAny_call (quotedata_call C (le_lit hn rfl) F9 hl1 (by rw [fix_told hg]; exact hl2) fun t10 h10 tk10 hx10 => ?_)
      rw [fix_told hg, quote_told hg]
      have F10 := fr_ext F9 Own.nil hx10
      have N10 : News h₀ L h10 _ := fun p hp => ⟨hx10 _ _ (by simp) (N9 p hp).1, (N9 p hp).2⟩
      clear F9 N9 hx10
      dsimp only
      repeat' walk1
      rename_i D4 _ l4 _ D3 _ l3 D2 _ l2 D1 _ l1 D0 _ l0 SL _ lS _ FF NN
      refine ex1_1 (⟨_, NN⟩ : ∃ tq, News h₀ L _ ((SL, PySem.W.listOf #[.ref D2, .ref D1, .ref D0] 0) :: (D0, { cls := .type "tuple", data := .seq #[.str (S (told rows a true (b + 1))) t10, .ref D4] }) :: (D1, { cls := .type "tuple", data := .seq #[.str (S (told rows a true (b + 1))) t8, .ref D4] }) ::
        (D2, { cls := .type "tuple", data := .seq #[.str (S (told rows a true b)) t5, .ref D3] }) :: (D3, { cls := .type "tuple", data := .seq #[.int (a : Int) ta, .bool true, .int (b : Int) tb] }) :: (D4, { cls := .type "tuple", data := .seq #[.int (a : Int) ta, .bool true, .int ((b + 1 : Nat) : Int) tq] }) :: LG)) ?_
      clear NN
      intro tq N12
      refine hK3 _ _ <| Mid1.intro FF N12 ⟨SL, [⟨D2, D3, (a, true, b), t5, ta, tb⟩, ⟨D1, D4, (a, true, b + 1), t8, ta, tq⟩, ⟨D0, D4, (a, true, b + 1), t10, ta, tq⟩], ⟨rfl, rfl, rfl, rfl, rfl, trivial⟩, rfl, fun p hp => ?_, ?_, ?_⟩
      · exact .tail _ (.tail _ (.tail _ (.tail _ (.tail _ (.tail _ hp)))))
      · exact memC (.head _) (memC (.tail _ (.tail _ (.tail _ (.head _)))) (memC (.tail _ (.tail _ (.tail _ (.tail _ (.head _))))) (memC (.tail _ (.tail _ (.head _))) (memC (.tail _ (.tail _ (.tail _ (.tail _ (.tail _ (.head _)))))) (memC (.tail _ (.head _)) (memC (.tail _ (.tail _ (.tail _ (.tail _ (.tail _ (.head _)))))) memN))))))
      · exact memC (off_lt hLG lS.2.2.2.2.2) (memC (off_lt hLG l2.2.2) (memC (off_lt hLG l3.2) (memC (off_lt hLG l1.2.2.2) (memC (off_addrs hLG l4) (memC (off_lt hLG l0.2.2.2.2) (memC (off_addrs hLG l4) memN))))))
    | false =>
      have hb0 : b = 0 := hfine rfl
      repeat' walk1
      refine wpAny_call (fix_call C (le_lit hn rfl) F5 hl1 fun t5 h5 tk5 hx5 => ?_)
      rw [fix_told hg]
      have F6 := fr_ext F5 Own.nil hx5
      have N6 : News h₀ L h5 _ := fun p hp => ⟨hx5 _ _ (by simp) (N5 p hp).1, (N5 p hp).2⟩
      clear F5 N5 hx5
      dsimp only
      repeat' walk1
      rename Fr h₀ L _ _ => F7
      rename News h₀ L _ _ => N7
      refine wpAny_call (quoted_call C (le_lit hn rfl) F7 hl1 (told_signs h256) fun t8 h8 tk8 hx8 => ?_)
      rw [hb0, quote_told0 hg]
      have F8 := fr_ext F7 Own.nil hx8
      have N8 : News h₀ L h8 _ := fun p hp => ⟨hx8 _ _ (by simp) (N7 p hp).1, (N7 p hp).2⟩
      clear F7 N7 hx8
      dsimp only
      repeat' walk1
      rename Fr h₀ L _ _ => F9
      rename News h₀ L _ _ => N9
      refine wpAny_call (quotedata_call C (le_lit hn rfl) F9 hl1 (by rw [fix_told hg]; exact hl2) fun t10 h10 tk10 hx10 => ?_)
      rw [fix_told hg, quote_told hg]
      have F10 := fr_ext F9 Own.nil hx10
      have N10 : News h₀ L h10 _ := fun p hp => ⟨hx10 _ _ (by simp) (N9 p hp).1, (N9 p hp).2⟩
      clear F9 N9 hx10
      dsimp only
      repeat' walk1
      rename_i D4 _ l4 _ D3 _ l3 D2 _ l2 D5 _ l5 D1 _ l1 D0 _ l0 SL _ lS _ FF NN
      refine ex3_1 (⟨_, _, _, NN⟩ : ∃ tq tr tz, News h₀ L _ ((SL, PySem.W.listOf #[.ref D2, .ref D1, .ref D0] 0) :: (D0, { cls := .type "tuple", data := .seq #[.str (S (told rows a true (b + 1))) t10, .ref D4] }) :: (D1, { cls := .type "tuple", data := .seq #[.str (S (told rows (a + 1) false 0)) t8, .ref D5] }) ::
        (D5, { cls := .type "tuple", data := .seq #[.int ((a + 1 : Nat) : Int) tr, .bool false, .int ((0 : Nat) : Int) tz] }) ::
        (D2, { cls := .type "tuple", data := .seq #[.str (S (told rows a true b)) t5, .ref D3] }) :: (D3, { cls := .type "tuple", data := .seq #[.int (a : Int) ta, .bool true, .int (b : Int) tb] }) :: (D4, { cls := .type "tuple", data := .seq #[.int (a : Int) ta, .bool true, .int ((b + 1 : Nat) : Int) tq] }) :: LG)) ?_
      clear NN
      intro tq tr tz N12
      refine hK3 _ _ <| Mid1.intro FF N12 ⟨SL, [⟨D2, D3, (a, true, b), t5, ta, tb⟩, ⟨D1, D5, (a + 1, false, 0), t8, tr, tz⟩, ⟨D0, D4, (a, true, b + 1), t10, ta, tq⟩], ⟨rfl, rfl, rfl, rfl, rfl, trivial⟩, rfl, fun p hp => ?_, ?_, ?_⟩
      · exact .tail _ (.tail _ (.tail _ (.tail _ (.tail _ (.tail _ (.tail _ hp))))))
      · exact memC (.head _) (memC (.tail _ (.tail _ (.tail _ (.tail _ (.head _))))) (memC (.tail _ (.tail _ (.tail _ (.tail _ (.tail _ (.head _)))))) (memC (.tail _ (.tail _ (.head _))) (memC (.tail _ (.tail _ (.tail _ (.head _)))) (memC (.tail _ (.head _)) (memC (.tail _ (.tail _ (.tail _ (.tail _ (.tail _ (.tail _ (.head _))))))) memN))))))
      · exact memC (off_lt hLG lS.2.2.2.2.2.2) (memC (off_lt hLG l2.2.2) (memC (off_lt hLG l3.2) (memC (off_lt hLG l1.2.2.2.2) (memC (off_lt hLG l5.2.2.2) (memC (off_lt hLG l0.2.2.2.2.2) (memC (off_addrs hLG l4) memN))))))
  intro s' hm
  refine mid_el hm ?_; clear hm
  intro h12 tk12 m12 news12 F12 N12 hP
  refine ex2_5 hP ?_; clear hP
  intro SL stl hV12 hstl hsub hnew hoff
  have W12 : WebL prog w h₀ L h12 ⟨x, dx, d, t1, t2, t3, t4, .none, po, tp, fi, tf⟩ od4 es4 (stpLed rows SL stl ++ Z) := by
    refine W4.other (memA (fun p hp => N12 p (hsub p (hLG ▸ List.mem_append_left _ hp))) (memA (fun p hp => N12 p (hnew p hp)) fun p hp => N12 p (hsub p (hLG ▸ List.mem_append_right _ hp)))) (memA hoff W4.dis)
  clear N12 hsub hnew hoff hLG W4
  have F13 := frs F12 hV12
  clear F12
  have hlen3 : stl.length = 3 := by
    have := congrArg List.length hstl
    simpa [stepsOf] using this
  have N13 := W12.N
  walk1
  refine wpAny_For ?_
  walk1
  refine iter_list (L := L) (vs := stpRefs stl) (fun j m₁ news₁ => ∃ od1 es1, news₁ = sled w ⟨x, dx, d, t1, t2, t3, t4, .none, po, tp, fi, tf⟩ od1 es1 ++ (stpLed rows SL stl ++ Z) ∧ od1.IsDictOf (PySem.strKind prog w) (kvsOf es1) ∧ (addrs ⟨x, dx, d, t1, t2, t3, t4, .none, po, tp, fi, tf⟩ es1).Nodup ∧ (∀ p ∈ stpLed rows SL stl ++ Z, p.1 ∉ addrs ⟨x, dx, d, t1, t2, t3, t4, .none, po, tp, fi, tf⟩ es1) ∧
      viewOf es1 = ((stepsOf (a, md, b)).take j).foldl (stepG rows sts (a, md, b)) (viewOf es4) ∧ OkG rows sts (viewOf es1) (c + 3 + 3 * j) ∧ isKey (viewOf es1) (Mine.T rows (a, md, b)) ∧ Vars m₁ [("text", .str (Mine.T rows (a, md, b)) tt), ("rows", .ref lr), ("states", .ref ls), ("web", .ref x)]) rfl rfl F13 N13 ?hl ?hj ?turn ?done
  case hl =>
    rintro h i m₁ news₁ ⟨od1, es1, rfl, _⟩ F₁ N₁
    exact ⟨_, (N₁ _ (List.mem_append_right _ (List.mem_append_left _ (.head _)))).1, rfl, _, rfl⟩
  case hj => exact ⟨od4, es4, rfl, W12.hod, W12.nodup, W12.dis, rfl, hok4, hkey4, ⟨rfl, rfl, rfl, rfl, trivial⟩⟩
  case done =>
    intro m₁ news₁ h6 tk6 hJ F6 N6
    refine ex2_8 hJ ?_; clear hJ
    intro od1 es1 hn hod1 hnd1 hdis1 hv1 _ _ hV1
    replace N6 := newsE hn N6
    clear hn news₁
    have hvl : (stpRefs stl).length = (stepsOf (a, md, b)).length := by simp [stpRefs, hlen3, stepsOf]
    rw [hvl, List.take_length] at hv1
    dsimp only
    repeat' walk1
    rename Fr h₀ L _ _ => F7
    rename News h₀ L _ _ => N7
    refine k _ _ od1 es1 _ F7 ?kv ⟨fun p hp => N7 p ?_, hod1, W12.sys, hnd1, fun p hp => hdis1 p (List.mem_append_right _ hp)⟩ ?_
    case kv =>
      exact ⟨hV1.2.1, hV1.2.2.1, hV1.2.2.2.1, trivial⟩
    · exact memA (P := fun p => p ∈ _ ++ (_ ++ _)) (fun p hp => List.mem_append_left _ hp) (fun p hp => List.mem_append_right _ (List.mem_append_right _ hp)) p hp
    · rw [hv1]
      show _ = (stepsOf (a, md, b)).foldl (stepG rows sts (a, md, b)) (addG (S (told rows a md b)) [] (viewOf es))
      rw [show viewOf es4 = addG (S (told rows a md b)) [] (viewOf es) from hv4]
  case turn =>
    intro i v m₁ news₁ h6 tk6 it o hit hv hJ hap F6 N6
    refine hideT fun K1 hK1 => ?_
    refine ex2_8 hJ ?_; clear hJ
    intro od1 es1 hn hod1 hnd1 hdis1 hv1 hok1 hkey1 hV1
    replace N6 := newsE1 hn N6
    replace hap := apE hn hap
    clear hn news₁
    have hil : i < stl.length := by
      have := (List.getElem?_eq_some_iff.mp hv).1
      simpa [stpRefs] using this
    have hve : v = .ref stl[i].t := by
      have : (stpRefs stl)[i]? = some (.ref stl[i].t) := by simp [stpRefs, hil]
      rw [this] at hv; exact (Option.some.inj hv).symm
    refine asgE hve ?_
    clear hve hv
    have hpm : stl[i] ∈ stl := List.getElem_mem _
    have hpst : (stepsOf (a, md, b))[i]? = some stl[i].st := by
      rw [← hstl, List.getElem?_map, List.getElem?_eq_getElem hil]; rfl
    have hps : stl[i].st ∈ stepsOf (a, md, b) := List.mem_of_getElem? hpst
    have hp3 : stl[i].st.1 ≤ 3 ∧ stl[i].st.2.2 ≤ 3 := by
      simp only [stepsOf, List.mem_cons, List.not_mem_nil, or_false] at hps
      rcases hps with h | h | h <;> rw [h]
      · exact ⟨Nat.le_succ_of_le hsa.1, Nat.le_succ_of_le hsa.2⟩
      · cases md
        · exact ⟨Nat.succ_le_succ hsa.1, Nat.zero_le _⟩
        · exact ⟨Nat.le_succ_of_le hsa.1, Nat.succ_le_succ hsa.2⟩
      · exact ⟨Nat.le_succ_of_le hsa.1, Nat.succ_le_succ hsa.2⟩
    have hfold : ((stepsOf (a, md, b)).take (i + 1)).foldl (stepG rows sts (a, md, b)) (viewOf es4) = stepG rows sts (a, md, b) (viewOf es1) stl[i].st := by
      rw [List.take_add_one, hpst, List.foldl_append, hv1]; rfl
    have hi3 : i < 3 := by omega
    generalize stl[i] = p at hpm hp3 hfold
    have hled : ∀ x ∈ Stp.led rows p, x ∈ stpLed rows SL stl := fun x hx => .tail _ (List.mem_flatMap.mpr ⟨p, hpm, hx⟩)
    have htup : IsTup h6 p.t #[.str (S (told rows p.st.1 p.st.2.1 p.st.2.2)) p.u, .ref p.sa] := ⟨_, (N6 _ (.tail _ (List.mem_append_right _ (List.mem_append_left _ (hled _ (.head _)))))).1, rfl, _, rfl⟩
    have F7 := frs F6 hV1
    clear F6
    refine unpackN_ F7 N6 htup C.handled rfl rfl ?_
    intro h10 F11 N11
    clear F7 N6
    iterate 7 walk1
    rename Fr h₀ L _ _ => F11
    rename News h₀ L _ _ => N11
    have W11 := webl_swap (q := ⟨x, dx, d, t1, t2, t3, t4, .none, po, tp, fi, tf⟩) N11 hod1 W12.sys hnd1 hdis1 hap
    refine' step_turn (q := ⟨x, dx, d, t1, t2, t3, t4, .none, po, tp, fi, tf⟩) (st := (a, md, b)) (tt := tt) (p := p) (od := od1) (es := es1) (Z := (it, o) :: (stpLed rows SL stl ++ Z)) (c := c + 3 + 3 * i) C hn ?sF ?sv ?sW rfl (fun x hx => .tail _ (List.mem_append_left _ (hled x hx))) (fun h'' m'' F'' N'' => hR h'' m'' F'' fun y hy => N'' y (.tail _ (List.mem_append_right _ hy))) hsm hsl hp3 hok1 (by omega)
      fun h13 tk13 od3 es3 m3 F13' hV3 W13 hv3 => ?_
    case sF => exact F11
    case sW => exact W11
    case sv => exact ⟨rfl, rfl, rfl, rfl, rfl, rfl, trivial⟩
    have N13' : News h₀ L h13 ((it, o) :: (sled w ⟨x, dx, d, t1, t2, t3, t4, .none, po, tp, fi, tf⟩ od3 es3 ++ (stpLed rows SL stl ++ Z))) := fun y hy => by
      exact newsC (newsH W13.behind) (newsA (newsL W13.N) (newsT W13.behind)) y hy
    have hokk := hok1.step (s' := p.st) hkey1
    have ok3 := hokk.1
    have key3 := hokk.2
    refine hK1 _ _ <| Turn.next F13' N13' (fun y hy => ?_) ⟨od3, es3, rfl, W13.hod, W13.nodup, fun y hy => W13.dis y (.tail _ hy), by rw [hfold]; exact hv3, by rw [hv3]; exact ok3, by rw [hv3]; exact key3, hV3⟩
    exact memA (P := fun y => y.1 ≠ it) (apS fun a ha e => W13.dis (it, o) (.head _) (e ▸ ha)) (fun y hy => hap y (List.mem_append_right _ hy)) y hy
end Mine
end

section
open PySem PySem.W PyProof.Rows PySem.Calls
set_option maxHeartbeats 4000000
namespace Mine
theorem cycle_call {prog : Program} {w : World} {A : Around} {s : Shared} {h₀ : Heap} {L : Addr} {m : Str → Option Value} {R : Result → Shared → Prop}
    {env : Env} {outer : List Env} {oL : Obj} {frs : List (Addr × Obj)} {p : Program} {loose : List Str} {mean : ExcName → Option Value} {mg mb : Str → Option Value}
    (hdp : A.depth ≤ 500) (hfrA : A.frames = some (env :: outer)) (hha : A.handled = none)
    (X : (Mine.hd.heap_39 w.params).In h₀) (T : Top p loose mean mg mb h₀) (F : Fr h₀ L s.heap m) 
    {q : Hdr} {es : List Ent} (st : SortSt prog w s.heap q es) (own : Own h₀ L (addrs q es)) (Nf : News h₀ L s.heap frs)
    (Fs : TI.Frs (env :: outer) ((L, oL) :: frs)) (hL : s.heap.get? L = some oL)
    (lv : Str → Nat) (hlv : ∀ e ∈ es, ∀ r ∈ e.ss, (∃ e' ∈ es, e'.key = r.1) ∧ lv e.key < lv r.1) (htot : unseen es (fun _ => false) ≤ 4000) (hdis : ∀ p ∈ frs, p.1 ∉ addrs q es)
    (kk : ∀ frs' h' tk, TI.SameUp ((L, oL) :: frs) frs' → Ext (((L, oL) :: frs).map (·.1)) s.heap h' → Has h' frs' → R (.ok (.ret .none)) { s with heap := h', toks := tk }) :
    codeAny (model prog w) A (.call (.ref 180) ⟨[.ref q.x], []⟩) R s := by
  obtain ⟨hd0, dp0, fr0, gd0, un0⟩ := A
  dsimp only at hha
  subst hha
  obtain ⟨x, dx, d, t1, t2, t3, t4, rv, po, tp, fi, tf⟩ := q
  obtain ⟨od, hod, hhas⟩ := st.od
  have N0 : News h₀ L s.heap (sled w ⟨x, dx, d, t1, t2, t3, t4, rv, po, tp, fi, tf⟩ od es ++ frs) := by
    exact newsA (news_of hhas (h₀ := h₀) (L := L) (by rw [sled_addrs]; exact own)) Nf
  refine' enterT (binds := [("self", .ref x)]) hdp hfrA X T F (sled w ⟨x, dx, d, t1, t2, t3, t4, rv, po, tp, fi, tf⟩ od es) N0 Fs hL ?ho ?hcd ?hb ?hloc ?c1 ?c2 ?c3 ?c4 ?_
  case ho => k_is
  case hcd => k_is
  case hb => exact BindsTo.of_eq rfl
  case hloc => exact locs rfl
  case c1 => rfl
  case c2 => rfl
  case c3 => rfl
  case c4 => decide
  intro g L' h₁ hg hfr' X' T' F' N'
  refine hideQ fun K0 hK0 => ?_
  have Tr := topRead_of T'
  generalize hFR : (L, oL) :: frs = FR at N' Fs kk hK0
  unfold sled at N'
  dsimp only [List.cons_append] at N'
  generalize hZ : es.flatMap Ent.led = Z at N'
  generalize hZF : Z ++ FR = ZF at N'
  repeat' walk1
  refine wpAny_For ?_
  walk1
  rename Fr g L' _ _ => F2
  rename News g L' _ _ => N2
  rename_i ls _ l1a _ _ li _ l1b _ ds _ led _ hset l1c _ dn _ on lo hdn _ _ _ l1d h5
  have hsl : ∀ p ∈ sled w ⟨x, dx, d, t1, t2, t3, t4, rv, po, tp, fi, tf⟩ od es ++ FR, p.1 < ls := by
    intro p hp
    have h1 : p ∈ (x, instObj 190 dx) :: (dx, Hdr.dict w ⟨x, dx, d, t1, t2, t3, t4, rv, po, tp, fi, tf⟩) :: (d, od) :: ZF := by
      rw [← hZF, ← hZ]; exact hp
    exact (List.mem_cons.mp h1).elim (fun e => e ▸ l1a.1) fun h1 => (List.mem_cons.mp h1).elim (fun e => e ▸ l1a.2.1) fun h1 => (List.mem_cons.mp h1).elim (fun e => e ▸ l1a.2.2.1) fun h1 => ktn_ltOf l1a.2.2.2 p h1
  have hSF : ∀ p ∈ sled w ⟨x, dx, d, t1, t2, t3, t4, rv, po, tp, fi, tf⟩ od es, p.1 ∉ FR.map (·.1) := by
    intro p hp h
    rw [← hFR, List.map_cons, List.mem_cons] at h
    exact h.elim (fun h => (own _ (sled_at hp)).2 h) fun h => (List.mem_map.mp h).elim fun q hq => hdis q hq.1 (hq.2 ▸ sled_at hp)
  have hSd : (d, od) ∈ sled w ⟨x, dx, d, t1, t2, t3, t4, rv, po, tp, fi, tf⟩ od es := sled_d
  have hSa : ∀ e ∈ es, ∀ p ∈ e.led, p ∈ sled w ⟨x, dx, d, t1, t2, t3, t4, rv, po, tp, fi, tf⟩ od es := fun e he p hp => sled_led he hp
  generalize hSL : sled w ⟨x, dx, d, t1, t2, t3, t4, rv, po, tp, fi, tf⟩ od es = SL at hsl hSF hSd hSa hhas hK0
  have o1 : ls < li := l1b.1
  have o2 : li < ds := l1c.1
  have o3 : ds < dn := l1d.1
  have N3 : News g L' h5 (cled ds dn li ls { cls := .type "set", dict := none, data := .set #[] 0 (.fresh 0 0 led) } on 0 0 [] (SL ++ FR)) := by
    have N3 : News g L' h5 (SL ++ FR) := by
      rw [← hSL]; unfold sled
      rw [← hZF, ← hZ] at N2
      exact newsT (newsT (newsT (newsT N2)))
    exact newsC (newsH (newsT N2)) (newsC (newsH N2) (newsC (newsH (newsT (newsT N2))) (newsC (newsH (newsT (newsT (newsT N2)))) N3)))
  clear N2 l1a l1b l1c l1d
  refine iter_dict (L := L') (od := od) (fun i m₁ news₁ => ∃ os on ni ns S n FR', news₁ = cled ds dn li ls os on ni ns [] (SL ++ FR') ∧ Dfs prog w es lv os on S n [] ∧ TI.SameUp FR FR' ∧
      Vars m₁ [("n2i", .ref d), ("stack", .ref ls), ("itstack", .ref li), ("seen", .ref ds), ("node2stacki", .ref dn)]) rfl rfl st.sys hod F2 N3 ?hl ?hj ?turn ?done
  case hl =>
    rintro i m₁ news₁ ⟨os, on, ni, ns, S, n, FR', rfl, _⟩
    exact .tail _ (.tail _ (.tail _ (.tail _ (List.mem_append_right _ (List.mem_append_left _ hSd)))))
  case hj =>
    exact ⟨_, on, 0, 0, _, 0, FR, rfl, ⟨hset, by simp, ⟨[], hdn, rfl⟩, (fun _ h => nomatch h), List.Pairwise.nil, by simp⟩, TI.SameUp.refl _, ⟨rfl, rfl, rfl, rfl, rfl, trivial⟩⟩
  case done =>
    intro m₁ news₁ h6 tk6 hJ F6 N6
    refine ex7_4 hJ ?_; clear hJ
    intro os on ni ns S n FR' hn D6 SU hV
    replace N6 := newsE hn N6
    dsimp only
    repeat' walk1
    refine hK0 _ _ <| Done.intro F6 fun hex => kk FR' _ _ SU ?_ ?_
    · intro b o nb e
      by_cases hb : b ∈ SL.map (·.1)
      · refine (List.mem_map.mp hb).elim fun p hp => ?_
        have h1 := (N6 p (.tail _ (.tail _ (.tail _ (.tail _ (List.mem_append_right _ (List.mem_append_left _ hp.1))))))).1
        have h2 := hhas p hp.1
        rw [← hp.2] at e ⊢
        rw [h1, ← h2, e]
      · exact hex b o (by rw [List.map_append, List.mem_append]; exact fun h => h.elim hb nb) e
    · exact fun p hp => (N6 p (.tail _ (.tail _ (.tail _ (.tail _ (List.mem_append_right _ (List.mem_append_right _ hp))))))).1
  case turn =>
    intro i k t m₁ news₁ h6 tk6 I oI hI hk hJ hap F6 N6
    refine hideT fun K1 hK1 => ?_
    refine ex7_4 hJ ?_; clear hJ
    intro os on ni ns S n FR' hn D6 SU hV
    replace N6 := newsE1 hn N6
    replace hap := apE hn hap
    clear hn news₁
    have F7 := Mine.frs F6 hV
    clear F6
    have hset6 := D6.set
    dsimp only
    generalize hLG : (I, oI) :: cled ds dn li ls os on ni ns [] (SL ++ FR') = LG at N6
    repeat' walk1
    rename Fr g L' _ _ => F8
    rename News g L' _ _ => N8
    have hn4 : n + 1 < scanBound := scan_ok D6 htot
    have hI4 : I ∉ [ds, dn, li, ls] ∧ ∀ p ∈ SL ++ FR', p.1 ≠ I := off_four hap
    have hr0 : ∀ p ∈ SL ++ FR', p.1 < ls := by
      exact low_up SU hsl
    have hoa : (oa I ds dn li ls []).Nodup := by
      exact oa_nil hI4.1 o1 o2 o3
    have hr1 : ∀ p ∈ SL ++ FR', p.1 ∉ oa I ds dn li ls [] := oa_nil_off hI4.2 hr0 o1 o2 o3
    have hoU : UpdF ds os LG (fun o' => c5 I oI ds o' dn on li (W.listOf (itL []).toArray ni) ls (W.listOf (stL []).toArray ns) ([].flatMap Fm.led ++ (SL ++ FR'))) := hLG ▸ updF_ds hoa hr1
    refine kse_in (knd := PySem.strKind _ _) N8 hoU hset6 (Nat.lt_of_succ_lt hn4) (strKind_is _ _ _ _) rfl ?_
    cases hS : S k with
    | true =>
      iterate 4 walk1
      iterate 1 walk1
      refine hK1 _ _ <| Turn.cont (news' := cled ds dn li ls os on ni ns [] (SL ++ FR')) F8 (by rw [hLG]; exact N8) hap ⟨os, on, ni, ns, S, n, FR', rfl, D6, SU, ⟨rfl, rfl, rfl, rfl, rfl, trivial⟩⟩
    | false =>
      iterate 5 walk1
      rename Fr g L' _ _ => F8
      rename News g L' _ _ => N8
      refine ex1_2 (kvs_key hk) ?_
      intro e0 he0 hek0
      refine while_rule (L := L') (g := g) (fun n₁ m₁ news₁ => ∃ stk S n' k t, DSt prog w es lv I oI ds dn li ls SL FR stk S n' news₁ ∧ (∃ e ∈ es, e.key = k) ∧ (∀ f ∈ stk.head?, lv f.e.key < lv k) ∧ n₁ = unseen es S + left stk ∧
        Vars m₁ [("node", .str k t), ("n2i", .ref d), ("stack", .ref ls), ("itstack", .ref li), ("seen", .ref ds), ("node2stacki", .ref dn)]) F8 N8 ⟨[], S, n, k, t, ⟨os, on, ni, ns, FR', hLG.symm, D6, SU, hoa, hr1⟩, ⟨e0, he0, hek0⟩, (fun f hf => nomatch hf), rfl, ⟨rfl, rfl, rfl, rfl, rfl, rfl, trivial⟩⟩ ?_
      clear F8 N8 D6 hset6 hLG hoU hS hn4 hr0 hr1 hoa hV hap hI4
      intro n₁ m₂ news₂ h9 tk9 F9 N9 hJ
      refine ex5_5 hJ ?_; clear hJ
      intro stk S n' k t hD hke htop hmu hV9
      refine ex5_5 hD ?_; clear hD
      intro os on ni ns FR' hn9 D SU hoa hro
      refine ex1_2 hke ?_; clear hke
      intro e he hek
      replace N9 := newsE hn9 N9
      clear hn9 news₂
      have F10 := Mine.frs F9 hV9
      clear F9
      have hset := D.set
      have hn4 : n' + 1 < scanBound := scan_ok D htot
      have hall := top_fresh D.chain htop
      iterate 3 walk1
      refine hideQ fun K2 hK2 => ?_
      refine execs_mid (Mid1 s g L' fun m' news' => ∃ stk S n', DSt prog w es lv I oI ds dn li ls SL FR stk S n' news' ∧ unseen es S + left stk ≤ n₁ ∧
        Vars m' [("n2i", .ref d), ("stack", .ref ls), ("itstack", .ref li), ("seen", .ref ds), ("node2stacki", .ref dn)]) ?_ ?_
      · refine hideQ fun K3 hK3 => ?_
        generalize hLG : (I, oI) :: cled ds dn li ls os on ni ns stk (SL ++ FR') = LG at N9
        repeat' walk1
        rename Fr g L' _ _ => F11
        rename News g L' _ _ => N11
        have hoU : UpdF ds os LG (fun o' => c5 I oI ds o' dn on li (W.listOf (itL stk).toArray ni) ls (W.listOf (stL stk).toArray ns) (stk.flatMap Fm.led ++ (SL ++ FR'))) := hLG ▸ updF_ds hoa hro
        refine kse_in (knd := PySem.strKind _ _) N11 hoU hset (Nat.lt_of_succ_lt hn4) (strKind_is _ _ _ _) rfl ?_
        refine ex1_2 D.dict ?_
        intro kvs hkd hkv
        have hnk : k ∉ kvs.map (·.1) := key_new hkv hall
        cases hS : S k with
        | true =>
          repeat' walk1
          refine kda_in (knd := PySem.strKind _ _) N11 (hLG ▸ .tail _ (.tail _ (.head _))) hkd lo (strKind_is _ _ _ _) false (no_value hnk) ?_
          repeat' walk1
          refine hK3 _ _ <| Mid1.intro F11 N11 ⟨stk, S, n', ⟨os, on, ni, ns, FR', hLG.symm, D, SU, hoa, hro⟩, Nat.le_of_eq hmu.symm, ⟨rfl, rfl, rfl, rfl, rfl, trivial⟩⟩
        | false =>
          iterate 7 walk1
          refine kse_method (knd := PySem.strKind _ _) N11 hoU hset (Nat.lt_of_succ_lt hn4) ?_
          repeat' walk1
          rename Fr g L' _ _ => F11
          rename News g L' _ _ => N11
          refine kse_add (knd := PySem.strKind _ _) F11 N11 hoU hset hn4 (strKind_is _ _ _ _) rfl ?_
          rw [hS]
          intro h12 os' F12 N12 hset'
          clear F11 N11 hoU
          generalize hLG2 : c5 I oI ds os' dn on li (W.listOf (itL stk).toArray ni) ls (W.listOf (stL stk).toArray ns) (stk.flatMap Fm.led ++ (SL ++ FR')) = LG2 at N12
          iterate 5 walk1
          have hmli : (li, W.listOf (itL stk).toArray ni) ∈ LG2 := hLG2 ▸ c5_li
          refine kl_method N12 hmli PySem.F.slot_list_append (by kernel_rfl) ?_
          repeat' walk1
          rename Fr g L' _ _ => F12
          rename News g L' _ _ => N12
          have hmS : ∀ q ∈ SL, q ∈ LG2 := fun q hq => hLG2 ▸ c5_SL hq
          have hmd : (d, od) ∈ LG2 := hmS _ hSd
          have hme : (e.a, e.obj) ∈ LG2 := hmS _ (hSa e he _ led_a)
          have hmf : (e.da, dictOf [] 0) ∈ LG2 := hmS _ (hSa e he _ led_da)
          have hms : (e.sa, e.lst) ∈ LG2 := hmS _ (hSa e he _ led_sa)
          have hva : valueAt (kvsOf es) k = some (.ref e.a) := val_at he (keys_nodup st) hek
          have Nr : News g L' h12 ((e.a, e.obj) :: (e.da, dictOf [] 0) :: LG2) := by
            exact newsC (N12 _ hme) (newsC (N12 _ hmf) N12)
          refine kda_item (knd := PySem.strKind _ _) N12 hmd hod (strKind_is _ _ _ _) hva ?_
          clear N12
          repeat' walk1
          rename Fr g L' _ _ => F12
          rename News g L' _ _ => N13
          refine iter_call (items := (strValues e.ss).toArray) ⟨_, (N13 _ (.tail _ (.tail _ hms))).1, rfl, _, rfl⟩ ?_
          have F13 := F12.push (iterOf e.sa 0)
          have N14 := N13.push F12 (iterOf e.sa 0)
          have hlt1 : ∀ q ∈ LG2, q.1 < h12.objs.size := fun q hq => Heap.lt_size (N13 q (.tail _ (.tail _ hq))).1
          clear F12 N13
          repeat' walk1
          rename Fr g L' _ _ => F14
          rename News g L' _ _ => N15
          have hsz2 : (h12.push (iterOf e.sa 0)).objs.size = h12.objs.size + 1 := Heap.size_push _ _
          refine attr_next (l := e.sa) (i := 0) (N15 _ (.head _)).1 fun tk15 => ?_
          have F15 := F14.push (nextOf h12.objs.size)
          have N16 := N15.push F14 (nextOf h12.objs.size)
          clear F14 N15
          dsimp only
          rw [hsz2] at N16 ⊢
          generalize hit : h12.objs.size = it at *
          generalize hh16 : (h12.push (iterOf e.sa 0)).push (nextOf it) = h16 at *
          clear hh16 hsz2
          have hlow := oa_low (hLG2 ▸ hlt1) hoa hro e t
          have hoa2 := hlow.1
          have hro2 := hlow.2
          have N17 : News g L' h16 (c5 I oI ds os' dn on li (W.listOf (itL stk).toArray ni) ls (W.listOf (stL stk).toArray ns) ((⟨e, t, 0, it, it + 1⟩ :: stk : List Fm).flatMap Fm.led ++ (SL ++ FR'))) := by
            have N17 := newsT (newsT (newsT (newsT N16)))
            rw [← hLG2] at N17
            exact news_more (f := ⟨e, t, 0, it, it + 1⟩) N17 (newsH N16) (newsH (newsT N16))
          clear N16
          generalize hf : (⟨e, t, 0, it, it + 1⟩ : Fm) = f at hoa2 hro2 N17
          have hU1 : Upd li (W.listOf (itL stk).toArray ni) (W.listOf ((itL stk).toArray.push (.ref (it + 1))) (ni + 1)) (c5 I oI ds os' dn on li (W.listOf (itL stk).toArray ni) ls (W.listOf (stL stk).toArray ns) ((f :: stk).flatMap Fm.led ++ (SL ++ FR')))
              (c5 I oI ds os' dn on li (W.listOf ((itL stk).toArray.push (.ref (it + 1))) (ni + 1)) ls (W.listOf (stL stk).toArray ns) ((f :: stk).flatMap Fm.led ++ (SL ++ FR'))) := upd_li hoa2 hro2
          clear hlow hlt1
          repeat' walk1
          rename Fr g L' _ _ => F17
          rename News g L' _ _ => N17
          have hstl : stk.length ≤ 4000 := stk_len D htot
          refine' append_K F17 N17 hU1 ?_ ?z
          case z => rw [ci_size, sizeLine_eq]; exact Nat.le_trans hstl (by decide)
          intro h18 F18 N18
          clear F17 N17 hU1
          generalize hLG3 : c5 I oI ds os' dn on li (W.listOf ((itL stk).toArray.push (.ref (it + 1))) (ni + 1)) ls (W.listOf (stL stk).toArray ns) ((f :: stk).flatMap Fm.led ++ (SL ++ FR')) = LG3 at N18
          repeat' walk1
          rename Fr g L' _ _ => F18
          rename News g L' _ _ => N18
          have hmls : (ls, W.listOf (stL stk).toArray ns) ∈ LG3 := hLG3 ▸ c5_ls
          refine len_list (items := (stL stk).toArray) ⟨_, (N18 _ hmls).1, rfl, _, rfl⟩ (by rw [cl_size]; omega) ?_
          repeat' walk1
          rename Fr g L' _ _ => F18
          rename News g L' _ _ => N18
          have hU2 : UpdF dn on LG3 (fun o' => c5 I oI ds os' dn o' li (W.listOf ((itL stk).toArray.push (.ref (it + 1))) (ni + 1)) ls (W.listOf (stL stk).toArray ns) ((f :: stk).flatMap Fm.led ++ (SL ++ FR'))) := hLG3 ▸ updF_dn hoa2 hro2
          refine kda_set (knd := PySem.strKind _ _) F18 N18 hU2 hkd (strKind_is _ _ _ _) (by rw [len_kvs hkv, sizeLine_eq]; exact Nat.le_trans hstl (by decide)) ?_
          intro h19 on' F19 N19 hkd'
          rw [stored_key hnk] at hkd'
          clear F18 N18 hU2
          generalize hLG4 : c5 I oI ds os' dn on' li (W.listOf ((itL stk).toArray.push (.ref (it + 1))) (ni + 1)) ls (W.listOf (stL stk).toArray ns) ((f :: stk).flatMap Fm.led ++ (SL ++ FR')) = LG4 at N19
          have hmls4 : (ls, W.listOf (stL stk).toArray ns) ∈ LG4 := hLG4 ▸ c5_ls
          iterate 4 walk1
          refine kl_method N19 hmls4 PySem.F.slot_list_append (by kernel_rfl) ?_
          repeat' walk1
          rename Fr g L' _ _ => F19
          rename News g L' _ _ => N19
          have hU3 : Upd ls (W.listOf (stL stk).toArray ns) (W.listOf ((stL stk).toArray.push (.str k t)) (ns + 1)) LG4
              (c5 I oI ds os' dn on' li (W.listOf ((itL stk).toArray.push (.ref (it + 1))) (ni + 1)) ls (W.listOf ((stL stk).toArray.push (.str k t)) (ns + 1)) ((f :: stk).flatMap Fm.led ++ (SL ++ FR'))) := hLG4 ▸ upd_ls hoa2 hro2
          refine' append_K F19 N19 hU3 ?_ ?z
          case z => rw [cl_size, sizeLine_eq]; exact Nat.le_trans hstl (by decide)
          intro h20 F20 N20
          clear F19 N19 hU3
          have e1 : (itL stk).toArray.push (.ref (it + 1)) = (itL (f :: stk)).toArray := hf ▸ itL_push ⟨e, t, 0, it, it + 1⟩ stk
          have e2 : (stL stk).toArray.push (.str k t) = (stL (f :: stk)).toArray := hf ▸ hek ▸ stL_push ⟨e, t, 0, it, it + 1⟩ stk
          rw [e1, e2] at N20
          have hD' := dfs_more (t := t) (a := it) (b := it + 1) D he hek hS hall hkv hset' hkd'
          rw [hf] at hD'
          repeat' walk1
          exact hK3 _ _ <| Mid1.intro F20 N20 ⟨f :: stk, _, n' + 1, ⟨os', on', ni + 1, ns + 1, FR', rfl, hD'.1, SU, hoa2, hro2⟩, Nat.le_trans hD'.2 (Nat.le_of_eq hmu.symm), ⟨rfl, rfl, rfl, rfl, rfl, trivial⟩⟩
      · intro s' hm
        refine mid_el hm ?_; clear hm
        intro h21 tk21 m21 news21 F21 N21 hP
        refine ex3_3 hP ?_; clear hP
        clear D SU hoa hro hall htop hset hn4 hek he hmu
        clear F10 N9
        intro stk S n' hD hle hV21
        have F22 := Mine.frs F21 hV21
        clear F21
        iterate 1 walk1
        refine while_rule (L := L') (g := g) (fun j m₁ news₁ => ∃ stk S n', DSt prog w es lv I oI ds dn li ls SL FR stk S n' news₁ ∧ unseen es S + left stk ≤ n₁ ∧ j = stk.length ∧
          Vars m₁ [("n2i", .ref d), ("stack", .ref ls), ("itstack", .ref li), ("seen", .ref ds), ("node2stacki", .ref dn)]) F22 N21 ⟨stk, S, n', hD, hle, rfl, ⟨rfl, rfl, rfl, rfl, rfl, trivial⟩⟩ ?_
        clear F22 N21 hD hle hV21
        intro j m22 news22 h22 tk22 F22 N22 hJ
        refine ex3_4 hJ ?_; clear hJ
        intro stk S n' hD hle hj hV22
        refine ex5_5 hD ?_; clear hD
        intro os on ni ns FR' hn22 D SU hoa hro
        replace N22 := newsE hn22 N22
        clear hn22 news22
        have F23 := Mine.frs F22 hV22
        clear F22
        have hstl : stk.length ≤ 4000 := stk_len D htot
        have hmls : (ls, W.listOf (stL stk).toArray ns) ∈ (I, oI) :: cled ds dn li ls os on ni ns stk (SL ++ FR') := by unfold cled; exact .tail _ (.tail _ (.tail _ (.tail _ (.head _))))
        have hmli : (li, W.listOf (itL stk).toArray ni) ∈ (I, oI) :: cled ds dn li ls os on ni ns stk (SL ++ FR') := by unfold cled; exact .tail _ (.tail _ (.tail _ (.head _)))
        generalize hLG : (I, oI) :: cled ds dn li ls os on ni ns stk (SL ++ FR') = LG at N22 hmls hmli
        iterate 2 walk1
        refine wpAny_truthy_list (items := (stL stk).toArray) ⟨_, (N22 _ hmls).1, rfl, _, rfl⟩ (by rw [cl_size]; omega) ?_
        cases stk with
        | nil =>
          simp only [stL, List.reverse_nil, List.map_nil]
          repeat' walk1
          rename Fr g L' _ _ => F23
          rename News g L' _ _ => N22
          refine hK2 _ _ ?_
          dsimp only [WTurn]
          repeat' walk1
          refine hK1 _ _ <| Turn.next (news' := cled ds dn li ls os on ni ns [] (SL ++ FR')) F23 (by rw [hLG]; exact N22) ?_ ⟨os, on, ni, ns, S, n', FR', rfl, D, SU, ⟨rfl, rfl, rfl, rfl, rfl, trivial⟩⟩
          exact off_I_nil hoa hro
        | cons f stk =>
          have hb : (!(stL (f :: stk)).toArray.isEmpty) = true := by simp [stL]
          rw [hb, if_pos rfl]
          refine hideQ fun K4 hK4 => ?_
          iterate 2 walk1
          refine wpAny_Try_except ?_
          iterate 8 walk1
          have hlist : h22.IsList li (itL stk ++ [Value.ref f.mw]).toArray := by rw [← itL_cons]; exact ⟨_, (N22 _ hmli).1, rfl, _, rfl⟩
          refine item_last hlist ?_
          have hmw : (f.mw, nextOf f.it) ∈ LG := hLG ▸ c5_mw
          have hmt : (f.it, iterOf f.e.sa f.i) ∈ LG := hLG ▸ c5_it
          have hfe := (D.mem f (.head _)).1
          have hms : (f.e.sa, f.e.lst) ∈ LG := hLG ▸ c5_SL (hSa f.e hfe _ led_sa)
          refine callWith_next (it := f.it) (N22 _ hmw).1 ?_
          rename Fr g L' _ _ => F23
          by_cases hi : f.i < f.e.ss.length
          · have hx : (strValues f.e.ss).toArray[f.i]? = some (.str f.e.ss[f.i].1 f.e.ss[f.i].2) := ss_at hi
            refine mw_item (l := f.e.sa) (i := f.i) (items := (strValues f.e.ss).toArray) (N22 _ hmw).1 (N22 _ hmt).1 ⟨_, (N22 _ hms).1, rfl, _, rfl⟩ hx fun h24 hsb hit24 => ?_
            have F24 := F23.change hsb (N22 _ hmt).2.1 (N22 _ hmt).2.2
            have U : Upd f.it (iterOf f.e.sa f.i) (iterOf f.e.sa (f.i + 1)) LG ((I, oI) :: cled ds dn li ls os on ni ns ({ f with i := f.i + 1 } :: stk) (SL ++ FR')) := hLG ▸ upd_it hoa hro
            have N24 := news_upd N22 U hsb hit24
            clear F23 N22
            generalize hLG5 : (I, oI) :: cled ds dn li ls os on ni ns ({ f with i := f.i + 1 } :: stk) (SL ++ FR') = LG5 at N24
            repeat' walk1
            rename Fr g L' _ _ => F25
            rename News g L' _ _ => N25
            refine hK4 _ _ ?_
            dsimp only [WTurn]
            repeat' walk1
            have hkl := hlv f.e hfe f.e.ss[f.i] (List.getElem_mem hi)
            refine hK2 _ _ <| WTurn.next F25 N25 (n' := unseen es S + left ({ f with i := f.i + 1 } :: stk)) (by have := left_step (stk := stk) hi; omega) ⟨_, S, n', _, _, ⟨os, on, ni, ns, FR', hLG5.symm, dfs_step D hi, SU, hoa, hro⟩, hkl.1, (fun x hx => Option.some.inj hx ▸ hkl.2), rfl, ⟨rfl, rfl, rfl, rfl, rfl, rfl, trivial⟩⟩
          · have hx : (strValues f.e.ss).toArray[f.i]? = none := ss_no hi
            refine mw_stop (l := f.e.sa) (i := f.i) (items := (strValues f.e.ss).toArray) rfl (N22 _ hmw).1 (N22 _ hmt).1 ⟨_, (N22 _ hms).1, rfl, _, rfl⟩ hx fun h24 h25 ex hsb hnew => ?_
            have F24 := F23.change hsb (N22 _ hmt).2.1 (N22 _ hmt).2.2
            have hoa' := oa_tail hoa
            have N24 := news_less (o3 := W.listOf (itL (f :: stk)).toArray ni) (o4 := W.listOf (stL (f :: stk)).toArray ns) (hLG ▸ N22) hoa hro hsb
            refine caught_stop hfrA (Fs.up SU) hnew F24 N24 ?hap rfl ?hev fun h26 FR2 SU2 F26 N26 => ?_
            case hap =>
              intro p hp h
              exact (List.mem_cons.mp h).elim (fun h => (N24 p (List.mem_append_left _ hp)).2.1 h) fun h => (new_at hp).elim (fun h1 => (List.mem_map.mp h).elim fun q hq => hro q (List.mem_append_right _ hq.1) (oa_mem.mpr (.inr (.inr (hq.2 ▸ h1))))) fun h1 => hSF p h1 (same_addrs SU ▸ h)
            case hev =>
              intro A' s'' Q' F'' hQ
              clear F23 F24 N24 N22
              walk1
              exact hQ
            clear F23 F24 N24 N22
            rw [c5_app] at N26
            generalize hLG5 : c5 I oI ds os dn on li (W.listOf (itL (f :: stk)).toArray ni) ls (W.listOf (stL (f :: stk)).toArray ns) (stk.flatMap Fm.led ++ (SL ++ FR2)) = LG5 at N26
            have hml5 : (ls, W.listOf (stL (f :: stk)).toArray ns) ∈ LG5 := hLG5 ▸ c5_ls
            iterate 7 walk1
            refine kl_method N26 hml5 PySem.F.slot_list_pop (by kernel_rfl) ?_
            repeat' walk1
            rename Fr g L' _ _ => F26
            rename News g L' _ _ => N26
            have SU3 := SU.trans SU2
            have hro' := hro_less SU2 hro
            have U1 : Upd ls (W.listOf (stL (f :: stk)).toArray ns) (W.listOf (stL stk).toArray (ns + 1)) LG5
                (c5 I oI ds os dn on li (W.listOf (itL (f :: stk)).toArray ni) ls (W.listOf (stL stk).toArray (ns + 1)) (stk.flatMap Fm.led ++ (SL ++ FR2))) := hLG5 ▸ upd_ls hoa' hro'
            have hsz : (stL (f :: stk)).length ≤ sizeLine := by rw [sizeLine_eq, ← List.size_toArray, cl_size]; exact Nat.le_trans hstl (by decide)
            have hsz2 : (itL (f :: stk)).length ≤ sizeLine := by rw [sizeLine_eq, ← List.size_toArray, ci_size]; exact Nat.le_trans hstl (by decide)
            refine kl_pop F26 N26 (p := stL stk) (y := .str f.e.key f.kt) (by rw [stL_cons]; exact kpa_last _ _) U1 hsz fun h27 F27 N27 => ?_
            clear F26 N26 U1 hml5 hLG5
            generalize hLG6 : c5 I oI ds os dn on li (W.listOf (itL (f :: stk)).toArray ni) ls (W.listOf (stL stk).toArray (ns + 1)) (stk.flatMap Fm.led ++ (SL ++ FR2)) = LG6 at N27
            repeat' walk1
            rename Fr g L' _ _ => F27
            rename News g L' _ _ => N27
            refine ex1_2 D.dict ?_
            intro kvs hkd hkv
            have U2 : UpdF dn on LG6 (fun o' => c5 I oI ds os dn o' li (W.listOf (itL (f :: stk)).toArray ni) ls (W.listOf (stL stk).toArray (ns + 1)) (stk.flatMap Fm.led ++ (SL ++ FR2))) := hLG6 ▸ updF_dn hoa' hro'
            refine kob_del (knd := PySem.strKind _ _) F27 N27 U2 hkd (strKind_is _ _ _ _) (key_old hkv) (by rw [len_kvs hkv, sizeLine_eq]; exact Nat.le_trans hstl (by decide)) ?_
            intro h28 on' F28 N28 hkd'
            clear F27 N27 U2 hLG6
            generalize hLG7 : c5 I oI ds os dn on' li (W.listOf (itL (f :: stk)).toArray ni) ls (W.listOf (stL stk).toArray (ns + 1)) (stk.flatMap Fm.led ++ (SL ++ FR2)) = LG7 at N28
            have hml7 : (li, W.listOf (itL (f :: stk)).toArray ni) ∈ LG7 := hLG7 ▸ c5_li
            repeat' walk1
            rename Fr g L' _ _ => F28
            rename News g L' _ _ => N28
            have U3 : Upd li (W.listOf (itL (f :: stk)).toArray ni) (W.listOf (itL stk).toArray (ni + 1)) LG7
                (c5 I oI ds os dn on' li (W.listOf (itL stk).toArray (ni + 1)) ls (W.listOf (stL stk).toArray (ns + 1)) (stk.flatMap Fm.led ++ (SL ++ FR2))) := hLG7 ▸ upd_li hoa' hro'
            refine kl_pop F28 N28 (p := itL stk) (y := .ref f.mw) (by rw [itL_cons]; exact kpa_last _ _) U3 hsz2 fun h29 F29 N29 => ?_
            clear F28 N28 U3 hml7 hLG7
            repeat' walk1
            exact hK4 _ _ <| WTurn.next F29 N29 (n' := stk.length) (by rw [hj]; exact Nat.lt_succ_self _) ⟨stk, S, n', ⟨os, on', ni + 1, ns + 1, FR2, rfl, dfs_less D hkv hkd', SU3, hoa', hro'⟩, Nat.le_trans (Nat.add_le_add_left left_le _) hle, rfl, ⟨rfl, rfl, rfl, rfl, rfl, trivial⟩⟩
end Mine
end

section
open PySem PySem.W PyProof.Rows PySem.Calls
set_option maxHeartbeats 4000000
namespace Mine
noncomputable def Hid (P : Prop) : Prop := P
theorem Hid.intro {P : Prop} (h : P) : Hid P := h
noncomputable def freeP (es : List Ent) : Value → Bool
  | .ref a => es.any fun e => decide (e.a = a) && decide (e.np = 0)
  | _ => false
noncomputable def freeR (es : List Ent) : List (Str × Tok) := (es.filter fun e => decide (e.np = 0)).map fun e => (e.key, e.kt)
theorem fr_keep {g h h' : Heap} {L : Addr} {m : Str → Option Value} (F : Fr g L h m) (k : ∀ b o, h.get? b = some o → h'.get? b = some o) : Fr g L h' m := by
  obtain ⟨oL, es, ep, hL, r⟩ := F.ns
  exact ⟨⟨oL, es, ep, k _ _ hL, r⟩, fun b o e => k b o (F.keep b o e), F.above⟩
theorem len_unseen (es : List Ent) : es.length ≤ unseen es (fun _ => false) := by
  induction es with
  | nil => simp [unseen]
  | cons e es ih =>
    simp only [unseen, List.map_cons, List.sum_cons, List.length_cons] at ih ⊢
    simp only [Bool.false_eq_true, if_false] at ih ⊢
    omega
theorem freeP_at {q : Hdr} {es : List Ent} (hn : (addrs q es).Nodup) {e : Ent} (he : e ∈ es) : freeP es (.ref e.a) = decide (e.np = 0) := by
  unfold freeP
  rw [Bool.eq_iff_iff]
  simp only [List.any_eq_true, Bool.and_eq_true, decide_eq_true_eq]
  constructor
  · rintro ⟨e', he', h1, h2⟩
    have : e' = e := by
      unfold addrs at hn
      simp only [List.nodup_cons] at hn
      have hn' := hn.2.2.2
      clear hn h2
      induction es with
      | nil => cases he
      | cons z es ih =>
        rw [List.flatMap_cons, List.nodup_append] at hn'
        rcases List.mem_cons.mp he with rfl | he2
        · rcases List.mem_cons.mp he' with rfl | he3
          · rfl
          · exact absurd h1.symm (hn'.2.2 _ (by simp) _ (List.mem_flatMap.mpr ⟨e', he3, by simp⟩))
        · rcases List.mem_cons.mp he' with rfl | he3
          · exact absurd h1 (hn'.2.2 _ (by simp) _ (List.mem_flatMap.mpr ⟨e, he2, by simp⟩))
          · exact ih he2 he3 hn'.2.1
    exact this ▸ h2
  · intro h
    exact ⟨e, he, rfl, h⟩
theorem free_pair {q : Hdr} {es : List Ent} (hn : (addrs q es).Nodup) {es1 : List Ent} : ∀ {vs ys : List Value}, (∀ e ∈ es1, e ∈ es) → vs.length = es1.length → (∀ (j : Nat) (v : Value), vs[j]? = some v → ∃ e, es1[j]? = some e ∧ v = .ref e.a) →
    Paired (fun v y => ∃ e ∈ es, v = .ref e.a ∧ y = .str e.key e.kt) (vs.filter (freeP es)) ys → ys = strValues (freeR es1) := by
  induction es1 with
  | nil =>
    intro vs ys _ hl _ hp
    cases vs with
    | nil => cases hp; rfl
    | cons => cases hl
  | cons e es1 ih =>
    intro vs ys hs hl hv hp
    cases vs with
    | nil => cases hl
    | cons v vs =>
      obtain ⟨e', he', rfl⟩ := hv 0 v rfl
      cases he'
      have ih' := fun ys => ih (vs := vs) (ys := ys) (fun x hx => hs x (.tail _ hx)) (by simpa using hl) (fun j v hj => by simpa using hv (j + 1) v (by simpa using hj))
      rw [List.filter_cons, freeP_at hn (hs e (.head _))] at hp
      by_cases h0 : e.np = 0
      · simp only [h0, decide_true, if_true] at hp
        cases hp with
        | cons h1 h2 =>
          obtain ⟨e2, he2, h3, rfl⟩ := h1
          have h4 := ih' _ h2
          have h5 : e2 = e := by
            have a1 := freeP_at hn he2
            have key : ∀ (l : List Ent), (l.flatMap fun e => [e.a, e.da, e.sa]).Nodup → e2 ∈ l → e ∈ l → e.a = e2.a → e2 = e := by
              intro l
              induction l with
              | nil => intro _ h; cases h
              | cons z l ihl =>
                intro hz m1 m2 h
                rw [List.flatMap_cons, List.nodup_append] at hz
                rcases List.mem_cons.mp m1 with n1 | n1
                · rcases List.mem_cons.mp m2 with n2 | n2
                  · rw [n1, n2]
                  · exact absurd h.symm (hz.2.2 _ (by simp [n1]) _ (List.mem_flatMap.mpr ⟨e, n2, by simp⟩))
                · rcases List.mem_cons.mp m2 with n2 | n2
                  · exact absurd h (hz.2.2 _ (by simp [n2]) _ (List.mem_flatMap.mpr ⟨e2, n1, by simp⟩))
                  · exact ihl hz.2.1 n1 n2 h
            have hn2 := hn
            unfold addrs at hn2
            simp only [List.nodup_cons] at hn2
            exact key es hn2.2.2.2 he2 (hs e (.head _)) (by injection h3)
          subst h5
          rw [h4]
          simp [freeR, h0, strValues]
      · simp only [h0, decide_false, Bool.false_eq_true, if_false] at hp
        rw [ih' _ hp]
        simp [freeR, h0]
theorem kvs_val {es : List Ent} {i : Nat} {v : Value} (h : ∃ k, (kvsOf es)[i]? = some (k, v)) : ∃ e, es[i]? = some e ∧ v = .ref e.a := by
  obtain ⟨k, h⟩ := h
  simp only [kvsOf, List.getElem?_map, Option.map_eq_some_iff, Prod.mk.injEq] at h
  obtain ⟨e, he, _, rfl⟩ := h
  exact ⟨e, he, rfl⟩
theorem prepare_call {prog : Program} {w : World} {A : Around} {s : Shared} {h₀ : Heap} {L : Addr} {m : Str → Option Value} {R : Result → Shared → Prop}
    {env : Env} {oL : Obj} {p : Program} {loose : List Str} {mean : ExcName → Option Value} {mg mb : Str → Option Value}
    (hdp : A.depth ≤ 490) (hfrA : A.frames = some [env]) (hha : A.handled = none)
    (X : (Mine.hd.heap_39 w.params).In h₀) (T : Top p loose mean mg mb h₀) (F : Fr h₀ L s.heap m)
    {q : Hdr} {es : List Ent} (st : SortSt prog w s.heap q es) (hrv : q.rv = .none) (own : Own h₀ L (addrs q es))
    (Fs : TI.Frs [env] [(L, oL)]) (hL : s.heap.get? L = some oL)
    (lv : Str → Nat) (hlv : ∀ e ∈ es, ∀ r ∈ e.ss, (∃ e' ∈ es, e'.key = r.1) ∧ lv e.key < lv r.1) (htot : unseen es (fun _ => false) ≤ 4000)
    (kk : ∀ rl sl h' tk, s.heap.get? rl = none → h'.get? L = some { oL with slots := sl } → Ext (L :: addrs q es) s.heap h' → SortR prog w h' { q with rv := .ref rl } es rl (freeR es) → R (.ok (.ret .none)) { s with heap := h', toks := tk }) :
    codeAny (model prog w) A (.call (.ref 145) ⟨[.ref q.x], []⟩) R s := by
  obtain ⟨hd0, dp0, fr0, gd0, un0⟩ := A
  dsimp only at hha
  subst hha
  obtain ⟨x, dx, d, t1, t2, t3, t4, rv, po, tp, fi, tf⟩ := q
  dsimp only at hrv
  subst hrv
  obtain ⟨od, hod, hhas⟩ := st.od
  have N0 : News h₀ L s.heap (sled w ⟨x, dx, d, t1, t2, t3, t4, .none, po, tp, fi, tf⟩ od es ++ []) := by
    rw [List.append_nil]
    exact news_of hhas (h₀ := h₀) (L := L) (by rw [sled_addrs]; exact own)
  refine' enterT (binds := [("self", .ref x)]) (by omega) hfrA X T F (sled w ⟨x, dx, d, t1, t2, t3, t4, .none, po, tp, fi, tf⟩ od es) N0 Fs hL ?ho ?hcd ?hb ?hloc ?c1 ?c2 ?c3 ?c4 ?_
  case ho => k_is
  case hcd => k_is
  case hb => exact BindsTo.of_eq rfl
  case hloc => exact locs rfl
  case c1 => rfl
  case c2 => rfl
  case c3 => rfl
  case c4 => decide
  intro g L' h₁ hg hfr' X' T' F' N'
  refine hideQ fun K0 hK0 => ?_
  have Tr := topRead_of T'
  unfold sled at N'
  dsimp only [List.cons_append] at N'
  generalize hZ : es.flatMap Ent.led = Z at N'
  generalize hZF : Z ++ [(L, oL)] = ZF at N'
  iterate 14 walk1
  refine ListComp_rowsP (by decide) (by decide) rfl (by decide) rfl ?_
  iterate 6 walk1
  rename Fr g L' _ _ => F2
  rename News g L' _ _ => N2
  refine kdl_view_values (knd := PySem.strKind _ _) F2 N2 (by k_mem) hod st.sys ?_
  intro V h3 F3 N3 hV3
  refine ex1_1 (KdkAt.of hod) ?_
  intro ep hdk
  have hda := hdk.dictAt (N3 (d, od) (.tail _ (.tail _ (.tail _ (.head _))))).1
  refine wpAny_pyIter_values (knd := PySem.strKind prog w) ⟨_, (N3 _ (.head _)).1, rfl, rfl⟩ hda ?_
  have hev : ∀ {i : Nat} {v : Value}, (∃ k, (kvsOf es)[i]? = some (k, v)) → ∃ e, es[i]? = some e ∧ v = .ref e.a := by
    exact kvs_val
  have hVn : (V : Nat) < h3.objs.size := Heap.lt_size (N3 _ (.head _)).1
  refine in8_7 (freeP es) (fun v y => ∃ e ∈ es, v = .ref e.a ∧ y = .str e.key e.kt) h3.objs.size [h3.objs.size, d] [h3.objs.size] (kvsOf es).length _ _ rfl (Walks.dictValues (knd := PySem.strKind prog w) rfl _ d (Nat.ne_of_lt hda.lt_size) (kvsOf es) ep) ?sz ?st0 ?fpl ⟨?tests, ?elts⟩ ?fin
  case sz => simp only [kvsOf, List.length_map]; have := len_unseen es; rw [sizeLine_eq]; omega
  case st0 => exact ⟨⟨_, Heap.get?_push_size _ rfl, rfl, rfl⟩, hda.push _⟩
  case fpl =>
    intro b hb
    show b < (h3.push _).objs.size
    rw [Heap.size_push]
    simp only [List.mem_cons, List.not_mem_nil, or_false] at hb
    rcases hb with rfl | rfl
    · exact Nat.lt_succ_self _
    · exact Nat.lt_succ_of_lt hda.lt_size
  case tests =>
    intro C i v s₃ m₃ E' hP hns hm hk htk
    obtain ⟨e, hei, rfl⟩ := hev hP
    have he := List.mem_of_getElem? hei
    have k3 : ∀ b o, h3.get? b = some o → s₃.heap.get? b = some o := fun b o e0 => hk b o (fun hb => by
      rw [List.mem_singleton.mp hb] at e0
      exact absurd (Heap.lt_size e0) (Nat.lt_irrefl _)) (Heap.get?_push_of_some _ e0)
    have F4 := fr_keep F3 k3
    have N4 : News g L' s₃.heap [(e.a, e.obj), (e.da, dictOf [] 0)] := by
      have h1 : ∀ p ∈ e.led, p ∈ ZF := fun p hp => hZF ▸ hZ ▸ List.mem_append_left _ (List.mem_flatMap.mpr ⟨e, he, hp⟩)
      have h2 : ∀ p ∈ e.led, s₃.heap.get? p.1 = some p.2 ∧ p.1 ≠ L' ∧ g.get? p.1 = none := fun p hp =>
        have h3 := N3 p (.tail _ (.tail _ (.tail _ (.tail _ (h1 p hp)))))
        ⟨k3 _ _ h3.1, h3.2⟩
      exact newsC (h2 _ led_a) (newsC (h2 _ led_da) News.nil)
    rw [freeP_at st.nodup he]
    clear F3 N3 F2 N2
    refine wpAny_tests_one ?_
    refine wpAny_mono (Q := fun b s₄ => Hid (b = decide (e.np = 0) ∧ Keeps s₃ s₄)) ?_ (fun _ _ h => h) fun _ _ h => h
    repeat' walk1
    exact Hid.intro ⟨by rw [Bool.eq_iff_iff]; simp, _, _, rfl, fun _ _ h => h⟩
  case elts =>
    intro C i v s₃ m₃ E' hP hpv hns hm hk htk
    obtain ⟨e, hei, rfl⟩ := hev hP
    have he := List.mem_of_getElem? hei
    have k3 : ∀ b o, h3.get? b = some o → s₃.heap.get? b = some o := fun b o e0 => hk b o (fun hb => by
      rw [List.mem_singleton.mp hb] at e0
      exact absurd (Heap.lt_size e0) (Nat.lt_irrefl _)) (Heap.get?_push_of_some _ e0)
    have F4 := fr_keep F3 k3
    have N4 : News g L' s₃.heap [(e.a, e.obj), (e.da, dictOf [] 0)] := by
      have h1 : ∀ p ∈ e.led, p ∈ ZF := fun p hp => hZF ▸ hZ ▸ List.mem_append_left _ (List.mem_flatMap.mpr ⟨e, he, hp⟩)
      have h2 : ∀ p ∈ e.led, s₃.heap.get? p.1 = some p.2 ∧ p.1 ≠ L' ∧ g.get? p.1 = none := fun p hp =>
        have h3 := N3 p (.tail _ (.tail _ (.tail _ (.tail _ (h1 p hp)))))
        ⟨k3 _ _ h3.1, h3.2⟩
      exact newsC (h2 _ led_a) (newsC (h2 _ led_da) News.nil)
    clear F3 N3 F2 N2
    refine wpAny_mono (Q := fun (y : Value) s₄ => Hid ((∃ e' ∈ es, Value.ref e.a = .ref e'.a ∧ y = Value.str e'.key e'.kt) ∧ Keeps s₃ s₄)) ?_ (fun _ _ h => h) fun _ _ h => h
    repeat' walk1
    exact Hid.intro ⟨⟨e, he, rfl, rfl⟩, _, _, rfl, fun _ _ h => h⟩
  case fin =>
    intro D h4 tk4 ys vs hD hl hpl hlen hP hpr hk
    have hy : ys.toList = strValues (freeR es) := free_pair st.nodup (fun _ h => h) (by simpa [kvsOf] using hlen) (fun j v hj => hev (hP j v hj)) hpr
    refine ex1_1 hpl ?_
    intro ep4 hDo
    have hys : ys = (strValues (freeR es)).toArray := by rw [← hy]
    rw [hys] at hDo
    have hD3 : h3.get? D = none := by
      cases q : h3.get? D with
      | none => rfl
      | some o => have := Heap.get?_push_of_some { cls := .type "dict_valueiterator", data := .fields #[.ref d, .int 0 0, .int (kvsOf es).length 0, .int ep 0] } q; exact absurd (this.symm.trans hD) (by simp)
    have k4 : ∀ b o, h3.get? b = some o → h4.get? b = some o := fun b o e0 => hk b o (fun hb => by
      rw [List.mem_singleton.mp hb] at e0
      exact absurd (Heap.lt_size e0) (Nat.lt_irrefl _)) (Heap.get?_push_of_some _ e0)
    have F4 := fr_keep F3 k4
    have hDg : g.get? D = none := by
      cases q : g.get? D with
      | none => rfl
      | some o => have := F3.keep _ _ q; rw [hD3] at this; cases this
    have hDL : D ≠ L' := fun e => by
      obtain ⟨oL, _, _, h1, _⟩ := F3.ns
      rw [← e, hD3] at h1; cases h1
    have N4 : News g L' h4 ((D, { cls := .type "list", data := .seq (strValues (freeR es)).toArray ep4 }) :: (x, instObj 190 dx) :: (dx, Hdr.dict w ⟨x, dx, d, t1, t2, t3, t4, .none, po, tp, fi, tf⟩) :: (d, od) :: ZF) := by
      exact newsC ⟨hDo, hDL, hDg⟩ fun p hp => ⟨k4 _ _ (N3 p (.tail _ hp)).1, (N3 p (.tail _ hp)).2⟩
    have hDa : ∀ p ∈ (x, instObj 190 dx) :: (dx, Hdr.dict w ⟨x, dx, d, t1, t2, t3, t4, .none, po, tp, fi, tf⟩) :: (d, od) :: ZF, p.1 ≠ D := fun p hp e => by
      have h2 := (N3 p (.tail _ hp)).1
      rw [e, hD3] at h2; cases h2
    clear F3 N3 F2 N2 hda
    have hoff7 := addrs_off st.nodup
    have b1 : @Ne Nat D dx := (hDa (dx, _) (.tail _ (.head _))).symm
    have b2 : @Ne Nat x dx := hoff7.2.1.symm
    have b3 : @Ne Nat d dx := hoff7.2.2.symm
    have b4 : ∀ p ∈ ZF, p.1 ≠ dx := by
      rw [← hZF, ← hZ]
      exact memA hoff7.1 (memC (fun e => (own dx addrs_dx).2 e.symm) memN)
    clear hoff7
    repeat' walk1
    rename Fr g L' _ _ => F5
    rename News g L' _ _ => N5
    rename_i h5
    have N6 : News g L' h5 ((D, { cls := .type "list", data := .seq (strValues (freeR es)).toArray ep4 }) :: (sled w ⟨x, dx, d, t1, t2, t3, t4, .ref D, po, tp, fi, tf⟩ od es ++ [(L, oL)])) := by
      rw [← hZF, ← hZ] at N5
      exact N5
    clear N5
    refine ex3_3 F5.ns ?_
    intro oP esP epP hoP hdP rP
    have own5 : Own g L' (addrs ⟨x, dx, d, t1, t2, t3, t4, .ref D, po, tp, fi, tf⟩ es) := own_led (newsL (newsT N6))
    have hLa : L ∉ addrs ⟨x, dx, d, t1, t2, t3, t4, .ref D, po, tp, fi, tf⟩ es := fun h => (own L h).2 rfl
    have hDad : D ∉ addrs ⟨x, dx, d, t1, t2, t3, t4, .ref D, po, tp, fi, tf⟩ es := fun h => by
      rw [← sled_addrs w _ od es] at h
      obtain ⟨p, hp, e⟩ := List.mem_map.mp h
      unfold sled at hp
      simp only [List.mem_cons] at hp
      rcases hp with rfl | rfl | rfl | hp
      · exact hDa (x, _) (.head _) e
      · exact hDa (dx, _) (.tail _ (.head _)) e
      · exact hDa (d, _) (.tail _ (.tail _ (.head _))) e
      · exact hDa p (.tail _ (.tail _ (.tail _ (by rw [← hZF, ← hZ]; exact List.mem_append_left _ hp)))) e
    have hLL : L ≠ L' := (N6 (L, oL) (.tail _ (List.mem_append_right _ (.head _)))).2.1
    have hDL2 : D ≠ L := fun e => hDa (L, oL) (.tail _ (.tail _ (.tail _ (by rw [← hZF]; exact List.mem_append_right _ (.head _))))) e.symm
    refine wpAny_call (cycle_call (q := ⟨x, dx, d, t1, t2, t3, t4, .ref D, po, tp, fi, tf⟩) (oL := oP) (frs := [(L, oL)]) ?dp hfr' rfl X' T' F5 ⟨⟨od, hod, fun p hp => (N6 p (.tail _ (List.mem_append_left _ hp))).1⟩, st.sys, st.nodup⟩ own5 (fun p hp => N6 p (.tail _ (List.mem_append_right _ hp))) ?fs hoP lv hlv htot ?dis ?kk)
    case dp => show dp0 + 1 ≤ 500; exact Nat.succ_le_succ (Nat.le_trans hdp (by decide))
    case fs => exact ⟨by show ScopeKind.function ≠ ScopeKind.module; decide, rfl, ⟨_, _, hdP⟩, Fs⟩
    case dis =>
      intro p hp
      rw [List.mem_singleton.mp hp]; exact hLa
    case kk =>
      intro frs' h7 tk7 SU hex hhf
      refine ex1_1 (SU.back (L', oP) (.head _)) ?_
      intro sl1 hm1
      refine ex1_1 (SU.back (L, oL) (.tail _ (.head _))) ?_
      intro sl2 hm2
      have hP7 := hhf _ hm1
      have hL7 := hhf _ hm2
      dsimp only at hP7 hL7
      have hgL : g.get? L = none := (N6 (L, oL) (.tail _ (List.mem_append_right _ (.head _)))).2.2
      have hgP : g.get? L' = none := kts_self F5
      have F7 : Fr g L' h7 _ := ⟨⟨_, esP, epP, hP7, hdP, rP⟩, fun b o e => hex b o (fun hb => by
        simp only [List.map_cons, List.map_nil, List.mem_cons, List.not_mem_nil, or_false] at hb
        rcases hb with rfl | rfl
        · rw [hgP] at e; cases e
        · rw [hgL] at e; cases e) (F5.keep b o e), F5.above⟩
      have N7 : News g L' h7 ((D, { cls := .type "list", data := .seq (strValues (freeR es)).toArray ep4 }) :: (sled w ⟨x, dx, d, t1, t2, t3, t4, .ref D, po, tp, fi, tf⟩ od es)) := by
        intro p hp
        have h6 := N6 p (by rw [← List.cons_append]; exact List.mem_append_left _ hp)
        refine ⟨hex _ _ (fun hb => ?_) h6.1, h6.2⟩
        simp only [List.map_cons, List.map_nil, List.mem_cons, List.not_mem_nil, or_false] at hb
        rcases hb with hb | hb
        · exact h6.2.1 hb
        · rcases List.mem_cons.mp hp with rfl | hp
          · exact hDL2 hb
          · exact hLa (by rw [← hb, ← sled_addrs w _ od es]; exact List.mem_map_of_mem hp)
      clear F5 N6
      generalize hLG : (D, { cls := .type "list", data := .seq (strValues (freeR es)).toArray ep4 }) :: (sled w ⟨x, dx, d, t1, t2, t3, t4, .ref D, po, tp, fi, tf⟩ od es) = LG at N7
      have hL8 : News g L' h7 ((L, { oL with slots := sl2 }) :: LG) := by
        exact newsC ⟨hL7, hLL, hgL⟩ N7
      clear N7
      dsimp only
      repeat' walk1
      rename Fr g L' _ _ => F8
      rename News g L' _ _ => N8
      refine hK0 _ _ <| Done.intro F8 fun hex9 => kk D sl2 _ _ ?_ (N8 _ (.head _)).1 ?_ ⟨⟨⟨od, hod, fun p hp => (N8 p (.tail _ (by rw [← hLG]; exact .tail _ hp))).1⟩, st.sys, st.nodup⟩, rfl, ⟨ep4, (N8 _ (.tail _ (by rw [← hLG]; exact .head _))).1⟩, hDad⟩
      · cases q : s.heap.get? D with
        | none => rfl
        | some o =>
          have : g.get? D = some o := by
            rw [hg]
            refine hideAll_get _ q fun hm => ?_
            rw [List.map_append, List.mem_append] at hm
            rcases hm with hm | hm
            · rw [sled_addrs] at hm; exact hDad hm
            · simp only [List.map_cons, List.map_nil, List.mem_cons, List.not_mem_nil, or_false] at hm
              exact hDL2 hm
          rw [hDg] at this; cases this
      · refine hex9.mono fun b hb => ?_
        rw [List.map_append, List.mem_append, sled_addrs] at hb
        rcases hb with hb | hb
        · exact .tail _ hb
        · simp only [List.map_cons, List.map_nil, List.mem_cons, List.not_mem_nil, or_false] at hb
          rw [hb]; exact .head _
end Mine
end

section
open PySem PySem.W PyProof.Rows PySem.Calls
set_option maxHeartbeats 4000000
namespace Mine
structure RunL (prog : Program) (w : World) (h₀ : Heap) (L : Addr) (h : Heap) (q : Hdr) (od : Obj) (es : List Ent) (rl : Addr) (rs : List (Str × Tok)) (ep : Nat) (Z : List (Addr × Obj)) : Prop where
  N : News h₀ L h ((rl, { cls := .type "list", data := .seq (strValues rs).toArray ep }) :: (sled w q od es ++ Z))
  hod : od.IsDictOf (PySem.strKind prog w) (kvsOf es)
  sys : (q.d == sysModules) = false
  nodup : (addrs q es).Nodup
  dis : ∀ p ∈ Z, p.1 ∉ rl :: addrs q es
  off : rl ∉ addrs q es
  rv : q.rv = .ref rl
section
variable {prog : Program} {w : World} {h₀ h h' : Heap} {L : Addr} {q q' : Hdr} {od : Obj} {es es' : List Ent} {rl : Addr} {rs rs' : List (Str × Tok)} {ep : Nat} {Z : List (Addr × Obj)}
theorem RunL.st (x : RunL prog w h₀ L h q od es rl rs ep Z) : SortR prog w h q es rl rs :=
  ⟨⟨⟨od, x.hod, fun p hp => (x.N p (.tail _ (List.mem_append_left _ hp))).1⟩, x.sys, x.nodup⟩, x.rv, ⟨ep, (x.N _ (.head _)).1⟩, x.off⟩
theorem RunL.own (x : RunL prog w h₀ L h q od es rl rs ep Z) : Own h₀ L (rl :: addrs q es) := fun a ha => by
  rcases List.mem_cons.mp ha with rfl | ha
  · exact ⟨(x.N _ (.head _)).2.2, (x.N _ (.head _)).2.1⟩
  · rw [← sled_addrs w _ od es] at ha
    obtain ⟨p, hp, rfl⟩ := List.mem_map.mp ha
    exact ⟨(x.N p (.tail _ (List.mem_append_left _ hp))).2.2, (x.N p (.tail _ (List.mem_append_left _ hp))).2.1⟩
theorem RunL.behind (x : RunL prog w h₀ L h q od es rl rs ep Z) : News h₀ L h Z := fun p hp => x.N p (.tail _ (List.mem_append_right _ hp))
theorem RunL.ext (x : RunL prog w h₀ L h q od es rl rs ep Z) (e : Ext [] h h') : RunL prog w h₀ L h' q od es rl rs ep Z :=
  ⟨fun p hp => ⟨e _ _ (by simp) (x.N p hp).1, (x.N p hp).2⟩, x.hod, x.sys, x.nodup, x.dis, x.off, x.rv⟩
theorem RunL.new (x : RunL prog w h₀ L h q od es rl rs ep Z) (hex : Ext (rl :: addrs q es) h h') (st' : SortR prog w h' q' es' rl rs') (ha : addrs q' es' = addrs q es) : ∃ od' ep', RunL prog w h₀ L h' q' od' es' rl rs' ep' Z := by
  obtain ⟨od', hod', hhas'⟩ := st'.st.od
  obtain ⟨ep', hrl⟩ := st'.lst
  refine ⟨od', ep', fun p hp => ?_, hod', st'.st.sys, st'.st.nodup, by rw [ha]; exact x.dis, by rw [ha]; exact x.off, st'.rv⟩
  rcases List.mem_cons.mp hp with rfl | hp
  · exact ⟨hrl, (x.N _ (.head _)).2⟩
  rcases List.mem_append.mp hp with hp | hp
  · exact news_of hhas' (by rw [sled_addrs, ha]; exact fun a h => x.own a (.tail _ h)) p hp
  · exact ⟨hex _ _ (x.dis p hp) (x.behind p hp).1, (x.behind p hp).2⟩
end
theorem unseen_tot : ∀ (es : List Ent), unseen es (fun _ => false) = tot (viewOf es)
  | [] => rfl
  | e :: es => by
    have := unseen_tot es
    simp only [unseen, tot, viewOf, List.map_cons, List.sum_cons, Ent.view, Bool.false_eq_true, if_false, List.length_map] at this ⊢
    rw [this]
theorem free_view (es : List Ent) : (freeR es).map (·.1) = ((viewOf es).filter fun x => decide (x.2.1 = 0)).map (·.1) := by
  unfold freeR viewOf
  rw [List.filter_map, List.map_map, List.map_map]
  rfl
theorem skel_mem {es : List Ent} {e : Ent} (h : e ∈ es) : (e.key, e.ss.map (·.1)) ∈ skel (viewOf es) := by
  simp only [skel, viewOf, List.map_map, List.mem_map]
  exact ⟨e, h, rfl⟩
theorem key_ent {es : List Ent} {k : Str} (h : k ∈ (skel (viewOf es)).map (·.1)) : ∃ e ∈ es, e.key = k := by
  simp only [skel, viewOf, List.map_map, List.mem_map] at h
  obtain ⟨e, he, rfl⟩ := h
  exact ⟨e, he, rfl⟩
theorem seg4 {prog : Program} {w : World} {A : Around} {s : Shared} {h₀ : Heap} {L fa : Addr} {cd : Value} {m : Str → Option Value} {lr ls : Addr} {q : Hdr} {od : Obj} {es : List Ent} {Z : List (Addr × Obj)} {sk : List (Str × List Str)} {lv : Str → Nat} {Q : Flow → Shared → Prop} {E : Value → Shared → Prop}
   {n : Nat} (C : Cx n w A h₀ L) (hn : n ≤ 5) (hfrA : A.frames = some [lawEnv L fa cd]) (F : Fr h₀ L s.heap m) (hV : Vars m [("rows", .ref lr), ("states", .ref ls), ("web", .ref q.x)]) (W : WebL prog w h₀ L s.heap q od es Z) (hrv : q.rv = .none)
   (web : Web sk lv) (hsk : skel (viewOf es) = sk) (htot : tot (viewOf es) ≤ 4000)
   (k : ∀ h' tk rl od' ep' m', Fr h₀ L h' m' → Vars m' [("rows", .ref lr), ("states", .ref ls), ("web", .ref q.x)] → RunL prog w h₀ L h' { q with rv := .ref rl } od' es rl (freeR es) ep' Z →
     wpAny (model prog w) A (execs (lawRec.body.drop 7) (lawEnv L fa cd)) Q E { s with heap := h', toks := tk }) :
   wpAny (model prog w) A (execs (lawRec.body.drop 6) (lawEnv L fa cd)) Q E s := by
  obtain ⟨hd0, dp0, fr0, gd0, un0⟩ := A
  have hh0 : hd0 = none := C.handled
  subst hh0
  obtain ⟨x, dx, d, t1, t2, t3, t4, rv, po, tp, fi, tf⟩ := q
  dsimp only at hrv hV
  subst hrv
  revert hfrA
  unfold lawEnv lawRec
  intro hfrA
  dsimp only [getD, List.drop]
  refine C.top_el fun pp loose mg mb T => ?_
  have X := C.X
  have F1 := frs F hV
  clear F
  have N1 := W.N
  unfold sled at N1
  dsimp only at N1
  repeat' walk1
  obtain ⟨_, _, _, _, p0, loose0, mean0, mg0, mb0, _, T0, _⟩ := C.ex
  obtain ⟨oL, esF, epF, hL, hdat, hns⟩ := F1.ns
  have hlv : ∀ e ∈ es, ∀ r ∈ e.ss, (∃ e' ∈ es, e'.key = r.1) ∧ lv e.key < lv r.1 := fun e he r hr => by
    have h1 := skel_mem he
    rw [hsk] at h1
    obtain ⟨h2, h3⟩ := web.up _ h1 r.1 (List.mem_map_of_mem hr)
    rw [← hsk] at h2
    exact ⟨key_ent h2, h3⟩
  refine wpAny_call (prepare_call (q := ⟨x, dx, d, t1, t2, t3, t4, .none, po, tp, fi, tf⟩) (oL := oL) (by have := C.depth; dsimp only at this ⊢; omega) hfrA rfl X T0 F1 W.st rfl W.own ⟨by exact nofun, rfl, ⟨esF, epF, hdat⟩, trivial⟩ hL lv hlv (by rw [unseen_tot]; exact htot) fun rl sl h' tk hrl hL' hex hS => ?_)
  have hkeep : ∀ b o, h₀.get? b = some o → h'.get? b = some o := fun b o e => by
    refine hex b o (fun hx => ?_) (F1.keep b o e)
    rcases List.mem_cons.mp hx with h | h
    · have h1 : (b : Nat) < h₀.objs.size := Heap.lt_size e
      rw [h] at h1
      exact absurd h1 (Nat.not_lt.mpr F1.above)
    · have := (W.own b h).1
      rw [e] at this
      cases this
  have F2 : Fr h₀ L h' _ := ⟨⟨_, esF, epF, hL', hdat, hns⟩, hkeep, F1.above⟩
  obtain ⟨od', hod', hhas'⟩ := hS.st.od
  obtain ⟨ep', hrl'⟩ := hS.lst
  dsimp only
  refine k h' tk rl od' ep' _ F2 ⟨rfl, rfl, rfl, trivial⟩ ⟨fun p hp => ?_, hod', hS.st.sys, hS.st.nodup, fun p hp => ?_, hS.off, rfl⟩
  · rcases List.mem_cons.mp hp with rfl | hp
    · exact ⟨hrl', (own_new F1 hrl).2, (own_new F1 hrl).1⟩
    rcases List.mem_append.mp hp with hp | hp
    · exact news_of hhas' (by rw [sled_addrs]; exact W.own) p hp
    · refine ⟨hex _ _ (fun hx => ?_) (W.behind p hp).1, (W.behind p hp).2⟩
      rcases List.mem_cons.mp hx with h | h
      · exact (W.behind p hp).2.1 h
      · exact W.dis p hp h
  · intro hx
    rcases List.mem_cons.mp hx with h | h
    · have := (W.behind p hp).1
      rw [h, hrl] at this
      cases this
    · exact W.dis p hp h
end Mine
end

section
open PySem PySem.W PyProof.Rows PySem.Calls
set_option maxHeartbeats 4000000
namespace Mine
noncomputable def whileBody : Stmt → List Stmt
  | .While _ b _ _ => b
  | _ => []
noncomputable def runBody : List Stmt := whileBody (lawRec.body.getD 8 (.Pass default))
theorem star_method {M : Model} {A : Around} {E : Value → Shared → Prop} {s : Shared} {env : Env} {o e : Expr} {name : Str} {apos pos p : Pos} {Q : Value → Shared → Prop}
    (h : wpAny M A (eval o env) (fun ov s₁ => wpAny M A (getAttr ov name true) (fun f s₂ => wpAny M A (callWith pos f [] (backTo pos (starEach [.Starred e p] env)) []) Q E s₂) E s₁) E s)
    (he : eval (.Call (.Attribute o name apos) [.Starred e p] [] pos) env = (do
      let ov ← eval o env
      standAt apos.atName
      let (f, first) ← holding [ov] (do pure (← getAttr ov name true, ([] : List Value)))
      callWith pos f first (backTo pos (starEach [.Starred e p] env)) []) := by rfl) :
    wpAny M A (eval (.Call (.Attribute o name apos) [.Starred e p] [] pos) env) Q E s := by
  rw [he]
  refine wpAny_bind (wpAny_mono h (fun ov s₁ h₁ => wpAny_bind (wpAny_standAt (wpAny_bind (wpAny_holding (wpAny_bind (wpAny_mono h₁ (fun f s₂ h₂ => wpAny_pure h₂) fun _ _ x => x)))))) fun _ _ x => x)
theorem star_callM {M : Model} {A : Around} {E : Value → Shared → Prop} {s : Shared} {K : Frag} {env : Env} {e : Expr} {pos p : Pos} {q g : Addr} {self : Value} {first : List Value} {Q : Value → Shared → Prop} (hf : fnIn K g = true)
    (h : wpAny M A (eval e env) (fun v s₁ => StarOf M A E v (fun vs s₂ => MethP K q g self s₂.heap ∧ wpAny M A (call (.ref q) (first ++ vs)) Q E s₂) s₁) E s)
    (he : starEach [.Starred e p] env = [(true, eval e env)] := by rfl) :
    wpAny M A (callWith pos (.ref q) first (backTo pos (starEach [.Starred e p] env)) []) Q E s := by
  rw [he]
  exact ks_call rfl (keeps_M hf) (ks_lone h)
theorem bd_skel {G : Gr} {sk : List (Str × List Str)} (h : skel G = sk) {n : Nat} (hb : ∀ x ∈ sk, x.2.length ≤ n) : Bd n G := fun y hy => hb (y.1, y.2.2) (by rw [← h]; exact List.mem_map_of_mem (f := fun x : Str × Int × List Str => (x.1, x.2.2)) hy)
structure Rd where
  T : Addr
  out : List Value
  ss : List Str
  e : Nat
noncomputable def Rd.led (r : Rd) : Addr × Obj := (r.T, seqObj "list" r.out.toArray r.e)
noncomputable def rdRefs (l : List Rd) : List Value := l.map fun r => .ref r.T
noncomputable def RdOk (sk : List (Str × List Str)) (lv : Str → Nat) (j : Nat) (r : Rd) : Prop := StrsAre r.out r.ss ∧ r.ss.Nodup ∧ sortedS r.ss = true ∧ (∀ k, k ∈ r.ss ↔ k ∈ sk.map (·.1) ∧ lv k = j) ∧ r.ss ≠ []
theorem strs_values : ∀ (rs : List (Str × Tok)), StrsAre (strValues rs) (rs.map (·.1))
  | [] => .nil
  | r :: rs => .cons _ _ (strs_values rs)
section
variable {prog : Program} {w : World} {h₀ h h' : Heap} {L : Addr} {q q' : Hdr} {od : Obj} {es : List Ent} {rl : Addr} {rs rs' : List (Str × Tok)} {ep : Nat} {Z Z' : List (Addr × Obj)}
theorem RunL.live (x : RunL prog w h₀ L h q od es rl rs ep Z) {a : Addr} (ha : a ∈ rl :: addrs q es) : ∃ o, h.get? a = some o := by
  rcases List.mem_cons.mp ha with rfl | ha
  · exact ⟨_, (x.N _ (.head _)).1⟩
  · rw [← sled_addrs w _ od es] at ha
    obtain ⟨p, hp, rfl⟩ := List.mem_map.mp ha
    exact ⟨_, (x.N p (.tail _ (List.mem_append_left _ hp))).1⟩
theorem RunL.other (x : RunL prog w h₀ L h q od es rl rs ep Z) (N : News h₀ L h' ((rl, { cls := .type "list", data := .seq (strValues rs).toArray ep }) :: (sled w q od es ++ Z'))) (dis : ∀ p ∈ Z', p.1 ∉ rl :: addrs q es) : RunL prog w h₀ L h' q od es rl rs ep Z' :=
  ⟨N, x.hod, x.sys, x.nodup, dis, x.off, x.rv⟩
end
theorem run_turn {prog : Program} {w : World} {A : Around} {s : Shared} {h₀ : Heap} {L fa : Addr} {cd : Value} {m : Str → Option Value} {lr ls RD : Addr} {q : Hdr} {od : Obj} {es : List Ent} {rl : Addr} {rs : List (Str × Tok)} {ep epR t : Nat} {rds : List Rd} {Z : List (Addr × Obj)} {sk : List (Str × List Str)} {lv : Str → Nat} {Q : Flow → Shared → Prop} {E : Value → Shared → Prop}
   {n : Nat} (C : Cx n w A h₀ L) (hn : n ≤ 5) (F : Fr h₀ L s.heap m) (hV : Vars m [("rows", .ref lr), ("states", .ref ls), ("web", .ref q.x), ("rounds", .ref RD)])
   (R : RunL prog w h₀ L s.heap q od es rl rs ep ((RD, PySem.W.listOf (rdRefs rds).toArray epR) :: (rds.map Rd.led ++ Z))) (hpf : q.po = q.fi)
   (web : Web sk lv) (hat : AtTurn sk lv t (viewOf es) (rs.map (·.1))) (hne : rs ≠ []) (hsk12 : sk.length ≤ 12) (hbd : ∀ x ∈ sk, x.2.length ≤ 1000) (hrd : rds.length = t) (ht : t ≤ 100) (hRD : ∀ p ∈ rds.map Rd.led ++ Z, p.1 ≠ RD)
   (k : ∀ h' tk q' od' es' rs' ep' epR' r m', Fr h₀ L h' m' → Vars m' [("rows", .ref lr), ("states", .ref ls), ("web", .ref q.x), ("rounds", .ref RD)] →
     RunL prog w h₀ L h' q' od' es' rl rs' ep' ((RD, PySem.W.listOf (rdRefs (rds ++ [r])).toArray epR') :: ((rds ++ [r]).map Rd.led ++ Z)) → q'.x = q.x → q'.po = q'.fi → AtTurn sk lv (t + 1) (viewOf es') (rs'.map (·.1)) → RdOk sk lv t r → (∀ p ∈ (rds ++ [r]).map Rd.led ++ Z, p.1 ≠ RD) → Q .next { s with heap := h', toks := tk }) :
   wpAny (model prog w) A (execs runBody (lawEnv L fa cd)) Q E s := by
  obtain ⟨hd0, dp0, fr0, gd0, un0⟩ := A
  have hh0 : hd0 = none := C.handled
  subst hh0
  have hrv := R.rv
  obtain ⟨x, dx, d, t1, t2, t3, t4, rv, po, tp, fi, tf⟩ := q
  dsimp only at hrv hV hpf
  subst hrv
  subst hpf
  unfold lawEnv runBody lawRec
  dsimp only [getD, List.getD, whileBody, List.getElem?_cons_succ, List.getElem?_cons_zero, Option.getD]
  refine C.top_el fun pp loose mg mb T => ?_
  have X := C.X
  have F1 := frs F hV
  clear F
  have hrs12 : rs.length ≤ 12 := by
    have := nodup_le (k := sk.map (·.1)) hat.nd fun y hy => ((hat.mem y).mp hy).1
    simp only [List.length_map] at this
    omega
  have hent : ∀ k ∈ sk.map (·.1), ∃ e ∈ es, e.key = k := fun k hk => key_ent (by rw [hat.isk]; exact hk)
  have N1 := R.N
  unfold sled at N1
  dsimp only at N1
  repeat' walk1
  refine wpAny_call (ready_call (q := ⟨x, dx, d, t1, t2, t3, t4, .ref rl, po, tp, po, tf⟩) C (le_lit hn rfl) F1 R.st R.own (by omega) (fun r hr => hent r.1 ((hat.mem r.1).mp (List.mem_map_of_mem hr)).1) hne fun tt es2 h2 tk2 tp2 hv2 hkv2 had2 htt hx2 htup hS2 => ?_)
  refine ex2_1 (R.new hx2 hS2 had2) ?_
  intro od2 ep2 R2
  have F2 := fr_ext F1 R.own hx2
  refine ex1_3 htup ?_
  intro ott htt2 hct hntd
  refine ex1_1 hntd ?_; clear hntd
  intro nt hdt
  have htn : tt ∉ rl :: addrs ⟨x, dx, d, t1, t2, t3, t4, .ref rl, po, tp, po, tf⟩ es := fun h => by
    exact (R.live h).elim fun o ho => absurd (ho.symm.trans htt) (by simp)
  have htt0 := own_new F1 htt
  have hZd := R.dis
  have hRDtt : tt ≠ RD := fun e => by
    have := (R.behind _ (.head _)).1
    dsimp only at this
    rw [← e, htt] at this
    cases this
  have hattn := hat
  clear F1 hx2 R hS2
  dsimp only at R2 ⊢
  have N2 : News h₀ L h2 ((RD, PySem.W.listOf (rdRefs rds).toArray epR) :: (x, instObj 190 dx) :: (dx, Hdr.dict w ⟨x, dx, d, t1, t2, t3, t4, .ref rl, po + rs.length, tp2, po, tf⟩) :: ((tt, ott) :: (rl, { cls := .type "list", data := .seq (strValues []).toArray ep2 }) :: (d, od2) :: (es2.flatMap Ent.led ++ (rds.map Rd.led ++ Z)))) := by
    have hs := newsL (newsT R2.N)
    exact newsC (newsH R2.behind) (newsC (newsH hs) (newsC (newsH (newsT hs)) (newsC ⟨htt2, htt0.2, htt0.1⟩ (newsC (newsH R2.N) (newsC (newsH (newsT (newsT hs))) (newsA (newsT (newsT (newsT hs))) (newsT R2.behind)))))))
  generalize hLG : (tt, ott) :: (rl, { cls := .type "list", data := .seq (strValues []).toArray ep2 }) :: (d, od2) :: (es2.flatMap Ent.led ++ (rds.map Rd.led ++ Z)) = LG at N2
  have hmemtt : (tt, ott) ∈ LG := by rw [← hLG]; exact .head _
  iterate 15 walk1
  rename Fr h₀ L _ _ => F3
  rename News h₀ L _ _ => N3
  have htup3 : IsTup _ tt (strValues rs).toArray := ⟨ott, (N3 _ (.tail _ (.tail _ (.tail _ hmemtt)))).1, hct, nt, hdt⟩
  have hl64 : (strValues rs).length < 64 := by simp [strValues]; omega
  refine sorted_tup htup3 (strs_values rs) hl64 fun DT h4 tk4 out ss' e4 hss hpm hso hDT hx4 hgT => ?_
  have F4 := fr_ext F3 Own.nil hx4
  have hDT0 := own_new F3 hDT
  have N4 : News h₀ L h4 ((RD, PySem.W.listOf (rdRefs rds).toArray epR) :: (x, instObj 190 dx) :: (dx, Hdr.dict w ⟨x, dx, d, t1, t2, t3, t4, .ref rl, po + rs.length, tp2, po, tf⟩) :: ((DT, seqObj "list" out.toArray e4) :: LG)) := by
    have hk : ∀ {l : List (Addr × Obj)}, News h₀ L _ l → News h₀ L h4 l := fun N p hp => ⟨hx4 _ _ (fun h => nomatch h) (N p hp).1, (N p hp).2⟩
    have N3' := hk N3
    exact newsC (newsH N3') (newsC (newsH (newsT N3')) (newsC (newsH (newsT (newsT N3'))) (newsC ⟨hgT, hDT0.2, hDT0.1⟩ (newsT (newsT (newsT N3'))))))
  have hDTn : ∀ p ∈ (RD, PySem.W.listOf (rdRefs rds).toArray epR) :: (x, instObj 190 dx) :: (dx, Hdr.dict w ⟨x, dx, d, t1, t2, t3, t4, .ref rl, po + rs.length, tp2, po, tf⟩) :: LG, p.1 ≠ DT := fun p hp e => by
    have := (N3 p hp).1
    rw [e, hDT] at this
    cases this
  clear F3 N3 htup3 hx4
  generalize hLG2 : (DT, seqObj "list" out.toArray e4) :: LG = LG2 at N4
  dsimp only
  repeat' walk1
  refine append_at (hsz := by rw [sizeLine_eq]; simp [rdRefs]; omega) (N4 _ (.head _)).1 fun h5 hs5 ho5 => ?_
  have F5 := fr_same F4 N4 hs5
  have N5 := news_same N4 hs5 ho5 ?ha
  case ha =>
    have hno : RD ∉ rl :: addrs ⟨x, dx, d, t1, t2, t3, t4, .ref rl, po, tp, po, tf⟩ es2 := by rw [had2]; exact hZd _ (.head _)
    have h1 : ∀ a ∈ rl :: addrs ⟨x, dx, d, t1, t2, t3, t4, .ref rl, po, tp, po, tf⟩ es2, a ≠ RD := fun a ha e => hno (e ▸ ha)
    rw [← hLG2, ← hLG]
    exact apC (h1 _ (.tail _ (.head _))) (apC (h1 _ (.tail _ (.tail _ (.head _)))) (apC (hDTn _ (.head _)).symm (apC hRDtt (apC (h1 _ (.head _)) (apC (h1 _ (.tail _ (.tail _ (.tail _ (.head _))))) (memA (P := fun p => p.1 ≠ RD) (fun p hp => h1 _ (.tail _ (.tail _ (.tail _ (.tail _ (led_addrs es2 ▸ List.mem_map_of_mem (f := fun p : Addr × Obj => p.1) hp)))))) hRD))))))
  clear F4 N4 hs5
  dsimp only
  repeat' walk1
  refine star_method ?_
  iterate 2 walk1
  rename_i BM _ hBM
  rename Fr h₀ L _ _ => F6
  rename News h₀ L _ _ => N6
  have hmLG2 : (tt, ott) ∈ LG2 := by rw [← hLG2]; exact .tail _ hmemtt
  have hkt := kahn_turn web hattn
  have kt1 := hkt.1
  have kt3 := hkt.2
  clear hkt
  refine star_callM (K := Mine.hd.heap_39 w.params) (g := 173) (self := .ref x) (by k_is) ?_
  walk1
  refine star_seq F6 N6 (.tail _ (.tail _ (.tail _ (.tail _ hmLG2)))) hct hdt (.inr rfl) rfl (by simp only [List.size_toArray, sizeLine_eq]; omega) fun h7 F7 N7 => ⟨methP N7 (.head _) (X.keeps F7.keep), call_meth N7 (.head _) ?_⟩
  have had2' : addrs ⟨x, dx, d, t1, t2, t3, t4, .ref rl, po + rs.length, tp2, po, tf⟩ es2 = addrs ⟨x, dx, d, t1, t2, t3, t4, .ref rl, po, tp, po, tf⟩ es := had2
  have hlk : ∀ a ∈ rl :: addrs ⟨x, dx, d, t1, t2, t3, t4, .ref rl, po + rs.length, tp2, po, tf⟩ es2, a ≠ DT := fun a ha e => by
    have hlive : ∀ p ∈ (x, instObj 190 dx) :: (dx, Hdr.dict w ⟨x, dx, d, t1, t2, t3, t4, .ref rl, po + rs.length, tp2, po, tf⟩) :: LG, p.1 ≠ DT := fun p hp => hDTn p (.tail _ hp)
    rw [← hLG] at hlive
    exact (List.mem_cons.mp ha).elim (fun h => hlive (rl, { cls := .type "list", data := .seq (strValues []).toArray ep2 }) (.tail _ (.tail _ (.tail _ (.head _)))) (h ▸ e)) fun ha => apR (q := ⟨x, dx, d, t1, t2, t3, t4, .ref rl, po + rs.length, tp2, po, tf⟩) (w := w) (od := od2) (es := es2) (I := DT) (apC (hlive _ (.head _)) (apC (hlive _ (.tail _ (.head _))) (apC (hlive _ (.tail _ (.tail _ (.tail _ (.tail _ (.head _)))))) fun p hp => hlive p (.tail _ (.tail _ (.tail _ (.tail _ (.tail _ (List.mem_append_left _ hp))))))))) a ha e
  have R7 : RunL prog w h₀ L h7 ⟨x, dx, d, t1, t2, t3, t4, .ref rl, po + rs.length, tp2, po, tf⟩ od2 es2 rl [] ep2 ((RD, PySem.W.listOf (rdRefs (rds ++ [(⟨DT, out, ss', e4⟩ : Rd)])).toArray (epR + 1)) :: ((rds ++ [(⟨DT, out, ss', e4⟩ : Rd)]).map Rd.led ++ Z)) := by
    have e9 : W.listOf ((rdRefs rds).toArray.push (.ref DT)) (epR + 1) = PySem.W.listOf (rdRefs (rds ++ [(⟨DT, out, ss', e4⟩ : Rd)])).toArray (epR + 1) := by simp [rdRefs]
    have N8 := newsT (newsT (newsT (newsT N7)))
    rw [← hLG2] at N8
    have N9 := newsT N8
    rw [← hLG] at N9
    have hRDo := newsH (newsT N7)
    have inL := newsT (newsT (newsT N9))
    refine R2.other ?_ ?_
    · refine newsC (newsH (newsT N9)) (newsA (newsC (newsH (newsT (newsT N7))) (newsC (newsH (newsT (newsT (newsT N7)))) (newsC (newsH (newsT (newsT N9))) (newsL inL)))) (newsC (e9 ▸ hRDo) (newsA ?_ (newsR (newsR inL)))))
      rw [List.map_append]
      exact newsA (newsL (newsR inL)) (newsC (newsH N8) News.nil)
    · rw [had2']
      refine memC (hZd (RD, PySem.W.listOf (rdRefs rds).toArray epR) (.head _)) (memA ?_ fun p hp => hZd p (.tail _ (List.mem_append_right _ hp)))
      rw [List.map_append]
      exact memA (fun p hp => hZd p (.tail _ (List.mem_append_left _ hp))) (memC (fun h => hlk _ (had2' ▸ h) rfl) memN)
  have hsk2 : skel (viewOf es2) = sk := by rw [hv2, (setnp_fold _ _).1]; exact hattn.isk
  have hent2 : ∀ k ∈ sk.map (·.1), ∃ e ∈ es2, e.key = k := fun k hk => key_ent (by rw [hsk2]; exact hk)
  refine done_call (q := ⟨x, dx, d, t1, t2, t3, t4, .ref rl, po + rs.length, tp2, po, tf⟩) C (le_lit hn rfl) F7 R7.st R7.own (by omega) (bd_skel hsk2 hbd) ?hss ?hin fun es3 rs3 h8 tk8 tf8 hsh hvw hex8 hS8 => ?_
  case hss =>
    intro e he r hr
    have h1 := skel_mem he
    rw [hsk2] at h1
    exact hent2 _ (web.up _ h1 r.1 (List.mem_map_of_mem hr)).1
  case hin =>
    intro i hi
    refine ⟨hent2 _ ((hattn.mem _).mp (List.mem_map_of_mem (List.getElem_mem hi))).1, ?_⟩
    have := kt3 i rs[i].1 (by rw [List.getElem?_map, List.getElem?_eq_getElem hi]; rfl)
    rw [hv2, List.map_take]
    exact this
  refine ex2_1 (R7.new hex8 hS8 (shape_addrs _ hsh)) ?_
  intro od8 ep8 R8
  have F8 := fr_ext F7 R7.own hex8
  rw [hv2] at hvw
  rw [← hvw] at kt1
  dsimp only
  clear F7 N7
  refine wpAny_execs_nil ?_
  refine k h8 tk8 _ od8 es3 rs3 ep8 (epR + 1) ⟨DT, out, ss', e4⟩ _ F8 ⟨rfl, rfl, rfl, rfl, trivial⟩ R8 rfl rfl kt1 ⟨hss, hpm.nodup_iff.mpr hattn.nd, hso, fun k => hpm.mem_iff.trans (hattn.mem k), fun e => hne (by have h1 := hpm.length_eq; have e' : ss' = [] := e; rw [e'] at h1; simp only [List.length_nil, List.length_map] at h1; exact List.length_eq_zero_iff.mp h1.symm)⟩ fun p hp => ?_
  rw [List.map_append] at hp
  exact memA (P := fun p => p.1 ≠ RD) (memA (fun p hp => hRD p (List.mem_append_left _ hp)) (memC (hDTn _ (.head _)).symm memN)) (fun p hp => hRD p (List.mem_append_right _ hp)) p hp
end Mine
end

section
open PySem PySem.W PyProof.Rows PySem.Calls
set_option maxHeartbeats 4000000
namespace Mine
inductive WebJ (prog : Program) (w : World) (x rl RD lr ls : Addr) (sk : List (Str × List Str)) (lv : Str → Nat) (Z : List (Addr × Obj)) (n : Nat) (m₁ : Str → Option Value) (news₁ : List (Addr × Obj)) : Prop
  | mk (t : Nat) (q1 : Hdr) (od1 : Obj) (es1 : List Ent) (rs1 : List (Str × Tok)) (ep1 epR : Nat) (rds : List Rd) (hn : news₁ = (rl, { cls := .type "list", data := .seq (strValues rs1).toArray ep1 }) :: (sled w q1 od1 es1 ++ ((RD, PySem.W.listOf (rdRefs rds).toArray epR) :: (rds.map Rd.led ++ Z)))) (hnt : n + t = 20)
      (hod : od1.IsDictOf (PySem.strKind prog w) (kvsOf es1)) (hsys : (q1.d == sysModules) = false) (hnd : (addrs q1 es1).Nodup) (hdis : ∀ p ∈ (RD, PySem.W.listOf (rdRefs rds).toArray epR) :: (rds.map Rd.led ++ Z), p.1 ∉ rl :: addrs q1 es1) (hoff : rl ∉ addrs q1 es1) (hrv : q1.rv = .ref rl)
      (hqx : q1.x = x) (hpf : q1.po = q1.fi) (hat : AtTurn sk lv t (viewOf es1) (rs1.map (·.1))) (hrl : rds.length = t) (hrds : ∀ j r, rds[j]? = some r → RdOk sk lv j r) (hRD : ∀ p ∈ rds.map Rd.led ++ Z, p.1 ≠ RD) (ht : t ≤ 9)
      (hV : Vars m₁ [("rows", .ref lr), ("states", .ref ls), ("web", .ref x), ("rounds", .ref RD)]) : WebJ prog w x rl RD lr ls sk lv Z n m₁ news₁
theorem WebJ.el {prog : Program} {w : World} {x rl RD lr ls : Addr} {sk : List (Str × List Str)} {lv : Str → Nat} {Z : List (Addr × Obj)} {n : Nat} {m₁ : Str → Option Value} {news₁ : List (Addr × Obj)} {G : Prop} (h : WebJ prog w x rl RD lr ls sk lv Z n m₁ news₁)
    (k : ∀ (t : Nat) (q1 : Hdr) (od1 : Obj) (es1 : List Ent) (rs1 : List (Str × Tok)) (ep1 epR : Nat) (rds : List Rd), news₁ = (rl, { cls := .type "list", data := .seq (strValues rs1).toArray ep1 }) :: (sled w q1 od1 es1 ++ ((RD, PySem.W.listOf (rdRefs rds).toArray epR) :: (rds.map Rd.led ++ Z))) → n + t = 20 →
      od1.IsDictOf (PySem.strKind prog w) (kvsOf es1) → (q1.d == sysModules) = false → (addrs q1 es1).Nodup → (∀ p ∈ (RD, PySem.W.listOf (rdRefs rds).toArray epR) :: (rds.map Rd.led ++ Z), p.1 ∉ rl :: addrs q1 es1) → rl ∉ addrs q1 es1 → q1.rv = .ref rl →
      q1.x = x → q1.po = q1.fi → AtTurn sk lv t (viewOf es1) (rs1.map (·.1)) → rds.length = t → (∀ j r, rds[j]? = some r → RdOk sk lv j r) → (∀ p ∈ rds.map Rd.led ++ Z, p.1 ≠ RD) → t ≤ 9 →
      Vars m₁ [("rows", .ref lr), ("states", .ref ls), ("web", .ref x), ("rounds", .ref RD)] → G) : G := by
  obtain ⟨t, q1, od1, es1, rs1, ep1, epR, rds, hn, hnt, hod, hsys, hnd, hdis, hoff, hrv, hqx, hpf, hat, hrl, hrds, hRD, ht, hV⟩ := h
  exact k t q1 od1 es1 rs1 ep1 epR rds hn hnt hod hsys hnd hdis hoff hrv hqx hpf hat hrl hrds hRD ht hV
theorem rds_more {sk : List (Str × List Str)} {lv : Str → Nat} {rds : List Rd} {r7 : Rd} {t : Nat} (hl : rds.length = t) (h : ∀ j r, rds[j]? = some r → RdOk sk lv j r) (h7 : RdOk sk lv t r7) : ∀ j r, (rds ++ [r7])[j]? = some r → RdOk sk lv j r := by
  intro j r hj
  rcases Nat.lt_or_ge j rds.length with h1 | h1
  · rw [List.getElem?_append_left h1] at hj
    exact h j r hj
  · rw [List.getElem?_append_right h1] at hj
    cases e : j - rds.length with
    | zero =>
      rw [e] at hj
      cases hj
      have : j = t := by omega
      rw [this]; exact h7
    | succ n => rw [e] at hj; cases hj
theorem seg5 {prog : Program} {w : World} {A : Around} {s : Shared} {h₀ : Heap} {L fa : Addr} {cd : Value} {m : Str → Option Value} {lr ls : Addr} {q : Hdr} {od : Obj} {es : List Ent} {rl : Addr} {rs : List (Str × Tok)} {ep : Nat} {Z : List (Addr × Obj)} {sk : List (Str × List Str)} {lv : Str → Nat} {Q : Flow → Shared → Prop} {E : Value → Shared → Prop}
   {n : Nat} (C : Cx n w A h₀ L) (hn : n ≤ 5) (F : Fr h₀ L s.heap m) (hV : Vars m [("rows", .ref lr), ("states", .ref ls), ("web", .ref q.x)]) (R : RunL prog w h₀ L s.heap q od es rl rs ep Z) (hpf : q.po = q.fi)
   (web : Web sk lv) (hat : AtTurn sk lv 0 (viewOf es) (rs.map (·.1))) (hsk12 : sk.length ≤ 12) (hbd : ∀ x ∈ sk, x.2.length ≤ 1000) (hlv : ∀ k ∈ sk.map (·.1), lv k ≤ 8)
   (k : ∀ h' tk RD epR rds m', Fr h₀ L h' m' → Vars m' [("rows", .ref lr), ("states", .ref ls), ("rounds", .ref RD)] → News h₀ L h' ((RD, PySem.W.listOf (rdRefs rds).toArray epR) :: (rds.map Rd.led ++ Z)) →
     (∀ j r, rds[j]? = some r → RdOk sk lv j r) → (∀ k ∈ sk.map (·.1), lv k ≠ rds.length) → rds.length ≤ 10 →
     wpAny (model prog w) A (execs (lawRec.body.drop 9) (lawEnv L fa cd)) Q E { s with heap := h', toks := tk }) :
   wpAny (model prog w) A (execs (lawRec.body.drop 7) (lawEnv L fa cd)) Q E s := by
  obtain ⟨hd0, dp0, fr0, gd0, un0⟩ := A
  have hh0 : hd0 = none := C.handled
  subst hh0
  unfold lawEnv lawRec
  dsimp only [getD, List.drop]
  refine C.top_el fun pp loose mg mb T => ?_
  have X := C.X
  have F1 := frs F hV
  clear F
  have N1 := R.N
  generalize hLG : (rl, ({ cls := .type "list", data := .seq (strValues rs).toArray ep } : Obj)) :: (sled w q od es ++ Z) = LG at N1
  iterate 8 walk1
  rename_i RD _ hl1 _ F2 N2
  have hl2 : ∀ p ∈ (rl, ({ cls := .type "list", data := .seq (strValues rs).toArray ep } : Obj)) :: (sled w q od es ++ Z), p.1 ≠ RD := fun p hp e => by have h := hl1 p (by rw [← hLG]; exact hp); rw [e] at h; exact Nat.lt_irrefl _ h
  have hRDl : RD ∉ rl :: addrs q es := fun h => (List.mem_cons.mp h).elim (fun e => hl2 _ (.head _) e.symm) fun h => it_off (w := w) (od := od) (fun p hp => hl2 p (.tail _ (List.mem_append_left _ hp))) h
  have hRDZ : ∀ p ∈ Z, p.1 ≠ RD := fun p hp => hl2 p (.tail _ (List.mem_append_right _ hp))
  have N2' := newsT N2
  rw [← hLG] at N2'
  have N3 : News h₀ L _ ((rl, { cls := .type "list", data := .seq (strValues rs).toArray ep }) :: (sled w q od es ++ ((RD, PySem.W.listOf (rdRefs []).toArray 0) :: (([] : List Rd).map Rd.led ++ Z)))) := newsC (newsH N2') (newsA (newsL (newsT N2')) (newsC (newsH N2) (newsR (newsT N2'))))
  clear N2'
  clear N2
  refine while_rule (g := h₀) (L := L) (n₀ := 20) (WebJ prog w q.x rl RD lr ls sk lv Z) F2 N3 ⟨0, q, od, es, rs, ep, 0, [], rfl, rfl, R.hod, R.sys, R.nodup, ?_, R.off, R.rv, rfl, hpf, hat, rfl, (fun j r h => nomatch h), hRDZ, Nat.zero_le _, ⟨rfl, rfl, rfl, rfl, trivial⟩⟩ ?_
  · exact memC hRDl R.dis
  clear F2 N3 hat hpf R hLG hl1 hRDl
  intro n1 m₁ news₁ h₁ tk₁ F₁ N₁ hJ
  refine hJ.el ?_; clear hJ
  intro t q1 od1 es1 rs1 ep1 epR rds hn1 hnt hod1 hsys1 hnd1 hdis1 hoff1 hrv1 hqx hpf1 hat1 hrl1 hrds1 hRD1 ht9 hV1
  replace N₁ := newsE hn1 N₁
  clear hn1 news₁
  have R1 : RunL prog w h₀ L h₁ q1 od1 es1 rl rs1 ep1 ((RD, PySem.W.listOf (rdRefs rds).toArray epR) :: (rds.map Rd.led ++ Z)) := ⟨N₁, hod1, hsys1, hnd1, hdis1, hoff1, hrv1⟩
  rw [← hqx] at hV1
  have F3 := frs F₁ hV1
  have hrs12 : rs1.length ≤ 12 := by
    have := nodup_le (k := sk.map (·.1)) hat1.nd fun y hy => ((hat1.mem y).mp hy).1
    simp only [List.length_map] at this
    omega
  clear F₁
  obtain ⟨x, dx, d, t1, t2, t3, t4, rv, po, tp, fi, tf⟩ := q1
  dsimp only at hrv1 hpf1 hqx hV1
  subst hrv1
  subst hpf1
  unfold sled at N₁
  dsimp only at N₁
  repeat' walk1
  refine wpAny_call (active_call (q := ⟨x, dx, d, t1, t2, t3, t4, .ref rl, po, tp, po, tf⟩) C (le_lit hn rfl) F3 R1.st R1.own (by omega) fun h4 tk4 hx4 => ?_)
  have F4 := fr_ext F3 Own.nil hx4
  have R4 := R1.ext hx4
  clear F3 R1 hx4
  dsimp only
  refine wpAny_truthy_bool ?_
  rw [show decide (po < po) = false from decide_eq_false (Int.lt_irrefl po)]
  by_cases hrn : rs1 = []
  · rw [show (false || !rs1.isEmpty) = false by rw [hrn]; rfl, if_neg Bool.false_ne_true]
    refine wpAny_execs_nil ?_
    refine k _ _ RD epR rds _ F4 ⟨rfl, rfl, rfl, trivial⟩ R4.behind hrds1 (fun k' hk' e => ?_) (by omega)
    rw [hrl1] at e
    exact absurd ((hat1.mem k').mpr ⟨hk', e⟩) (by rw [hrn]; exact fun h => nomatch h)
  · have hie : rs1.isEmpty = false := by cases rs1 with
      | nil => exact absurd rfl hrn
      | cons => rfl
    rw [show (false || !rs1.isEmpty) = true by rw [hie]; rfl, if_pos rfl]
    refine hideQ fun K1 hK1 => ?_
    have ht8 : t ≤ 8 := by
      cases rs1 with
      | nil => exact absurd rfl hrn
      | cons r rs1 =>
        obtain ⟨h1, h2⟩ := (hat1.mem r.1).mp (.head _)
        have := hlv r.1 h1
        omega
    refine run_turn (q := ⟨x, dx, d, t1, t2, t3, t4, .ref rl, po, tp, po, tf⟩) (t := t) C hn F4 ⟨rfl, rfl, rfl, rfl, trivial⟩ R4 rfl web hat1 hrn hsk12 hbd hrl1 (by omega) hRD1 fun h7 tk7 q7 od7 es7 rs7 ep7 epR7 r7 m7 F7 V7 R7 hx7 hpf7 hat7 hok7 hRD7 => ?_
    refine hK1 _ _ <| WTurn.next F7 R7.N (n' := n1 - 1) (by omega) ⟨t + 1, q7, od7, es7, rs7, ep7, epR7, rds ++ [r7], rfl, by omega, R7.hod, R7.sys, R7.nodup, R7.dis, R7.off, R7.rv, hx7.trans hqx, hpf7, hat7, by rw [List.length_append, hrl1]; rfl, rds_more hrl1 hrds1 hok7, hRD7, by omega, ⟨V7.1, V7.2.1, by rw [← hqx]; exact V7.2.2.1, V7.2.2.2.1, trivial⟩⟩
end Mine
end

section
open PySem PySem.W PyProof.Rows PySem.Calls
set_option maxHeartbeats 4000000
namespace Mine
theorem range_small3 : ∀ k : Nat, k ≤ 2 → Builtin.Range.small 0 ((k : Int) + 1) 1 = true ∧ Builtin.Range.rangeSize 0 ((k : Int) + 1) 1 = ((k + 1 : Nat) : Int) := by decide
section
variable {prog : Program} {w : World} {A : Around} {E : Value → Shared → Prop} {s : Shared}
theorem range_most {env : Env} {K : Frag} {p : Program} {loose : List Str} {mg mb : Str → Option Value} {cm : Addr} {M : Nat} {tm : Tok} {k : Nat} {p1 p2 p3 p4 p5 : Pos} {Q : Value → Shared → Prop}
    (hk : env.scope.kind = .function) (hr : env.kindOf "range" = some .globalImplicit) (hg : env.globals = mainGlobals) (hb : env.builtins = builtinsNs) (X : K.In s.heap) (T : TopRead p loose mg mb s.heap) (e : nsIn K mainGlobals "range" = some none)
    (hmk : env.kindOf "most" = some .cell) (hmc : env.cells.lookup ("most" : Str) = some cm) (hM : s.heap.IsCell cm (some (.int (M : Int) tm))) (hM3 : M ≤ 2)
    (h : ∀ R I h' tk (t u v : Tok), R = s.heap.objs.size → I = R + 1 → IsRange h' R 0 ((M : Int) + 1) 1 t u v → IsRangeIter h' I (0 + ((0 : Nat) : Int) * 1) (((M + 1 : Nat) : Int) - ((0 : Nat) : Int)) 1 → h'.objs.size = I + 1 → (∀ b o, s.heap.get? b = some o → h'.get? b = some o) → Q (.ref I) { s with heap := h', toks := tk }) :
    wpAny (model prog w) A (eval (.Call (.Name "range" p1) [.BinOp (.Name "most" p2) .Add (.Constant (.int 1) k p3) p4] [] p5) env) (fun xv s₁ => wpAny (model prog w) A (pyIter xv) Q E s₁) E s := by
  refine Call_ (nm_builtin hk hr hg hb X T e rfl (by decide) (Pv.callWith_type1 (args_cons ?_)))
  refine wpAny_BinOp (wpAny_Name (wpAny_loadName_cell hk hmk hmc hM (wpAny_Constant_int ?_)) (by decide))
  refine add_int ?_
  refine args_nil ?_
  refine call_range_1 ?_
  obtain ⟨rs1, rs2⟩ := range_small3 M hM3
  refine wpAny_pyIter_range (IsRange.new ..) rs1 ?_
  rw [rs2]
  refine h s.heap.objs.size _ _ _ _ _ _ rfl (Heap.size_push ..) (Heap.get?_push_of_some _ (Heap.get?_push_size _ rfl)) ?_ ?_ (fun b o e => Heap.get?_push_of_some _ (Heap.get?_push_of_some _ e))
  · have := Heap.get?_push_size (s.heap.push { cls := .type "range", data := .fields #[.int 0 (s.toks + 1 + 1), .int ((M : Int) + 1) (s.toks + 1), .int 1 (s.toks + 1 + 1 + 1)] }) (o := { cls := .type "range_iterator", data := .fields #[rawInt 0, rawInt ((M + 1 : Nat) : Int), rawInt 1] }) rfl
    simpa [IsRangeIter] using this
  · rw [Heap.size_push]
theorem comp_f {env : Env} {scope : Scope} {cl : List (Str × Addr)} {K : Frag} {p : Program} {loose : List Str} {mg mb : Str → Option Value} {cm : Addr} {M : Nat} {tm : Tok} {k k1 k2 k3 : Nat} {pos p0 p1 p2 p3 p4 p5 p6 p7 p8 p9 : Pos} {Q : Value → Shared → Prop} (hh : A.handled = none)
    (hk : env.scope.kind = .function) (hr : env.kindOf "range" = some .globalImplicit) (hg : env.globals = mainGlobals) (hb : env.builtins = builtinsNs) (X : K.In s.heap) (T : TopRead p loose mg mb s.heap) (e : nsIn K mainGlobals "range" = some none)
    (hmk : env.kindOf "most" = some .cell) (hmc : env.cells.lookup ("most" : Str) = some cm) (hM : s.heap.IsCell cm (some (.int (M : Int) tm))) (hM3 : M ≤ 2)
    (hclos : closureFor scope env = pure cl) (hsk : scope.kind = .function) (hnames : ∀ y ∈ scope.names, y.2 = .local → scope.names.lookup y.1 = some .local)
    (ka : ∀ C, (cenvOf scope cl C env).kindOf "ahead" = some .local) (kk : ∀ C, (cenvOf scope cl C env).scope.kind = .function)
    (h : ∀ D h' tk tps ep, h'.get? D = some (PySem.W.listOf (spRefs tps).toArray ep) → tps.map (·.st) = (List.range (M + 1)).map (fun a => (a, false, 0)) → (∀ q ∈ tps, (@LE.le Nat _ s.heap.objs.size q.a) ∧ h'.get? q.a = some q.obj) → (@LE.le Nat _ s.heap.objs.size D) →
      (∀ b o, s.heap.get? b = some o → h'.get? b = some o) → Q (.ref D) { s with heap := h', toks := tk })
    (hs : ∀ x, foldedSetIterable (.Call (.Name "range" p1) [.BinOp (.Name "most" p2) .Add (.Constant (.int 1) k p3) p4] [] p5) env x = pure x) :
    wpAny (model prog w) A (eval (.ListComp (.Tuple [.Name "ahead" p6, .Constant (.bool false) k1 p7, .Constant (.int 0) k2 p8] k3 p9) [⟨.Name "ahead" p0, .Call (.Name "range" p1) [.BinOp (.Name "most" p2) .Add (.Constant (.int 1) k p3) p4] [] p5, [], 0⟩] scope pos) env) Q E s := by
  refine lcw_open hclos hsk hnames ?_ hs
  refine range_most hk hr hg hb X T e hmk hmc hM hM3 fun R I h1 tk1 t u v eR eI hR hI hz1 k1' => ?_
  refine in5_5 I [I] (M + 1) _ _ rfl (Walks.range hh I 0 1 (M + 1)) hI ?_ ?_
  · intro b hb'
    rw [List.mem_singleton.mp hb', hz1]; exact Nat.lt_succ_self _
  intro D C h₄ eD eC k4 st4 hD4 hC4 X4 hXs hX4 hXe
  dsimp only at eD k4
  have eI' : I = s.heap.objs.size + 1 := by rw [eI, eR]
  have eD' : D = s.heap.objs.size + 2 := by rw [eD, hz1, eI']
  have eC' : C = s.heap.objs.size + 3 := by rw [eC, eD']
  have old : ∀ (b : Addr) (o : Obj), s.heap.get? b = some o → b ∉ I :: D :: [C] := fun b o e hx => by
    have hb' : (b : Nat) < s.heap.objs.size := Heap.lt_size e
    simp only [List.mem_cons, List.not_mem_nil, or_false] at hx
    rcases hx with q | q | q
    · rw [q, eI'] at hb'; exact absurd hb' (Nat.not_lt.mpr (Nat.le_succ _))
    · rw [q, eD'] at hb'; exact absurd hb' (Nat.not_lt.mpr (Nat.le_add_right _ 2))
    · rw [q, eC'] at hb'; exact absurd hb' (Nat.not_lt.mpr (Nat.le_add_right _ 3))
  have k04 : ∀ b o, s.heap.get? b = some o → h₄.get? b = some o := fun b o e => k4 b o (by simp) (k1' b o e)
  have hDC : D ≠ C := by rw [eD', eC']; exact Nat.ne_of_lt (Nat.lt_succ_self _)
  have above : ∀ a : Addr, (@LT.lt Nat _ C a) → a ∉ I :: D :: [C] := fun a ha hx => by
    rw [eC'] at ha
    simp only [List.mem_cons, List.not_mem_nil, or_false] at hx
    rcases hx with q | q | q
    · rw [q, eI'] at ha; exact absurd ha (Nat.not_lt.mpr (Nat.add_le_add_left (show 1 ≤ 3 by decide) _))
    · rw [q, eD'] at ha; exact absurd ha (Nat.not_lt.mpr (Nat.add_le_add_left (show 2 ≤ 3 by decide) _))
    · rw [q, eC'] at ha; exact absurd ha (Nat.lt_irrefl _)
  refine lcw_core (own := [C]) (Walks.range hh I 0 1 (M + 1)) (fun h => ∃ m, h.Ns C m) (fun v h => ∃ m, h.Ns C m ∧ m "ahead" = some v) (fun i y h => ∃ q : Sp, q.st = (i, false, 0) ∧ y = .ref q.a ∧ (@LT.lt Nat _ C q.a) ∧ h.get? q.a = some q.obj)
    ?y1 ?y2 ?y3 ?y4 ?y5 ?y6 ?y7 ?y8 st4 hD4 ⟨_, hC4⟩ ?y9
  case y1 => rw [List.mem_singleton]; exact hDC
  case y2 =>
    intro b hb' hx
    rw [List.mem_singleton.mp hb'] at hx
    simp only [List.mem_cons, List.not_mem_nil, or_false] at hx
    rcases hx with q | q
    · rw [eI', eD'] at q; exact absurd q (Nat.ne_of_lt (Nat.lt_succ_self _))
    · rw [eI', eC'] at q; exact absurd q (Nat.ne_of_lt (Nat.lt_add_of_pos_right (show 0 < 2 by decide)))
  case y3 => omega
  case y4 => exact fun i v s5 Q5 E5 _ h5 => wpAny_pure h5
  case y5 =>
    rintro h h' ⟨m5, o5, es5, ep5, g5, r5⟩ hk5
    exact ⟨m5, o5, es5, ep5, hk5 _ _ (.head _) g5, r5⟩
  case y6 =>
    rintro i y h h' ⟨q, h1, h2, h3, h4⟩ hk5
    exact ⟨q, h1, h2, h3, hk5 _ _ (above q.a h3) h4⟩
  case y7 =>
    intro i v s5 E5 hP5 hi5 hin5 hk5
    obtain ⟨m5, hm5⟩ := hin5
    have hcls : ((cenvOf scope cl C env).scope.kind == .class || ((cenvOf scope cl C env).scope.kind == .module && (cenvOf scope cl C env).locals != (cenvOf scope cl C env).globals)) = false := by rw [kk C]; rfl
    refine wpAny_assign_Name (wpAny_storeName_local (ka C) hm5 (fun h6 hn6 hs6 => ⟨⟨_, hn6⟩, ⟨_, hn6, by exact if_pos rfl⟩, h6, _, rfl, fun b o hb e => (hs6.2 b (fun q => hb (by rw [q]; exact .head _))).trans e⟩) hcls)
  case y8 =>
    intro i v s5 E5 hP5 hi5 ha5 hk5
    obtain ⟨m5, hm5, hv5⟩ := ha5
    obtain ⟨t5, rfl⟩ := hP5
    rw [Int.zero_add, Int.mul_one] at hv5
    refine wpAny_mono (sts_elt1 (kk C) (ka C) hm5 hv5) (fun y s' hy => ?_) fun _ _ e => e
    obtain ⟨⟨q, h1, h2, h3, h4⟩, hk⟩ := hy
    refine ⟨⟨q, h1, h2, ?_, h4⟩, hk⟩
    rw [h3]
    exact hm5.lt
  case y9 =>
    intro h11 tk11 ys11 ep11 hyl11 hyg11 hD11 hk11 hin11
    obtain ⟨m11, hm11⟩ := hin11
    refine ⟨m11, hm11, fun h12 hs12 => ?_⟩
    obtain ⟨tps, rfl, ht, hq⟩ := sps_of (h := h11) (I := 0) (D := 0) (C := 0) (lo := C + 1) (f := fun a => (a, false, 0)) ys11 0 fun j y e => by
      obtain ⟨q, h1, h2, h3, h4⟩ := hyg11 j y e
      exact ⟨q, by rw [h1, Nat.zero_add], h2, h3, h4⟩
    have hne : ∀ q ∈ tps, q.a ≠ C := fun q hq' e => by
      have := (hq q hq').1
      rw [e] at this
      exact absurd this (Nat.not_succ_le_self _)
    refine h D h12 tk11 tps ep11 ((hs12.2 D hDC).trans hD11) ?_ (fun q hq' => ⟨?_, (hs12.2 q.a (hne q hq')).trans (hq q hq').2⟩) ?_ (fun b o e => (hs12.2 b (fun q => old b o e (by rw [q]; simp))).trans (hk11 b o (old b o e) (k04 b o e)))
    · rw [ht, hyl11, List.range_eq_range']
    · have := (hq q hq').1
      rw [eC'] at this
      exact Nat.le_trans (Nat.le_add_right _ 4) this
    · rw [eD']; exact Nat.le_add_right _ 2
theorem comp_t {env : Env} {scope : Scope} {cl : List (Str × Addr)} {K : Frag} {p : Program} {loose : List Str} {mg mb : Str → Option Value} {cm : Addr} {M : Nat} {tm : Tok} {k k1 k3 k4 : Nat} {pos p0 p1 p2 p3 p4 p5 p6 p7 p8 p9 q0 q1 q2 q3 q4 q5 : Pos} {Q : Value → Shared → Prop} (hh : A.handled = none)
    (hk : env.scope.kind = .function) (hr : env.kindOf "range" = some .globalImplicit) (hg : env.globals = mainGlobals) (hb : env.builtins = builtinsNs) (X : K.In s.heap) (T : TopRead p loose mg mb s.heap) (e : nsIn K mainGlobals "range" = some none)
    (hmk : env.kindOf "most" = some .cell) (hmc : env.cells.lookup ("most" : Str) = some cm) (hM : s.heap.IsCell cm (some (.int (M : Int) tm))) (hM3 : M ≤ 2)
    (hclos : closureFor scope env = pure cl) (hsk : scope.kind = .function) (hnames : ∀ y ∈ scope.names, y.2 = .local → scope.names.lookup y.1 = some .local)
    (ka : ∀ C, (cenvOf scope cl C env).kindOf "ahead" = some .local) (kb : ∀ C, (cenvOf scope cl C env).kindOf "behind" = some .local) (kk : ∀ C, (cenvOf scope cl C env).scope.kind = .function)
    (kr : ∀ C, (cenvOf scope cl C env).kindOf "range" = some .globalImplicit) (km : ∀ C, (cenvOf scope cl C env).kindOf "most" = some .cell) (kc : ∀ C, (cenvOf scope cl C env).cells.lookup ("most" : Str) = some cm)
    (h : ∀ D h' tk tps ep, h'.get? D = some (PySem.W.listOf (spRefs tps).toArray ep) → tps.map (·.st) = ((List.range (M + 1)).flatMap fun a => (List.range (M + 1)).map fun b => (a, true, b)) → (∀ q ∈ tps, (@LE.le Nat _ s.heap.objs.size q.a) ∧ h'.get? q.a = some q.obj) → (@LE.le Nat _ s.heap.objs.size D) →
      (∀ b o, s.heap.get? b = some o → h'.get? b = some o) → Q (.ref D) { s with heap := h', toks := tk })
    (hs : ∀ x, foldedSetIterable (.Call (.Name "range" p1) [.BinOp (.Name "most" p2) .Add (.Constant (.int 1) k p3) p4] [] p5) env x = pure x)
    (hs2 : ∀ env x, foldedSetIterable (.Call (.Name "range" q1) [.BinOp (.Name "most" q2) .Add (.Constant (.int 1) k4 q3) q4] [] q5) env x = pure x) :
    wpAny (model prog w) A (eval (.ListComp (.Tuple [.Name "ahead" p6, .Constant (.bool true) k1 p7, .Name "behind" p8] k3 p9) [⟨.Name "ahead" p0, (.Call (.Name "range" p1) [.BinOp (.Name "most" p2) .Add (.Constant (.int 1) k p3) p4] [] p5), [], 0⟩, ⟨.Name "behind" q0, (.Call (.Name "range" q1) [.BinOp (.Name "most" q2) .Add (.Constant (.int 1) k4 q3) q4] [] q5), [], 0⟩] scope pos) env) Q E s := by
  refine lc2_open hclos hsk hnames ?_ hs
  refine range_most hk hr hg hb X T e hmk hmc hM hM3 fun R I h1 tk1 t u v eR eI hR hI hz1 k1' => ?_
  refine in5_5 I [I] (M + 1) _ _ rfl (Walks.range hh I 0 1 (M + 1)) hI ?_ ?_
  · intro b hb'
    rw [List.mem_singleton.mp hb', hz1]; exact Nat.lt_succ_self _
  intro D C h₄ eD eC k4' st4 hD4 hC4 X4 hXs hX4 hXe
  dsimp only at eD k4'
  have eI' : I = s.heap.objs.size + 1 := by rw [eI, eR]
  have eD' : D = s.heap.objs.size + 2 := by rw [eD, hz1, eI']
  have eC' : C = s.heap.objs.size + 3 := by rw [eC, eD']
  have old : ∀ (b : Addr) (o : Obj), s.heap.get? b = some o → b ∉ I :: D :: [C] := fun b o e hx => by
    have hb' : (b : Nat) < s.heap.objs.size := Heap.lt_size e
    simp only [List.mem_cons, List.not_mem_nil, or_false] at hx
    rcases hx with q | q | q
    · rw [q, eI'] at hb'; exact absurd hb' (Nat.not_lt.mpr (Nat.le_succ _))
    · rw [q, eD'] at hb'; exact absurd hb' (Nat.not_lt.mpr (Nat.le_add_right _ 2))
    · rw [q, eC'] at hb'; exact absurd hb' (Nat.not_lt.mpr (Nat.le_add_right _ 3))
  have k04 : ∀ b o, s.heap.get? b = some o → h₄.get? b = some o := fun b o e => k4' b o (by simp) (k1' b o e)
  have hDC : D ≠ C := by rw [eD', eC']; exact Nat.ne_of_lt (Nat.lt_succ_self _)
  have hDltC : (@LT.lt Nat _ D C) := by rw [eD', eC']; exact Nat.lt_succ_self _
  have above : ∀ a : Addr, (@LT.lt Nat _ C a) → a ∉ I :: D :: [C] := fun a ha hx => by
    rw [eC'] at ha
    simp only [List.mem_cons, List.not_mem_nil, or_false] at hx
    rcases hx with q | q | q
    · rw [q, eI'] at ha; exact absurd ha (Nat.not_lt.mpr (Nat.add_le_add_left (show 1 ≤ 3 by decide) _))
    · rw [q, eD'] at ha; exact absurd ha (Nat.not_lt.mpr (Nat.add_le_add_left (show 2 ≤ 3 by decide) _))
    · rw [q, eC'] at ha; exact absurd ha (Nat.lt_irrefl _)
  have hcls : ((cenvOf scope cl C env).scope.kind == .class || ((cenvOf scope cl C env).scope.kind == .module && (cenvOf scope cl C env).locals != (cenvOf scope cl C env).globals)) = false := by rw [kk C]; rfl
  refine lc2_out (own := [C]) (Walks.range hh I 0 1 (M + 1)) (fun h => ∃ m, h.Ns C m) (fun v h => ∃ m, h.Ns C m ∧ m "ahead" = some v)
    (fun i ys h => ∃ tps : List Sp, ys = spRefs tps ∧ tps.map (·.st) = ((List.range i).flatMap fun a => (List.range (M + 1)).map fun b => (a, true, b)) ∧ ∀ q ∈ tps, (@LT.lt Nat _ C q.a) ∧ h.get? q.a = some q.obj)
    ?y1 ?y2 ?y4 ?y5 ?y6 ?y7 ?y8 st4 hD4 ⟨[], rfl, rfl, fun _ h => nomatch h⟩ ⟨_, hC4⟩ ?y9
  case y1 => rw [List.mem_singleton]; exact hDC
  case y2 =>
    intro b hb' hx
    rw [List.mem_singleton.mp hb'] at hx
    simp only [List.mem_cons, List.not_mem_nil, or_false] at hx
    rcases hx with q | q
    · rw [eI', eD'] at q; exact absurd q (Nat.ne_of_lt (Nat.lt_succ_self _))
    · rw [eI', eC'] at q; exact absurd q (Nat.ne_of_lt (Nat.lt_add_of_pos_right (show 0 < 2 by decide)))
  case y4 => exact fun i v s5 Q5 E5 _ h5 => wpAny_pure h5
  case y5 =>
    rintro h h' ⟨m5, o5, es5, ep5, g5, r5⟩ hk5
    exact ⟨m5, o5, es5, ep5, hk5 _ _ (.head _) g5, r5⟩
  case y6 =>
    rintro i ys h h' ⟨tps, h1, h2, h3⟩ hk5
    exact ⟨tps, h1, h2, fun q hq => ⟨(h3 q hq).1, hk5 _ _ (above q.a (h3 q hq).1) (h3 q hq).2⟩⟩
  case y7 =>
    intro i v s5 E5 hP5 hi5 hin5 hk5
    obtain ⟨m5, hm5⟩ := hin5
    refine wpAny_assign_Name (wpAny_storeName_local (ka C) hm5 (fun h6 hn6 hs6 => ⟨⟨_, hn6⟩, ⟨_, hn6, by exact if_pos rfl⟩, h6, _, rfl, fun b o hb e => (hs6.2 b (fun q => hb (by rw [q]; exact .head _))).trans e⟩) hcls)
  case y8 =>
    intro i v s5 ys5 ep5 Q5 E5 kf hP5 hi5 ha5 hin5 hD5 hJ5 hk5 hcont
    obtain ⟨m5, hm5, hv5⟩ := ha5
    obtain ⟨t5, rfl⟩ := hP5
    rw [Int.zero_add, Int.mul_one] at hv5
    obtain ⟨tps, rfl, htp, hqp⟩ := hJ5
    have k05 : ∀ b o, s.heap.get? b = some o → s5.heap.get? b = some o := fun b o e => hk5 b o (old b o e) (k04 b o e)
    have hM5 : s5.heap.IsCell cm (some (.int (M : Int) tm)) := hM.keeps k05
    refine inner_open (hs2 _) ?_
    refine range_most (kk C) (kr C) hg hb (X.keeps k05) (T.keeps k05) e (km C) (kc C) hM5 hM3 fun R2 I2 h6 tk6 t6 u6 v6 eR2 eI2 hR2 hI2 hz6 k6 => ?_
    refine ⟨I2, [I2], M + 1, _, _, rfl, Walks.range hh I2 0 1 (M + 1), hI2, ?_⟩
    have hC5 : (@LT.lt Nat _ C s5.heap.objs.size) := hm5.lt
    have hI2C : (@LT.lt Nat _ C I2) := by rw [eI2, eR2]; exact Nat.lt_succ_of_lt hC5
    have hI2D : (@LT.lt Nat _ D I2) := Nat.lt_trans hDltC hI2C
    have hD6 := k6 _ _ hD5
    have hm6 : h6.Ns C m5 := by
      obtain ⟨o5, es5, ep5', g5, r5⟩ := hm5
      exact ⟨o5, es5, ep5', k6 _ _ g5, r5⟩
    have htl : tps.length ≤ 9 := by
      have := congrArg List.length htp
      simp only [List.length_map, List.length_flatMap, List.length_range, List.map_const', List.sum_replicate_nat] at this
      rw [this]
      have h3 : i ≤ 2 := by omega
      have h4 : M + 1 ≤ 3 := by omega
      exact Nat.le_trans (Nat.mul_le_mul h3 h4) (by decide)
    have above2 : ∀ a : Addr, (@LT.lt Nat _ I2 a) → a ∉ I2 :: D :: [C] := fun a ha hx => by
      simp only [List.mem_cons, List.not_mem_nil, or_false] at hx
      rcases hx with q | q | q
      · rw [q] at ha; exact absurd ha (Nat.lt_irrefl _)
      · rw [q] at ha; exact absurd ha (Nat.not_lt.mpr (Nat.le_of_lt hI2D))
      · rw [q] at ha; exact absurd ha (Nat.not_lt.mpr (Nat.le_of_lt hI2C))
    refine lc2_in (own := [C]) (ys0 := spRefs tps) (ep0 := ep5) (Walks.range hh I2 0 1 (M + 1)) (fun h => ∃ m, h.Ns C m ∧ m "ahead" = some (.int (i : Int) t5)) (fun v h => ∃ m, h.Ns C m ∧ m "ahead" = some (.int (i : Int) t5) ∧ m "behind" = some v)
      (fun j y h => ∃ q : Sp, q.st = (i, true, j) ∧ y = .ref q.a ∧ (@LT.lt Nat _ I2 q.a) ∧ h.get? q.a = some q.obj)
      ?z1 ?z2 ?z3 ?z4 ?zs ?z5 ?z6 ?z7 ?z8 hI2 hD6 ?zl ⟨_, hm6, hv5⟩ ?z9
    case z1 => rw [List.mem_singleton]; exact hDC
    case z2 =>
      intro b hb' hx
      rw [List.mem_singleton.mp hb'] at hx
      simp only [List.mem_cons, List.not_mem_nil, or_false] at hx
      rcases hx with q | q
      · rw [q] at hI2D; exact absurd hI2D (Nat.lt_irrefl _)
      · rw [q] at hI2C; exact absurd hI2C (Nat.lt_irrefl _)
    case z3 => omega
    case z4 => exact fun i v s7 Q7 E7 _ h7 => wpAny_pure h7
    case zs => exact fun i h st => ⟨_, st⟩
    case z5 =>
      rintro h h' ⟨m7, ⟨o7, es7, ep7, g7, r7⟩, hv7⟩ hk7
      exact ⟨m7, ⟨o7, es7, ep7, hk7 _ _ (.head _) g7, r7⟩, hv7⟩
    case z6 =>
      rintro j y h h' ⟨q, h1, h2, h3, h4⟩ hk7
      exact ⟨q, h1, h2, h3, hk7 _ _ (above2 q.a h3) h4⟩
    case z7 =>
      intro j v s7 E7 hP7 hj7 hin7 hk7
      obtain ⟨m7, hm7, hv7⟩ := hin7
      refine wpAny_assign_Name (wpAny_storeName_local (kb C) hm7 (fun h8 hn8 hs8 => ⟨⟨_, hn8, ?_⟩, ⟨_, hn8, ?_, by exact if_pos rfl⟩, h8, _, rfl, fun b o hb e => (hs8.2 b (fun q => hb (by rw [q]; exact .head _))).trans e⟩) hcls)
      · rw [if_neg (by decide)]; exact hv7
      · rw [if_neg (by decide)]; exact hv7
    case z8 =>
      intro j v s7 E7 hP7 hj7 ha7 hk7 hI7
      obtain ⟨m7, hm7, hv7, hw7⟩ := ha7
      obtain ⟨t7, rfl⟩ := hP7
      obtain ⟨oI, hoI⟩ := hI7
      rw [Int.zero_add, Int.mul_one] at hw7
      refine wpAny_mono (sts_elt2 (kk C) (ka C) (kb C) hm7 hv7 hw7) (fun y s' hy => ?_) fun _ _ e => e
      obtain ⟨⟨q, h1, h2, h3, h4⟩, hk⟩ := hy
      refine ⟨⟨q, h1, h2, ?_, h4⟩, hk⟩
      rw [h3]
      exact Heap.lt_size hoI
    case zl => simp [spRefs]; omega
    case z9 =>
      intro h8 tk8 ys8 ep8 hyl8 hyg8 hD8 hk8 hin8
      obtain ⟨m8, hm8, _⟩ := hin8
      obtain ⟨tps2, rfl, ht2, hq2⟩ := sps_of (h := h8) (I := 0) (D := 0) (C := 0) (lo := I2 + 1) (f := fun b => (i, true, b)) ys8 0 fun j y e => by
        obtain ⟨q, h1, h2, h3, h4⟩ := hyg8 j y e
        exact ⟨q, by rw [h1, Nat.zero_add], h2, h3, h4⟩
      have old5 : ∀ (b : Addr) (o : Obj), s5.heap.get? b = some o → b ∉ D :: [C] → h8.get? b = some o := fun b o e hb' => by
        refine hk8 b o (fun hx => ?_) (k6 b o e)
        have hlt : (b : Nat) < s5.heap.objs.size := Heap.lt_size e
        rcases List.mem_cons.mp hx with q | hx
        · rw [q, eI2, eR2] at hlt; exact absurd hlt (Nat.not_lt.mpr (Nat.le_succ _))
        · exact hb' hx
      refine hcont h8 tk8 (spRefs tps ++ spRefs tps2) ep8 hD8 ⟨tps ++ tps2, by simp [spRefs], ?_, fun q hq => ?_⟩ ⟨m8, hm8⟩ (fun b o hb' e => old5 b o e hb')
      · rw [List.map_append, htp, ht2, hyl8, List.range_succ (n := i), List.flatMap_append, ← List.range_eq_range']
        simp
      · rcases List.mem_append.mp hq with hq | hq
        · have := hqp q hq
          exact ⟨this.1, old5 _ _ this.2 fun hx => above q.a this.1 (.tail _ hx)⟩
        · exact ⟨Nat.lt_trans hI2C (hq2 q hq).1, (hq2 q hq).2⟩
  case y9 =>
    intro h11 tk11 ys11 ep11 hJ11 hD11 hk11 hin11
    obtain ⟨m11, hm11⟩ := hin11
    obtain ⟨tps, rfl, ht, hq⟩ := hJ11
    refine ⟨m11, hm11, fun h12 hs12 => ?_⟩
    have hne : ∀ q ∈ tps, q.a ≠ C := fun q hq' e => by
      have := (hq q hq').1
      rw [e] at this
      exact absurd this (Nat.lt_irrefl _)
    refine h D h12 tk11 tps ep11 ((hs12.2 D hDC).trans hD11) ht (fun q hq' => ⟨?_, (hs12.2 q.a (hne q hq')).trans (hq q hq').2⟩) ?_ (fun b o e => (hs12.2 b (fun q => old b o e (by rw [q]; simp))).trans (hk11 b o (old b o e) (k04 b o e)))
    · have := (hq q hq').1
      rw [eC'] at this
      exact Nat.le_of_lt (Nat.lt_of_le_of_lt (Nat.le_add_right _ 3) this)
    · rw [eD']; exact Nat.le_add_right _ 2
end
end Mine
end

section
open PySem PySem.W PyProof.Rows PySem.Calls
set_option maxHeartbeats 4000000
namespace Mine
noncomputable def StsL (h : Heap) (l : Addr) (tps : List Sp) : Prop := h.IsList l (spRefs tps).toArray ∧ ∀ q ∈ tps, h.get? q.a = some q.obj
theorem StsL.at {h : Heap} {l : Addr} {tps : List Sp} (x : StsL h l tps) : StsAt h l (tps.map (·.st)) := ⟨tps, rfl, x⟩
theorem seg2 {n : Nat} {prog : Program} {w : World} {A : Around} {s : Shared} {h₀ : Heap} {L fa lx D : Addr} {cd : Value} {m : Str → Option Value} {o1 o2 : Obj} {vals : List Value} {ns : List Int} {nn : List (Nat × Tok)} {Q : Flow → Shared → Prop} {E : Value → Shared → Prop}
   (C : Cx n w A h₀ L) (hn : n ≤ 5) (F : Fr h₀ L s.heap m) (hm : m "numbers" = some (.ref D)) (N : News h₀ L s.heap [(L + 1 + 1, o2), (L + 1, o1)]) (ho1 : o1.data = .cell (some (.ref lx))) (ho2 : ∃ v, o2.data = .cell v) (hl : h₀.IsList lx vals.toArray) (hi : IntsAre vals ns) (h63 : ns.length ≤ 63)
   (hD : s.heap.IsList D (intValues nn).toArray) (hnl : nn.length ≤ 6) (hsm : ∀ r ∈ nn, r.1 < 1000000)
   (k : ∀ h' tk lr ls Z tps m', Fr h₀ L h' m' → Vars m' [("rows", .ref lr), ("states", .ref ls)] → News h₀ L h' Z → tps.map (·.st) = statesOf (1 + ns.length % 2) → (∀ h'' m'', Fr h₀ L h'' m'' → News h₀ L h'' Z → RowsAt h'' lr (rowsOf (nn.map (·.1))) ∧ StsL h'' ls tps) →
     wpAny (model prog w) A (execs (lawRec.body.drop 4) (lawEnv L fa cd)) Q E { s with heap := h', toks := tk }) :
   wpAny (model prog w) A (execs (lawRec.body.drop 1) (lawEnv L fa cd)) Q E s := by
  obtain ⟨hd0, dp0, fr0, gd0, un0⟩ := A
  have hh0 : hd0 = none := C.handled
  subst hh0
  unfold lawEnv lawRec
  dsimp only [getD, List.drop]
  refine C.top_el fun pp loose mg mb T => ?_
  have X := C.X
  obtain ⟨v2, ho2⟩ := ho2
  have F1 := frs F (bs := [("numbers", .ref D)]) ⟨hm, trivial⟩
  clear F
  repeat' walk1
  refine wpAny_call (rows_call C (le_lit hn rfl) F1 hD hnl hsm fun lr h1 tk1 hlr hx1 hr1 => ?_)
  obtain ⟨K, K1, K2, K2b, K3⟩ := rows_led (fr_ext F1 Own.nil hx1) hr1
  obtain ⟨Z, NZ, Z1, Z2⟩ := ledger_of (fr_ext F1 Own.nil hx1) K K1 K2
  have F2 := fr_ext F1 Own.nil hx1
  have N2 : News h₀ L h1 ((L + 1 + 1, o2) :: (L + 1, o1) :: Z) := by
    intro p hp
    rcases List.mem_cons.mp hp with rfl | hp
    · exact ⟨hx1 _ _ (by simp) (N _ (.head _)).1, (N _ (.head _)).2⟩
    rcases List.mem_cons.mp hp with rfl | hp
    · exact ⟨hx1 _ _ (by simp) (N _ (.tail _ (.head _))).1, (N _ (.tail _ (.head _))).2⟩
    · exact NZ p hp
  clear F1 N NZ
  dsimp only
  repeat' walk1
  rename Fr h₀ L _ _ => F3
  rename News h₀ L _ _ => N3
  have hZ2 : ∀ p ∈ Z, p.1 ≠ L + 1 + 1 := fun p hp e => by
    obtain ⟨xs, nx, hx⟩ := K2b p (Z1 p hp)
    have h1 := (N3 p (.tail _ (.tail _ hp))).1
    have h2 := (N3 _ (.head _)).1
    rw [e] at h1
    rw [h2] at h1
    injection h1 with h1
    rw [← h1, ho2] at hx
    cases hx
  refine wpAny_storeName_cell rfl rfl rfl ⟨o2, (N3 _ (.head _)).1, ho2⟩ fun h6 hc6 hs6 => ?_
  obtain ⟨o2b, go2, ho2b⟩ := hc6
  have F4 := fr_same F3 N3 hs6
  have N4 := news_same N3 hs6 go2 (by
    intro p hp
    rcases List.mem_cons.mp hp with rfl | hp
    · exact Nat.ne_of_lt (Nat.lt_succ_self _)
    · exact hZ2 p hp)
  have hmost : (1 + (ns.length : Int).fmod 2) = ((1 + ns.length % 2 : Nat) : Int) := by
    rw [Int.fmod_eq_emod_of_nonneg _ (by decide)]
    omega
  rw [hmost] at ho2b
  clear F3 N3 hs6
  dsimp only
  iterate 3 walk1
  have hM4 : h6.IsCell (L + 1 + 1) (some (.int ((1 + ns.length % 2 : Nat) : Int) _)) := ⟨o2b, (N4 _ (.head _)).1, ho2b⟩
  have hM3 : 1 + ns.length % 2 ≤ 2 := by omega
  generalize 1 + ns.length % 2 = M at hM4 hM3 hmost k
  refine comp_f (hs := fun _ => rfl) (cl := []) (cm := L + 1 + 1) (M := M) rfl rfl rfl rfl rfl (X.keeps F4.keep) (T.keeps F4.keep) (by k_is) rfl rfl hM4 hM3 rfl rfl (by decide) (fun _ => rfl) (fun _ => rfl) fun D1 h7 tk7 tps1 ep1 hD1 ht1 hq1 hlo1 k7 => ?_
  have F5 := fr_keep2 F4 k7
  dsimp only
  refine comp_t (hs := fun _ => rfl) (hs2 := fun _ _ => rfl) (cl := [("most", L + 1 + 1)]) (cm := L + 1 + 1) (M := M) rfl rfl rfl rfl rfl (X.keeps F5.keep) (T.keeps F5.keep) (by k_is) rfl rfl (hM4.keeps k7) hM3 rfl rfl (by decide) (fun _ => rfl) (fun _ => rfl) (fun _ => rfl) (fun _ => rfl) (fun _ => rfl) (fun _ => rfl) fun D2 h8 tk8 tps2 ep2 hD2 ht2 hq2 hlo2 k8 => ?_
  have F6 := fr_keep2 F5 k8
  dsimp only at hlo2 hq2 ⊢
  have hn6 : ∀ (a : Addr), (@LE.le Nat _ h6.objs.size a) → h₀.get? a = none ∧ a ≠ L := fun a ha => own_new F4 (by
    cases q : h6.get? a with
    | none => rfl
    | some o => exact absurd (Heap.lt_size q) (Nat.not_lt.mpr ha))
  have hsz : (@LE.le Nat _ h6.objs.size h7.objs.size) := by
    have h1 : (D1 : Nat) < h7.objs.size := Heap.lt_size hD1
    exact Nat.le_trans hlo1 (Nat.le_of_lt h1)
  have N6 : News h₀ L h8 ((D1, PySem.W.listOf (spRefs tps1).toArray ep1) :: (D2, PySem.W.listOf (spRefs tps2).toArray ep2) :: ((tps1 ++ tps2).map Sp.led ++ Z)) := by
    intro p hp
    rcases List.mem_cons.mp hp with rfl | hp
    · exact ⟨k8 _ _ hD1, (hn6 _ hlo1).2, (hn6 _ hlo1).1⟩
    rcases List.mem_cons.mp hp with rfl | hp
    · exact ⟨hD2, (hn6 _ (Nat.le_trans hsz hlo2)).2, (hn6 _ (Nat.le_trans hsz hlo2)).1⟩
    rcases List.mem_append.mp hp with hp | hp
    · obtain ⟨q, hq, rfl⟩ := List.mem_map.mp hp
      rcases List.mem_append.mp hq with hq | hq
      · exact ⟨k8 _ _ (hq1 q hq).2, (hn6 _ (hq1 q hq).1).2, (hn6 _ (hq1 q hq).1).1⟩
      · exact ⟨(hq2 q hq).2, (hn6 _ (Nat.le_trans hsz (hq2 q hq).1)).2, (hn6 _ (Nat.le_trans hsz (hq2 q hq).1)).1⟩
    · have := N4 p (.tail _ (.tail _ hp))
      exact ⟨k8 _ _ (k7 _ _ this.1), this.2⟩
  clear N4 F4 F5
  have hls1 : tps1.length = M + 1 := by have := congrArg List.length ht1; simpa using this
  have hls2 : tps2.length ≤ 9 := by
    have := congrArg List.length ht2
    simp only [List.length_map, List.length_flatMap, List.length_range, List.map_const', List.sum_replicate_nat] at this
    rw [this]
    exact Nat.le_trans (Nat.mul_le_mul (show M + 1 ≤ 3 by omega) (show M + 1 ≤ 3 by omega)) (by decide)
  refine add_lists (vs := spRefs tps1) (ws := spRefs tps2) F6 N6 ⟨_, (N6 _ (.head _)).1, rfl, _, rfl⟩ ⟨_, (N6 _ (.tail _ (.head _))).1, rfl, _, rfl⟩ ?_ (by simp only [spRefs, List.length_map, sizeLine_eq]; omega)
  intro h9 F7 N7
  clear F6 N6
  dsimp only
  iterate 1 walk1
  rename Fr h₀ L _ _ => F8
  rename News h₀ L _ _ => N8
  have hZsub : ∀ p ∈ (tps1 ++ tps2).map Sp.led ++ Z, p ∈ (D1, PySem.W.listOf (spRefs tps1).toArray ep1) :: (D2, PySem.W.listOf (spRefs tps2).toArray ep2) :: ((tps1 ++ tps2).map Sp.led ++ Z) := fun p hp => .tail _ (.tail _ hp)
  refine k _ _ lr _ ((_, ({ cls := .type "list", data := .seq (spRefs tps1 ++ spRefs tps2).toArray } : Obj)) :: ((tps1 ++ tps2).map Sp.led ++ Z)) (tps1 ++ tps2) _ F8 ⟨rfl, rfl, trivial⟩ (fun p hp => ?_) ?_ fun h'' m'' F'' N'' => ⟨K3 h'' (Z2 h'' m'' F'' fun p hp => N'' p (.tail _ (List.mem_append_right _ hp))), ⟨_, (N'' _ (.head _)).1, rfl, 0, ?_⟩, fun q hq => (N'' q.led (.tail _ (List.mem_append_left _ (List.mem_map_of_mem hq)))).1⟩
  · rcases List.mem_cons.mp hp with rfl | hp
    · exact N8 _ (.head _)
    · exact N8 _ (.tail _ (hZsub p hp))
  · rw [List.map_append, ht1, ht2]
    rfl
  · simp [spRefs]
end Mine
end

section
open PySem PySem.W PyProof.Rows PySem.Calls
set_option maxHeartbeats 4000000
namespace Mine
section
variable {n : Nat} {prog : Program} {w : World} {A : Around} {s : Shared} {h₀ : Heap} {L : Addr} {m : Str → Option Value} {R : Result → Shared → Prop} {E : Value → Shared → Prop}
theorem enterC {name qual : Str} {params : Arguments} {body : List Stmt} {scope : Scope} {dV kV doc pm cdv ct oc : Value} {an od : Option Addr} {osl : Array (Option Value)} {f : Addr} {args : Args} {binds : List (Str × Value)}
    (C : Cx n w A h₀ L) (hn : n ≤ 60) (F : Fr h₀ L s.heap m)
    (ho : (Mine.hd.heap_39 w.params).lookup f = some ⟨oc, od, .func (fnOf name qual params body scope dV kV doc pm an cdv ct), osl⟩) (hcd : codeIn (Mine.hd.heap_39 w.params) cdv qual = true)
    (hbind : BindsTo s (fnOf name qual params body scope dV kV doc pm an cdv ct) args binds)
    (hkind : ∀ n, ∀ x ∈ binds, scope.names.lookup x.1 = some .local ∨ (scope.names.lookup x.1 = some .cell ∧ ((cellsFrom n scope.names []).lookup x.1).isSome = true))
    (hnd : ((cellsFrom 0 scope.names []).map (·.1)).Nodup)
    (hco : scope.isCoroutine = false) (hgen : scope.isGenerator = false) (hk : scope.kind = .function)
    (h : ∀ L' h₁ tk cells, Cx (n + 1) w (A.deeper (envOfC qual scope L' f cdv)) s.heap L' → Fr s.heap L' h₁ (bindL (envOfC qual scope L' f cdv).kindOf binds fun _ => none) → News s.heap L' h₁ cells →
      CellsAre (bindC (envOfC qual scope L' f cdv).kindOf binds fun _ => none) (cellsFrom (L' + 1) scope.names []) cells →
      wpAny (model prog w) (A.deeper (envOfC qual scope L' f cdv)) (execs body (envOfC qual scope L' f cdv))
        (Done s.heap L' [] s.heap R) (fun _ _ => False)
        { s with heap := h₁, toks := tk }) : codeAny (model prog w) A (.call (.ref f) args) R s := by
  obtain ⟨A₀, base, outer, env, p, loose, mean, mg, mb, B, T, hA, hf, hke⟩ := C.ex
  have hroom : A.depth < recursionLimit := by have := C.depth; show A.depth < 1000; omega
  obtain ⟨FG, BG, st, lv⟩ := groundX (R := R) B F News.nil hA hf hke
  have XS := C.X.keeps F.keep
  refine codeAny_call_function hroom (XS _ _ ho) rfl hco hgen rfl (codeRec_of XS hcd) (hbind _ _ _ _ ?_)
  refine wpAny_newFunctionEnv_cells hk (hkind _) fun env' he s' x => ?_
  subst he
  refine ⟨(T.nolimit.keeps F.keep).keeps x.toInCall.keep, codeAny_func ?_⟩
  obtain ⟨h₁, tk, rfl, _⟩ := x.done
  have hk₁ := x.toInCall.keep
  obtain ⟨cells, NC, Y⟩ := Cl.news (h₀ := s.heap) (Nat.le_refl _) fun n c hm => ⟨x.cell n c (lookup_of_mem_nodup (cellsFrom_names scope.names 0 (s.heap.objs.size + 1) [] [] rfl ▸ hnd) hm), x.above n c hm⟩
  have C' : Cx (n + 1) w (A.deeper (envOfC qual scope s.heap.objs.size f cdv)) s.heap s.heap.objs.size := by
    refine ⟨⟨A, base, env :: outer, envOfC qual scope s.heap.objs.size f cdv, p, loose, mean, mg, mb, BG, T.keeps st, Around.frames_deeper hA, rfl, hk⟩, C.X.keeps st, ?_, ?_, C.handled⟩
    · have := C.depth; show A.depth + 1 ≤ 400 + (n + 1); omega
    · have := C.units; show A.units + 3 ≤ 10 * (n + 1); omega
  refine wpAny_mono (h s.heap.objs.size h₁ tk cells C' ⟨x.toInCall.ns, hk₁, Nat.le_refl _⟩ NC Y) (fun fl s' hl => ?_) fun _ _ y => y.elim
  obtain ⟨m', F', k⟩ := hl
  exact k fun b o _ e => F'.keep b o e
end
theorem any_end (en : List Nat) : ([S [13], S [10]].any fun x => x == S en) = (en == [13] || en == [10]) := by
  simp only [List.any_cons, List.any_nil, Bool.or_false, S_beq]
  rw [Bool.eq_iff_iff]
  simp only [Bool.or_eq_true, beq_iff_eq]
  constructor
  · rintro (h | h) <;> simp [← h]
  · rintro (h | h) <;> simp [h]
theorem range_small : ∀ k : Nat, k ≤ 7 → Builtin.Range.small 0 (1 + (k : Int)) 1 = true ∧ Builtin.Range.rangeSize 0 (1 + (k : Int)) 1 = ((k + 1 : Nat) : Int) := by decide
theorem pp_ints : ∀ (prs : List Pp), IntsAre (prs.map fun q => Value.int (q.lv : Int) q.t) (prs.map fun q => (q.lv : Int))
  | [] => .nil
  | q :: prs => .cons _ _ (pp_ints prs)
theorem off3 {b n : Nat} (h : b < n) : b ∉ [n, n + 1, n + 2] := by simp; omega
theorem off4 {b n : Nat} (h : b < n) : b ∉ [n, n + 1, n + 2, n + 2 + 1] := by simp; omega
theorem offx {P n : Nat} (h : P < n) : ∀ b ∈ [n, P], b ∉ [n + 1, n + 2] := by simp; omega
theorem offy {n : Nat} : n + 1 ∉ [n + 2, n + 2 + 1] := by simp
theorem offz {n : Nat} : ∀ b ∈ [n], b ∉ [n + 1, n + 2, n + 2 + 1] := by simp; omega
theorem offT {T n : Nat} (h : n + 2 + 1 < T) : T ∉ [n, n + 1, n + 2, n + 2 + 1] := by simp; omega
theorem rounds_call {n : Nat} {prog : Program} {w : World} {A : Around} {s : Shared} {h₀ : Heap} {L : Addr} {m : Str → Option Value} {R : Result → Shared → Prop}
   (C : Cx n w A h₀ L) (hn : n ≤ 40) (F : Fr h₀ L s.heap m) {l ls : Addr} {rows : List Row} {sts : List Stt} (hr : RowsAt s.heap l rows) (hsm : Small rows) (hst : StatesAt s.heap ls sts) (hsl : sts.length ≤ 12) (hsn : 0 < sts.length) (hsa : ∀ r ∈ sts, r.1 ≤ 3 ∧ r.2.2 ≤ 3)
   (k : ∀ D h' tk dr sss, s.heap.get? D = none → Ext [] s.heap h' → LevelsAt h' D sss → RoundsOk rows sts sss → R (.ok (.ret (.ref D))) { s with heap := h', toks := tk, drawn := dr }) :
   codeAny (model prog w) A (.call (.ref 218) ⟨[.ref l, .ref ls], []⟩) R s := by
  obtain ⟨hd0, dp0, fr0, gd0, un0⟩ := A
  have hh0 : hd0 = none := C.handled
  subst hh0
  refine' enterC (binds := [("rows", .ref l), ("states", .ref ls)]) C (le_lit hn rfl) F ?ho ?hcd ?hb ?hki ?hnd ?c1 ?c2 ?c3 ?_
  case ho => k_is
  case hcd => k_is
  case hb => exact BindsTo.of_eq rfl
  case hki =>
    intro n y hy
    rcases List.mem_cons.mp hy with rfl | hy
    · exact .inl rfl
    · rw [List.mem_singleton.mp hy]; exact .inl rfl
  case hnd => decide
  case c1 => rfl
  case c2 => rfl
  case c3 => rfl
  intro L' h₁ tk cells C' F' N' Y
  refine C'.top_el fun pp loose mg mb T => ?_
  have X := C'.X
  obtain ⟨oc, rfl, hoc⟩ := CellsAre.one Y
  clear Y
  refine hideQ fun K0 hK0 => ?_
  repeat' walk1
  refine wpAny_For ?_
  walk1
  rename Fr s.heap L' _ _ => F2
  rename News s.heap L' _ _ => N2
  have hr0 := hr
  obtain ⟨vs, hvl, hvn, hvi⟩ := hr
  refine iter_list (L := L') (vs := vs) (fun i m₁ news₁ => news₁ = [(L' + 1, oc)] ∧ Vars m₁ [("early", .bool (flags (rows.take i)).1), ("late", .bool (flags (rows.take i)).2.1), ("unlike", .bool (flags (rows.take i)).2.2.1), ("seen", .bool (flags (rows.take i)).2.2.2), ("rows", .ref l), ("states", .ref ls)]) rfl rfl F2 N2 ?hl ?hj ?turn ?done
  case hl => exact fun h i m₁ news₁ _ F₁ _ => hvl.at fun o e => F₁.keep _ _ e
  case hj => exact ⟨rfl, ⟨rfl, rfl, rfl, rfl, rfl, rfl, trivial⟩⟩
  case turn =>
    intro i v m₁ news₁ h6 tk6 it o hit hv hJ hap F6 N6
    refine hideT fun K1 hK1 => ?_
    replace N6 := newsE1 hJ.1 N6
    replace hap := apE hJ.1 hap
    have hV := hJ.2
    clear hJ
    have hlt : i < rows.length := by have := (List.getElem?_eq_some_iff.mp hv).1; omega
    refine ex3_2 (hvi i rows[i] (List.getElem?_eq_getElem hlt)) ?_
    intro ad t u hvi' htup
    refine asgE (Option.some.inj (hv.symm.trans hvi')) ?_
    clear hvi' hv
    have htup' := htup.keeps fun b o e => F6.keep b o e
    have hrel := hsm.2 rows[i] (List.getElem_mem _)
    have hrl := hrel.1
    have hel := hrel.2
    clear hrel
    have hstep : flags (rows.take (i + 1)) = rdStep (flags (rows.take i)) rows[i] := by
      unfold flags; rw [List.take_add_one, List.getElem?_eq_getElem hlt, List.foldl_append]; rfl
    generalize flags (rows.take i) = fl at hstep hV
    generalize rows[i] = row at htup' hrl hel hstep
    obtain ⟨row, en⟩ := row
    obtain ⟨f1, f2, f3, f4⟩ := fl
    dsimp only at htup' hrl hel hV
    have F7 := frs F6 hV
    clear F6
    have q1 := S_len row
    have q2 := S_len en
    refine unpackN_ F7 N6 htup' C'.handled rfl rfl ?_
    intro h7 F8 N7
    clear F7 N6
    iterate 7 walk1
    rename Fr s.heap L' _ _ => F9
    rename News s.heap L' _ _ => N9
    clear hV htup' htup
    refine execs_mid (Mid1 s s.heap L' fun m' news' => m' "early" = some (.bool (if row.head? == some 46 then f1 || f4 else f1)) ∧ m' "late" = some (.bool (if row.head? == some 46 then f2 || !f4 else f2)) ∧ news' = [(it, o), (L' + 1, oc)] ∧
      Vars m' [("end", .str (S en) u), ("unlike", .bool f3), ("seen", .bool f4), ("rows", .ref l), ("states", .ref ls)]) ?_ ?_
    · refine hideQ fun K2 hK2 => ?_
      repeat' walk1
      all_goals
        rename Fr s.heap L' _ _ => Fz
        rename News s.heap L' _ _ => Nz
        refine hK2 _ _ (Mid1.intro Fz Nz ⟨congrArg (fun b => some (Value.bool b)) (?_ : _ = _), congrArg (fun b => some (Value.bool b)) (?_ : _ = _), rfl, ⟨rfl, rfl, rfl, rfl, rfl, trivial⟩⟩)
      all_goals (clear Fz Nz hK2 hK1 hK0 k X T C' hvi hst hr0 hvl C F hap hstep)
      all_goals (simp only [slice1_dot row hrl] at *)
      all_goals (clear hrl hel q1 q2 hsm)
      all_goals simp_all
    intro s' hm
    refine mid_el hm ?_; clear hm
    intro h10 tk10 m10 news10 F10 N10 hP
    refine ex0_4 hP ?_; clear hP
    intro he10 hl10 hn10 hV10
    replace N10 := newsE hn10 N10
    clear hn10 news10 F9 N9
    have F11 := frs F10 (bs := ("early", .bool (if row.head? == some 46 then f1 || f4 else f1)) :: ("late", .bool (if row.head? == some 46 then f2 || !f4 else f2)) :: [("end", .str (S en) u), ("unlike", .bool f3), ("seen", .bool f4), ("rows", .ref l), ("states", .ref ls)]) ⟨he10, hl10, hV10⟩
    clear F10 he10 hl10 hV10
    repeat' walk1
    all_goals
      rename Fr s.heap L' _ _ => Fz
      rename News s.heap L' _ _ => Nz
      refine hK1 _ _ (Turn.next Fz (news' := [(L' + 1, oc)]) (fun p hp => Nz p (by first | exact hp | exact .tail _ hp)) (fun p hp => hap p hp) ⟨rfl, ⟨congrArg (fun b => some (Value.bool b)) (?_ : _ = _), congrArg (fun b => some (Value.bool b)) (?_ : _ = _), congrArg (fun b => some (Value.bool b)) (?_ : _ = _), congrArg (fun b => some (Value.bool b)) (?_ : _ = _), rfl, rfl, trivial⟩⟩)
    all_goals (clear Fz Nz X T C' k hvi hst C F hK1 hK0 hr0 hvl hap)
    all_goals (rw [hstep])
    all_goals (try rfl)
    all_goals (try exact (sliceLast_lf en hel))
    all_goals (simp only [S_cr, S_lf, S_beq, rdStep] at *)
    all_goals (try simp only [any_end])
    all_goals (clear hrl hel q1 q2 hstep hsm)
    all_goals simp_all
  case done =>
    intro m₁ news₁ h6 tk6 hJ F6 N6
    replace N6 := newsE hJ.1 N6
    have hV := hJ.2
    clear hJ news₁
    have hvr : vs.length = rows.length := hvn
    rw [hvr, List.take_length] at hV
    generalize hfl : flags rows = fl at hV
    have F7 := frs F6 hV
    clear F6
    dsimp only
    repeat' walk1
    refine wpAny_For ?_
    walk1
    rename Fr s.heap L' _ _ => F8
    rename News s.heap L' _ _ => N8
    rename (_ : Obj).data = _ => hoc2
    rename_i P _ hLP h8 oc2
    have N9 : News s.heap L' h8 ((P, W.listOf (ppRefs []).toArray 0) :: (L' + 1, oc2) :: ([] : List Pp).map Pp.led) := N8
    clear N8
    obtain ⟨ws, hwl, hwn, hwi⟩ := hst
    refine iter_list (L := L') (vs := ws) (fun i m₁ news₁ => ∃ prs ep, news₁ = (P, W.listOf (ppRefs prs).toArray ep) :: (L' + 1, oc2) :: prs.map Pp.led ∧ prs.map (fun q => (q.lv, q.tx)) = (sts.take i).map (fun st => (levOf fl st, told rows st.1 st.2.1 st.2.2)) ∧ (∀ q ∈ prs, @LT.lt Nat _ P q.a) ∧
      Vars m₁ [("early", .bool fl.1), ("late", .bool fl.2.1), ("unlike", .bool fl.2.2.1), ("rows", .ref l)]) rfl rfl F8 N9 ?hl2 ?hj2 ?turn2 ?done2
    case hl2 => exact fun h i m₁ news₁ _ F₁ _ => hwl.at fun o e => F₁.keep _ _ e
    case hj2 => exact ⟨[], 0, rfl, rfl, (fun _ h => nomatch h), ⟨rfl, rfl, rfl, rfl, trivial⟩⟩
    case turn2 =>
      intro i v m₂ news₂ h9 tk9 it o hit hv hJ hap F9 N10
      refine hideT fun K1 hK1 => ?_
      refine ex2_4 hJ ?_; clear hJ
      intro prs ep hn hprs hPt hV2
      replace N10 := newsE1 hn N10
      replace hap := apE hn hap
      clear hn news₂
      have hlt : i < sts.length := by have := (List.getElem?_eq_some_iff.mp hv).1; omega
      refine ex3_2 (hwi i sts[i] (List.getElem?_eq_getElem hlt)) ?_
      intro ad t u hwi' htup
      refine asgE (Option.some.inj (hv.symm.trans hwi')) ?_
      clear hwi' hv
      have htup' := htup.keeps fun b o e => F9.keep b o e
      have hsi := hsa sts[i] (List.getElem_mem _)
      have hnext : (sts.take (i + 1)).map (fun st => (levOf fl st, told rows st.1 st.2.1 st.2.2)) = prs.map (fun q => (q.lv, q.tx)) ++ [(levOf fl sts[i], told rows sts[i].1 sts[i].2.1 sts[i].2.2)] := by
        rw [List.take_add_one, List.getElem?_eq_getElem hlt, List.map_append, ← hprs]; rfl
      generalize sts[i] = st at htup' hsi hnext
      obtain ⟨sa, sm, sb⟩ := st
      dsimp only at htup' hsi hnext
      have F10 := frs F9 hV2
      clear F9
      refine unpackN_ F10 N10 htup' C'.handled rfl rfl ?_
      intro h10 F11 N11
      clear F10 N10
      iterate 10 walk1
      rename Fr s.heap L' _ _ => F11
      rename News s.heap L' _ _ => N11
      refine execs_mid (Mid1 s s.heap L' fun m' news' => (∃ u, m' "level" = some (.int (levOf fl (sa, sm, sb)) u)) ∧ news' = (it, o) :: (P, W.listOf (ppRefs prs).toArray ep) :: (L' + 1, oc2) :: prs.map Pp.led ∧ Vars m' [("ahead", .int sa t), ("mended", .bool sm), ("behind", .int sb u), ("early", .bool fl.1), ("late", .bool fl.2.1), ("unlike", .bool fl.2.2.1), ("rows", .ref l)]) ?_ ?_
      · refine hideQ fun K2 hK2 => ?_
        iterate 2 walk1
        refine eval_mid (fun v => ∃ u, v = .int ((if fl.1 then sa + sb else if fl.2.1 then sb else 0 : Nat) : Int) u) ?_ ?_
        · clear hK2 hK1 hK0
          repeat' walk1
          all_goals (refine EvP.intro ⟨_, congrArg (fun z => Value.int z _) (?_ : _ = _)⟩)
          all_goals (clear X T C' C F k hr0 hvi hwi hap hnext hprs hPt hsa hsm hLP hV2 htup htup')
          all_goals (simp [*])
        intro v9 tk9 hv9
        refine ex1_1 hv9 ?_; clear hv9
        intro u9 hv9
        rw [hv9]
        clear hv9
        dsimp only
        refine eval_mid (fun v => ∃ u, v = .int ((if sm && fl.2.2.1 then 1 else 0 : Nat) : Int) u) ?_ ?_
        · clear hK2 hK1 hK0
          repeat' walk1
          all_goals (refine EvP.intro ⟨_, congrArg (fun z => Value.int z _) (?_ : _ = _)⟩)
          all_goals (clear X T C' C F k hr0 hvi hwi hap hnext hprs hPt hsa hsm hLP hV2 htup htup')
          all_goals (simp [*])
        intro v10 tk10 hv10
        refine ex1_1 hv10 ?_; clear hv10
        intro u10 hv10
        rw [hv10]
        clear hv10
        dsimp only
        repeat' walk1
        rename Fr s.heap L' _ _ => Fz
        rename News s.heap L' _ _ => Nz
        try dsimp only
        exact hK2 _ _ <| Mid1.intro Fz Nz ⟨⟨_, congrArg (fun z => some (Value.int z _)) (Int.natCast_add _ _).symm⟩, rfl, ⟨rfl, rfl, rfl, rfl, rfl, rfl, rfl, trivial⟩⟩
      intro s' hm
      refine mid_el hm ?_; clear hm
      intro h12 tk12 m12 news12 F12 N12 hP
      refine ex0_3 hP ?_; clear hP
      intro hsx hn12 hV12
      refine ex1_1 hsx ?_; clear hsx
      intro u12 hs12
      replace N12 := newsE hn12 N12
      clear hn12 news12
      have F13 := frs F12 (bs := ("level", .int (levOf fl (sa, sm, sb)) u12) :: [("ahead", .int sa t), ("mended", .bool sm), ("behind", .int sb u), ("early", .bool fl.1), ("late", .bool fl.2.1), ("unlike", .bool fl.2.2.1), ("rows", .ref l)]) ⟨hs12, hV12⟩
      clear F12
      repeat' walk1
      refine wpAny_call (told_call C' (le_lit (Nat.succ_le_succ hn) rfl) F13 (hr0.ext F13.keep) hsm hsi.1 hsi.2 fun tt h14 tk14 hex14 => ?_)
      have F14 := fr_ext F13 Own.nil hex14
      have N14 : News s.heap L' h14 ((it, o) :: (P, W.listOf (ppRefs prs).toArray ep) :: (L' + 1, oc2) :: prs.map Pp.led) := fun p hp => ⟨hex14 _ _ (by simp) (N12 p hp).1, (N12 p hp).2⟩
      clear F13 N12
      dsimp only
      repeat' walk1
      rename Fr s.heap L' _ _ => F15
      rename News s.heap L' _ _ => N15
      rename_i T2 h15 l15
      have hPi : @Ne Nat it P := fun e => hap _ (.head _) e.symm
      have hLP2 : @Ne Nat (L' + 1) P := Nat.ne_of_lt hLP
      have hlp : prs.length ≤ 12 := by
        have := congrArg List.length hprs
        simp at this; omega
      have hU : Upd P (W.listOf (ppRefs prs).toArray ep) (W.listOf ((ppRefs prs).toArray.push (.ref T2)) (ep + 1)) ((T2, { cls := .type "tuple", data := .seq #[.int (levOf fl (sa, sm, sb)) u12, .str (S (told rows sa sm sb)) tt] }) :: (it, o) :: (P, W.listOf (ppRefs prs).toArray ep) :: (L' + 1, oc2) :: prs.map Pp.led)
          ((T2, { cls := .type "tuple", data := .seq #[.int (levOf fl (sa, sm, sb)) u12, .str (S (told rows sa sm sb)) tt] }) :: (it, o) :: (P, W.listOf ((ppRefs prs).toArray.push (.ref T2)) (ep + 1)) :: (L' + 1, oc2) :: prs.map Pp.led) := by
        refine .tail (Nat.ne_of_gt l15.2.1) (.tail hPi (.head fun p hp e => ?_))
        rcases List.mem_cons.mp hp with rfl | hp
        · exact hLP2 e
        · obtain ⟨q, hq, rfl⟩ := List.mem_map.mp hp
          exact absurd e (Nat.ne_of_gt (hPt q hq))
      refine' append_K F15 N15 hU ?_ ?z
      case z => simp [ppRefs]; rw [sizeLine_eq]; omega
      intro h16 F16 N16
      clear F15 N15 hU
      repeat' walk1
      have elst : W.listOf ((ppRefs prs).toArray.push (.ref T2)) (ep + 1) = W.listOf (ppRefs (prs ++ [(⟨T2, levOf fl (sa, sm, sb), told rows sa sm sb, u12, tt⟩ : Pp)])).toArray (ep + 1) := by simp [ppRefs]
      rw [elst] at N16
      refine hK1 _ _ <| Turn.next F16 (news' := (P, W.listOf (ppRefs (prs ++ [(⟨T2, levOf fl (sa, sm, sb), told rows sa sm sb, u12, tt⟩ : Pp)])).toArray (ep + 1)) :: (L' + 1, oc2) :: (prs ++ [(⟨T2, levOf fl (sa, sm, sb), told rows sa sm sb, u12, tt⟩ : Pp)]).map Pp.led) ?nw ?off ⟨_, ep + 1, rfl, ?fo, ?dt, ⟨rfl, rfl, rfl, rfl, trivial⟩⟩
      case nw =>
        intro p hp
        refine N16 p ?_
        simp only [List.map_append, List.map_cons, List.map_nil, List.mem_cons, List.mem_append, List.not_mem_nil, or_false] at hp ⊢
        rcases hp with h | h | h | h | h
        · exact .inr (.inl h)
        · exact .inr (.inr (.inl h))
        · exact .inr (.inr (.inr (.inl h)))
        · exact .inr (.inr (.inr (.inr h)))
        · exact .inl h
      case off =>
        intro p hp
        simp only [List.map_append, List.map_cons, List.map_nil, List.mem_cons, List.mem_append, List.not_mem_nil, or_false] at hp
        rcases hp with rfl | rfl | h | rfl
        · exact fun e => hPi e.symm
        · exact hap _ (.tail _ (.head _))
        · exact hap p (.tail _ (.tail _ h))
        · exact Nat.ne_of_gt l15.1
      case fo => rw [hnext, List.map_append]; rfl
      case dt =>
        intro q hq
        rcases List.mem_append.mp hq with hq | hq
        · exact hPt q hq
        · rw [List.mem_singleton.mp hq]; exact l15.2.1
    case done2 =>
      intro m₂ news₂ h9 tk9 hJ F9 N10
      refine ex2_4 hJ ?_; clear hJ
      intro prs ep hn hprs hPt hV2
      replace N10 := newsE hn N10
      clear hn news₂
      have F10 := frs F9 hV2
      clear F9
      dsimp only
      iterate 2 walk1
      refine lcw_open (cl := [("pairs", L' + 1)]) rfl rfl (by decide) ?_ (fun _ => rfl)
      iterate 10 walk1
      rename Fr s.heap L' _ _ => F11
      rename News s.heap L' _ _ => N11
      have hPl : h9.IsList P (ppRefs prs).toArray := ⟨_, (N11 _ (.head _)).1, rfl, _, rfl⟩
      have hPlt : P < h9.objs.size := Heap.lt_size (N11 _ (.head _)).1
      have htu : ∀ q ∈ prs, IsTup h9 q.a #[.int (q.lv : Int) q.t, .str (S q.tx) q.u] ∧ q.a < h9.objs.size := fun q hq => by
        have := (N11 q.led (.tail _ (.tail _ (List.mem_map_of_mem hq)))).1
        exact ⟨⟨_, this, rfl, _, rfl⟩, Heap.lt_size this⟩
      refine lcw_open (cl := []) rfl rfl (by decide) ?_ (fun _ => rfl)
      walk1
      refine wpAny_pyIter_list hPl ?_
      refine in5_5 h9.objs.size [h9.objs.size, P] (ppRefs prs).toArray.size _ _ rfl (Walks.list rfl _ P (Nat.ne_of_lt hPlt) (ppRefs prs).toArray) ⟨⟨_, Heap.get?_push_size _ rfl, rfl, rfl⟩, hPl.push _⟩ ?fpl ?_
      case fpl =>
        intro b hb
        show b < (h9.push _).objs.size
        rw [Heap.size_push]
        simp only [List.mem_cons, List.not_mem_nil, or_false] at hb
        rcases hb with rfl | rfl
        · exact Nat.lt_succ_self _
        · exact Nat.lt_succ_of_lt hPlt
      intro D C h₄ eD eC k4 st4 hD4 hC4 X4 hXs hX4 hXe
      have eD' : D = h9.objs.size + 1 := by rw [eD]; exact Heap.size_push ..
      have eC' : C = h9.objs.size + 2 := by rw [eC, eD']
      have hpa : ∀ q ∈ prs, q.a ∉ h9.objs.size :: D :: [C] := fun q hq => by
        rw [eD', eC']; exact off3 (htu q hq).2
      have hrefs : ∀ (i : Nat) (v : Value), (ppRefs prs).toArray[i]? = some v → ∃ q, prs[i]? = some q ∧ v = .ref q.a := by
        intro i v h
        simp only [ppRefs, List.getElem?_toArray, List.getElem?_map, Option.map_eq_some_iff] at h
        obtain ⟨q, hq, rfl⟩ := h
        exact ⟨q, hq, rfl⟩
      have kp9 : Kp [] h9 h₄ := fun b o hb e => k4 b o hb (Heap.get?_push_of_some _ e)
      refine lcw_core (own := [C]) (Walks.list rfl _ P (Nat.ne_of_lt hPlt) (ppRefs prs).toArray) (fun h => ∃ m, h.Ns C m) (fun v h => ∀ q ∈ prs, v = .ref q.a → ∃ m, h.Ns C m ∧ m "level" = some (.int (q.lv : Int) q.t)) (fun i y _ => ∃ q, prs[i]? = some q ∧ y = .int (q.lv : Int) q.t)
        ?x1 ?x2 ?x3 ?x4 ?x5 ?x6 ?x7 ?x8 st4 hD4 ⟨_, hC4⟩ ?x9
      case x1 => rw [List.mem_singleton, eC']; rw [eD']; exact Nat.ne_of_lt (Nat.lt_succ_self _)
      case x2 =>
        rw [eD', eC']; exact offx hPlt
      case x3 =>
        have := congrArg List.length hprs
        simp at this
        simp [ppRefs]; omega
      case x4 =>
        intro i v s5 Q5 E5 st5 h5
        exact ex1_3 st5.1 fun o5 g5 c5 _ => letOwned_plain "list_iterator" g5 c5 rfl h5
      case x5 =>
        rintro h h' ⟨m5, o5, es5, ep5, g5, r5⟩ hk5
        exact ⟨m5, o5, es5, ep5, hk5 _ _ (.head _) g5, r5⟩
      case x6 => exact fun i y h h' hg _ => hg
      case x7 =>
        intro i v s5 E5 hP5 hi5 hin5 hk5
        refine ex1_2 (hrefs i v hP5) ?_
        intro q hq hvq
        refine asgE hvq ?_
        have hqm := List.mem_of_getElem? hq
        refine ex1_1 hin5 ?_
        intro m5 hm5
        have ht5 : IsTup s5.heap q.a #[.int (q.lv : Int) q.t, .str (S q.tx) q.u] := by
          exact (htu q hqm).1.elim fun o5 h5 => ⟨o5, hk5 _ _ (hpa q hqm) (kp9 _ _ (fun h => nomatch h) h5.1), h5.2⟩
        refine pair_asg (m := m5) rfl rfl rfl rfl hm5 ht5 fun h6 tk6 hn6 hk6 => ⟨⟨_, hn6⟩, fun q' hq' e' => ⟨_, hn6, ?_⟩, h6, tk6, rfl, hk6⟩
        have ea : q'.a = q.a := by have e' := hvq.symm.trans e'; injection e' with e'; exact e'.symm
        obtain ⟨o1, g1, _, z1, d1⟩ := (htu q hqm).1
        obtain ⟨o2, g2, _, z2, d2⟩ := (htu q' hq').1
        rw [ea, g1] at g2
        cases g2
        rw [d1] at d2
        injection d2 with d2
        have d3 := congrArg (fun a : Array Value => a[0]?) d2
        simp at d3
        show some (Value.int (q.lv : Int) q.t) = _
        rw [d3.1, d3.2]
      case x8 =>
        intro i v s5 E5 hP5 hi5 ha5 hk5
        refine ex1_2 (hrefs i v hP5) ?_
        intro q hq hvq
        refine ex1_2 (ha5 q (List.mem_of_getElem? hq) hvq) ?_
        intro m5 hm5 hl5
        exact wpAny_Name (wpAny_loadName_local rfl rfl hm5 hl5 ⟨⟨q, hq, rfl⟩, _, _, rfl, fun _ _ e => e⟩) (by decide)
      case x9 =>
        intro h5 tk5 ys5 ep5 hyl hyg hD5 hk5 hin5
        have hys : ys5 = prs.map fun q => Value.int (q.lv : Int) q.t := by
          refine List.ext_getElem? fun j => ?_
          rcases Nat.lt_or_ge j ys5.length with hj | hj
          · obtain ⟨q, hq, e⟩ := hyg j _ (List.getElem?_eq_getElem hj)
            rw [List.getElem?_eq_getElem hj, e, List.getElem?_map, hq]; rfl
          · have hl2 : ys5.length = prs.length := by rw [hyl]; simp [ppRefs]
            rw [List.getElem?_eq_none hj, List.getElem?_eq_none (by simp; omega)]
        refine hin5.elim fun m5 hm5 => ⟨m5, hm5, fun h6 hs6 => ?_⟩
        have kf : ∀ b o, h9.get? b = some o → h6.get? b = some o := fun b o e => by
          have hb : (b : Nat) < h9.objs.size := Heap.lt_size e
          have hbn : b ∉ h9.objs.size :: D :: [C] := by rw [eD', eC']; exact off3 hb
          exact (hs6.2 b (fun q => hbn (by rw [q]; simp))).trans (hk5 b o hbn (kp9 b o (by simp) e))
        have F12 := fr_keep2 F11 kf
        have N12 : News s.heap L' h6 ((P, W.listOf (ppRefs prs).toArray ep) :: (L' + 1, oc2) :: prs.map Pp.led) := fun p hp => ⟨kf _ _ (N11 p hp).1, (N11 p hp).2⟩
        have hDC : D ≠ C := by rw [eD', eC']; exact Nat.ne_of_lt (Nat.lt_succ_self _)
        have hDl : h6.IsList D (prs.map fun q => Value.int (q.lv : Int) q.t).toArray := by
          rw [← hys]
          exact ⟨_, (hs6.2 D hDC).trans hD5, rfl, _, rfl⟩
        have hpn : 0 < prs.length := by
          have := congrArg List.length hprs
          simp at this; omega
        clear F11 N11
        dsimp only
        iterate 1 walk1
        refine max_list_N rfl F12 N12 hDl (pp_ints prs) (by simpa using hpn) fun h7 M t7 tk7 F13 N13 hM hMax => ?_
        obtain ⟨qM, hqM, rfl⟩ := List.mem_map.mp hM
        clear F12 N12
        dsimp only
        have hlv7 : qM.lv ≤ 7 := by
          have hm : (qM.lv, qM.tx) ∈ prs.map (fun q => (q.lv, q.tx)) := List.mem_map_of_mem (f := fun q : Pp => (q.lv, q.tx)) hqM
          rw [hprs] at hm
          obtain ⟨st, hst, e⟩ := List.mem_map.mp hm
          have h3 := hsa st (List.mem_of_mem_take hst)
          have e1 : qM.lv = levOf fl st := by injection e with e _; exact e.symm
          rw [e1]
          unfold levOf
          split <;> split <;> (try split) <;> omega
        obtain ⟨rs1, rs2⟩ := range_small qM.lv hlv7
        iterate 3 walk1
        rename IsRange _ _ _ _ _ _ _ _ => hR
        rename Fr s.heap L' _ _ => F14
        rename News s.heap L' _ _ => N14
        rename_i h8 _ _ _ _ k8
        dsimp only at k8 ⊢
        refine wpAny_pyIter_range hR rs1 ?_
        rw [rs2]
        dsimp only
        refine in5_5 h8.objs.size [h8.objs.size] (qM.lv + 1) _ _ rfl (Walks.range rfl _ 0 1 (qM.lv + 1)) ?sr ?fr ?_
        case sr =>
          have := Heap.get?_push_size h8 (o := { cls := .type "range_iterator", data := .fields #[rawInt 0, rawInt ((qM.lv + 1 : Nat) : Int), rawInt 1] }) rfl
          simpa [IsRangeIter] using this
        case fr =>
          intro b hb
          rw [List.mem_singleton.mp hb]
          show h8.objs.size < (h8.push _).objs.size
          rw [Heap.size_push]; exact Nat.lt_succ_self _
        intro D2 C2 h10 eD2 eC2 k10 st10 hD10 hC10 X10 hXs10 hX10 hXe10
        have eD2' : D2 = h8.objs.size + 1 := by rw [eD2]; exact Heap.size_push ..
        have eC2' : C2 = h8.objs.size + 2 := by rw [eC2, eD2']
        have hcell : h10.IsCell (C2 + 1) none := by
          rw [hXe10]
          show (X10.push { cls := .type "cell", data := .cell none }).IsCell (C2 + 1) none
          rw [← hXs10]
          exact ⟨_, Heap.get?_push_size _ rfl, rfl⟩
        refine lcd_core (own := [C2, C2 + 1]) (Walks.range rfl _ 0 1 (qM.lv + 1)) (fun h => (∃ m, h.Ns C2 m) ∧ ∃ v₀, h.IsCell (C2 + 1) v₀) (fun v h => (∃ m, h.Ns C2 m) ∧ h.IsCell (C2 + 1) (some v)) (fun i y h => ∃ T out ss e, y = .ref T ∧ h.get? T = some (seqObj "list" out.toArray e) ∧ StrsAre out ss ∧ LvlS prs i ss ∧ T ∉ [h8.objs.size, D2, C2, C2 + 1])
          ?y1 ?y2 ?y3 ?y4 ?y5 ?y6 ?y7 ?y8 st10 hD10 ⟨⟨_, hC10⟩, ⟨_, hcell⟩⟩ ?y9
        case y1 =>
          rw [eD2', eC2']; exact offy
        case y2 =>
          rw [eD2', eC2']; exact offz
        case y3 => omega
        case y4 => exact fun i v s5 Q5 E5 _ h5 => wpAny_pure h5
        case y5 =>
          rintro h h' ⟨⟨m5, o5, es5, ep5, g5, r5⟩, ⟨v0, o6, g6, r6⟩⟩ hk5
          exact ⟨⟨m5, o5, es5, ep5, hk5 _ _ (.head _) g5, r5⟩, ⟨v0, o6, hk5 _ _ (.tail _ (.head _)) g6, r6⟩⟩
        case y6 =>
          rintro i y h h' ⟨T, out, ss, e, rfl, hT, h1, h2, h3⟩ hk5
          exact ⟨T, out, ss, e, rfl, hk5 T _ h3 hT, h1, h2, h3⟩
        case y7 =>
          intro i v s5 E5 hP5 hi5 hin5 hk5
          refine hin5.1.elim fun m5 hm5 => hin5.2.elim fun v0 hc5 => ?_
          refine wpAny_assign_Name (wpAny_storeName_cell rfl rfl rfl hc5 fun h6 hc6 hs6 => ?_)
          have hCC : C2 ≠ C2 + 1 := Nat.ne_of_lt (Nat.lt_succ_self _)
          have hn6 : h6.Ns C2 m5 := by
            obtain ⟨o5, es5, ep5, g5, r5⟩ := hm5
            exact ⟨o5, es5, ep5, (hs6.2 C2 hCC).trans g5, r5⟩
          exact ⟨⟨⟨m5, hn6⟩, ⟨_, hc6⟩⟩, ⟨⟨m5, hn6⟩, hc6⟩, h6, s5.toks, rfl, fun b o hb e => (hs6.2 b (fun q => hb (by rw [q]; simp))).trans e⟩
        case y8 =>
          intro i v s5 E5 hP5 hi5 ha5 hk5
          have hc5 := ha5.2
          refine ex1_1 ha5.1 ?_
          intro m5 hm5
          obtain ⟨t5, rfl⟩ := hP5
          have k85 : ∀ b o, h8.get? b = some o → s5.heap.get? b = some o := fun b o e => by
            have hb : (b : Nat) < h8.objs.size := Heap.lt_size e
            refine hk5 b o (fun hx => ?_) (k10 b o (by simp) (Heap.get?_push_of_some _ e))
            rw [eD2', eC2'] at hx
            exact off4 hb hx
          have hC2a : (h8.objs.size : Nat) ≤ C2 := by rw [eC2']; exact Nat.le_add_right _ _
          have hLh8 : (L' : Nat) < h8.objs.size := F14.ns.lt
          have hsL : (s.heap.objs.size : Nat) ≤ L' := F14.above
          have F15 : Fr s.heap C2 s5.heap m5 := ⟨hm5, fun b o e => k85 b o (F14.keep b o e), Nat.le_trans (Nat.le_of_lt (Nat.lt_of_le_of_lt hsL hLh8)) hC2a⟩
          obtain ⟨oT, gT, dT⟩ := hc5
          have hPh8 : ∀ p ∈ (P, W.listOf (ppRefs prs).toArray ep) :: (L' + 1, oc2) :: prs.map Pp.led, @LT.lt Nat _ p.1 h8.objs.size := fun p hp => Heap.lt_size (N14 p hp).1
          have N15 : News s.heap C2 s5.heap ((C2 + 1, oT) :: (P, W.listOf (ppRefs prs).toArray ep) :: (L' + 1, oc2) :: prs.map Pp.led) := by
            refine newsC ⟨gT, Nat.ne_of_gt (Nat.lt_succ_self _), ?_⟩ fun p hp => ⟨k85 _ _ (N14 p hp).1, Nat.ne_of_lt (Nat.lt_of_lt_of_le (hPh8 p hp) hC2a), (N14 p hp).2.2⟩
            cases q : s.heap.get? (C2 + 1) with
            | none => rfl
            | some o =>
              have h1 : (C2 + 1 : Nat) < s.heap.objs.size := Heap.lt_size q
              have : (s.heap.objs.size : Nat) ≤ h8.objs.size := Nat.le_of_lt (Nat.lt_of_le_of_lt hsL hLh8)
              exact absurd h1 (Nat.not_lt.mpr (Nat.le_succ_of_le (Nat.le_trans this hC2a)))
          clear hk5 hm5
          refine Call_ (nm_builtin rfl rfl rfl rfl (X.keeps F15.keep) (T.keeps F15.keep) (by k_is) rfl (by decide) (callWith_builtin1 (args_cons ?_)))
          have hP5 : s5.heap.IsCell (L' + 1) (some (.ref P)) := ⟨oc2, (N15 _ (.tail _ (.tail _ (.head _)))).1, hoc2⟩
          have hT5 : s5.heap.IsCell (C2 + 1) (some (.int (0 + (i : Int) * 1) t5)) := ⟨oT, gT, dT⟩
          have hPl5 : s5.heap.IsList P (ppRefs prs).toArray := ⟨_, (N15 _ (.tail _ (.head _))).1, rfl, _, rfl⟩
          have htu5 : ∀ q ∈ prs, IsTup s5.heap q.a #[.int (q.lv : Int) q.t, .str (S q.tx) q.u] := fun q hq => ⟨_, (N15 q.led (.tail _ (.tail _ (.tail _ (List.mem_map_of_mem hq))))).1, rfl, _, rfl⟩
          have hp60 : prs.length ≤ 60 := by
            have := congrArg List.length hprs
            simp at this; omega
          refine set_lvl (hs := fun _ => rfl) (cl := [("turn", C2 + 1)]) (cp := L' + 1) (ct := C2 + 1) (P := P) (prs := prs) (i := i) (ti := t5) rfl rfl rfl rfl hP5 rfl rfl (by decide) (fun _ => rfl) (fun _ => rfl) (fun _ => rfl) (fun _ => rfl) (fun _ => rfl) hT5 hPl5 htu5 hp60
            fun D5 h6 tk6 ks hkl hkn hks hL hk6 => ?_
          refine args_nil ?_
          refine sorted_set hL hkn (fun k => (hks k).trans inSet_pp.symm) (by omega) rfl fun T7 h7b tk7 dr7 out ss' e hss hpm hso hn7 hl7 hx7 he7 => ⟨⟨T7, out, ss', e, rfl, he7, hss, ⟨hpm.nodup_iff.mpr hkn, hso, fun k => hpm.mem_iff.trans (hks k)⟩, ?_⟩, h7b, tk7, dr7, rfl, fun b o e => hx7 b o (by simp) (hk6 b o e)⟩
          have hlt : (C2 + 1 : Nat) < T7 := Nat.lt_of_lt_of_le (Heap.lt_size (hk6 _ _ gT)) hl7
          rw [eC2'] at hlt
          rw [eD2', eC2']; exact offT hlt
        case y9 =>
          intro h11 tk11 dr11 ys11 ep11 hyl11 hyg11 hD11 hk11 hin11
          refine hin11.1.elim fun m11 hm11 => ⟨m11, hm11, fun h12 hs12 => ?_⟩
          have old12 : ∀ (b : Addr) (o : Obj), h8.get? b = some o → h12.get? b = some o := fun b o e => by
            have hb : (b : Nat) < h8.objs.size := Heap.lt_size e
            have hb12 : b ≠ C2 ∧ b ∉ [h8.objs.size, D2, C2, C2 + 1] := by
              rw [eD2', eC2']; exact ⟨fun q => off4 hb (by rw [q]; exact .tail _ (.tail _ (.head _))), off4 hb⟩
            exact (hs12.2 b hb12.1).trans (hk11 b o hb12.2 (k10 b o (by simp) (Heap.get?_push_of_some _ e)))
          have F16 := fr_keep2 F14 old12
          have hDC2 : D2 ≠ C2 := by rw [eD2', eC2']; exact Nat.ne_of_lt (Nat.lt_succ_self _)
          obtain ⟨sss, hsl, hss⟩ := choose_list (β := List Str) (P := fun i y ss => ∃ T out e, y = Value.ref T ∧ h11.get? T = some (seqObj "list" out.toArray e) ∧ StrsAre out ss ∧ LvlS prs i ss ∧ T ∉ [h8.objs.size, D2, C2, C2 + 1]) ys11 0
            (fun j y e => by
              obtain ⟨T, out, ss, e1, r⟩ := hyg11 j y e
              rw [Nat.zero_add]
              exact ⟨ss, T, out, e1, r⟩)
          refine hK0 _ _ <| Done.intro F16 fun hx => k D2 _ _ _ sss ?z1 hx ?z2 ?z3
          case z1 =>
            cases q : s.heap.get? D2 with
            | none => rfl
            | some o =>
              have h1 : (D2 : Nat) < h8.objs.size := Heap.lt_size (F14.keep _ _ q)
              rw [eD2'] at h1
              exact absurd h1 (Nat.not_lt.mpr (Nat.le_succ _))
          case z2 =>
            refine ⟨ys11, ep11, (hs12.2 D2 hDC2).trans hD11, hsl.symm, fun j y ss e1 e2 => ?_⟩
            obtain ⟨T, out, e, r1, r2, r3, _, r5⟩ := hss j y ss e1 e2
            exact ⟨T, out, e, r1, (hs12.2 T (fun q => r5 (by rw [q]; simp))).trans r2, r3⟩
          case z3 =>
            subst hfl
            refine rounds_ok ?w1 hqM ?w2 (by rw [hsl, hyl11]) ?w3
            case w1 =>
              rw [hprs, hwn, List.take_length]
            case w2 => exact fun q hq => Int.ofNat_le.mp (hMax _ (List.mem_map_of_mem (f := fun q : Pp => (q.lv : Int)) hq))
            case w3 =>
              intro i ss hi
              have hil : i < ys11.length := by rw [← hsl]; exact (List.getElem?_eq_some_iff.mp hi).1
              obtain ⟨T, out, e, r1, r2, r3, r4, r5⟩ := hss i _ ss (List.getElem?_eq_getElem hil) hi
              rw [Nat.zero_add] at r4
              exact r4
end Mine
end

section
open PySem PySem.W PyProof.Rows PySem.Calls PySem.Spec
namespace Mine
theorem lt_trans : ∀ {a b c : List Nat}, ltCps b a = false → ltCps c b = false → ltCps c a = false
  | [], b, c, h1, h2 => by
    cases b with
    | cons => cases c with
      | nil => simp [ltCps]
      | cons => simp [ltCps]
    | nil => cases c with
      | nil => simp [ltCps]
      | cons => simp [ltCps]
  | x :: a, [], c, h1, h2 => by simp [ltCps] at h1
  | x :: a, y :: b, [], h1, h2 => by simp [ltCps] at h2
  | x :: a, y :: b, z :: c, h1, h2 => by
    simp only [ltCps, Bool.or_eq_false_iff, decide_eq_false_iff_not, Bool.and_eq_false_iff, beq_eq_false_iff_ne] at h1 h2 ⊢
    refine ⟨by omega, ?_⟩
    by_cases e : z = x
    · right
      have e1 : z = y := by omega
      have e2 : y = x := by omega
      have g1 : ltCps b a = false := by rcases h1.2 with h | h; exact absurd e2 h; exact h
      have g2 : ltCps c b = false := by rcases h2.2 with h | h; exact absurd e1 h; exact h
      exact lt_trans g1 g2
    · exact .inl e
theorem lt_antisymm : ∀ {a b : List Nat}, ltCps a b = false → ltCps b a = false → a = b
  | [], [], _, _ => rfl
  | [], _ :: _, h, _ => by simp [ltCps] at h
  | _ :: _, [], _, h => by simp [ltCps] at h
  | x :: a, y :: b, h1, h2 => by
    simp only [ltCps, Bool.or_eq_false_iff, decide_eq_false_iff_not, Bool.and_eq_false_iff, beq_eq_false_iff_ne] at h1 h2
    have e : x = y := by omega
    subst e
    have g1 : ltCps a b = false := by rcases h1.2 with h | h; exact absurd rfl h; exact h
    have g2 : ltCps b a = false := by rcases h2.2 with h | h; exact absurd rfl h; exact h
    rw [lt_antisymm g1 g2]
noncomputable abbrev Le (a b : Str) : Prop := ltCps b.cps.toList a.cps.toList = false
theorem rising_pair : ∀ (l : List Str) (p : Str), risingS p l = true → (p :: l).Pairwise Le
  | [], p, _ => by simp
  | x :: l, p, h => by
    unfold risingS at h
    simp only [Bool.and_eq_true, Bool.not_eq_true'] at h
    have ih := rising_pair l x h.2
    rw [List.pairwise_cons]
    refine ⟨fun y hy => ?_, ih⟩
    rcases List.mem_cons.mp hy with rfl | hy
    · exact h.1
    · rw [List.pairwise_cons] at ih
      exact lt_trans h.1 (ih.1 y hy)
theorem sorted_pair {l : List Str} (h : sortedS l = true) : l.Pairwise Le := by
  cases l with
  | nil => exact .nil
  | cons x l => exact rising_pair l x h
theorem le_antisymm {a b : Str} (h1 : Le a b) (h2 : Le b a) : a = b := by
  obtain ⟨a⟩ := a
  obtain ⟨b⟩ := b
  have : a.toList = b.toList := lt_antisymm h2 h1
  rw [Array.toList_inj.mp this]
theorem sorted_unique {l l' : List Str} (h : sortedS l = true) (h' : sortedS l' = true) (hp : l.Perm l') : l = l' :=
  List.Perm.eq_of_pairwise (fun a b _ _ => le_antisymm) (sorted_pair h) (sorted_pair h') hp
end Mine
end

section
open PySem PySem.W PyProof.Rows PySem.Calls
set_option maxHeartbeats 4000000
namespace Mine
theorem states_len2 {M : Nat} (h : M ≤ 2) : (statesOf M).length ≤ 12 ∧ 0 < (statesOf M).length := by
  rcases (show M = 0 ∨ M = 1 ∨ M = 2 by omega) with rfl | rfl | rfl <;> decide
theorem contig {sk : List (Str × List Str)} {lv : Str → Nat} (web : Web sk lv) : ∀ (l : Nat) (k : Str), k ∈ sk.map (·.1) → lv k = l → ∀ j, j ≤ l → ∃ k' ∈ sk.map (·.1), lv k' = j
  | 0, k, hk, e, j, hj => ⟨k, hk, by omega⟩
  | l + 1, k, hk, e, j, hj => by
    rcases Nat.lt_or_ge j (l + 1) with h | h
    · obtain ⟨x, hx, _, h2⟩ := web.pred k hk (by omega)
      exact contig web l x.1 (List.mem_map_of_mem hx) (by omega) j (by omega)
    · exact ⟨k, hk, by omega⟩
theorem rounds_same {rows : List Row} {sts : List Stt} {sk : List (Str × List Str)} {lv : Str → Nat} {rds : List Rd} {sss : List (List Str)} (hk : ∀ k, k ∈ sk.map (·.1) ↔ ∃ s ∈ sts, k = Mine.T rows s) (hl : ∀ s ∈ sts, lv (Mine.T rows s) = levOf (flags rows) s) (web : Web sk lv)
    (hr : ∀ (j : Nat) (r : Rd), rds[j]? = some r → RdOk sk lv j r) (hend : ∀ k ∈ sk.map (·.1), lv k ≠ rds.length) (hR : RoundsOk rows sts sss) : rds.map (·.ss) = sss := by
  obtain ⟨M, hlen, ⟨sM, hsM, hM⟩, hmax, hlev⟩ := hR
  have key : ∀ s ∈ sts, Mine.T rows s ∈ sk.map (·.1) := fun s hs => (hk _).mpr ⟨s, hs, rfl⟩
  have e1 : rds.length = M + 1 := by
    rcases Nat.lt_or_ge M rds.length with h | h
    · rcases Nat.lt_or_ge (M + 1) rds.length with h2 | h2
      · obtain ⟨_, _, _, hm, hne⟩ := hr (M + 1) _ (List.getElem?_eq_getElem h2)
        obtain ⟨k, hkm⟩ := List.exists_mem_of_ne_nil _ hne
        obtain ⟨h3, h4⟩ := (hm k).mp hkm
        obtain ⟨s, hs, rfl⟩ := (hk k).mp h3
        have := hmax s hs
        rw [hl s hs] at h4
        omega
      · omega
    · obtain ⟨k, h1, h2⟩ := contig web M _ (key sM hsM) (by rw [hl sM hsM, hM]) rds.length h
      exact absurd h2 (hend k h1)
  refine List.ext_getElem (by simp [e1, hlen]) fun i h1 h2 => ?_
  have hi : i < rds.length := by simpa using h1
  obtain ⟨_, hnd, hso, hm, _⟩ := hr i _ (List.getElem?_eq_getElem hi)
  obtain ⟨hnd2, hso2, hm2⟩ := hlev i _ (List.getElem?_eq_getElem h2)
  rw [List.getElem_map]
  refine sorted_unique hso hso2 ((List.perm_ext_iff_of_nodup hnd hnd2).mpr fun k => ?_)
  rw [hm k, hm2 k]
  constructor
  · rintro ⟨h3, h4⟩
    obtain ⟨s, hs, rfl⟩ := (hk k).mp h3
    exact ⟨s, hs, by rw [← hl s hs]; exact h4, rfl⟩
  · rintro ⟨s, hs, h3, rfl⟩
    exact ⟨key s hs, by rw [← h3]; exact hl s hs⟩
noncomputable def rdData (sss : List (List Str)) : PyData := .list (sss.map fun ss => .list (ss.map .str))
theorem reads_strs {h : Heap} {out : List Value} {ss : List Str} (x : StrsAre out ss) : ReadsAll h out (ss.map .str) [] := by
  induction x with
  | nil => exact .nil
  | cons y t _ ih => exact .cons (.str y t) ih
theorem rds_reads {h : Heap} {RD : Addr} {epR : Nat} : ∀ {rds : List Rd}, h.get? RD = some (PySem.W.listOf (rdRefs rds).toArray epR) → (∀ r ∈ rds, h.get? r.T = some (seqObj "list" r.out.toArray r.e) ∧ StrsAre r.out r.ss) → ∃ as, Reads h (.ref RD) (rdData (rds.map (·.ss))) as := by
  intro rds hRD hr
  have key : ∀ rds : List Rd, (∀ r ∈ rds, h.get? r.T = some (seqObj "list" r.out.toArray r.e) ∧ StrsAre r.out r.ss) → ∃ as, ReadsAll h (rdRefs rds) ((rds.map (·.ss)).map fun ss => .list (ss.map .str)) as := by
    intro rds
    induction rds with
    | nil => exact fun _ => ⟨_, .nil⟩
    | cons r rds ih =>
      intro hr
      obtain ⟨as, h1⟩ := ih fun r' h' => hr r' (.tail _ h')
      obtain ⟨h2, h3⟩ := hr r (.head _)
      exact ⟨_, .cons (.list h2 rfl rfl (reads_strs h3)) h1⟩
  obtain ⟨as, h1⟩ := key rds hr
  exact ⟨_, .list hRD rfl rfl h1⟩
theorem lvs_reads {h : Heap} {D : Addr} {sss : List (List Str)} (x : LevelsAt h D sss) : ∃ as, Reads h (.ref D) (rdData sss) as := by
  obtain ⟨ys, ep, hD, hl, hy⟩ := x
  have key : ∀ (ys : List Value) (sss : List (List Str)), ys.length = sss.length → (∀ (j : Nat) (y : Value) (ss : List Str), ys[j]? = some y → sss[j]? = some ss → ∃ (T : Addr) (out : List Value) (e : Nat), y = Value.ref T ∧ h.get? T = some (seqObj "list" out.toArray e) ∧ StrsAre out ss) →
      ∃ as, ReadsAll h ys (sss.map fun ss => .list (ss.map .str)) as := by
    intro ys
    induction ys with
    | nil =>
      intro sss hl _
      rw [List.length_eq_zero_iff.mp hl.symm]
      exact ⟨_, .nil⟩
    | cons y ys ih =>
      intro sss hl hy
      cases sss with
      | nil => cases hl
      | cons ss sss =>
        obtain ⟨as, h1⟩ := ih sss (by simpa using hl) fun j z zz e1 e2 => hy (j + 1) z zz e1 e2
        obtain ⟨T, out, e, rfl, h2, h3⟩ := hy 0 y ss rfl rfl
        exact ⟨_, .cons (.list h2 rfl rfl (reads_strs h3)) h1⟩
  obtain ⟨as, h1⟩ := key ys sss hl hy
  exact ⟨_, .list hD rfl rfl h1⟩
theorem rdData_lay {sss : List (List Str)} (h : ∀ ss ∈ sss, ∀ k ∈ ss, PyData.strOk k = true) : (rdData sss).canLay0 = true := by
  have h1 : ∀ ss : List Str, (∀ k ∈ ss, PyData.strOk k = true) → PyData.canLayAll0 (ss.map .str) = true := by
    intro ss
    induction ss with
    | nil => exact fun _ => rfl
    | cons k ss ih => intro hk; simp [PyData.canLayAll0, PyData.canLay0, hk k (.head _), ih fun k' h' => hk k' (.tail _ h')]
  have h2 : ∀ sss : List (List Str), (∀ ss ∈ sss, ∀ k ∈ ss, PyData.strOk k = true) → PyData.canLayAll0 (sss.map fun ss => .list (ss.map .str)) = true := by
    intro sss
    induction sss with
    | nil => exact fun _ => rfl
    | cons ss sss ih => intro hk; simp [PyData.canLayAll0, PyData.canLay0, h1 ss (hk ss (.head _)), ih fun s' h' => hk s' (.tail _ h')]
  exact h2 sss h
theorem rdData_depth (sss : List (List Str)) : (rdData sss).depth ≤ 4 := by
  have h1 : ∀ ss : List Str, PyData.depthAll (ss.map .str) ≤ 1 := by
    intro ss
    induction ss with
    | nil => simp [PyData.depthAll]
    | cons k ss ih => simp [PyData.depthAll, PyData.depth]; omega
  have h2 : ∀ sss : List (List Str), PyData.depthAll (sss.map fun ss => .list (ss.map .str)) ≤ 2 := by
    intro sss
    induction sss with
    | nil => simp [PyData.depthAll]
    | cons ss sss ih => have := h1 ss; simp only [List.map_cons, PyData.depthAll, PyData.depth]; omega
  have := h2 sss
  simp only [rdData, PyData.depth]
  omega
theorem seg6 {prog : Program} {w : World} {A : Around} {s : Shared} {h₀ : Heap} {L fa : Addr} {cd : Value} {m : Str → Option Value} {lr ls RD : Addr} {epR : Nat} {rds : List Rd} {Z : List (Addr × Obj)} {sk : List (Str × List Str)} {lv : Str → Nat} {rows : List Row} {M : Nat} {tps : List Sp} {Q : Flow → Shared → Prop} {E : Value → Shared → Prop}
   {n : Nat} (C : Cx n w A h₀ L) (hn : n ≤ 5) (F : Fr h₀ L s.heap m) (hV : Vars m [("rows", .ref lr), ("states", .ref ls), ("rounds", .ref RD)]) (N : News h₀ L s.heap ((RD, PySem.W.listOf (rdRefs rds).toArray epR) :: (rds.map Rd.led ++ Z)))
   (hR : ∀ h'' m'', Fr h₀ L h'' m'' → News h₀ L h'' Z → RowsAt h'' lr rows ∧ StsL h'' ls tps) (htp : tps.map (·.st) = statesOf M) (hM : M ≤ 2) (hsm : Small rows) (h256 : ∀ r ∈ rows, (∀ c ∈ r.1, c < 256) ∧ ∀ c ∈ r.2, c < 256)
   (hk : ∀ k, k ∈ sk.map (·.1) ↔ ∃ s ∈ statesOf M, k = Mine.T rows s) (hl : ∀ s ∈ statesOf M, lv (Mine.T rows s) = levOf (flags rows) s) (web : Web sk lv)
   (hr : ∀ (j : Nat) (r : Rd), rds[j]? = some r → RdOk sk lv j r) (hend : ∀ k ∈ sk.map (·.1), lv k ≠ rds.length)
   (k : ∀ h' tk dr m', Fr h₀ L h' m' → Q (.ret (.bool true)) { s with heap := h', toks := tk, drawn := dr }) :
   wpAny (model prog w) A (execs (lawRec.body.drop 9) (lawEnv L fa cd)) Q E s := by
  obtain ⟨hd0, dp0, fr0, gd0, un0⟩ := A
  have hh0 : hd0 = none := C.handled
  subst hh0
  unfold lawEnv lawRec
  dsimp only [getD, List.drop]
  refine C.top_el fun pp loose mg mb T => ?_
  have X := C.X
  have F1 := frs F hV
  clear F
  have NZ : News h₀ L s.heap Z := fun p hp => N p (.tail _ (List.mem_append_right _ hp))
  obtain ⟨hrow, hsts⟩ := hR _ _ F1 NZ
  have hst := hsts.at.states
  rw [htp] at hst
  obtain ⟨hl12, hl0⟩ := states_len2 hM
  have hsa : ∀ r ∈ statesOf M, r.1 ≤ 3 ∧ r.2.2 ≤ 3 := fun r hr => by
    obtain ⟨x1, x2, x3⟩ := r
    obtain ⟨h1, h2⟩ := mem_states.mp hr
    refine ⟨by show x1 ≤ 3; omega, ?_⟩
    show x3 ≤ 3
    rcases h2 with ⟨_, h2⟩ | ⟨_, h2⟩ <;> omega
  repeat' walk1
  refine wpAny_call (rounds_call C (le_lit hn rfl) F1 hrow hsm hst hl12 hl0 hsa fun D h1 tk1 dr sss hD hx1 hL hRo => ?_)
  have hsame := rounds_same hk hl web hr hend hRo
  have F2 := fr_ext F1 Own.nil hx1
  have N2 : News h₀ L h1 ((RD, PySem.W.listOf (rdRefs rds).toArray epR) :: (rds.map Rd.led ++ Z)) := fun p hp => ⟨hx1 _ _ (by simp) (N p hp).1, (N p hp).2⟩
  obtain ⟨as, r1⟩ := rds_reads (rds := rds) (N2 _ (.head _)).1 fun r hr' => by
    obtain ⟨j, hj, e⟩ := List.mem_iff_getElem.mp hr'
    subst e
    exact ⟨(N2 _ (.tail _ (List.mem_append_left _ (List.mem_map_of_mem hr')))).1, (hr j _ (List.getElem?_eq_getElem hj)).1⟩
  obtain ⟨bs, r2⟩ := lvs_reads hL
  rw [← hsame] at r2
  have hlay : (rdData (rds.map (·.ss))).canLay0 = true := rdData_lay fun ss hss k' hk' => by
    obtain ⟨r, hr', rfl⟩ := List.mem_map.mp hss
    obtain ⟨j, hj, rfl⟩ := List.mem_iff_getElem.mp hr'
    obtain ⟨_, _, _, hm, _⟩ := hr j _ (List.getElem?_eq_getElem hj)
    obtain ⟨h3, _⟩ := (hm k').mp hk'
    obtain ⟨s', _, rfl⟩ := (hk k').mp h3
    have := told_signs (a := s'.1) (md := s'.2.1) (b := s'.2.2) h256
    simp only [PyData.strOk, Mine.T, S, List.all_toArray, List.all_eq_true, decide_eq_true_eq]
    exact fun c hc => Nat.lt_trans (this c hc) (by decide)
  dsimp only
  refine SeqAt.compareEq_reads r1 r2 hlay hlay ?un ?_
  case un =>
    have h1 := C.units
    have h2 := cLine_is
    have h3 : min (rdData (rds.map (·.ss))).depth (rdData (rds.map (·.ss))).depth ≤ 4 := Nat.le_trans (Nat.min_le_left _ _) (rdData_depth _)
    dsimp only at h1 ⊢
    omega
  rw [SeqAt.eqv_refl _ hlay]
  exact k _ _ _ _ F2
end Mine
end

section
open PySem PySem.W PyProof.Rows PySem.Calls
set_option maxHeartbeats 4000000
namespace Mine
theorem states_len {M : Nat} (h : M ≤ 2) : (statesOf M).length ≤ 12 ∧ 0 < (statesOf M).length := by
  rcases (show M = 0 ∨ M = 1 ∨ M = 2 by omega) with rfl | rfl | rfl <;> decide
theorem states_le {M : Nat} (hM : M ≤ 2) {st : Stt} (h : st ∈ statesOf M) : st.1 ≤ 2 ∧ st.2.2 ≤ 2 := by
  obtain ⟨x1, x2, x3⟩ := st
  obtain ⟨h1, h2⟩ := mem_states.mp h
  refine ⟨Nat.le_trans h1 hM, ?_⟩
  rcases h2 with ⟨_, h2⟩ | ⟨_, h2⟩
  · show x3 ≤ 2; omega
  · exact Nat.le_trans h2 hM
theorem seg3 {n : Nat} {prog : Program} {w : World} {A : Around} {s : Shared} {h₀ : Heap} {L fa lr ls : Addr} {cd : Value} {m : Str → Option Value} {rows : List Row} {M : Nat} {tps : List Sp} {Z : List (Addr × Obj)} {Q : Flow → Shared → Prop} {E : Value → Shared → Prop}
   (C : Cx n w A h₀ L) (hn : n ≤ 5) (F : Fr h₀ L s.heap m) (hV : Vars m [("rows", .ref lr), ("states", .ref ls)]) (NZ : News h₀ L s.heap Z)
   (hR : ∀ h'' m'', Fr h₀ L h'' m'' → News h₀ L h'' Z → RowsAt h'' lr rows ∧ StsL h'' ls tps) (htp : tps.map (·.st) = statesOf M) (hM : M ≤ 2) (hsm : Small rows) (hg : Good false rows) (h256 : ∀ r ∈ rows, (∀ c ∈ r.1, c < 256) ∧ ∀ c ∈ r.2, c < 256)
   (k : ∀ h' tk q od es m', Fr h₀ L h' m' → Vars m' [("rows", .ref lr), ("states", .ref ls), ("web", .ref q.x)] → WebL prog w h₀ L h' q od es Z → q.rv = .none → q.po = 0 → q.fi = 0 → viewOf es = webG rows (statesOf M) →
     wpAny (model prog w) A (execs (lawRec.body.drop 6) (lawEnv L fa cd)) Q E { s with heap := h', toks := tk }) :
   wpAny (model prog w) A (execs (lawRec.body.drop 4) (lawEnv L fa cd)) Q E s := by
  obtain ⟨hd0, dp0, fr0, gd0, un0⟩ := A
  have hh0 : hd0 = none := C.handled
  subst hh0
  unfold lawEnv lawRec
  dsimp only [getD, List.drop]
  refine C.top_el fun pp loose mg mb T => ?_
  have X := C.X
  have F1 := frs F hV
  clear F
  repeat' walk1
  refine wpAny_call (new_sorter C (le_lit hn rfl) F1 fun q h1 tk1 hrv hpo hfi hnew hx1 hS => ?_)
  have F2 := fr_ext F1 Own.nil hx1
  have hown : Own h₀ L (addrs q []) := fun a ha => own_new F1 (hnew a ha)
  refine ex1_2 hS.od ?_
  intro od hod hhas
  have W2 : WebL prog w h₀ L h1 q od [] Z := by
    refine ⟨newsA (news_of hhas (by rw [sled_addrs]; exact hown)) fun p hp => ⟨hx1 _ _ (fun h => nomatch h) (NZ p hp).1, (NZ p hp).2⟩, hod, hS.sys, hS.nodup, fun p hp ha => ?_⟩
    have := hnew _ ha
    rw [(NZ p hp).1] at this
    cases this
  clear F1 hown hnew hS hhas hx1
  have N2 := W2.N
  dsimp only
  repeat' walk1
  refine wpAny_For ?_
  walk1
  rename Fr h₀ L _ _ => F3
  rename News h₀ L _ _ => N3
  have hl12 := (states_len hM).1
  have hgl : ∀ i, i ≤ (statesOf M).length → OkG rows (statesOf M) (((statesOf M).take i).foldl (stG rows (statesOf M)) []) (12 * i) := fun i hi => by
    obtain ⟨w1, w2, w3, w4, w5, w6⟩ := web_fold (rows := rows) (sts := statesOf M) ((statesOf M).take i) [] (fun s hs => List.mem_of_mem_take hs) grown_nil
    refine ⟨w1, fun y hy => ?_, ?_⟩
    · rcases w2 y hy with h | h
      · exact absurd h (by simp [isKey])
      · exact h
    · rw [List.length_take_of_le hi] at w6
      have : tot ([] : Gr) = 0 := rfl
      omega
  refine iter_list (L := L) (vs := spRefs tps) (fun i m₁ news₁ => ∃ od1 es1, news₁ = sled w q od1 es1 ++ Z ∧ od1.IsDictOf (PySem.strKind prog w) (kvsOf es1) ∧ (addrs q es1).Nodup ∧ (∀ p ∈ Z, p.1 ∉ addrs q es1) ∧
      viewOf es1 = ((statesOf M).take i).foldl (stG rows (statesOf M)) [] ∧ Vars m₁ [("rows", .ref lr), ("states", .ref ls), ("web", .ref q.x)]) rfl rfl F3 N3 ?hl ?hj ?turn ?done
  case hl =>
    rintro h i m₁ news₁ ⟨od1, es1, rfl, _⟩ F₁ N₁
    exact (hR h m₁ F₁ fun p hp => N₁ p (List.mem_append_right _ hp)).2.1
  case hj => exact ⟨od, [], rfl, hod, W2.nodup, W2.dis, rfl, ⟨rfl, rfl, rfl, trivial⟩⟩
  case done =>
    intro m₁ news₁ h6 tk6 hJ F6 N6
    refine ex2_6 hJ ?_; clear hJ
    intro od1 es1 hn6 hod1 hnd1 hdis1 hv1 hV1
    replace N6 := newsE hn6 N6
    clear hn6 news₁
    have hvl : (spRefs tps).length = (statesOf M).length := by rw [← htp]; simp [spRefs]
    rw [hvl, List.take_length] at hv1
    dsimp only
    exact k _ _ q od1 es1 _ F6 hV1 ⟨N6, hod1, W2.sys, hnd1, hdis1⟩ hrv hpo hfi hv1
  case turn =>
    intro i v m₁ news₁ h6 tk6 it o hit hv hJ hap F6 N6
    refine hideT fun K1 hK1 => ?_
    refine ex2_6 hJ ?_; clear hJ
    intro od1 es1 hn6 hod1 hnd1 hdis1 hv1 hV1
    replace N6 := newsE1 hn6 N6
    replace hap := apE hn6 hap
    clear hn6 news₁
    have hil : i < tps.length := by
      have := (List.getElem?_eq_some_iff.mp hv).1
      simpa [spRefs] using this
    have hve : v = .ref tps[i].a := by
      have : (spRefs tps)[i]? = some (.ref tps[i].a) := by simp [spRefs, hil]
      rw [this] at hv; exact (Option.some.inj hv).symm
    refine asgE hve ?_
    clear hve hv
    have hsl : tps.length = (statesOf M).length := by rw [← htp]; simp
    have hpst : (statesOf M)[i]? = some tps[i].st := by
      rw [← htp, List.getElem?_map, List.getElem?_eq_getElem hil]; rfl
    have hps : tps[i].st ∈ statesOf M := List.mem_of_getElem? hpst
    have hfold : ((statesOf M).take (i + 1)).foldl (stG rows (statesOf M)) [] = stG rows (statesOf M) (viewOf es1) tps[i].st := by
      rw [List.take_add_one, hpst, List.foldl_append, hv1]; rfl
    have hok1 := hgl i (by omega)
    rw [← hv1] at hok1
    have hq6 := (hR h6 m₁ F6 fun p hp => N6 p (.tail _ (List.mem_append_right _ hp))).2.2 tps[i] (List.getElem_mem _)
    generalize tps[i] = p at hps hfold hq6
    have htup : IsTup h6 p.a #[.int (p.st.1 : Int) p.t, .bool p.st.2.1, .int (p.st.2.2 : Int) p.u] := ⟨_, hq6, rfl, _, rfl⟩
    have hp2 : p.st.1 ≤ 2 ∧ p.st.2.2 ≤ 2 := states_le hM hps
    have F7 := frs F6 hV1
    clear F6
    refine unpackN_ F7 N6 htup C.handled rfl rfl ?_
    intro h10 F11 N11
    clear F7 N6
    iterate 10 walk1
    rename Fr h₀ L _ _ => F11
    rename News h₀ L _ _ => N11
    have W11 := webl_swap (q := q) N11 hod1 W2.sys hnd1 hdis1 hap
    refine' web_turn (q := q) (st := p.st) (ta := p.t) (tb := p.u) (od := od1) (es := es1) (sts := statesOf M) (Z := (it, o) :: Z) (c := 12 * i) C hn ?sF ?sv ?sW hrv (fun h'' m'' F'' N'' => ?sR) hsm hg h256 hps (fine_states hps) hl12 hp2 hok1 (by omega) fun h13 tk13 od3 es3 m3 F13' hV3 W13 hv3 => ?_
    case sF => exact F11
    case sW => exact W11
    case sv => exact ⟨rfl, rfl, rfl, rfl, rfl, rfl, trivial⟩
    case sR =>
      obtain ⟨r1, r2⟩ := hR h'' m'' F'' fun y hy => N'' y (.tail _ hy)
      exact ⟨r1, htp ▸ r2.at⟩
    have N13' : News h₀ L h13 ((it, o) :: (sled w q od3 es3 ++ Z)) := newsC (newsH W13.behind) (newsA (newsL W13.N) (newsT W13.behind))
    refine hK1 _ _ <| Turn.next F13' N13' ?_ ⟨od3, es3, rfl, W13.hod, W13.nodup, fun y hy => W13.dis y (.tail _ hy), by rw [hfold]; exact hv3, hV3⟩
    exact memA (P := fun y => y.1 ≠ it) (apS fun a ha e => W13.dis (it, o) (.head _) (e ▸ ha)) fun y hy => hap y (List.mem_append_right _ hy)
end Mine
end

section
open PySem PySem.W PyProof.Rows
set_option maxHeartbeats 8000000
namespace Mine
theorem skel_len (G : Gr) : (skel G).length = G.length := by simp [skel]
theorem law_joined {n : Nat} {prog : Program} {w : World} {A : Around} {s : Shared} {h₀ : Heap} {L fa lx D : Addr} {cd : Value} {m : Str → Option Value} {o1 o2 : Obj} {vals : List Value} {ns : List Int} {nn : List (Nat × Tok)} {Q : Flow → Shared → Prop} {E : Value → Shared → Prop}
   (C : Cx n w A h₀ L) (hn : n ≤ 5) (hfrA : A.frames = some [lawEnv L fa cd]) (F : Fr h₀ L s.heap m) (hm : m "numbers" = some (.ref D)) (N : News h₀ L s.heap [(L + 1 + 1, o2), (L + 1, o1)]) (ho1 : o1.data = .cell (some (.ref lx))) (ho2 : ∃ v, o2.data = .cell v) (hl : h₀.IsList lx vals.toArray) (hi : IntsAre vals ns) (h63 : ns.length ≤ 63)
   (hD : s.heap.IsList D (intValues nn).toArray) (hnl : nn.length ≤ 6) (hsm : ∀ r ∈ nn, r.1 < 1000000)
   (k : ∀ h' tk dr m', Fr h₀ L h' m' → Q (.ret (.bool true)) { s with heap := h', toks := tk, drawn := dr }) :
   wpAny (model prog w) A (execs (lawRec.body.drop 1) (lawEnv L fa cd)) Q E s := by
  have hM : 1 + ns.length % 2 ≤ 2 := by omega
  have hSm := rows_small (ns := nn.map (·.1)) (by simpa using hnl)
  have hg := good_rows (nn.map (·.1))
  have h256 := rows_256 (nn.map (·.1))
  refine seg2 C hn F hm N ho1 ho2 hl hi h63 hD hnl hsm fun h2 tk2 lr ls Z tps m2 F2 V2 NZ htp hR => ?_
  generalize rowsOf (nn.map (·.1)) = rows at hSm hg h256 hR
  generalize 1 + ns.length % 2 = M at hM htp
  obtain ⟨g1, web, g3, g4⟩ := web_is hg M
  have hl12 := (states_len hM).1
  have hkeys : ∀ k, k ∈ (skel (webG rows (statesOf M))).map (·.1) ↔ ∃ s ∈ statesOf M, k = Mine.T rows s := fun k => by
    rw [skel_keys]; exact g3 k
  have hlv : ∀ s ∈ statesOf M, lvT rows (statesOf M) (Mine.T rows s) = levOf (flags rows) s := fun s hs => lvT_at hg hs
  refine seg3 C hn F2 V2 NZ hR htp hM hSm hg h256 fun h3 tk3 q od es m3 F3 V3 W3 hrv hpo hfi hvw => ?_
  refine seg4 C hn hfrA F3 V3 W3 hrv web (by rw [hvw]) (by rw [hvw]; omega) fun h4 tk4 rl od4 ep4 m4 F4 V4 R4 => ?_
  refine seg5 (q := { q with rv := .ref rl }) (sk := skel (webG rows (statesOf M))) (lv := lvT rows (statesOf M)) C hn F4 V4 R4 (hpo.trans hfi.symm) web ?hat ?h12 ?hbd ?h8 fun h5 tk5 RD epR rds m5 F5 V5 N5 hr hend hle => ?_
  case hat =>
    have := kahn_start web (G := viewOf es) (by rw [hvw]) fun k hk => by
      rw [hvw] at hk ⊢
      have := g1.np k hk
      simpa using this
    rw [← free_view] at this
    exact this
  case h12 =>
    rw [skel_len]
    have := nodup_le (k := (statesOf M).map (Mine.T rows)) g1.nd fun y hy => by
      obtain ⟨s, hs, rfl⟩ := (g3 y).mp hy
      exact List.mem_map_of_mem hs
    simp only [List.length_map] at this
    omega
  case hbd =>
    intro x hx
    simp only [skel, List.mem_map] at hx
    obtain ⟨y, hy, rfl⟩ := hx
    have := tot_mem y hy
    show y.2.2.length ≤ 1000
    omega
  case h8 =>
    intro k hk
    obtain ⟨s, hs, rfl⟩ := (hkeys k).mp hk
    rw [hlv s hs]
    obtain ⟨x1, x2, x3⟩ := s
    obtain ⟨h1, h2⟩ := mem_states.mp hs
    have h3 : x3 ≤ 2 := by rcases h2 with ⟨_, h2⟩ | ⟨_, h2⟩ <;> omega
    unfold levOf
    dsimp only
    split <;> split <;> (try split) <;> omega
  exact seg6 C hn F5 V5 N5 hR htp hM hSm h256 hkeys hlv web hr hend fun h6 tk6 dr m6 F6 => k _ _ _ _ F6
end Mine
theorem PySem.Challenge.cw_oc0170_01_holds : PySem.Challenge.rw_oc0170_01.Holds := by
  refine Mine.hd ?_
  k_fill
  intro w s₀ s₁ mg mb G Y fa o pm cd doc dV kV ho hd hcd hD hmg hg args vals as hpre hlay hrd hwl hlo
  have KX := kIn_of Y
  have X := (Ground.X G).1
  have V := (Ground.X G).2
  refine Ground.open G ?_
  intro T B D TE TW
  obtain ⟨_, _, M⟩ := bmod_of_top T
  have TA := at_of_top T
  obtain ⟨_, _, he, B0⟩ := based_of_top T rfl hmg ho hd
  have he' : cd = _ := he
  subst he'
  clear he hmg
  wrow_args hpre hlay hrd hwl hlo
  refine enter_call ?_
  w_top on
  refine codeAny_mono ?_ (fun _ _ g => GoodW.toG g)
  have K0 := below_caller (Top.heap T)
  w_call any ho hd hcd hD T F
  clear hd TA
  k_drop
  rename Top _ _ _ _ _ _ => T0
  rename Below _ _ _ _ => B0
  rename Fr _ _ _ _ => F0
  rename News _ _ _ _ => N0
  rename Frag.In _ _ => X0
  rename IntsAre _ _ => I0
  rename PySem.Heap.IsList _ _ _ => L0
  refine' Mine.seg1 (n := 3) ?C (by decide) F0 N0 ?o1 L0 I0 ?h63 ?kk9
  case C => exact ⟨⟨callerA, _, [], _, _, _, _, _, _, B0, T0, rfl, rfl, rfl⟩, X0, Nat.le_of_ble_eq_true rfl, Nat.le_of_ble_eq_true rfl, rfl⟩
  case o1 => assumption
  case h63 =>
    have h1 := ‹¬ _›
    omega
  case kk9 =>
    intro h1 tk1 D nn m1 F1 hm1 N1 hD hnl hsm
    refine Mine.law_joined (n := 3) ?C (by decide) rfl F1 hm1 N1 ?o1 ⟨_, by assumption⟩ L0 I0 ?h63 hD hnl hsm fun h' tk dr m' F' => ?_
    case C => exact ⟨⟨callerA, _, [], _, _, _, _, _, _, B0, T0, rfl, rfl, rfl⟩, X0, Nat.le_of_ble_eq_true rfl, Nat.le_of_ble_eq_true rfl, rfl⟩
    case o1 => assumption
    case h63 =>
      have h1 := ‹¬ _›
      omega
    first
      | (wrow_close; done)
      | (refine ⟨.inl ⟨.bool true, .bool true, [], rfl, raisesW_false (by wrow_none_raised), .bool true, postW_of (by wrow_shape) (by wtm_val) rfl, fun _ => ⟨List.nodup_nil, fun _ h => nomatch h⟩⟩, F'.keep, rfl, by assumption⟩)
end
